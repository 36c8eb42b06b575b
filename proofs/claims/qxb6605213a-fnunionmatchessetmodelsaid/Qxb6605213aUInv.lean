import Derived.Test.Qxb6605213aUniM
import Derived.Test.Qxb6605213aModeB
namespace Go.Proofs.Qxb6605213a
open Go.RowKit Go.Deep

/-- The locks of the union in mode m. -/
def uAt (A B : Acc) (m : Nat) : List ML := match findM A.modes m, findM B.modes m with
  | (l, true), (k, true) => [mlUni l k]
  | (l, true), (_, false) => [l]
  | (_, false), (k, true) => [k]
  | (_, false), (_, false) => []

def uModes (A B : Acc) : Nat → List ML
  | 0 => []
  | k + 1 => uModes A B k ++ uAt A B k

theorem uAt_len (A B : Acc) (m : Nat) : (uAt A B m).length ≤ 1 := by
  unfold uAt; split <;> simp

theorem uModes_len (A B : Acc) : ∀ k, (uModes A B k).length ≤ k
  | 0 => by simp [uModes]
  | k + 1 => by have := uModes_len A B k; have := uAt_len A B k; simp [uModes]; omega

/-- 'Access.Union'. -/
def uAcc (A B : Acc) : Acc := if covB A B = true then A else if covB B A = true then B else ⟨uniW A.read B.read, uniW A.write B.write, uModes A B 14⟩

theorem Wd.grown {w w' : World} {a : Option Addr} {n : Nat} {zs : List Nat} {row : Option Nat} (h : Wd w a n zs) (hg : w.grownBy w' row) (hp : ∀ g, row = some g → awayN a n g) : Wd w' a n zs :=
  ⟨h.len, h.fit, h.max, fun i hi => by
    obtain ⟨b, o, e, hc⟩ := h.cell i hi
    refine ⟨b, o, e, fun j hj => ?_⟩
    refine hg.cell (hc j hj) fun e2 => ?_
    exact hp b e2.symm (by omega) _ e rfl⟩

theorem ownsRow_below {w w' : World} {base : Nat} {e : TypeId} {size : Nat} {v : Value} {n : Nat} {xs : List Value} (h : w.ownsRow base e size v n xs) (hb : Below w.heap.size w w') : w'.ownsRow base e size v n xs := by
  refine ⟨h.1, ?_⟩
  rcases h.2 with h2 | ⟨g, cap, cur, hv, hg, hh, r⟩
  · exact Or.inl h2
  · refine Or.inr ⟨g, cap, cur, hv, hg, ?_, r⟩
    have : g < w.heap.size := by
      rcases Nat.lt_or_ge g w.heap.size with hlt | hge
      · exact hlt
      · rw [Array.getElem?_eq_none hge] at hh; cases hh
    rw [hb.block g this]; exact hh

/-- One lock of the row that is being made. -/
def OneAt (w : World) (M Z : Nat) (v : Value) (xs : List Value) (j : Nat) (m : ML) : Prop :=
  ∃ ra rn rc wa wn wc, xs[j * 4]? = some (.int .u8 (m.mode : Nat)) ∧ xs[j * 4 + 1]? = some (.bool m.whole) ∧ xs[j * 4 + 2]? = some (.slice ra rn rc) ∧ xs[j * 4 + 3]? = some (.slice wa wn wc) ∧
    Wd w ra rn m.read ∧ Wd w wa wn m.write ∧ awayN ra rn M ∧ awayN wa wn M ∧ (∀ g, v.ownBlock = some g → awayN ra rn g ∧ awayN wa wn g) ∧ m.mode < 256 ∧ awayN ra rn Z ∧ awayN wa wn Z

/-- The state of the union that is being made: its box lies at M, its modes so far are v, which reads as us. -/
structure Uv (W3 : World) (N3 Z : Nat) (R X : List Nat) (M : Nat) (v : Value) (us : List ML) (wr : World) : Prop where
  ge : N3 ≤ M
  lt : M < wr.heap.size
  bel : Below N3 W3 wr
  froz : ∀ i, wr.frozen? ⟨M, i, none⟩ = false
  c2 : wr.cell? ⟨M, 2, none⟩ = some v
  box : ∃ ur un uc xr xn xc, wr.cell? ⟨M, 0, none⟩ = some (.slice ur un uc) ∧ wr.cell? ⟨M, 1, none⟩ = some (.slice xr xn xc) ∧ Wd wr ur un R ∧ Wd wr xr xn X ∧ awayN ur un M ∧ awayN xr xn M ∧ (∀ g, v.ownBlock = some g → awayN ur un g ∧ awayN xr xn g) ∧ awayN ur un Z ∧ awayN xr xn Z
  ul : ∃ xs, wr.ownsRow (M + 1) 44 4 v us.length xs ∧ ∀ j, j < us.length → OneAt wr M Z v xs j (ml us j)

theorem OneAt.below {w w' : World} {M Z : Nat} {v : Value} {xs : List Value} {j : Nat} {m : ML} (h : OneAt w M Z v xs j m) (hb : Below w.heap.size w w') : OneAt w' M Z v xs j m := by
  obtain ⟨ra, rn, rc, wa, wn, wc, f0, f1, f2, f3, h1, h2, h3⟩ := h
  exact ⟨ra, rn, rc, wa, wn, wc, f0, f1, f2, f3, h1.below hb, h2.below hb, h3⟩

theorem Uv.step {W3 : World} {N3 Z : Nat} {R X : List Nat} {M : Nat} {v : Value} {us : List ML} {wr w' : World} (h : Uv W3 N3 Z R X M v us wr) (hb : Below wr.heap.size wr w') : Uv W3 N3 Z R X M v us w' := by
  obtain ⟨ur, un, uc, xr, xn, xc, c0, c1, h1, h2, h3⟩ := h.box
  obtain ⟨xs, ho, hx⟩ := h.ul
  refine ⟨h.ge, Nat.lt_of_lt_of_le h.lt hb.size, h.bel.trans (hb.mono (by have := h.ge; have := h.lt; omega)), fun i => ?_, cell_below hb h.c2, ⟨ur, un, uc, xr, xn, xc, cell_below hb c0, cell_below hb c1, h1.below hb, h2.below hb, h3⟩, ⟨xs, ownsRow_below ho hb, fun j hj => (hx j hj).below hb⟩⟩
  rw [hb.frozen (p := ⟨M, i, none⟩) h.lt]; exact h.froz i

/-- One lock more, appended and stored. -/
theorem Uv.append {W3 : World} {N3 Z : Nat} {R X : List Nat} {M : Nat} {v : Value} {us : List ML} {w w1 : World} (h : Uv W3 N3 Z R X M v us w) {xs : List Value} (ho : w.ownsRow (M + 1) 44 4 v us.length xs) (hx : ∀ j, j < us.length → OneAt w M Z v xs j (ml us j))
    {m : ML} {ra wa : Option Addr} {rn rc wn wc : Nat} (k1 : Wd w ra rn m.read) (k2 : Wd w wa wn m.write) (a1 : awayN ra rn M) (a2 : awayN wa wn M) (a3 : ∀ g, v.ownBlock = some g → awayN ra rn g ∧ awayN wa wn g) (hm : m.mode < 256) (y1 : awayN ra rn Z) (y2 : awayN wa wn Z)
    {g cap : Nat} (hown : w1.ownsRow (M + 1) 44 4 (.slice (some ⟨g, 0, none⟩) (us.length + 1) cap) (us.length + 1) (xs ++ [.int .u8 (m.mode : Nat), .bool m.whole, .slice ra rn rc, .slice wa wn wc]))
    (hgrow : w.grownBy w1 v.ownBlock) (hat : v.ownBlock = some g ∨ g = w.heap.size) :
    Uv W3 N3 Z R X M (.slice (some ⟨g, 0, none⟩) (us.length + 1) cap) (us ++ [m]) (w1.setCell ⟨M, 2, none⟩ (.slice (some ⟨g, 0, none⟩) (us.length + 1) cap)) := by
  obtain ⟨ur, un, uc, xr, xn, xc, c0, c1, h1, h2, h3, h4, h5, h6⟩ := h.box
  have hgM : ∀ k, v.ownBlock = some k → M + 1 ≤ k := fun k hk => (ho.lt k hk).1
  have hMr : some M ≠ v.ownBlock := fun e => by have := hgM M e.symm; omega
  have hg1 : M + 1 ≤ g := by
    rcases hat with e | e
    · exact hgM g e
    · have := h.lt; omega
  have cM : ∀ i u, w.cell? ⟨M, i, none⟩ = some u → w1.cell? ⟨M, i, none⟩ = some u := fun i u hu => hgrow.cell hu hMr
  have fM : ∀ i, w1.frozen? ⟨M, i, none⟩ = false := fun i => by rw [World.frozen?_of_block (hgrow.block M h.lt hMr)]; exact h.froz i
  have new : ∀ {a : Option Addr} {n : Nat} {zs : List Nat}, Wd w a n zs → (∀ g, v.ownBlock = some g → awayN a n g) → awayN a n g := fun hw hq => by
    rcases hat with e | e
    · exact hq g e
    · rw [e]; exact hw.away (Nat.le_refl _)
  have wds : ∀ {a : Option Addr} {n : Nat} {zs : List Nat}, Wd w a n zs → awayN a n M → (∀ g, v.ownBlock = some g → awayN a n g) → Wd (w1.setCell ⟨M, 2, none⟩ (.slice (some ⟨g, 0, none⟩) (us.length + 1) cap)) a n zs := fun hw hq hp => (hw.grown hgrow hp).setCell (p := ⟨M, 2, none⟩) hq _
  have b1 : Below N3 W3 w1 := h.bel.trans ⟨hgrow.os, hgrow.tape, hgrow.output, hgrow.size, fun k hk => hgrow.block k (by have := h.ge; have := h.lt; omega) (fun e => by have := hgM k e.symm; have := h.ge; omega)⟩
  refine ⟨h.ge, by have := hgrow.size; have := h.lt; simp [World.setCell]; omega, b1.setCell (p := ⟨M, 2, none⟩) h.ge _, fun i => ?_, ?_, ⟨ur, un, uc, xr, xn, xc, ?_, ?_, wds h1 h3 (fun g e => (h5 g e).1), wds h2 h4 (fun g e => (h5 g e).2), h3, h4, ?_, h6⟩, ?_⟩
  · rw [World.frozen?_setCell]; exact fM i
  · have := cM 2 _ h.c2
    go_simp
  · have := cM 0 _ c0
    go_simp
  · have := cM 1 _ c1
    go_simp
  · intro g' e
    have : g' = g := by simpa [Value.ownBlock] using e.symm
    subst this
    exact ⟨new h1 (fun g e => (h5 g e).1), new h2 (fun g e => (h5 g e).2)⟩
  · have hlen : xs.length = us.length * 4 := ho.1
    refine ⟨xs ++ [.int .u8 (m.mode : Nat), .bool m.whole, .slice ra rn rc, .slice wa wn wc], ?_, fun j hj => ?_⟩
    · have e : (us ++ [m]).length = us.length + 1 := by simp
      rw [e]
      exact ownsRow_setCell_below hown (a := ⟨M, 2, none⟩) (by simp) _
    · have own : ∀ g', (Value.slice (some ⟨g, 0, none⟩) (us.length + 1) cap).ownBlock = some g' → g' = g := fun g' e => by simpa [Value.ownBlock] using e.symm
      by_cases hju : j < us.length
      · have em : ml (us ++ [m]) j = ml us j := by
          rw [ml_lt hj, ml_lt hju, List.getElem_append_left hju]
        rw [em]
        obtain ⟨ra', rn', rc', wa', wn', wc', f0, f1, f2, f3, q1, q2, q3, q4, q5, q6, q7⟩ := hx j hju
        refine ⟨ra', rn', rc', wa', wn', wc', ?_, ?_, ?_, ?_, wds q1 q3 (fun g e => (q5 g e).1), wds q2 q4 (fun g e => (q5 g e).2), q3, q4, fun g' e => ?_, q6, q7⟩
        · rw [List.getElem?_append_left (by omega)]; exact f0
        · rw [List.getElem?_append_left (by omega)]; exact f1
        · rw [List.getElem?_append_left (by omega)]; exact f2
        · rw [List.getElem?_append_left (by omega)]; exact f3
        · rw [own g' e]; exact ⟨new q1 (fun g e => (q5 g e).1), new q2 (fun g e => (q5 g e).2)⟩
      · obtain rfl : j = us.length := by simp at hj; omega
        have em : ml (us ++ [m]) us.length = m := by
          rw [ml_lt hj]; simp
        rw [em]
        refine ⟨ra, rn, rc, wa, wn, wc, ?_, ?_, ?_, ?_, wds k1 a1 (fun g e => (a3 g e).1), wds k2 a2 (fun g e => (a3 g e).2), a1, a2, fun g' e => ?_, hm, y1, y2⟩
        · rw [List.getElem?_append_right (by omega), hlen]; simp
        · rw [List.getElem?_append_right (by omega), hlen, show us.length * 4 + 1 - us.length * 4 = 1 from by omega]; rfl
        · rw [List.getElem?_append_right (by omega), hlen, show us.length * 4 + 2 - us.length * 4 = 2 from by omega]; rfl
        · rw [List.getElem?_append_right (by omega), hlen, show us.length * 4 + 3 - us.length * 4 = 3 from by omega]; rfl
        · rw [own g' e]; exact ⟨new k1 (fun g e => (a3 g e).1), new k2 (fun g e => (a3 g e).2)⟩

theorem MlAt.setCell {w : World} {b o : Nat} {m : ML} {ra : Option Addr} {rn rc : Nat} {wa : Option Addr} {wn wc : Nat} (h : MlAt w b o m ra rn rc wa wn wc) {p : Addr} (hp : b ≠ p.block) (h1 : awayN ra rn p.block) (h2 : awayN wa wn p.block) (v : Value) : MlAt (w.setCell p v) b o m ra rn rc wa wn wc := by
  have c : ∀ i u, w.cell? ⟨b, i, none⟩ = some u → (w.setCell p v).cell? ⟨b, i, none⟩ = some u := fun i u hu => by
    rw [World.cell?_of_block (w := w) (Below.heap_setCell _ _ _ _ hp)]; exact hu
  exact ⟨c _ _ h.c0, c _ _ h.c1, c _ _ h.c2, c _ _ h.c3, h.hr.setCell h1 _, h.hw.setCell h2 _, h.lt⟩

/-- What is stored at Z turns nothing of a finished union. -/
theorem Uv.done {W3 : World} {N3 Z : Nat} {R X : List Nat} {M : Nat} {v : Value} {us : List ML} {wr : World} (h : Uv W3 N3 Z R X M v us wr) (hl : us.length ≤ 1048576) (hZ : Z < M) :
    ∃ ur un uc xr xn xc a c, wr.cell? ⟨M, 0, none⟩ = some (.slice ur un uc) ∧ wr.cell? ⟨M, 1, none⟩ = some (.slice xr xn xc) ∧ v = .slice a us.length c ∧
      ∀ v0 v1 v2, AccIs (((wr.setCell ⟨Z, 0, none⟩ v0).setCell ⟨Z, 1, none⟩ v1).setCell ⟨Z, 2, none⟩ v2) (.agg #[.slice ur un uc, .slice xr xn xc, .slice a us.length c]) ⟨R, X, us⟩ := by
  obtain ⟨ur, un, uc, xr, xn, xc, c0, c1, h1, h2, _, _, _, h6, h7⟩ := h.box
  obtain ⟨xs, ho, hx⟩ := h.ul
  rcases ho.2 with ⟨hv, h0⟩ | ⟨g, cap, cur, hv, hg, hh, hn, _, hs, ht⟩
  · refine ⟨ur, un, uc, xr, xn, xc, none, 0, c0, c1, by rw [hv, h0], fun v0 v1 v2 => ⟨ur, un, uc, xr, xn, xc, none, us.length, 0, rfl, ((h1.setCell h6 _).setCell h6 _).setCell h6 _, ((h2.setCell h7 _).setCell h7 _).setCell h7 _, rfl, by omega, fun i hi => by omega⟩⟩
  · refine ⟨ur, un, uc, xr, xn, xc, some ⟨g, 0, none⟩, cap, c0, c1, hv, fun v0 v1 v2 => ⟨ur, un, uc, xr, xn, xc, _, us.length, cap, rfl, ((h1.setCell h6 _).setCell h6 _).setCell h6 _, ((h2.setCell h7 _).setCell h7 _).setCell h7 _, rfl, by omega, fun i hi => ⟨g, 0, rfl, fun j hj => ?_⟩⟩⟩
    obtain ⟨ra, rn, rc, wa, wn, wc, f0, f1, f2, f3, q1, q2, _, _, _, q6, q7, q8⟩ := hx j hj
    have hc : ∀ i u, xs[i]? = some u → wr.cell? ⟨g, 0 + i, none⟩ = some u := fun i u hu => by
      have := ho.cells (g := g) (by rw [hv]; rfl) i u hu
      rw [Go.WideShapes.add_plain] at this
      exact this
    have hgZ : g ≠ Z := by omega
    have hm : MlAt wr g (0 + j * 4) (ml us j) ra rn rc wa wn wc := by
      refine ⟨hc _ _ f0, ?_, ?_, ?_, q1, q2, q6⟩
      · have := hc _ _ f1; rw [← Nat.add_assoc] at this; exact this
      · have := hc _ _ f2; rw [← Nat.add_assoc] at this; exact this
      · have := hc _ _ f3; rw [← Nat.add_assoc] at this; exact this
    exact ⟨ra, rn, rc, wa, wn, wc, ((hm.setCell (p := ⟨Z, 0, none⟩) hgZ q7 q8 _).setCell (p := ⟨Z, 1, none⟩) hgZ q7 q8 _).setCell (p := ⟨Z, 2, none⟩) hgZ q7 q8 _⟩
end Go.Proofs.Qxb6605213a
