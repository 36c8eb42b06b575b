import Derived.Test.Qxb6605213aClone
import Derived.Deep.RegionHeld3
import Derived.Deep.DrawnRows
namespace Go.Proofs.Qxb6605213a
open Go.RowKit Go.Deep
attribute [local go_sem ↓] Go.wp_at_zero Go.wp_at_succ

def zeroML : Array Value := #[.int .u8 0, .bool false, .slice none 0 0, .slice none 0 0]

theorem Try.info48 : (Try.prog.info? 48).map (fun i => (i.zero, i.size, i.bytes)) = some (some (.agg zeroML), 4, 56) := by kernel_rfl
theorem Try.info44 : (Try.prog.info? 44).map (fun i => (i.zero, i.size, i.bytes)) = some (some (.agg zeroML), 4, 56) := by kernel_rfl

theorem run_make4 {P : Program} (t e : TypeId) (ht : P.underlying t = some (.slice e)) (hinfo : (P.info? e).map (fun i => (i.zero, i.size, i.bytes)) = some (some (.agg zeroML), 4, 56))
    (n : Nat) (hn : n ≤ 1048576) (w : World) :
    (Instr.makeSlice t (.int .i64 (n : Int)) (.int .i64 (n : Int))).run P w = .ok (.slice (some ⟨w.heap.size, 0, none⟩) n n) (w.alloc (.cells (madeCells zeroML (n * 4)) e)) := by
  obtain ⟨i, hi, hzz⟩ := Option.map_eq_some_iff.1 hinfo
  simp only [Prod.mk.injEq] at hzz
  obtain ⟨hz, hs, hb⟩ := hzz
  have hr := run_make (P := P) w t e i _ ht hi hz .i64 .i64 n n (by omega) (Int.le_refl _) (by rw [hb]; omega) (by omega)
  simp only [Int.toNat_natCast, hs] at hr
  exact hr

theorem rowIs_made4 (w : World) (n : Nat) (t : TypeId) : ∃ f, (w.alloc (.cells (madeCells zeroML n) t)).rowIs w.heap.size t n f :=
  ⟨fun i => zeroML[i % 4]!, _, blk_alloc_new _ _, size_madeCells _ _, fun i hi => by simp [madeCells, hi, zeroML]⟩

/-- The words do not lie in block N. -/
def awayN (a : Option Addr) (n N : Nat) : Prop := 0 < n → ∀ x, a = some x → x.block ≠ N

theorem Wd.away {w : World} {a : Option Addr} {n : Nat} {zs : List Nat} (h : Wd w a n zs) {N : Nat} (hN : w.heap.size ≤ N) : awayN a n N := by
  intro hn x e
  obtain ⟨b, o, e', hc⟩ := h.cell 0 hn
  rw [e'] at e
  cases e
  have := World.block_lt_of_cell? _ _ (hc 0 hn)
  simp only at this ⊢
  omega

theorem Wd.setCell {w : World} {a : Option Addr} {n : Nat} {zs : List Nat} (h : Wd w a n zs) {p : Addr} (hp : awayN a n p.block) (v : Value) : Wd (w.setCell p v) a n zs :=
  ⟨h.len, h.fit, h.max, fun i hi => by
    obtain ⟨b, o, e, hc⟩ := h.cell i hi
    refine ⟨b, o, e, fun j hj => ?_⟩
    have hb : b ≠ p.block := hp (by omega) _ e
    rw [World.cell?_of_block (w := w) (Below.heap_setCell _ _ _ _ hb)]
    exact hc j hj⟩

/-- The locks laid so far: k of them, in the block N whose cells are told by f; their words lie elsewhere. -/
def Laid (w : World) (N : Nat) (f : Nat → Value) (ms : List ML) (k : Nat) : Prop :=
  ∀ j, j < k → ∃ ra rn rc wa wn wc, f (j * 4) = .int .u8 ((ml ms j).mode : Nat) ∧ f (j * 4 + 1) = .bool (ml ms j).whole ∧ f (j * 4 + 2) = .slice ra rn rc ∧ f (j * 4 + 3) = .slice wa wn wc ∧
    Wd w ra rn (ml ms j).read ∧ Wd w wa wn (ml ms j).write ∧ awayN ra rn N ∧ awayN wa wn N ∧ (ml ms j).mode < 256

theorem four_of {w w' : World} {b o : Nat} {m : ML} {ra : Option Addr} {rn rc : Nat} {wa : Option Addr} {wn wc : Nat} (h : MlAt w b o m ra rn rc wa wn wc) (hb : Below w.heap.size w w') :
    w'.cell? ⟨b, o, none⟩ = some (.int .u8 (m.mode : Nat)) ∧ w'.cell? ⟨b, o + 1, none⟩ = some (.bool m.whole) ∧ w'.cell? ⟨b, o + 2, none⟩ = some (.slice ra rn rc) ∧ w'.cell? ⟨b, o + 3, none⟩ = some (.slice wa wn wc) ∧ Below w.heap.size w w' :=
  ⟨cell_below hb h.c0, cell_below hb h.c1, cell_below hb h.c2, cell_below hb h.c3, hb⟩

theorem below_step {w W w1 : World} (hb : Below W.heap.size W w1) (h : Below w.heap.size w W) : Below w.heap.size w w1 := h.trans (hb.mono h.size)
theorem below4 {B : Nat} {w w2 : World} {o0 o1 o2 o3 : Nat} {v0 v1 v2 v3 : Value} (h : Below B w w2) : Below B w ((((w2.setCell ⟨B, o0, none⟩ v0).setCell ⟨B, o1, none⟩ v1).setCell ⟨B, o2, none⟩ v2).setCell ⟨B, o3, none⟩ v3) :=
  (((h.setCell (p := ⟨B, o0, none⟩) (Nat.le_refl _) _).setCell (p := ⟨B, o1, none⟩) (Nat.le_refl _) _).setCell (p := ⟨B, o2, none⟩) (Nat.le_refl _) _).setCell (p := ⟨B, o3, none⟩) (Nat.le_refl _) _
theorem row_step {W w1 : World} {N t n : Nat} {f : Nat → Value} (hb : Below W.heap.size W w1) (h : W.rowIs N t n f) : w1.rowIs N t n f := h.of_block (hb.block _ h.lt)

theorem Laid.below {w w' : World} {N : Nat} {f : Nat → Value} {ms : List ML} {k : Nat} (h : Laid w N f ms k) (hb : Below w.heap.size w w') : Laid w' N f ms k := by
  intro j hj
  obtain ⟨ra, rn, rc, wa, wn, wc, f0, f1, f2, f3, h1, h2, h3⟩ := h j hj
  exact ⟨ra, rn, rc, wa, wn, wc, f0, f1, f2, f3, h1.below hb, h2.below hb, h3⟩

/-- One lock more is laid, at k. -/
theorem laid_set {w : World} {N t m : Nat} {f : Nat → Value} {ms : List ML} {k : Nat} {ra wa : Option Addr} {rn rc wn wc : Nat} (hrow : w.rowIs N t m f) (h : Laid w N f ms k) (h1 : Wd w ra rn (ml ms k).read) (h2 : Wd w wa wn (ml ms k).write)
    (g1 : awayN ra rn N) (g2 : awayN wa wn N) (hm : (ml ms k).mode < 256) :
    ∃ f', ((((w.setCell ⟨N, k * 4, none⟩ (.int .u8 ((ml ms k).mode : Nat))).setCell ⟨N, k * 4 + 1, none⟩ (.bool (ml ms k).whole)).setCell ⟨N, k * 4 + 2, none⟩ (.slice ra rn rc)).setCell ⟨N, k * 4 + 3, none⟩ (.slice wa wn wc)).rowIs N t m f' ∧
      Laid ((((w.setCell ⟨N, k * 4, none⟩ (.int .u8 ((ml ms k).mode : Nat))).setCell ⟨N, k * 4 + 1, none⟩ (.bool (ml ms k).whole)).setCell ⟨N, k * 4 + 2, none⟩ (.slice ra rn rc)).setCell ⟨N, k * 4 + 3, none⟩ (.slice wa wn wc)) N f' ms (k + 1) := by
  refine ⟨_, (((hrow.set (k * 4) _).set (k * 4 + 1) _).set (k * 4 + 2) _).set (k * 4 + 3) _, ?_⟩
  intro j hj
  by_cases e : j = k
  · subst e
    refine ⟨ra, rn, rc, wa, wn, wc, ?_, ?_, ?_, ?_, (((h1.setCell g1 _).setCell g1 _).setCell g1 _).setCell g1 _, (((h2.setCell g2 _).setCell g2 _).setCell g2 _).setCell g2 _, g1, g2, hm⟩
    · show (if _ then _ else if _ then _ else if _ then _ else if _ then _ else _) = _
      rw [if_neg (by omega), if_neg (by omega), if_neg (by omega), if_pos rfl]
    · show (if _ then _ else if _ then _ else if _ then _ else if _ then _ else _) = _
      rw [if_neg (by omega), if_neg (by omega), if_pos rfl]
    · show (if _ then _ else if _ then _ else if _ then _ else if _ then _ else _) = _
      rw [if_neg (by omega), if_pos rfl]
    · show (if _ then _ else if _ then _ else if _ then _ else if _ then _ else _) = _
      rw [if_pos rfl]
  · obtain ⟨ra', rn', rc', wa', wn', wc', f0, f1, f2, f3, k1, k2, j1, j2, hm'⟩ := h j (by omega)
    refine ⟨ra', rn', rc', wa', wn', wc', ?_, ?_, ?_, ?_, (((k1.setCell j1 _).setCell j1 _).setCell j1 _).setCell j1 _, (((k2.setCell j2 _).setCell j2 _).setCell j2 _).setCell j2 _, j1, j2, hm'⟩
    · show (if _ then _ else if _ then _ else if _ then _ else if _ then _ else _) = _
      rw [if_neg (by omega), if_neg (by omega), if_neg (by omega), if_neg (by omega), f0]
    · show (if _ then _ else if _ then _ else if _ then _ else if _ then _ else _) = _
      rw [if_neg (by omega), if_neg (by omega), if_neg (by omega), if_neg (by omega), f1]
    · show (if _ then _ else if _ then _ else if _ then _ else if _ then _ else _) = _
      rw [if_neg (by omega), if_neg (by omega), if_neg (by omega), if_neg (by omega), f2]
    · show (if _ then _ else if _ then _ else if _ then _ else if _ then _ else _) = _
      rw [if_neg (by omega), if_neg (by omega), if_neg (by omega), if_neg (by omega), f3]

/-- All are laid: the slice over the row holds them. -/
theorem Ms.of_laid {w : World} {N t n : Nat} {f : Nat → Value} {ms : List ML} (hrow : w.rowIs N t (n * 4) f) (h : Laid w N f ms n) (hl : ms.length = n) (hn : n ≤ 1048576) : Ms w (some ⟨N, 0, none⟩) n ms := by
  refine ⟨hl, by omega, fun _ _ => ⟨N, 0, rfl, fun j hj => ?_⟩⟩
  obtain ⟨ra, rn, rc, wa, wn, wc, f0, f1, f2, f3, k1, k2, _, _, hm⟩ := h j hj
  rw [Nat.zero_add]
  exact ⟨ra, rn, rc, wa, wn, wc, by rw [hrow.cell (by omega), f0], by rw [hrow.cell (by omega), f1], by rw [hrow.cell (by omega), f2], by rw [hrow.cell (by omega), f3], k1, k2, hm⟩

def small (ms : List ML) : Prop := ∀ j, j < ms.length → (ml ms j).read.length ≤ 1048576 ∧ (ml ms j).write.length ≤ 1048576

set_option maxHeartbeats 1000000 in
theorem cloneModes_any (a : Option Addr) (n c : Nat) (ms : List ML) (w : World) (h : Ms w a n ms) (hn : n ≤ 1048576) (hs : small ms) :
    Calls Try.prog 11 #[.slice a n c] w fun e w' => ∃ a' c', e = .returned (.slice a' n c') ∧ Ms w' a' n ms ∧ Below w.heap.size w w' := by
  have hmk := run_make4 (P := Try.prog) 23 48 Try.underlying23 Try.info48 n hn
  have heq := fun w => Lib.run_eql_slice_nil (P := Try.prog) w 23 48 a n c 0 0 Try.underlying23
  cases a with
  | none =>
    obtain rfl : n = 0 := by
      by_cases h0 : 0 < n
      · obtain ⟨b, o, e, _⟩ := h.cell 0 h0; cases e
      · omega
    go_enter Try.func11, Try.ntmps11
    go_wp2
    go_ret
    exact ⟨_, _, rfl, h, Below.refl _ _⟩
  | some x =>
    go_enter Try.func11, Try.ntmps11
    go_wp2
    go_loopw [12] (fun i wr => ∃ k : Nat, k ≤ n ∧ i = .int .i64 k ∧ (∃ f, wr.rowIs w.heap.size 48 (n * 4) f ∧ Laid wr w.heap.size f ms k) ∧ Below w.heap.size w wr) (fun i _ => n - (intOf i).toNat)
    case atStart =>
      obtain ⟨f, hf⟩ := rowIs_made4 w (n * 4) 48
      exact ⟨0, by omega, rfl, ⟨f, hf, fun j hj => by omega⟩, (Below.refl _ _).alloc (Nat.le_refl _) _⟩
    case round =>
      obtain ⟨k, hk, rfl, ⟨f, hrow, hlaid⟩, hb⟩ := hrel
      by_cases hlt : k < n
      · obtain ⟨b, o, e, hcell⟩ := h.cell k hlt
        obtain rfl := Option.some.inj e
        obtain ⟨ra, rn, rc, wa, wn, wc, hl⟩ := hcell k hlt
        have hsm := hs k (by have := h.len; omega)
        have hrn : rn ≤ 1048576 := by have := hl.hr.len; omega
        have hwn : wn ≤ 1048576 := by have := hl.hw.len; omega
        obtain ⟨q0, q1, q2, q3, _, _, _⟩ := hl.below hb
        have hbd : Below w.heap.size w wr.drew := hb.drew
        have hrowd : wr.drew.rowIs w.heap.size 48 (n * 4) f := hrow
        have i1 : (0 : Int) ≤ (k : Int) := by omega
        have i2 : (k : Int) < (n : Int) := by omega
        go_wp2
        go_region_held3 (fun w' => w'.cell? ⟨b, o + k * 4, none⟩ = some (.int .u8 ((ml ms k).mode : Nat)) ∧ w'.cell? ⟨b, o + k * 4 + 1, none⟩ = some (.bool (ml ms k).whole) ∧ w'.cell? ⟨b, o + k * 4 + 2, none⟩ = some (.slice ra rn rc) ∧ w'.cell? ⟨b, o + k * 4 + 3, none⟩ = some (.slice wa wn wc) ∧ Below w.heap.size w w')
          ((refine four_of hl ?_; first | assumption | (refine below4 ?_; assumption)))
          (first
            | (go_at_call_of 10 (Value.slice ra rn rc); refine (cloneWords_any ra rn rc (ml ms k).read _ (hl.hr.below (by assumption)) hrn).mono ?_; rintro e w1 ⟨a1, c1, rfl, hw1, hge1, hb1⟩; have hx1 := below_step (w := w) hb1 (by assumption); have hr1 := row_step (N := w.heap.size) (t := 48) (n := n * 4) (f := f) hb1 (by assumption); have x0 := hr1.cell (i := k * 4) (by omega); have x1 := hr1.cell (i := k * 4 + 1) (by omega); have x2 := hr1.cell (i := k * 4 + 2) (by omega); have x3 := hr1.cell (i := k * 4 + 3) (by omega); have y0 := hr1.frozen (k * 4); have y1 := hr1.frozen (k * 4 + 1); have y2 := hr1.frozen (k * 4 + 2); have y3 := hr1.frozen (k * 4 + 3))
            | (go_at_call_of 10 (Value.slice wa wn wc); refine (cloneWords_any wa wn wc (ml ms k).write _ (hl.hw.below (by assumption)) hwn).mono ?_; rintro e w2 ⟨a2, c2, rfl, hw2, hge2, hb2⟩; have hx2 := below_step (w := w) hb2 (by assumption); have hr2 := row_step (N := w.heap.size) (t := 48) (n := n * 4) (f := f) hb2 (by assumption); have x0 := hr2.cell (i := k * 4) (by omega); have x1 := hr2.cell (i := k * 4 + 1) (by omega); have x2 := hr2.cell (i := k * 4 + 2) (by omega); have x3 := hr2.cell (i := k * 4 + 3) (by omega); have y0 := hr2.frozen (k * 4); have y1 := hr2.frozen (k * 4 + 1); have y2 := hr2.frozen (k * 4 + 2); have y3 := hr2.frozen (k * 4 + 3)))
        go_wp2
        go_roundw
        case rel =>
          have hN : w.heap.size < wr.heap.size := hrow.lt
          have hx : wr.heap.size ≤ w1.heap.size := hb1.size
          obtain ⟨f', hf', hl'⟩ := laid_set (ra := a1) (rn := rn) (rc := c1) (wa := a2) (wn := wn) (wc := c2) hr2 ((hlaid.below (below_step (w := wr) hb1 (Below.refl _ _).drew)).below hb2) (hw1.below hb2) hw2 (fun _ x e => by have : wr.heap.size ≤ x.block := hge1 x e; omega) (fun _ x e => by have := hge2 x e; omega) hl.lt
          exact ⟨k + 1, by omega, by go_num, ⟨f', hf', hl'⟩, below4 hx2⟩
        case measure => simp [intOf]; omega
      · go_wp2
        go_ret
        obtain rfl : k = n := by omega
        exact ⟨_, _, rfl, Ms.of_laid hrow hlaid h.len hn, hb⟩
end Go.Proofs.Qxb6605213a
