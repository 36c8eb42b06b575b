import Derived.Test.Qxb6605213aUInv
import Derived.Test.Qxb6605213aLaws
import Derived.Deep.DeepCutAuto
import Derived.Deep.RegionLaw
namespace Go.Proofs.Qxb6605213a
open Go.RowKit Go.Deep
attribute [local go_sem ↓] Go.wp_at_zero Go.wp_at_succ

def W3 (w : World) (a0 a1 a2 b0 b1 b2 : Value) : World := ((w.alloc (.cells #[a0, a1, a2] 32)).alloc (.cells #[b0, b1, b2] 32)).alloc (.cells #[.slice none 0 0, .slice none 0 0, .slice none 0 0] 32)

structure Tb (w w' : World) (a0 a1 a2 b0 b1 b2 : Value) : Prop where
  x0 : w'.cell? ⟨w.heap.size, 0, none⟩ = some a0
  x1 : w'.cell? ⟨w.heap.size, 1, none⟩ = some a1
  x2 : w'.cell? ⟨w.heap.size, 2, none⟩ = some a2
  y0 : w'.cell? ⟨w.heap.size + 1, 0, none⟩ = some b0
  y1 : w'.cell? ⟨w.heap.size + 1, 1, none⟩ = some b1
  y2 : w'.cell? ⟨w.heap.size + 1, 2, none⟩ = some b2
  z0 : w'.cell? ⟨w.heap.size + 1 + 1, 0, none⟩ = some (.slice none 0 0)
  z1 : w'.cell? ⟨w.heap.size + 1 + 1, 1, none⟩ = some (.slice none 0 0)
  z2 : w'.cell? ⟨w.heap.size + 1 + 1, 2, none⟩ = some (.slice none 0 0)
  f0 : w'.frozen? ⟨w.heap.size + 1 + 1, 0, none⟩ = false
  f1 : w'.frozen? ⟨w.heap.size + 1 + 1, 1, none⟩ = false
  f2 : w'.frozen? ⟨w.heap.size + 1 + 1, 2, none⟩ = false

theorem tb {w w' : World} {a0 a1 a2 b0 b1 b2 : Value} (hb : Below (w.heap.size + 3) (W3 w a0 a1 a2 b0 b1 b2) w') : Tb w w' a0 a1 a2 b0 b1 b2 := by
  have c : ∀ b o, b < w.heap.size + 3 → w'.cell? ⟨b, o, none⟩ = (W3 w a0 a1 a2 b0 b1 b2).cell? ⟨b, o, none⟩ := fun b o h => hb.cell (p := ⟨b, o, none⟩) h
  have f : ∀ b o, b < w.heap.size + 3 → w'.frozen? ⟨b, o, none⟩ = (W3 w a0 a1 a2 b0 b1 b2).frozen? ⟨b, o, none⟩ := fun b o h => hb.frozen (p := ⟨b, o, none⟩) h
  refine ⟨?_, ?_, ?_, ?_, ?_, ?_, ?_, ?_, ?_, ?_, ?_, ?_⟩
  all_goals first | rw [c _ _ (by omega)] | rw [f _ _ (by omega)]
  all_goals (unfold W3; go_simp)

theorem sz_of {w w' : World} {a0 a1 a2 b0 b1 b2 : Value} (hb : Below (w.heap.size + 3) (W3 w a0 a1 a2 b0 b1 b2) w') : w.heap.size + 3 ≤ w'.heap.size := by
  have := hb.size; simp [W3] at this; omega

theorem alloc_of {w w' : World} {a0 a1 a2 b0 b1 b2 : Value} (o : Obj) (hb : Below (w.heap.size + 3) (W3 w a0 a1 a2 b0 b1 b2) w') : Below (w.heap.size + 3) (W3 w a0 a1 a2 b0 b1 b2) (w'.alloc o) := hb.alloc (sz_of hb) o

theorem low_of {w w' : World} {a0 a1 a2 b0 b1 b2 : Value} (hb : Below (w.heap.size + 3) (W3 w a0 a1 a2 b0 b1 b2) w') : Below w.heap.size w w' :=
  Below.trans ((((Below.refl _ _).alloc (Nat.le_refl _) _).alloc (by simp) _).alloc (by simp; omega) _) (hb.mono (by omega))

theorem step_of {w w' w1 : World} {a0 a1 a2 b0 b1 b2 : Value} (h1 : Below w'.heap.size w' w1) (hb : Below (w.heap.size + 3) (W3 w a0 a1 a2 b0 b1 b2) w') : Below (w.heap.size + 3) (W3 w a0 a1 a2 b0 b1 b2) w1 := hb.trans (h1.mono (sz_of hb))

theorem tb4 {w w' : World} {a0 a1 a2 b0 b1 b2 : Value} (hb : Below (w.heap.size + 3) (W3 w a0 a1 a2 b0 b1 b2) w') :
    w'.cell? ⟨w.heap.size, 0, none⟩ = some a0 ∧ w'.cell? ⟨w.heap.size, 1, none⟩ = some a1 ∧ w'.cell? ⟨w.heap.size + 1, 0, none⟩ = some b0 ∧ w'.cell? ⟨w.heap.size + 1, 1, none⟩ = some b1 ∧ Below (w.heap.size + 3) (W3 w a0 a1 a2 b0 b1 b2) w' :=
  ⟨(tb hb).x0, (tb hb).x1, (tb hb).y0, (tb hb).y1, hb⟩

/-- A box at M that still holds the zero Access. -/
structure ZB (u : World) (M : Nat) : Prop where
  c0 : u.cell? ⟨M, 0, none⟩ = some (.slice none 0 0)
  c1 : u.cell? ⟨M, 1, none⟩ = some (.slice none 0 0)
  c2 : u.cell? ⟨M, 2, none⟩ = some (.slice none 0 0)
  f : ∀ i, u.frozen? ⟨M, i, none⟩ = false
  lt : M < u.heap.size

theorem ZB.below {W u : World} {M : Nat} (h : ZB W M) (hb : Below W.heap.size W u) : ZB u M :=
  ⟨cell_below hb h.c0, cell_below hb h.c1, cell_below hb h.c2, fun i => by rw [hb.frozen (p := ⟨M, i, none⟩) h.lt]; exact h.f i, Nat.lt_of_lt_of_le h.lt hb.size⟩

theorem zb_new (W : World) : ZB (W.alloc (.cells #[.slice none 0 0, .slice none 0 0, .slice none 0 0] 32)) W.heap.size := ⟨by go_simp, by go_simp, by go_simp, fun i => by go_simp, by simp⟩
theorem zb_newd (W : World) : ZB (W.alloc (.cells #[.slice none 0 0, .slice none 0 0, .slice none 0 0] 32)).drew W.heap.size := ⟨(zb_new W).c0, (zb_new W).c1, (zb_new W).c2, (zb_new W).f, (zb_new W).lt⟩

theorem uv_set {W u2 : World} {N3 Z : Nat} {R X : List Nat} {M : Nat} {p1 p2 : Option Addr} {l1 l2 r1 r2 : Nat} (hY : Below N3 W u2) (hge : N3 ≤ M) (zb : ZB u2 M) (hw1 : Wd u2 p1 l1 R) (hw2 : Wd u2 p2 l2 X) (aw1 : awayN p1 l1 M) (aw2 : awayN p2 l2 M) (y1 : awayN p1 l1 Z) (y2 : awayN p2 l2 Z) :
    Uv W N3 Z R X M (.slice none 0 0) [] (((u2.setCell ⟨M, 0, none⟩ (.slice p1 l1 r1)).setCell ⟨M, 1, none⟩ (.slice p2 l2 r2)).setCell ⟨M, 2, none⟩ (.slice none 0 0)) := by
  have c0 := zb.c0
  have c1 := zb.c1
  have c2 := zb.c2
  refine ⟨hge, by have := zb.lt; simpa [World.setCell] using this, below3 hge hY, fun i => ?_, ?_, ⟨p1, l1, r1, p2, l2, r2, ?_, ?_, ((hw1.setCell aw1 _).setCell aw1 _).setCell aw1 _, ((hw2.setCell aw2 _).setCell aw2 _).setCell aw2 _, aw1, aw2, fun g e => (by cases e), y1, y2⟩, ⟨[], World.ownsRow_nil _ _ _ _, fun j hj => by simp at hj⟩⟩
  · rw [World.frozen?_setCell, World.frozen?_setCell, World.frozen?_setCell]; exact zb.f i
  · go_simp
  · go_simp
  · go_simp

theorem uv_alloc {W u2 : World} {N3 Z : Nat} {R X : List Nat} {p1 p2 : Option Addr} {l1 l2 r1 r2 : Nat} (hY : Below N3 W u2) (hge : N3 ≤ u2.heap.size) (hw1 : Wd u2 p1 l1 R) (hw2 : Wd u2 p2 l2 X) (y1 : awayN p1 l1 Z) (y2 : awayN p2 l2 Z) :
    Uv W N3 Z R X u2.heap.size (.slice none 0 0) [] (u2.alloc (.cells #[.slice p1 l1 r1, .slice p2 l2 r2, .slice none 0 0] 32)) := by
  have hb : Below u2.heap.size u2 (u2.alloc (.cells #[.slice p1 l1 r1, .slice p2 l2 r2, .slice none 0 0] 32)) := (Below.refl _ _).alloc (Nat.le_refl _) _
  refine ⟨hge, by simp, hY.alloc hge _, fun i => ?_, ?_, ⟨p1, l1, r1, p2, l2, r2, ?_, ?_, hw1.below hb, hw2.below hb, hw1.away (Nat.le_refl _), hw2.away (Nat.le_refl _), fun g e => (by cases e), y1, y2⟩, ⟨[], World.ownsRow_nil _ _ _ _, fun j hj => by simp at hj⟩⟩
  · go_simp
  · go_simp
  · go_simp
  · go_simp

structure Box4 (w : World) (b : Nat) (v0 v1 v2 v3 : Value) : Prop where
  c0 : w.cell? ⟨b, 0, none⟩ = some v0
  c1 : w.cell? ⟨b, 1, none⟩ = some v1
  c2 : w.cell? ⟨b, 2, none⟩ = some v2
  c3 : w.cell? ⟨b, 3, none⟩ = some v3

theorem Box4.below {w w' : World} {b : Nat} {v0 v1 v2 v3 : Value} (h : Box4 w b v0 v1 v2 v3) (hb : Below w.heap.size w w') : Box4 w' b v0 v1 v2 v3 :=
  ⟨cell_below hb h.c0, cell_below hb h.c1, cell_below hb h.c2, cell_below hb h.c3⟩

theorem box4_new (w : World) (v0 v1 v2 v3 : Value) : Box4 (w.alloc (.cells #[v0, v1, v2, v3] 44)) w.heap.size v0 v1 v2 v3 := ⟨by go_simp, by go_simp, by go_simp, by go_simp⟩

theorem uModes_ff {A B : Acc} {k : Nat} {l m : ML} (ha : findM A.modes k = (l, false)) (hb : findM B.modes k = (m, false)) : uModes A B (k + 1) = uModes A B k := by simp [uModes, uAt, ha, hb]
theorem uModes_tf {A B : Acc} {k : Nat} {l m : ML} (ha : findM A.modes k = (l, true)) (hb : findM B.modes k = (m, false)) : uModes A B (k + 1) = uModes A B k ++ [l] := by simp [uModes, uAt, ha, hb]
theorem uModes_ft {A B : Acc} {k : Nat} {l m : ML} (ha : findM A.modes k = (l, false)) (hb : findM B.modes k = (m, true)) : uModes A B (k + 1) = uModes A B k ++ [m] := by simp [uModes, uAt, ha, hb]
theorem uModes_tt {A B : Acc} {k : Nat} {l m : ML} (ha : findM A.modes k = (l, true)) (hb : findM B.modes k = (m, true)) : uModes A B (k + 1) = uModes A B k ++ [mlUni l m] := by simp [uModes, uAt, ha, hb]

theorem Try.infoAt44 : ∃ i, Try.prog.info? 44 = some i ∧ i.zero = some (.agg zeroML) ∧ i.size = 4 ∧ i.bytes = 56 := by
  obtain ⟨i, hi, hzz⟩ := Option.map_eq_some_iff.1 Try.info44
  simp only [Prod.mk.injEq] at hzz
  exact ⟨i, hi, hzz⟩

theorem news4 (W : World) (N : Nat) (hN : W.heap.size = N) (c0 c1 c2 c3 : Value) : ∀ j u, [c0, c1, c2, c3][j]? = some u → (W.alloc (.cells #[c0, c1, c2, c3] 44)).cell? ((⟨N, 0, none⟩ : Addr).add j) = some u := by
  subst hN
  exact World.news_of_block (cs := #[c0, c1, c2, c3]) (t := 44) (fr := (0, 0)) (heap_alloc_new W _)

theorem one4 (a : Int) (p : Bool) (ra wa : Option Addr) (rn rc wn wc : Nat) : ∀ u ∈ [Value.int .u8 a, .bool p, .slice ra rn rc, .slice wa wn wc], u.oneCell' = true := by
  intro u hu
  simp at hu
  rcases hu with rfl | rfl | rfl | rfl <;> rfl

theorem small_mem {ms : List ML} (h : small ms) {l : ML} (hl : l ∈ ms) : l.read.length ≤ 1048576 ∧ l.write.length ≤ 1048576 := by
  obtain ⟨j, hj, rfl⟩ := List.getElem_of_mem hl
  have := h j hj
  rw [ml_lt hj] at this
  exact this

theorem Uv.after {W3 : World} {N3 Z : Nat} {R X : List Nat} {M : Nat} {v : Value} {us : List ML} {w w1 : World} (h : Uv W3 N3 Z R X M v us w) (hgrow : w.grownBy w1 v.ownBlock) : w1.cell? ⟨M, 2, none⟩ = some v ∧ w1.frozen? ⟨M, 2, none⟩ = false := by
  obtain ⟨xs, ho, _⟩ := h.ul
  have hMr : some M ≠ v.ownBlock := fun e => by have := (ho.lt M e.symm).1; omega
  exact ⟨hgrow.cell h.c2 hMr, by rw [World.frozen?_of_block (hgrow.block M h.lt hMr)]; exact h.froz 2⟩

theorem mlUni_mode (l m : ML) : (mlUni l m).mode = l.mode := by unfold mlUni; split <;> rfl

/-- What Union leaves. -/
def UPost (A : Acc) (w w' : World) (e : Ending) : Prop := ∃ v, e = .returned v ∧ AccIs w' v A ∧ Below w.heap.size w w'

structure SmallA (A : Acc) : Prop where
  r : A.read.length ≤ 1048576
  x : A.write.length ≤ 1048576
  m : A.modes.length ≤ 1048576
  l : small A.modes

set_option maxRecDepth 100000 in
set_option maxHeartbeats 2000000 in
theorem Union_any (A B : Acc) (va vb : Value) (w : World) (ha : AccIs w va A) (hb : AccIs w vb B) (sa : SmallA A) (sb : SmallA B) :
    Calls Try.prog 17 #[va, vb] w fun e w' => UPost (uAcc A B) w w' e := by
  obtain ⟨a1, n1, c1, a2, n2, c2, a3, n3, c3, rfl, h1, h2, h3⟩ := id ha.is
  obtain ⟨b1, m1, d1, b2, m2, d2, b3, m3, d3, rfl, g1, g2, g3⟩ := id hb.is
  have e0 : Below w.heap.size w (W3 w (.slice a1 n1 c1) (.slice a2 n2 c2) (.slice a3 n3 c3) (.slice b1 m1 d1) (.slice b2 m2 d2) (.slice b3 m3 d3)) := (((Below.refl _ _).alloc (Nat.le_refl _) _).alloc (by simp) _).alloc (by simp; omega) _
  have eN : (W3 w (.slice a1 n1 c1) (.slice a2 n2 c2) (.slice a3 n3 c3) (.slice b1 m1 d1) (.slice b2 m2 d2) (.slice b3 m3 d3)).heap.size = w.heap.size + 3 := by simp [W3]
  have EN := hide eN
  clear eN
  cases hc1 : covB A B
  · cases hc2 : covB B A
    · have eu : uAcc A B = ⟨uniW A.read B.read, uniW A.write B.write, uModes A B 14⟩ := by simp [uAcc, hc1, hc2]
      rw [eu]
      clear eu
      go_enter Try.func17, Try.ntmps17
      go_wp2_with fail
      refine (Covers_any A B _ _ _ (by exact ha.below e0) (by exact hb.below e0)).mono ?_
      rintro e w4 ⟨rfl, hb4⟩
      have q4 : Below (w.heap.size + 3) _ w4 := hb4.mono (Nat.le_of_eq EN.out.symm)
      obtain ⟨x0, x1, x2, y0, y1, y2, z0, z1, z2, f0, f1, f2⟩ := tb q4
      have B4 := below_step hb4 e0
      clear hb4
      go_wp2_with fail
      refine (Covers_any B A _ _ _ (by exact hb.below B4) (by exact ha.below B4)).mono ?_
      rintro e w5 ⟨rfl, hb5⟩
      have q5 := below_step3 hb5 q4 (Nat.le_of_eq EN.out.symm)
      clear x0 x1 x2 y0 y1 y2 z0 z1 z2 f0 f1 f2
      obtain ⟨x0, x1, x2, y0, y1, y2, z0, z1, z2, f0, f1, f2⟩ := tb q5
      have B5 := below_step hb5 B4
      clear hb5 q4 B4
      go_wp2_with fail
      have s1 : n1 ≤ 1048576 := by have := h1.len; have := sa.r; omega
      have s2 : n2 ≤ 1048576 := by have := h2.len; have := sa.x; omega
      have s3 : m1 ≤ 1048576 := by have := g1.len; have := sb.r; omega
      have s4 : m2 ≤ 1048576 := by have := g2.len; have := sb.x; omega
      go_cut [5] (fun s5 wc => ∃ M, s5 = .pointer (some ⟨M, 0, none⟩) ∧ Uv (W3 w (.slice a1 n1 c1) (.slice a2 n2 c2) (.slice a3 n3 c3) (.slice b1 m1 d1) (.slice b2 m2 d2) (.slice b3 m3 d3)) (w.heap.size + 3) (w.heap.size + 1 + 1) (uniW A.read B.read) (uniW A.write B.write) M (.slice none 0 0) [] wc)
      case first =>
        have q5d := q5.drew
        go_region_held3 (fun w' => w'.cell? ⟨w.heap.size, 0, none⟩ = some (.slice a1 n1 c1) ∧ w'.cell? ⟨w.heap.size, 1, none⟩ = some (.slice a2 n2 c2) ∧ w'.cell? ⟨w.heap.size + 1, 0, none⟩ = some (.slice b1 m1 d1) ∧ w'.cell? ⟨w.heap.size + 1, 1, none⟩ = some (.slice b2 m2 d2) ∧ Below (w.heap.size + 3) (W3 w (.slice a1 n1 c1) (.slice a2 n2 c2) (.slice a3 n3 c3) (.slice b1 m1 d1) (.slice b2 m2 d2) (.slice b3 m3 d3)) w')
          ((refine tb4 ?_; first | assumption | exact alloc_of _ (by assumption) | exact (alloc_of _ q5).drew | (refine below3 (by first | exact sz_of q5 | exact sz_of (by assumption)) ?_; first | assumption | exact alloc_of _ (by assumption))))
          (first
            | (go_at_call_of 32 (Value.slice a1 n1 c1); refine (union_any a1 b1 n1 m1 c1 d1 A.read B.read _ (h1.below (low_of (by first | assumption | exact alloc_of _ (by assumption) | exact (alloc_of _ q5).drew))) (g1.below (low_of (by first | assumption | exact alloc_of _ (by assumption) | exact (alloc_of _ q5).drew))) s1 s3).mono ?_; rintro e u1 ⟨p1, r1, rfl, hw1, hge1, hb1⟩; (try (have zb1 := (zb_newd w5).below hb1; obtain ⟨k0, k1, k2, k3, k4⟩ := id zb1)); have hY1 := step_of (w := w) hb1 (by first | assumption | exact alloc_of _ (by assumption) | exact (alloc_of _ q5).drew))
            | (go_at_call_of 32 (Value.slice a2 n2 c2); refine (union_any a2 b2 n2 m2 c2 d2 A.write B.write _ (h2.below (low_of (by first | assumption | exact alloc_of _ (by assumption) | exact (alloc_of _ q5).drew))) (g2.below (low_of (by first | assumption | exact alloc_of _ (by assumption) | exact (alloc_of _ q5).drew))) s2 s4).mono ?_; rintro e u2 ⟨p2, r2, rfl, hw2, hge2, hb2⟩; (first | (have zb2 := (zb_new u1).below hb2; obtain ⟨k0, k1, k2, k3, k4⟩ := id zb2) | (have zb2 := zb1.below hb2; obtain ⟨k0, k1, k2, k3, k4⟩ := id zb2) | skip); have hY2 := step_of (w := w) hb2 (by first | assumption | exact alloc_of _ (by assumption) | exact (alloc_of _ q5).drew)))
        · go_wp2_with fail
          go_meet
          case rel => exact ⟨_, rfl, uv_alloc hY2 (sz_of hY2) (hw1.below hb2) hw2 (fun _ x e => by have := hge1 x e; have := sz_of q5; simp at *; omega) (fun _ x e => by have := hge2 x e; have := sz_of hY1; omega)⟩
        · go_wp2_with fail
          go_meet
          case rel => exact ⟨_, rfl, uv_set hY2 (sz_of hY1) zb2 (hw1.below (below_step (w := u1) hb2 ((Below.refl _ _).alloc (Nat.le_refl _) _))) hw2 (hw1.away (Nat.le_refl _)) (fun _ x e => by have := hge2 x e; simp at this; omega) (fun _ x e => by have := hge1 x e; have := sz_of q5; simp at *; omega) (fun _ x e => by have := hge2 x e; have := sz_of hY1; simp at *; omega)⟩
        · go_wp2_with fail
          go_meet
          case rel => exact ⟨_, rfl, uv_set hY2 (sz_of q5) zb2 (hw1.below hb2) hw2 (fun _ x e => by have := hge1 x e; simp at this; omega) (fun _ x e => by have := hge2 x e; have := hb1.size; simp at this; omega) (fun _ x e => by have := hge1 x e; have := sz_of q5; simp at *; omega) (fun _ x e => by have := hge2 x e; have := sz_of hY1; omega)⟩
      case rest =>
        obtain ⟨M, rfl, uv0⟩ := hcut
        clear x0 x1 x2 y0 y1 y2 z0 z1 z2 f0 f1 f2
        go_wp2_with fail
        go_loopw [32] (fun i wr => ∃ (k : Nat) (v : Value), k ≤ 14 ∧ i = .int .u8 k ∧ Uv (W3 w (.slice a1 n1 c1) (.slice a2 n2 c2) (.slice a3 n3 c3) (.slice b1 m1 d1) (.slice b2 m2 d2) (.slice b3 m3 d3)) (w.heap.size + 3) (w.heap.size + 1 + 1) (uniW A.read B.read) (uniW A.write B.write) M v (uModes A B k) wr) (fun i _ => 14 - (intOf i).toNat)
        case atStart => exact ⟨0, _, by omega, rfl, uv0⟩
        case round =>
          obtain ⟨k, v, hk, rfl, uv⟩ := hrel
          clear uv0
          by_cases hlt : k < 14
          · have hlt' : (k : Int) < 14 := by omega
            obtain ⟨x0, x1, x2, _, _, _, _, _, _, _, _, _⟩ := tb uv.bel
            obtain ⟨l, okA, hfA⟩ : ∃ l ok, findM A.modes k = (l, ok) := ⟨_, _, rfl⟩
            obtain ⟨m, okB, hfB⟩ : ∃ l ok, findM B.modes k = (l, ok) := ⟨_, _, rfl⟩
            have HA := hide hfA
            have HB := hide hfB
            clear hfA hfB
            go_wp2_with fail
            refine (inMode0 _ _ _ _ _ A.modes k w _ h3 (by exact low_of uv.bel) l okA HA.out).mono ?_
            rintro e w6 ⟨ra, rn, rc, wa, wn, wc, rfl, k1, k2, hb6⟩
            have U6 := uv.step hb6
            have y0 : ∀ ob, (w6.alloc ob).cell? ⟨w.heap.size + 1, 0, none⟩ = some (.slice b1 m1 d1) := fun ob => (tb (alloc_of ob U6.bel)).y0
            have y1 : ∀ ob, (w6.alloc ob).cell? ⟨w.heap.size + 1, 1, none⟩ = some (.slice b2 m2 d2) := fun ob => (tb (alloc_of ob U6.bel)).y1
            have y2 : ∀ ob, (w6.alloc ob).cell? ⟨w.heap.size + 1, 2, none⟩ = some (.slice b3 m3 d3) := fun ob => (tb (alloc_of ob U6.bel)).y2
            clear x0 x1 x2 hb6
            go_wp2_with fail
            refine (inMode0 _ _ _ _ _ B.modes k w _ g3 (by exact low_of (alloc_of _ U6.bel)) m okB HB.out).mono ?_
            rintro e w7 ⟨sa', sn, sc, ta, tn, tc, rfl, j1, j2, hb7⟩
            have L7 := box4_new w6 (.int .u8 (l.mode : Nat)) (.bool l.whole) (.slice ra rn rc) (.slice wa wn wc)
            have U7 := (U6.step ((Below.refl w6.heap.size w6).alloc (Nat.le_refl _) (.cells #[.int .u8 (l.mode : Nat), .bool l.whole, .slice ra rn rc, .slice wa wn wc] 44))).step hb7
            replace L7 := L7.below hb7
            have U8 := fun ob => U7.step ((Below.refl w7.heap.size w7).alloc (Nat.le_refl _) ob)
            have L8 := fun ob => L7.below ((Below.refl w7.heap.size w7).alloc (Nat.le_refl _) ob)
            clear y0 y1 y2 hb7
            have z2 : ∀ ob, (w7.alloc ob).cell? ⟨M, 2, none⟩ = some v := fun ob => (U8 ob).c2
            have l0 := fun ob => (L8 ob).c0
            have l1 := fun ob => (L8 ob).c1
            have l2 := fun ob => (L8 ob).c2
            have l3 := fun ob => (L8 ob).c3
            obtain ⟨i, hi, iz, is, ib⟩ := Try.infoAt44
            obtain ⟨xs, ho, hx⟩ := U7.ul
            have hul := uModes_len A B k
            have hM7 := U7.lt
            have hwM : w.heap.size ≤ M := by have := U7.ge; omega
            have hwZ : w.heap.size + 1 + 1 < w7.heap.size + 1 := by have := U7.ge; omega
            have U9 := fun o1 o2 => (U8 o1).step ((Below.refl (w7.alloc o1).heap.size (w7.alloc o1)).alloc (Nat.le_refl _) o2)
            have ho9 := fun o1 o2 => (ho.alloc o1).alloc o2
            have lo9 := fun o1 o2 => low_of (U9 o1 o2).bel
            have bb : ∀ o1 o2, Below w7.heap.size w7 ((w7.alloc o1).alloc o2) := fun o1 o2 => ((Below.refl _ _).alloc (Nat.le_refl _) _).alloc (by simp) _
            have hx9 := fun o1 o2 j (hj : j < (uModes A B k).length) => (hx j hj).below (bb o1 o2)
            cases okA
            · cases okB
              · go_wp2_with fail
                go_roundw
                case rel => exact ⟨k + 1, v, by omega, by go_num, by rw [uModes_ff HA.out HB.out]; exact U8 _⟩
                case measure => simp [intOf]; omega
              · go_wp2_with (at_builtin; refine wpList_append_lies _ rfl _ _ _ rfl (M + 1) 44 i (.agg zeroML) 4 56 Try.underlying30 hi iz is ib rfl (by omega) v (uModes A B k).length xs rfl (by exact ho9 _ _) ⟨w7.heap.size + 1, 0, none⟩ 1 1 [.int .u8 (m.mode : Nat), .bool m.whole, .slice sa' sn sc, .slice ta tn tc] rfl rfl (by exact news4 _ _ (by simp) _ _ _ _) (by exact one4 _ _ _ _ _ _ _ _) (by omega) (by unfold maxLen; omega) (by omega) (by simp; omega) (w7.heap.size + 1 + 1) (by simp) ?_)
                intro g cap w9 hown hgrow hat hlt9
                obtain ⟨t1, t2⟩ := (U9 _ _).after hgrow
                go_wp2_with fail
                go_roundw
                case rel =>
                  refine ⟨k + 1, .slice (some ⟨g, 0, none⟩) ((uModes A B k).length + 1) cap, by omega, by go_num, ?_⟩
                  rw [uModes_ft HA.out HB.out]
                  exact (U9 _ _).append (ho9 _ _) (fun j hj => hx9 _ _ j hj) (j1.below (lo9 _ _)) (j2.below (lo9 _ _)) (j1.away hwM) (j2.away hwM) (fun g e => ⟨j1.away (by have := (ho.lt g e).1; omega), j2.away (by have := (ho.lt g e).1; omega)⟩) (by have := (findM_some HB.out).2; omega) (j1.away (by omega)) (j2.away (by omega)) hown hgrow (hat.imp id (fun e => by rw [e]; simp))
                case measure => simp [intOf]; omega
            · cases okB
              · go_wp2_with (at_builtin; refine wpList_append_lies _ rfl _ _ _ rfl (M + 1) 44 i (.agg zeroML) 4 56 Try.underlying30 hi iz is ib rfl (by omega) v (uModes A B k).length xs rfl (by exact ho9 _ _) ⟨w7.heap.size + 1, 0, none⟩ 1 1 [.int .u8 (l.mode : Nat), .bool l.whole, .slice ra rn rc, .slice wa wn wc] rfl rfl (by exact news4 _ _ (by simp) _ _ _ _) (by exact one4 _ _ _ _ _ _ _ _) (by omega) (by unfold maxLen; omega) (by omega) (by simp; omega) (w7.heap.size + 1 + 1) (by simp) ?_)
                intro g cap w9 hown hgrow hat hlt9
                obtain ⟨t1, t2⟩ := (U9 _ _).after hgrow
                go_wp2_with fail
                go_roundw
                case rel =>
                  refine ⟨k + 1, .slice (some ⟨g, 0, none⟩) ((uModes A B k).length + 1) cap, by omega, by go_num, ?_⟩
                  rw [uModes_tf HA.out HB.out]
                  exact (U9 _ _).append (ho9 _ _) (fun j hj => hx9 _ _ j hj) (k1.below (lo9 _ _)) (k2.below (lo9 _ _)) (k1.away hwM) (k2.away hwM) (fun g e => ⟨k1.away (by have := (ho.lt g e).1; omega), k2.away (by have := (ho.lt g e).1; omega)⟩) (by have := (findM_some HA.out).2; omega) (k1.away (by omega)) (k2.away (by omega)) hown hgrow (hat.imp id (fun e => by rw [e]; simp))
                case measure => simp [intOf]; omega
              · have sl := small_mem sa.l (findM_some HA.out).1
                have sm := small_mem sb.l (findM_some HB.out).1
                have v1 : rn ≤ 1048576 := by have := k1.len; omega
                have v2 : wn ≤ 1048576 := by have := k2.len; omega
                have v3 : sn ≤ 1048576 := by have := j1.len; omega
                have v4 : tn ≤ 1048576 := by have := j2.len; omega
                have LW := fun ob => (low_of (U8 ob).bel).drew
                have UW := fun ob => (U8 ob).step (Below.refl _ _).drew
                go_wp2_with fail
                go_region_law (first
                  | (refine step_append_lies _ (by rfl) _ _ _ (by rfl) (M + 1) 44 i (.agg zeroML) 4 56 Try.underlying30 hi iz is ib rfl (by omega) v (uModes A B k).length xs8 (by rfl) (ho8.alloc _) ⟨w8.heap.size, 0, none⟩ 1 1 [.int .u8 ((mlUni l m).mode : Nat), .bool (mlUni l m).whole, .slice pa pn pc, .slice qa qn qc] (by rfl) (by rfl) (news4 _ _ rfl _ _ _ _) (one4 _ _ _ _ _ _ _ _) (by omega) (by unfold maxLen; omega) (by omega) (by simp; omega) (w8.heap.size + 1) (by simp) ?_; intro g cap w9 hown hgrow hat hlt9; obtain ⟨t1, t2⟩ := (UA _).after hgrow)
                  | (go_simp; go_at_call 33; refine (uniM_any l m ra wa sa' ta rn wn rc wc sn tn sc tc _ (k1.below (LW _)) (k2.below (LW _)) (j1.below (LW _)) (j2.below (LW _)) v1 v2 v3 v4).mono ?_; rintro e w8 ⟨pa, pn, pc, qa, qn, qc, rfl, hp, hq, hgp, hgq, hb8⟩; have U10 := (UW _).step hb8; obtain ⟨xs8, ho8, hx8⟩ := U10.ul; have hM8 := U10.lt; have z8 := U10.c2; have UA := fun ob => U10.step ((Below.refl w8.heap.size w8).alloc (Nat.le_refl _) ob); dsimp only))
                all_goals
                  go_wp2_with fail
                  go_roundw
                  case rel =>
                    refine ⟨k + 1, .slice (some ⟨g, 0, none⟩) ((uModes A B k).length + 1) cap, by omega, by go_num, ?_⟩
                    rw [uModes_tt HA.out HB.out]
                    have aw : ∀ {a : Option Addr} {n Q : Nat}, (∀ x, a = some x → (w7.alloc (.cells #[.int .u8 (m.mode : Nat), .bool m.whole, .slice sa' sn sc, .slice ta tn tc] 44)).drew.heap.size ≤ x.block) → Q < w7.heap.size + 1 → awayN a n Q := fun h hq _ x e => by have := h x e; simp at this; omega
                    have og : ∀ g, v.ownBlock = some g → g < w7.heap.size + 1 := fun g e => by have := (ho.lt g e).2; omega
                    exact (UA _).append (ho8.alloc _) (fun j hj => (hx8 j hj).below ((Below.refl w8.heap.size w8).alloc (Nat.le_refl _) _)) (hp.below ((Below.refl w8.heap.size w8).alloc (Nat.le_refl _) _)) (hq.below ((Below.refl w8.heap.size w8).alloc (Nat.le_refl _) _)) (aw hgp (by omega)) (aw hgq (by omega)) (fun g e => ⟨aw hgp (og g e), aw hgq (og g e)⟩) (by have := (findM_some HA.out).2; rw [mlUni_mode]; omega) (aw hgp hwZ) (aw hgq hwZ) hown hgrow (hat.imp id (fun e => by rw [e]; simp))
                  case measure => simp [intOf]; omega
          · obtain rfl : k = 14 := by omega
            obtain ⟨ur, un, uc, xr, xn, xc, va, vc, e0', e1', rfl, hacc⟩ := uv.done (by have := uModes_len A B 14; omega) (by have := uv.ge; omega)
            have e2' := uv.c2
            obtain ⟨_, _, _, _, _, _, z0, z1, z2, f0, f1, f2⟩ := tb uv.bel
            have BW := low_of uv.bel
            go_wp2_with fail
            exact bodyPost_ret (v := .agg #[.slice ur un uc, .slice xr xn xc, .slice va (uModes A B 14).length vc]) (by simp [results, Try.results17, go_sem, z0, z1, z2]) rfl ⟨_, rfl, hacc _ _ _, below3 (by omega) BW⟩
    · have eu : uAcc A B = B := by simp [uAcc, hc1, hc2]
      rw [eu]
      clear eu
      go_enter Try.func17, Try.ntmps17
      go_wp2_with fail
      refine (Covers_any A B _ _ _ (by exact ha.below e0) (by exact hb.below e0)).mono ?_
      rintro e w4 ⟨rfl, hb4⟩
      have q4 : Below (w.heap.size + 3) _ w4 := hb4.mono (Nat.le_of_eq EN.out.symm)
      obtain ⟨x0, x1, x2, y0, y1, y2, z0, z1, z2, f0, f1, f2⟩ := tb q4
      have B4 := below_step hb4 e0
      clear hb4
      go_wp2_with fail
      refine (Covers_any B A _ _ _ (by exact hb.below B4) (by exact ha.below B4)).mono ?_
      rintro e w5 ⟨rfl, hb5⟩
      have q5 := below_step3 hb5 q4 (Nat.le_of_eq EN.out.symm)
      clear x0 x1 x2 y0 y1 y2 z0 z1 z2 f0 f1 f2
      obtain ⟨x0, x1, x2, y0, y1, y2, z0, z1, z2, f0, f1, f2⟩ := tb q5
      have B5 := below_step hb5 B4
      clear hb5 q4 q5 B4
      go_wp2_with fail
      have B6 := fun v0 v1 v2 => below3 (N := w.heap.size + 1 + 1) (o0 := 0) (o1 := 1) (o2 := 2) (v0 := v0) (v1 := v1) (v2 := v2) (by omega) B5
      exact bodyPost_ret (v := .agg #[.slice b1 m1 d1, .slice b2 m2 d2, .slice b3 m3 d3]) (by simp [results, Try.results17, go_sem, z0, z1, z2]) rfl ⟨_, rfl, hb.below (B6 _ _ _), B6 _ _ _⟩
  · have eu : uAcc A B = A := by simp [uAcc, hc1]
    rw [eu]
    clear eu
    go_enter Try.func17, Try.ntmps17
    go_wp2_with fail
    refine (Covers_any A B _ _ _ (by exact ha.below e0) (by exact hb.below e0)).mono ?_
    rintro e w4 ⟨rfl, hb4⟩
    have q4 : Below (w.heap.size + 3) _ w4 := hb4.mono (Nat.le_of_eq EN.out.symm)
    obtain ⟨x0, x1, x2, y0, y1, y2, z0, z1, z2, f0, f1, f2⟩ := tb q4
    have B4 := below_step hb4 e0
    clear hb4 q4
    go_wp2_with fail
    have B5 := fun v0 v1 v2 => below3 (N := w.heap.size + 1 + 1) (o0 := 0) (o1 := 1) (o2 := 2) (v0 := v0) (v1 := v1) (v2 := v2) (by omega) B4
    exact bodyPost_ret (v := .agg #[.slice a1 n1 c1, .slice a2 n2 c2, .slice a3 n3 c3]) (by simp [results, Try.results17, go_sem, z0, z1, z2]) rfl ⟨_, rfl, ha.below (B5 _ _ _), B5 _ _ _⟩
end Go.Proofs.Qxb6605213a
