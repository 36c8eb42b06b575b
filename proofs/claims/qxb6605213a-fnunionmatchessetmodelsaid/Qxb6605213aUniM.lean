import Derived.Test.Qxb6605213aUni
import Derived.Test.Qxb6605213aCloneM
namespace Go.Proofs.Qxb6605213a
open Go.RowKit Go.Deep
attribute [local go_sem ↓] Go.wp_at_zero Go.wp_at_succ

/-- 'modeLock.union'. -/
def mlUni (l k : ML) : ML := if l.whole || k.whole then ⟨l.mode, true, [], []⟩ else ⟨l.mode, false, uniW l.read k.read, uniW l.write k.write⟩

theorem five_of {w w' : World} {l0 l1 k0 k1 l2 l3 k2 k3 : Value} (hb : Below (w.heap.size + 2) ((w.alloc (.cells #[l0, l1, l2, l3] 44)).alloc (.cells #[k0, k1, k2, k3] 44)) w') :
    w'.cell? ⟨w.heap.size, 0, none⟩ = some l0 ∧ w'.cell? ⟨w.heap.size, 2, none⟩ = some l2 ∧ w'.cell? ⟨w.heap.size, 3, none⟩ = some l3 ∧ w'.cell? ⟨w.heap.size + 1, 2, none⟩ = some k2 ∧ w'.cell? ⟨w.heap.size + 1, 3, none⟩ = some k3 ∧
      Below (w.heap.size + 2) ((w.alloc (.cells #[l0, l1, l2, l3] 44)).alloc (.cells #[k0, k1, k2, k3] 44)) w' :=
  ⟨by rw [hb.cell (p := ⟨w.heap.size, 0, none⟩) (by simp)]; go_simp, by rw [hb.cell (p := ⟨w.heap.size, 2, none⟩) (by simp)]; go_simp, by rw [hb.cell (p := ⟨w.heap.size, 3, none⟩) (by simp)]; go_simp,
   by rw [hb.cell (p := ⟨w.heap.size + 1, 2, none⟩) (by simp)]; go_simp, by rw [hb.cell (p := ⟨w.heap.size + 1, 3, none⟩) (by simp)]; go_simp, hb⟩

theorem below4h {B N : Nat} {w w2 : World} {o0 o1 o2 o3 : Nat} {v0 v1 v2 v3 : Value} (hN : B ≤ N) (h : Below B w w2) : Below B w ((((w2.setCell ⟨N, o0, none⟩ v0).setCell ⟨N, o1, none⟩ v1).setCell ⟨N, o2, none⟩ v2).setCell ⟨N, o3, none⟩ v3) :=
  (((h.setCell (p := ⟨N, o0, none⟩) hN _).setCell (p := ⟨N, o1, none⟩) hN _).setCell (p := ⟨N, o2, none⟩) hN _).setCell (p := ⟨N, o3, none⟩) hN _

theorem below_step2 {B : Nat} {w W w1 : World} (hb : Below W.heap.size W w1) (h : Below B w W) (hB : B ≤ W.heap.size) : Below B w w1 := h.trans (hb.mono hB)

theorem below_step3 {B : Nat} {w W w1 : World} (hb : Below W.heap.size W w1) (h : Below B w W) (hB : B ≤ w.heap.size) : Below B w w1 := h.trans (hb.mono (Nat.le_trans hB h.size))

theorem zero_cell {W w1 : World} (N : Nat) (hN : W.heap.size = N) (hb : Below (N + 1) (W.alloc (.cells #[.int .u8 0, .bool false, .slice none 0 0, .slice none 0 0] 44)) w1) :
    w1.cell? ⟨N, 0, none⟩ = some (.int .u8 0) ∧ w1.cell? ⟨N, 1, none⟩ = some (.bool false) ∧ w1.cell? ⟨N, 2, none⟩ = some (.slice none 0 0) ∧ w1.cell? ⟨N, 3, none⟩ = some (.slice none 0 0) ∧ ∀ i, w1.frozen? ⟨N, i, none⟩ = false := by
  subst hN
  exact ⟨by rw [hb.cell (p := ⟨W.heap.size, 0, none⟩) (by simp)]; go_simp, by rw [hb.cell (p := ⟨W.heap.size, 1, none⟩) (by simp)]; go_simp, by rw [hb.cell (p := ⟨W.heap.size, 2, none⟩) (by simp)]; go_simp,
    by rw [hb.cell (p := ⟨W.heap.size, 3, none⟩) (by simp)]; go_simp, fun i => by rw [hb.frozen (p := ⟨W.heap.size, i, none⟩) (by simp)]; go_simp⟩

/-- What 'modeLock.union' leaves. -/
def UniPost (m : ML) (w w' : World) (e : Ending) : Prop :=
  ∃ ra rn rc wa wn wc, e = .returned (.agg #[.int .u8 (m.mode : Nat), .bool m.whole, .slice ra rn rc, .slice wa wn wc]) ∧ Wd w' ra rn m.read ∧ Wd w' wa wn m.write ∧
    (∀ x, ra = some x → w.heap.size ≤ x.block) ∧ (∀ x, wa = some x → w.heap.size ≤ x.block) ∧ Below w.heap.size w w'

set_option maxHeartbeats 1000000 in
theorem uniM_any (l k : ML) (a1 a2 b1 b2 : Option Addr) (n1 n2 c1 c2 m1 m2 d1 d2 : Nat) (w : World) (h1 : Wd w a1 n1 l.read) (h2 : Wd w a2 n2 l.write) (g1 : Wd w b1 m1 k.read) (g2 : Wd w b2 m2 k.write)
    (s1 : n1 ≤ 1048576) (s2 : n2 ≤ 1048576) (s3 : m1 ≤ 1048576) (s4 : m2 ≤ 1048576) :
    Calls Try.prog 33 #[.agg #[.int .u8 (l.mode : Nat), .bool l.whole, .slice a1 n1 c1, .slice a2 n2 c2], .agg #[.int .u8 (k.mode : Nat), .bool k.whole, .slice b1 m1 d1, .slice b2 m2 d2]] w fun e w' => UniPost (mlUni l k) w w' e := by
  obtain ⟨lm, lw, lr, lx⟩ := l
  obtain ⟨km, kw, kr, kx⟩ := k
  have bel : ∀ o1 o2 o3, Below w.heap.size w (((w.alloc o1).alloc o2).alloc o3) := fun o1 o2 o3 => (((Below.refl _ _).alloc (Nat.le_refl _) _).alloc (by simp) _).alloc (by simp; omega) _
  by_cases hw : (lw || kw) = true
  · have e : mlUni ⟨lm, lw, lr, lx⟩ ⟨km, kw, kr, kx⟩ = ⟨lm, true, [], []⟩ := by simp only [mlUni, hw, if_true]
    rw [e]
    clear e
    cases lw
    · cases kw
      · cases hw
      · go_enter Try.func33, Try.ntmps33
        go_wp2
        exact bodyPost_ret (v := .agg #[.int .u8 (lm : Nat), .bool true, .slice none 0 0, .slice none 0 0]) (by simp [results, Try.results33, go_sem]) rfl ⟨none, 0, 0, none, 0, 0, rfl, wd_nil _, wd_nil _, (fun x e => by cases e), (fun x e => by cases e), bel _ _ _⟩
    · go_enter Try.func33, Try.ntmps33
      go_wp2
      exact bodyPost_ret (v := .agg #[.int .u8 (lm : Nat), .bool true, .slice none 0 0, .slice none 0 0]) (by simp [results, Try.results33, go_sem]) rfl ⟨none, 0, 0, none, 0, 0, rfl, wd_nil _, wd_nil _, (fun x e => by cases e), (fun x e => by cases e), bel _ _ _⟩
  · have e : mlUni ⟨lm, lw, lr, lx⟩ ⟨km, kw, kr, kx⟩ = ⟨lm, false, uniW lr kr, uniW lx kx⟩ := by simp only [mlUni, hw]; rfl
    rw [e]
    clear e
    cases lw
    · cases kw
      · obtain ⟨W2, hW2⟩ : ∃ W2, W2 = (w.alloc (.cells #[.int .u8 (lm : Nat), .bool false, .slice a1 n1 c1, .slice a2 n2 c2] 44)).alloc (.cells #[.int .u8 (km : Nat), .bool false, .slice b1 m1 d1, .slice b2 m2 d2] 44) := ⟨_, rfl⟩
        obtain ⟨W3, hW3⟩ : ∃ W3, W3 = W2.alloc (.cells #[.int .u8 0, .bool false, .slice none 0 0, .slice none 0 0] 44) := ⟨_, rfl⟩
        have z2 : w.heap.size + 2 ≤ W2.heap.size := by rw [hW2]; simp
        have z3 : w.heap.size + 1 + 1 + 1 ≤ W3.heap.size := by rw [hW3, hW2]; simp
        have e2 : W2.heap.size = w.heap.size + 1 + 1 := by rw [hW2]; simp
        have hA0 : Below w.heap.size w W3.drew := by rw [hW3, hW2]; exact (bel _ _ _).drew
        have hY0 : Below (w.heap.size + 2) W2 W3.drew := by rw [hW3]; exact ((Below.refl _ _).alloc z2 _).drew
        have hZ0 : Below (w.heap.size + 1 + 1 + 1) W3 W3.drew := (Below.refl _ _).drew
        have HE := hide e2
        have HW := hide hW3
        clear e2
        subst hW3 hW2
        go_enter Try.func33, Try.ntmps33
        go_wp2
        go_region_held3 (fun w' => w'.cell? ⟨w.heap.size, 0, none⟩ = some (.int .u8 (lm : Nat)) ∧ w'.cell? ⟨w.heap.size, 2, none⟩ = some (.slice a1 n1 c1) ∧ w'.cell? ⟨w.heap.size, 3, none⟩ = some (.slice a2 n2 c2) ∧ w'.cell? ⟨w.heap.size + 1, 2, none⟩ = some (.slice b1 m1 d1) ∧ w'.cell? ⟨w.heap.size + 1, 3, none⟩ = some (.slice b2 m2 d2) ∧ Below (w.heap.size + 2) ((w.alloc (.cells #[.int .u8 (lm : Nat), .bool false, .slice a1 n1 c1, .slice a2 n2 c2] 44)).alloc (.cells #[.int .u8 (km : Nat), .bool false, .slice b1 m1 d1, .slice b2 m2 d2] 44)) w')
          ((refine five_of ?_; first | assumption | (refine below4h (Nat.le_refl _) ?_; assumption)))
          (first
            | (go_at_call_of 32 (Value.slice a1 n1 c1); refine (union_any a1 b1 n1 m1 c1 d1 lr kr _ (h1.below (by assumption)) (g1.below (by assumption)) s1 s3).mono ?_; rintro e w1 ⟨p1, q1, rfl, hw1, hge1, hb1⟩; have hA1 := below_step (w := w) hb1 (by assumption); have hY1 := below_step3 (B := w.heap.size + 2) hb1 (by assumption) z2; have hZ1 := below_step3 (B := w.heap.size + 1 + 1 + 1) hb1 (by assumption) z3; obtain ⟨x0, x1, x2, x3, y⟩ := zero_cell _ HE.out hZ1)
            | (go_at_call_of 32 (Value.slice a2 n2 c2); refine (union_any a2 b2 n2 m2 c2 d2 lx kx _ (h2.below (by assumption)) (g2.below (by assumption)) s2 s4).mono ?_; rintro e w2 ⟨p2, q2, rfl, hw2, hge2, hb2⟩; have hA2 := below_step (w := w) hb2 (by assumption); have hY2 := below_step3 (B := w.heap.size + 2) hb2 (by assumption) z2; have hZ2 := below_step3 (B := w.heap.size + 1 + 1 + 1) hb2 (by assumption) z3; obtain ⟨x0, x1, x2, x3, y⟩ := zero_cell _ HE.out hZ2))
        go_wp2
        have r1 : awayN p1 (max n1 m1) (w.heap.size + 1 + 1) := fun _ x e => by have := hge1 x e; simp at this; omega
        have r2 : awayN p2 (max n2 m2) (w.heap.size + 1 + 1) := fun _ x e => by have := hge2 x e; have := hb1.size; simp at this; omega
        refine bodyPost_ret (v := .agg #[.int .u8 (lm : Nat), .bool false, .slice p1 (max n1 m1) q1, .slice p2 (max n2 m2) q2]) (by simp [results, Try.results33, go_sem, x0, x1, x2, x3]) rfl ⟨p1, max n1 m1, q1, p2, max n2 m2, q2, rfl, ?_, ?_, ?_, ?_, ?_⟩
        · exact ((((hw1.below hb2).setCell r1 _).setCell r1 _).setCell r1 _).setCell r1 _
        · exact (((hw2.setCell r2 _).setCell r2 _).setCell r2 _).setCell r2 _
        · exact fun x e => by have := hge1 x e; simp at this; omega
        · exact fun x e => by have := hge2 x e; have := hb1.size; simp at this; omega
        · exact below4h (by omega) hA2
      · cases hw rfl
    · cases hw rfl
end Go.Proofs.Qxb6605213a
