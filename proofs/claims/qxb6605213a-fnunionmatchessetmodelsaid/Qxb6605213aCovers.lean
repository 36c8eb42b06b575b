import Derived.Test.Qxb6605213aMode
namespace Go.Proofs.Qxb6605213a
open Go.RowKit

def mCov (A : Acc) (n : ML) : Bool := (findM A.modes n.mode).2 && mlCov (findM A.modes n.mode).1 n

/-- 'Access.Covers'. -/
def covB (A B : Acc) : Bool := contB A.read B.read && contB A.write B.write && B.modes.all (mCov A)

theorem covB_true {A B : Acc} (h1 : contB A.read B.read = true) (h2 : contB A.write B.write = true) (h : ∀ j, j < B.modes.length → mCov A (ml B.modes j) = true) : covB A B = true := by
  rw [covB, h1, h2]
  simp only [Bool.and_true, Bool.true_and, List.all_eq_true]
  intro x hx
  obtain ⟨j, hj, rfl⟩ := List.getElem_of_mem hx
  rw [← ml_lt hj]; exact h j hj

theorem covB_false {A B : Acc} {j : Nat} (hj : j < B.modes.length) (h : mCov A (ml B.modes j) = false) : covB A B = false := by
  have : B.modes.all (mCov A) = false := by
    rw [List.all_eq_false]
    exact ⟨_, List.getElem_mem hj, by rw [← ml_lt hj, h]; simp⟩
  rw [covB, this, Bool.and_false]

structure AccIs (w : World) (v : Value) (A : Acc) : Prop where
  is : ∃ ra rn rc wa wn wc ma mn mc, v = .agg #[.slice ra rn rc, .slice wa wn wc, .slice ma mn mc] ∧ Wd w ra rn A.read ∧ Wd w wa wn A.write ∧ Ms w ma mn A.modes

theorem AccIs.below {w w' : World} {v : Value} {A : Acc} (h : AccIs w v A) (hb : Below w.heap.size w w') : AccIs w' v A := by
  obtain ⟨ra, rn, rc, wa, wn, wc, ma, mn, mc, e, h1, h2, h3⟩ := h.is
  exact ⟨ra, rn, rc, wa, wn, wc, ma, mn, mc, e, h1.below hb, h2.below hb, h3.below hb⟩

set_option maxHeartbeats 400000 in
theorem Covers_any (A B : Acc) (va vb : Value) (w : World) (ha : AccIs w va A) (hb : AccIs w vb B) :
    Calls Try.prog 13 #[va, vb] w fun e w' => e = .returned (.bool (covB A B)) ∧ Below w.heap.size w w' := by
  obtain ⟨a1, n1, c1, a2, n2, c2, a3, n3, c3, rfl, h1, h2, h3⟩ := ha.is
  obtain ⟨b1, m1, d1, b2, m2, d2, b3, m3, d3, rfl, g1, g2, g3⟩ := hb.is
  clear ha hb
  have mx := g3.max
  have e0 : Below w.heap.size w ((w.alloc (.cells #[.slice a1 n1 c1, .slice a2 n2 c2, .slice a3 n3 c3] 32)).alloc (.cells #[.slice b1 m1 d1, .slice b2 m2 d2, .slice b3 m3 d3] 32)) := ((Below.refl _ _).alloc (Nat.le_refl _) _).alloc (by simp) _
  cases hc1 : contB A.read B.read
  · go_enter Try.func13, Try.ntmps13
    go_wp2_with fail
    refine (contains_any _ _ _ _ _ _ A.read B.read _ (by exact h1.below e0) (by exact g1.below e0)).mono ?_
    rintro e w1 ⟨rfl, n, rfl⟩
    go_wp2_with fail
    go_ret
    exact ⟨ret_bool (by simp [covB, hc1]), below_drewN e0 _⟩
  cases hc2 : contB A.write B.write
  · go_enter Try.func13, Try.ntmps13
    go_wp2_with fail
    refine (contains_any _ _ _ _ _ _ A.read B.read _ (by exact h1.below e0) (by exact g1.below e0)).mono ?_
    rintro e w1 ⟨rfl, n, rfl⟩
    go_wp2_with fail
    refine (contains_any _ _ _ _ _ _ A.write B.write _ (by exact h2.below (below_drewN e0 _)) (by exact g2.below (below_drewN e0 _))).mono ?_
    rintro e w1 ⟨rfl, n, rfl⟩
    go_wp2_with fail
    go_ret
    exact ⟨ret_bool (by simp [covB, hc2]), below_drewN e0 _⟩
  go_enter Try.func13, Try.ntmps13
  go_wp2_with fail
  refine (contains_any _ _ _ _ _ _ A.read B.read _ (by exact h1.below e0) (by exact g1.below e0)).mono ?_
  rintro e w1 ⟨rfl, nn1, rfl⟩
  go_wp2_with fail
  refine (contains_any _ _ _ _ _ _ A.write B.write _ (by exact h2.below (below_drewN e0 _)) (by exact g2.below (below_drewN e0 _))).mono ?_
  rintro e w1 ⟨rfl, nn2, rfl⟩
  go_wp2_with fail
  go_loopw [26] (fun i wr => ∃ k : Nat, k ≤ m3 ∧ i = .int .i64 k ∧ (∀ j, j < k → mCov A (ml B.modes j) = true) ∧ Below (w.heap.size + 2) ((w.alloc (.cells #[.slice a1 n1 c1, .slice a2 n2 c2, .slice a3 n3 c3] 32)).alloc (.cells #[.slice b1 m1 d1, .slice b2 m2 d2, .slice b3 m3 d3] 32)) wr) (fun i _ => m3 - (intOf i).toNat)
  case atStart => exact ⟨0, by omega, rfl, by omega, below_drewN (Below.refl _ _) _⟩
  case round =>
    obtain ⟨k, hk, rfl, hall, hb⟩ := hrel
    have hB : Below w.heap.size w wr := e0.trans (hb.mono (by omega))
    by_cases hlt : k < m3
    · have hz : w.heap.size + 2 ≤ wr.heap.size := by have := hb.size; simpa using this
      have zc : ∀ ob i, (wr.alloc ob).cell? ⟨w.heap.size, i, none⟩ = _ := fun ob i => (hb.alloc hz ob).cell (p := ⟨w.heap.size, i, none⟩) (by simp)
      have z0 : ∀ ob, (wr.alloc ob).cell? ⟨w.heap.size, 0, none⟩ = some (.slice a1 n1 c1) := fun ob => by rw [zc]; go_simp
      have z1 : ∀ ob, (wr.alloc ob).cell? ⟨w.heap.size, 1, none⟩ = some (.slice a2 n2 c2) := fun ob => by rw [zc]; go_simp
      have z2 : ∀ ob, (wr.alloc ob).cell? ⟨w.heap.size, 2, none⟩ = some (.slice a3 n3 c3) := fun ob => by rw [zc]; go_simp
      clear zc
      obtain ⟨b, o, rfl, hcell⟩ := g3.cell k hlt
      obtain ⟨ra, rn, rc, wa, wn, wc, hl⟩ := hcell k hlt
      obtain ⟨q0, q1, q2, q3, hr, hw, hmm⟩ := hl.below hB
      have s1 : ∀ ob, Below w.heap.size w (wr.alloc ob) := fun ob => hB.alloc (by omega) ob
      obtain ⟨l, ok, hf⟩ : ∃ l ok, findM A.modes (ml B.modes k).mode = (l, ok) := ⟨_, _, rfl⟩
      have hmc : mCov A (ml B.modes k) = (ok && mlCov l (ml B.modes k)) := by rw [mCov, hf]
      have HF : Hid (findM A.modes (ml B.modes k).mode = (l, ok)) := hf
      have HM : Hid (mCov A (ml B.modes k) = (ok && mlCov l (ml B.modes k))) := hmc
      clear hf hmc
      go_wp2_with fail
      refine (inMode_at _ _ _ _ _ A.modes (ml B.modes k).mode _ (by exact h3.below (s1 _)) l ok HF.out).mono ?_
      rintro e w4 ⟨ra', rn', rc', wa', wn', wc', rfl, k1, k2, hb4⟩
      have hb4' := hb4.size
      have hz4 : wr.heap.size < w4.heap.size := by simp at hb4'; omega
      have zc : ∀ ob i, (w4.alloc ob).cell? ⟨wr.heap.size, i, none⟩ = _ := fun ob i => (hb4.alloc (by simpa using hb4') ob).cell (p := ⟨wr.heap.size, i, none⟩) (by simp)
      have x0 : ∀ ob, (w4.alloc ob).cell? ⟨wr.heap.size, 0, none⟩ = some (.int .u8 ((ml B.modes k).mode : Nat)) := fun ob => by rw [zc]; go_simp
      have x1 : ∀ ob, (w4.alloc ob).cell? ⟨wr.heap.size, 1, none⟩ = some (.bool (ml B.modes k).whole) := fun ob => by rw [zc]; go_simp
      have x2 : ∀ ob, (w4.alloc ob).cell? ⟨wr.heap.size, 2, none⟩ = some (.slice ra rn rc) := fun ob => by rw [zc]; go_simp
      have x3 : ∀ ob, (w4.alloc ob).cell? ⟨wr.heap.size, 3, none⟩ = some (.slice wa wn wc) := fun ob => by rw [zc]; go_simp
      clear zc
      have b4 : Below (w.heap.size + 2) ((w.alloc (.cells #[.slice a1 n1 c1, .slice a2 n2 c2, .slice a3 n3 c3] 32)).alloc (.cells #[.slice b1 m1 d1, .slice b2 m2 d2, .slice (some ⟨b, o, none⟩) m3 d3] 32)) w4 := (hb.alloc hz _).trans (hb4.mono (by simp; omega))
      have hz5 : w.heap.size + 2 ≤ w4.heap.size := by omega
      cases ok
      · go_wp2_with fail
        go_ret
        exact ⟨ret_bool (covB_false (j := k) (by have := g3.len; omega) (by rw [HM.out]; rfl)).symm, e0.trans ((b4.alloc hz5 _).mono (by omega))⟩
      · have u4 : ∀ ob, Below w.heap.size w (w4.alloc ob) := fun ob => e0.trans ((b4.alloc hz5 _).mono (by omega))
        have t4 : ∀ ob, Below (wr.heap.size + 1) (wr.alloc (.cells #[.int .u8 ((ml B.modes k).mode : Nat), .bool (ml B.modes k).whole, .slice ra rn rc, .slice wa wn wc] 44)) (w4.alloc ob) := fun ob => by have := hb4.alloc hb4' ob; simpa using this
        cases hv : mlCov l (ml B.modes k)
        · go_wp2_with fail
          refine (covers_any l (ml B.modes k) _ _ _ _ _ _ _ _ _ _ _ _ _ (by exact k1.below (by simpa using t4 _)) (by exact k2.below (by simpa using t4 _)) (by exact hl.hr.below (u4 _)) (by exact hl.hw.below (u4 _))).mono ?_
          rintro e w5 ⟨rfl, hb5⟩
          go_wp2_with fail
          go_ret
          exact ⟨ret_bool (covB_false (j := k) (by have := g3.len; omega) (by rw [HM.out, hv]; rfl)).symm, e0.trans (((b4.alloc hz5 _).trans (hb5.mono (by simp; omega))).mono (by omega))⟩
        · go_wp2_with fail
          refine (covers_any l (ml B.modes k) _ _ _ _ _ _ _ _ _ _ _ _ _ (by exact k1.below (by simpa using t4 _)) (by exact k2.below (by simpa using t4 _)) (by exact hl.hr.below (u4 _)) (by exact hl.hw.below (u4 _))).mono ?_
          rintro e w5 ⟨rfl, hb5⟩
          go_wp2_with fail
          go_roundw
          case rel => exact ⟨k + 1, by omega, by go_num, fun j hj => by (rcases Nat.lt_succ_iff_lt_or_eq.1 hj with h | rfl); exact hall j h; (rw [HM.out, hv]; rfl), (b4.alloc hz5 _).trans (hb5.mono (by simp; omega))⟩
          case measure => simp [intOf]; omega
    · go_wp2_with fail
      go_ret
      exact ⟨ret_bool (covB_true hc1 hc2 (fun j hj => hall j (by have := g3.len; omega))).symm, hB⟩
end Go.Proofs.Qxb6605213a
