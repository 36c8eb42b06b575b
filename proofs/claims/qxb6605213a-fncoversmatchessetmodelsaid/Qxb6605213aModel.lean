import Derived.Test.Qxb6605213aBit
import Derived.Test.Qxb6605213aFind
import Derived.Test.Qxb6605213aLaws
namespace Go.Proofs.Qxb6605213a
open Go.RowKit Go.Deep

theorem covB_of_modes {A B : Acc} (vb : Valid B.modes) (h1 : contB A.read B.read = true) (h2 : contB A.write B.write = true) (h : ∀ m, m < 14 → ∀ n, findM B.modes m = (n, true) → mCov A n = true) : covB A B = true :=
  covB_true h1 h2 fun j hj => h _ (vb j hj).1 _ (findM_self vb hj)

theorem covB_not {A B : Acc} {m : Nat} {n : ML} (hf : findM B.modes m = (n, true)) (h : mCov A n = false) : covB A B = false := by
  cases hc : covB A B
  · rfl
  · rw [((covB_iff A B).1 hc).2.2 n (findM_some hf).1] at h; cases h

theorem mCov_at {A : Acc} {n l : ML} {m : Nat} {ok : Bool} (hn : n.mode = m) (hf : findM A.modes m = (l, ok)) : mCov A n = (ok && mlCov l n) := by
  unfold mCov; rw [hn, hf]

theorem quiet_sum {P : Program} {f : FuncId} {args : Array Value} {w : World} {nr x : Nat} {v : Value} (h : Calls P f args (w.drewN (nr + x)) fun e w' => e = .returned v ∧ w' = w.drewN (nr + x)) : Calls P f args (w.drewN (nr + x)) fun e w'' => e = .returned v ∧ ∃ n, w'' = w.drewN (nr + n) :=
  h.mono fun _ _ h => ⟨h.1, x, h.2⟩

theorem subset_at (a0 a1 : Option Addr) (n0 n1 c0 c1 : Nat) (t s : List Nat) (r : Bool) (hr : contB s t = r) (w : World) (h0 : Wd w a0 n0 t) (h1 : Wd w a1 n1 s) (hn : n0 ≤ 1048576) :
    Calls Try.prog 31 #[.slice a0 n0 c0, .slice a1 n1 c1] w fun e w' => e = .returned (.bool r) ∧ w' = w :=
  (subset_any a0 a1 n0 n1 c0 c1 t s w h0 h1 hn).mono fun _ _ h => ⟨by rw [← hr]; exact h.1, h.2.symm⟩

set_option maxRecDepth 100000 in
set_option maxHeartbeats 2000000 in
theorem model_any (A B : Acc) (a1 a2 a3 b1 b2 b3 : Option Addr) (n1 n2 n3 c1 c2 c3 m1 m2 m3 d1 d2 d3 : Nat) (w : World) (ha : In w a1 n1 a2 n2 a3 n3 A) (hb : In w b1 m1 b2 m2 b3 m3 B) (vb : Valid B.modes)
    (s1 : m1 ≤ 1048576) (s2 : m2 ≤ 1048576) (s3 : small B.modes) :
    Calls Try.prog 14 #[.slice a1 n1 c1, .slice a2 n2 c2, .slice a3 n3 c3, .slice b1 m1 d1, .slice b2 m2 d2, .slice b3 m3 d3] w fun e w' => e = .returned (.bool (covB A B)) ∧ ∃ n, w' = w.drewN n := by
  cases hc1 : contB A.read B.read
  · go_enter Try.func14, Try.ntmps14
    go_wp2_with fail
    refine (subset_any b1 a1 _ _ _ _ B.read A.read _ hb.r ha.r s1).mono ?_
    rintro e w' ⟨rfl, rfl⟩
    go_wp2_with fail
    go_ret
    exact ⟨ret_bool (by simp [covB, hc1]), 0, rfl⟩
  cases hc2 : contB A.write B.write
  · go_enter Try.func14, Try.ntmps14
    go_wp2_with fail
    refine (subset_any b1 a1 _ _ _ _ B.read A.read _ hb.r ha.r s1).mono ?_
    rintro e w' ⟨rfl, rfl⟩
    go_wp2_with fail
    refine (subset_any b2 a2 _ _ _ _ B.write A.write _ hb.x ha.x s2).mono ?_
    rintro e w' ⟨rfl, rfl⟩
    go_wp2_with fail
    go_ret
    exact ⟨ret_bool (by simp [covB, hc2]), 0, rfl⟩
  go_enter Try.func14, Try.ntmps14
  go_wp2_with fail
  refine (subset_any b1 a1 _ _ _ _ B.read A.read _ hb.r ha.r s1).mono ?_
  rintro e w' ⟨rfl, rfl⟩
  go_wp2_with fail
  refine (subset_any b2 a2 _ _ _ _ B.write A.write _ hb.x ha.x s2).mono ?_
  rintro e w' ⟨rfl, rfl⟩
  go_wp2_with fail
  go_loopw [13] (fun i wr => ∃ k : Nat, k ≤ 14 ∧ i = .int .i64 k ∧ (∀ m, m < k → ∀ n, findM B.modes m = (n, true) → mCov A n = true) ∧ ∃ n, wr = w.drewN n) (fun i _ => 14 - (intOf i).toNat)
  case atStart => exact ⟨0, by omega, rfl, by omega, 0, rfl⟩
  case round =>
    obtain ⟨k, hk, rfl, hall, nr, rfl⟩ := hrel
    have bd : Below w.heap.size w (w.drewN nr) := below_drewN (Below.refl _ _) nr
    by_cases hlt : k < 14
    · have hlt' : (k : Int) < 14 := by omega
      have nxt : (∀ n, findM B.modes k = (n, true) → mCov A n = true) → ∀ m, m < k + 1 → ∀ n, findM B.modes m = (n, true) → mCov A n = true := fun h m hm => by
        rcases Nat.lt_succ_iff_lt_or_eq.1 hm with e | rfl
        · exact hall m e
        · exact h
      rcases hit_or_miss B.modes k with ⟨jb, hjb, fb⟩ | ⟨hmb, fb⟩
      · have FB : Hid (findM B.modes k = (ml B.modes jb, true)) := fb
        have hjm3 : jb < m3 := by have := hb.m.len; have := hjb.1; omega
        obtain ⟨bb, ob, rfl, hcb⟩ := hb.m.cell jb hjm3
        obtain ⟨pa, pn, pc, qa, qn, qc, lb⟩ := hcb jb hjm3
        have mb := hb.m.max
        have sb := s3 jb hjb.1
        have hbm := hjb.2.1
        have HBM : Hid ((ml B.modes jb).mode = k) := hbm
        clear fb hbm
        rcases hit_or_miss A.modes k with ⟨ja, hja, fa⟩ | ⟨hma, fa⟩
        · have FA : Hid (findM A.modes k = (ml A.modes ja, true)) := fa
          have hjn3 : ja < n3 := by have := ha.m.len; have := hja.1; omega
          obtain ⟨ba, oa, rfl, hca⟩ := ha.m.cell ja hjn3
          obtain ⟨ra, rn, rc, wa, wn, wc, la⟩ := hca ja hjn3
          have ma := ha.m.max
          have HC : Hid (mCov A (ml B.modes jb) = (true && mlCov (ml A.modes ja) (ml B.modes jb))) := mCov_at HBM.out FA.out
          clear fa
          have x1 := la.c1
          have x2 := la.c2
          have x3 := la.c3
          have y1 := lb.c1
          have y2 := lb.c2
          have y3 := lb.c3
          have i1 : (0 : Int) ≤ (ja : Int) := by omega
          have i2 : (ja : Int) < (n3 : Int) := by omega
          have i3 : (0 : Int) ≤ (jb : Int) := by omega
          have i4 : (jb : Int) < (m3 : Int) := by omega
          have HA := Hid.out (p := Hit A.modes k ja) hja
          cases hwa : (ml A.modes ja).whole
          · cases hwb : (ml B.modes jb).whole
            · rw [hwa] at x1
              rw [hwb] at y1
              have Q1 := fun k => lb.hr.below (below_drewN (Below.refl w.heap.size w) (nr + k))
              have Q2 := fun k => la.hr.below (below_drewN (Below.refl w.heap.size w) (nr + k))
              have Q3 := fun k => lb.hw.below (below_drewN (Below.refl w.heap.size w) (nr + k))
              have Q4 := fun k => la.hw.below (below_drewN (Below.refl w.heap.size w) (nr + k))
              have z1 : pn ≤ 1048576 := by have := lb.hr.len; omega
              have z2 : qn ≤ 1048576 := by have := lb.hw.len; omega
              have HMC : Hid (mlCov (ml A.modes ja) (ml B.modes jb) = (contB (ml A.modes ja).read (ml B.modes jb).read && contB (ml A.modes ja).write (ml B.modes jb).write)) := by show _ = _; simp [mlCov, hwa, hwb]
              cases hr1 : contB (ml A.modes ja).read (ml B.modes jb).read
              · go_wp2_with fail
                refine (find_hit _ _ _ k jb B.modes _ (by exact hb.m.below bd) hjb).mono ?_
                rintro e w' ⟨rfl, rfl⟩
                go_wp2_with fail
                refine (find_hit _ _ _ k ja A.modes _ (by exact ha.m.below bd) hja).mono ?_
                rintro e w' ⟨rfl, rfl⟩
                go_wp2_with fail
                go_quiet (first | (go_at_call_of 31 (Value.slice pa pn pc); exact quiet_sum (subset_at _ _ _ _ _ _ (ml B.modes jb).read (ml A.modes ja).read false hr1 _ (Q1 _) (Q2 _) z1)) | fail)
                go_wp2_with fail
                go_ret
                exact ⟨ret_bool (covB_not FB.out (by rw [HC.out, HMC.out, hr1]; rfl)).symm, _, by first | rfl | exact World.drewN_drewN ..⟩
              · cases hr2 : contB (ml A.modes ja).write (ml B.modes jb).write
                · go_wp2_with fail
                  refine (find_hit _ _ _ k jb B.modes _ (by exact hb.m.below bd) hjb).mono ?_
                  rintro e w' ⟨rfl, rfl⟩
                  go_wp2_with fail
                  refine (find_hit _ _ _ k ja A.modes _ (by exact ha.m.below bd) hja).mono ?_
                  rintro e w' ⟨rfl, rfl⟩
                  go_wp2_with fail
                  go_quiet (first | (go_at_call_of 31 (Value.slice pa pn pc); exact quiet_sum (subset_at _ _ _ _ _ _ (ml B.modes jb).read (ml A.modes ja).read true hr1 _ (Q1 _) (Q2 _) z1)) | (go_at_call_of 31 (Value.slice qa qn qc); exact quiet_sum (subset_at _ _ _ _ _ _ (ml B.modes jb).write (ml A.modes ja).write false hr2 _ (Q3 _) (Q4 _) z2)))
                  go_wp2_with fail
                  go_ret
                  exact ⟨ret_bool (covB_not FB.out (by rw [HC.out, HMC.out, hr1, hr2]; rfl)).symm, _, by first | rfl | exact World.drewN_drewN ..⟩
                · go_wp2_with fail
                  refine (find_hit _ _ _ k jb B.modes _ (by exact hb.m.below bd) hjb).mono ?_
                  rintro e w' ⟨rfl, rfl⟩
                  go_wp2_with fail
                  refine (find_hit _ _ _ k ja A.modes _ (by exact ha.m.below bd) hja).mono ?_
                  rintro e w' ⟨rfl, rfl⟩
                  go_wp2_with fail
                  go_quiet (first | (go_at_call_of 31 (Value.slice pa pn pc); exact quiet_sum (subset_at _ _ _ _ _ _ (ml B.modes jb).read (ml A.modes ja).read true hr1 _ (Q1 _) (Q2 _) z1)) | (go_at_call_of 31 (Value.slice qa qn qc); exact quiet_sum (subset_at _ _ _ _ _ _ (ml B.modes jb).write (ml A.modes ja).write true hr2 _ (Q3 _) (Q4 _) z2)))
                  go_wp2_with fail
                  go_roundw
                  case rel => exact ⟨k + 1, by omega, by go_num, nxt (fun n e => by rw [FB.out] at e; cases e; rw [HC.out, HMC.out, hr1, hr2]; rfl), _, by first | rfl | exact World.drewN_drewN ..⟩
                  case measure => simp [intOf]; omega
            · rw [hwa] at x1
              rw [hwb] at y1
              go_wp2_with fail
              refine (find_hit _ _ _ k jb B.modes _ (by exact hb.m.below bd) hjb).mono ?_
              rintro e w' ⟨rfl, rfl⟩
              go_wp2_with fail
              refine (find_hit _ _ _ k ja A.modes _ (by exact ha.m.below bd) hja).mono ?_
              rintro e w' ⟨rfl, rfl⟩
              go_wp2_with fail
              go_ret
              exact ⟨ret_bool (covB_not FB.out (by rw [HC.out]; simp [mlCov, hwa, hwb])).symm, _, rfl⟩
          · rw [hwa] at x1
            go_wp2_with fail
            refine (find_hit _ _ _ k jb B.modes _ (by exact hb.m.below bd) hjb).mono ?_
            rintro e w' ⟨rfl, rfl⟩
            go_wp2_with fail
            refine (find_hit _ _ _ k ja A.modes _ (by exact ha.m.below bd) hja).mono ?_
            rintro e w' ⟨rfl, rfl⟩
            go_wp2_with fail
            go_roundw
            case rel => exact ⟨k + 1, by omega, by go_num, nxt (fun n e => by rw [FB.out] at e; cases e; rw [HC.out]; simp [mlCov, hwa]), _, rfl⟩
            case measure => simp [intOf]; omega
        · have HC : Hid (mCov A (ml B.modes jb) = (false && mlCov mlNil (ml B.modes jb))) := mCov_at HBM.out fa
          clear fa
          go_wp2_with fail
          refine (find_hit _ _ _ k jb B.modes _ (by exact hb.m.below bd) hjb).mono ?_
          rintro e w' ⟨rfl, rfl⟩
          go_wp2_with fail
          refine (find_miss _ _ _ k A.modes _ (by exact ha.m.below bd) hma).mono ?_
          rintro e w' ⟨rfl, rfl⟩
          go_wp2_with fail
          go_ret
          exact ⟨ret_bool (covB_not FB.out (by rw [HC.out]; rfl)).symm, _, rfl⟩
      · have FB : Hid (findM B.modes k = (mlNil, false)) := fb
        clear fb
        go_wp2_with fail
        refine (find_miss _ _ _ k B.modes _ (by exact hb.m.below bd) hmb).mono ?_
        rintro e w' ⟨rfl, rfl⟩
        go_wp2_with fail
        go_roundw
        case rel => exact ⟨k + 1, by omega, by go_num, nxt (fun n e => by rw [FB.out] at e; cases e), _, rfl⟩
        case measure => simp [intOf]; omega
    · go_wp2_with fail
      go_ret
      exact ⟨ret_bool (covB_of_modes vb hc1 hc2 fun m hm => hall m (by omega)).symm, _, rfl⟩
end Go.Proofs.Qxb6605213a
