import Derived.Test.Qxb6605213aCloneM
namespace Go.Proofs.Qxb6605213a
open Go.RowKit Go.Deep

theorem ret_i64 {a b : Int} (h : a = b) : Ending.returned (.int .i64 a) = .returned (.int .i64 b) := by rw [h]

def BytesOk (n1 n2 n : Nat) (ms : List ML) : Prop := n1 ≤ 1048576 ∧ n2 ≤ 1048576 ∧ n ≤ 1048576 ∧ small ms

set_option maxHeartbeats 1000000 in
theorem bytes_any (a1 a2 a : Option Addr) (n1 n2 n c1 c2 c : Nat) (ms : List ML) (w : World) (m1 : n1 ≤ 9223372036854775807) (m2 : n2 ≤ 9223372036854775807) (h : Ms w a n ms) :
    Calls Try.prog 8 #[.slice a1 n1 c1, .slice a2 n2 c2, .slice a n c] w fun e w' => ∃ r : Int, e = .returned (.int .i64 r) ∧ 0 ≤ r ∧ r ≤ 1048577 ∧ (r ≤ 1048576 → BytesOk n1 n2 n ms) ∧ ∃ m, w' = w.drewN m := by
  have mx := h.max
  by_cases t1 : (1048576 : Int) < n1
  · go_enter Try.func8, Try.ntmps8
    go_wp2
    go_ret
    exact ⟨1048577, rfl, by omega, by omega, by omega, 0, rfl⟩
  by_cases t2 : (1048576 : Int) < n2
  · go_enter Try.func8, Try.ntmps8
    go_wp2
    go_ret
    exact ⟨1048577, rfl, by omega, by omega, by omega, 0, rfl⟩
  by_cases t3 : (1048576 : Int) < n
  · go_enter Try.func8, Try.ntmps8
    go_wp2
    go_ret
    exact ⟨1048577, rfl, by omega, by omega, by omega, 0, rfl⟩
  by_cases t4 : (1048576 : Int) < 8 * n1 + 8 * n2 + 64 * n
  · go_enter Try.func8, Try.ntmps8
    go_wp2
    go_ret
    exact ⟨1048577, rfl, by omega, by omega, by omega, 0, rfl⟩
  go_enter Try.func8, Try.ntmps8
  go_wp2
  go_loopw [7, 37] (fun t i wr => ∃ (k : Nat) (s : Int), k ≤ n ∧ i = .int .i64 k ∧ t = .int .i64 s ∧ 0 ≤ s ∧ s ≤ 1048576 ∧ (∀ j, j < k → (ml ms j).read.length ≤ 1048576 ∧ (ml ms j).write.length ≤ 1048576) ∧ ∃ m, wr = w.drewN m) (fun _ i _ => n - (intOf i).toNat)
  case atStart => exact ⟨0, _, by omega, rfl, rfl, by omega, by omega, by omega, 0, rfl⟩
  case round =>
    obtain ⟨k, s, hk, rfl, rfl, s1, s2, hall, nr, rfl⟩ := hrel
    by_cases hlt : k < n
    · obtain ⟨b, o, rfl, hcell⟩ := h.cell k hlt
      obtain ⟨ra, rn, rc, wa, wn, wc, hl⟩ := hcell k hlt
      have q2 := hl.c2
      have q3 := hl.c3
      have mr := hl.hr.max
      have mw := hl.hw.max
      have i1 : (0 : Int) ≤ (k : Int) := by omega
      have i2 : (k : Int) < (n : Int) := by omega
      by_cases t5 : (1048576 : Int) < rn
      · go_wp2
        go_ret
        exact ⟨1048577, rfl, by omega, by omega, by omega, _, rfl⟩
      by_cases t6 : (1048576 : Int) < wn
      · go_wp2
        go_ret
        exact ⟨1048577, rfl, by omega, by omega, by omega, _, rfl⟩
      by_cases t7 : (1048576 : Int) < s + (8 * rn + 8 * wn)
      · go_wp2
        go_quiet (fail)
        go_wp2
        go_ret
        exact ⟨1048577, rfl, by omega, by omega, by omega, _, rfl⟩
      · go_wp2
        go_quiet (fail)
        go_wp2
        go_roundw
        case rel =>
          refine ⟨k + 1, _, by omega, by go_num, rfl, by omega, by omega, fun j hj => ?_, _, rfl⟩
          rcases Nat.lt_succ_iff_lt_or_eq.1 hj with e | rfl
          · exact hall j e
          · have e1 := hl.hr.len; have e2 := hl.hw.len; omega
        case measure => simp [intOf]; omega
    · go_wp2
      go_ret
      exact ⟨s, rfl, s1, by omega, fun _ => ⟨by omega, by omega, by omega, fun j hj => hall j (by have := h.len; omega)⟩, _, rfl⟩
end Go.Proofs.Qxb6605213a
