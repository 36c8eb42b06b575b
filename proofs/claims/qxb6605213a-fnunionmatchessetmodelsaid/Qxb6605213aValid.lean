import Derived.Test.Qxb6605213aCloneM
namespace Go.Proofs.Qxb6605213a
open Go.RowKit Go.Deep

def ValidAt (ms : List ML) (j : Nat) : Prop := (ml ms j).mode < 14 ∧ (0 < j → (ml ms (j - 1)).mode < (ml ms j).mode)
def Valid (ms : List ML) : Prop := ∀ j, j < ms.length → ValidAt ms j

set_option maxHeartbeats 1000000 in
theorem valid_any (a : Option Addr) (n c : Nat) (ms : List ML) (w : World) (h : Ms w a n ms) :
    Calls Try.prog 9 #[.slice a n c] w fun e w' => ∃ r : Bool, e = .returned (.bool r) ∧ (r = true → Valid ms) ∧ ∃ m, w' = w.drewN m := by
  have mx := h.max
  go_enter Try.func9, Try.ntmps9
  go_wp2
  go_loopw [6] (fun i wr => ∃ k : Nat, k ≤ n ∧ i = .int .i64 k ∧ (∀ j, j < k → ValidAt ms j) ∧ ∃ m, wr = w.drewN m) (fun i _ => n - (intOf i).toNat)
  case atStart => exact ⟨0, by omega, rfl, by omega, 0, rfl⟩
  case round =>
    obtain ⟨k, hk, rfl, hall, nr, rfl⟩ := hrel
    by_cases hlt : k < n
    · obtain ⟨b, o, rfl, hcell⟩ := h.cell k hlt
      obtain ⟨ra, rn, rc, wa, wn, wc, hl⟩ := hcell k hlt
      have q0 := hl.c0
      have i1 : (0 : Int) ≤ (k : Int) := by omega
      have i2 : (k : Int) < (n : Int) := by omega
      have ml256 := hl.lt
      by_cases t5 : (14 : Int) ≤ (ml ms k).mode
      · go_wp2
        go_ret
        exact ⟨false, rfl, by simp, _, rfl⟩
      by_cases k0 : 0 < k
      · obtain ⟨ra', rn', rc', wa', wn', wc', hl'⟩ := hcell (k - 1) (by omega)
        have q0' := hl'.c0
        have ml256' := hl'.lt
        have d0 : decide (0 < k) = true := by simpa using k0
        by_cases t6 : ((ml ms k).mode : Int) ≤ ((ml ms (k - 1)).mode : Int)
        · go_wp2
          go_quiet (fail)
          go_wp2
          go_ret
          exact ⟨false, rfl, by simp, _, World.drewN_drewN ..⟩
        · go_wp2
          go_quiet (fail)
          go_wp2
          go_roundw
          case rel =>
            refine ⟨k + 1, by omega, by go_num, fun j hj => ?_, _, rfl⟩
            rcases Nat.lt_succ_iff_lt_or_eq.1 hj with e | rfl
            · exact hall j e
            · exact ⟨by omega, fun _ => by omega⟩
          case measure => simp [intOf]; omega
      · have d0 : decide (0 < k) = false := by simpa using k0
        go_wp2
        go_quiet (fail)
        go_wp2
        go_roundw
        case rel =>
          refine ⟨k + 1, by omega, by go_num, fun j hj => ?_, _, rfl⟩
          rcases Nat.lt_succ_iff_lt_or_eq.1 hj with e | rfl
          · exact hall j e
          · exact ⟨by omega, by omega⟩
        case measure => simp [intOf]; omega
    · go_wp2
      go_ret
      exact ⟨true, rfl, fun _ j hj => hall j (by have := h.len; omega), _, rfl⟩
end Go.Proofs.Qxb6605213a
