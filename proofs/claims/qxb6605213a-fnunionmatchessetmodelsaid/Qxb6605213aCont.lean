import Derived.Test.Qxb6605213aRows
import Derived.Test.Qxb6605213aPlain
import Derived.WalkKit
import Derived.WalkSpells
import Derived.WalkLawsBesides
import Derived.BigQuiet
namespace Go.Proofs.Qxb6605213a
open Go.RowKit

/-- The slice (a, n) holds the words zs in w. -/
structure Wd (w : World) (a : Option Addr) (n : Nat) (zs : List Nat) : Prop where
  len : zs.length = n
  fit : fits zs
  max : n ≤ 9223372036854775807
  cell : ∀ i, i < n → ∃ b o, a = some ⟨b, o, none⟩ ∧ ∀ j, j < n → w.cell? ⟨b, o + j, none⟩ = some (.int .u64 (wd zs j : Nat))

theorem Wd.at {w : World} {a : Option Addr} {n : Nat} {zs : List Nat} (h : Wd w a n zs) {k : Nat} (hk : k < n) : ∃ b o, a = some ⟨b, o, none⟩ ∧ ∀ j, j < n → w.cell? ⟨b, o + j, none⟩ = some (.int .u64 (wd zs j : Nat)) := h.cell k hk

theorem ret_bool {a b : Bool} (h : a = b) : Ending.returned (.bool a) = .returned (.bool b) := by rw [h]

set_option maxHeartbeats 400000 in
theorem contains_any (a0 a1 : Option Addr) (n0 n1 c0 c1 : Nat) (s t : List Nat) (w : World) (h0 : Wd w a0 n0 s) (h1 : Wd w a1 n1 t) :
    Calls Try.prog 28 #[.slice a0 n0 c0, .slice a1 n1 c1] w fun e w' => e = .returned (.bool (contB s t)) ∧ ∃ n, w' = w.drewN n := by
  have m0 := h0.max
  have m1 := h1.max
  go_enter Try.func28, Try.ntmps28
  go_wp2
  go_loopw [8] (fun i wr => ∃ k : Nat, k ≤ n1 ∧ i = .int .i64 k ∧ (∀ j, j < k → wd s j &&& wd t j = wd t j) ∧ ∃ n, wr = w.drewN n) (fun i _ => n1 - (intOf i).toNat)
  case atStart => exact ⟨0, by omega, rfl, by omega, 0, rfl⟩
  case round =>
    obtain ⟨k, hk, rfl, hall, nr, rfl⟩ := hrel
    by_cases hlt : k < n1
    · obtain ⟨b1, o1, rfl, hc1⟩ := h1.at hlt
      have q1 := hc1 k hlt
      by_cases hs : k < n0
      · obtain ⟨b0, o0, rfl, hc0⟩ := h0.at hs
        have q0 := hc0 k hs
        have d1 : decide (n0 ≤ k) = false := by simpa using hs
        have d2 : decide (k < n0) = true := by simpa using hs
        by_cases ht : wd s k &&& wd t k = wd t k
        · have ht' := and_ne_false (h0.fit k) (h1.fit k) ht
          go_wp2
          go_quiet (fail)
          go_wp2
          go_roundw
          case rel => exact ⟨k + 1, by omega, by go_num, fun j hj => by (rcases Nat.lt_succ_iff_lt_or_eq.1 hj with h | rfl); exact hall j h; exact ht, _, rfl⟩
          case measure => simp [intOf]; omega
        · have ht' := and_ne_true (h0.fit k) (h1.fit k) ht
          go_wp2
          go_quiet (fail)
          go_wp2
          go_ret
          exact ⟨ret_bool (contB_false ht).symm, _, World.drewN_drewN ..⟩
      · have d1 : decide (n0 ≤ k) = true := by simpa using hs
        have d2 : decide (k < n0) = false := by simpa using hs
        have hz : wd s k = 0 := wd_ge (by have := h0.len; omega)
        by_cases ht : wd t k = 0
        · have ht' : ((wd t k : Int) != 0) = false := by simp [ht]
          have Ht : Hid (wd t k = 0) := ht
          clear ht
          go_wp2
          go_quiet (fail)
          go_wp2
          go_roundw
          case rel => exact ⟨k + 1, by omega, by go_num, fun j hj => by (rcases Nat.lt_succ_iff_lt_or_eq.1 hj with h | rfl); exact hall j h; (rw [Ht.out]; simp), _, rfl⟩
          case measure => simp [intOf]; omega
        · have ht' : ((wd t k : Int) != 0) = true := by simp; omega
          go_wp2
          go_quiet (fail)
          go_wp2
          go_ret
          exact ⟨ret_bool (contB_false (i := k) (by rw [hz]; simp; omega)).symm, _, World.drewN_drewN ..⟩
    · go_wp2
      go_ret
      exact ⟨ret_bool (contB_true fun j hj => hall j (by have := h1.len; omega)).symm, _, rfl⟩
end Go.Proofs.Qxb6605213a
