import Derived.Test.Qxb6605213aCont
namespace Go.Proofs.Qxb6605213a
open Go.RowKit

/-- Attribute i is in the set s. -/
def bitB (s : List Nat) (i : Nat) : Bool := (wd s (i / 64)).testBit (i % 64)

theorem bit_law (x r : Nat) (hx : x < 18446744073709551616) : (bits .and .u64 ((x : Int) / 2 ^ r) 1 == 1) = x.testBit r := by
  have e : ((x : Int) / 2 ^ r) = ((x / 2 ^ r : Nat) : Int) := by
    rw [Int.natCast_ediv]; simp
  rw [e]
  have h1 : x / 2 ^ r < 18446744073709551616 := Nat.lt_of_le_of_lt (Nat.div_le_self _ _) hx
  rw [show (1 : Int) = ((1 : Nat) : Int) from rfl, bits_and_u64_nat _ 1 h1 (by decide)]
  rw [Nat.testBit_eq_decide_div_mod_eq, Nat.and_one_is_mod]
  rw [Bool.eq_iff_iff]
  simp
  omega

/-- 's contains t' word by word is 's contains t' bit by bit. -/
theorem and_eq_iff {a b : Nat} (hb : b < 18446744073709551616) : a &&& b = b ↔ ∀ r, r < 64 → b.testBit r = true → a.testBit r = true := by
  constructor
  · intro h r _ hr
    rw [← h, Nat.testBit_and] at hr
    exact (Bool.and_eq_true _ _ ▸ hr).1
  · intro h
    apply Nat.eq_of_testBit_eq
    intro r
    rw [Nat.testBit_and]
    by_cases hr : r < 64
    · cases hbr : b.testBit r
      · simp
      · rw [h r hr hbr]; rfl
    · have : b.testBit r = false := Nat.testBit_lt_two_pow (Nat.lt_of_lt_of_le hb (by
        have : 2 ^ 64 ≤ 2 ^ r := Nat.pow_le_pow_right (by decide) (by omega)
        simpa using this))
      rw [this]; simp

theorem contB_bits {s t : List Nat} (ht : fits t) (h : ∀ i, i < 64 * t.length → bitB t i = true → bitB s i = true) : contB s t = true := by
  refine contB_true fun q hq => (and_eq_iff (ht q)).2 fun r hr hb => ?_
  have e1 : (64 * q + r) / 64 = q := by omega
  have e2 : (64 * q + r) % 64 = r := by omega
  have := h (64 * q + r) (by omega) (by unfold bitB; rw [e1, e2]; exact hb)
  unfold bitB at this
  rw [e1, e2] at this
  exact this

theorem bits_contB {s t : List Nat} (ht : fits t) (h : contB s t = true) (i : Nat) (hb : bitB t i = true) : bitB s i = true := by
  unfold bitB at *
  exact (and_eq_iff (ht _)).1 ((contB_iff _ _).1 h (i / 64)) (i % 64) (by omega) hb

set_option maxHeartbeats 400000 in
theorem bit_any (a : Option Addr) (n c i : Nat) (s : List Nat) (w : World) (h : Wd w a n s) (hi : i ≤ 1000000000000) :
    Calls Try.prog 34 #[.slice a n c, .int .i64 (i : Nat)] w fun e w' => e = .returned (.bool (bitB s i)) ∧ w = w' := by
  have mx := h.max
  obtain ⟨q, hq⟩ : ∃ q, i / 64 = q := ⟨_, rfl⟩
  obtain ⟨r, hr⟩ : ∃ r, i % 64 = r := ⟨_, rfl⟩
  have hr64 : r < 64 := by omega
  have q1 : (i : Int) / 64 = (q : Int) := by omega
  have r1 : (i : Int) % 64 = (r : Int) := by omega
  have eb : bitB s i = (wd s q).testBit r := by unfold bitB; rw [hq, hr]
  rw [eb]
  clear eb hq hr
  by_cases hlt : q < n
  · obtain ⟨b, o, rfl, hc⟩ := h.at hlt
    have q0 := hc q hlt
    have bl := bit_law (wd s q) r (h.fit q)
    have BL : Hid ((bits .and .u64 ((wd s q : Int) / 2 ^ r) 1 == 1) = (wd s q).testBit r) := bl
    clear bl
    go_enter Try.func34, Try.ntmps34
    go_wp2
    go_ret
    exact ⟨ret_bool BL.out, rfl⟩
  · have hz : (wd s q).testBit r = false := by rw [wd_ge (by have := h.len; omega)]; simp
    rw [hz]
    clear hz
    go_enter Try.func34, Try.ntmps34
    go_wp2
    go_ret
    exact ⟨rfl, rfl⟩

set_option maxHeartbeats 1000000 in
theorem subset_any (a0 a1 : Option Addr) (n0 n1 c0 c1 : Nat) (t s : List Nat) (w : World) (h0 : Wd w a0 n0 t) (h1 : Wd w a1 n1 s) (hn : n0 ≤ 1048576) :
    Calls Try.prog 31 #[.slice a0 n0 c0, .slice a1 n1 c1] w fun e w' => e = .returned (.bool (contB s t)) ∧ w = w' := by
  go_enter Try.func31, Try.ntmps31
  go_wp2
  go_loop [5] (fun i => ∃ k : Nat, k ≤ 64 * n0 ∧ i = .int .i64 k ∧ ∀ j, j < k → bitB t j = true → bitB s j = true) (fun i => 64 * n0 - (intOf i).toNat)
  case atStart => exact ⟨0, by omega, rfl, by omega⟩
  case round =>
    obtain ⟨k, hk, rfl, hall⟩ := hrel
    by_cases hlt : k < 64 * n0
    · have hlt' : (k : Int) < 64 * (n0 : Int) := by omega
      cases hb : bitB t k
      · go_wp2_with fail
        refine (bit_any a0 n0 c0 k t _ h0 (by omega)).mono ?_
        rintro e w' ⟨rfl, rfl⟩
        go_wp2_with fail
        go_round
        case rel => exact ⟨k + 1, by omega, by go_num, fun j hj hbj => by (rcases Nat.lt_succ_iff_lt_or_eq.1 hj with h | rfl); exact hall j h hbj; (rw [hb] at hbj; cases hbj)⟩
        case measure => simp [intOf]; omega
      · cases hs : bitB s k
        · go_wp2_with fail
          refine (bit_any a0 n0 c0 k t _ h0 (by omega)).mono ?_
          rintro e w' ⟨rfl, rfl⟩
          go_wp2_with fail
          refine (bit_any a1 n1 c1 k s _ h1 (by omega)).mono ?_
          rintro e w' ⟨rfl, rfl⟩
          go_wp2_with fail
          go_ret
          refine ⟨ret_bool ?_, rfl⟩
          cases hc : contB s t
          · rfl
          · rw [bits_contB h0.fit hc k hb] at hs; cases hs
        · go_wp2_with fail
          refine (bit_any a0 n0 c0 k t _ h0 (by omega)).mono ?_
          rintro e w' ⟨rfl, rfl⟩
          go_wp2_with fail
          refine (bit_any a1 n1 c1 k s _ h1 (by omega)).mono ?_
          rintro e w' ⟨rfl, rfl⟩
          go_wp2_with fail
          go_round
          case rel => exact ⟨k + 1, by omega, by go_num, fun j hj hbj => by (rcases Nat.lt_succ_iff_lt_or_eq.1 hj with h | rfl); exact hall j h hbj; exact hs⟩
          case measure => simp [intOf]; omega
    · go_wp2_with fail
      go_ret
      exact ⟨ret_bool (contB_bits h0.fit fun i hi => hall i (by have := h0.len; omega)).symm, rfl⟩
end Go.Proofs.Qxb6605213a
