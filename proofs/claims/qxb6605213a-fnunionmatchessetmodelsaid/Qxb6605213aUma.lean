import Derived.Test.Qxb6605213aBit
import Derived.Test.Qxb6605213aFind
import Derived.Test.Qxb6605213aMake
namespace Go.Proofs.Qxb6605213a
open Go.RowKit Go.Deep

theorem bit_at (a : Option Addr) (n c i : Nat) (s : List Nat) (r : Bool) (hr : bitB s i = r) (w : World) (h : Wd w a n s) (hi : i ≤ 1000000000000) :
    Calls Try.prog 34 #[.slice a n c, .int .i64 (i : Nat)] w fun e w' => e = .returned (.bool r) ∧ w = w' := by
  rw [← hr]; exact bit_any a n c i s w h hi

/-- u holds just what x and y hold. -/
def IsUni (u x y : List Nat) : Prop := ∀ q, wd u q = wd x q ||| wd y q

theorem IsUni.bit {u x y : List Nat} (h : IsUni u x y) (i : Nat) : bitB u i = (bitB x i || bitB y i) := by
  unfold bitB; rw [h, Nat.testBit_or]

set_option maxHeartbeats 2000000 in
theorem um_any (a0 a1 a2 : Option Addr) (n0 n1 n2 c0 c1 c2 : Nat) (u x y : List Nat) (w : World) (h0 : Wd w a0 n0 u) (h1 : Wd w a1 n1 x) (h2 : Wd w a2 n2 y) (hu : IsUni u x y)
    (s0 : n0 ≤ 1048576) (s1 : n1 ≤ 1048576) (s2 : n2 ≤ 1048576) :
    Calls Try.prog 18 #[.slice a0 n0 c0, .slice a1 n1 c1, .slice a2 n2 c2] w fun e w' => e = .returned (.bool true) ∧ w = w' := by
  have HB : Hid (∀ i, bitB u i = (bitB x i || bitB y i)) := hu.bit
  by_cases t1 : (n0 : Int) < n1
  · by_cases t2 : (n1 : Int) < n2
    · go_enter Try.func18, Try.ntmps18
      go_wp2
      go_loop [8] (fun i => ∃ k : Nat, k ≤ 64 * n2 ∧ i = .int .i64 k) (fun i => 64 * n2 - (intOf i).toNat)
      case atStart => exact ⟨0, by omega, rfl⟩
      case round =>
        obtain ⟨k, hk, rfl⟩ := hrel
        by_cases hlt : k < 64 * n2
        · have hlt' : (k : Int) < 64 * (n2 : Int) := by omega
          have hu := HB.out k
          cases hx : bitB x k
          · cases hy : bitB y k
            · rw [hx, hy] at hu
              go_wp2_with fail
              refine (bit_at a0 n0 c0 k u false hu _ h0 (by omega)).mono ?_
              rintro e w' ⟨rfl, rfl⟩
              go_wp2_with fail
              refine (bit_at a1 n1 c1 k x false hx _ h1 (by omega)).mono ?_
              rintro e w' ⟨rfl, rfl⟩
              go_wp2_with fail
              refine (bit_at a2 n2 c2 k y false hy _ h2 (by omega)).mono ?_
              rintro e w' ⟨rfl, rfl⟩
              go_wp2_with fail
              go_round
              case rel => exact ⟨k + 1, by omega, by go_num⟩
              case measure => simp [intOf]; omega
            · rw [hx, hy] at hu
              go_wp2_with fail
              refine (bit_at a0 n0 c0 k u true hu _ h0 (by omega)).mono ?_
              rintro e w' ⟨rfl, rfl⟩
              go_wp2_with fail
              refine (bit_at a1 n1 c1 k x false hx _ h1 (by omega)).mono ?_
              rintro e w' ⟨rfl, rfl⟩
              go_wp2_with fail
              refine (bit_at a2 n2 c2 k y true hy _ h2 (by omega)).mono ?_
              rintro e w' ⟨rfl, rfl⟩
              go_wp2_with fail
              go_round
              case rel => exact ⟨k + 1, by omega, by go_num⟩
              case measure => simp [intOf]; omega
          · rw [hx, Bool.true_or] at hu
            go_wp2_with fail
            refine (bit_at a0 n0 c0 k u true hu _ h0 (by omega)).mono ?_
            rintro e w' ⟨rfl, rfl⟩
            go_wp2_with fail
            refine (bit_at a1 n1 c1 k x true hx _ h1 (by omega)).mono ?_
            rintro e w' ⟨rfl, rfl⟩
            go_wp2_with fail
            go_round
            case rel => exact ⟨k + 1, by omega, by go_num⟩
            case measure => simp [intOf]; omega
        · go_wp2_with fail
          go_ret
          exact ⟨rfl, rfl⟩
    · go_enter Try.func18, Try.ntmps18
      go_wp2
      go_loop [8] (fun i => ∃ k : Nat, k ≤ 64 * n1 ∧ i = .int .i64 k) (fun i => 64 * n1 - (intOf i).toNat)
      case atStart => exact ⟨0, by omega, rfl⟩
      case round =>
        obtain ⟨k, hk, rfl⟩ := hrel
        by_cases hlt : k < 64 * n1
        · have hlt' : (k : Int) < 64 * (n1 : Int) := by omega
          have hu := HB.out k
          cases hx : bitB x k
          · cases hy : bitB y k
            · rw [hx, hy] at hu
              go_wp2_with fail
              refine (bit_at a0 n0 c0 k u false hu _ h0 (by omega)).mono ?_
              rintro e w' ⟨rfl, rfl⟩
              go_wp2_with fail
              refine (bit_at a1 n1 c1 k x false hx _ h1 (by omega)).mono ?_
              rintro e w' ⟨rfl, rfl⟩
              go_wp2_with fail
              refine (bit_at a2 n2 c2 k y false hy _ h2 (by omega)).mono ?_
              rintro e w' ⟨rfl, rfl⟩
              go_wp2_with fail
              go_round
              case rel => exact ⟨k + 1, by omega, by go_num⟩
              case measure => simp [intOf]; omega
            · rw [hx, hy] at hu
              go_wp2_with fail
              refine (bit_at a0 n0 c0 k u true hu _ h0 (by omega)).mono ?_
              rintro e w' ⟨rfl, rfl⟩
              go_wp2_with fail
              refine (bit_at a1 n1 c1 k x false hx _ h1 (by omega)).mono ?_
              rintro e w' ⟨rfl, rfl⟩
              go_wp2_with fail
              refine (bit_at a2 n2 c2 k y true hy _ h2 (by omega)).mono ?_
              rintro e w' ⟨rfl, rfl⟩
              go_wp2_with fail
              go_round
              case rel => exact ⟨k + 1, by omega, by go_num⟩
              case measure => simp [intOf]; omega
          · rw [hx, Bool.true_or] at hu
            go_wp2_with fail
            refine (bit_at a0 n0 c0 k u true hu _ h0 (by omega)).mono ?_
            rintro e w' ⟨rfl, rfl⟩
            go_wp2_with fail
            refine (bit_at a1 n1 c1 k x true hx _ h1 (by omega)).mono ?_
            rintro e w' ⟨rfl, rfl⟩
            go_wp2_with fail
            go_round
            case rel => exact ⟨k + 1, by omega, by go_num⟩
            case measure => simp [intOf]; omega
        · go_wp2_with fail
          go_ret
          exact ⟨rfl, rfl⟩
  · by_cases t2 : (n0 : Int) < n2
    · go_enter Try.func18, Try.ntmps18
      go_wp2
      go_loop [8] (fun i => ∃ k : Nat, k ≤ 64 * n2 ∧ i = .int .i64 k) (fun i => 64 * n2 - (intOf i).toNat)
      case atStart => exact ⟨0, by omega, rfl⟩
      case round =>
        obtain ⟨k, hk, rfl⟩ := hrel
        by_cases hlt : k < 64 * n2
        · have hlt' : (k : Int) < 64 * (n2 : Int) := by omega
          have hu := HB.out k
          cases hx : bitB x k
          · cases hy : bitB y k
            · rw [hx, hy] at hu
              go_wp2_with fail
              refine (bit_at a0 n0 c0 k u false hu _ h0 (by omega)).mono ?_
              rintro e w' ⟨rfl, rfl⟩
              go_wp2_with fail
              refine (bit_at a1 n1 c1 k x false hx _ h1 (by omega)).mono ?_
              rintro e w' ⟨rfl, rfl⟩
              go_wp2_with fail
              refine (bit_at a2 n2 c2 k y false hy _ h2 (by omega)).mono ?_
              rintro e w' ⟨rfl, rfl⟩
              go_wp2_with fail
              go_round
              case rel => exact ⟨k + 1, by omega, by go_num⟩
              case measure => simp [intOf]; omega
            · rw [hx, hy] at hu
              go_wp2_with fail
              refine (bit_at a0 n0 c0 k u true hu _ h0 (by omega)).mono ?_
              rintro e w' ⟨rfl, rfl⟩
              go_wp2_with fail
              refine (bit_at a1 n1 c1 k x false hx _ h1 (by omega)).mono ?_
              rintro e w' ⟨rfl, rfl⟩
              go_wp2_with fail
              refine (bit_at a2 n2 c2 k y true hy _ h2 (by omega)).mono ?_
              rintro e w' ⟨rfl, rfl⟩
              go_wp2_with fail
              go_round
              case rel => exact ⟨k + 1, by omega, by go_num⟩
              case measure => simp [intOf]; omega
          · rw [hx, Bool.true_or] at hu
            go_wp2_with fail
            refine (bit_at a0 n0 c0 k u true hu _ h0 (by omega)).mono ?_
            rintro e w' ⟨rfl, rfl⟩
            go_wp2_with fail
            refine (bit_at a1 n1 c1 k x true hx _ h1 (by omega)).mono ?_
            rintro e w' ⟨rfl, rfl⟩
            go_wp2_with fail
            go_round
            case rel => exact ⟨k + 1, by omega, by go_num⟩
            case measure => simp [intOf]; omega
        · go_wp2_with fail
          go_ret
          exact ⟨rfl, rfl⟩
    · go_enter Try.func18, Try.ntmps18
      go_wp2
      go_loop [8] (fun i => ∃ k : Nat, k ≤ 64 * n0 ∧ i = .int .i64 k) (fun i => 64 * n0 - (intOf i).toNat)
      case atStart => exact ⟨0, by omega, rfl⟩
      case round =>
        obtain ⟨k, hk, rfl⟩ := hrel
        by_cases hlt : k < 64 * n0
        · have hlt' : (k : Int) < 64 * (n0 : Int) := by omega
          have hu := HB.out k
          cases hx : bitB x k
          · cases hy : bitB y k
            · rw [hx, hy] at hu
              go_wp2_with fail
              refine (bit_at a0 n0 c0 k u false hu _ h0 (by omega)).mono ?_
              rintro e w' ⟨rfl, rfl⟩
              go_wp2_with fail
              refine (bit_at a1 n1 c1 k x false hx _ h1 (by omega)).mono ?_
              rintro e w' ⟨rfl, rfl⟩
              go_wp2_with fail
              refine (bit_at a2 n2 c2 k y false hy _ h2 (by omega)).mono ?_
              rintro e w' ⟨rfl, rfl⟩
              go_wp2_with fail
              go_round
              case rel => exact ⟨k + 1, by omega, by go_num⟩
              case measure => simp [intOf]; omega
            · rw [hx, hy] at hu
              go_wp2_with fail
              refine (bit_at a0 n0 c0 k u true hu _ h0 (by omega)).mono ?_
              rintro e w' ⟨rfl, rfl⟩
              go_wp2_with fail
              refine (bit_at a1 n1 c1 k x false hx _ h1 (by omega)).mono ?_
              rintro e w' ⟨rfl, rfl⟩
              go_wp2_with fail
              refine (bit_at a2 n2 c2 k y true hy _ h2 (by omega)).mono ?_
              rintro e w' ⟨rfl, rfl⟩
              go_wp2_with fail
              go_round
              case rel => exact ⟨k + 1, by omega, by go_num⟩
              case measure => simp [intOf]; omega
          · rw [hx, Bool.true_or] at hu
            go_wp2_with fail
            refine (bit_at a0 n0 c0 k u true hu _ h0 (by omega)).mono ?_
            rintro e w' ⟨rfl, rfl⟩
            go_wp2_with fail
            refine (bit_at a1 n1 c1 k x true hx _ h1 (by omega)).mono ?_
            rintro e w' ⟨rfl, rfl⟩
            go_wp2_with fail
            go_round
            case rel => exact ⟨k + 1, by omega, by go_num⟩
            case measure => simp [intOf]; omega
        · go_wp2_with fail
          go_ret
          exact ⟨rfl, rfl⟩

set_option maxHeartbeats 400000 in
theorem accR_any (a0 a1 a2 : Option Addr) (n0 n1 n2 c0 c1 c2 : Nat) (w : World) :
    Calls Try.prog 19 #[.agg #[.slice a0 n0 c0, .slice a1 n1 c1, .slice a2 n2 c2]] w fun e w' => e = .returned (.slice a0 n0 c0) ∧ Below w.heap.size w w' := by
  go_enter Try.func19, Try.ntmps19
  go_wp2
  go_ret
  exact ⟨rfl, (Below.refl _ _).alloc (Nat.le_refl _) _⟩

set_option maxHeartbeats 400000 in
theorem accW_any (a0 a1 a2 : Option Addr) (n0 n1 n2 c0 c1 c2 : Nat) (w : World) :
    Calls Try.prog 20 #[.agg #[.slice a0 n0 c0, .slice a1 n1 c1, .slice a2 n2 c2]] w fun e w' => e = .returned (.slice a1 n1 c1) ∧ Below w.heap.size w w' := by
  go_enter Try.func20, Try.ntmps20
  go_wp2
  go_ret
  exact ⟨rfl, (Below.refl _ _).alloc (Nat.le_refl _) _⟩

set_option maxHeartbeats 400000 in
theorem accM_any (a0 a1 a2 : Option Addr) (n0 n1 n2 c0 c1 c2 : Nat) (w : World) :
    Calls Try.prog 21 #[.agg #[.slice a0 n0 c0, .slice a1 n1 c1, .slice a2 n2 c2]] w fun e w' => e = .returned (.slice a2 n2 c2) ∧ Below w.heap.size w w' := by
  go_enter Try.func21, Try.ntmps21
  go_wp2
  go_ret
  exact ⟨rfl, (Below.refl _ _).alloc (Nat.le_refl _) _⟩

set_option maxHeartbeats 400000 in
theorem fields_any (m : Int) (wh : Bool) (a1 a2 : Option Addr) (n1 n2 c1 c2 : Nat) (w : World) :
    Calls Try.prog 22 #[.agg #[.int .u8 m, .bool wh, .slice a1 n1 c1, .slice a2 n2 c2]] w fun e w' => e = .returned (.tuple #[.int .u8 m, .bool wh, .slice a1 n1 c1, .slice a2 n2 c2]) ∧ Below w.heap.size w w' := by
  go_enter Try.func22, Try.ntmps22
  go_wp2
  go_quiet (fail)
  go_wp2
  exact bodyPost_ret (v := .tuple #[.int .u8 m, .bool wh, .slice a1 n1 c1, .slice a2 n2 c2]) (by simp [results, Try.results22, go_sem]) rfl ⟨rfl, below_drewN ((Below.refl _ _).alloc (Nat.le_refl _) _) _⟩

set_option maxHeartbeats 400000 in
theorem findU_hit (a : Option Addr) (n c m j : Nat) (ms : List ML) (w : World) (h : Ms w a n ms) (hh : Hit ms m j) :
    Calls Try.prog 24 #[.slice a n c, .int .i64 (m : Nat)] w fun e w' => e = .returned (.int .i64 (j : Nat)) ∧ Below w.heap.size w w' := by
  have mx := h.max
  obtain ⟨hj, hm, hbe⟩ := hh
  go_enter Try.func24, Try.ntmps24
  go_wp2
  go_loopw [12] (fun i wr => ∃ k : Nat, k ≤ j ∧ i = .int .i64 k ∧ Below w.heap.size w wr) (fun i _ => n - (intOf i).toNat)
  case atStart => exact ⟨0, by omega, rfl, Below.refl _ _⟩
  case round =>
    obtain ⟨k, hk, rfl, hb⟩ := hrel
    have hlt : k < n := by have := h.len; omega
    obtain ⟨b, o, rfl, hcell⟩ := h.cell k hlt
    obtain ⟨ra, rn, rc, wa, wn, wc, hl⟩ := hcell k hlt
    obtain ⟨q0, q1, q2, q3, _, _, lt⟩ := hl.below hb
    by_cases e : k = j
    · subst e
      have HM : Hid ((ml ms k).mode = m) := hm
      have e' : (((ml ms k).mode : Int) == (m : Int)) = true := by simp [hm]
      clear hm
      go_wp2_with fail
      refine (fields_any _ _ _ _ _ _ _ _ _).mono ?_
      rintro e w1 ⟨rfl, hb1⟩
      go_wp2_with fail
      go_ret
      exact ⟨rfl, below_step hb1 hb⟩
    · have e' : (((ml ms k).mode : Int) == (m : Int)) = false := by have := hbe k (by omega); simp; omega
      clear hm
      go_wp2_with fail
      refine (fields_any _ _ _ _ _ _ _ _ _).mono ?_
      rintro e w1 ⟨rfl, hb1⟩
      go_wp2_with fail
      go_roundw
      case rel => exact ⟨k + 1, by omega, by go_num, below_step hb1 hb⟩
      case measure => simp [intOf]; omega

set_option maxHeartbeats 400000 in
theorem findU_miss (a : Option Addr) (n c m : Nat) (ms : List ML) (w : World) (h : Ms w a n ms) (hh : Miss ms m) :
    Calls Try.prog 24 #[.slice a n c, .int .i64 (m : Nat)] w fun e w' => e = .returned (.int .i64 (-1)) ∧ Below w.heap.size w w' := by
  have mx := h.max
  go_enter Try.func24, Try.ntmps24
  go_wp2
  go_loopw [12] (fun i wr => ∃ k : Nat, k ≤ n ∧ i = .int .i64 k ∧ Below w.heap.size w wr) (fun i _ => n - (intOf i).toNat)
  case atStart => exact ⟨0, by omega, rfl, Below.refl _ _⟩
  case round =>
    obtain ⟨k, hk, rfl, hb⟩ := hrel
    by_cases hlt : k < n
    · obtain ⟨b, o, rfl, hcell⟩ := h.cell k hlt
      obtain ⟨ra, rn, rc, wa, wn, wc, hl⟩ := hcell k hlt
      obtain ⟨q0, q1, q2, q3, _, _, lt⟩ := hl.below hb
      have e' : (((ml ms k).mode : Int) == (m : Int)) = false := by have := hh k (by have := h.len; omega); simp; omega
      go_wp2_with fail
      refine (fields_any _ _ _ _ _ _ _ _ _).mono ?_
      rintro e w1 ⟨rfl, hb1⟩
      go_wp2_with fail
      go_roundw
      case rel => exact ⟨k + 1, by omega, by go_num, below_step hb1 hb⟩
      case measure => simp [intOf]; omega
    · go_wp2_with fail
      go_ret
      exact ⟨rfl, hb⟩
end Go.Proofs.Qxb6605213a
