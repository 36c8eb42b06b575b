import Derived.Test.Qxb6605213aMode
namespace Go.Proofs.Qxb6605213a
open Go.RowKit

/-- Where 'lockFindMode' stops. -/
def Hit (ms : List ML) (m j : Nat) : Prop := j < ms.length ∧ (ml ms j).mode = m ∧ ∀ i, i < j → (ml ms i).mode ≠ m
def Miss (ms : List ML) (m : Nat) : Prop := ∀ i, i < ms.length → (ml ms i).mode ≠ m

theorem hit_or_miss (ms : List ML) (m : Nat) : (∃ j, Hit ms m j ∧ findM ms m = (ml ms j, true)) ∨ (Miss ms m ∧ findM ms m = (mlNil, false)) := by
  by_cases h : ∃ k, k ≤ ms.length ∧ (k < ms.length ∧ (ml ms k).mode = m)
  · obtain ⟨k, _, hk⟩ := h
    have key : ∀ n, (∃ j, j < n ∧ Hit ms m j) ∨ ∀ i, i < n → i < ms.length → (ml ms i).mode ≠ m := by
      intro n
      induction n with
      | zero => exact .inr fun i hi => by omega
      | succ n ih =>
        rcases ih with ⟨j, hj, hh⟩ | ih
        · exact .inl ⟨j, by omega, hh⟩
        · by_cases hn : n < ms.length ∧ (ml ms n).mode = m
          · exact .inl ⟨n, by omega, hn.1, hn.2, fun i hi => ih i hi (by omega)⟩
          · refine .inr fun i hi hl => ?_
            rcases Nat.lt_succ_iff_lt_or_eq.1 hi with e | rfl
            · exact ih i e hl
            · exact fun e => hn ⟨hl, e⟩
    rcases key ms.length with ⟨j, _, hh⟩ | hn
    · exact .inl ⟨j, hh, findM_hit hh.1 hh.2.1 hh.2.2⟩
    · exact absurd hk.2 (hn k hk.1 hk.1)
  · have hm : Miss ms m := fun i hi e => h ⟨i, by omega, hi, e⟩
    exact .inr ⟨hm, findM_miss hm⟩

set_option maxHeartbeats 400000 in
theorem find_hit (a : Option Addr) (n c m j : Nat) (ms : List ML) (w : World) (h : Ms w a n ms) (hh : Hit ms m j) :
    Calls Try.prog 23 #[.slice a n c, .int .i64 (m : Nat)] w fun e w' => e = .returned (.int .i64 (j : Nat)) ∧ w = w' := by
  have mx := h.max
  obtain ⟨hj, hm, hbe⟩ := hh
  go_enter Try.func23, Try.ntmps23
  go_wp2
  go_loop [8] (fun i => ∃ k : Nat, k ≤ j ∧ i = .int .i64 k) (fun i => n - (intOf i).toNat)
  case atStart => exact ⟨0, by omega, rfl⟩
  case round =>
    obtain ⟨k, hk, rfl⟩ := hrel
    have hlt : k < n := by have := h.len; omega
    obtain ⟨b, o, rfl, hcell⟩ := h.cell k hlt
    obtain ⟨ra, rn, rc, wa, wn, wc, hl⟩ := hcell k hlt
    have q0 := hl.c0
    have lt := hl.lt
    by_cases e : k = j
    · subst e
      have HM : Hid ((ml ms k).mode = m) := hm
      have e' : (((ml ms k).mode : Int) == (m : Int)) = true := by simp [hm]
      clear hm
      go_wp2
      go_ret
      exact ⟨rfl, rfl⟩
    · have e' : (((ml ms k).mode : Int) == (m : Int)) = false := by have := hbe k (by omega); simp; omega
      clear hm
      go_wp2
      go_round
      case rel => exact ⟨k + 1, by omega, by go_num⟩
      case measure => simp [intOf]; omega

set_option maxHeartbeats 400000 in
theorem find_miss (a : Option Addr) (n c m : Nat) (ms : List ML) (w : World) (h : Ms w a n ms) (hh : Miss ms m) :
    Calls Try.prog 23 #[.slice a n c, .int .i64 (m : Nat)] w fun e w' => e = .returned (.int .i64 (-1)) ∧ w = w' := by
  have mx := h.max
  go_enter Try.func23, Try.ntmps23
  go_wp2
  go_loop [8] (fun i => ∃ k : Nat, k ≤ n ∧ i = .int .i64 k) (fun i => n - (intOf i).toNat)
  case atStart => exact ⟨0, by omega, rfl⟩
  case round =>
    obtain ⟨k, hk, rfl⟩ := hrel
    by_cases hlt : k < n
    · obtain ⟨b, o, rfl, hcell⟩ := h.cell k hlt
      obtain ⟨ra, rn, rc, wa, wn, wc, hl⟩ := hcell k hlt
      have q0 := hl.c0
      have lt := hl.lt
      have e' : (((ml ms k).mode : Int) == (m : Int)) = false := by have := hh k (by have := h.len; omega); simp; omega
      go_wp2
      go_round
      case rel => exact ⟨k + 1, by omega, by go_num⟩
      case measure => simp [intOf]; omega
    · go_wp2
      go_ret
      exact ⟨rfl, rfl⟩
end Go.Proofs.Qxb6605213a
