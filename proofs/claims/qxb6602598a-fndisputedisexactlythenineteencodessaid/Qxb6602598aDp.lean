import Derived.Test.Qxb6602598aMs
import Derived.Test.Qxb6602598aDs
namespace Go.Proofs.Qxb6602598a
open Go.RowKit Go.Deep

theorem conv_any (a : Option Addr) (n c : Nat) (bs : List Nat) (w : World) (h : Bz w a n bs) :
    (convert 22 9 (.slice a n c)).run Try.prog w = .ok (.string ⟨(bs.map UInt8.ofNat).toArray⟩) w := by
  cases a with
  | none =>
    obtain rfl : n = 0 := by
      by_cases h0 : 0 < n
      · obtain ⟨b, o, e, _⟩ := h.cell 0 h0; cases e
      · omega
    have e : bs = [] := List.length_eq_zero_iff.1 h.len
    subst e
    rw [run_convert_bytes_string w 22 9 5 none 0 c Try.underlying22 Try.underlying5 Try.underlying9]
    rfl
  | some x =>
    have hl : (bs.map UInt8.ofNat).length = n := by simp [h.len]
    have := run_convert_bytes_back (P := Try.prog) w 22 9 5 x c (bs.map UInt8.ofNat) Try.underlying22 Try.underlying5 Try.underlying9 (fun j hj => by
      have hj' : j < n := by omega
      obtain ⟨b, o, e, hc⟩ := h.cell j hj'
      obtain rfl := Option.some.inj e
      have k := hc j hj'
      have f := h.fit j
      have hb : j < bs.length := by have := h.len; omega
      have g : bz bs j = bs[j] := by simp [bz, List.getD, hb]
      rw [g] at k f
      have u : (bs.map UInt8.ofNat)[j].toNat = bs[j] := by simp; omega
      rw [u, ← k]
      by_cases z : j = 0
      · subst z; rfl
      · simp [Addr.add, z])
    rw [hl] at this
    exact this

/-- 'disputed', told by the bytes. -/
def disB (n : Nat) (bs : List Nat) : Bool := if n = 4 then disV (key (bz bs 0) (bz bs 1) (bz bs 2) (bz bs 3)) else false

theorem u8n {x : Nat} (h : x < 256) : (UInt8.ofNat x).toNat = x := by simp; omega

theorem dis_any (a : Option Addr) (n c : Nat) (bs : List Nat) (w : World) (h : Bz w a n bs) :
    Calls Try.prog 16 #[.slice a n c] w fun e w' => e = .returned (.bool (disB n bs)) ∧ w' = w := by
  have hcv := conv_any a n c bs w h
  unfold disB
  by_cases h4 : n = 4
  · subst h4
    rw [if_pos rfl]
    obtain ⟨b, o, rfl, _⟩ := h.cell 0 (by omega)
    have hl := h.len
    match bs, hl with
    | [n0, n1, n2, n3], _ =>
      have f0 : n0 < 256 := h.fit 0
      have f1 : n1 < 256 := h.fit 1
      have f2 : n2 < 256 := h.fit 2
      have f3 : n3 < 256 := h.fit 3
      have := dis_four ⟨b, o, none⟩ c (UInt8.ofNat n0) (UInt8.ofNat n1) (UInt8.ofNat n2) (UInt8.ofNat n3) w hcv
      rw [u8n f0, u8n f1, u8n f2, u8n f3] at this
      exact this
  · rw [if_neg h4]
    exact dis_other a n c h4 (bs.map UInt8.ofNat) (by simp [h.len]) w hcv

set_option maxHeartbeats 400000 in
theorem zdis_any (a : Option Addr) (n c : Nat) (bs : List Nat) (w : World) (h : Bz w a n bs) :
    Calls Try.prog 14 #[.slice a n c] w fun e w' => e = .returned (.bool (disB n bs)) ∧ w' = w := by
  go_enter Try.func14, Try.ntmps14
  go_wp2_with fail
  refine (dis_any a n c bs _ h).mono ?_
  rintro e w' ⟨rfl, rfl⟩
  go_wp2_with fail
  go_ret
  exact ⟨rfl, rfl⟩

theorem cmp_zero {x0 x1 x2 x3 y0 y1 y2 y3 : Int} : cmpV x0 x1 x2 x3 y0 y1 y2 y3 = 0 ↔ x0 = y0 ∧ x1 = y1 ∧ x2 = y2 ∧ x3 = y3 := by
  unfold cmpV
  by_cases a0 : x0 < y0
  · rw [if_pos a0]; omega
  rw [if_neg a0]
  by_cases c0 : y0 < x0
  · rw [if_pos c0]; omega
  rw [if_neg c0]
  by_cases a1 : x1 < y1
  · rw [if_pos a1]; omega
  rw [if_neg a1]
  by_cases c1 : y1 < x1
  · rw [if_pos c1]; omega
  rw [if_neg c1]
  by_cases a2 : x2 < y2
  · rw [if_pos a2]; omega
  rw [if_neg a2]
  by_cases c2 : y2 < x2
  · rw [if_pos c2]; omega
  rw [if_neg c2]
  by_cases a3 : x3 < y3
  · rw [if_pos a3]; omega
  rw [if_neg a3]
  by_cases c3 : y3 < x3
  · rw [if_pos c3]; omega
  rw [if_neg c3]
  omega

/-- Code number k is the four bytes. -/
def hit (k : Nat) (b0 b1 b2 b3 : Nat) : Prop := cmpV (cd k).1 (cd k).2.1 (cd k).2.2.1 (cd k).2.2.2 (b0 : Nat) (b1 : Nat) (b2 : Nat) (b3 : Nat) = 0

theorem hit_dis {k b0 b1 b2 b3 : Nat} (hk : k < 19) (h : hit k b0 b1 b2 b3) : disV (key b0 b1 b2 b3) = true := by
  unfold hit at h
  rw [cmp_zero] at h
  unfold disV key
  apply decide_eq_true
  rcases (show k = 0 ∨ k = 1 ∨ k = 2 ∨ k = 3 ∨ k = 4 ∨ k = 5 ∨ k = 6 ∨ k = 7 ∨ k = 8 ∨ k = 9 ∨ k = 10 ∨ k = 11 ∨ k = 12 ∨ k = 13 ∨ k = 14 ∨ k = 15 ∨ k = 16 ∨ k = 17 ∨ k = 18 by omega) with rfl | rfl | rfl | rfl | rfl | rfl | rfl | rfl | rfl | rfl | rfl | rfl | rfl | rfl | rfl | rfl | rfl | rfl | rfl <;>
  · simp [cd, cds] at h
    omega

theorem miss_dis {b0 b1 b2 b3 : Nat} (r0 : b0 < 256) (r1 : b1 < 256) (r2 : b2 < 256) (r3 : 48 ≤ b3 ∧ b3 ≤ 57) (h : ∀ k, k < 19 → ¬ hit k b0 b1 b2 b3) : disV (key b0 b1 b2 b3) = false := by
  unfold disV
  apply decide_eq_false
  intro d
  unfold hit at h
  simp only [cmp_zero] at h
  unfold key at d
  rcases d with d | d | d
  · have e : b0 = 129 ∧ b1 = 53 ∧ b2 = 244 ∧ b3 = 55 := by omega
    obtain ⟨rfl, rfl, rfl, rfl⟩ := e
    exact h 0 (by omega) ⟨rfl, rfl, rfl, rfl⟩
  · have e : b0 = 130 ∧ b1 = 53 ∧ (b2 = 144 ∨ b2 = 145) := by omega
    obtain ⟨rfl, rfl, rfl | rfl⟩ := e
    · have e3 : b3 = 55 ∨ b3 = 56 ∨ b3 = 57 := by omega
      rcases e3 with rfl | rfl | rfl
      · exact h 1 (by omega) ⟨rfl, rfl, rfl, rfl⟩
      · exact h 2 (by omega) ⟨rfl, rfl, rfl, rfl⟩
      · exact h 3 (by omega) ⟨rfl, rfl, rfl, rfl⟩
    · have e3 : b3 = 48 ∨ b3 = 49 ∨ b3 = 50 ∨ b3 = 51 ∨ b3 = 52 := by omega
      rcases e3 with rfl | rfl | rfl | rfl | rfl
      · exact h 4 (by omega) ⟨rfl, rfl, rfl, rfl⟩
      · exact h 5 (by omega) ⟨rfl, rfl, rfl, rfl⟩
      · exact h 6 (by omega) ⟨rfl, rfl, rfl, rfl⟩
      · exact h 7 (by omega) ⟨rfl, rfl, rfl, rfl⟩
      · exact h 8 (by omega) ⟨rfl, rfl, rfl, rfl⟩
  · have e : b0 = 132 ∧ b1 = 49 ∧ (b2 = 130 ∨ b2 = 131) := by omega
    obtain ⟨rfl, rfl, rfl | rfl⟩ := e
    · have e3 : b3 = 54 ∨ b3 = 55 ∨ b3 = 56 ∨ b3 = 57 := by omega
      rcases e3 with rfl | rfl | rfl | rfl
      · exact h 9 (by omega) ⟨rfl, rfl, rfl, rfl⟩
      · exact h 10 (by omega) ⟨rfl, rfl, rfl, rfl⟩
      · exact h 11 (by omega) ⟨rfl, rfl, rfl, rfl⟩
      · exact h 12 (by omega) ⟨rfl, rfl, rfl, rfl⟩
    · have e3 : b3 = 48 ∨ b3 = 49 ∨ b3 = 50 ∨ b3 = 51 ∨ b3 = 52 ∨ b3 = 53 := by omega
      rcases e3 with rfl | rfl | rfl | rfl | rfl | rfl
      · exact h 13 (by omega) ⟨rfl, rfl, rfl, rfl⟩
      · exact h 14 (by omega) ⟨rfl, rfl, rfl, rfl⟩
      · exact h 15 (by omega) ⟨rfl, rfl, rfl, rfl⟩
      · exact h 16 (by omega) ⟨rfl, rfl, rfl, rfl⟩
      · exact h 17 (by omega) ⟨rfl, rfl, rfl, rfl⟩
      · exact h 18 (by omega) ⟨rfl, rfl, rfl, rfl⟩
end Go.Proofs.Qxb6602598a
