import Derived.Laws.Bits64b
namespace Go.Proofs.Qxb6605213a

/-- Word i of a set of words; behind its end: 0. -/
def wd (s : List Nat) (i : Nat) : Nat := s.getD i 0

/-- Every word is a uint64. -/
def fits (s : List Nat) : Prop := ∀ i, wd s i < 18446744073709551616

/-- 'contains': every word of t lies in the like word of s. -/
def contB (s t : List Nat) : Bool := (List.range t.length).all fun i => wd s i &&& wd t i == wd t i

theorem wd_ge {s : List Nat} {i : Nat} (h : s.length ≤ i) : wd s i = 0 := by
  simp [wd, List.getD, h]

theorem wd_lt {s : List Nat} {i : Nat} (h : i < s.length) : wd s i = s[i] := by
  simp [wd, List.getD, h]

theorem fits_of {s : List Nat} (h : ∀ z ∈ s, z < 18446744073709551616) : fits s := by
  intro i
  by_cases hi : i < s.length
  · rw [wd_lt hi]; exact h _ (List.getElem_mem hi)
  · rw [wd_ge (by omega)]; decide

theorem contB_iff (s t : List Nat) : contB s t = true ↔ ∀ i, wd s i &&& wd t i = wd t i := by
  simp only [contB, List.all_eq_true, List.mem_range, beq_iff_eq]
  constructor
  · intro h i
    by_cases hi : i < t.length
    · exact h i hi
    · rw [wd_ge (s := t) (by omega)]; simp
  · intro h i _; exact h i

theorem contB_refl (s : List Nat) : contB s s = true := by
  rw [contB_iff]; intro i; exact Nat.and_self _

theorem contB_trans {a b c : List Nat} (h : contB a b = true) (k : contB b c = true) : contB a c = true := by
  rw [contB_iff] at *
  intro i
  have h1 := h i
  have h2 := k i
  rw [← h2, ← Nat.and_assoc, h1]

theorem contB_false {s t : List Nat} {i : Nat} (h : ¬ wd s i &&& wd t i = wd t i) : contB s t = false := by
  rw [Bool.eq_false_iff]; intro e; exact h ((contB_iff s t).1 e i)

theorem contB_true {s t : List Nat} (h : ∀ i, i < t.length → wd s i &&& wd t i = wd t i) : contB s t = true := by
  simp only [contB, List.all_eq_true, List.mem_range, beq_iff_eq]; exact h

/-- The walk's own test. -/
theorem and_ne_true {a b : Nat} (ha : a < 18446744073709551616) (hb : b < 18446744073709551616) (h : ¬ a &&& b = b) : (bits .and .u64 (a : Int) (b : Int) != (b : Int)) = true := by
  rw [bits_and_u64_nat a b ha hb]
  simp; omega

theorem and_ne_false {a b : Nat} (ha : a < 18446744073709551616) (hb : b < 18446744073709551616) (h : a &&& b = b) : (bits .and .u64 (a : Int) (b : Int) != (b : Int)) = false := by
  rw [bits_and_u64_nat a b ha hb, h]
  simp

end Go.Proofs.Qxb6605213a
