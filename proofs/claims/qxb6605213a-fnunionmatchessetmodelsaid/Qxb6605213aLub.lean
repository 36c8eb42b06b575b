import Derived.Test.Qxb6605213aUnion
namespace Go.Proofs.Qxb6605213a
open Go.RowKit Go.Deep

theorem contB_uniW_left (s t : List Nat) : contB (uniW s t) s = true := by
  rw [contB_iff]; intro i; rw [wd_uniW]
  apply Nat.eq_of_testBit_eq
  intro j
  rw [Nat.testBit_and, Nat.testBit_or]
  cases (wd s i).testBit j <;> simp

theorem contB_uniW_right (s t : List Nat) : contB (uniW s t) t = true := by
  rw [uniW_comm]; exact contB_uniW_left t s

theorem contB_uniW {c s t : List Nat} (h : contB c s = true) (k : contB c t = true) : contB c (uniW s t) = true := by
  rw [contB_iff] at *
  intro i
  rw [wd_uniW, Nat.and_or_distrib_left, h i, k i]

theorem mlCov_uni_left (l k : ML) : mlCov (mlUni l k) l = true := by
  unfold mlUni
  by_cases h : (l.whole || k.whole) = true
  · rw [if_pos h]; simp [mlCov]
  · rw [if_neg h]
    simp at h
    simp [mlCov, h.1, contB_uniW_left]

theorem mlCov_uni_right (l k : ML) : mlCov (mlUni l k) k = true := by
  unfold mlUni
  by_cases h : (l.whole || k.whole) = true
  · rw [if_pos h]; simp [mlCov]
  · rw [if_neg h]
    simp at h
    simp [mlCov, h.2, contB_uniW_right]

theorem mlCov_uni {c l k : ML} (h : mlCov c l = true) (g : mlCov c k = true) : mlCov c (mlUni l k) = true := by
  unfold mlUni
  by_cases hw : (l.whole || k.whole) = true
  · rw [if_pos hw]
    simp only [mlCov, Bool.or_eq_true, Bool.and_eq_true, Bool.not_eq_true'] at *
    rcases h with h | h
    · exact .inl h
    · rcases g with g | g
      · exact .inl g
      · rw [h.1.1, g.1.1] at hw; simp at hw
  · rw [if_neg hw]
    simp only [mlCov, Bool.or_eq_true, Bool.and_eq_true, Bool.not_eq_true'] at *
    rcases h with h | h
    · exact .inl h
    · rcases g with g | g
      · exact .inl g
      · exact .inr ⟨⟨by simp at hw; simp, contB_uniW h.1.2 g.1.2⟩, contB_uniW h.2 g.2⟩

theorem uAt_mode {A B : Acc} {m : Nat} {x : ML} (h : x ∈ uAt A B m) : x.mode = m := by
  unfold uAt at h
  split at h
  · rename_i l k e1 e2; simp at h; subst h; rw [mlUni_mode]; exact (findM_some e1).2
  · rename_i l _ e1 _; simp at h; subst h; exact (findM_some e1).2
  · rename_i _ k _ e2; simp at h; subst h; exact (findM_some e2).2
  · simp at h

theorem uModes_mode {A B : Acc} {x : ML} : ∀ {K : Nat}, x ∈ uModes A B K → x.mode < K ∧ x ∈ uAt A B x.mode
  | 0, h => by simp [uModes] at h
  | K + 1, h => by
    simp only [uModes, List.mem_append] at h
    rcases h with h | h
    · have := uModes_mode h; exact ⟨by omega, this.2⟩
    · have e := uAt_mode h; rw [e]; exact ⟨by omega, h⟩

theorem findM_none {ms : List ML} {m : Nat} (h : ∀ x ∈ ms, x.mode ≠ m) : ms.find? (fun l => l.mode == m) = none := by
  rw [List.find?_eq_none]; intro x hx; simpa using h x hx

theorem findM_uModes (A B : Acc) : ∀ (K m : Nat), m < K → findM (uModes A B K) m = findM (uAt A B m) m
  | 0, m, h => by omega
  | K + 1, m, h => by
    unfold findM
    simp only [uModes, List.find?_append]
    by_cases e : m = K
    · subst e
      rw [findM_none (ms := uModes A B m) fun x hx => by have := (uModes_mode hx).1; omega]
      rfl
    · have ih := findM_uModes A B K m (by omega)
      unfold findM at ih
      rw [findM_none (ms := uAt A B K) fun x hx => by rw [uAt_mode hx]; omega]
      rw [Option.or_none]
      exact ih

/-- What a finished union covers: everything in a's modes. -/
theorem findM_one (x : ML) (m : Nat) (h : x.mode = m) : findM [x] m = (x, true) := by simp [findM, h]

theorem covU_left {A B : Acc} (va : Valid A.modes) : covB ⟨uniW A.read B.read, uniW A.write B.write, uModes A B 14⟩ A = true := by
  rw [covB_iff]
  refine ⟨contB_uniW_left _ _, contB_uniW_left _ _, fun l hl => ?_⟩
  obtain ⟨j, hj, rfl⟩ := List.getElem_of_mem hl
  rw [← ml_lt hj]
  have hm := (va j hj).1
  have fa := findM_self va hj
  rw [mCov_iff]
  simp only
  rw [findM_uModes A B 14 _ hm]
  rcases hb : findM B.modes (ml A.modes j).mode with ⟨k, b⟩
  cases b
  · refine ⟨ml A.modes j, ?_, mlCov_refl _⟩
    simp only [uAt, fa, hb]
    exact findM_one _ _ rfl
  · refine ⟨mlUni (ml A.modes j) k, ?_, mlCov_uni_left _ _⟩
    simp only [uAt, fa, hb]
    exact findM_one _ _ (mlUni_mode _ _)

theorem covU_right {A B : Acc} (vb : Valid B.modes) : covB ⟨uniW A.read B.read, uniW A.write B.write, uModes A B 14⟩ B = true := by
  rw [covB_iff]
  refine ⟨contB_uniW_right _ _, contB_uniW_right _ _, fun l hl => ?_⟩
  obtain ⟨j, hj, rfl⟩ := List.getElem_of_mem hl
  rw [← ml_lt hj]
  have hm := (vb j hj).1
  have fb := findM_self vb hj
  rw [mCov_iff]
  simp only
  rw [findM_uModes A B 14 _ hm]
  rcases ha : findM A.modes (ml B.modes j).mode with ⟨k, b⟩
  cases b
  · refine ⟨ml B.modes j, ?_, mlCov_refl _⟩
    simp only [uAt, fb, ha]
    exact findM_one _ _ rfl
  · refine ⟨mlUni k (ml B.modes j), ?_, mlCov_uni_right _ _⟩
    simp only [uAt, fb, ha]
    exact findM_one _ _ (by rw [mlUni_mode]; exact (findM_some ha).2)

theorem covU_least {A B C : Acc} (h : covB C A = true) (g : covB C B = true) : covB C ⟨uniW A.read B.read, uniW A.write B.write, uModes A B 14⟩ = true := by
  rw [covB_iff] at *
  refine ⟨contB_uniW h.1 g.1, contB_uniW h.2.1 g.2.1, fun x hx => ?_⟩
  have hx2 := (uModes_mode hx).2
  have hxm := uAt_mode hx2
  rw [mCov_iff]
  unfold uAt at hx2
  split at hx2
  · rename_i l k e1 e2
    simp at hx2
    obtain ⟨hl, el⟩ := findM_some e1
    obtain ⟨hk, ek⟩ := findM_some e2
    obtain ⟨c, ec, hc⟩ := (mCov_iff _ _).1 (h.2.2 l hl)
    obtain ⟨d, ed, hd⟩ := (mCov_iff _ _).1 (g.2.2 k hk)
    rw [el] at ec
    rw [ek, ec] at ed
    cases ed
    exact ⟨c, ec, by rw [hx2]; exact mlCov_uni hc hd⟩
  · rename_i l _ e1 _
    simp at hx2
    obtain ⟨hl, el⟩ := findM_some e1
    rw [← hx2] at hl
    exact (mCov_iff _ _).1 (h.2.2 x hl)
  · rename_i _ k _ e2
    simp at hx2
    obtain ⟨hk, ek⟩ := findM_some e2
    rw [← hx2] at hk
    exact (mCov_iff _ _).1 (g.2.2 x hk)
  · simp at hx2

theorem uAcc_left {A B : Acc} (va : Valid A.modes) : covB (uAcc A B) A = true := by
  unfold uAcc
  split
  · exact covB_refl va
  · split
    · assumption
    · exact covU_left va

theorem uAcc_right {A B : Acc} (vb : Valid B.modes) : covB (uAcc A B) B = true := by
  unfold uAcc
  split
  · assumption
  · split
    · exact covB_refl vb
    · exact covU_right vb

theorem uAcc_least {A B C : Acc} (h : covB C A = true) (g : covB C B = true) : covB C (uAcc A B) = true := by
  unfold uAcc
  split
  · exact h
  · split
    · exact g
    · exact covU_least h g

theorem uAcc_law {A B C : Acc} (va : Valid A.modes) (vb : Valid B.modes) : ((covB C A && covB C B) == covB C (uAcc A B)) = true := by
  cases hu : covB C (uAcc A B)
  · cases ha : covB C A
    · rfl
    · cases hb : covB C B
      · rfl
      · rw [uAcc_least ha hb] at hu; cases hu
  · rw [covB_trans hu (uAcc_left va), covB_trans hu (uAcc_right vb)]; rfl

theorem Covers_at (A B : Acc) (r : Bool) (hr : covB A B = r) (va vb : Value) (w : World) (ha : AccIs w va A) (hb : AccIs w vb B) :
    Calls Try.prog 13 #[va, vb] w fun e w' => e = .returned (.bool r) ∧ Below w.heap.size w w' := by
  rw [← hr]; exact Covers_any A B va vb w ha hb

theorem S4 {W w' : World} {i j k l : Nat} {a0 a1 a2 b0 b1 b2 c0 c1 c2 u0 u1 u2 : Value} (ha : Box W i a0 a1 a2) (hb : Box W j b0 b1 b2) (hc : Box W k c0 c1 c2) (hu : Box W l u0 u1 u2) (h : Below W.heap.size W w') :
    w'.cell? ⟨i, 0, none⟩ = some a0 ∧ w'.cell? ⟨i, 1, none⟩ = some a1 ∧ w'.cell? ⟨i, 2, none⟩ = some a2 ∧ w'.cell? ⟨j, 0, none⟩ = some b0 ∧ w'.cell? ⟨j, 1, none⟩ = some b1 ∧ w'.cell? ⟨j, 2, none⟩ = some b2 ∧
    w'.cell? ⟨k, 0, none⟩ = some c0 ∧ w'.cell? ⟨k, 1, none⟩ = some c1 ∧ w'.cell? ⟨k, 2, none⟩ = some c2 ∧ w'.cell? ⟨l, 0, none⟩ = some u0 ∧ w'.cell? ⟨l, 1, none⟩ = some u1 ∧ w'.cell? ⟨l, 2, none⟩ = some u2 ∧ Below W.heap.size W w' :=
  ⟨(ha.below h).c0, (ha.below h).c1, (ha.below h).c2, (hb.below h).c0, (hb.below h).c1, (hb.below h).c2, (hc.below h).c0, (hc.below h).c1, (hc.below h).c2, (hu.below h).c0, (hu.below h).c1, (hu.below h).c2, h⟩
end Go.Proofs.Qxb6605213a
