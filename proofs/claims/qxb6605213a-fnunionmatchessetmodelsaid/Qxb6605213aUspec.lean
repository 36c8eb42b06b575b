import Derived.Test.Qxb6605213aLub
import Derived.Test.Qxb6605213aUma
namespace Go.Proofs.Qxb6605213a
open Go.RowKit Go.Deep

theorem or_of_and {a b : Nat} (h : a &&& b = b) : a = a ||| b := by
  apply Nat.eq_of_testBit_eq
  intro j
  have := congrArg (fun z => Nat.testBit z j) h
  simp only [Nat.testBit_and] at this
  rw [Nat.testBit_or]
  cases ha : a.testBit j
  · rw [ha] at this; simp at this; simp [← this]
  · simp

theorem isUni_left {a b : List Nat} (h : contB a b = true) : IsUni a a b := fun q => or_of_and ((contB_iff _ _).1 h q)
theorem isUni_right {a b : List Nat} (h : contB b a = true) : IsUni b a b := fun q => by rw [Nat.or_comm]; exact or_of_and ((contB_iff _ _).1 h q)
theorem isUni_uni (a b : List Nat) : IsUni (uniW a b) a b := fun q => wd_uniW a b q
theorem isUni_nil_right (a : List Nat) : IsUni a a [] := fun q => by rw [wd_ge (s := []) (by simp)]; simp
theorem isUni_nil_left (a : List Nat) : IsUni a [] a := fun q => by rw [wd_ge (s := []) (by simp)]; simp

/-- What the law asks of the union in mode m. -/
structure Agrees (fa fb fu : ML × Bool) : Prop where
  ok : fu.2 = (fa.2 || fb.2)
  whole : fu.2 = true → fu.1.whole = (fa.1.whole || fb.1.whole)
  r : fu.2 = true → fu.1.whole = false → IsUni fu.1.read fa.1.read fb.1.read
  w : fu.2 = true → fu.1.whole = false → IsUni fu.1.write fa.1.write fb.1.write

theorem findM_nil {ms : List ML} {m : Nat} {l : ML} (h : findM ms m = (l, false)) : l = mlNil := by
  unfold findM at h
  split at h
  · cases h
  · cases h; rfl

theorem agrees_left {A B : Acc} (h : covB A B = true) (m : Nat) : Agrees (findM A.modes m) (findM B.modes m) (findM A.modes m) := by
  rcases hb : findM B.modes m with ⟨n, b⟩
  cases b
  · have := findM_nil hb
    subst this
    exact ⟨by simp, fun _ => by simp [mlNil], fun _ _ => isUni_nil_right _, fun _ _ => isUni_nil_right _⟩
  · obtain ⟨hn, en⟩ := findM_some hb
    obtain ⟨l, el, hl⟩ := (mCov_iff _ _).1 (((covB_iff _ _).1 h).2.2 n hn)
    rw [en] at el
    rw [el]
    simp only [mlCov, Bool.or_eq_true, Bool.and_eq_true, Bool.not_eq_true'] at hl
    refine ⟨rfl, fun _ => ?_, fun _ hw => ?_, fun _ hw => ?_⟩
    · rcases hl with e | e
      · simp [e]
      · simp [e.1.1]
    · rcases hl with e | e
      · simp only at hw; rw [e] at hw; cases hw
      · exact isUni_left e.1.2
    · rcases hl with e | e
      · simp only at hw; rw [e] at hw; cases hw
      · exact isUni_left e.2

theorem Agrees.swap {fa fb fu : ML × Bool} (h : Agrees fb fa fu) : Agrees fa fb fu :=
  ⟨by rw [h.ok, Bool.or_comm], fun e => by rw [h.whole e, Bool.or_comm], fun e g q => by rw [h.r e g q, Nat.or_comm], fun e g q => by rw [h.w e g q, Nat.or_comm]⟩

theorem agrees_uni (A B : Acc) (m : Nat) (hm : m < 14) : Agrees (findM A.modes m) (findM B.modes m) (findM (uModes A B 14) m) := by
  rw [findM_uModes A B 14 m hm]
  rcases ha : findM A.modes m with ⟨l, a⟩
  rcases hb : findM B.modes m with ⟨k, b⟩
  cases a
  · have := findM_nil ha
    subst this
    cases b
    · have := findM_nil hb
      subst this
      have e : findM (uAt A B m) m = (mlNil, false) := by simp only [uAt, ha, hb]; rfl
      rw [e]
      exact ⟨rfl, fun e => (by cases e), fun e => (by cases e), fun e => (by cases e)⟩
    · have e : findM (uAt A B m) m = (k, true) := by
        simp only [uAt, ha, hb]; exact findM_one _ _ (findM_some hb).2
      rw [e]
      exact ⟨rfl, fun _ => by simp [mlNil], fun _ _ => isUni_nil_left _, fun _ _ => isUni_nil_left _⟩
  · cases b
    · have := findM_nil hb
      subst this
      have e : findM (uAt A B m) m = (l, true) := by
        simp only [uAt, ha, hb]; exact findM_one _ _ (findM_some ha).2
      rw [e]
      exact ⟨rfl, fun _ => by simp [mlNil], fun _ _ => isUni_nil_right _, fun _ _ => isUni_nil_right _⟩
    · have e : findM (uAt A B m) m = (mlUni l k, true) := by
        simp only [uAt, ha, hb]; exact findM_one _ _ (by rw [mlUni_mode]; exact (findM_some ha).2)
      rw [e]
      unfold mlUni
      by_cases hw : (l.whole || k.whole) = true
      · rw [if_pos hw]
        exact ⟨rfl, fun _ => hw.symm, fun _ g => (by cases g), fun _ g => (by cases g)⟩
      · rw [if_neg hw]
        exact ⟨rfl, fun _ => by simpa using hw, fun _ _ => isUni_uni _ _, fun _ _ => isUni_uni _ _⟩

theorem agrees (A B : Acc) (m : Nat) (hm : m < 14) : Agrees (findM A.modes m) (findM B.modes m) (findM (uAcc A B).modes m) := by
  unfold uAcc
  split
  · rename_i h; exact agrees_left h m
  · split
    · rename_i h; exact (agrees_left h m).swap
    · exact agrees_uni A B m hm

theorem uAcc_read (A B : Acc) : IsUni (uAcc A B).read A.read B.read := by
  unfold uAcc
  split
  · rename_i h; exact isUni_left ((covB_iff _ _).1 h).1
  · split
    · rename_i h; exact isUni_right ((covB_iff _ _).1 h).1
    · exact isUni_uni _ _

theorem uAcc_write (A B : Acc) : IsUni (uAcc A B).write A.write B.write := by
  unfold uAcc
  split
  · rename_i h; exact isUni_left ((covB_iff _ _).1 h).2.1
  · split
    · rename_i h; exact isUni_right ((covB_iff _ _).1 h).2.1
    · exact isUni_uni _ _

theorem valid_uModes (A B : Acc) : ∀ K, K ≤ 14 → Valid (uModes A B K)
  | 0, _ => fun j hj => by simp [uModes] at hj
  | K + 1, hK => by
    have ih := valid_uModes A B K (by omega)
    have key : ∀ x ∈ uModes A B K, x.mode < K := fun x hx => (uModes_mode hx).1
    have mem : ∀ {ms : List ML} {j : Nat}, j < ms.length → ml ms j ∈ ms := fun h => by rw [ml_lt h]; exact List.getElem_mem h
    intro j hj
    have hall : ∀ x ∈ uModes A B (K + 1), x.mode < 14 := fun x hx => by have := (uModes_mode hx).1; omega
    refine ⟨hall _ (mem hj), fun h0 => ?_⟩
    have e : uModes A B (K + 1) = uModes A B K ++ uAt A B K := rfl
    have hu1 := uAt_len A B K
    have hl : (uModes A B (K + 1)).length = (uModes A B K).length + (uAt A B K).length := by rw [e, List.length_append]
    by_cases hju : j < (uModes A B K).length
    · have e1 : ml (uModes A B (K + 1)) j = ml (uModes A B K) j := by
        rw [ml_lt hj, ml_lt hju]; simp only [e]; rw [List.getElem_append_left hju]
      have e2 : ml (uModes A B (K + 1)) (j - 1) = ml (uModes A B K) (j - 1) := by
        rw [ml_lt (by omega), ml_lt (by omega)]; simp only [e]; rw [List.getElem_append_left (by omega)]
      rw [e1, e2]
      exact (ih j hju).2 h0
    · have e2 : ml (uModes A B (K + 1)) (j - 1) = ml (uModes A B K) (j - 1) := by
        rw [ml_lt (by omega), ml_lt (by omega)]; simp only [e]; rw [List.getElem_append_left (by omega)]
      have hx : ml (uModes A B (K + 1)) j ∈ uAt A B K := by
        rw [ml_lt hj]; simp only [e]; rw [List.getElem_append_right (by omega)]; exact List.getElem_mem _
      rw [uAt_mode hx, e2]
      exact key _ (mem (by omega))

theorem valid_uAcc {A B : Acc} (va : Valid A.modes) (vb : Valid B.modes) : Valid (uAcc A B).modes := by
  unfold uAcc
  split
  · exact va
  · split
    · exact vb
    · exact valid_uModes A B 14 (Nat.le_refl _)

theorem mlUni_small {l k : ML} (hl : l.read.length ≤ 1048576 ∧ l.write.length ≤ 1048576) (hk : k.read.length ≤ 1048576 ∧ k.write.length ≤ 1048576) : (mlUni l k).read.length ≤ 1048576 ∧ (mlUni l k).write.length ≤ 1048576 := by
  unfold mlUni
  split
  · simp
  · simp only [uniW_len]; omega

theorem small_uAcc {A B : Acc} (sa : SmallA A) (sb : SmallA B) : SmallA (uAcc A B) := by
  unfold uAcc
  split
  · exact sa
  · split
    · exact sb
    · refine ⟨by simp only [uniW_len]; have := sa.r; have := sb.r; omega, by simp only [uniW_len]; have := sa.x; have := sb.x; omega, by have := uModes_len A B 14; simp only; omega, fun j hj => ?_⟩
      have hx : ml (uModes A B 14) j ∈ uModes A B 14 := by rw [ml_lt hj]; exact List.getElem_mem hj
      have hx2 := (uModes_mode hx).2
      unfold uAt at hx2
      split at hx2
      · rename_i l k e1 e2
        simp at hx2
        rw [hx2]
        exact mlUni_small (small_mem sa.l (findM_some e1).1) (small_mem sb.l (findM_some e2).1)
      · rename_i l _ e1 _
        simp at hx2
        rw [hx2]
        exact small_mem sa.l (findM_some e1).1
      · rename_i _ k _ e2
        simp at hx2
        rw [hx2]
        exact small_mem sb.l (findM_some e2).1
      · simp at hx2
end Go.Proofs.Qxb6605213a
