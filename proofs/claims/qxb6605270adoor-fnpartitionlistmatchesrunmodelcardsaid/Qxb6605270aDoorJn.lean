import Derived.Test.Qxb6605270aDoorPlain
namespace Go.Proofs.Qxb6605270aDoor
open Go.RowKit

theorem pz_left {a b : List Int} {i : Nat} (h : i < a.length) : pz (a ++ b) i = pz a i := by
  simp [pz, List.getD, List.getElem?_append, h]

theorem pz_right (a b : List Int) (j : Nat) : pz (a ++ b) (a.length + j) = pz b j := by
  simp [pz, List.getD, List.getElem?_append, show ¬ a.length + j < a.length by omega]

theorem fol_left {a b : List Int} {i : Nat} (h : i < a.length) : folB (a ++ b) i = folB a i := by
  unfold folB
  rw [pz_left h, pz_left (show i - 1 < a.length by omega)]

theorem fol_right (a b : List Int) (j : Nat) (hj : 0 < j) : folB (a ++ b) (a.length + j) = folB b j := by
  unfold folB
  rw [pz_right, show a.length + j - 1 = a.length + (j - 1) from by omega, pz_right]
  simp [hj]
  omega

theorem piece_left {a b : List Int} (hbr : folB (a ++ b) a.length = false) {i : Nat} (h : i < a.length) : piece (a ++ b) i = piece a i := by
  unfold piece
  rw [fol_left h, pz_left h]
  by_cases h1 : i + 1 < a.length
  · rw [fol_left h1]
    have e1 : decide (i + 1 < (a ++ b).length) = true := by simp; omega
    have e2 : decide (i + 1 < a.length) = true := by simpa using h1
    rw [e1, e2]
  · have e : i + 1 = a.length := by omega
    rw [e, hbr]
    simp

theorem piece_right (a b : List Int) (j : Nat) (hj : 0 < j) : piece (a ++ b) (a.length + j) = piece b j := by
  unfold piece
  rw [fol_right a b j hj, pz_right, show a.length + j + 1 = a.length + (j + 1) from by omega, fol_right a b (j + 1) (by omega)]
  have e1 : decide (a.length + (j + 1) < (a ++ b).length) = decide (j + 1 < b.length) := by simp
  rw [e1, if_neg (show ¬ a.length + j = 0 by omega), if_neg (show ¬ j = 0 by omega)]

theorem S_right (a b : List Int) : ∀ d j, 0 < j → j + d = b.length → S (a ++ b) (a.length + j) = S b j := by
  intro d
  induction d with
  | zero =>
    intro j _ h
    rw [S_end (by simp; omega), S_end (by omega)]
  | succ d ih =>
    intro j hj h
    rw [S_step (by simp; omega), S_step (ps := b) (by omega), piece_right a b j hj, show a.length + j + 1 = a.length + (j + 1) from by omega, ih (j + 1) (by omega) (by omega)]

theorem S_left {a b : List Int} (hbr : folB (a ++ b) a.length = false) : ∀ d i, i + d = a.length → S (a ++ b) i = S a i ++ S (a ++ b) a.length := by
  intro d
  induction d with
  | zero =>
    intro i h
    rw [S_end (ps := a) (by omega), show i = a.length from by omega]
    rfl
  | succ d ih =>
    intro i h
    rw [S_step (by simp; omega), S_step (ps := a) (by omega), piece_left hbr (by omega), ih (i + 1) (by omega), List.append_assoc]

theorem piece_len {ps : List Int} (hr : ∀ j, -9223372036854775808 ≤ pz ps j ∧ pz ps j ≤ 9223372036854775807) (i : Nat) : (piece ps i).length ≤ 22 := by
  have l := Lib.itoa_length_le (pz ps i) (hr i).1 (hr i).2
  unfold piece
  split
  · split
    · simp
    · simp; omega
  · split
    · omega
    · simp; omega

theorem S_len {ps : List Int} (hr : ∀ j, -9223372036854775808 ≤ pz ps j ∧ pz ps j ≤ 9223372036854775807) : ∀ d i, i + d = ps.length → (S ps i).length ≤ 22 * d := by
  intro d
  induction d with
  | zero => intro i h; rw [S_end (by omega)]; simp
  | succ d ih =>
    intro i h
    rw [S_step (by omega), List.length_append]
    have := ih (i + 1) (by omega)
    have := piece_len hr i
    omega

/-- A break: the strings are joined by a comma. -/
theorem S_join {a b : List Int} (ha : 0 < a.length) (hb : 0 < b.length) (hne : ¬ pz b 0 = wrap64 (pz a (a.length - 1) + 1)) : S (a ++ b) 0 = S a 0 ++ 44 :: S b 0 := by
  have hbr : folB (a ++ b) a.length = false := by
    unfold folB
    have e1 : pz (a ++ b) a.length = pz b 0 := pz_right a b 0
    have e2 : pz (a ++ b) (a.length - 1) = pz a (a.length - 1) := pz_left (by omega)
    rw [e1, e2]
    simp [hne]
  rw [S_left hbr a.length 0 (by omega)]
  congr 1
  have e0 : folB b 0 = false := rfl
  have e1 : pz (a ++ b) a.length = pz b 0 := pz_right a b 0
  rw [S_step (by simp; omega), S_step (ps := b) hb]
  have p1 : piece (a ++ b) a.length = 44 :: Lib.itoa (pz b 0) := by
    unfold piece
    rw [hbr, e1, if_neg (show ¬ a.length = 0 by omega)]
    rfl
  have p2 : piece b 0 = Lib.itoa (pz b 0) := by
    unfold piece
    rw [e0]
    rfl
  rw [p1, p2, S_right a b (b.length - 1) 1 (by omega) (by omega)]
  rfl
end Go.Proofs.Qxb6605270aDoor
