import Derived.RowKit
import Derived.Lib.ItoaLen
namespace Go.Proofs.Qxb6605270aDoor
open Go.RowKit

def pz (ps : List Int) (i : Nat) : Int := ps.getD i 0

/-- Element i follows the one ahead of it by one, as int reckons. -/
def Fol (ps : List Int) (i : Nat) : Prop := 0 < i ∧ pz ps i = wrap64 (pz ps (i - 1) + 1)

def folB (ps : List Int) (i : Nat) : Bool := decide (0 < i) && pz ps i == wrap64 (pz ps (i - 1) + 1)

theorem folB_iff (ps : List Int) (i : Nat) : folB ps i = true ↔ Fol ps i := by simp [folB, Fol]

/-- What the scan by neighbours writes at i. -/
def piece (ps : List Int) (i : Nat) : List UInt8 :=
  if folB ps i then (if decide (i + 1 < ps.length) && folB ps (i + 1) then [] else 45 :: Lib.itoa (pz ps i))
  else (if i = 0 then Lib.itoa (pz ps i) else 44 :: Lib.itoa (pz ps i))

/-- .. from i on, so many elements. -/
def scan (ps : List Int) : Nat → Nat → List UInt8
  | 0, _ => []
  | k + 1, i => piece ps i ++ scan ps k (i + 1)

def S (ps : List Int) (i : Nat) : List UInt8 := scan ps (ps.length - i) i

theorem S_step {ps : List Int} {i : Nat} (h : i < ps.length) : S ps i = piece ps i ++ S ps (i + 1) := by
  unfold S
  have e : ps.length - i = (ps.length - (i + 1)) + 1 := by omega
  rw [e]; rfl

theorem S_end {ps : List Int} {i : Nat} (h : ps.length ≤ i) : S ps i = [] := by
  unfold S
  rw [show ps.length - i = 0 from by omega]; rfl

/-- A run that goes on: its inside is passed over, its last is written. -/
theorem S_mid {ps : List Int} (i R : Nat) (hR : i + R ≤ ps.length) (hch : ∀ t, 1 ≤ t → t < R → Fol ps (i + t)) (hbr : i + R < ps.length → ¬ Fol ps (i + R)) :
    ∀ d t, 1 ≤ t → t + d + 1 = R → S ps (i + t) = 45 :: Lib.itoa (pz ps (i + R - 1)) ++ S ps (i + R) := by
  intro d
  induction d with
  | zero =>
    intro t h1 h2
    rw [S_step (by omega)]
    have e : i + t + 1 = i + R := by omega
    have f : folB ps (i + t) = true := (folB_iff _ _).2 (hch t h1 (by omega))
    have g : (decide (i + t + 1 < ps.length) && folB ps (i + t + 1)) = false := by
      rw [e]
      by_cases hl : i + R < ps.length
      · have : folB ps (i + R) = false := by
          cases h : folB ps (i + R)
          · rfl
          · exact absurd ((folB_iff _ _).1 h) (hbr hl)
        simp [this]
      · simp [hl]
    unfold piece
    rw [f, g, if_pos rfl, e]
    rw [show i + R - 1 = i + t from by omega]
    rfl
  | succ d ih =>
    intro t h1 h2
    rw [S_step (by omega)]
    have f : folB ps (i + t) = true := (folB_iff _ _).2 (hch t h1 (by omega))
    have f2 : folB ps (i + t + 1) = true := (folB_iff _ _).2 (hch (t + 1) (by omega) (by omega))
    have g : (decide (i + t + 1 < ps.length) && folB ps (i + t + 1)) = true := by
      rw [f2, Bool.and_true]; exact decide_eq_true (by omega)
    unfold piece
    rw [f, g, if_pos rfl, if_pos rfl]
    exact ih (t + 1) (by omega) (by omega)

/-- A whole run. -/
theorem S_run {ps : List Int} (i R : Nat) (hR1 : 1 ≤ R) (hR : i + R ≤ ps.length) (hi : ¬ Fol ps i) (hch : ∀ t, 1 ≤ t → t < R → Fol ps (i + t)) (hbr : i + R < ps.length → ¬ Fol ps (i + R)) :
    S ps i = (if i = 0 then [] else [44]) ++ Lib.itoa (pz ps i) ++ (if R = 1 then [] else 45 :: Lib.itoa (pz ps (i + R - 1))) ++ S ps (i + R) := by
  rw [S_step (by omega)]
  have f : folB ps i = false := by
    cases h : folB ps i
    · rfl
    · exact absurd ((folB_iff _ _).1 h) hi
  unfold piece
  rw [f]
  by_cases h1 : R = 1
  · subst h1
    by_cases h0 : i = 0 <;> simp [h0]
  · rw [S_mid i R hR hch hbr (R - 2) 1 (by omega) (by omega)]
    by_cases h0 : i = 0 <;> simp [h0, h1]

theorem wrap_wrap (a b : Int) : wrap64 (wrap64 a + b) = wrap64 (a + b) := by
  unfold wrap64; omega

/-- What the walk tests at r is that element i + r follows. -/
theorem fol_of {ps : List Int} {i r : Nat} (hr : 1 ≤ r) (he : pz ps (i + r - 1) = wrap64 (pz ps i + (r - 1 : Nat))) : Fol ps (i + r) ↔ pz ps (i + r) = wrap64 (pz ps i + (r : Nat)) := by
  unfold Fol
  rw [he, wrap_wrap]
  rw [show pz ps i + ((r - 1 : Nat) : Int) + 1 = pz ps i + (r : Nat) from by omega]
  constructor
  · exact fun h => h.2
  · exact fun h => ⟨by omega, h⟩

end Go.Proofs.Qxb6605270aDoor
