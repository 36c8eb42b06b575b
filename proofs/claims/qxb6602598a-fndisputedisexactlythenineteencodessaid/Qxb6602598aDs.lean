import Derived.Test.Qxb6602598aRows
import Derived.WalkKit
import Derived.WalkSpells
import Derived.WalkLawsBesides
import Derived.BigQuiet
import Derived.Deep.OwnRows
import Derived.Lib.SliceRun
import Derived.Laws.IdiomStrings
namespace Go.Proofs.Qxb6602598a
open Go.RowKit Go.Deep

/-- Four bytes as one number: the byte order of strings of four. -/
def key (x0 x1 x2 x3 : Nat) : Nat := ((x0 * 256 + x1) * 256 + x2) * 256 + x3

theorem lt_iff (x y : UInt8) : (decide (x < y) = true) ↔ x.toNat < y.toNat := by simp [UInt8.lt_iff_toNat_lt]
theorem eq_iff (x y : UInt8) : ((x == y) = true) ↔ x.toNat = y.toNat := by simp [← UInt8.toNat_inj]

theorem bl4 (x0 x1 x2 x3 y0 y1 y2 y3 : UInt8) : (Op.bytesLess [x0, x1, x2, x3] [y0, y1, y2, y3] = true) ↔ key x0.toNat x1.toNat x2.toNat x3.toNat < key y0.toNat y1.toNat y2.toNat y3.toNat := by
  have a0 := x0.toNat_lt; have a1 := x1.toNat_lt; have a2 := x2.toNat_lt; have a3 := x3.toNat_lt
  have c0 := y0.toNat_lt; have c1 := y1.toNat_lt; have c2 := y2.toNat_lt; have c3 := y3.toNat_lt
  simp only [Op.bytesLess, Bool.or_eq_true, Bool.and_eq_true, lt_iff, eq_iff, Bool.false_eq_true, and_false, or_false]
  unfold key
  omega

theorem eq4b (x0 x1 x2 x3 y0 y1 y2 y3 : UInt8) : ((x0 == y0 && (x1 == y1 && (x2 == y2 && x3 == y3))) = true) ↔ key x0.toNat x1.toNat x2.toNat x3.toNat = key y0.toNat y1.toNat y2.toNat y3.toNat := by
  have a0 := x0.toNat_lt; have a1 := x1.toNat_lt; have a2 := x2.toNat_lt; have a3 := x3.toNat_lt
  have c0 := y0.toNat_lt; have c1 := y1.toNat_lt; have c2 := y2.toNat_lt; have c3 := y3.toNat_lt
  simp only [Bool.and_eq_true, eq_iff]
  unfold key
  omega

theorem bt {p : Bool} {q : Prop} (h : p = true ↔ q) (k : q) : p = true := h.2 k
theorem bf {p : Bool} {q : Prop} (h : p = true ↔ q) (k : ¬ q) : p = false := by cases p <;> simp_all

/-- 'disputed' at four bytes. -/
def disV (k : Nat) : Bool := decide (k = 2167796791 ∨ (2184548407 ≤ k ∧ k ≤ 2184548660) ∨ (2217837110 ≤ k ∧ k ≤ 2217837365))

theorem retb {a b : Bool} (h : a = b) : Ending.returned (.bool a) = .returned (.bool b) := by rw [h]

set_option maxHeartbeats 2000000 in
theorem dis_four (a : Addr) (c : Nat) (x0 x1 x2 x3 : UInt8) (w : World) (hcv : (convert 22 9 (.slice (some a) 4 c)).run Try.prog w = .ok (.string ⟨#[x0, x1, x2, x3]⟩) w) :
    Calls Try.prog 16 #[.slice (some a) 4 c] w fun e w' => e = .returned (.bool (disV (key x0.toNat x1.toNat x2.toNat x3.toNat))) ∧ w' = w := by
  by_cases q0 : key x0.toNat x1.toNat x2.toNat x3.toNat = 2167796791
  · have f0 := bt (eq4b x0 x1 x2 x3 129 53 244 55) (show key x0.toNat x1.toNat x2.toNat x3.toNat = 2167796791 by omega)
    have R : Hid (disV (key x0.toNat x1.toNat x2.toNat x3.toNat) = true) := by
      show disV _ = _
      unfold disV
      exact decide_eq_true (by omega)
    go_enter Try.func16, Try.ntmps16
    go_wp2
    go_ret
    exact ⟨retb R.out.symm, rfl⟩
  by_cases q1 : key x0.toNat x1.toNat x2.toNat x3.toNat < 2184548407
  · have f0 := bf (eq4b x0 x1 x2 x3 129 53 244 55) (show ¬ key x0.toNat x1.toNat x2.toNat x3.toNat = 2167796791 by omega)
    have f1 := bt (bl4 x0 x1 x2 x3 130 53 144 55) (show key x0.toNat x1.toNat x2.toNat x3.toNat < 2184548407 by omega)
    have f2 := bt (bl4 x0 x1 x2 x3 132 49 130 54) (show key x0.toNat x1.toNat x2.toNat x3.toNat < 2217837110 by omega)
    have R : Hid (disV (key x0.toNat x1.toNat x2.toNat x3.toNat) = false) := by
      show disV _ = _
      unfold disV
      exact decide_eq_false (by omega)
    go_enter Try.func16, Try.ntmps16
    go_wp2
    go_ret
    exact ⟨retb R.out.symm, rfl⟩
  by_cases q2 : key x0.toNat x1.toNat x2.toNat x3.toNat < 2184548660
  · have f0 := bf (eq4b x0 x1 x2 x3 129 53 244 55) (show ¬ key x0.toNat x1.toNat x2.toNat x3.toNat = 2167796791 by omega)
    have f1 := bf (bl4 x0 x1 x2 x3 130 53 144 55) (show ¬ key x0.toNat x1.toNat x2.toNat x3.toNat < 2184548407 by omega)
    have f2 := bt (bl4 x0 x1 x2 x3 130 53 145 52) (show key x0.toNat x1.toNat x2.toNat x3.toNat < 2184548660 by omega)
    have R : Hid (disV (key x0.toNat x1.toNat x2.toNat x3.toNat) = true) := by
      show disV _ = _
      unfold disV
      exact decide_eq_true (by omega)
    go_enter Try.func16, Try.ntmps16
    go_wp2
    go_ret
    exact ⟨retb R.out.symm, rfl⟩
  by_cases q3 : key x0.toNat x1.toNat x2.toNat x3.toNat = 2184548660
  · have f0 := bf (eq4b x0 x1 x2 x3 129 53 244 55) (show ¬ key x0.toNat x1.toNat x2.toNat x3.toNat = 2167796791 by omega)
    have f1 := bf (bl4 x0 x1 x2 x3 130 53 144 55) (show ¬ key x0.toNat x1.toNat x2.toNat x3.toNat < 2184548407 by omega)
    have f2 := bf (bl4 x0 x1 x2 x3 130 53 145 52) (show ¬ key x0.toNat x1.toNat x2.toNat x3.toNat < 2184548660 by omega)
    have f3 := bt (eq4b x0 x1 x2 x3 130 53 145 52) (show key x0.toNat x1.toNat x2.toNat x3.toNat = 2184548660 by omega)
    have R : Hid (disV (key x0.toNat x1.toNat x2.toNat x3.toNat) = true) := by
      show disV _ = _
      unfold disV
      exact decide_eq_true (by omega)
    go_enter Try.func16, Try.ntmps16
    go_wp2
    go_ret
    exact ⟨retb R.out.symm, rfl⟩
  by_cases q4 : key x0.toNat x1.toNat x2.toNat x3.toNat < 2217837110
  · have f0 := bf (eq4b x0 x1 x2 x3 129 53 244 55) (show ¬ key x0.toNat x1.toNat x2.toNat x3.toNat = 2167796791 by omega)
    have f1 := bf (bl4 x0 x1 x2 x3 130 53 144 55) (show ¬ key x0.toNat x1.toNat x2.toNat x3.toNat < 2184548407 by omega)
    have f2 := bf (bl4 x0 x1 x2 x3 130 53 145 52) (show ¬ key x0.toNat x1.toNat x2.toNat x3.toNat < 2184548660 by omega)
    have f3 := bf (eq4b x0 x1 x2 x3 130 53 145 52) (show ¬ key x0.toNat x1.toNat x2.toNat x3.toNat = 2184548660 by omega)
    have f4 := bt (bl4 x0 x1 x2 x3 132 49 130 54) (show key x0.toNat x1.toNat x2.toNat x3.toNat < 2217837110 by omega)
    have R : Hid (disV (key x0.toNat x1.toNat x2.toNat x3.toNat) = false) := by
      show disV _ = _
      unfold disV
      exact decide_eq_false (by omega)
    go_enter Try.func16, Try.ntmps16
    go_wp2
    go_ret
    exact ⟨retb R.out.symm, rfl⟩
  by_cases q5 : key x0.toNat x1.toNat x2.toNat x3.toNat < 2217837365
  · have f0 := bf (eq4b x0 x1 x2 x3 129 53 244 55) (show ¬ key x0.toNat x1.toNat x2.toNat x3.toNat = 2167796791 by omega)
    have f1 := bf (bl4 x0 x1 x2 x3 130 53 144 55) (show ¬ key x0.toNat x1.toNat x2.toNat x3.toNat < 2184548407 by omega)
    have f2 := bf (bl4 x0 x1 x2 x3 130 53 145 52) (show ¬ key x0.toNat x1.toNat x2.toNat x3.toNat < 2184548660 by omega)
    have f3 := bf (eq4b x0 x1 x2 x3 130 53 145 52) (show ¬ key x0.toNat x1.toNat x2.toNat x3.toNat = 2184548660 by omega)
    have f4 := bf (bl4 x0 x1 x2 x3 132 49 130 54) (show ¬ key x0.toNat x1.toNat x2.toNat x3.toNat < 2217837110 by omega)
    have f5 := bt (bl4 x0 x1 x2 x3 132 49 131 53) (show key x0.toNat x1.toNat x2.toNat x3.toNat < 2217837365 by omega)
    have R : Hid (disV (key x0.toNat x1.toNat x2.toNat x3.toNat) = true) := by
      show disV _ = _
      unfold disV
      exact decide_eq_true (by omega)
    go_enter Try.func16, Try.ntmps16
    go_wp2
    go_ret
    exact ⟨retb R.out.symm, rfl⟩
  by_cases q6 : key x0.toNat x1.toNat x2.toNat x3.toNat = 2217837365
  · have f0 := bf (eq4b x0 x1 x2 x3 129 53 244 55) (show ¬ key x0.toNat x1.toNat x2.toNat x3.toNat = 2167796791 by omega)
    have f1 := bf (bl4 x0 x1 x2 x3 130 53 144 55) (show ¬ key x0.toNat x1.toNat x2.toNat x3.toNat < 2184548407 by omega)
    have f2 := bf (bl4 x0 x1 x2 x3 130 53 145 52) (show ¬ key x0.toNat x1.toNat x2.toNat x3.toNat < 2184548660 by omega)
    have f3 := bf (eq4b x0 x1 x2 x3 130 53 145 52) (show ¬ key x0.toNat x1.toNat x2.toNat x3.toNat = 2184548660 by omega)
    have f4 := bf (bl4 x0 x1 x2 x3 132 49 130 54) (show ¬ key x0.toNat x1.toNat x2.toNat x3.toNat < 2217837110 by omega)
    have f5 := bf (bl4 x0 x1 x2 x3 132 49 131 53) (show ¬ key x0.toNat x1.toNat x2.toNat x3.toNat < 2217837365 by omega)
    have f6 := bt (eq4b x0 x1 x2 x3 132 49 131 53) (show key x0.toNat x1.toNat x2.toNat x3.toNat = 2217837365 by omega)
    have R : Hid (disV (key x0.toNat x1.toNat x2.toNat x3.toNat) = true) := by
      show disV _ = _
      unfold disV
      exact decide_eq_true (by omega)
    go_enter Try.func16, Try.ntmps16
    go_wp2
    go_ret
    exact ⟨retb R.out.symm, rfl⟩
  have f0 := bf (eq4b x0 x1 x2 x3 129 53 244 55) (show ¬ key x0.toNat x1.toNat x2.toNat x3.toNat = 2167796791 by omega)
  have f1 := bf (bl4 x0 x1 x2 x3 130 53 144 55) (show ¬ key x0.toNat x1.toNat x2.toNat x3.toNat < 2184548407 by omega)
  have f2 := bf (bl4 x0 x1 x2 x3 130 53 145 52) (show ¬ key x0.toNat x1.toNat x2.toNat x3.toNat < 2184548660 by omega)
  have f3 := bf (eq4b x0 x1 x2 x3 130 53 145 52) (show ¬ key x0.toNat x1.toNat x2.toNat x3.toNat = 2184548660 by omega)
  have f4 := bf (bl4 x0 x1 x2 x3 132 49 130 54) (show ¬ key x0.toNat x1.toNat x2.toNat x3.toNat < 2217837110 by omega)
  have f5 := bf (bl4 x0 x1 x2 x3 132 49 131 53) (show ¬ key x0.toNat x1.toNat x2.toNat x3.toNat < 2217837365 by omega)
  have f6 := bf (eq4b x0 x1 x2 x3 132 49 131 53) (show ¬ key x0.toNat x1.toNat x2.toNat x3.toNat = 2217837365 by omega)
  have R : Hid (disV (key x0.toNat x1.toNat x2.toNat x3.toNat) = false) := by
    show disV _ = _
    unfold disV
    exact decide_eq_false (by omega)
  go_enter Try.func16, Try.ntmps16
  go_wp2
  go_ret
  exact ⟨retb R.out.symm, rfl⟩

set_option maxHeartbeats 1000000 in
theorem dis_other (a : Option Addr) (n c : Nat) (h4 : ¬ n = 4) (l : List UInt8) (hs : l.length = n) (w : World) (hcv : (convert 22 9 (.slice a n c)).run Try.prog w = .ok (.string ⟨l.toArray⟩) w) :
    Calls Try.prog 16 #[.slice a n c] w fun e w' => e = .returned (.bool false) ∧ w' = w := by
  have hf : (l == [129, 53, 244, 55]) = false := by
    by_cases e : l = [129, 53, 244, 55]
    · have := congrArg List.length e
      simp at this
      omega
    · simpa using e
  have h4' : ¬ (n : Int) = 4 := by omega
  go_enter Try.func16, Try.ntmps16
  go_wp2
  go_ret
  exact ⟨rfl, rfl⟩

/-- The nineteen codes. -/
def cds : List (Int × Int × Int × Int) := [(129, 53, 244, 55), (130, 53, 144, 55), (130, 53, 144, 56), (130, 53, 144, 57), (130, 53, 145, 48), (130, 53, 145, 49), (130, 53, 145, 50), (130, 53, 145, 51), (130, 53, 145, 52), (132, 49, 130, 54), (132, 49, 130, 55), (132, 49, 130, 56), (132, 49, 130, 57), (132, 49, 131, 48), (132, 49, 131, 49), (132, 49, 131, 50), (132, 49, 131, 51), (132, 49, 131, 52), (132, 49, 131, 53)]
def cd (k : Nat) : Int × Int × Int × Int := cds.getD k (0, 0, 0, 0)

set_option maxHeartbeats 8000000 in
theorem dc_any (k : Nat) (hk : k < 19) (w : World) :
    Calls Try.prog 13 #[.int .i64 k] w fun e w' => e = .returned (.agg #[.int .u8 (cd k).1, .int .u8 (cd k).2.1, .int .u8 (cd k).2.2.1, .int .u8 (cd k).2.2.2]) ∧ Below w.heap.size w w' := by
  rcases (show k = 0 ∨ k = 1 ∨ k = 2 ∨ k = 3 ∨ k = 4 ∨ k = 5 ∨ k = 6 ∨ k = 7 ∨ k = 8 ∨ k = 9 ∨ k = 10 ∨ k = 11 ∨ k = 12 ∨ k = 13 ∨ k = 14 ∨ k = 15 ∨ k = 16 ∨ k = 17 ∨ k = 18 by omega) with rfl | rfl | rfl | rfl | rfl | rfl | rfl | rfl | rfl | rfl | rfl | rfl | rfl | rfl | rfl | rfl | rfl | rfl | rfl
  · clear hk
    go_enter Try.func13, Try.ntmps13
    go_wp2
    refine bodyPost_ret (v := .agg #[.int .u8 129, .int .u8 53, .int .u8 244, .int .u8 55]) (by simp [results, Try.results13, go_sem]) rfl ⟨rfl, ?_⟩
    exact (Below.refl _ _).alloc (Nat.le_refl _) _
  · clear hk
    go_enter Try.func13, Try.ntmps13
    go_wp2
    refine bodyPost_ret (v := .agg #[.int .u8 130, .int .u8 53, .int .u8 144, .int .u8 55]) (by simp [results, Try.results13, go_sem]) rfl ⟨rfl, ?_⟩
    exact (Below.refl _ _).alloc (Nat.le_refl _) _
  · clear hk
    go_enter Try.func13, Try.ntmps13
    go_wp2
    refine bodyPost_ret (v := .agg #[.int .u8 130, .int .u8 53, .int .u8 144, .int .u8 56]) (by simp [results, Try.results13, go_sem]) rfl ⟨rfl, ?_⟩
    exact (Below.refl _ _).alloc (Nat.le_refl _) _
  · clear hk
    go_enter Try.func13, Try.ntmps13
    go_wp2
    refine bodyPost_ret (v := .agg #[.int .u8 130, .int .u8 53, .int .u8 144, .int .u8 57]) (by simp [results, Try.results13, go_sem]) rfl ⟨rfl, ?_⟩
    exact (Below.refl _ _).alloc (Nat.le_refl _) _
  · clear hk
    go_enter Try.func13, Try.ntmps13
    go_wp2
    refine bodyPost_ret (v := .agg #[.int .u8 130, .int .u8 53, .int .u8 145, .int .u8 48]) (by simp [results, Try.results13, go_sem]) rfl ⟨rfl, ?_⟩
    exact (Below.refl _ _).alloc (Nat.le_refl _) _
  · clear hk
    go_enter Try.func13, Try.ntmps13
    go_wp2
    refine bodyPost_ret (v := .agg #[.int .u8 130, .int .u8 53, .int .u8 145, .int .u8 49]) (by simp [results, Try.results13, go_sem]) rfl ⟨rfl, ?_⟩
    exact (Below.refl _ _).alloc (Nat.le_refl _) _
  · clear hk
    go_enter Try.func13, Try.ntmps13
    go_wp2
    refine bodyPost_ret (v := .agg #[.int .u8 130, .int .u8 53, .int .u8 145, .int .u8 50]) (by simp [results, Try.results13, go_sem]) rfl ⟨rfl, ?_⟩
    exact (Below.refl _ _).alloc (Nat.le_refl _) _
  · clear hk
    go_enter Try.func13, Try.ntmps13
    go_wp2
    refine bodyPost_ret (v := .agg #[.int .u8 130, .int .u8 53, .int .u8 145, .int .u8 51]) (by simp [results, Try.results13, go_sem]) rfl ⟨rfl, ?_⟩
    exact (Below.refl _ _).alloc (Nat.le_refl _) _
  · clear hk
    go_enter Try.func13, Try.ntmps13
    go_wp2
    refine bodyPost_ret (v := .agg #[.int .u8 130, .int .u8 53, .int .u8 145, .int .u8 52]) (by simp [results, Try.results13, go_sem]) rfl ⟨rfl, ?_⟩
    exact (Below.refl _ _).alloc (Nat.le_refl _) _
  · clear hk
    go_enter Try.func13, Try.ntmps13
    go_wp2
    refine bodyPost_ret (v := .agg #[.int .u8 132, .int .u8 49, .int .u8 130, .int .u8 54]) (by simp [results, Try.results13, go_sem]) rfl ⟨rfl, ?_⟩
    exact (Below.refl _ _).alloc (Nat.le_refl _) _
  · clear hk
    go_enter Try.func13, Try.ntmps13
    go_wp2
    refine bodyPost_ret (v := .agg #[.int .u8 132, .int .u8 49, .int .u8 130, .int .u8 55]) (by simp [results, Try.results13, go_sem]) rfl ⟨rfl, ?_⟩
    exact (Below.refl _ _).alloc (Nat.le_refl _) _
  · clear hk
    go_enter Try.func13, Try.ntmps13
    go_wp2
    refine bodyPost_ret (v := .agg #[.int .u8 132, .int .u8 49, .int .u8 130, .int .u8 56]) (by simp [results, Try.results13, go_sem]) rfl ⟨rfl, ?_⟩
    exact (Below.refl _ _).alloc (Nat.le_refl _) _
  · clear hk
    go_enter Try.func13, Try.ntmps13
    go_wp2
    refine bodyPost_ret (v := .agg #[.int .u8 132, .int .u8 49, .int .u8 130, .int .u8 57]) (by simp [results, Try.results13, go_sem]) rfl ⟨rfl, ?_⟩
    exact (Below.refl _ _).alloc (Nat.le_refl _) _
  · clear hk
    go_enter Try.func13, Try.ntmps13
    go_wp2
    refine bodyPost_ret (v := .agg #[.int .u8 132, .int .u8 49, .int .u8 131, .int .u8 48]) (by simp [results, Try.results13, go_sem]) rfl ⟨rfl, ?_⟩
    exact (Below.refl _ _).alloc (Nat.le_refl _) _
  · clear hk
    go_enter Try.func13, Try.ntmps13
    go_wp2
    refine bodyPost_ret (v := .agg #[.int .u8 132, .int .u8 49, .int .u8 131, .int .u8 49]) (by simp [results, Try.results13, go_sem]) rfl ⟨rfl, ?_⟩
    exact (Below.refl _ _).alloc (Nat.le_refl _) _
  · clear hk
    go_enter Try.func13, Try.ntmps13
    go_wp2
    refine bodyPost_ret (v := .agg #[.int .u8 132, .int .u8 49, .int .u8 131, .int .u8 50]) (by simp [results, Try.results13, go_sem]) rfl ⟨rfl, ?_⟩
    exact (Below.refl _ _).alloc (Nat.le_refl _) _
  · clear hk
    go_enter Try.func13, Try.ntmps13
    go_wp2
    refine bodyPost_ret (v := .agg #[.int .u8 132, .int .u8 49, .int .u8 131, .int .u8 51]) (by simp [results, Try.results13, go_sem]) rfl ⟨rfl, ?_⟩
    exact (Below.refl _ _).alloc (Nat.le_refl _) _
  · clear hk
    go_enter Try.func13, Try.ntmps13
    go_wp2
    refine bodyPost_ret (v := .agg #[.int .u8 132, .int .u8 49, .int .u8 131, .int .u8 52]) (by simp [results, Try.results13, go_sem]) rfl ⟨rfl, ?_⟩
    exact (Below.refl _ _).alloc (Nat.le_refl _) _
  · clear hk
    go_enter Try.func13, Try.ntmps13
    go_wp2
    refine bodyPost_ret (v := .agg #[.int .u8 132, .int .u8 49, .int .u8 131, .int .u8 53]) (by simp [results, Try.results13, go_sem]) rfl ⟨rfl, ?_⟩
    exact (Below.refl _ _).alloc (Nat.le_refl _) _
end Go.Proofs.Qxb6602598a
