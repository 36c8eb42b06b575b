import Derived.Test.Qxb6602598aCmp
import Derived.Deep.RegionHeld3
namespace Go.Proofs.Qxb6602598a
open Go.RowKit Go.Deep

theorem four4 {b o : Nat} {v0 v1 v2 v3 : Value} {w w' : World} (h0 : w.cell? ⟨b, o, none⟩ = some v0) (h1 : w.cell? ⟨b, o + 1, none⟩ = some v1) (h2 : w.cell? ⟨b, o + 2, none⟩ = some v2) (h3 : w.cell? ⟨b, o + 3, none⟩ = some v3) (hb : Below w.heap.size w w') :
    w'.cell? ⟨b, o, none⟩ = some v0 ∧ w'.cell? ⟨b, o + 1, none⟩ = some v1 ∧ w'.cell? ⟨b, o + 2, none⟩ = some v2 ∧ w'.cell? ⟨b, o + 3, none⟩ = some v3 ∧ Below w.heap.size w w' :=
  ⟨cell_below hb h0, cell_below hb h1, cell_below hb h2, cell_below hb h3, hb⟩

theorem below4n {w W : World} {cs : Obj} {o0 o1 o2 o3 : Nat} {v0 v1 v2 v3 : Value} (h : Below w.heap.size w W) : Below w.heap.size w (((((W.alloc cs).setCell ⟨W.heap.size, o0, none⟩ v0).setCell ⟨W.heap.size, o1, none⟩ v1).setCell ⟨W.heap.size, o2, none⟩ v2).setCell ⟨W.heap.size, o3, none⟩ v3) :=
  ((((h.alloc h.size cs).setCell (p := ⟨W.heap.size, o0, none⟩) h.size _).setCell (p := ⟨W.heap.size, o1, none⟩) h.size _).setCell (p := ⟨W.heap.size, o2, none⟩) h.size _).setCell (p := ⟨W.heap.size, o3, none⟩) h.size _

theorem new4 {w w1 : World} {v0 v1 v2 v3 : Value} (hb : Below (w.alloc (.cells #[v0, v1, v2, v3] 27)).drew.heap.size (w.alloc (.cells #[v0, v1, v2, v3] 27)).drew w1) :
    w1.cell? ⟨w.heap.size, 0, none⟩ = some v0 ∧ w1.cell? ⟨w.heap.size, 1, none⟩ = some v1 ∧ w1.cell? ⟨w.heap.size, 2, none⟩ = some v2 ∧ w1.cell? ⟨w.heap.size, 3, none⟩ = some v3 ∧ Below w.heap.size w w1 :=
  ⟨cell_below hb (by simp [go_sem]), cell_below hb (by simp [go_sem]), cell_below hb (by simp [go_sem]), cell_below hb (by simp [go_sem]), below_step hb ((Below.refl _ _).alloc (Nat.le_refl _) _).drew⟩

set_option maxHeartbeats 8000000 in
theorem ms_core (b o n c : Nat) (b0 b1 b2 b3 : Int) (w : World) (mx : n ≤ 9223372036854775807) (r0 : 0 ≤ b0 ∧ b0 < 256) (r1 : 0 ≤ b1 ∧ b1 < 256) (r2 : 0 ≤ b2 ∧ b2 < 256) (r3 : 0 ≤ b3 ∧ b3 < 256)
    (h0 : w.cell? ⟨b, o, none⟩ = some (.int .u8 b0)) (h1 : w.cell? ⟨b, o + 1, none⟩ = some (.int .u8 b1)) (h2 : 4 ≤ n → w.cell? ⟨b, o + 2, none⟩ = some (.int .u8 b2)) (h3 : 4 ≤ n → w.cell? ⟨b, o + 3, none⟩ = some (.int .u8 b3)) (hn : 2 ≤ n) :
    Calls Try.prog 9 #[.slice (some ⟨b, o, none⟩) n c] w fun e w' => e = .returned (.int .i64 (msV n b0 b1 b2 b3)) ∧ Below w.heap.size w w' := by
  obtain ⟨r0a, r0b⟩ := r0
  obtain ⟨r1a, r1b⟩ := r1
  obtain ⟨r2a, r2b⟩ := r2
  obtain ⟨r3a, r3b⟩ := r3
  have i0 : (0 : Int) < (n : Int) := by omega
  have i1 : (1 : Int) < (n : Int) := by omega
  have i0n : 0 < n := by omega
  have k2 : ¬ (n : Int) < 2 := by omega
  by_cases t0 : b0 < 129
  · go_enter Try.func9, Try.ntmps9
    go_wp2
    go_ret
    exact ⟨ret_i64 (by unfold msV; rw [if_neg (show ¬ (n < 2) by omega), if_pos (show b0 < 129 by omega)]), Below.refl _ _⟩
  by_cases t1 : b0 = 255
  · subst t1
    go_enter Try.func9, Try.ntmps9
    go_wp2
    go_ret
    exact ⟨ret_i64 (by unfold msV; rw [if_neg (show ¬ (n < 2) by omega), if_neg (show ¬ ((255 : Int) < 129) by omega), if_pos (show (255 : Int) = 255 by omega)]), Below.refl _ _⟩
  have t1' : (b0 == 255) = false := by simpa using t1
  by_cases t2 : b1 < 48
  · have x1 : ¬ 64 ≤ b1 := by omega
    go_enter Try.func9, Try.ntmps9
    go_wp2
    go_ret
    exact ⟨ret_i64 (by unfold msV; rw [if_neg (show ¬ (n < 2) by omega), if_neg (show ¬ (b0 < 129) by omega), if_neg (show ¬ (b0 = 255) by omega), if_neg (show ¬ (64 ≤ b1 ∧ b1 ≤ 254 ∧ ¬ b1 = 127) by omega), if_pos (show b1 < 48 by omega)]), Below.refl _ _⟩
  by_cases t3 : 57 < b1
  · by_cases u4 : b1 < 64
    · have x1 : ¬ 64 ≤ b1 := by omega
      go_enter Try.func9, Try.ntmps9
      go_wp2
      go_ret
      exact ⟨ret_i64 (by unfold msV; rw [if_neg (show ¬ (n < 2) by omega), if_neg (show ¬ (b0 < 129) by omega), if_neg (show ¬ (b0 = 255) by omega), if_neg (show ¬ (64 ≤ b1 ∧ b1 ≤ 254 ∧ ¬ b1 = 127) by omega), if_neg (show ¬ (b1 < 48) by omega), if_pos (show 57 < b1 by omega)]), Below.refl _ _⟩
    have x1 : 64 ≤ b1 := by omega
    by_cases u5 : b1 = 127
    · subst u5
      go_enter Try.func9, Try.ntmps9
      go_wp2
      go_ret
      exact ⟨ret_i64 (by unfold msV; rw [if_neg (show ¬ (n < 2) by omega), if_neg (show ¬ (b0 < 129) by omega), if_neg (show ¬ (b0 = 255) by omega), if_neg (show ¬ (64 ≤ (127 : Int) ∧ (127 : Int) ≤ 254 ∧ ¬ (127 : Int) = 127) by omega), if_neg (show ¬ ((127 : Int) < 48) by omega), if_pos (show 57 < (127 : Int) by omega)]), Below.refl _ _⟩
    have u5' : (b1 == 127) = false := by simpa using u5
    by_cases u6 : b1 = 255
    · subst u6
      go_enter Try.func9, Try.ntmps9
      go_wp2
      go_ret
      exact ⟨ret_i64 (by unfold msV; rw [if_neg (show ¬ (n < 2) by omega), if_neg (show ¬ (b0 < 129) by omega), if_neg (show ¬ (b0 = 255) by omega), if_neg (show ¬ (64 ≤ (255 : Int) ∧ (255 : Int) ≤ 254 ∧ ¬ (255 : Int) = 127) by omega), if_neg (show ¬ ((255 : Int) < 48) by omega), if_pos (show 57 < (255 : Int) by omega)]), Below.refl _ _⟩
    have x2 : b1 ≤ 254 := by omega
    go_enter Try.func9, Try.ntmps9
    go_wp2
    go_ret
    exact ⟨ret_i64 (by unfold msV; rw [if_neg (show ¬ (n < 2) by omega), if_neg (show ¬ (b0 < 129) by omega), if_neg (show ¬ (b0 = 255) by omega), if_pos (show 64 ≤ b1 ∧ b1 ≤ 254 ∧ ¬ b1 = 127 by omega)]), Below.refl _ _⟩
  have x1 : ¬ 64 ≤ b1 := by omega
  by_cases k4 : n < 4
  · have k4' : (n : Int) < 4 := by omega
    go_enter Try.func9, Try.ntmps9
    go_wp2
    go_ret
    exact ⟨ret_i64 (by unfold msV; rw [if_neg (show ¬ (n < 2) by omega), if_neg (show ¬ (b0 < 129) by omega), if_neg (show ¬ (b0 = 255) by omega), if_neg (show ¬ (64 ≤ b1 ∧ b1 ≤ 254 ∧ ¬ b1 = 127) by omega), if_neg (show ¬ (b1 < 48) by omega), if_neg (show ¬ (57 < b1) by omega), if_pos (show n < 4 by omega)]), Below.refl _ _⟩
  have k4' : ¬ (n : Int) < 4 := by omega
  have i2 : (2 : Int) < (n : Int) := by omega
  have i3 : (3 : Int) < (n : Int) := by omega
  have h2 := h2 (by omega)
  have h3 := h3 (by omega)
  by_cases t5 : b2 < 129
  · go_enter Try.func9, Try.ntmps9
    go_wp2
    go_ret
    exact ⟨ret_i64 (by unfold msV; rw [if_neg (show ¬ (n < 2) by omega), if_neg (show ¬ (b0 < 129) by omega), if_neg (show ¬ (b0 = 255) by omega), if_neg (show ¬ (64 ≤ b1 ∧ b1 ≤ 254 ∧ ¬ b1 = 127) by omega), if_neg (show ¬ (b1 < 48) by omega), if_neg (show ¬ (57 < b1) by omega), if_neg (show ¬ (n < 4) by omega), if_pos (show b2 < 129 by omega)]), Below.refl _ _⟩
  by_cases t6 : b2 = 255
  · subst t6
    go_enter Try.func9, Try.ntmps9
    go_wp2
    go_ret
    exact ⟨ret_i64 (by unfold msV; rw [if_neg (show ¬ (n < 2) by omega), if_neg (show ¬ (b0 < 129) by omega), if_neg (show ¬ (b0 = 255) by omega), if_neg (show ¬ (64 ≤ b1 ∧ b1 ≤ 254 ∧ ¬ b1 = 127) by omega), if_neg (show ¬ (b1 < 48) by omega), if_neg (show ¬ (57 < b1) by omega), if_neg (show ¬ (n < 4) by omega), if_neg (show ¬ ((255 : Int) < 129) by omega), if_pos (show (255 : Int) = 255 by omega)]), Below.refl _ _⟩
  have t6' : (b2 == 255) = false := by simpa using t6
  by_cases t7 : b3 < 48
  · go_enter Try.func9, Try.ntmps9
    go_wp2
    go_ret
    exact ⟨ret_i64 (by unfold msV; rw [if_neg (show ¬ (n < 2) by omega), if_neg (show ¬ (b0 < 129) by omega), if_neg (show ¬ (b0 = 255) by omega), if_neg (show ¬ (64 ≤ b1 ∧ b1 ≤ 254 ∧ ¬ b1 = 127) by omega), if_neg (show ¬ (b1 < 48) by omega), if_neg (show ¬ (57 < b1) by omega), if_neg (show ¬ (n < 4) by omega), if_neg (show ¬ (b2 < 129) by omega), if_neg (show ¬ (b2 = 255) by omega), if_pos (show b3 < 48 by omega)]), Below.refl _ _⟩
  by_cases t8 : 57 < b3
  · go_enter Try.func9, Try.ntmps9
    go_wp2
    go_ret
    exact ⟨ret_i64 (by unfold msV; rw [if_neg (show ¬ (n < 2) by omega), if_neg (show ¬ (b0 < 129) by omega), if_neg (show ¬ (b0 = 255) by omega), if_neg (show ¬ (64 ≤ b1 ∧ b1 ≤ 254 ∧ ¬ b1 = 127) by omega), if_neg (show ¬ (b1 < 48) by omega), if_neg (show ¬ (57 < b1) by omega), if_neg (show ¬ (n < 4) by omega), if_neg (show ¬ (b2 < 129) by omega), if_neg (show ¬ (b2 = 255) by omega), if_neg (show ¬ (b3 < 48) by omega), if_pos (show 57 < b3 by omega)]), Below.refl _ _⟩
  by_cases t9 : cmpV b0 b1 b2 b3 132 49 164 57 ≤ 0
  · go_enter Try.func9, Try.ntmps9
    go_wp2
    go_region_held3 (fun w' => w'.cell? ⟨b, o, none⟩ = some (.int .u8 b0) ∧ w'.cell? ⟨b, o + 1, none⟩ = some (.int .u8 b1) ∧ w'.cell? ⟨b, o + 2, none⟩ = some (.int .u8 b2) ∧ w'.cell? ⟨b, o + 3, none⟩ = some (.int .u8 b3) ∧ Below w.heap.size w w')
      ((refine four4 h0 h1 h2 h3 ?_; first | assumption | exact (Below.refl _ _).drew | exact ((Below.refl _ _).alloc (Nat.le_refl _) _).drew | exact (below4n (Below.refl _ _)).drew | exact below4n (Below.refl _ _)))
      (fail)
    go_wp2_with fail
    refine (cmp_any b0 b1 b2 b3 132 49 164 57 _).mono ?_
    rintro e w1 ⟨rfl, hb1⟩
    obtain ⟨p0, p1, p2, p3, g1⟩ := new4 hb1
    go_wp2_with fail
    go_ret
    exact ⟨ret_i64 (by unfold msV; rw [if_neg (show ¬ (n < 2) by omega), if_neg (show ¬ (b0 < 129) by omega), if_neg (show ¬ (b0 = 255) by omega), if_neg (show ¬ (64 ≤ b1 ∧ b1 ≤ 254 ∧ ¬ b1 = 127) by omega), if_neg (show ¬ (b1 < 48) by omega), if_neg (show ¬ (57 < b1) by omega), if_neg (show ¬ (n < 4) by omega), if_neg (show ¬ (b2 < 129) by omega), if_neg (show ¬ (b2 = 255) by omega), if_neg (show ¬ (b3 < 48) by omega), if_neg (show ¬ (57 < b3) by omega), if_pos (show cmpV b0 b1 b2 b3 132 49 164 57 ≤ 0 by omega)]), g1⟩
  by_cases t10 : 0 ≤ cmpV b0 b1 b2 b3 144 48 129 48
  · by_cases t11 : cmpV b0 b1 b2 b3 227 50 154 53 ≤ 0
    · go_enter Try.func9, Try.ntmps9
      go_wp2
      go_region_held3 (fun w' => w'.cell? ⟨b, o, none⟩ = some (.int .u8 b0) ∧ w'.cell? ⟨b, o + 1, none⟩ = some (.int .u8 b1) ∧ w'.cell? ⟨b, o + 2, none⟩ = some (.int .u8 b2) ∧ w'.cell? ⟨b, o + 3, none⟩ = some (.int .u8 b3) ∧ Below w.heap.size w w')
        ((refine four4 h0 h1 h2 h3 ?_; first | assumption | exact (Below.refl _ _).drew | exact ((Below.refl _ _).alloc (Nat.le_refl _) _).drew | exact (below4n (Below.refl _ _)).drew | exact below4n (Below.refl _ _)))
        (fail)
      go_wp2_with fail
      refine (cmp_any b0 b1 b2 b3 132 49 164 57 _).mono ?_
      rintro e w1 ⟨rfl, hb1⟩
      obtain ⟨p0, p1, p2, p3, g1⟩ := new4 hb1
      go_wp2_with fail
      refine (cmp_any b0 b1 b2 b3 144 48 129 48 _).mono ?_
      rintro e w2 ⟨rfl, hb2⟩
      have q0 := cell_below hb2 p0
      have q1 := cell_below hb2 p1
      have q2 := cell_below hb2 p2
      have q3 := cell_below hb2 p3
      have g2 := below_step hb2 g1
      go_wp2_with fail
      refine (cmp_any b0 b1 b2 b3 227 50 154 53 _).mono ?_
      rintro e w3 ⟨rfl, hb3⟩
      have g3 := below_step hb3 g2
      go_wp2_with fail
      go_ret
      exact ⟨ret_i64 (by unfold msV; rw [if_neg (show ¬ (n < 2) by omega), if_neg (show ¬ (b0 < 129) by omega), if_neg (show ¬ (b0 = 255) by omega), if_neg (show ¬ (64 ≤ b1 ∧ b1 ≤ 254 ∧ ¬ b1 = 127) by omega), if_neg (show ¬ (b1 < 48) by omega), if_neg (show ¬ (57 < b1) by omega), if_neg (show ¬ (n < 4) by omega), if_neg (show ¬ (b2 < 129) by omega), if_neg (show ¬ (b2 = 255) by omega), if_neg (show ¬ (b3 < 48) by omega), if_neg (show ¬ (57 < b3) by omega), if_neg (show ¬ (cmpV b0 b1 b2 b3 132 49 164 57 ≤ 0) by omega), if_pos (show 0 ≤ cmpV b0 b1 b2 b3 144 48 129 48 ∧ cmpV b0 b1 b2 b3 227 50 154 53 ≤ 0 by omega)]), g3⟩
    · go_enter Try.func9, Try.ntmps9
      go_wp2
      go_region_held3 (fun w' => w'.cell? ⟨b, o, none⟩ = some (.int .u8 b0) ∧ w'.cell? ⟨b, o + 1, none⟩ = some (.int .u8 b1) ∧ w'.cell? ⟨b, o + 2, none⟩ = some (.int .u8 b2) ∧ w'.cell? ⟨b, o + 3, none⟩ = some (.int .u8 b3) ∧ Below w.heap.size w w')
        ((refine four4 h0 h1 h2 h3 ?_; first | assumption | exact (Below.refl _ _).drew | exact ((Below.refl _ _).alloc (Nat.le_refl _) _).drew | exact (below4n (Below.refl _ _)).drew | exact below4n (Below.refl _ _)))
        (fail)
      go_wp2_with fail
      refine (cmp_any b0 b1 b2 b3 132 49 164 57 _).mono ?_
      rintro e w1 ⟨rfl, hb1⟩
      obtain ⟨p0, p1, p2, p3, g1⟩ := new4 hb1
      go_wp2_with fail
      refine (cmp_any b0 b1 b2 b3 144 48 129 48 _).mono ?_
      rintro e w2 ⟨rfl, hb2⟩
      have q0 := cell_below hb2 p0
      have q1 := cell_below hb2 p1
      have q2 := cell_below hb2 p2
      have q3 := cell_below hb2 p3
      have g2 := below_step hb2 g1
      go_wp2_with fail
      refine (cmp_any b0 b1 b2 b3 227 50 154 53 _).mono ?_
      rintro e w3 ⟨rfl, hb3⟩
      have g3 := below_step hb3 g2
      go_wp2_with fail
      go_ret
      exact ⟨ret_i64 (by unfold msV; rw [if_neg (show ¬ (n < 2) by omega), if_neg (show ¬ (b0 < 129) by omega), if_neg (show ¬ (b0 = 255) by omega), if_neg (show ¬ (64 ≤ b1 ∧ b1 ≤ 254 ∧ ¬ b1 = 127) by omega), if_neg (show ¬ (b1 < 48) by omega), if_neg (show ¬ (57 < b1) by omega), if_neg (show ¬ (n < 4) by omega), if_neg (show ¬ (b2 < 129) by omega), if_neg (show ¬ (b2 = 255) by omega), if_neg (show ¬ (b3 < 48) by omega), if_neg (show ¬ (57 < b3) by omega), if_neg (show ¬ (cmpV b0 b1 b2 b3 132 49 164 57 ≤ 0) by omega), if_neg (show ¬ (0 ≤ cmpV b0 b1 b2 b3 144 48 129 48 ∧ cmpV b0 b1 b2 b3 227 50 154 53 ≤ 0) by omega)]), g3⟩
  go_enter Try.func9, Try.ntmps9
  go_wp2
  go_region_held3 (fun w' => w'.cell? ⟨b, o, none⟩ = some (.int .u8 b0) ∧ w'.cell? ⟨b, o + 1, none⟩ = some (.int .u8 b1) ∧ w'.cell? ⟨b, o + 2, none⟩ = some (.int .u8 b2) ∧ w'.cell? ⟨b, o + 3, none⟩ = some (.int .u8 b3) ∧ Below w.heap.size w w')
    ((refine four4 h0 h1 h2 h3 ?_; first | assumption | exact (Below.refl _ _).drew | exact ((Below.refl _ _).alloc (Nat.le_refl _) _).drew | exact (below4n (Below.refl _ _)).drew | exact below4n (Below.refl _ _)))
    (fail)
  go_wp2_with fail
  refine (cmp_any b0 b1 b2 b3 132 49 164 57 _).mono ?_
  rintro e w1 ⟨rfl, hb1⟩
  obtain ⟨p0, p1, p2, p3, g1⟩ := new4 hb1
  go_wp2_with fail
  refine (cmp_any b0 b1 b2 b3 144 48 129 48 _).mono ?_
  rintro e w2 ⟨rfl, hb2⟩
  have q0 := cell_below hb2 p0
  have q1 := cell_below hb2 p1
  have q2 := cell_below hb2 p2
  have q3 := cell_below hb2 p3
  have g2 := below_step hb2 g1
  go_wp2_with fail
  go_ret
  exact ⟨ret_i64 (by unfold msV; rw [if_neg (show ¬ (n < 2) by omega), if_neg (show ¬ (b0 < 129) by omega), if_neg (show ¬ (b0 = 255) by omega), if_neg (show ¬ (64 ≤ b1 ∧ b1 ≤ 254 ∧ ¬ b1 = 127) by omega), if_neg (show ¬ (b1 < 48) by omega), if_neg (show ¬ (57 < b1) by omega), if_neg (show ¬ (n < 4) by omega), if_neg (show ¬ (b2 < 129) by omega), if_neg (show ¬ (b2 = 255) by omega), if_neg (show ¬ (b3 < 48) by omega), if_neg (show ¬ (57 < b3) by omega), if_neg (show ¬ (cmpV b0 b1 b2 b3 132 49 164 57 ≤ 0) by omega), if_neg (show ¬ (0 ≤ cmpV b0 b1 b2 b3 144 48 129 48 ∧ cmpV b0 b1 b2 b3 227 50 154 53 ≤ 0) by omega)]), g2⟩

set_option maxHeartbeats 400000 in
theorem ms_any (a : Option Addr) (n c : Nat) (bs : List Nat) (w : World) (h : Bz w a n bs) :
    Calls Try.prog 9 #[.slice a n c] w fun e w' => e = .returned (.int .i64 (msV n (bz bs 0 : Nat) (bz bs 1 : Nat) (bz bs 2 : Nat) (bz bs 3 : Nat))) ∧ Below w.heap.size w w' := by
  have mx := h.max
  by_cases hn : n < 2
  · have k : (n : Int) < 2 := by omega
    have e : msV n (bz bs 0 : Nat) (bz bs 1 : Nat) (bz bs 2 : Nat) (bz bs 3 : Nat) = 0 := by unfold msV; rw [if_pos hn]
    rw [e]
    clear e
    go_enter Try.func9, Try.ntmps9
    go_wp2
    go_ret
    exact ⟨rfl, Below.refl _ _⟩
  · obtain ⟨b, o, rfl, hc⟩ := h.cell 0 (by omega)
    have f0 := h.fit 0; have f1 := h.fit 1; have f2 := h.fit 2; have f3 := h.fit 3
    exact ms_core b o n c _ _ _ _ w mx (by omega) (by omega) (by omega) (by omega) (by simpa using hc 0 (by omega)) (hc 1 (by omega)) (fun h4 => hc 2 (by omega)) (fun h4 => hc 3 (by omega)) (by omega)

theorem bdrewN {w : World} (m : Nat) : Below w.heap.size w (w.drewN m) := below_drewN (Below.refl _ _) m

set_option maxHeartbeats 1000000 in
theorem law3 (a : Option Addr) (n c : Nat) (bs : List Nat) (w : World) (h : Bz w a n bs) :
    Calls Try.prog 3 #[.slice a n c] w fun e w' => e = .returned (.bool true) ∧ Below w.heap.size w w' := by
  have mx := h.max
  have f0 := h.fit 0; have f1 := h.fit 1; have f2 := h.fit 2; have f3 := h.fit 3
  have e := cs_ms n (bz bs 0 : Nat) (bz bs 1 : Nat) (bz bs 2 : Nat) (bz bs 3 : Nat) (by omega) (by omega) (by omega) (by omega)
  clear f0 f1 f2 f3
  have E : Hid _ := e
  clear e
  by_cases hn : 1048576 < n
  · have k : (1048576 : Int) < (n : Int) := by omega
    go_enter Try.func3, Try.ntmps3
    go_wp2_with fail
    refine (zz6 a n c _ mx).mono ?_
    rintro e w' ⟨⟨r, rfl⟩, rfl⟩
    cases r
    · go_wp2_with fail
      go_ret
      exact ⟨rfl, Below.refl _ _⟩
    · go_wp2_with fail
      go_ret
      exact ⟨rfl, Below.refl _ _⟩
  · have k : ¬ (1048576 : Int) < (n : Int) := by omega
    go_enter Try.func3, Try.ntmps3
    go_wp2_with fail
    refine (zz6 a n c _ mx).mono ?_
    rintro e w' ⟨⟨r, rfl⟩, rfl⟩
    cases r
    · go_wp2_with fail
      go_ret
      exact ⟨rfl, Below.refl _ _⟩
    · go_wp2_with fail
      refine (clone_any a n c bs _ h (by omega)).mono ?_
      rintro e w1 ⟨a1, c1, rfl, hb, g1⟩
      go_wp2_with fail
      refine (zcs_any a1 n c1 bs _ hb).mono ?_
      rintro e w2 ⟨rfl, m, rfl⟩
      go_wp2_with fail
      refine (ms_any a1 n c1 bs _ (hb.below (bdrewN m))).mono ?_
      rintro e w3 ⟨rfl, g3⟩
      go_wp2_with fail
      go_ret
      have e := E.out
      exact ⟨ret_bool (by simpa using e), below_step g3 (below_step (bdrewN m) g1)⟩
end Go.Proofs.Qxb6602598a
