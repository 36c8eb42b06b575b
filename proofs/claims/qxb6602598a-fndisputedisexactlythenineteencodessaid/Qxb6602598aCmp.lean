import Derived.Test.Qxb6602598aCs
namespace Go.Proofs.Qxb6602598a
open Go.RowKit Go.Deep

/-- 'cmp4'. -/
def cmpV (x0 x1 x2 x3 y0 y1 y2 y3 : Int) : Int :=
  if x0 < y0 then -1 else if y0 < x0 then 1 else if x1 < y1 then -1 else if y1 < x1 then 1 else if x2 < y2 then -1 else if y2 < x2 then 1 else if x3 < y3 then -1 else if y3 < x3 then 1 else 0

set_option maxHeartbeats 4000000 in
theorem cmp_any (x0 x1 x2 x3 y0 y1 y2 y3 : Int) (w : World) :
    Calls Try.prog 12 #[.agg #[.int .u8 x0, .int .u8 x1, .int .u8 x2, .int .u8 x3], .agg #[.int .u8 y0, .int .u8 y1, .int .u8 y2, .int .u8 y3]] w fun e w' => e = .returned (.int .i64 (cmpV x0 x1 x2 x3 y0 y1 y2 y3)) ∧ Below w.heap.size w w' := by
  have e0 : Below w.heap.size w ((w.alloc (.cells #[.int .u8 x0, .int .u8 x1, .int .u8 x2, .int .u8 x3] 27)).alloc (.cells #[.int .u8 y0, .int .u8 y1, .int .u8 y2, .int .u8 y3] 27)) := ((Below.refl _ _).alloc (Nat.le_refl _) _).alloc (by simp) _
  go_enter Try.func12, Try.ntmps12
  go_wp2
  go_loopw [5] (fun i wr => ∃ k : Nat, k ≤ 4 ∧ i = .int .i64 k ∧ (0 < k → x0 = y0) ∧ (1 < k → x1 = y1) ∧ (2 < k → x2 = y2) ∧ (3 < k → x3 = y3) ∧ ∃ m, wr = ((w.alloc (.cells #[.int .u8 x0, .int .u8 x1, .int .u8 x2, .int .u8 x3] 27)).alloc (.cells #[.int .u8 y0, .int .u8 y1, .int .u8 y2, .int .u8 y3] 27)).drewN m) (fun i _ => 4 - (intOf i).toNat)
  case atStart => exact ⟨0, by omega, rfl, by omega, by omega, by omega, by omega, 0, rfl⟩
  case round =>
    obtain ⟨k, hk, rfl, g0, g1, g2, g3, nr, rfl⟩ := hrel
    rcases (show k = 0 ∨ k = 1 ∨ k = 2 ∨ k = 3 ∨ k = 4 by omega) with rfl | rfl | rfl | rfl | rfl
    · clear hk
      clear g0 g1 g2 g3
      by_cases hl : x0 < y0
      · go_wp2
        go_quiet (fail)
        go_wp2
        go_ret
        exact ⟨ret_i64 (by unfold cmpV; rw [if_pos hl]), by first | exact below_drewN e0 _ | exact below_drewN (below_drewN e0 _) _ | exact below_drewN (below_drewN (below_drewN e0 _) _) _⟩
      · by_cases hg : y0 < x0
        · go_wp2
          go_quiet (fail)
          go_wp2
          go_quiet (fail)
          go_wp2
          go_ret
          exact ⟨ret_i64 (by unfold cmpV; rw [if_neg (by omega), if_pos hg]), by first | exact below_drewN e0 _ | exact below_drewN (below_drewN e0 _) _ | exact below_drewN (below_drewN (below_drewN e0 _) _) _⟩
        · go_wp2
          go_quiet (fail)
          go_wp2
          go_quiet (fail)
          go_wp2
          go_roundw
          case rel => exact ⟨1, by omega, by go_num, fun _ => by omega, by omega, by omega, by omega, _, by first | rfl | exact World.drewN_drewN ..⟩
          case measure => simp [intOf]
    · clear hk
      have G0 : Hid (x0 = y0) := g0 (by omega)
      clear g0 g1 g2 g3
      by_cases hl : x1 < y1
      · go_wp2
        go_quiet (fail)
        go_wp2
        go_ret
        exact ⟨ret_i64 (by unfold cmpV; rw [if_neg (by have := G0.out; omega), if_neg (by have := G0.out; omega), if_pos hl]), by first | exact below_drewN e0 _ | exact below_drewN (below_drewN e0 _) _ | exact below_drewN (below_drewN (below_drewN e0 _) _) _⟩
      · by_cases hg : y1 < x1
        · go_wp2
          go_quiet (fail)
          go_wp2
          go_quiet (fail)
          go_wp2
          go_ret
          exact ⟨ret_i64 (by unfold cmpV; rw [if_neg (by have := G0.out; omega), if_neg (by have := G0.out; omega), if_neg (by omega), if_pos hg]), by first | exact below_drewN e0 _ | exact below_drewN (below_drewN e0 _) _ | exact below_drewN (below_drewN (below_drewN e0 _) _) _⟩
        · go_wp2
          go_quiet (fail)
          go_wp2
          go_quiet (fail)
          go_wp2
          go_roundw
          case rel => exact ⟨2, by omega, by go_num, fun _ => G0.out, fun _ => by omega, by omega, by omega, _, by first | rfl | exact World.drewN_drewN ..⟩
          case measure => simp [intOf]
    · clear hk
      have G0 : Hid (x0 = y0) := g0 (by omega)
      have G1 : Hid (x1 = y1) := g1 (by omega)
      clear g0 g1 g2 g3
      by_cases hl : x2 < y2
      · go_wp2
        go_quiet (fail)
        go_wp2
        go_ret
        exact ⟨ret_i64 (by unfold cmpV; rw [if_neg (by have := G0.out; have := G1.out; omega), if_neg (by have := G0.out; have := G1.out; omega), if_neg (by have := G0.out; have := G1.out; omega), if_neg (by have := G0.out; have := G1.out; omega), if_pos hl]), by first | exact below_drewN e0 _ | exact below_drewN (below_drewN e0 _) _ | exact below_drewN (below_drewN (below_drewN e0 _) _) _⟩
      · by_cases hg : y2 < x2
        · go_wp2
          go_quiet (fail)
          go_wp2
          go_quiet (fail)
          go_wp2
          go_ret
          exact ⟨ret_i64 (by unfold cmpV; rw [if_neg (by have := G0.out; have := G1.out; omega), if_neg (by have := G0.out; have := G1.out; omega), if_neg (by have := G0.out; have := G1.out; omega), if_neg (by have := G0.out; have := G1.out; omega), if_neg (by omega), if_pos hg]), by first | exact below_drewN e0 _ | exact below_drewN (below_drewN e0 _) _ | exact below_drewN (below_drewN (below_drewN e0 _) _) _⟩
        · go_wp2
          go_quiet (fail)
          go_wp2
          go_quiet (fail)
          go_wp2
          go_roundw
          case rel => exact ⟨3, by omega, by go_num, fun _ => G0.out, fun _ => G1.out, fun _ => by omega, by omega, _, by first | rfl | exact World.drewN_drewN ..⟩
          case measure => simp [intOf]
    · clear hk
      have G0 : Hid (x0 = y0) := g0 (by omega)
      have G1 : Hid (x1 = y1) := g1 (by omega)
      have G2 : Hid (x2 = y2) := g2 (by omega)
      clear g0 g1 g2 g3
      by_cases hl : x3 < y3
      · go_wp2
        go_quiet (fail)
        go_wp2
        go_ret
        exact ⟨ret_i64 (by unfold cmpV; rw [if_neg (by have := G0.out; have := G1.out; have := G2.out; omega), if_neg (by have := G0.out; have := G1.out; have := G2.out; omega), if_neg (by have := G0.out; have := G1.out; have := G2.out; omega), if_neg (by have := G0.out; have := G1.out; have := G2.out; omega), if_neg (by have := G0.out; have := G1.out; have := G2.out; omega), if_neg (by have := G0.out; have := G1.out; have := G2.out; omega), if_pos hl]), by first | exact below_drewN e0 _ | exact below_drewN (below_drewN e0 _) _ | exact below_drewN (below_drewN (below_drewN e0 _) _) _⟩
      · by_cases hg : y3 < x3
        · go_wp2
          go_quiet (fail)
          go_wp2
          go_quiet (fail)
          go_wp2
          go_ret
          exact ⟨ret_i64 (by unfold cmpV; rw [if_neg (by have := G0.out; have := G1.out; have := G2.out; omega), if_neg (by have := G0.out; have := G1.out; have := G2.out; omega), if_neg (by have := G0.out; have := G1.out; have := G2.out; omega), if_neg (by have := G0.out; have := G1.out; have := G2.out; omega), if_neg (by have := G0.out; have := G1.out; have := G2.out; omega), if_neg (by have := G0.out; have := G1.out; have := G2.out; omega), if_neg (by omega), if_pos hg]), by first | exact below_drewN e0 _ | exact below_drewN (below_drewN e0 _) _ | exact below_drewN (below_drewN (below_drewN e0 _) _) _⟩
        · go_wp2
          go_quiet (fail)
          go_wp2
          go_quiet (fail)
          go_wp2
          go_roundw
          case rel => exact ⟨4, by omega, by go_num, fun _ => G0.out, fun _ => G1.out, fun _ => G2.out, fun _ => by omega, _, by first | rfl | exact World.drewN_drewN ..⟩
          case measure => simp [intOf]
    · have G0 := g0 (by omega)
      have G1 := g1 (by omega)
      have G2 := g2 (by omega)
      have G3 := g3 (by omega)
      have e : cmpV x0 x1 x2 x3 y0 y1 y2 y3 = 0 := by unfold cmpV; rw [if_neg (by omega), if_neg (by omega), if_neg (by omega), if_neg (by omega), if_neg (by omega), if_neg (by omega), if_neg (by omega), if_neg (by omega)]
      clear g0 g1 g2 g3 G0 G1 G2 G3
      have HE : Hid (cmpV x0 x1 x2 x3 y0 y1 y2 y3 = 0) := e
      clear e
      go_wp2
      go_ret
      exact ⟨ret_i64 HE.out.symm, by first | exact below_drewN e0 _ | exact below_drewN (below_drewN e0 _) _⟩

/-- 'modelCodeSize', told by the bytes. -/
def msV (n : Nat) (b0 b1 b2 b3 : Int) : Int :=
  if n < 2 then 0 else if b0 < 129 then 0 else if b0 = 255 then 0
  else if 64 ≤ b1 ∧ b1 ≤ 254 ∧ ¬ b1 = 127 then 2
  else if b1 < 48 then 0 else if 57 < b1 then 0 else if n < 4 then 0 else if b2 < 129 then 0 else if b2 = 255 then 0 else if b3 < 48 then 0 else if 57 < b3 then 0
  else if cmpV b0 b1 b2 b3 132 49 164 57 ≤ 0 then 4
  else if 0 ≤ cmpV b0 b1 b2 b3 144 48 129 48 ∧ cmpV b0 b1 b2 b3 227 50 154 53 ≤ 0 then 4 else 0

theorem cmp_le {b0 b1 b2 b3 y0 y1 y2 y3 : Int} (r1 : 48 ≤ b1 ∧ b1 ≤ 57) (r2 : 129 ≤ b2 ∧ b2 ≤ 254) (r3 : 48 ≤ b3 ∧ b3 ≤ 57) (s1 : 48 ≤ y1 ∧ y1 ≤ 57) (s2 : 129 ≤ y2 ∧ y2 ≤ 254) (s3 : 48 ≤ y3 ∧ y3 ≤ 57) :
    cmpV b0 b1 b2 b3 y0 y1 y2 y3 ≤ 0 ↔ (((b0 - 129) * 10 + (b1 - 48)) * 126 + (b2 - 129)) * 10 + (b3 - 48) ≤ (((y0 - 129) * 10 + (y1 - 48)) * 126 + (y2 - 129)) * 10 + (y3 - 48) := by
  unfold cmpV
  by_cases a0 : b0 < y0
  · rw [if_pos a0]; omega
  rw [if_neg a0]
  by_cases c0 : y0 < b0
  · rw [if_pos c0]; omega
  rw [if_neg c0]
  by_cases a1 : b1 < y1
  · rw [if_pos a1]; omega
  rw [if_neg a1]
  by_cases c1 : y1 < b1
  · rw [if_pos c1]; omega
  rw [if_neg c1]
  by_cases a2 : b2 < y2
  · rw [if_pos a2]; omega
  rw [if_neg a2]
  by_cases c2 : y2 < b2
  · rw [if_pos c2]; omega
  rw [if_neg c2]
  by_cases a3 : b3 < y3
  · rw [if_pos a3]; omega
  rw [if_neg a3]
  by_cases c3 : y3 < b3
  · rw [if_pos c3]; omega
  rw [if_neg c3]
  omega

theorem cmp_ge {b0 b1 b2 b3 y0 y1 y2 y3 : Int} (r1 : 48 ≤ b1 ∧ b1 ≤ 57) (r2 : 129 ≤ b2 ∧ b2 ≤ 254) (r3 : 48 ≤ b3 ∧ b3 ≤ 57) (s1 : 48 ≤ y1 ∧ y1 ≤ 57) (s2 : 129 ≤ y2 ∧ y2 ≤ 254) (s3 : 48 ≤ y3 ∧ y3 ≤ 57) :
    0 ≤ cmpV b0 b1 b2 b3 y0 y1 y2 y3 ↔ (((y0 - 129) * 10 + (y1 - 48)) * 126 + (y2 - 129)) * 10 + (y3 - 48) ≤ (((b0 - 129) * 10 + (b1 - 48)) * 126 + (b2 - 129)) * 10 + (b3 - 48) := by
  unfold cmpV
  by_cases a0 : b0 < y0
  · rw [if_pos a0]; omega
  rw [if_neg a0]
  by_cases c0 : y0 < b0
  · rw [if_pos c0]; omega
  rw [if_neg c0]
  by_cases a1 : b1 < y1
  · rw [if_pos a1]; omega
  rw [if_neg a1]
  by_cases c1 : y1 < b1
  · rw [if_pos c1]; omega
  rw [if_neg c1]
  by_cases a2 : b2 < y2
  · rw [if_pos a2]; omega
  rw [if_neg a2]
  by_cases c2 : y2 < b2
  · rw [if_pos c2]; omega
  rw [if_neg c2]
  by_cases a3 : b3 < y3
  · rw [if_pos a3]; omega
  rw [if_neg a3]
  by_cases c3 : y3 < b3
  · rw [if_pos c3]; omega
  rw [if_neg c3]
  omega

theorem cs_ms (n : Nat) (b0 b1 b2 b3 : Int) (r0 : 0 ≤ b0 ∧ b0 < 256) (r1 : 0 ≤ b1 ∧ b1 < 256) (r2 : 0 ≤ b2 ∧ b2 < 256) (r3 : 0 ≤ b3 ∧ b3 < 256) : csV n b0 b1 b2 b3 = msV n b0 b1 b2 b3 := by
  unfold csV msV
  by_cases h1 : n < 2
  · rw [if_pos h1, if_pos h1]
  rw [if_neg h1, if_neg h1]
  by_cases h2 : b0 < 129
  · rw [if_pos h2, if_pos h2]
  rw [if_neg h2, if_neg h2]
  by_cases h3 : b0 = 255
  · rw [if_pos h3, if_pos (by omega)]
  rw [if_neg h3, if_neg (by omega)]
  by_cases h4 : b1 < 48 ∨ 57 < b1
  · rw [if_pos h4]
    by_cases h5 : b1 < 64
    · rw [if_pos h5, if_neg (by omega)]
      by_cases h6 : b1 < 48
      · rw [if_pos h6]
      · rw [if_neg h6, if_pos (by omega)]
    · rw [if_neg h5]
      by_cases h6 : b1 = 127
      · rw [if_pos h6, if_neg (by omega), if_neg (by omega), if_pos (by omega)]
      · rw [if_neg h6]
        by_cases h7 : b1 = 255
        · rw [if_pos h7, if_neg (by omega), if_neg (by omega), if_pos (by omega)]
        · rw [if_neg h7, if_pos (by omega)]
  · rw [if_neg h4, if_neg (show ¬ (64 ≤ b1 ∧ b1 ≤ 254 ∧ ¬ b1 = 127) by omega), if_neg (show ¬ b1 < 48 by omega), if_neg (show ¬ 57 < b1 by omega)]
    by_cases h5 : n < 4
    · rw [if_pos h5, if_pos h5]
    rw [if_neg h5, if_neg h5]
    by_cases h6 : b2 < 129
    · rw [if_pos h6, if_pos h6]
    rw [if_neg h6, if_neg h6]
    by_cases h7 : b2 = 255
    · rw [if_pos h7, if_pos (by omega)]
    rw [if_neg h7, if_neg (by omega)]
    by_cases h8 : b3 < 48
    · rw [if_pos h8, if_pos h8]
    rw [if_neg h8, if_neg h8]
    by_cases h9 : 57 < b3
    · rw [if_pos h9, if_pos h9]
    rw [if_neg h9, if_neg h9]
    have k1 := cmp_le (b0 := b0) (b1 := b1) (b2 := b2) (b3 := b3) (y0 := 132) (y1 := 49) (y2 := 164) (y3 := 57) (by omega) (by omega) (by omega) (by omega) (by omega) (by omega)
    have k2 := cmp_ge (b0 := b0) (b1 := b1) (b2 := b2) (b3 := b3) (y0 := 144) (y1 := 48) (y2 := 129) (y3 := 48) (by omega) (by omega) (by omega) (by omega) (by omega) (by omega)
    have k3 := cmp_le (b0 := b0) (b1 := b1) (b2 := b2) (b3 := b3) (y0 := 227) (y1 := 50) (y2 := 154) (y3 := 53) (by omega) (by omega) (by omega) (by omega) (by omega) (by omega)
    generalize cmpV b0 b1 b2 b3 132 49 164 57 = z1 at *
    generalize cmpV b0 b1 b2 b3 144 48 129 48 = z2 at *
    generalize cmpV b0 b1 b2 b3 227 50 154 53 = z3 at *
    by_cases q1 : (((b0 - 129) * 10 + (b1 - 48)) * 126 + (b2 - 129)) * 10 + (b3 - 48) < 39420
    · rw [if_pos q1, if_pos (show z1 ≤ 0 by omega)]
    · rw [if_neg q1, if_neg (show ¬ z1 ≤ 0 by omega)]
      by_cases q2 : 189000 ≤ (((b0 - 129) * 10 + (b1 - 48)) * 126 + (b2 - 129)) * 10 + (b3 - 48) ∧ (((b0 - 129) * 10 + (b1 - 48)) * 126 + (b2 - 129)) * 10 + (b3 - 48) < 1237576
      · rw [if_pos q2, if_pos (show 0 ≤ z2 ∧ z3 ≤ 0 by omega)]
      · rw [if_neg q2, if_neg (show ¬ (0 ≤ z2 ∧ z3 ≤ 0) by omega)]
end Go.Proofs.Qxb6602598a
