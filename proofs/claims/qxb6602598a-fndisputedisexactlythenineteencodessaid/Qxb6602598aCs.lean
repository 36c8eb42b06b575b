import Derived.Test.Qxb6602598aRows
import Derived.WalkKit
import Derived.WalkSpells
import Derived.WalkLawsBesides
import Derived.BigQuiet
import Derived.Deep.OwnRows
import Derived.Lib.SliceRun
namespace Go.Proofs.Qxb6602598a
open Go.RowKit Go.Deep

def bz (bs : List Nat) (i : Nat) : Nat := bs.getD i 0

/-- The slice (a, n) holds the bytes bs in w. -/
structure Bz (w : World) (a : Option Addr) (n : Nat) (bs : List Nat) : Prop where
  len : bs.length = n
  max : n ≤ 9223372036854775807
  fit : ∀ j, bz bs j < 256
  cell : ∀ i, i < n → ∃ b o, a = some ⟨b, o, none⟩ ∧ ∀ j, j < n → w.cell? ⟨b, o + j, none⟩ = some (.int .u8 (bz bs j : Nat))

theorem cell_below {w w' : World} (hb : Below w.heap.size w w') {a : Addr} {v : Value} (hc : w.cell? a = some v) : w'.cell? a = some v := (hb.cell (World.block_lt_of_cell? w a hc)).trans hc

theorem Bz.below {w w' : World} {a : Option Addr} {n : Nat} {bs : List Nat} (h : Bz w a n bs) (hb : Below w.heap.size w w') : Bz w' a n bs :=
  ⟨h.len, h.max, h.fit, fun i hi => by
    obtain ⟨b, o, e, hc⟩ := h.cell i hi
    exact ⟨b, o, e, fun j hj => cell_below hb (hc j hj)⟩⟩

theorem ret_i64 {a b : Int} (h : a = b) : Ending.returned (.int .i64 a) = .returned (.int .i64 b) := by rw [h]
theorem ret_bool {a b : Bool} (h : a = b) : Ending.returned (.bool a) = .returned (.bool b) := by rw [h]
theorem below_step {w W w1 : World} (hb : Below W.heap.size W w1) (h : Below w.heap.size w W) : Below w.heap.size w w1 := h.trans (hb.mono h.size)

theorem Try.info5 : (Try.prog.info? 5).map (fun i => (i.zero, i.size, i.bytes)) = some (some (.int .u8 0), 1, 1) := by kernel_rfl

set_option maxHeartbeats 400000 in
theorem clone_any (a : Option Addr) (n c : Nat) (zs : List Nat) (w : World) (h : Bz w a n zs) (hn : n ≤ 1048576) :
    Calls Try.prog 7 #[.slice a n c] w fun e w' => ∃ a' c', e = .returned (.slice a' n c') ∧ Bz w' a' n zs ∧ Below w.heap.size w w' := by
  have hmk := run_make_row' (P := Try.prog) 22 5 (.int .u8 0) 1 Try.underlying22 Try.info5 rfl .i64 .i64 n (by omega) (by omega)
  have heq := fun w => Lib.run_eql_slice_nil (P := Try.prog) w 22 5 a n c 0 0 Try.underlying22
  cases a with
  | none =>
    obtain rfl : n = 0 := by
      by_cases h0 : 0 < n
      · obtain ⟨b, o, e, _⟩ := h.cell 0 h0; cases e
      · omega
    go_enter Try.func7, Try.ntmps7
    go_wp2
    go_ret
    exact ⟨_, _, rfl, h, Below.refl _ _⟩
  | some x =>
    go_enter Try.func7, Try.ntmps7
    go_wp2
    go_loopw [4] (fun i wr => ∃ k : Nat, k ≤ n ∧ i = .int .i64 k ∧ wr.rowIs w.heap.size 5 n (fun i => .int .u8 (if i < k then (bz zs i : Nat) else 0)) ∧ Below w.heap.size w wr) (fun i _ => n - (intOf i).toNat)
    case atStart => exact ⟨0, by omega, rfl, by simpa using World.rowIs_made w _ n 5, (Below.refl _ _).alloc (Nat.le_refl _) _⟩
    case round =>
      obtain ⟨k, hk, rfl, hrow, hb⟩ := hrel
      by_cases hlt : k < n
      · obtain ⟨b, o, e, hcell⟩ := h.cell k hlt
        obtain rfl := Option.some.inj e
        have q := cell_below hb (hcell k hlt)
        have r0 := hrow.cell hlt
        have r1 := hrow.frozen k
        simp at r0
        go_wp2
        go_roundw
        case rel =>
          refine ⟨k + 1, by omega, by go_num, (hrow.set k _).congr fun i hi => ?_, hb.setCell (by simp) _⟩
          by_cases e : i = k
          · subst e; simp
          · simp only [if_neg e]; congr 2; simp; omega
        case measure => simp [intOf]; omega
      · go_wp2
        go_ret
        refine ⟨_, _, rfl, ⟨h.len, h.max, h.fit, fun _ _ => ⟨w.heap.size, 0, rfl, fun j hj => ?_⟩⟩, hb⟩
        rw [Nat.zero_add, hrow.cell hj]; simp; omega

/-- It returned a bool. -/
def RetB (e : Ending) : Prop := ∃ r : Bool, e = .returned (.bool r)

set_option maxHeartbeats 400000 in
theorem zz6 (a : Option Addr) (n c : Nat) (w : World) (h : n ≤ 9223372036854775807) : Calls Try.prog 6 #[.slice a n c] w fun e w' => RetB e ∧ w = w' := by
  go_enter Try.func6, Try.ntmps6
  go_wp2
  all_goals (go_ret; first | exact ⟨⟨false, rfl⟩, rfl⟩ | exact ⟨⟨true, rfl⟩, rfl⟩)

set_option maxHeartbeats 400000 in
theorem zz11 (a : Option Addr) (n c : Nat) (w : World) (h : n ≤ 9223372036854775807) : Calls Try.prog 11 #[.slice a n c] w fun e w' => RetB e ∧ w = w' := by
  go_enter Try.func11, Try.ntmps11
  go_wp2
  all_goals (go_ret; first | exact ⟨⟨false, rfl⟩, rfl⟩ | exact ⟨⟨true, rfl⟩, rfl⟩)

/-- 'codeSize', told by the bytes. -/
def csV (n : Nat) (b0 b1 b2 b3 : Int) : Int :=
  if n < 2 then 0 else if b0 < 129 then 0 else if 254 < b0 then 0
  else if b1 < 48 ∨ 57 < b1 then (if b1 < 64 then 0 else if b1 = 127 then 0 else if b1 = 255 then 0 else 2)
  else if n < 4 then 0 else if b2 < 129 then 0 else if 254 < b2 then 0 else if b3 < 48 then 0 else if 57 < b3 then 0
  else if (((b0 - 129) * 10 + (b1 - 48)) * 126 + (b2 - 129)) * 10 + (b3 - 48) < 39420 then 4
  else if 189000 ≤ (((b0 - 129) * 10 + (b1 - 48)) * 126 + (b2 - 129)) * 10 + (b3 - 48) ∧ (((b0 - 129) * 10 + (b1 - 48)) * 126 + (b2 - 129)) * 10 + (b3 - 48) < 1237576 then 4 else 0

set_option maxHeartbeats 8000000 in
theorem cs_core (b o n c : Nat) (b0 b1 b2 b3 : Int) (w : World) (mx : n ≤ 9223372036854775807) (r0 : 0 ≤ b0 ∧ b0 < 256) (r1 : 0 ≤ b1 ∧ b1 < 256) (r2 : 0 ≤ b2 ∧ b2 < 256) (r3 : 0 ≤ b3 ∧ b3 < 256)
    (h0 : w.cell? ⟨b, o, none⟩ = some (.int .u8 b0)) (h1 : w.cell? ⟨b, o + 1, none⟩ = some (.int .u8 b1)) (h2 : 4 ≤ n → w.cell? ⟨b, o + 2, none⟩ = some (.int .u8 b2)) (h3 : 4 ≤ n → w.cell? ⟨b, o + 3, none⟩ = some (.int .u8 b3)) (hn : 2 ≤ n) :
    Calls Try.prog 15 #[.slice (some ⟨b, o, none⟩) n c] w fun e w' => e = .returned (.int .i64 (csV n b0 b1 b2 b3)) ∧ ∃ m, w' = w.drewN m := by
  obtain ⟨r0a, r0b⟩ := r0
  obtain ⟨r1a, r1b⟩ := r1
  obtain ⟨r2a, r2b⟩ := r2
  obtain ⟨r3a, r3b⟩ := r3
  have i0 : (0 : Int) < (n : Int) := by omega
  have i1 : (1 : Int) < (n : Int) := by omega
  have k2 : ¬ (n : Int) < 2 := by omega
  by_cases t0 : b0 < 129
  · go_enter Try.func15, Try.ntmps15
    go_wp2
    go_ret
    exact ⟨ret_i64 (by unfold csV; rw [if_neg (by omega), if_pos (by omega)]), 0, rfl⟩
  by_cases t1 : 254 < b0
  · go_enter Try.func15, Try.ntmps15
    go_wp2
    go_ret
    exact ⟨ret_i64 (by unfold csV; rw [if_neg (by omega), if_neg (by omega), if_pos (by omega)]), 0, rfl⟩
  by_cases t2 : b1 < 48
  · go_enter Try.func15, Try.ntmps15
    go_wp2
    go_ret
    exact ⟨ret_i64 (by unfold csV; rw [if_neg (by omega), if_neg (by omega), if_neg (by omega), if_pos (by omega), if_pos (by omega)]), 0, rfl⟩
  by_cases t3 : 57 < b1
  · by_cases u4 : b1 < 64
    · go_enter Try.func15, Try.ntmps15
      go_wp2
      go_ret
      exact ⟨ret_i64 (by unfold csV; rw [if_neg (by omega), if_neg (by omega), if_neg (by omega), if_pos (by omega), if_pos (by omega)]), 0, rfl⟩
    by_cases u5 : b1 = 127
    · subst u5
      go_enter Try.func15, Try.ntmps15
      go_wp2
      go_ret
      exact ⟨ret_i64 (by unfold csV; rw [if_neg (by omega), if_neg (by omega), if_neg (by omega), if_pos (by omega), if_neg (by omega), if_pos (by omega)]), 0, rfl⟩
    by_cases u6 : b1 = 255
    · subst u6
      go_enter Try.func15, Try.ntmps15
      go_wp2
      go_ret
      exact ⟨ret_i64 (by unfold csV; rw [if_neg (by omega), if_neg (by omega), if_neg (by omega), if_pos (by omega), if_neg (by omega), if_neg (by omega), if_pos (by omega)]), 0, rfl⟩
    have u5' : (b1 == 127) = false := by simpa using u5
    have u6' : (b1 == 255) = false := by simpa using u6
    go_enter Try.func15, Try.ntmps15
    go_wp2
    go_ret
    exact ⟨ret_i64 (by unfold csV; rw [if_neg (by omega), if_neg (by omega), if_neg (by omega), if_pos (by omega), if_neg (by omega), if_neg (by omega), if_neg (by omega)]), 0, rfl⟩
  by_cases k4 : n < 4
  · have k4' : (n : Int) < 4 := by omega
    go_enter Try.func15, Try.ntmps15
    go_wp2
    go_ret
    exact ⟨ret_i64 (by unfold csV; rw [if_neg (by omega), if_neg (by omega), if_neg (by omega), if_neg (by omega), if_pos (by omega)]), 0, rfl⟩
  have k4' : ¬ (n : Int) < 4 := by omega
  have i2 : (2 : Int) < (n : Int) := by omega
  have i3 : (3 : Int) < (n : Int) := by omega
  have h2 := h2 (by omega)
  have h3 := h3 (by omega)
  by_cases t5 : b2 < 129
  · go_enter Try.func15, Try.ntmps15
    go_wp2
    go_ret
    exact ⟨ret_i64 (by unfold csV; rw [if_neg (by omega), if_neg (by omega), if_neg (by omega), if_neg (by omega), if_neg (by omega), if_pos (by omega)]), 0, rfl⟩
  by_cases t6 : 254 < b2
  · go_enter Try.func15, Try.ntmps15
    go_wp2
    go_ret
    exact ⟨ret_i64 (by unfold csV; rw [if_neg (by omega), if_neg (by omega), if_neg (by omega), if_neg (by omega), if_neg (by omega), if_neg (by omega), if_pos (by omega)]), 0, rfl⟩
  by_cases t7 : b3 < 48
  · go_enter Try.func15, Try.ntmps15
    go_wp2
    go_ret
    exact ⟨ret_i64 (by unfold csV; rw [if_neg (by omega), if_neg (by omega), if_neg (by omega), if_neg (by omega), if_neg (by omega), if_neg (by omega), if_neg (by omega), if_pos (by omega)]), 0, rfl⟩
  by_cases t8 : 57 < b3
  · go_enter Try.func15, Try.ntmps15
    go_wp2
    go_ret
    exact ⟨ret_i64 (by unfold csV; rw [if_neg (by omega), if_neg (by omega), if_neg (by omega), if_neg (by omega), if_neg (by omega), if_neg (by omega), if_neg (by omega), if_neg (by omega), if_pos (by omega)]), 0, rfl⟩
  by_cases t9 : (((b0 - 129) * 10 + (b1 - 48)) * 126 + (b2 - 129)) * 10 + (b3 - 48) < 39420
  · go_enter Try.func15, Try.ntmps15
    go_wp2
    go_quiet (fail)
    go_wp2
    go_ret
    exact ⟨ret_i64 (by unfold csV; rw [if_neg (by omega), if_neg (by omega), if_neg (by omega), if_neg (by omega), if_neg (by omega), if_neg (by omega), if_neg (by omega), if_neg (by omega), if_neg (by omega), if_pos (by omega)]), _, rfl⟩
  by_cases t10 : 189000 ≤ (((b0 - 129) * 10 + (b1 - 48)) * 126 + (b2 - 129)) * 10 + (b3 - 48)
  · by_cases t11 : (((b0 - 129) * 10 + (b1 - 48)) * 126 + (b2 - 129)) * 10 + (b3 - 48) < 1237576
    · go_enter Try.func15, Try.ntmps15
      go_wp2
      go_quiet (fail)
      go_wp2
      go_ret
      exact ⟨ret_i64 (by unfold csV; rw [if_neg (by omega), if_neg (by omega), if_neg (by omega), if_neg (by omega), if_neg (by omega), if_neg (by omega), if_neg (by omega), if_neg (by omega), if_neg (by omega), if_neg (by omega), if_pos (by omega)]), _, rfl⟩
    · go_enter Try.func15, Try.ntmps15
      go_wp2
      go_quiet (fail)
      go_wp2
      go_ret
      exact ⟨ret_i64 (by unfold csV; rw [if_neg (by omega), if_neg (by omega), if_neg (by omega), if_neg (by omega), if_neg (by omega), if_neg (by omega), if_neg (by omega), if_neg (by omega), if_neg (by omega), if_neg (by omega), if_neg (by omega)]), _, rfl⟩
  go_enter Try.func15, Try.ntmps15
  go_wp2
  go_quiet (fail)
  go_wp2
  go_ret
  exact ⟨ret_i64 (by unfold csV; rw [if_neg (by omega), if_neg (by omega), if_neg (by omega), if_neg (by omega), if_neg (by omega), if_neg (by omega), if_neg (by omega), if_neg (by omega), if_neg (by omega), if_neg (by omega), if_neg (by omega)]), _, rfl⟩

set_option maxHeartbeats 400000 in
theorem cs_any (a : Option Addr) (n c : Nat) (bs : List Nat) (w : World) (h : Bz w a n bs) :
    Calls Try.prog 15 #[.slice a n c] w fun e w' => e = .returned (.int .i64 (csV n (bz bs 0 : Nat) (bz bs 1 : Nat) (bz bs 2 : Nat) (bz bs 3 : Nat))) ∧ ∃ m, w' = w.drewN m := by
  have mx := h.max
  by_cases hn : n < 2
  · have k : (n : Int) < 2 := by omega
    have e : csV n (bz bs 0 : Nat) (bz bs 1 : Nat) (bz bs 2 : Nat) (bz bs 3 : Nat) = 0 := by unfold csV; rw [if_pos hn]
    rw [e]
    clear e
    go_enter Try.func15, Try.ntmps15
    go_wp2
    go_ret
    exact ⟨rfl, 0, rfl⟩
  · obtain ⟨b, o, rfl, hc⟩ := h.cell 0 (by omega)
    have f0 := h.fit 0; have f1 := h.fit 1; have f2 := h.fit 2; have f3 := h.fit 3
    exact cs_core b o n c _ _ _ _ w mx (by omega) (by omega) (by omega) (by omega) (by simpa using hc 0 (by omega)) (hc 1 (by omega)) (fun h4 => hc 2 (by omega)) (fun h4 => hc 3 (by omega)) (by omega)

set_option maxHeartbeats 400000 in
theorem zcs_any (a : Option Addr) (n c : Nat) (bs : List Nat) (w : World) (h : Bz w a n bs) :
    Calls Try.prog 8 #[.slice a n c] w fun e w' => e = .returned (.int .i64 (csV n (bz bs 0 : Nat) (bz bs 1 : Nat) (bz bs 2 : Nat) (bz bs 3 : Nat))) ∧ ∃ m, w' = w.drewN m := by
  go_enter Try.func8, Try.ntmps8
  go_wp2_with fail
  refine (cs_any a n c bs _ h).mono ?_
  rintro e w' ⟨rfl, m, rfl⟩
  go_wp2_with fail
  go_ret
  exact ⟨rfl, m, rfl⟩
end Go.Proofs.Qxb6602598a
