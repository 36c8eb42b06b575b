import Derived.Test.Qxb6605213aCovers
import Derived.Deep.OwnRows
import Derived.Lib.SliceRun
namespace Go.Proofs.Qxb6605213a
open Go.RowKit Go.Deep

theorem Try.info49 : (Try.prog.info? 49).map (fun i => (i.zero, i.size, i.bytes)) = some (some (.int .u64 0), 1, 8) := by kernel_rfl

theorem Wd.of_row {w : World} {b t n : Nat} {f : Nat → Value} {zs : List Nat} (h : w.rowIs b t n f) (hl : zs.length = n) (hf : fits zs) (hm : n ≤ 9223372036854775807) (he : ∀ i, i < n → f i = .int .u64 (wd zs i : Nat)) : Wd w (some ⟨b, 0, none⟩) n zs :=
  ⟨hl, hf, hm, fun _ _ => ⟨b, 0, rfl, fun j hj => by rw [Nat.zero_add, h.cell hj, he j hj]⟩⟩

set_option maxHeartbeats 400000 in
theorem cloneWords_any (a : Option Addr) (n c : Nat) (zs : List Nat) (w : World) (h : Wd w a n zs) (hn : n ≤ 1048576) :
    Calls Try.prog 10 #[.slice a n c] w fun e w' => ∃ a' c', e = .returned (.slice a' n c') ∧ Wd w' a' n zs ∧ (∀ x, a' = some x → w.heap.size ≤ x.block) ∧ Below w.heap.size w w' := by
  have hmk := run_make_row' (P := Try.prog) 22 49 (.int .u64 0) 8 Try.underlying22 Try.info49 rfl .i64 .i64 n (by omega) (by omega)
  have heq := fun w => Lib.run_eql_slice_nil (P := Try.prog) w 22 49 a n c 0 0 Try.underlying22
  cases a with
  | none =>
    obtain rfl : n = 0 := by
      by_cases h0 : 0 < n
      · obtain ⟨b, o, e, _⟩ := h.cell 0 h0; cases e
      · omega
    go_enter Try.func10, Try.ntmps10
    go_wp2
    go_ret
    exact ⟨_, _, rfl, h, (fun x e => by cases e), Below.refl _ _⟩
  | some x =>
    go_enter Try.func10, Try.ntmps10
    go_wp2
    go_loopw [12] (fun i wr => ∃ k : Nat, k ≤ n ∧ i = .int .i64 k ∧ wr.rowIs w.heap.size 49 n (fun i => .int .u64 (if i < k then (wd zs i : Nat) else 0)) ∧ Below w.heap.size w wr) (fun i _ => n - (intOf i).toNat)
    case atStart => exact ⟨0, by omega, rfl, by simpa using World.rowIs_made w _ n 49, (Below.refl _ _).alloc (Nat.le_refl _) _⟩
    case round =>
      obtain ⟨k, hk, rfl, hrow, hb⟩ := hrel
      by_cases hlt : k < n
      · obtain ⟨b, o, e, hcell⟩ := h.cell k hlt
        obtain rfl := Option.some.inj e
        have q := cell_below hb (hcell k hlt)
        have r0 := hrow.cell hlt
        have r1 := hrow.frozen k
        simp at r0
        go_wp2
        go_roundw
        case rel =>
          refine ⟨k + 1, by omega, by go_num, (hrow.set k _).congr fun i hi => ?_, hb.setCell (by simp) _⟩
          by_cases e : i = k
          · subst e; simp
          · simp only [if_neg e]; congr 2; simp; omega
        case measure => simp [intOf]; omega
      · go_wp2
        go_ret
        exact ⟨_, _, rfl, Wd.of_row hrow h.len h.fit h.max (fun i hi => by simp; omega), (fun x e => by cases e; exact Nat.le_refl _), hb⟩
end Go.Proofs.Qxb6605213a
