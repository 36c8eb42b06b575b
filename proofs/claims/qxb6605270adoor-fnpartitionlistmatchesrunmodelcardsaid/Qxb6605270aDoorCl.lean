import Derived.Test.Qxb6605270aDoorPl
import Derived.Deep.OwnRows
import Derived.Lib.SliceRun
import Derived.Laws.CopyRow
import Derived.Deep.WholeRow
namespace Go.Proofs.Qxb6605270aDoor
open Go.RowKit Go.Shelf Go.Deep

theorem Tryd.infoInt : (Tryd.prog.info? 3).map (fun i => (i.zero, i.size, i.bytes)) = some (some (.int .i64 0), 1, 8) := by kernel_rfl
theorem Tryd.sizeInt : (Tryd.prog.info? 3).map (·.size) = some 1 := by kernel_rfl

/-- The cells of the ints ps. -/
def ics (ps : List Int) (n : Nat) : List Value := (List.range n).map fun j => .int .i64 (pz ps j)

theorem ics_get {ps : List Int} {n j : Nat} (h : j < n) : (ics ps n)[j]? = some (.int .i64 (pz ps j)) := by simp [ics, h]
theorem ics_len (ps : List Int) (n : Nat) : (ics ps n).length = n := by simp [ics]
theorem ics_one (ps : List Int) (n : Nat) : ∀ v ∈ ics ps n, v.oneCell' = true := by
  intro v hv
  simp [ics] at hv
  obtain ⟨j, _, rfl⟩ := hv
  rfl

theorem Iz.src {w : World} {x : Addr} {n : Nat} {ps : List Int} (h : Iz w (some x) n ps) : ∀ j v, (ics ps n)[j]? = some v → w.cell? (x.add j) = some v := by
  intro j v hv
  have hj : j < n := by
    have := (List.getElem?_eq_some_iff.1 hv).1
    rwa [ics_len] at this
  rw [ics_get hj] at hv
  obtain rfl := Option.some.inj hv
  obtain ⟨b, o, e, hc⟩ := h.cell j hj
  obtain rfl := Option.some.inj e
  rw [← hc j hj]
  by_cases z : j = 0
  · subst z; rfl
  · simp [Addr.add, z]

theorem Iz.of_block {w : World} {g n : Nat} {t : TypeId} {ps : List Int} (hl : ps.length = n) (hm : n ≤ 9223372036854775807) (hr : ∀ j, -9223372036854775808 ≤ pz ps j ∧ pz ps j ≤ 9223372036854775807) (h : w.heap[g]? = some (.cells (ics ps n).toArray t (0, 0))) : Iz w (some ⟨g, 0, none⟩) n ps :=
  ⟨hl, hm, hr, fun _ _ => ⟨g, 0, rfl, fun j hj => by
    have e := ics_get (ps := ps) hj
    simp [World.cell?, h, e]⟩⟩

set_option maxHeartbeats 1000000 in
theorem clone_any (a : Option Addr) (n c : Nat) (ps : List Int) (w : World) (h : Iz w a n ps) (hn : n ≤ 1048576) :
    Calls Tryd.prog 6 #[.slice a n c] w fun e w' => ∃ a' c', e = .returned (.slice a' n c') ∧ Iz w' a' n ps ∧ Below w.heap.size w w' := by
  have hmk := run_make_row' (P := Tryd.prog) 22 3 (.int .i64 0) 8 Tryd.underlying22 Tryd.infoInt rfl .i64 .i64 n (by omega) (by omega)
  have heq := fun w => Lib.run_eql_slice_nil (P := Tryd.prog) w 22 3 a n c 0 0 Tryd.underlying22
  cases a with
  | none =>
    obtain rfl : n = 0 := by
      by_cases h0 : 0 < n
      · obtain ⟨b, o, e, _⟩ := h.cell 0 h0; cases e
      · omega
    go_enter Tryd.func6, Tryd.ntmps6
    go_wp2
    go_ret
    exact ⟨_, _, rfl, h, Below.refl _ _⟩
  | some x =>
    have hb : Below w.heap.size w (w.alloc (.cells (madeCells #[.int .i64 0] n) 3)) := (Below.refl _ _).alloc (Nat.le_refl _) _
    have h' := h.below hb
    have hml : (madeCells #[Value.int .i64 0] n).size = n := by simp [madeCells]
    have hcp : (Builtin.copy_ #[22, 22] 3 #[.slice (some ⟨w.heap.size, 0, none⟩) n n, .slice (some x) n c]).run Tryd.prog (w.alloc (.cells (madeCells #[.int .i64 0] n) 3)) = .ok (.int .i64 n) (w.alloc (.cells (ics ps n).toArray 3)) := by
      have r := run_copy_row (P := Tryd.prog) (w.alloc (.cells (madeCells #[.int .i64 0] n) 3)) 22 22 3 3 w.heap.size 0 n n x n c (madeCells #[.int .i64 0] n) 3 (ics ps n) Tryd.underlying22 Tryd.sizeInt (heap_alloc_new w _) (by rw [ics_len]; simp) h'.src (by rw [ics_len, hml]; omega) (ics_one ps n)
      have e : ((madeCells #[Value.int .i64 0] n).toList.take 0 ++ ics ps n ++ (madeCells #[Value.int .i64 0] n).toList.drop (0 + (ics ps n).length)) = ics ps n := by
        rw [ics_len]
        have : (madeCells #[Value.int .i64 0] n).toList.drop (0 + n) = [] := List.drop_eq_nil_of_le (by rw [Array.length_toList, hml]; omega)
        rw [this]; simp
      rw [e, World.setRow_alloc_new, ics_len] at r
      exact r
    have hz : Iz (w.alloc (.cells (ics ps n).toArray 3)) (some ⟨w.heap.size, 0, none⟩) n ps := Iz.of_block h.len h.max h.rng (heap_alloc_new w _)
    have HZ := hide hz
    clear hz hml h' hb
    go_enter Tryd.func6, Tryd.ntmps6
    go_wp2
    go_ret
    exact ⟨_, _, rfl, HZ.out, (Below.refl _ _).alloc (Nat.le_refl _) _⟩

/-- It returned a bool. -/
def RetB (e : Ending) : Prop := ∃ r : Bool, e = .returned (.bool r)

set_option maxHeartbeats 400000 in
theorem zz5 (a : Option Addr) (n c : Nat) (w : World) (h : n ≤ 9223372036854775807) : Calls Tryd.prog 5 #[.slice a n c] w fun e w' => RetB e ∧ w = w' := by
  go_enter Tryd.func5, Tryd.ntmps5
  go_wp2
  all_goals (go_ret; first | exact ⟨⟨false, rfl⟩, rfl⟩ | exact ⟨⟨true, rfl⟩, rfl⟩)

set_option maxHeartbeats 1000000 in
theorem zz9 (a b : Option Addr) (n m c d : Nat) (w : World) (h : n ≤ 9223372036854775807) (h2 : m ≤ 9223372036854775807) : Calls Tryd.prog 9 #[.slice a n c, .slice b m d] w fun e w' => RetB e ∧ w = w' := by
  by_cases k : (1048576 : Int) < (n : Int)
  · go_enter Tryd.func9, Tryd.ntmps9
    go_wp2
    all_goals (go_ret; first | exact ⟨⟨false, rfl⟩, rfl⟩ | exact ⟨⟨true, rfl⟩, rfl⟩)
  by_cases k2 : (1048576 : Int) < (m : Int)
  · go_enter Tryd.func9, Tryd.ntmps9
    go_wp2
    all_goals (go_ret; first | exact ⟨⟨false, rfl⟩, rfl⟩ | exact ⟨⟨true, rfl⟩, rfl⟩)
  go_enter Tryd.func9, Tryd.ntmps9
  go_wp2
  all_goals (go_ret; first | exact ⟨⟨false, rfl⟩, rfl⟩ | exact ⟨⟨true, rfl⟩, rfl⟩)
end Go.Proofs.Qxb6605270aDoor
