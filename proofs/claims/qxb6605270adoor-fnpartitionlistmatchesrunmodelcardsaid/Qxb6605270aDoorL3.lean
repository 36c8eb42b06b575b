import Derived.Test.Qxb6605270aDoorJ0
import Derived.Test.Qxb6605270aDoorPm
namespace Go.Proofs.Qxb6605270aDoor
open Go.RowKit Go.Shelf Go.Deep

set_option maxRecDepth 100000 in
set_option maxHeartbeats 4000000 in
theorem law3 (a : Option Addr) (n c : Nat) (xs : List Int) (w : World) (h : Iz w a n xs) (hT : Lib.TabBelow Tryd.prog w.heap.size w "internal/strconv.uint64pow10" .u64 Lib.pow10Tab) :
    Calls Tryd.prog 3 #[.slice a n c] w fun e w' => e = .returned (.bool true) ∧ Below w.heap.size w w' := by
  have mx1 := h.max
  by_cases g1 : (131072 : Int) < (n : Int)
  · go_enter Tryd.func3, Tryd.ntmps3
    go_wp2_with fail
    refine (zz5 a _ c _ h.max).mono ?_
    rintro e w' ⟨⟨r, rfl⟩, rfl⟩
    cases r
    · go_wp2_with fail
      go_ret
      exact ⟨rfl, Below.refl _ _⟩
    · go_wp2_with fail
      go_ret
      exact ⟨rfl, Below.refl _ _⟩
  · go_enter Tryd.func3, Tryd.ntmps3
    go_wp2_with fail
    refine (zz5 a _ c _ h.max).mono ?_
    rintro e w' ⟨⟨r, rfl⟩, rfl⟩
    cases r
    · go_wp2_with fail
      go_ret
      exact ⟨rfl, Below.refl _ _⟩
    · go_wp2_with fail
      refine (clone_any a n c xs _ h (by omega)).mono ?_
      rintro e w1 ⟨a1, c1, rfl, z1, hb1⟩
      have B1 := below_step hb1 (Below.refl _ _)
      go_wp2_with fail
      refine (pl_any a1 n c1 xs _ z1 (by omega) (tab_at hT B1)).mono ?_
      rintro e w2 ⟨rfl, hb2⟩
      have B2 := below_step hb2 B1
      have z2 := z1.below hb2
      go_wp2_with fail
      refine (pm_any a1 n c1 xs _ z2 (by omega)).mono ?_
      rintro e w3 ⟨rfl, hb3⟩
      have B3 := below_step hb3 B2
      go_wp2_with fail
      go_ret
      exact ⟨ret_bool (by simp), B3⟩
end Go.Proofs.Qxb6605270aDoor
