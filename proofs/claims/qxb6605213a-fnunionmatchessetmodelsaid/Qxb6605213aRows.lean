/-
  No cell of these rows narrows 'for every input' (looked for: loops, veiled, ifaces, maps, wideKeys, modest, calm, conditions, laid).
  DERIVED. THE GIVEN ROWS OF THIS SEAT. 4 by the template 'for every input the law returns true; each argument reads behind the call as it read before'; 0 by the template 'total and deterministic' (their statements: Qxb6605213aTotals.lean).
  GIVEN WITH THE SEED: the statements are not yours to turn. If you find one false, say at which input.
  Laid BY PROGRAM, IN A SANDBOX (cutbox-rows.mjs): the forced cells as the released guide's own fill.sh prints them over the translation 907e69710598dbd2… (all of the seat's roots in one cut). By AI agents, Wed Nov 11 2026. No macro, syntax, notation, axiom, sorry.
-/
import Derived.Test.Qxb6605213aChecked
import GoSem.Claim
import GoSem.ClaimJoined
import GoSem.ClaimMapViews
import Derived.JoinedTies
import Derived.KernelRfl
namespace Go.Proofs.Qxb6605213a
/- THE CELL 'sum', in the pinned program and in every row, IS THE sha256 OF THE DUMP (.gsa) THAT Qxb6605213aProg.lean LOADS. Nothing in Lean hashes anything: it is a label: what it is worth is what the hold of that sum in a sandbox is worth. -/
noncomputable def Try.pinned : Pinned := { name := "qxb6605213a", sum := "907e69710598dbd2147ae03054423513c57c99b3d5c032521ebf1a708b7562ef", checked := Try.checked }
namespace Rows
def none {H : Type} : Left H := { results := [], args := [] }

/-- 'zzlaws_internal_lock_b1.FnCoversMatchesSetModel': WHATEVER THE INPUT: true; the input reads as it did. -/
def fnCoversMatchesSetModelSpec : ChangeSpec := { name := "fnCoversMatchesSetModel", fn := fun _ => fun
  | [d1, d2, d3, d4, d5, d6] => { results := [.lit (.bool true)], args := [d1, d2, d3, d4, d5, d6] }
  | _ => none }
def fnCoversMatchesSetModelRow : OpenClaim := { program := "qxb6605213a", sum := "907e69710598dbd2147ae03054423513c57c99b3d5c032521ebf1a708b7562ef", func := "example.com/mortise/mortise/zzlaws_internal_lock_b1.FnCoversMatchesSetModel", spec := "fnCoversMatchesSetModel", apart := false }
def FnCoversMatchesSetModelSaid : Prop := fnCoversMatchesSetModelRow.holds Try.pinned (OpenSpec.ofChange fnCoversMatchesSetModelSpec)

/-- ITS FALSE NEIGHBOUR: 'it returns false'. Refute it at one input. -/
def fnCoversMatchesSetModelWrong : ChangeSpec := { name := "fnCoversMatchesSetModel", fn := fun _ => fun
  | [d1, d2, d3, d4, d5, d6] => { results := [.lit (.bool false)], args := [d1, d2, d3, d4, d5, d6] }
  | _ => none }
def FnCoversMatchesSetModelWrongFalsely : Prop := fnCoversMatchesSetModelRow.holds Try.pinned (OpenSpec.ofChange fnCoversMatchesSetModelWrong)

/-- 'zzlaws_internal_lock_b1.FnCoversIsPreorder': WHATEVER THE INPUT: true; the input reads as it did. -/
def fnCoversIsPreorderSpec : ChangeSpec := { name := "fnCoversIsPreorder", fn := fun _ => fun
  | [d1, d2, d3, d4, d5, d6, d7, d8, d9] => { results := [.lit (.bool true)], args := [d1, d2, d3, d4, d5, d6, d7, d8, d9] }
  | _ => none }
def fnCoversIsPreorderRow : OpenClaim := { program := "qxb6605213a", sum := "907e69710598dbd2147ae03054423513c57c99b3d5c032521ebf1a708b7562ef", func := "example.com/mortise/mortise/zzlaws_internal_lock_b1.FnCoversIsPreorder", spec := "fnCoversIsPreorder", apart := false }
def FnCoversIsPreorderSaid : Prop := fnCoversIsPreorderRow.holds Try.pinned (OpenSpec.ofChange fnCoversIsPreorderSpec)

/-- ITS FALSE NEIGHBOUR: 'it returns false'. Refute it at one input. -/
def fnCoversIsPreorderWrong : ChangeSpec := { name := "fnCoversIsPreorder", fn := fun _ => fun
  | [d1, d2, d3, d4, d5, d6, d7, d8, d9] => { results := [.lit (.bool false)], args := [d1, d2, d3, d4, d5, d6, d7, d8, d9] }
  | _ => none }
def FnCoversIsPreorderWrongFalsely : Prop := fnCoversIsPreorderRow.holds Try.pinned (OpenSpec.ofChange fnCoversIsPreorderWrong)

/-- 'zzlaws_internal_lock_b1.FnUnionMatchesSetModel': WHATEVER THE INPUT: true; the input reads as it did. -/
def fnUnionMatchesSetModelSpec : ChangeSpec := { name := "fnUnionMatchesSetModel", fn := fun _ => fun
  | [d1, d2, d3, d4, d5, d6] => { results := [.lit (.bool true)], args := [d1, d2, d3, d4, d5, d6] }
  | _ => none }
def fnUnionMatchesSetModelRow : OpenClaim := { program := "qxb6605213a", sum := "907e69710598dbd2147ae03054423513c57c99b3d5c032521ebf1a708b7562ef", func := "example.com/mortise/mortise/zzlaws_internal_lock_b1.FnUnionMatchesSetModel", spec := "fnUnionMatchesSetModel", apart := false }
def FnUnionMatchesSetModelSaid : Prop := fnUnionMatchesSetModelRow.holds Try.pinned (OpenSpec.ofChange fnUnionMatchesSetModelSpec)

/-- ITS FALSE NEIGHBOUR: 'it returns false'. Refute it at one input. -/
def fnUnionMatchesSetModelWrong : ChangeSpec := { name := "fnUnionMatchesSetModel", fn := fun _ => fun
  | [d1, d2, d3, d4, d5, d6] => { results := [.lit (.bool false)], args := [d1, d2, d3, d4, d5, d6] }
  | _ => none }
def FnUnionMatchesSetModelWrongFalsely : Prop := fnUnionMatchesSetModelRow.holds Try.pinned (OpenSpec.ofChange fnUnionMatchesSetModelWrong)

/-- 'zzlaws_internal_lock_b1.FnUnionIsLeastUpperBound': WHATEVER THE INPUT: true; the input reads as it did. -/
def fnUnionIsLeastUpperBoundSpec : ChangeSpec := { name := "fnUnionIsLeastUpperBound", fn := fun _ => fun
  | [d1, d2, d3, d4, d5, d6, d7, d8, d9] => { results := [.lit (.bool true)], args := [d1, d2, d3, d4, d5, d6, d7, d8, d9] }
  | _ => none }
def fnUnionIsLeastUpperBoundRow : OpenClaim := { program := "qxb6605213a", sum := "907e69710598dbd2147ae03054423513c57c99b3d5c032521ebf1a708b7562ef", func := "example.com/mortise/mortise/zzlaws_internal_lock_b1.FnUnionIsLeastUpperBound", spec := "fnUnionIsLeastUpperBound", apart := false }
def FnUnionIsLeastUpperBoundSaid : Prop := fnUnionIsLeastUpperBoundRow.holds Try.pinned (OpenSpec.ofChange fnUnionIsLeastUpperBoundSpec)

/-- ITS FALSE NEIGHBOUR: 'it returns false'. Refute it at one input. -/
def fnUnionIsLeastUpperBoundWrong : ChangeSpec := { name := "fnUnionIsLeastUpperBound", fn := fun _ => fun
  | [d1, d2, d3, d4, d5, d6, d7, d8, d9] => { results := [.lit (.bool false)], args := [d1, d2, d3, d4, d5, d6, d7, d8, d9] }
  | _ => none }
def FnUnionIsLeastUpperBoundWrongFalsely : Prop := fnUnionIsLeastUpperBoundRow.holds Try.pinned (OpenSpec.ofChange fnUnionIsLeastUpperBoundWrong)

end Rows
end Go.Proofs.Qxb6605213a
