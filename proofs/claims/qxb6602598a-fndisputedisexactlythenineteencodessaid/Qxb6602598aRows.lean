/-
  No cell of these rows narrows 'for every input' (looked for: loops, veiled, ifaces, maps, wideKeys, modest, calm, conditions, laid).
  DERIVED. THE GIVEN ROWS OF THIS SEAT. 3 by the template 'for every input the law returns true; each argument reads behind the call as it read before'; 0 by the template 'total and deterministic' (their statements: Qxb6602598aTotals.lean).
  GIVEN WITH THE SEED: the statements are not yours to turn. If you find one false, say at which input.
  Laid BY PROGRAM, IN A SANDBOX (cutbox-rows.mjs): the forced cells as the released guide's own fill.sh prints them over the translation 50dfd4cf46160c17… (all of the seat's roots in one cut). By AI agents, Wed Nov 11 2026. No macro, syntax, notation, axiom, sorry.
-/
import Derived.Test.Qxb6602598aChecked
import GoSem.Claim
import GoSem.ClaimJoined
import GoSem.ClaimMapViews
import Derived.JoinedTies
import Derived.KernelRfl
namespace Go.Proofs.Qxb6602598a
/- THE CELL 'sum', in the pinned program and in every row, IS THE sha256 OF THE DUMP (.gsa) THAT Qxb6602598aProg.lean LOADS. Nothing in Lean hashes anything: it is a label: what it is worth is what the hold of that sum in a sandbox is worth. -/
noncomputable def Try.pinned : Pinned := { name := "qxb6602598a", sum := "50dfd4cf46160c17270ad8ab8fd8c43967475923134bd653ede7f6dc8a1df6b8", checked := Try.checked }
namespace Rows
def none {H : Type} : Left H := { results := [], args := [] }

/-- 'zzlaws_pkg_charset_b1.FnCodeSizeMatchesStandardTable': WHATEVER THE INPUT: true; the input reads as it did. -/
def fnCodeSizeMatchesStandardTableSpec : ChangeSpec := { name := "fnCodeSizeMatchesStandardTable", fn := fun _ => fun
  | [d] => { results := [.lit (.bool true)], args := [d] }
  | _ => none }
def fnCodeSizeMatchesStandardTableRow : OpenClaim := { program := "qxb6602598a", sum := "50dfd4cf46160c17270ad8ab8fd8c43967475923134bd653ede7f6dc8a1df6b8", func := "example.com/vestline/vestline/zzlaws_pkg_charset_b1.FnCodeSizeMatchesStandardTable", spec := "fnCodeSizeMatchesStandardTable", apart := false }
def FnCodeSizeMatchesStandardTableSaid : Prop := fnCodeSizeMatchesStandardTableRow.holds Try.pinned (OpenSpec.ofChange fnCodeSizeMatchesStandardTableSpec)

/-- ITS FALSE NEIGHBOUR: 'it returns false'. Refute it at one input. -/
def fnCodeSizeMatchesStandardTableWrong : ChangeSpec := { name := "fnCodeSizeMatchesStandardTable", fn := fun _ => fun
  | [d] => { results := [.lit (.bool false)], args := [d] }
  | _ => none }
def FnCodeSizeMatchesStandardTableWrongFalsely : Prop := fnCodeSizeMatchesStandardTableRow.holds Try.pinned (OpenSpec.ofChange fnCodeSizeMatchesStandardTableWrong)

/-- 'zzlaws_pkg_charset_b1.FnCodeSizeIsDecidedByItsOwnBytes': WHATEVER THE INPUT: true; the input reads as it did. -/
def fnCodeSizeIsDecidedByItsOwnBytesSpec : ChangeSpec := { name := "fnCodeSizeIsDecidedByItsOwnBytes", fn := fun _ => fun
  | [d1, d2] => { results := [.lit (.bool true)], args := [d1, d2] }
  | _ => none }
def fnCodeSizeIsDecidedByItsOwnBytesRow : OpenClaim := { program := "qxb6602598a", sum := "50dfd4cf46160c17270ad8ab8fd8c43967475923134bd653ede7f6dc8a1df6b8", func := "example.com/vestline/vestline/zzlaws_pkg_charset_b1.FnCodeSizeIsDecidedByItsOwnBytes", spec := "fnCodeSizeIsDecidedByItsOwnBytes", apart := false }
def FnCodeSizeIsDecidedByItsOwnBytesSaid : Prop := fnCodeSizeIsDecidedByItsOwnBytesRow.holds Try.pinned (OpenSpec.ofChange fnCodeSizeIsDecidedByItsOwnBytesSpec)

/-- ITS FALSE NEIGHBOUR: 'it returns false'. Refute it at one input. -/
def fnCodeSizeIsDecidedByItsOwnBytesWrong : ChangeSpec := { name := "fnCodeSizeIsDecidedByItsOwnBytes", fn := fun _ => fun
  | [d1, d2] => { results := [.lit (.bool false)], args := [d1, d2] }
  | _ => none }
def FnCodeSizeIsDecidedByItsOwnBytesWrongFalsely : Prop := fnCodeSizeIsDecidedByItsOwnBytesRow.holds Try.pinned (OpenSpec.ofChange fnCodeSizeIsDecidedByItsOwnBytesWrong)

/-- 'zzlaws_pkg_charset_b1.FnDisputedIsExactlyTheNineteenCodes': WHATEVER THE INPUT: true; the input reads as it did. -/
def fnDisputedIsExactlyTheNineteenCodesSpec : ChangeSpec := { name := "fnDisputedIsExactlyTheNineteenCodes", fn := fun _ => fun
  | [d] => { results := [.lit (.bool true)], args := [d] }
  | _ => none }
def fnDisputedIsExactlyTheNineteenCodesRow : OpenClaim := { program := "qxb6602598a", sum := "50dfd4cf46160c17270ad8ab8fd8c43967475923134bd653ede7f6dc8a1df6b8", func := "example.com/vestline/vestline/zzlaws_pkg_charset_b1.FnDisputedIsExactlyTheNineteenCodes", spec := "fnDisputedIsExactlyTheNineteenCodes", apart := false }
def FnDisputedIsExactlyTheNineteenCodesSaid : Prop := fnDisputedIsExactlyTheNineteenCodesRow.holds Try.pinned (OpenSpec.ofChange fnDisputedIsExactlyTheNineteenCodesSpec)

/-- ITS FALSE NEIGHBOUR: 'it returns false'. Refute it at one input. -/
def fnDisputedIsExactlyTheNineteenCodesWrong : ChangeSpec := { name := "fnDisputedIsExactlyTheNineteenCodes", fn := fun _ => fun
  | [d] => { results := [.lit (.bool false)], args := [d] }
  | _ => none }
def FnDisputedIsExactlyTheNineteenCodesWrongFalsely : Prop := fnDisputedIsExactlyTheNineteenCodesRow.holds Try.pinned (OpenSpec.ofChange fnDisputedIsExactlyTheNineteenCodesWrong)

end Rows
end Go.Proofs.Qxb6602598a
