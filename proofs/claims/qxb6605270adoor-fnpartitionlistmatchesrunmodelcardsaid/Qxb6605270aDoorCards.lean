/-
  DERIVED. GIVEN WITH THE SEED: THE CARDS: each row of Qxb6605270aDoorRows.lean that lists a variable, with what it lists TIED to the program's text (the seventh form; the later family's looks); each row that meets fmt, with fmt's text TOLD by the authors' own Lean function (tested against real Go, not proved from fmt's source: count such statements apart). THE CARD IS WHAT COUNTS. Prove the row's statement (the work); the ties are given (Qxb6605270aDoorTie.lean); close each card by the builder's one call (the guide's Derived/Test/ToyasCard.lean, 'card_holds'). Laid BY PROGRAM, IN A SANDBOX (cutbox-door.mjs). By AI agents, Wed Nov 11 2026. No macro, syntax, notation, axiom, sorry.
-/
import Derived.Test.Qxb6605270aDoorRows
import GoSem.ClaimSeven
namespace Go.Proofs.Qxb6605270aDoor
namespace Rows

/-- THE TIED CARD OF 'zzlaws_internal_protocol_b1.FnPartitionListMatchesRunModel'. -/
def fnPartitionListMatchesRunModelCard : Claim7 := { stood := { row := fnPartitionListMatchesRunModelRow, standIns := [], harness := (true, "7632688ea7ea872b8cb484cbdf4908398377b9aae7e719b9a9c4c25562b58c1b"), looks := false }, kinds := [], alts := [], laidByText := true, laidKinds := [.data, .data, .data], laidTests := true, laidLooks := .later }
def FnPartitionListMatchesRunModelCardSaid : Prop := Claim7.holds Tryd.pinned (.plain (OpenSpec.ofChange fnPartitionListMatchesRunModelSpec)) fnPartitionListMatchesRunModelCard

/-- THE TIED CARD OF 'zzlaws_internal_protocol_b1.FnPartitionListJoinsAtABreak'. -/
def fnPartitionListJoinsAtABreakCard : Claim7 := { stood := { row := fnPartitionListJoinsAtABreakRow, standIns := [], harness := (true, "7632688ea7ea872b8cb484cbdf4908398377b9aae7e719b9a9c4c25562b58c1b"), looks := false }, kinds := [], alts := [], laidByText := true, laidKinds := [.data, .data, .data], laidTests := true, laidLooks := .later }
def FnPartitionListJoinsAtABreakCardSaid : Prop := Claim7.holds Tryd.pinned (.plain (OpenSpec.ofChange fnPartitionListJoinsAtABreakSpec)) fnPartitionListJoinsAtABreakCard
end Rows
end Go.Proofs.Qxb6605270aDoor
