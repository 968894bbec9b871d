/-
  DERIVED. GIVEN WITH THE SEED: THE CARDS: each row of Qxb6629206aDoorRows.lean that lists a variable, with what it lists TIED to the program's text (the seventh form; the later family's looks); each row that meets fmt, with fmt's text TOLD by the authors' own Lean function (tested against real Go, not proved from fmt's source: count such statements apart). THE CARD IS WHAT COUNTS. Prove the row's statement (the work); the ties are given (Qxb6629206aDoorTie.lean); close each card by the builder's one call (the guide's Derived/Test/ToyasCard.lean, 'card_holds'). Laid BY PROGRAM, IN A SANDBOX (cutbox-door.mjs). By AI agents, Wed Nov 11 2026. No macro, syntax, notation, axiom, sorry.
-/
import Derived.Test.Qxb6629206aDoorRows
import GoSem.ClaimSeven
namespace Go.Proofs.Qxb6629206aDoor
namespace Rows

/-- THE TIED CARD OF 'zzlaws_root_b1.FnValueDecodesBackByKey'. -/
def fnValueDecodesBackByKeyCard : Claim7 := { stood := { row := fnValueDecodesBackByKeyRow, standIns := [], harness := (true, "846509efd24a5b6d8b7509c25b431db7d8045550fe7c143934e1743bf78a1ca6"), looks := false }, kinds := [], alts := [], laidByText := true, laidKinds := [.data, .data, .data], laidTests := true, laidLooks := .later }
def FnValueDecodesBackByKeyCardSaid : Prop := Claim7.holds Tryd.pinned (.plain (OpenSpec.ofChange fnValueDecodesBackByKeySpec)) fnValueDecodesBackByKeyCard

/-- THE TIED CARD OF 'zzlaws_root_b1.FnValueBranchesJoinAtAnyCut'. -/
def fnValueBranchesJoinAtAnyCutCard : Claim7 := { stood := { row := fnValueBranchesJoinAtAnyCutRow, standIns := [], harness := (true, "846509efd24a5b6d8b7509c25b431db7d8045550fe7c143934e1743bf78a1ca6"), looks := false }, kinds := [], alts := [], laidByText := true, laidKinds := [.data, .data, .data], laidTests := true, laidLooks := .later }
def FnValueBranchesJoinAtAnyCutCardSaid : Prop := Claim7.holds Tryd.pinned (.plain (OpenSpec.ofChange fnValueBranchesJoinAtAnyCutSpec)) fnValueBranchesJoinAtAnyCutCard
end Rows
end Go.Proofs.Qxb6629206aDoor
