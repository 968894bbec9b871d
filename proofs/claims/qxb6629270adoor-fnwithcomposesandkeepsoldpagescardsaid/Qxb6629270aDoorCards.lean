/-
  DERIVED. GIVEN WITH THE SEED: THE CARDS: each row of Qxb6629270aDoorRows.lean that lists a variable, with what it lists TIED to the program's text (the seventh form; the later family's looks); each row that meets fmt, with fmt's text TOLD by the authors' own Lean function (tested against real Go, not proved from fmt's source: count such statements apart). THE CARD IS WHAT COUNTS. Prove the row's statement (the work); the ties are given (Qxb6629270aDoorTie.lean); close each card by the builder's one call (the guide's Derived/Test/ToyasCard.lean, 'card_holds'). Laid BY PROGRAM, IN A SANDBOX (cutbox-door.mjs). By AI agents, Wed Nov 11 2026. No macro, syntax, notation, axiom, sorry.
-/
import Derived.Test.Qxb6629270aDoorRows
import GoSem.ClaimSeven
namespace Go.Proofs.Qxb6629270aDoor
namespace Rows

/-- THE TIED CARD OF 'zzlaws_root_b1.FnWithReadsLastWriter'. -/
def fnWithReadsLastWriterCard : Claim7 := { stood := { row := fnWithReadsLastWriterRow, standIns := [], harness := (true, "ca15f00c72a823676d317d2448fbc012dc9824ef14e2cb8e86399adb04cfe28f"), looks := false }, kinds := [], alts := [], laidByText := true, laidKinds := [.data], laidTests := true, laidLooks := .later }
def FnWithReadsLastWriterCardSaid : Prop := Claim7.holds Tryd.pinned (.plain (OpenSpec.ofChange fnWithReadsLastWriterSpec)) fnWithReadsLastWriterCard

/-- THE TIED CARD OF 'zzlaws_root_b1.FnWithComposesAndKeepsOldPages'. -/
def fnWithComposesAndKeepsOldPagesCard : Claim7 := { stood := { row := fnWithComposesAndKeepsOldPagesRow, standIns := [], harness := (true, "ca15f00c72a823676d317d2448fbc012dc9824ef14e2cb8e86399adb04cfe28f"), looks := false }, kinds := [], alts := [], laidByText := true, laidKinds := [.data], laidTests := true, laidLooks := .later }
def FnWithComposesAndKeepsOldPagesCardSaid : Prop := Claim7.holds Tryd.pinned (.plain (OpenSpec.ofChange fnWithComposesAndKeepsOldPagesSpec)) fnWithComposesAndKeepsOldPagesCard
end Rows
end Go.Proofs.Qxb6629270aDoor
