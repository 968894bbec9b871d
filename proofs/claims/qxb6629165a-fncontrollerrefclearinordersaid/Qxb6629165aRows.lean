/-
  No cell of these rows narrows 'for every input' (looked for: loops, veiled, ifaces, maps, wideKeys, modest, calm, conditions, laid).
  DERIVED. THE GIVEN ROWS OF THIS SEAT. 2 by the template 'for every input the law returns true; each argument reads behind the call as it read before'; 0 by the template 'total and deterministic' (their statements: Qxb6629165aTotals.lean).
  GIVEN WITH THE SEED: the statements are not yours to turn. If you find one false, say at which input.
  Laid BY PROGRAM, IN A SANDBOX (cutbox-rows.mjs): the forced cells as the released guide's own fill.sh prints them over the translation dc7dc16ba7a7447e… (all of the seat's roots in one cut). By AI agents, Wed Nov 11 2026. No macro, syntax, notation, axiom, sorry.
-/
import Derived.Test.Qxb6629165aChecked
import GoSem.Claim
import GoSem.ClaimJoined
import GoSem.ClaimMapViews
import Derived.JoinedTies
import Derived.KernelRfl
namespace Go.Proofs.Qxb6629165a
/- THE CELL 'sum', in the pinned program and in every row, IS THE sha256 OF THE DUMP (.gsa) THAT Qxb6629165aProg.lean LOADS. Nothing in Lean hashes anything: it is a label: what it is worth is what the hold of that sum in a sandbox is worth. -/
noncomputable def Try.pinned : Pinned := { name := "qxb6629165a", sum := "dc7dc16ba7a7447efa4bf2dde9fa2daea59d380cee137f5e26947b18060e46d9", checked := Try.checked }
namespace Rows
def none {H : Type} : Left H := { results := [], args := [] }

/-- 'zzlaws_internal_api_b1.FnControllerRefConcat': WHATEVER THE INPUT: true; the input reads as it did. -/
def fnControllerRefConcatSpec : ChangeSpec := { name := "fnControllerRefConcat", fn := fun _ => fun
  | [d1, d2] => { results := [.lit (.bool true)], args := [d1, d2] }
  | _ => none }
def fnControllerRefConcatRow : OpenClaim := { program := "qxb6629165a", sum := "dc7dc16ba7a7447efa4bf2dde9fa2daea59d380cee137f5e26947b18060e46d9", func := "example.com/rollwright/rollwright/zzlaws_internal_api_b1.FnControllerRefConcat", spec := "fnControllerRefConcat", apart := false }
def FnControllerRefConcatSaid : Prop := fnControllerRefConcatRow.holds Try.pinned (OpenSpec.ofChange fnControllerRefConcatSpec)

/-- ITS FALSE NEIGHBOUR: 'it returns false'. Refute it at one input. -/
def fnControllerRefConcatWrong : ChangeSpec := { name := "fnControllerRefConcat", fn := fun _ => fun
  | [d1, d2] => { results := [.lit (.bool false)], args := [d1, d2] }
  | _ => none }
def FnControllerRefConcatWrongFalsely : Prop := fnControllerRefConcatRow.holds Try.pinned (OpenSpec.ofChange fnControllerRefConcatWrong)

/-- 'zzlaws_internal_api_b1.FnControllerRefClearInOrder': WHATEVER THE INPUT: true; the input reads as it did. -/
def fnControllerRefClearInOrderSpec : ChangeSpec := { name := "fnControllerRefClearInOrder", fn := fun _ => fun
  | [d] => { results := [.lit (.bool true)], args := [d] }
  | _ => none }
def fnControllerRefClearInOrderRow : OpenClaim := { program := "qxb6629165a", sum := "dc7dc16ba7a7447efa4bf2dde9fa2daea59d380cee137f5e26947b18060e46d9", func := "example.com/rollwright/rollwright/zzlaws_internal_api_b1.FnControllerRefClearInOrder", spec := "fnControllerRefClearInOrder", apart := false }
def FnControllerRefClearInOrderSaid : Prop := fnControllerRefClearInOrderRow.holds Try.pinned (OpenSpec.ofChange fnControllerRefClearInOrderSpec)

/-- ITS FALSE NEIGHBOUR: 'it returns false'. Refute it at one input. -/
def fnControllerRefClearInOrderWrong : ChangeSpec := { name := "fnControllerRefClearInOrder", fn := fun _ => fun
  | [d] => { results := [.lit (.bool false)], args := [d] }
  | _ => none }
def FnControllerRefClearInOrderWrongFalsely : Prop := fnControllerRefClearInOrderRow.holds Try.pinned (OpenSpec.ofChange fnControllerRefClearInOrderWrong)

end Rows
end Go.Proofs.Qxb6629165a
