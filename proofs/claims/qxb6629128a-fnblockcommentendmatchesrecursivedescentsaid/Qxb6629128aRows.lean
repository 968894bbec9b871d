/-
  No cell of these rows narrows 'for every input' (looked for: loops, veiled, ifaces, maps, wideKeys, modest, calm, conditions, laid).
  DERIVED. THE GIVEN ROWS OF THIS SEAT. 2 by the template 'for every input the law returns true; each argument reads behind the call as it read before'; 0 by the template 'total and deterministic' (their statements: Qxb6629128aTotals.lean).
  GIVEN WITH THE SEED: the statements are not yours to turn. If you find one false, say at which input.
  Laid BY PROGRAM, IN A SANDBOX (cutbox-rows.mjs): the forced cells as the released guide's own fill.sh prints them over the translation 91d9f8f63724439a… (all of the seat's roots in one cut). By AI agents, Wed Nov 11 2026. No macro, syntax, notation, axiom, sorry.
-/
import Derived.Test.Qxb6629128aChecked
import GoSem.Claim
import GoSem.ClaimJoined
import GoSem.ClaimMapViews
import Derived.JoinedTies
import Derived.KernelRfl
namespace Go.Proofs.Qxb6629128a
/- THE CELL 'sum', in the pinned program and in every row, IS THE sha256 OF THE DUMP (.gsa) THAT Qxb6629128aProg.lean LOADS. Nothing in Lean hashes anything: it is a label: what it is worth is what the hold of that sum in a sandbox is worth. -/
noncomputable def Try.pinned : Pinned := { name := "qxb6629128a", sum := "91d9f8f63724439ac800666700c0fc9b54d694aaf5c644c8a23f9826bd8d1bb2", checked := Try.checked }
namespace Rows
def none {H : Type} : Left H := { results := [], args := [] }

/-- 'zzlaws_root_b1.FnBlockCommentEndMatchesRecursiveDescent': WHATEVER THE INPUT: true; the input reads as it did. -/
def fnBlockCommentEndMatchesRecursiveDescentSpec : ChangeSpec := { name := "fnBlockCommentEndMatchesRecursiveDescent", fn := fun _ => fun
  | [d1, d2] => { results := [.lit (.bool true)], args := [d1, d2] }
  | _ => none }
def fnBlockCommentEndMatchesRecursiveDescentRow : OpenClaim := { program := "qxb6629128a", sum := "91d9f8f63724439ac800666700c0fc9b54d694aaf5c644c8a23f9826bd8d1bb2", func := "example.com/stepstone/stepstone/zzlaws_root_b1.FnBlockCommentEndMatchesRecursiveDescent", spec := "fnBlockCommentEndMatchesRecursiveDescent", recurses := true, apart := false }
def FnBlockCommentEndMatchesRecursiveDescentSaid : Prop := fnBlockCommentEndMatchesRecursiveDescentRow.holds Try.pinned (OpenSpec.ofChange fnBlockCommentEndMatchesRecursiveDescentSpec)

/-- ITS FALSE NEIGHBOUR: 'it returns false'. Refute it at one input. -/
def fnBlockCommentEndMatchesRecursiveDescentWrong : ChangeSpec := { name := "fnBlockCommentEndMatchesRecursiveDescent", fn := fun _ => fun
  | [d1, d2] => { results := [.lit (.bool false)], args := [d1, d2] }
  | _ => none }
def FnBlockCommentEndMatchesRecursiveDescentWrongFalsely : Prop := fnBlockCommentEndMatchesRecursiveDescentRow.holds Try.pinned (OpenSpec.ofChange fnBlockCommentEndMatchesRecursiveDescentWrong)

/-- 'zzlaws_root_b1.FnBlockCommentEndWrapInOpener': WHATEVER THE INPUT: true; the input reads as it did. -/
def fnBlockCommentEndWrapInOpenerSpec : ChangeSpec := { name := "fnBlockCommentEndWrapInOpener", fn := fun _ => fun
  | [d1, d2] => { results := [.lit (.bool true)], args := [d1, d2] }
  | _ => none }
def fnBlockCommentEndWrapInOpenerRow : OpenClaim := { program := "qxb6629128a", sum := "91d9f8f63724439ac800666700c0fc9b54d694aaf5c644c8a23f9826bd8d1bb2", func := "example.com/stepstone/stepstone/zzlaws_root_b1.FnBlockCommentEndWrapInOpener", spec := "fnBlockCommentEndWrapInOpener", apart := false }
def FnBlockCommentEndWrapInOpenerSaid : Prop := fnBlockCommentEndWrapInOpenerRow.holds Try.pinned (OpenSpec.ofChange fnBlockCommentEndWrapInOpenerSpec)

/-- ITS FALSE NEIGHBOUR: 'it returns false'. Refute it at one input. -/
def fnBlockCommentEndWrapInOpenerWrong : ChangeSpec := { name := "fnBlockCommentEndWrapInOpener", fn := fun _ => fun
  | [d1, d2] => { results := [.lit (.bool false)], args := [d1, d2] }
  | _ => none }
def FnBlockCommentEndWrapInOpenerWrongFalsely : Prop := fnBlockCommentEndWrapInOpenerRow.holds Try.pinned (OpenSpec.ofChange fnBlockCommentEndWrapInOpenerWrong)

end Rows
end Go.Proofs.Qxb6629128a
