/-
  WHAT BOTH LAWS SHARE: the view of what came in, in later worlds; the box of an ObjectMeta.
-/
import Derived.Test.Qxb6629165aToApi
import Derived.Deep.MidRow
namespace Go.Proofs.Qxb6629165a
open Go.RowKit
set_option linter.unusedVariables false

theorem View.below {w w' : World} {a : Option Addr} {n : Nat} {S : Nat → Nat → ByteArray} {C D : Nat → Option Addr} {cb db : Nat → Bool} (h : View w a n S C D cb db) (hb : Below w.heap.size w w') : View w' a n S C D cb db :=
  ⟨h.nil, fun h0 => let ⟨b, off, e, hR⟩ := h.refs h0; ⟨b, off, e, hR.below hb⟩⟩

theorem View.upto {w : World} {a : Option Addr} {n : Nat} {S : Nat → Nat → ByteArray} {C D : Nat → Option Addr} {cb db : Nat → Bool} (h : View w a n S C D cb db) (k : Nat) (hk : k ≤ n) : View w a k S C D cb db :=
  ⟨fun e => by have := h.nil e; omega, fun h0 => let ⟨b, off, e, hR⟩ := h.refs (by omega); ⟨b, off, e, hR.upto k hk⟩⟩

/-- What 'refs[k:]' begins at. -/
def cutAt (a : Option Addr) (k c : Nat) : Option Addr := if c = k then a else a.map (·.add (k * 6))

theorem View.from {w : World} {a : Option Addr} {n c : Nat} {S : Nat → Nat → ByteArray} {C D : Nat → Option Addr} {cb db : Nat → Bool} (h : View w a n S C D cb db) (k : Nat) (hk : k ≤ n) (hc : n ≤ c) :
    View w (cutAt a k c) (n - k) (fun i => S (k + i)) (fun i => C (k + i)) (fun i => D (k + i)) (fun i => cb (k + i)) (fun i => db (k + i)) := by
  refine ⟨fun e => ?_, fun h0 => ?_⟩
  · unfold cutAt at e
    split at e
    · have := h.nil e; omega
    · cases a with
      | none => have := h.nil rfl; omega
      | some x => cases e
  · obtain ⟨b, off, e, hR⟩ := h.refs (by omega)
    subst e
    refine ⟨b, off + k * 6, ?_, hR.from k (n - k) (by omega)⟩
    unfold cutAt
    rw [if_neg (by omega)]
    show some ((⟨b, off, none⟩ : Addr).add (k * 6)) = _
    rw [Addr.add_mid]

theorem elem22 : Try.prog.elem 22 = 47 := by kernel_rfl
theorem size47 (w : World) : (sizeOf 47).run Try.prog w = .ok 6 w := by kernel_rfl

theorem run_cut (a : Option Addr) (n c k : Nat) (hk : k ≤ n) (w : World) : (Instr.slice 22 (.slice a n c) (some (.int .i64 k)) none none).run Try.prog w = .ok (.slice (cutAt a k c) (n - k) (c - k)) w := by
  rw [run_slice_l w 22 a n c (by kernel_rfl) .i64 k (by omega) (by omega), elem22, size47]
  simp [Result.andThen, sliced, cutAt]

theorem run_head (a : Option Addr) (n c k : Nat) (hk : k ≤ c) (w : World) : (Instr.slice 22 (.slice a n c) none (some (.int .i64 k)) none).run Try.prog w = .ok (.slice a k c) w := by
  rw [run_slice_h w 22 a n c (by kernel_rfl) .i64 k (by omega) (by omega), elem22, size47]
  cases a with
  | none => simp [Result.andThen, sliced]
  | some x => simp [Result.andThen, sliced, Addr.add]

/-- The box of an ObjectMeta whose OwnerReferences are the slice v. -/
def boxOf (v : Value) : Obj := .cells #[.string ⟨#[]⟩, .string ⟨#[]⟩, .string ⟨#[]⟩, .string ⟨#[]⟩, .string ⟨#[]⟩, .string ⟨#[]⟩, .int .i64 0, .int .u64 0, .int .i64 0, .pointer none, .pointer none, .pointer none, .map none, .map none, v, .slice none 0 0, .slice none 0 0] 40

/-- What is known of the world behind such a box. -/
theorem boxed (w : World) (v : Value) (W : World) (h : w.alloc (boxOf v) = W) : Below w.heap.size w W ∧ W.cell? ⟨w.heap.size, 14, none⟩ = some v ∧ w.heap.size < W.heap.size := by
  subst h
  refine ⟨(Below.refl _ _).alloc (Nat.le_refl _) _, ?_, by simp⟩
  rw [boxOf, World.cell?_alloc_new]
  rfl

theorem mark_none {C : Nat → Option Addr} {cb : Nat → Bool} {i : Nat} (h : C i = none) : mark (flag C cb) i = false := by simp [mark, flag, h]
theorem mark_some {C : Nat → Option Addr} {cb : Nat → Bool} {i : Nat} {p : Addr} (h : C i = some p) : mark (flag C cb) i = cb i := by
  simp [mark, flag, h]

theorem index_eq (a : Option Addr) (g n : Nat) (F : Nat → Option Bool) (M : Nat → Bool) (w : World) (hn : n ≤ 1048576) (hH : Has w a g n F) (r : Int) (hr : ix (fst M n) = r) :
    Calls Try.prog 8 #[.slice a n n, .pointer (pt g (fst M n))] w fun e w' => e = .returned (.int .i64 r) ∧ w' = w := by
  subst hr
  exact index_any a g n F M w hn hH

end Go.Proofs.Qxb6629165a
