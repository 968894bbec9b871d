/-
  A BLOCK OF THE CALL's OWN MAKING: its cells, and what stores and later worlds do to them; rows made by make.
-/
import Derived.Test.Qxb6629270aDoorGates
import Derived.Lib.SliceRun
import Derived.LaidMore
namespace Go.Proofs.Qxb6629270aDoor
open Go.RowKit
set_option linter.unusedVariables false

theorem below_drewN {B : Nat} {a w : World} (h : Below B a w) (n : Nat) : Below B a (w.drewN n) := h.trans ⟨rfl, rfl, rfl, Nat.le_refl _, fun _ _ => rfl⟩

/-- f with v at k. -/
def upd (f : Nat → Value) (k : Nat) (v : Value) (i : Nat) : Value := if i = k then v else f i
theorem upd_same (f : Nat → Value) (k : Nat) (v : Value) : upd f k v k = v := by simp [upd]
theorem upd_other (f : Nat → Value) {k i : Nat} (v : Value) (h : i ≠ k) : upd f k v i = f i := by simp [upd, h]

/-- Block N is a row of n cells of type T with the contents f. -/
def Blk (w : World) (N n : Nat) (T : TypeId) (f : Nat → Value) : Prop := ∃ cur, w.heap[N]? = some (.cells cur T (0, 0)) ∧ cur.size = n ∧ ∀ i, i < n → cur[i]? = some (f i)

section
variable {w : World} {N n : Nat} {T : TypeId} {f : Nat → Value}
theorem Blk.lt (h : Blk w N n T f) : N < w.heap.size := by
  obtain ⟨cur, h, _⟩ := h
  exact (Array.getElem?_eq_some_iff.1 h).1
theorem Blk.frozen (h : Blk w N n T f) (j : Nat) : w.frozen? ⟨N, j, none⟩ = false := by
  obtain ⟨cur, h, _⟩ := h
  exact frozen_of_row w _ j cur T h
theorem Blk.cell (h : Blk w N n T f) (i : Nat) (hi : i < n) : w.cell? ⟨N, i, none⟩ = some (f i) := by
  obtain ⟨cur, h, hs, hc⟩ := h
  rw [cell_of_row w _ _ cur T _ h]
  exact hc i hi
theorem Blk.below {w' : World} (h : Blk w N n T f) {B : Nat} (hb : Below B w w') (hN : N < B) : Blk w' N n T f := by
  obtain ⟨cur, h, hs⟩ := h
  exact ⟨cur, (hb.block N hN).trans h, hs⟩
theorem Blk.congr {w' : World} (h : Blk w N n T f) (hb : w'.heap[N]? = w.heap[N]?) : Blk w' N n T f := by
  obtain ⟨cur, h, hs⟩ := h
  exact ⟨cur, hb.trans h, hs⟩
theorem Blk.fn (h : Blk w N n T f) {g : Nat → Value} (e : ∀ i, i < n → f i = g i) : Blk w N n T g := by
  obtain ⟨cur, h, hs, hc⟩ := h
  exact ⟨cur, h, hs, fun i hi => by rw [hc i hi, e i hi]⟩
theorem Blk.set (h : Blk w N n T f) (k : Nat) (v : Value) : Blk (w.setCell ⟨N, k, none⟩ v) N n T (upd f k v) := by
  obtain ⟨cur, h, hs, hc⟩ := h
  refine ⟨_, heap_setCell_same _ _ _ _ _ _ h, by simpa using hs, fun i hi => ?_⟩
  rw [Array.getElem?_setIfInBounds]
  by_cases e : k = i
  · subst e
    rw [if_pos rfl, if_pos (by omega), upd_same]
  · rw [if_neg e, hc i hi, upd_other f v (fun h => e h.symm)]
theorem Blk.other (h : Blk w N n T f) {M : Nat} (hM : M ≠ N) (k : Nat) (v : Value) : Blk (w.setCell ⟨M, k, none⟩ v) N n T f :=
  h.congr (Below.heap_setCell _ _ _ _ (by simpa using hM.symm))
theorem Blk.alloc (h : Blk w N n T f) (o : Obj) : Blk (w.alloc o) N n T f := h.congr (Below.heap_alloc _ _ _ h.lt)
theorem Blk.drew (h : Blk w N n T f) : Blk w.drew N n T f := h
theorem Blk.drewN (h : Blk w N n T f) (k : Nat) : Blk (w.drewN k) N n T f := h
end

theorem Blk.new (w : World) (cur : Array Value) (T : TypeId) : Blk (w.alloc (.cells cur T)) w.heap.size cur.size T (fun i => cur.getD i undef) :=
  ⟨cur, heap_alloc_new w _, rfl, fun i hi => by simp [Array.getD, hi]⟩

/-! ### make -/
def z21 : Value := .int .i32 0
theorem info21 : (Tryd.prog.info? 21).map (fun i => (i.zero, i.size, i.bytes)) = some (some z21, 1, 4) := by kernel_rfl
def made21 (n : Nat) : Array Value := madeCells z21.cells n
theorem made21_size (n : Nat) : (made21 n).size = n := size_madeCells _ _
theorem run_mk36 (n : Nat) (hn : n ≤ 2097152) (w : World) : (Instr.makeSlice 36 (.int .i64 n) (.int .i64 n)).run Tryd.prog w = .ok (.slice (some ⟨w.heap.size, 0, none⟩) n n) (w.alloc (.cells (made21 n) 21)) := by
  obtain ⟨i0, hi0, hz0, hz1, hz2⟩ := info_parts info21
  have h := run_make (P := Tryd.prog) w 36 21 i0 z21 Tryd.underlying36 hi0 hz0 .i64 .i64 n n (by omega) (Int.le_refl _) (by rw [hz2]; omega) (by omega)
  rw [hz1] at h
  simpa [made21, Value.cells] using h

def z38 : Value := .agg #[.int .i64 0, .slice none 0 0]
theorem info38 : (Tryd.prog.info? 38).map (fun i => (i.zero, i.size, i.bytes)) = some (some z38, 2, 32) := by kernel_rfl
theorem info42 : (Tryd.prog.info? 42).map (fun i => (i.zero, i.size, i.bytes)) = some (some z38, 2, 32) := by kernel_rfl
def made38 (n : Nat) : Array Value := madeCells z38.cells (n * 2)
theorem made38_size (n : Nat) : (made38 n).size = n * 2 := size_madeCells _ _
theorem run_mk22 (n : Nat) (hn : n ≤ 2097152) (w : World) : (Instr.makeSlice 22 (.int .i64 n) (.int .i64 n)).run Tryd.prog w = .ok (.slice (some ⟨w.heap.size, 0, none⟩) n n) (w.alloc (.cells (made38 n) 38)) := by
  obtain ⟨i0, hi0, hz0, hz1, hz2⟩ := info_parts info38
  have h := run_make (P := Tryd.prog) w 22 38 i0 z38 Tryd.underlying22 hi0 hz0 .i64 .i64 n n (by omega) (Int.le_refl _) (by rw [hz2]; omega) (by omega)
  rw [hz1] at h
  simpa [made38] using h
theorem run_mk22c (n : Nat) (hn : n ≤ 2097152) (w : World) : (Instr.makeSlice 22 (.int .i64 0) (.int .i64 n)).run Tryd.prog w = .ok (.slice (some ⟨w.heap.size, 0, none⟩) 0 n) (w.alloc (.cells (made38 n) 38)) := by
  obtain ⟨i0, hi0, hz0, hz1, hz2⟩ := info_parts info38
  have h := run_make (P := Tryd.prog) w 22 38 i0 z38 Tryd.underlying22 hi0 hz0 .i64 .i64 0 n (by omega) (by omega) (by rw [hz2]; omega) (by omega)
  rw [hz1] at h
  simpa [made38] using h
theorem run_mk29 (n : Nat) (hn : n ≤ 2097152) (w : World) : (Instr.makeSlice 29 (.int .i64 n) (.int .i64 n)).run Tryd.prog w = .ok (.slice (some ⟨w.heap.size, 0, none⟩) n n) (w.alloc (.cells (made38 n) 42)) := by
  obtain ⟨i0, hi0, hz0, hz1, hz2⟩ := info_parts info42
  have h := run_make (P := Tryd.prog) w 29 42 i0 z38 Tryd.underlying29 hi0 hz0 .i64 .i64 n n (by omega) (Int.le_refl _) (by rw [hz2]; omega) (by omega)
  rw [hz1] at h
  simpa [made38] using h

def z36 : Value := .slice none 0 0
theorem info36 : (Tryd.prog.info? 36).map (fun i => (i.zero, i.size, i.bytes)) = some (some z36, 1, 24) := by kernel_rfl
def made36 (n : Nat) : Array Value := madeCells z36.cells n
theorem made36_size (n : Nat) : (made36 n).size = n := size_madeCells _ _
theorem run_mk32 (n : Nat) (hn : n ≤ 2097152) (w : World) : (Instr.makeSlice 32 (.int .i64 n) (.int .i64 n)).run Tryd.prog w = .ok (.slice (some ⟨w.heap.size, 0, none⟩) n n) (w.alloc (.cells (made36 n) 36)) := by
  obtain ⟨i0, hi0, hz0, hz1, hz2⟩ := info_parts info36
  have h := run_make (P := Tryd.prog) w 32 36 i0 z36 Tryd.underlying32 hi0 hz0 .i64 .i64 n n (by omega) (Int.le_refl _) (by rw [hz2]; omega) (by omega)
  rw [hz1] at h
  simpa [made36, Value.cells] using h
theorem run_mk32c (n : Nat) (hn : n ≤ 2097152) (w : World) : (Instr.makeSlice 32 (.int .i64 0) (.int .i64 n)).run Tryd.prog w = .ok (.slice (some ⟨w.heap.size, 0, none⟩) 0 n) (w.alloc (.cells (made36 n) 36)) := by
  obtain ⟨i0, hi0, hz0, hz1, hz2⟩ := info_parts info36
  have h := run_make (P := Tryd.prog) w 32 36 i0 z36 Tryd.underlying32 hi0 hz0 .i64 .i64 0 n (by omega) (by omega) (by rw [hz2]; omega) (by omega)
  rw [hz1] at h
  simpa [made36, Value.cells] using h
theorem made36_get (n i : Nat) (h : i < n) : (made36 n).getD i undef = .slice none 0 0 := by
  simp [Array.getD, h, made36, z36, madeCells, Value.cells, Nat.mod_one]
end Go.Proofs.Qxb6629270aDoor
