/-
  THE WALKS over ZZnewBranchRef, ZZnewRecord, buildRecord.
-/
import Derived.Test.Qxb6629206aDoorGates
import Derived.Deep.RegionHeld3
import Derived.Deep.DrawnRows
namespace Go.Proofs.Qxb6629206aDoor
open Go.RowKit
set_option linter.unusedVariables false
attribute [local go_sem ↓] Go.wp_at_zero Go.wp_at_succ

theorem ref14 (r g s : ByteArray) (w : World) : Calls Tryd.prog 14 #[.string r, .string g, .string s] w fun e w' => e = .returned (.agg #[.string r, .string g, .string s]) ∧ w' = w.alloc (.cells #[.string r, .string g, .string s] 41) := by
  go_enter Tryd.func14, Tryd.ntmps14
  go_wp2
  exact bodyPost_ret (v := .agg #[.string r, .string g, .string s]) (by simp [results, Tryd.results14, go_sem]) rfl ⟨rfl, rfl⟩

/-- A record as a value. -/
def recV (nx : Int) (oc : ByteArray) (v : Value) : Array Value := #[.string ⟨#[]⟩, .string ⟨#[]⟩, .int .u64 nx, .string oc, v]

theorem rec15 (nx : Int) (oc : ByteArray) (a : Option Addr) (n c : Nat) (w : World) : Calls Tryd.prog 15 #[.int .u64 nx, .string oc, .slice a n c] w fun e w' => e = .returned (.agg (recV nx oc (.slice a n c))) ∧ w' = w.alloc (.cells (recV nx oc (.slice a n c)) 29) := by
  go_enter Tryd.func15, Tryd.ntmps15
  go_wp2
  exact bodyPost_ret (v := .agg #[.string ⟨#[]⟩, .string ⟨#[]⟩, .int .u64 nx, .string oc, .slice a n c]) (by simp [results, Tryd.results15, go_sem]) rfl ⟨rfl, rfl⟩

def z41 : Value := .agg #[.string ⟨#[]⟩, .string ⟨#[]⟩, .string ⟨#[]⟩]
theorem info41 : (Tryd.prog.info? 41).map (fun i => (i.zero, i.size, i.bytes)) = some (some z41, 3, 48) := by kernel_rfl
def made41 (n : Nat) : Array Value := madeCells z41.cells (n * 3)
theorem made41_size (n : Nat) : (made41 n).size = n * 3 := size_madeCells _ _
theorem run_mk27 (n : Nat) (hn : n ≤ 2097152) (w : World) : (Instr.makeSlice 27 (.int .i64 n) (.int .i64 n)).run Tryd.prog w = .ok (.slice (some ⟨w.heap.size, 0, none⟩) n n) (w.alloc (.cells (made41 n) 41)) := by
  obtain ⟨i0, hi0, hz0, hz1, hz2⟩ := info_parts info41
  have h := run_make (P := Tryd.prog) w 27 41 i0 z41 Tryd.underlying27 hi0 hz0 .i64 .i64 n n (by omega) (Int.le_refl _) (by rw [hz2]; omega) (by omega)
  rw [hz1] at h
  simpa [made41] using h

theorem cell_lt {w : World} {p : Addr} {v : Value} (h : w.cell? p = some v) : p.block < w.heap.size := World.block_lt_of_cell? w p h

/-- Three cells stored at offset o of block N. -/
def put3 (w : World) (N o : Nat) (v0 v1 v2 : Value) : World := ((w.setCell ⟨N, o, none⟩ v0).setCell ⟨N, o + 1, none⟩ v1).setCell ⟨N, o + 2, none⟩ v2

section
variable (w : World) (N o : Nat) (v0 v1 v2 : Value)

theorem ne_off {b N o o' : Nat} (h : b ≠ N ∨ o ≠ o') : (⟨N, o', none⟩ : Addr) ≠ ⟨b, o, none⟩ := by
  intro e
  simp only [Addr.mk.injEq, and_true] at e
  omega

theorem put3_other (b q : Nat) (h : b ≠ N ∨ q < o ∨ o + 3 ≤ q) : (put3 w N o v0 v1 v2).cell? ⟨b, q, none⟩ = w.cell? ⟨b, q, none⟩ := by
  unfold put3
  rw [World.cell?_setCell_other _ _ _ _ (ne_off (by omega)), World.cell?_setCell_other _ _ _ _ (ne_off (by omega)), World.cell?_setCell_other _ _ _ _ (ne_off (by omega))]

theorem put3_size : (put3 w N o v0 v1 v2).heap.size = w.heap.size := by simp [put3]

theorem put3_block {cur : Array Value} {T : TypeId} (h : w.heap[N]? = some (.cells cur T (0, 0))) : ∃ cur', (put3 w N o v0 v1 v2).heap[N]? = some (.cells cur' T (0, 0)) ∧ cur'.size = cur.size ∧
    ∀ j v, #[v0, v1, v2][j]? = some v → o + 3 ≤ cur.size → cur'[o + j]? = some v := by
  refine ⟨_, heap_setCell_same _ _ _ _ _ _ (heap_setCell_same _ _ _ _ _ _ (heap_setCell_same _ _ _ _ _ _ h)), by simp, ?_⟩
  intro j v hj hs
  have hj6 : j < 3 := by
    have := (Array.getElem?_eq_some_iff.1 hj).1
    simpa using this
  match j, hj6 with
  | 0, _ => simp at hj; subst hj; simp [Array.getElem?_setIfInBounds]; omega
  | 1, _ => simp at hj; subst hj; simp [Array.getElem?_setIfInBounds]; omega
  | 2, _ => simp at hj; subst hj; simp [Array.getElem?_setIfInBounds]; omega

theorem put3_below {B : Nat} {a : World} (h : Below B a w) (hB : B ≤ N) : Below B a (put3 w N o v0 v1 v2) :=
  ((h.setCell (p := ⟨N, _, none⟩) hB _).setCell (p := ⟨N, _, none⟩) hB _).setCell (p := ⟨N, _, none⟩) hB _

theorem keep3 (ob : Obj) (b q : Nat) (v : Value) (h : w.cell? ⟨b, q, none⟩ = some v) (hN : b ≠ N) : ((put3 w N o v0 v1 v2).alloc ob).drew.cell? ⟨b, q, none⟩ = some v := by
  rw [World.cell?_drew, World.cell?_alloc_lt _ _ _ (by rw [put3_size]; exact cell_lt h), put3_other _ _ _ _ _ _ _ _ (.inl hN), h]
end

/-- A row of k triples of strings lies at block N (which has room for n of them). -/
structure Row3 (w : World) (N n k : Nat) (T : TypeId) (R G S : Nat → ByteArray) : Prop where
  blk : ∃ cur, w.heap[N]? = some (.cells cur T (0, 0)) ∧ cur.size = n * 3
  els : ∀ i, i < k → w.cell? ⟨N, i * 3, none⟩ = some (.string (R i)) ∧ w.cell? ⟨N, i * 3 + 1, none⟩ = some (.string (G i)) ∧ w.cell? ⟨N, i * 3 + 2, none⟩ = some (.string (S i))

section
variable {w : World} {N n k : Nat} {T : TypeId} {R G S : Nat → ByteArray}

theorem Row3.lt (h : Row3 w N n k T R G S) : N < w.heap.size := by
  obtain ⟨cur, h, _⟩ := h.blk
  exact (Array.getElem?_eq_some_iff.1 h).1

theorem Row3.frozen (h : Row3 w N n k T R G S) (j : Nat) : w.frozen? ⟨N, j, none⟩ = false := by
  obtain ⟨cur, h, _⟩ := h.blk
  exact frozen_of_row w _ j cur T h

theorem Row3.cell (h : Row3 w N n k T R G S) (i : Nat) (hk : i < n) (j : Nat) (hj : j < 3) : ∃ o, w.cell? ⟨N, i * 3 + j, none⟩ = some o := by
  obtain ⟨cur, h, hs⟩ := h.blk
  refine ⟨cur[i * 3 + j]'(by omega), ?_⟩
  rw [cell_of_row w _ _ cur T _ h]
  exact Array.getElem?_eq_getElem (by omega)

theorem Row3.cells (h : Row3 w N n k T R G S) (i : Nat) (hk : i < n) : ∃ o0 o1 o2, w.cell? ⟨N, i * 3, none⟩ = some o0 ∧ w.cell? ⟨N, i * 3 + 1, none⟩ = some o1 ∧ w.cell? ⟨N, i * 3 + 2, none⟩ = some o2 :=
  let ⟨o0, x0⟩ := h.cell i hk 0 (by omega); let ⟨o1, x1⟩ := h.cell i hk 1 (by omega); let ⟨o2, x2⟩ := h.cell i hk 2 (by omega); ⟨o0, o1, o2, x0, x1, x2⟩

theorem Row3.below {w' : World} (h : Row3 w N n k T R G S) {B : Nat} (hb : Below B w w') (hN : N < B) : Row3 w' N n k T R G S where
  blk := let ⟨cur, h1, h2⟩ := h.blk; ⟨cur, (hb.block N hN).trans h1, h2⟩
  els := fun i hi => ⟨(hb.cell (p := ⟨N, _, none⟩) hN).trans (h.els i hi).1, (hb.cell (p := ⟨N, _, none⟩) hN).trans (h.els i hi).2.1, (hb.cell (p := ⟨N, _, none⟩) hN).trans (h.els i hi).2.2⟩

theorem Row3.congr {w' : World} (h : Row3 w N n k T R G S) (hb : w'.heap[N]? = w.heap[N]?) : Row3 w' N n k T R G S where
  blk := let ⟨cur, h1, h2⟩ := h.blk; ⟨cur, hb.trans h1, h2⟩
  els := fun i hi => ⟨(World.cell?_of_block (a := ⟨N, _, none⟩) hb).trans (h.els i hi).1, (World.cell?_of_block (a := ⟨N, _, none⟩) hb).trans (h.els i hi).2.1, (World.cell?_of_block (a := ⟨N, _, none⟩) hb).trans (h.els i hi).2.2⟩

theorem Row3.step (h : Row3 w N n k T R G S) (hk : k < n) {s0 s1 s2 : ByteArray} (e0 : R k = s0) (e1 : G k = s1) (e2 : S k = s2) : Row3 (put3 w N (k * 3) (.string s0) (.string s1) (.string s2)) N n (k + 1) T R G S := by
  obtain ⟨cur, hb, hs⟩ := h.blk
  obtain ⟨cur', hb', hs', hat⟩ := put3_block w N (k * 3) (.string s0) (.string s1) (.string s2) hb
  refine ⟨⟨cur', hb', by omega⟩, fun i hi => ?_⟩
  rcases Nat.lt_succ_iff_lt_or_eq.1 hi with hik | rfl
  · rw [put3_other _ _ _ _ _ _ _ _ (by omega), put3_other _ _ _ _ _ _ _ _ (by omega), put3_other _ _ _ _ _ _ _ _ (by omega)]
    exact h.els i hik
  · have hc : ∀ j v, #[Value.string s0, .string s1, .string s2][j]? = some v → (put3 w N (i * 3) (.string s0) (.string s1) (.string s2)).cell? ⟨N, i * 3 + j, none⟩ = some v := fun j v hj => by
      rw [cell_of_row _ _ _ cur' T _ hb']; exact hat j v hj (by omega)
    rw [e0, e1, e2]
    exact ⟨hc 0 _ rfl, hc 1 _ rfl, hc 2 _ rfl⟩
end

/-- What holds behind k rounds of buildRecord. -/
structure Bld (w wr : World) (n k : Nat) (R G S : Nat → ByteArray) : Prop where
  bel : Below w.heap.size w wr
  box : ∃ cur, wr.heap[w.heap.size]? = some (.cells cur 29 (0, 0)) ∧ cur.size = 5
  row : Row3 wr (w.heap.size + 1) n k 41 R G S

theorem Bld.start (w : World) (n : Nat) (R G S : Nat → ByteArray) (z : Array Value) (hz : z.size = 5) : Bld w ((w.alloc (.cells z 29)).alloc (.cells (made41 n) 41)) n 0 R G S where
  bel := ((Below.refl _ _).alloc (Nat.le_refl _) _).alloc (by simp) _
  box := ⟨z, by rw [heap_alloc2_old], hz⟩
  row := ⟨⟨made41 n, by rw [heap_alloc2_new], made41_size n⟩, fun i hi => absurd hi (Nat.not_lt_zero _)⟩

theorem Bld.step {w wr : World} {n k : Nat} {R G S : Nat → ByteArray} (h : Bld w wr n k R G S) (hk : k < n) {s0 s1 s2 : ByteArray} (e0 : R k = s0) (e1 : G k = s1) (e2 : S k = s2) (ob : Obj) :
    Bld w ((put3 wr (w.heap.size + 1) (k * 3) (.string s0) (.string s1) (.string s2)).alloc ob).drew n (k + 1) R G S := by
  have hl := h.row.lt
  have hb : Below wr.heap.size (put3 wr (w.heap.size + 1) (k * 3) (.string s0) (.string s1) (.string s2)) ((put3 wr (w.heap.size + 1) (k * 3) (.string s0) (.string s1) (.string s2)).alloc ob).drew :=
    ((Below.refl _ _).alloc (by rw [put3_size]; exact Nat.le_refl _) _).drew
  refine ⟨(put3_below _ _ _ _ _ _ h.bel (by omega)).trans (hb.mono h.bel.size), ?_, (h.row.step hk e0 e1 e2).below hb hl⟩
  obtain ⟨cur, h1, h2⟩ := h.box
  refine ⟨cur, ?_, h2⟩
  rw [hb.block _ (by omega)]
  unfold put3
  rw [heap_setCell_other _ _ _ _ (by simp), heap_setCell_other _ _ _ _ (by simp), heap_setCell_other _ _ _ _ (by simp), h1]

set_option maxRecDepth 100000 in
set_option maxHeartbeats 2000000 in
theorem build7 (nx : Int) (oc : ByteArray) (a : Option Addr) (n c : Nat) (w : World) (R G S : Nat → ByteArray) (hn : n ≤ 2097152) (hA : Bs w a n R G S) :
    Calls Tryd.prog 7 #[.int .u64 nx, .string oc, .slice a n c] w fun e w' => e = .returned (.agg (recV nx oc (.slice (some ⟨w.heap.size + 1, 0, none⟩) n n))) ∧ Below w.heap.size w w' ∧ Row3 w' (w.heap.size + 1) n n 41 R G S := by
  have hmk := run_mk27 n hn
  have HA := hide hA; clear hA
  go_enter Tryd.func7, Tryd.ntmps7
  go_wp2
  clear hmk
  go_loopw [8] (fun i wr => ∃ (k : Nat), k ≤ n ∧ i = .int .i64 k ∧ Bld w wr n k R G S) (fun i _ => n - (intOf i).toNat)
  case atStart => exact ⟨0, by omega, rfl, Bld.start w n R G S _ rfl⟩
  case round =>
    obtain ⟨k, hk, rfl, hB⟩ := hrel
    have hNw := hB.row.lt
    by_cases hlt : k < n
    · obtain ⟨b, off, rfl, hbw, -⟩ := HA.out.at_ (by omega)
      obtain ⟨b', off', hbo, hbl, hcl⟩ := (HA.out.below hB.bel).at_ (by omega)
      simp only [Option.some.injEq, Addr.mk.injEq, and_true] at hbo
      obtain ⟨rfl, rfl⟩ := hbo
      obtain ⟨c0, c1, c2⟩ := hcl k hlt
      clear hcl
      have e0 : Hid (R k = R k) := rfl
      have e1 : Hid (G k = G k) := rfl
      have e2 : Hid (S k = S k) := rfl
      generalize hs0 : R k = s0 at c0 e0
      generalize hs1 : G k = s1 at c1 e1
      generalize hs2 : S k = s2 at c2 e2
      have E0 := hide hs0; have E1 := hide hs1; have E2 := hide hs2; clear hs0 hs1 hs2 e0 e1 e2
      have hf := hB.row.frozen
      obtain ⟨o0, o1, o2, x0, x1, x2⟩ := hB.row.cells k hlt
      have HB := hide hB; clear hB
      have hk0 : (0 : Int) ≤ (k : Int) := by omega
      have hk1 : (k : Int) < (n : Int) := by omega
      have n0 := World.new_ne wr _ c0
      have n3 := World.new_ne wr _ x0
      have hbN : b ≠ w.heap.size + 1 := by omega
      have hNb : w.heap.size + 1 ≠ b := by omega
      go_wp2_with fail
      go_region_held3 (fun w' => w'.cell? ⟨b, off + k * 3, none⟩ = some (.string s0) ∧ w'.cell? ⟨b, off + k * 3 + 1, none⟩ = some (.string s1) ∧ w'.cell? ⟨b, off + k * 3 + 2, none⟩ = some (.string s2))
        (go_keep)
        (first
          | (go_at_call 14; refine (ref14 _ _ _ _).mono ?_; rintro e w7 ⟨rfl, hw7⟩; subst hw7))
      go_wp2_with fail
      go_roundw
      case rel => exact ⟨k + 1, by omega, by go_num, HB.out.step hlt E0.out E1.out E2.out (.cells #[.string s0, .string s1, .string s2] 41)⟩
      case measure => simp [intOf]; omega
    · obtain rfl : k = n := by omega
      obtain ⟨cur, hx, hsz⟩ := hB.box
      have g0 := cell_of_row wr w.heap.size 0 cur 29 _ hx
      have g1 := cell_of_row wr w.heap.size 1 cur 29 _ hx
      have g2 := cell_of_row wr w.heap.size 2 cur 29 _ hx
      have g3 := cell_of_row wr w.heap.size 3 cur 29 _ hx
      have g4 := cell_of_row wr w.heap.size 4 cur 29 _ hx
      have gf := fun j => frozen_of_row wr w.heap.size j cur 29 hx
      rw [Array.getElem?_eq_getElem (by omega)] at g0 g1 g2 g3 g4
      have hNw0 : w.heap.size < wr.heap.size := by omega
      have HB := hide hB; clear hB hx
      generalize cur[0] = d0 at g0
      generalize cur[1] = d1 at g1
      generalize cur[2] = d2 at g2
      generalize cur[3] = d3 at g3
      generalize cur[4] = d4 at g4
      clear hsz
      go_wp2_with fail
      refine (rec15 _ _ _ _ _ _).mono ?_
      rintro e w7 ⟨rfl, hw7⟩
      subst hw7
      simp only [recV]
      go_wp2_with fail
      refine bodyPost_ret (v := .agg #[.string ⟨#[]⟩, .string ⟨#[]⟩, .int .u64 nx, .string oc, .slice (some ⟨w.heap.size + 1, 0, none⟩) k k]) (by simp [results, Tryd.results7, go_sem, g0, g1, g2, g3, g4, hNw0, World.cell?_alloc_lt, World.cell?_setCell_other, World.cell?_setCell_same]) rfl ⟨rfl, ?_, ?_⟩
      · refine Below.alloc ?_ (by simp; omega) _
        exact ((((HB.out.bel.setCell (p := ⟨w.heap.size, _, none⟩) (Nat.le_refl _) _).setCell (p := ⟨w.heap.size, _, none⟩) (Nat.le_refl _) _).setCell (p := ⟨w.heap.size, _, none⟩) (Nat.le_refl _) _).setCell (p := ⟨w.heap.size, _, none⟩) (Nat.le_refl _) _).setCell (p := ⟨w.heap.size, _, none⟩) (Nat.le_refl _) _
      · refine HB.out.row.congr ?_
        rw [heap_alloc_old _ _ (by simpa using hNw), heap_setCell_other _ _ _ _ (by simp), heap_setCell_other _ _ _ _ (by simp), heap_setCell_other _ _ _ _ (by simp), heap_setCell_other _ _ _ _ (by simp), heap_setCell_other _ _ _ _ (by simp)]
end Go.Proofs.Qxb6629206aDoor
