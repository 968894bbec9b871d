/-
  THE WALK over zzToAPI: a fresh row of references, field for field, with fresh flags.
-/
import Derived.Test.Qxb6629165aApi
import Derived.Lib.SliceRun
namespace Go.Proofs.Qxb6629165a
open Go.RowKit
set_option linter.unusedVariables false

def made (n : Nat) : Array Value := madeCells z50.cells (n * 6)
theorem made_size (n : Nat) : (made n).size = n * 6 := size_madeCells _ _

theorem run_mk (n : Nat) (hn : n ≤ 1048576) (w : World) : (Instr.makeSlice 26 (.int .i64 n) (.int .i64 n)).run Try.prog w = .ok (.slice (some ⟨w.heap.size, 0, none⟩) n n) (w.alloc (.cells (made n) 50)) := by
  obtain ⟨i0, hi0, hz0, hz1, hz2⟩ := info_parts info50
  have h := run_make (P := Try.prog) w 26 50 i0 z50 Try.underlying26 hi0 hz0 .i64 .i64 n n (by omega) (Int.le_refl _) (by rw [hz2]; omega) (by omega)
  rw [hz1] at h
  simpa [made] using h

/-- Six cells stored at offset o of block N. -/
def put6 (w : World) (N o : Nat) (v0 v1 v2 v3 v4 v5 : Value) : World :=
  (((((w.setCell ⟨N, o, none⟩ v0).setCell ⟨N, o + 1, none⟩ v1).setCell ⟨N, o + 2, none⟩ v2).setCell ⟨N, o + 3, none⟩ v3).setCell ⟨N, o + 4, none⟩ v4).setCell ⟨N, o + 5, none⟩ v5

section
variable (w : World) (N o : Nat) (v0 v1 v2 v3 v4 v5 : Value)

theorem ne_off {b N o o' : Nat} (h : b ≠ N ∨ o ≠ o') : (⟨N, o', none⟩ : Addr) ≠ ⟨b, o, none⟩ := by
  intro e
  simp only [Addr.mk.injEq, and_true] at e
  omega

theorem put6_other (b q : Nat) (h : b ≠ N ∨ q < o ∨ o + 6 ≤ q) : (put6 w N o v0 v1 v2 v3 v4 v5).cell? ⟨b, q, none⟩ = w.cell? ⟨b, q, none⟩ := by
  unfold put6
  rw [World.cell?_setCell_other _ _ _ _ (ne_off (by omega)), World.cell?_setCell_other _ _ _ _ (ne_off (by omega)), World.cell?_setCell_other _ _ _ _ (ne_off (by omega)),
    World.cell?_setCell_other _ _ _ _ (ne_off (by omega)), World.cell?_setCell_other _ _ _ _ (ne_off (by omega)), World.cell?_setCell_other _ _ _ _ (ne_off (by omega))]

theorem put6_size : (put6 w N o v0 v1 v2 v3 v4 v5).heap.size = w.heap.size := by simp [put6]

theorem put6_block {cur : Array Value} (h : w.heap[N]? = some (.cells cur 50 (0, 0))) : ∃ cur', (put6 w N o v0 v1 v2 v3 v4 v5).heap[N]? = some (.cells cur' 50 (0, 0)) ∧ cur'.size = cur.size ∧
    ∀ j v, #[v0, v1, v2, v3, v4, v5][j]? = some v → o + 6 ≤ cur.size → cur'[o + j]? = some v := by
  refine ⟨_, heap_setCell_same _ _ _ _ _ _ (heap_setCell_same _ _ _ _ _ _ (heap_setCell_same _ _ _ _ _ _ (heap_setCell_same _ _ _ _ _ _ (heap_setCell_same _ _ _ _ _ _ (heap_setCell_same _ _ _ _ _ _ h))))), by simp, ?_⟩
  intro j v hj hs
  have hj6 : j < 6 := by
    have := (Array.getElem?_eq_some_iff.1 hj).1
    simpa using this
  match j, hj6 with
  | 0, _ => simp at hj; subst hj; simp [Array.getElem?_setIfInBounds]; omega
  | 1, _ => simp at hj; subst hj; simp [Array.getElem?_setIfInBounds]; omega
  | 2, _ => simp at hj; subst hj; simp [Array.getElem?_setIfInBounds]; omega
  | 3, _ => simp at hj; subst hj; simp [Array.getElem?_setIfInBounds]; omega
  | 4, _ => simp at hj; subst hj; simp [Array.getElem?_setIfInBounds]; omega
  | 5, _ => simp at hj; subst hj; simp [Array.getElem?_setIfInBounds]; omega

theorem put6_below {B : Nat} {a : World} (h : Below B a w) (hB : B ≤ N) : Below B a (put6 w N o v0 v1 v2 v3 v4 v5) :=
  (((((h.setCell (p := ⟨N, _, none⟩) hB _).setCell (p := ⟨N, _, none⟩) hB _).setCell (p := ⟨N, _, none⟩) hB _).setCell (p := ⟨N, _, none⟩) hB _).setCell (p := ⟨N, _, none⟩) hB _).setCell (p := ⟨N, _, none⟩) hB _
end

theorem new1 (W : World) (N : Nat) (hN : W.heap.size = N) (o1 : Obj) (b : Bool) : ((W.alloc o1).alloc (.cells #[.bool b] 4)).cell? ⟨N + 1, 0, none⟩ = some (.bool b) := by
  have h := World.cell?_alloc_new (W.alloc o1) #[.bool b] 4 0
  rw [World.size_alloc, hN] at h
  rw [h]; rfl

theorem new2 (W : World) (N : Nat) (hN : W.heap.size = N) (o1 o3 : Obj) (b : Bool) : (((W.alloc o1).alloc (.cells #[.bool b] 4)).alloc o3).cell? ⟨N + 1, 0, none⟩ = some (.bool b) := by
  rw [World.cell?_alloc_lt _ _ _ (by simp [hN])]
  exact new1 W N hN o1 b

/-- What has been made behind k rounds, in the world wr. -/
structure Own (w wr : World) (n k : Nat) (F : Nat → Option Bool) : Prop where
  bel : Below w.heap.size w wr
  blk : ∃ cur, wr.heap[w.heap.size]? = some (.cells cur 50 (0, 0)) ∧ cur.size = n * 6
  els : ∀ i, i < k → El wr w.heap.size w.heap.size i (F i)

theorem Own.start (w : World) (n : Nat) (F : Nat → Option Bool) : Own w (w.alloc (.cells (made n) 50)) n 0 F where
  bel := (Below.refl _ _).alloc (Nat.le_refl _) _
  blk := ⟨made n, heap_alloc_new w _, made_size n⟩
  els := fun i hi => absurd hi (Nat.not_lt_zero _)

theorem Own.lt {w wr : World} {n k : Nat} {F : Nat → Option Bool} (h : Own w wr n k F) : w.heap.size < wr.heap.size := by
  obtain ⟨cur, h, _⟩ := h.blk
  exact (Array.getElem?_eq_some_iff.1 h).1

theorem Own.frozen {w wr : World} {n k : Nat} {F : Nat → Option Bool} (h : Own w wr n k F) (j : Nat) : wr.frozen? ⟨w.heap.size, j, none⟩ = false := by
  obtain ⟨cur, h, _⟩ := h.blk
  exact frozen_of_row wr _ j cur 50 h

theorem Own.cell {w wr : World} {n k : Nat} {F : Nat → Option Bool} (h : Own w wr n k F) (hk : k < n) (j : Nat) (hj : j < 6) : ∃ o, wr.cell? ⟨w.heap.size, k * 6 + j, none⟩ = some o := by
  obtain ⟨cur, h, hs⟩ := h.blk
  refine ⟨cur[k * 6 + j]'(by omega), ?_⟩
  rw [cell_of_row wr _ _ cur 50 _ h]
  exact Array.getElem?_eq_getElem (by omega)

/-- ONE ROUND: element k is stored; blocks of its own making lie behind. -/
theorem Own.step {w wr W' : World} {n k : Nat} {F : Nat → Option Bool} (h : Own w wr n k F) (hk : k < n) (s0 s1 s2 s3 : ByteArray) (a4 a5 : Option Addr)
    (hW : Below wr.heap.size (put6 wr w.heap.size (k * 6) (.string s0) (.string s1) (.string s2) (.string s3) (.pointer a4) (.pointer a5)) W')
    (ha : (F k = none ∧ a4 = none) ∨ ∃ b q, F k = some b ∧ a4 = some ⟨q, 0, none⟩ ∧ wr.heap.size ≤ q ∧ W'.cell? ⟨q, 0, none⟩ = some (.bool b)) : Own w W' n (k + 1) F := by
  have hlt := h.lt
  obtain ⟨cur, hb, hs⟩ := h.blk
  obtain ⟨cur', hb', hs', hat⟩ := put6_block wr w.heap.size (k * 6) (.string s0) (.string s1) (.string s2) (.string s3) (.pointer a4) (.pointer a5) hb
  have hcell : ∀ b o, b < wr.heap.size → W'.cell? ⟨b, o, none⟩ = (put6 wr w.heap.size (k * 6) (.string s0) (.string s1) (.string s2) (.string s3) (.pointer a4) (.pointer a5)).cell? ⟨b, o, none⟩ := fun b o hb => hW.cell (p := ⟨b, o, none⟩) hb
  have hWb : W'.heap[w.heap.size]? = some (.cells cur' 50 (0, 0)) := (hW.block _ hlt).trans hb'
  refine ⟨(put6_below wr _ _ _ _ _ _ _ _ h.bel (Nat.le_refl _)).trans (hW.mono (by omega)), ⟨cur', hWb, by omega⟩, fun i hi => ?_⟩
  rcases Nat.lt_succ_iff_lt_or_eq.1 hi with hik | rfl
  · obtain ⟨t0, t1, t2, t3, b4, b5, c0, c1, c2, c3, c4, c5, hf, hq⟩ := h.els i hik
    refine ⟨t0, t1, t2, t3, b4, b5, ?_, ?_, ?_, ?_, ?_, ?_, frozen_of_row W' _ _ cur' 50 hWb, ?_⟩
    · rw [hcell _ _ hlt, put6_other _ _ _ _ _ _ _ _ _ _ _ (by omega), c0]
    · rw [hcell _ _ hlt, put6_other _ _ _ _ _ _ _ _ _ _ _ (by omega), c1]
    · rw [hcell _ _ hlt, put6_other _ _ _ _ _ _ _ _ _ _ _ (by omega), c2]
    · rw [hcell _ _ hlt, put6_other _ _ _ _ _ _ _ _ _ _ _ (by omega), c3]
    · rw [hcell _ _ hlt, put6_other _ _ _ _ _ _ _ _ _ _ _ (by omega), c4]
    · rw [hcell _ _ hlt, put6_other _ _ _ _ _ _ _ _ _ _ _ (by omega), c5]
    · rcases hq with hq | ⟨b, q, h1, h2, h3, h4, h5⟩
      · exact .inl hq
      · exact .inr ⟨b, q, h1, h2, h3, h4, by rw [hcell _ _ (cell_lt h5), put6_other _ _ _ _ _ _ _ _ _ _ _ (.inl h4), h5]⟩
  · have hc : ∀ j v, #[Value.string s0, .string s1, .string s2, .string s3, .pointer a4, .pointer a5][j]? = some v → W'.cell? ⟨w.heap.size, i * 6 + j, none⟩ = some v := fun j v hj => by
      rw [cell_of_row W' _ _ cur' 50 _ hWb]; exact hat j v hj (by omega)
    refine ⟨s0, s1, s2, s3, a4, a5, hc 0 _ rfl, hc 1 _ rfl, hc 2 _ rfl, hc 3 _ rfl, hc 4 _ rfl, hc 5 _ rfl, frozen_of_row W' _ _ cur' 50 hWb, ?_⟩
    rcases ha with ha | ⟨b, q, h1, h2, h3, h4⟩
    · exact .inl ha
    · exact .inr ⟨b, q, h1, h2, by omega, by omega, h4⟩

/-- The flags, as the law's own references read them. -/
def flag (C : Nat → Option Addr) (cb : Nat → Bool) (i : Nat) : Option Bool := (C i).map fun _ => cb i

set_option maxRecDepth 100000 in
set_option maxHeartbeats 2000000 in
theorem api_some (b off n c : Nat) (w : World) (S : Nat → Nat → ByteArray) (C D : Nat → Option Addr) (cb db : Nat → Bool) (hn : n ≤ 1048576)
  (hR : Refs w b off n S C D cb db) :
    Calls Try.prog 7 #[.slice (some ⟨b, off, none⟩) n c] w fun e w' => e = .returned (.slice (some ⟨w.heap.size, 0, none⟩) n n) ∧ Own w w' n n (flag C cb) := by
  have hmk := run_mk n hn
  have hnil := fun w => Lib.run_eql_slice_nil (P := Try.prog) w 22 47 (some ⟨b, off, none⟩) n c 0 0 Try.underlying22
  go_enter Try.func7, Try.ntmps7
  go_wp2
  clear hmk hnil
  go_loopw [4] (fun i wr => ∃ (k : Nat), k ≤ n ∧ i = .int .i64 k ∧ Own w wr n k (flag C cb)) (fun i _ => n - (intOf i).toNat)
  case atStart => exact ⟨0, by omega, rfl, Own.start w n _⟩
  case round =>
    obtain ⟨k, hk, rfl, hO⟩ := hrel
    have hRw := hR.below hO.bel
    have HR := hide hR; clear hR
    by_cases hlt : k < n
    · have c0 := hRw.s0 k hlt
      have c1 := hRw.s1 k hlt
      have c2 := hRw.s2 k hlt
      have c3 := hRw.s3 k hlt
      have c4 := hRw.c k hlt
      have c5 := hRw.d k hlt
      have hcp := hRw.cp k hlt
      have hdp := hRw.dp k hlt
      have hbl := hRw.lt
      clear hRw
      have HO := hide hO
      have hf := hO.frozen
      have hNw := hO.lt
      obtain ⟨o0, x0⟩ := hO.cell hlt 0 (by omega)
      obtain ⟨o1, x1⟩ := hO.cell hlt 1 (by omega)
      obtain ⟨o2, x2⟩ := hO.cell hlt 2 (by omega)
      obtain ⟨o3, x3⟩ := hO.cell hlt 3 (by omega)
      obtain ⟨o4, x4⟩ := hO.cell hlt 4 (by omega)
      obtain ⟨o5, x5⟩ := hO.cell hlt 5 (by omega)
      rw [Nat.add_zero] at x0
      clear hO
      generalize S k 0 = s0 at c0
      generalize S k 1 = s1 at c1
      generalize S k 2 = s2 at c2
      generalize S k 3 = s3 at c3
      have hNw1 : w.heap.size < wr.heap.size + 1 := by omega
      have hNw2 : w.heap.size < wr.heap.size + 1 + 1 := by omega
      have hbl1 : b < wr.heap.size + 1 := by omega
      have hbl2 : b < wr.heap.size + 1 + 1 := by omega
      have hF : flag C cb k = (C k).map fun _ => cb k := rfl
      have HFk := hide hF; clear hF
      generalize C k = pc at c4 hcp HFk
      generalize D k = pd at c5 hdp
      generalize cb k = bc at hcp HFk
      generalize db k = bd at hdp
      cases pc with
      | none =>
        clear hcp
        cases pd with
        | none =>
          clear hdp
          go_wp2_with fail
          refine (copy_nil _).mono ?_
          rintro e w' ⟨rfl, rfl⟩
          go_wp2_with fail
          refine (copy_nil _).mono ?_
          rintro e w' ⟨rfl, rfl⟩
          go_wp2_with fail
          go_roundw
          case rel =>
            refine ⟨k + 1, by omega, by go_num, HO.out.step hlt s0 s1 s2 s3 none none ?_ (.inl ⟨HFk.out, rfl⟩)⟩
            exact (Below.refl _ _).alloc (by simp [put6_size]) _
          case measure => simp [intOf]; omega
        | some qd =>
          obtain ⟨e1, l1⟩ := hdp qd rfl
          clear hdp
          go_wp2_with fail
          refine (copy_nil _).mono ?_
          rintro e w' ⟨rfl, rfl⟩
          go_wp2_with fail
          refine (copy_at qd bd _ (by simp [World.cell?_alloc_lt, l1, e1])).mono ?_
          rintro e w' ⟨rfl, rfl⟩
          go_wp2_with fail
          go_roundw
          case rel =>
            refine ⟨k + 1, by omega, by go_num, HO.out.step hlt s0 s1 s2 s3 none (some ⟨wr.heap.size + 1, 0, none⟩) ?_ (.inl ⟨HFk.out, rfl⟩)⟩
            exact ((Below.refl _ _).alloc (by simp [put6_size]) _).alloc (by simp [put6_size]) _
          case measure => simp [intOf]; omega
      | some qc =>
        obtain ⟨e0, l0⟩ := hcp qc rfl
        clear hcp
        cases pd with
        | none =>
          clear hdp
          go_wp2_with fail
          refine (copy_at qc bc _ (by simp [World.cell?_alloc_lt, l0, e0])).mono ?_
          rintro e w' ⟨rfl, rfl⟩
          go_wp2_with fail
          refine (copy_nil _).mono ?_
          rintro e w' ⟨rfl, rfl⟩
          go_wp2_with fail
          go_roundw
          case rel =>
            refine ⟨k + 1, by omega, by go_num, HO.out.step hlt s0 s1 s2 s3 (some ⟨wr.heap.size + 1, 0, none⟩) none ?_ (.inr ⟨bc, wr.heap.size + 1, HFk.out, rfl, by omega, ?_⟩)⟩
            · exact ((Below.refl _ _).alloc (by simp [put6_size]) _).alloc (by simp [put6_size]) _
            · exact new1 _ _ (put6_size _ _ _ _ _ _ _ _ _) _ _
          case measure => simp [intOf]; omega
        | some qd =>
          obtain ⟨e1, l1⟩ := hdp qd rfl
          clear hdp
          go_wp2_with fail
          refine (copy_at qc bc _ (by simp [World.cell?_alloc_lt, l0, e0])).mono ?_
          rintro e w' ⟨rfl, rfl⟩
          go_wp2_with fail
          refine (copy_at qd bd _ (by simp [World.cell?_alloc_lt, l1, e1, Nat.lt_succ_of_lt])).mono ?_
          rintro e w' ⟨rfl, rfl⟩
          go_wp2_with fail
          go_roundw
          case rel =>
            refine ⟨k + 1, by omega, by go_num, HO.out.step hlt s0 s1 s2 s3 (some ⟨wr.heap.size + 1, 0, none⟩) (some ⟨wr.heap.size + 1 + 1, 0, none⟩) ?_ (.inr ⟨bc, wr.heap.size + 1, HFk.out, rfl, by omega, ?_⟩)⟩
            · exact (((Below.refl _ _).alloc (by simp [put6_size]) _).alloc (by simp [put6_size]) _).alloc (by simp [put6_size]; omega) _
            · exact new2 _ _ (put6_size _ _ _ _ _ _ _ _ _) _ _ _
          case measure => simp [intOf]; omega
    · obtain rfl : k = n := by omega
      clear hRw
      go_wp2
      go_ret
      exact ⟨rfl, hO⟩

theorem api_zero (x : Addr) (c : Nat) (w : World) :
    Calls Try.prog 7 #[.slice (some x) 0 c] w fun e w' => e = .returned (.slice (some ⟨w.heap.size, 0, none⟩) 0 0) ∧ Below w.heap.size w w' := by
  have hmk : ∀ w : World, (Instr.makeSlice 26 (.int .i64 0) (.int .i64 0)).run Try.prog w = .ok (.slice (some ⟨w.heap.size, 0, none⟩) 0 0) (w.alloc (.cells (made 0) 50)) := run_mk 0 (by omega)
  have hnil := fun w => Lib.run_eql_slice_nil (P := Try.prog) w 22 47 (some x) 0 c 0 0 Try.underlying22
  go_enter Try.func7, Try.ntmps7
  go_wp2
  refine wp_loop_rounds 1 ?_
  rw [rounds_succ]
  go_wp2
  go_ret
  exact ⟨rfl, (Below.refl _ _).alloc (Nat.le_refl _) _⟩

theorem api_nil (n c : Nat) (w : World) :
    Calls Try.prog 7 #[.slice none n c] w fun e w' => e = .returned (.slice none 0 0) ∧ w' = w := by
  have hnil := fun w => Lib.run_eql_slice_nil (P := Try.prog) w 22 47 none n c 0 0 Try.underlying22
  go_enter Try.func7, Try.ntmps7
  go_wp2
  go_ret
  exact ⟨rfl, rfl⟩

/-- A slice of the law's own references, in the world W: where there are any, they lie at block g, and their flags read F. -/
structure Has (W : World) (a : Option Addr) (g n : Nat) (F : Nat → Option Bool) : Prop where
  at_ : 0 < n → a = some ⟨g, 0, none⟩
  row : 0 < n → Row W g
  els : ∀ i, i < n → El W g g i (F i)

theorem Has.below {W W' : World} {a : Option Addr} {g n : Nat} {F : Nat → Option Bool} (h : Has W a g n F) (hb : Below W.heap.size W W') : Has W' a g n F :=
  ⟨h.at_, fun hn => (h.row hn).below hb, fun i hi => (h.els i hi).below hb⟩

theorem Own.has {w wr : World} {n : Nat} {F : Nat → Option Bool} (h : Own w wr n n F) : Has wr (some ⟨w.heap.size, 0, none⟩) w.heap.size n F :=
  ⟨fun _ => rfl, fun _ => let ⟨cur, hc, _⟩ := h.blk; ⟨cur, hc⟩, h.els⟩

/-- zzToAPI, at every slice that came in. -/
theorem api_any (a : Option Addr) (n c : Nat) (w : World) (S : Nat → Nat → ByteArray) (C D : Nat → Option Addr) (cb db : Nat → Bool) (hn : n ≤ 1048576) (hV : View w a n S C D cb db) :
    Calls Try.prog 7 #[.slice a n c] w fun e w' => ∃ a', e = .returned (.slice a' n n) ∧ Below w.heap.size w w' ∧ Has w' a' w.heap.size n (flag C cb) := by
  by_cases h0 : 0 < n
  · obtain ⟨b, off, rfl, hR⟩ := hV.refs h0
    refine (api_some b off n c w S C D cb db hn hR).mono ?_
    rintro e w' ⟨rfl, hO⟩
    exact ⟨_, rfl, hO.bel, hO.has⟩
  · obtain rfl : n = 0 := by omega
    cases a with
    | none =>
      refine (api_nil 0 c w).mono ?_
      rintro e w' ⟨rfl, rfl⟩
      exact ⟨_, rfl, Below.refl _ _, fun h => absurd h (Nat.lt_irrefl _), fun h => absurd h (Nat.lt_irrefl _), fun i hi => absurd hi (Nat.not_lt_zero _)⟩
    | some x =>
      refine (api_zero x c w).mono ?_
      rintro e w' ⟨rfl, hb⟩
      exact ⟨_, rfl, hb, fun h => absurd h (Nat.lt_irrefl _), fun h => absurd h (Nat.lt_irrefl _), fun i hi => absurd hi (Nat.not_lt_zero _)⟩

theorem ctrl_any (mb : Nat) (a : Option Addr) (g n : Nat) (F : Nat → Option Bool) (w : World) (hn : n ≤ 1048576) (hm : w.cell? ⟨mb, 14, none⟩ = some (.slice a n n)) (hH : Has w a g n F) :
    Calls Try.prog 9 #[.pointer (some ⟨mb, 0, none⟩)] w fun e w' => e = .returned (.pointer (pt g (fst (mark F) n))) ∧ Below w.heap.size w w' := by
  by_cases h0 : 0 < n
  · obtain rfl := hH.at_ h0
    exact ctrl_some mb g g n n F w hn hm hH.els
  · obtain rfl : n = 0 := by omega
    exact ctrl_none mb a 0 w hm

/-- The index that zzIndexOf answers. -/
def ix : Option Nat → Int
  | none => -1
  | some i => i

theorem index_any (a : Option Addr) (g n : Nat) (F : Nat → Option Bool) (M : Nat → Bool) (w : World) (hn : n ≤ 1048576) (hH : Has w a g n F) :
    Calls Try.prog 8 #[.slice a n n, .pointer (pt g (fst M n))] w fun e w' => e = .returned (.int .i64 (ix (fst M n))) ∧ w' = w := by
  rcases fst_cases M n with ⟨h, _⟩ | ⟨i, h, hi, _, _⟩
  · rw [h]
    exact index_nil a n n w
  · rw [h]
    obtain rfl := hH.at_ (by omega)
    exact index_at g n n i w hn hi (hH.row (by omega))
end Go.Proofs.Qxb6629165a
