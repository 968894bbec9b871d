/-
  THE WALKS over zzCloneInts, zzClone, ZZmakeNumberedList, zzToList.
-/
import Derived.Test.Qxb6629270aDoorMem
import Derived.Deep.RegionHeld3
import Derived.Deep.DrawnRows
namespace Go.Proofs.Qxb6629270aDoor
open Go.RowKit
set_option linter.unusedVariables false
attribute [local go_sem ↓] Go.wp_at_zero Go.wp_at_succ

theorem ints_nil (n c : Nat) (w : World) : Calls Tryd.prog 15 #[.slice none n c] w fun e w' => e = .returned (.slice none 0 0) ∧ w' = w := by
  have hnil := fun w => Lib.run_eql_slice_nil (P := Tryd.prog) w 36 21 none n c 0 0 Tryd.underlying36
  go_enter Tryd.func15, Tryd.ntmps15
  go_wp2
  go_ret
  exact ⟨rfl, rfl⟩

theorem ints_zero (x : Addr) (c : Nat) (w : World) : Calls Tryd.prog 15 #[.slice (some x) 0 c] w fun e w' => e = .returned (.slice (some ⟨w.heap.size, 0, none⟩) 0 0) ∧ w' = w.alloc (.cells (made21 0) 21) := by
  have hmk : ∀ w : World, (Instr.makeSlice 36 (.int .i64 0) (.int .i64 0)).run Tryd.prog w = .ok (.slice (some ⟨w.heap.size, 0, none⟩) 0 0) (w.alloc (.cells (made21 0) 21)) := run_mk36 0 (by omega)
  have hnil := fun w => Lib.run_eql_slice_nil (P := Tryd.prog) w 36 21 (some x) 0 c 0 0 Tryd.underlying36
  go_enter Tryd.func15, Tryd.ntmps15
  go_wp2
  refine wp_loop_rounds 1 ?_
  rw [rounds_succ]
  go_wp2
  go_ret
  exact ⟨rfl, rfl⟩

set_option maxRecDepth 100000 in
set_option maxHeartbeats 2000000 in
theorem ints_some (b off m c : Nat) (l : List Int) (w : World) (hm : m ≤ 1048576) (hc : ∀ k, k < m → w.cell? ⟨b, off + k, none⟩ = some (.int .i32 (l.getD k 0))) :
    Calls Tryd.prog 15 #[.slice (some ⟨b, off, none⟩) m c] w fun e w' => e = .returned (.slice (some ⟨w.heap.size, 0, none⟩) m m) ∧ ∃ cur : Array Value, w' = w.alloc (.cells cur 21) ∧ cur.size = m ∧ ∀ k, k < m → cur[k]? = some (.int .i32 (l.getD k 0)) := by
  have hmk := run_mk36 m (by omega)
  have hnil := fun w => Lib.run_eql_slice_nil (P := Tryd.prog) w 36 21 (some ⟨b, off, none⟩) m c 0 0 Tryd.underlying36
  have HC := hide hc; clear hc
  go_enter Tryd.func15, Tryd.ntmps15
  go_wp2
  clear hmk hnil
  go_loopw [4] (fun i wr => ∃ (k : Nat) (cur : Array Value), k ≤ m ∧ i = .int .i64 k ∧ wr = w.alloc (.cells cur 21) ∧ cur.size = m ∧ ∀ j, j < k → cur[j]? = some (.int .i32 (l.getD j 0))) (fun i _ => m - (intOf i).toNat)
  case atStart => exact ⟨0, made21 m, by omega, rfl, rfl, made21_size m, fun j hj => absurd hj (Nat.not_lt_zero _)⟩
  case round =>
    obtain ⟨k, cur, hk, rfl, rfl, hs, hall⟩ := hrel
    have HALL := hide hall; clear hall
    by_cases hlt : k < m
    · have c0 := HC.out k hlt
      have hbl := cell_lt c0
      simp only at hbl
      generalize hx : l.getD k 0 = x at c0
      have HX := hide hx; clear hx
      have hks : k < cur.size := by omega
      go_wp2
      go_roundw
      case rel =>
        refine ⟨k + 1, cur.setIfInBounds k (.int .i32 x), by omega, by go_num, rfl, by simpa using hs, fun j hj => ?_⟩
        rw [Array.getElem?_setIfInBounds]
        by_cases e : k = j
        · subst e; rw [if_pos rfl, if_pos hks, HX.out]
        · rw [if_neg e]; exact HALL.out j (by omega)
      case measure => simp [intOf]; omega
    · obtain rfl : k = m := by omega
      go_wp2
      go_ret
      exact ⟨rfl, cur, rfl, hs, HALL.out⟩

/-- zzCloneInts at what is no nil slice. -/
theorem ints_any (x : Addr) (m c : Nat) (l : List Int) (w : World) (hm : m ≤ 1048576) (h : In w (some x) m l) :
    Calls Tryd.prog 15 #[.slice (some x) m c] w fun e w' => e = .returned (.slice (some ⟨w.heap.size, 0, none⟩) m m) ∧ ∃ cur : Array Value, w' = w.alloc (.cells cur 21) ∧ ∀ k, k < m → cur[k]? = some (.int .i32 (l.getD k 0)) := by
  by_cases h0 : 0 < m
  · obtain ⟨b, off, e, hc⟩ := h.at_ h0
    simp only [Option.some.injEq] at e
    subst e
    refine (ints_some b off m c l w hm hc).mono ?_
    rintro e w' ⟨rfl, cur, rfl, hs, hcur⟩
    exact ⟨rfl, cur, rfl, hcur⟩
  · obtain rfl : m = 0 := by omega
    refine (ints_zero x c w).mono ?_
    rintro e w' ⟨rfl, rfl⟩
    exact ⟨rfl, _, rfl, fun k hk => absurd hk (Nat.not_lt_zero _)⟩

/-- Two cells stored at offset o of block N. -/
def put2 (w : World) (N o : Nat) (v0 v1 : Value) : World := (w.setCell ⟨N, o, none⟩ v0).setCell ⟨N, o + 1, none⟩ v1
theorem put2_size (w : World) (N o : Nat) (v0 v1 : Value) : (put2 w N o v0 v1).heap.size = w.heap.size := by simp [put2]
theorem put2_other (w : World) (N o : Nat) (v0 v1 : Value) {b : Nat} (h : b ≠ N) (q : Nat) : (put2 w N o v0 v1).cell? ⟨b, q, none⟩ = w.cell? ⟨b, q, none⟩ := by
  have hne : ∀ o', (⟨N, o', none⟩ : Addr) ≠ ⟨b, q, none⟩ := fun o' e => by
    simp only [Addr.mk.injEq, and_true] at e
    exact h e.1.symm
  unfold put2
  rw [World.cell?_setCell_other _ _ _ _ (hne _), World.cell?_setCell_other _ _ _ _ (hne _)]
theorem put2_below {w : World} {N o : Nat} {v0 v1 : Value} {B : Nat} {a : World} (h : Below B a w) (hB : B ≤ N) : Below B a (put2 w N o v0 v1) :=
  (h.setCell (p := ⟨N, _, none⟩) hB _).setCell (p := ⟨N, _, none⟩) hB _

theorem In.move {w w' : World} {a : Option Addr} {m : Nat} {l : List Int} (h : In w a m l) {N : Nat} (hf : 0 < m → ∀ p, a = some p → p.block ≠ N) (hk : ∀ b q, b < w.heap.size → b ≠ N → w'.cell? ⟨b, q, none⟩ = w.cell? ⟨b, q, none⟩) : In w' a m l where
  len := h.len
  at_ := fun h0 => let ⟨b, off, e, hc⟩ := h.at_ h0
    ⟨b, off, e, fun k hkm => (hk b _ (cell_lt (hc k hkm)) (hf h0 _ e)).trans (hc k hkm)⟩

/-- k entries lie in the row of the call's own at block N, which has room for n of them. -/
structure Rw (w : World) (N n k : Nat) (T : TypeId) (Nn : Nat → Int) (L : Nat → List Int) : Prop where
  blk : ∃ f, Blk w N (n * 2) T f
  els : ∀ i, i < k → ∃ x m c, w.cell? ⟨N, i * 2, none⟩ = some (.int .i64 (Nn i)) ∧ w.cell? ⟨N, i * 2 + 1, none⟩ = some (.slice x m c) ∧ In w x m (L i) ∧ (0 < m → ∀ p, x = some p → p.block ≠ N)

section
variable {w : World} {N n k : Nat} {T : TypeId} {Nn : Nat → Int} {L : Nat → List Int}
theorem Rw.lt (h : Rw w N n k T Nn L) : N < w.heap.size := let ⟨_, h⟩ := h.blk; h.lt
theorem Rw.frozen (h : Rw w N n k T Nn L) (j : Nat) : w.frozen? ⟨N, j, none⟩ = false := let ⟨_, h⟩ := h.blk; h.frozen j
theorem Rw.cells (h : Rw w N n k T Nn L) (i : Nat) (hi : i < n) : ∃ o0 o1, w.cell? ⟨N, i * 2, none⟩ = some o0 ∧ w.cell? ⟨N, i * 2 + 1, none⟩ = some o1 :=
  let ⟨f, h⟩ := h.blk; ⟨_, _, h.cell (i * 2) (by omega), h.cell (i * 2 + 1) (by omega)⟩
theorem Rw.start (w : World) (cur : Array Value) (hs : cur.size = n * 2) : Rw (w.alloc (.cells cur T)) w.heap.size n 0 T Nn L :=
  ⟨⟨_, hs ▸ Blk.new w cur T⟩, fun i hi => absurd hi (Nat.not_lt_zero _)⟩
theorem Rw.step {W : World} (h : Rw w N n k T Nn L) (hk : k < n) {y : Int} (hy : Nn k = y) {x : Option Addr} {m c : Nat} (hW : Below w.heap.size (put2 w N (k * 2) (.int .i64 y) (.slice x m c)) W) (hin : In W x m (L k)) (hf : 0 < m → ∀ p, x = some p → p.block ≠ N) : Rw W N n (k + 1) T Nn L := by
  have hlt := h.lt
  obtain ⟨f, hb⟩ := h.blk
  have hb2 := ((hb.set (k * 2) (.int .i64 y)).set (k * 2 + 1) (.slice x m c)).below hW hlt
  refine ⟨⟨_, hb2⟩, fun i hi => ?_⟩
  rcases Nat.lt_succ_iff_lt_or_eq.1 hi with hik | rfl
  · obtain ⟨x', m', c', h1, h2, h3, h4⟩ := h.els i hik
    refine ⟨x', m', c', ?_, ?_, ?_, h4⟩
    · rw [hb2.cell _ (by omega), upd_other _ _ (by omega), upd_other _ _ (by omega), ← h1, hb.cell _ (by omega)]
    · rw [hb2.cell _ (by omega), upd_other _ _ (by omega), upd_other _ _ (by omega), ← h2, hb.cell _ (by omega)]
    · exact h3.move h4 fun b q hbw hbN => (hW.cell (p := ⟨b, q, none⟩) hbw).trans (put2_other _ _ _ _ _ hbN q)
  · refine ⟨x, m, c, ?_, ?_, hin, hf⟩
    · rw [hb2.cell _ (by omega), upd_other _ _ (by omega), upd_same, hy]
    · rw [hb2.cell _ (by omega), upd_same]
theorem Rw.es (h : Rw w N n k T Nn L) : Es w (some ⟨N, 0, none⟩) k Nn L :=
  ⟨fun _ => ⟨N, 0, rfl, fun i hi => let ⟨x, m, c, h1, h2, h3, _⟩ := h.els i hi; ⟨x, m, c, by rw [Nat.zero_add]; exact h1, by rw [Nat.zero_add]; exact h2, h3⟩⟩⟩
theorem Rw.below {w' : World} (h : Rw w N n k T Nn L) (hb : Below w.heap.size w w') : Rw w' N n k T Nn L where
  blk := let ⟨f, h1⟩ := h.blk; ⟨f, h1.below hb h.lt⟩
  els := fun i hi => let ⟨x, m, c, h1, h2, h3, h4⟩ := h.els i hi; ⟨x, m, c, (hb.cell (p := ⟨N, _, none⟩) h.lt).trans h1, (hb.cell (p := ⟨N, _, none⟩) h.lt).trans h2, h3.below hb, h4⟩
end

theorem clone_nil (n c : Nat) (w : World) : Calls Tryd.prog 8 #[.slice none n c] w fun e w' => e = .returned (.slice none 0 0) ∧ w' = w := by
  have hnil := fun w => Lib.run_eql_slice_nil (P := Tryd.prog) w 22 38 none n c 0 0 Tryd.underlying22
  go_enter Tryd.func8, Tryd.ntmps8
  go_wp2
  go_ret
  exact ⟨rfl, rfl⟩

theorem clone_zero (x : Addr) (c : Nat) (w : World) : Calls Tryd.prog 8 #[.slice (some x) 0 c] w fun e w' => e = .returned (.slice (some ⟨w.heap.size, 0, none⟩) 0 0) ∧ w' = w.alloc (.cells (made38 0) 38) := by
  have hmk : ∀ w : World, (Instr.makeSlice 22 (.int .i64 0) (.int .i64 0)).run Tryd.prog w = .ok (.slice (some ⟨w.heap.size, 0, none⟩) 0 0) (w.alloc (.cells (made38 0) 38)) := run_mk22 0 (by omega)
  have hnil := fun w => Lib.run_eql_slice_nil (P := Tryd.prog) w 22 38 (some x) 0 c 0 0 Tryd.underlying22
  go_enter Tryd.func8, Tryd.ntmps8
  go_wp2
  refine wp_loop_rounds 1 ?_
  rw [rounds_succ]
  go_wp2
  go_ret
  exact ⟨rfl, rfl⟩

set_option maxRecDepth 100000 in
set_option maxHeartbeats 4000000 in
theorem clone_some (x : Addr) (n c : Nat) (N : Nat → Int) (L : Nat → List Int) (w : World) (hn : n ≤ 2097152) (h0 : 0 < n) (hz : ∀ i, i < n → (L i).length ≤ 1048576) (hE : Es w (some x) n N L) :
    Calls Tryd.prog 8 #[.slice (some x) n c] w fun e w' => e = .returned (.slice (some ⟨w.heap.size, 0, none⟩) n n) ∧ Below w.heap.size w w' ∧ Rw w' w.heap.size n n 38 N L := by
  have hmk := run_mk22 n hn
  have hnil := fun w => Lib.run_eql_slice_nil (P := Tryd.prog) w 22 38 (some x) n c 0 0 Tryd.underlying22
  have HE := hide hE; have HZ := hide hz; clear hE hz
  go_enter Tryd.func8, Tryd.ntmps8
  go_wp2
  clear hmk hnil
  go_loopw [4] (fun i wr => ∃ (k : Nat), k ≤ n ∧ i = .int .i64 k ∧ Below w.heap.size w wr ∧ Rw wr w.heap.size n k 38 N L) (fun i _ => n - (intOf i).toNat)
  case atStart => exact ⟨0, by omega, rfl, (Below.refl _ _).alloc (Nat.le_refl _) _, Rw.start w (made38 n) (made38_size n)⟩
  case round =>
    obtain ⟨k, hk, rfl, hb, hR⟩ := hrel
    by_cases hlt : k < n
    · obtain ⟨b, off, e, hcl⟩ := (HE.out.below hb).at_ h0
      simp only [Option.some.injEq] at e
      subst e
      obtain ⟨y, m, cc, c0, c1, hin⟩ := hcl k hlt
      have hbl : b < w.heap.size := by
        obtain ⟨b', off', e', hcl'⟩ := HE.out.at_ h0
        simp only [Option.some.injEq, Addr.mk.injEq, and_true] at e'
        obtain ⟨rfl, rfl⟩ := e'
        obtain ⟨_, _, _, q0, _⟩ := hcl' k hlt
        exact cell_lt q0
      clear hcl
      have hzk := HZ.out k hlt
      rw [← hin.len] at hzk
      have hNw := hR.lt
      obtain ⟨o0, o1, x0, x1⟩ := hR.cells k hlt
      have hf := hR.frozen
      generalize hyN : N k = yn at c0
      have HYN := hide hyN; clear hyN
      have HB := hide hb; have HR := hide hR; have HIN := hide hin; clear hb hR hin
      have hk0 : (0 : Int) ≤ (k : Int) := by omega
      have hk1 : (k : Int) < (n : Int) := by omega
      have n0 := World.new_ne wr _ c0
      have n3 := World.new_ne wr _ x0
      have hbN : b ≠ w.heap.size := by omega
      have hNb : w.heap.size ≠ b := by omega
      cases y with
      | none =>
        have hm0 : m = 0 := by
          rcases Nat.eq_zero_or_pos m with h | h
          · exact h
          · obtain ⟨_, _, e, _⟩ := HIN.out.at_ h
            cases e
        subst hm0
        go_wp2_with fail
        go_region_held3 (fun w' => w'.cell? ⟨b, off + k * 2, none⟩ = some (.int .i64 yn) ∧ w'.cell? ⟨b, off + k * 2 + 1, none⟩ = some (.slice none 0 cc))
          (go_keep)
          (first
            | (go_at_call 15; refine (ints_nil _ _ _).mono ?_; rintro e w7 ⟨rfl, hw7⟩; subst hw7))
        go_wp2_with fail
        go_roundw
        case rel => exact ⟨k + 1, by omega, by go_num, (put2_below HB.out (Nat.le_refl _)).drew, HR.out.step hlt HYN.out (m := 0) (Below.refl _ _).drew ⟨HIN.out.len, fun h => absurd h (Nat.lt_irrefl _)⟩ (fun h => absurd h (Nat.lt_irrefl _))⟩
        case measure => simp [intOf]; omega
      | some y =>
        go_wp2_with fail
        go_region_held3 (fun w' => w'.cell? ⟨b, off + k * 2, none⟩ = some (.int .i64 yn) ∧ w'.cell? ⟨b, off + k * 2 + 1, none⟩ = some (.slice (some y) m cc))
          (go_keep)
          (first
            | (go_at_call 15; refine (ints_any y m cc (L k) _ hzk (HIN.out.below (Below.refl _ _).drew)).mono ?_; rintro e w7 ⟨rfl, cur, hw7, hcur⟩; subst hw7))
        go_wp2_with fail
        go_roundw
        case rel =>
          refine ⟨k + 1, by omega, by go_num, ((put2_below HB.out (Nat.le_refl _)).alloc ?_ _).drew, HR.out.step hlt HYN.out ((Below.refl _ _).alloc (by simp [put2_size]) _).drew ⟨HIN.out.len, fun h => ⟨wr.heap.size, 0, rfl, fun j hj => ?_⟩⟩ ?_⟩
          · simp [put2_size]; omega
          · rw [World.cell?_drew, Nat.zero_add]
            have hnew := World.cell?_alloc_new (put2 wr w.heap.size (k * 2) (.int .i64 yn) (.slice (some ⟨wr.heap.size, 0, none⟩) m m)) cur 21 j
            rw [put2_size] at hnew
            rw [← hcur j hj]
            exact hnew
          · rintro _ p e
            simp only [Option.some.injEq] at e
            subst e
            exact n3
        case measure => simp [intOf]; omega
    · obtain rfl : k = n := by omega
      go_wp2
      go_ret
      exact ⟨rfl, hb, hR⟩

/-- zzClone, at every slice of entries. -/
theorem clone8 (a : Option Addr) (n c : Nat) (N : Nat → Int) (L : Nat → List Int) (w : World) (hn : n ≤ 2097152) (hz : ∀ i, i < n → (L i).length ≤ 1048576) (hE : Es w a n N L) :
    Calls Tryd.prog 8 #[.slice a n c] w fun e w' => ∃ a', e = .returned (.slice a' n n) ∧ Below w.heap.size w w' ∧ Es w' a' n N L := by
  by_cases h0 : 0 < n
  · obtain ⟨b, off, rfl, _⟩ := hE.at_ h0
    refine (clone_some _ n c N L w hn h0 hz hE).mono ?_
    rintro e w' ⟨rfl, hb, hR⟩
    exact ⟨_, rfl, hb, hR.es⟩
  · obtain rfl : n = 0 := by omega
    cases a with
    | none =>
      refine (clone_nil 0 c w).mono ?_
      rintro e w' ⟨rfl, rfl⟩
      exact ⟨_, rfl, Below.refl _ _, Es.zero _ _ _ _⟩
    | some x =>
      refine (clone_zero x c w).mono ?_
      rintro e w' ⟨rfl, rfl⟩
      exact ⟨_, rfl, (Below.refl _ _).alloc (Nat.le_refl _) _, Es.zero _ _ _ _⟩

theorem make17 (y : Int) (x : Option Addr) (m c : Nat) (w : World) : Calls Tryd.prog 17 #[.int .i64 y, .slice x m c] w fun e w' => e = .returned (.agg #[.int .i64 y, .slice x m c]) ∧ w' = w.alloc (.cells #[.int .i64 y, .slice x m c] 42) := by
  go_enter Tryd.func17, Tryd.ntmps17
  go_wp2
  exact bodyPost_ret (v := .agg #[.int .i64 y, .slice x m c]) (by simp [results, Tryd.results17, go_sem]) rfl ⟨rfl, rfl⟩

theorem list_nil (n c : Nat) (w : World) : Calls Tryd.prog 10 #[.slice none n c] w fun e w' => e = .returned (.slice none 0 0) ∧ w' = w := by
  have hnil := fun w => Lib.run_eql_slice_nil (P := Tryd.prog) w 22 38 none n c 0 0 Tryd.underlying22
  go_enter Tryd.func10, Tryd.ntmps10
  go_wp2
  go_ret
  exact ⟨rfl, rfl⟩

theorem list_zero (x : Addr) (c : Nat) (w : World) : Calls Tryd.prog 10 #[.slice (some x) 0 c] w fun e w' => e = .returned (.slice (some ⟨w.heap.size, 0, none⟩) 0 0) ∧ w' = w.alloc (.cells (made38 0) 42) := by
  have hmk : ∀ w : World, (Instr.makeSlice 29 (.int .i64 0) (.int .i64 0)).run Tryd.prog w = .ok (.slice (some ⟨w.heap.size, 0, none⟩) 0 0) (w.alloc (.cells (made38 0) 42)) := run_mk29 0 (by omega)
  have hnil := fun w => Lib.run_eql_slice_nil (P := Tryd.prog) w 22 38 (some x) 0 c 0 0 Tryd.underlying22
  go_enter Tryd.func10, Tryd.ntmps10
  go_wp2
  refine wp_loop_rounds 1 ?_
  rw [rounds_succ]
  go_wp2
  go_ret
  exact ⟨rfl, rfl⟩

set_option maxRecDepth 100000 in
set_option maxHeartbeats 4000000 in
theorem list_some (x : Addr) (n c : Nat) (N : Nat → Int) (L : Nat → List Int) (w : World) (hn : n ≤ 2097152) (h0 : 0 < n) (hE : Es w (some x) n N L) :
    Calls Tryd.prog 10 #[.slice (some x) n c] w fun e w' => e = .returned (.slice (some ⟨w.heap.size, 0, none⟩) n n) ∧ Below w.heap.size w w' ∧ Rw w' w.heap.size n n 42 N L := by
  have hmk := run_mk29 n hn
  have hnil := fun w => Lib.run_eql_slice_nil (P := Tryd.prog) w 22 38 (some x) n c 0 0 Tryd.underlying22
  have HE := hide hE; clear hE
  go_enter Tryd.func10, Tryd.ntmps10
  go_wp2
  clear hmk hnil
  go_loopw [4] (fun i wr => ∃ (k : Nat), k ≤ n ∧ i = .int .i64 k ∧ Below w.heap.size w wr ∧ Rw wr w.heap.size n k 42 N L) (fun i _ => n - (intOf i).toNat)
  case atStart => exact ⟨0, by omega, rfl, (Below.refl _ _).alloc (Nat.le_refl _) _, Rw.start w (made38 n) (made38_size n)⟩
  case round =>
    obtain ⟨k, hk, rfl, hb, hR⟩ := hrel
    by_cases hlt : k < n
    · obtain ⟨b, off, e, hcl⟩ := HE.out.at_ h0
      simp only [Option.some.injEq] at e
      subst e
      obtain ⟨y, m, cc, d0, d1, hin⟩ := hcl k hlt
      have hbl := cell_lt d0
      simp only at hbl
      have c0 := (hb.cell (p := ⟨b, _, none⟩) hbl).trans d0
      have c1 := (hb.cell (p := ⟨b, _, none⟩) hbl).trans d1
      have hfar : 0 < m → ∀ p, y = some p → p.block ≠ w.heap.size := fun hm p e => by
        obtain ⟨b', off', e', hc'⟩ := hin.at_ hm
        rw [e'] at e
        simp only [Option.some.injEq] at e
        subst e
        have := cell_lt (hc' 0 hm)
        simp only at this ⊢
        omega
      have hin' := hin.below hb
      clear hcl d0 d1 hin
      have hNw := hR.lt
      obtain ⟨o0, o1, x0, x1⟩ := hR.cells k hlt
      have hf := hR.frozen
      generalize hyN : N k = yn at c0
      have HYN := hide hyN; clear hyN
      have HB := hide hb; have HR := hide hR; have HIN := hide hin'; have HFAR := hide hfar; clear hb hR hin' hfar
      have hk0 : (0 : Int) ≤ (k : Int) := by omega
      have hk1 : (k : Int) < (n : Int) := by omega
      have n0 := World.new_ne wr _ c0
      have n3 := World.new_ne wr _ x0
      have hbN : b ≠ w.heap.size := by omega
      have hNb : w.heap.size ≠ b := by omega
      go_wp2_with fail
      go_region_held3 (fun w' => w'.cell? ⟨b, off + k * 2, none⟩ = some (.int .i64 yn) ∧ w'.cell? ⟨b, off + k * 2 + 1, none⟩ = some (.slice y m cc))
        (go_keep)
        (first
          | (go_at_call 17; refine (make17 _ _ _ _ _).mono ?_; rintro e w7 ⟨rfl, hw7⟩; subst hw7))
      go_wp2_with fail
      go_roundw
      case rel =>
        refine ⟨k + 1, by omega, by go_num, ((put2_below HB.out (Nat.le_refl _)).alloc ?_ _).drew, HR.out.step hlt HYN.out ((Below.refl _ _).alloc (by simp [put2_size]) _).drew ?_ HFAR.out⟩
        · simp [put2_size]; omega
        · refine HIN.out.move HFAR.out fun b' q hb' hN' => ?_
          rw [World.cell?_drew]
          exact (World.cell?_alloc_lt _ _ _ (by simpa [put2_size] using hb')).trans (put2_other _ _ _ _ _ hN' q)
      case measure => simp [intOf]; omega
    · obtain rfl : k = n := by omega
      go_wp2
      go_ret
      exact ⟨rfl, hb, hR⟩

/-- zzToList, at every slice of entries. -/
theorem list10 (a : Option Addr) (n c : Nat) (N : Nat → Int) (L : Nat → List Int) (w : World) (hn : n ≤ 2097152) (hE : Es w a n N L) :
    Calls Tryd.prog 10 #[.slice a n c] w fun e w' => ∃ a', e = .returned (.slice a' n n) ∧ Below w.heap.size w w' ∧ Es w' a' n N L := by
  by_cases h0 : 0 < n
  · obtain ⟨b, off, rfl, _⟩ := hE.at_ h0
    refine (list_some _ n c N L w hn h0 hE).mono ?_
    rintro e w' ⟨rfl, hb, hR⟩
    exact ⟨_, rfl, hb, hR.es⟩
  · obtain rfl : n = 0 := by omega
    cases a with
    | none =>
      refine (list_nil 0 c w).mono ?_
      rintro e w' ⟨rfl, rfl⟩
      exact ⟨_, rfl, Below.refl _ _, Es.zero _ _ _ _⟩
    | some x =>
      refine (list_zero x c w).mono ?_
      rintro e w' ⟨rfl, rfl⟩
      exact ⟨_, rfl, (Below.refl _ _).alloc (Nat.le_refl _) _, Es.zero _ _ _ _⟩
end Go.Proofs.Qxb6629270aDoor
