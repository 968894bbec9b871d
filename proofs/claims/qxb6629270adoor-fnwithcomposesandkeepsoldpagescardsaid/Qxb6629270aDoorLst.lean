/-
  WHAT THE WALK OF (*listPage).with LEANS ON: the new page, the array of words, the row of lists as it fills.
-/
import Derived.Test.Qxb6629270aDoorLaw
import Derived.Test.Qxb6629270aDoorCount
import Derived.Test.Qxb6629270aDoorSets
namespace Go.Proofs.Qxb6629270aDoor
open Go.RowKit
set_option linter.unusedVariables false
attribute [local go_sem ↓] Go.wp_at_zero Go.wp_at_succ
def zc : Array Value := Array.replicate 64 (.int .u64 0) ++ Array.replicate 64 (.int .i32 0) ++ #[.slice none 0 0]
theorem info51 : (Tryd.prog.info? 51).map (fun i => (i.zero, i.size, i.bytes)) = some (some (.agg zc), 129, 792) := by kernel_rfl
theorem info48 : (Tryd.prog.info? 48).map (fun i => i.size) = some 64 := by kernel_rfl
theorem zero51 (w : World) : Sem.run Tryd.prog (zeroValue 51) w = .ok (.agg zc) w := by
  obtain ⟨i0, hi0, hz0, hz1, hz2⟩ := info_parts info51
  simp [zeroValue, typeInfo, hi0, hz0]
theorem box51 (w : World) : (Instr.box 51 (.agg zc)).run Tryd.prog w = .ok (.pointer (some ⟨w.heap.size, 0, none⟩)) (w.alloc (.cells zc 51)) := by
  simp [go_sem, Instr.box, newVar, newRow, Value.cells]
theorem zc_pg (w : World) : Blk (w.alloc (.cells zc 51)) w.heap.size 129 51 (pg (fun _ => 0) (fun _ => 0) (.slice none 0 0)) := by
  have hs : zc.size = 129 := by simp [zc]
  have h := Blk.new w zc 51
  rw [hs] at h
  refine h.fn fun i hi => ?_
  rw [Array.getD_eq_getD_getElem?]
  by_cases h1 : i < 64
  · simp [zc, pg, h1, Array.getElem?_append]
  · by_cases h2 : i < 128
    · simp [zc, pg, h1, h2, Array.getElem?_append, Array.getElem?_push, show i - 64 ≠ 64 from by omega, show i - 64 < 64 from by omega]
    · obtain rfl : i = 128 := by omega
      simp [zc, pg, Array.getElem_push]

/-- The words, as an array's value. -/
def wordsA (ws : Nat → Nat) : List Value := (List.range 64).map fun v => .int .u64 (ws v)
theorem wordsA_get (ws : Nat → Nat) (v : Nat) (hv : v < 64) : (wordsA ws)[v]? = some (.int .u64 (ws v)) := by simp [wordsA, hv]
theorem index48 (ws : Nat → Nat) (v : Nat) (hv : v < 64) (w : World) : (Instr.index 48 (.agg (wordsA ws).toArray) (.int .i64 v)).run Tryd.prog w = .ok (.int .u64 (ws v)) w := by
  have h := wordsA_get ws v hv
  simp [Instr.index, go_sem, run_underlying Tryd.underlying48, hv, h]
theorem range48 {w : World} {r : Nat} {ws bf : Nat → Nat} {lv : Value} (h : Blk w r 129 51 (pg ws bf lv)) : w.rangeAt r 0 (wordsA ws) := fun j v hv => by
  have hj : j < 64 := by
    have := (List.getElem?_eq_some_iff.1 hv).1
    simpa [wordsA] using this
  rw [wordsA_get ws j hj] at hv
  rw [Nat.zero_add, pg_word h j hj, hv]
theorem size48 (ws : Nat → Nat) : (Tryd.prog.info? 48).map (·.size) = some (wordsA ws).length := by rw [info48]; simp [wordsA]

/-- The length of a slice's value. -/
def slen : Value → Nat
  | .slice _ n _ => n
  | _ => 0

/-- The address behind changed[1:]. -/
def cutAt (a : Option Addr) (c : Nat) : Option Addr := if c = 1 then a else a.map (·.add 2)
theorem elem29 : Tryd.prog.elem 29 = 42 := by kernel_rfl
theorem run_cut (a : Option Addr) (n c : Nat) (hk : 1 ≤ n) (w : World) : (Instr.slice 29 (.slice a n c) (some (.int .i64 1)) none none).run Tryd.prog w = .ok (.slice (cutAt a c) (n - 1) (c - 1)) w := by
  rw [run_slice_l w 29 a n c (by kernel_rfl) .i64 1 (by omega) (by omega), elem29, Tryd.sizeOf42]
  simp [Result.andThen, sliced, cutAt]
theorem Es.cut {w : World} {a : Option Addr} {n c : Nat} {N : Nat → Int} {L : Nat → List Int} (h : Es w a n N L) (hn : 1 ≤ n) (hc : n ≤ c) : Es w (cutAt a c) (n - 1) (fun i => N (1 + i)) (fun i => L (1 + i)) := by
  refine ⟨fun h0 => ?_⟩
  obtain ⟨b, off, rfl, hcl⟩ := h.at_ (by omega)
  refine ⟨b, off + 2, ?_, fun i hi => ?_⟩
  · unfold cutAt
    rw [if_neg (by omega)]
    simp [Addr.add]
  · obtain ⟨x, m, cc, h1, h2, h3⟩ := hcl (1 + i) (by omega)
    refine ⟨x, m, cc, ?_, ?_, h3⟩
    · rw [show off + 2 + i * 2 = off + (1 + i) * 2 from by omega]; exact h1
    · rw [show off + 2 + i * 2 + 1 = off + (1 + i) * 2 + 1 from by omega]; exact h2

/-- How far the row of lists has come: the numbers below T are in it. -/
structure Lst (w wr : World) (r lb R T : Nat) (ws : Nat → Nat) (G : Nat → List Int) : Prop where
  bel : Below r w wr
  page : Blk wr r 129 51 (pg ws (fun v => cnt (bit ws) (64 * v)) (.slice (some ⟨lb, 0, none⟩) (cnt (bit ws) T) R))
  row : ∃ f, Blk wr lb R 36 f ∧ ∀ i, i < T → bit ws i = true → ∃ x m c, f (cnt (bit ws) i) = .slice x m c ∧ In w x m (G i)

theorem Lst.mono {w wr : World} {r lb R T : Nat} {ws : Nat → Nat} {G : Nat → List Int} (h : Lst w wr r lb R T ws G) {T' : Nat} (hT : T ≤ T') (hz : ∀ i, T ≤ i → i < T' → bit ws i = false) : Lst w wr r lb R T' ws G where
  bel := h.bel
  page := by rw [cnt_flat (bit ws) hT hz]; exact h.page
  row := let ⟨f, h1, h2⟩ := h.row; ⟨f, h1, fun i hi hb => by
    by_cases e : i < T
    · exact h2 i e hb
    · rw [hz i (by omega) hi] at hb; cases hb⟩

theorem Lst.step {w wr W : World} {r lb R i : Nat} {ws : Nat → Nat} {G : Nat → List Int} (h : Lst w wr r lb R i ws G) (hi : bit ws i = true) {x : Option Addr} {m c : Nat} (hin : In w x m (G i)) (hbel : Below r wr W)
    (hp : ∀ lv, Blk wr r 129 51 (pg ws (fun v => cnt (bit ws) (64 * v)) lv) → Blk W r 129 51 (pg ws (fun v => cnt (bit ws) (64 * v)) (.slice (some ⟨lb, 0, none⟩) (cnt (bit ws) i + 1) R)))
    (hr : ∀ f, Blk wr lb R 36 f → Blk W lb R 36 (upd f (cnt (bit ws) i) (.slice x m c))) : Lst w W r lb R (i + 1) ws G where
  bel := h.bel.trans hbel
  page := by
    rw [cnt_succ, hi, if_pos rfl]
    exact hp _ h.page
  row := by
    obtain ⟨f, h1, h2⟩ := h.row
    refine ⟨_, hr f h1, fun j hj hb => ?_⟩
    rcases Nat.lt_succ_iff_lt_or_eq.1 hj with hji | rfl
    · obtain ⟨x', m', c', e, h3⟩ := h2 j hji hb
      have := cnt_lt (bit ws) hji hb
      exact ⟨x', m', c', by rw [upd_other _ _ (by omega)]; exact e, h3⟩
    · exact ⟨x, m, c, by rw [upd_same], hin⟩

theorem Lst.fin {w wr : World} {r lb : Nat} {ws : Nat → Nat} {G : Nat → List Int} (h : Lst w wr r lb (cnt (bit ws) 4096) 4096 ws G) (hw : r = w.heap.size) (hM : Marks ws G) : Page wr r ws G where
  blk := by
    subst hw
    refine ⟨lb, _, h.page, fun i hi hb => ?_⟩
    obtain ⟨f, h1, h2⟩ := h.row
    obtain ⟨x, m, c, e, h3⟩ := h2 i hi hb
    exact ⟨x, m, c, by rw [h1.cell _ (cnt_lt _ hi hb), e], h3.below h.bel⟩
  small := hM.small
  bits := hM.bits

/-- The words of another page, stored into the new page. -/
theorem pg_stored {w : World} {r : Nat} {lv : Value} (ws bf ws1 : Nat → Nat) (h : Blk w r 129 51 (pg ws bf lv)) : Blk (w.setCells r 0 (wordsA ws1)) r 129 51 (pg ws1 bf lv) := by
  refine (h.sets (wordsA ws1) 0).fn fun i hi => ?_
  rw [updList_at, if_pos (Nat.zero_le _), Nat.sub_zero]
  by_cases h1 : i < 64
  · rw [wordsA_get ws1 i h1]
    simp [pg, h1]
  · have : (wordsA ws1)[i]? = none := by
      rw [List.getElem?_eq_none_iff]
      simp [wordsA]
      omega
    rw [this]
    simp [pg, h1]
theorem there48 {w : World} {r : Nat} {f : Nat → Value} (h : Blk w r 129 51 f) (ws : Nat → Nat) : w.there r 0 (wordsA ws).toArray.size := fun j hj => by
  have hj64 : j < 64 := by simpa [wordsA] using hj
  rw [Nat.zero_add]
  exact ⟨by rw [h.cell j (by omega)]; rfl, h.frozen j⟩
theorem size48a (ws : Nat → Nat) : (Tryd.prog.info? 48).map (·.size) = some (wordsA ws).toArray.size := by rw [info48]; simp [wordsA]
theorem one48 (ws : Nat → Nat) : (wordsA ws).toArray.all (·.oneCell') = true := all_oneCell_toArray fun v hv => by
  simp only [wordsA, List.mem_map] at hv
  obtain ⟨k, _, rfl⟩ := hv
  rfl
theorem wpList_store48 {ops : Array Oper} {rest : List Oper} {op : Oper} {a : Act} {w : World} {Q : Exit → Act → World → Prop} (hgd : op.guard = none) (x y : Operand) (ho : op.op = .store 48 x y) (N : Nat) (ws ws1 bf : Nat → Nat) (lv : Value)
    (hx : a.eval x = .pointer (some ⟨N, 0, none⟩)) (hy : a.eval y = .agg (wordsA ws1).toArray) (hB : Blk w N 129 51 (pg ws bf lv))
    (h : ∀ W, Blk W N 129 51 (pg ws1 bf lv) → Below N w W → wpList Tryd.prog ops Q rest (a.put op.dst undef) W) : wpList Tryd.prog ops Q (op :: rest) a w :=
  wpList_store_mid hgd 48 x y ho N 0 (wordsA ws1).toArray hx hy (there48 hB ws1) (size48a ws1) (one48 ws1) (h _ (pg_stored ws bf ws1 hB) (below_sets (Nat.le_refl _) _ _ (Below.refl _ _)))

/-- (*listPage).of, in a later world: the list that the page bore when it was made. -/
theorem of23w {w : World} {r : Nat} {ws : Nat → Nat} {g : Nat → List Int} (h : Page w r ws g) (i : Nat) (hi : i < 4096) :
    ∃ x m c, In w x m (g i) ∧ ∀ W, Below w.heap.size w W → ∀ q, Calls Tryd.prog 23 #[.pointer (some ⟨r, 0, none⟩), .int .i64 i] (W.drewN q) fun e w' => e = .returned (.slice x m c) ∧ ∃ k, w' = W.drewN k := by
  obtain ⟨lb, cap, hb, hl⟩ := h.blk
  have hv : i / 64 < 64 := by omega
  have ht : i % 64 < 64 := by omega
  have hX := h.small (i / 64) hv
  have hY := pow_lt64 ht
  have hY0 : 0 < 2 ^ (i % 64) := Nat.two_pow_pos _
  have c0 : w.cell? ⟨r, i / 64, none⟩ = some (.int .u64 (ws (i / 64))) := by
    rw [hb.cell _ (by omega)]; simp [pg, hv]
  have c1 : w.cell? ⟨r, 64 + i / 64, none⟩ = some (.int .i32 (cnt (bit ws) (64 * (i / 64)))) := by
    rw [hb.cell _ (by omega)]; simp only [pg]; rw [if_neg (by omega), if_pos (by omega), Nat.add_sub_cancel_left]
  have c2 : w.cell? ⟨r, 128, none⟩ = some (.slice (some ⟨lb, 0, none⟩) (cnt (bit ws) 4096) cap) := by
    rw [hb.cell _ (by omega)]; simp [pg]
  have hand := and_pow (ws (i / 64)) (i % 64)
  have hb1 := u64_and_nat (ws (i / 64)) (2 ^ (i % 64)) hX hY
  by_cases hbit : bit ws i = true
  · obtain ⟨x, m, c, c3, hin⟩ := hl i hi hbit
    refine ⟨x, m, c, hin, fun W hbW q => ?_⟩
    replace c0 := (hbW.cell (p := ⟨r, _, none⟩) (cell_lt c0)).trans c0
    replace c1 := (hbW.cell (p := ⟨r, _, none⟩) (cell_lt c1)).trans c1
    replace c2 := (hbW.cell (p := ⟨r, _, none⟩) (cell_lt c2)).trans c2
    replace c3 := (hbW.cell (p := ⟨lb, _, none⟩) (cell_lt c3)).trans c3
    have hb2 := u64_and_nat (ws (i / 64)) (2 ^ (i % 64) - 1) hX (by omega)
    have hZ : ws (i / 64) &&& (2 ^ (i % 64) - 1) ≤ ws (i / 64) := Nat.and_le_left
    have hcq : cnt (ws (i / 64) &&& (2 ^ (i % 64) - 1)).testBit 64 = cnt (ws (i / 64)).testBit (i % 64) := by
      rw [← cnt_cut (ws (i / 64)).testBit (i % 64) 64 (by omega)]
      exact cnt_congr fun j _ => low_bits _ _ _
    have hrank : cnt (bit ws) i = cnt (bit ws) (64 * (i / 64)) + cnt (ws (i / 64)).testBit (i % 64) := by
      have := cnt_word ws (i / 64) (i % 64) (by omega)
      rwa [Nat.div_add_mod] at this
    have hlt : cnt (bit ws) i < cnt (bit ws) 4096 := cnt_lt _ hi hbit
    have hle : cnt (bit ws) 4096 ≤ 4096 := cnt_le _ _
    have hle2 : cnt (bit ws) (64 * (i / 64)) ≤ 64 * (i / 64) := cnt_le _ _
    rw [hrank] at c3 hlt
    refine (of_raw r lb i (i / 64) (i % 64) (ws (i / 64)) (cnt (bit ws) (64 * (i / 64))) cap (cnt (bit ws) 4096) (2 ^ (i % 64)) (cnt (ws (i / 64)).testBit (i % 64)) x m c (W.drewN q) hv (by omega) (by omega) (by omega)
      (shl_wrap ht) ?_ _ _ hb1 hb2 ?_ c0 c1 c2 (by omega) (by omega) hcq hlt hle c3).mono ?_
    · rw [IntKind.wrap_u64]
      generalize 2 ^ (i % 64) = Y at *
      omega
    · rw [hand]
      unfold bit at hbit
      rw [hbit]
      generalize 2 ^ (i % 64) = Y at *
      simp
      omega
    · rintro e w' ⟨rfl, k, rfl⟩
      exact ⟨rfl, _, World.drewN_drewN _ _ _⟩
  · have hg : g i = [] := by
      by_cases hg : g i = []
      · exact hg
      · exact absurd ((h.bits i hi).2 hg) hbit
    rw [hg]
    refine ⟨none, 0, 0, ⟨rfl, fun h => absurd h (Nat.lt_irrefl _)⟩, fun W hbW q => ?_⟩
    replace c0 := (hbW.cell (p := ⟨r, _, none⟩) (cell_lt c0)).trans c0
    refine (of_none r i (i / 64) (i % 64) (ws (i / 64)) (2 ^ (i % 64)) (W.drewN q) hv (by omega) (by omega) (by omega) (shl_wrap ht) ?_ c0).mono ?_
    · rw [hb1, hand]
      unfold bit at hbit
      simp [hbit]
    · rintro e w' ⟨rfl, k, rfl⟩
      exact ⟨rfl, _, World.drewN_drewN _ _ _⟩
end Go.Proofs.Qxb6629270aDoor
