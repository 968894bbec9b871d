/-
  THE WALKS over zzEq, zzApply, zzModel, ZZof, zzReads.
-/
import Derived.Test.Qxb6629270aDoorLaw
import Derived.Test.Qxb6629270aDoorCount
namespace Go.Proofs.Qxb6629270aDoor
open Go.RowKit
set_option linter.unusedVariables false
attribute [local go_sem ↓] Go.wp_at_zero Go.wp_at_succ

set_option maxRecDepth 100000 in
set_option maxHeartbeats 4000000 in
theorem eq18 (xa ya : Option Addr) (m c c' : Nat) (l : List Int) (w : World) (hm : m ≤ 1048576) (hx : In w xa m l) (hy : In w ya m l) (q : Nat) :
    Calls Tryd.prog 18 #[.slice xa m c, .slice ya m c'] (w.drewN q) fun e w' => e = .returned (.bool true) ∧ ∃ k, w' = w.drewN k := by
  have HX := hide hx; have HY := hide hy; clear hx hy
  go_enter Tryd.func18, Tryd.ntmps18
  go_wp2_with fail
  go_loopw [5] (fun i wr => ∃ (k q : Nat), k ≤ m ∧ i = .int .i64 k ∧ wr = w.drewN q) (fun i _ => m - (intOf i).toNat)
  case atStart => exact ⟨0, q, by omega, rfl, rfl⟩
  case round =>
    obtain ⟨k, q', hk, rfl, rfl⟩ := hrel
    by_cases hlt : k < m
    · obtain ⟨b, off, rfl, hb⟩ := HX.out.at_ (by omega)
      obtain ⟨b', off', rfl, hb'⟩ := HY.out.at_ (by omega)
      have c0 := hb k hlt
      have c1 := hb' k hlt
      clear hb hb'
      generalize l.getD k 0 = x at c0 c1
      have hk0 : (0 : Int) ≤ (k : Int) := by omega
      have hk1 : (k : Int) < (m : Int) := by omega
      go_wp2_with fail
      go_quiet (fail)
      go_wp2_with fail
      go_roundw
      case rel => exact ⟨k + 1, _, by omega, by go_num, rfl⟩
      case measure => simp [intOf]; omega
    · obtain rfl : k = m := by omega
      go_wp2_with fail
      go_ret
      exact ⟨rfl, _, rfl⟩

/-- The table at block M: number i's cell reads the list G i. -/
structure Tbl (w wr : World) (M : Nat) (G : Nat → List Int) : Prop where
  bel : Below M w wr
  row : ∃ f, Blk wr M 4096 36 f ∧ ∀ i, i < 4096 → ∃ x m c, f i = .slice x m c ∧ In w x m (G i)

set_option maxRecDepth 100000 in
set_option maxHeartbeats 4000000 in
theorem apply20 (M : Nat) (first : Int) (a : Option Addr) (n c : Nat) (N : Nat → Int) (L g : Nat → List Int) (w0 w : World) (hn : n ≤ 8192) (hf0 : -9223372036854775808 ≤ first) (hf1 : first ≤ 9223372036854775807) (hM : w0.heap.size ≤ M) (hE : Es w0 a n N L) (hR : Rise first n N) (hT : Tbl w0 w M g) :
    Calls Tryd.prog 20 #[.slice (some ⟨M, 0, none⟩) 4096 4096, .int .i64 first, .slice a n c] w fun e w' => e = .returned (.tuple #[]) ∧ Tbl w0 w' M (app first N L g n) := by
  have HE := hide hE; have HR := hide hR; have HT := hide hT; clear hE hR hT
  go_enter Tryd.func20, Tryd.ntmps20
  go_wp2_with fail
  go_loopw [6] (fun i wr => ∃ (k : Nat), k ≤ n ∧ i = .int .i64 k ∧ Tbl w0 wr M (app first N L g k)) (fun i _ => n - (intOf i).toNat)
  case atStart => exact ⟨0, by omega, rfl, HT.out⟩
  case round =>
    obtain ⟨k, hk, rfl, hT⟩ := hrel
    by_cases hlt : k < n
    · obtain ⟨b, off, rfl, hcl⟩ := HE.out.at_ (by omega)
      obtain ⟨x, m, cc, d0, d1, hin⟩ := hcl k hlt
      have hbl := cell_lt d0
      simp only at hbl
      have c0 := (hT.bel.cell (p := ⟨b, _, none⟩) (show b < M by omega)).trans d0
      have c1 := (hT.bel.cell (p := ⟨b, _, none⟩) (show b < M by omega)).trans d1
      obtain ⟨r1, r2, _⟩ := HR.out k hlt
      obtain ⟨i, hi⟩ : ∃ i : Nat, N k - first = (i : Int) := ⟨(N k - first).toNat, by omega⟩
      have hi4 : i < 4096 := by omega
      have hyk : N k = first + i := by omega
      rw [hyk] at c0
      have q5 : first + (i : Int) - first = (i : Int) := by omega
      have q6 : (0 : Int) ≤ (i : Int) := by omega
      have q7 : (i : Int) < 4096 := by omega
      have q8 : IntKind.i64.wrap (i : Int) = (i : Int) := wrapi64 _ (by omega) (by omega)
      have hk0 : (0 : Int) ≤ (k : Int) := by omega
      have hk1 : (k : Int) < (n : Int) := by omega
      obtain ⟨f, hrow, hels⟩ := hT.row
      have cq := hrow.cell i hi4
      have hf := hrow.frozen
      generalize f i = oq at cq
      have hbM : b ≠ M := by omega
      have hMb : M ≠ b := by omega
      have HB := hide hT.bel; have HROW := hide hrow; have HELS := hide hels; have HI := hide hi; have HIN := hide hin
      clear hT hrow hels hi hin d0 d1 hcl hyk r1 r2
      go_wp2_with fail
      go_region
      go_wp2_with fail
      go_roundw
      case rel =>
        refine ⟨k + 1, by omega, by go_num, (HB.out.setCell (p := ⟨M, i, none⟩) (Nat.le_refl _) _).drew, _, (HROW.out.set i (.slice x m cc)).drew, fun j hj => ?_⟩
        by_cases e : j = i
        · subst e
          exact ⟨x, m, cc, by rw [upd_same], by rw [app, if_pos HI.out]; exact HIN.out⟩
        · obtain ⟨x', m', c', h1, h2⟩ := HELS.out j hj
          exact ⟨x', m', c', by rw [upd_other _ _ e]; exact h1, by rw [app, if_neg (by have := HI.out; omega)]; exact h2⟩
      case measure => simp [intOf]; omega
    · obtain rfl : k = n := by omega
      go_wp2_with fail
      go_end0
      exact ⟨rfl, hT⟩

/-- No list anywhere. -/
def none0 : Nat → List Int := fun _ => []

theorem Tbl.start (w : World) : Tbl w (w.alloc (.cells (made36 4096) 36)) w.heap.size none0 where
  bel := (Below.refl _ _).alloc (Nat.le_refl _) _
  row := by
    have h := Blk.new w (made36 4096) 36
    rw [made36_size] at h
    exact ⟨_, h, fun i hi => ⟨none, 0, 0, made36_get 4096 i hi, ⟨rfl, fun h => absurd h (Nat.lt_irrefl _)⟩⟩⟩

set_option maxRecDepth 100000 in
set_option maxHeartbeats 4000000 in
theorem model12 (first : Int) (a b c : Option Addr) (n m l ca cb cc : Nat) (N N' N'' : Nat → Int) (L L' L'' : Nat → List Int) (w : World) (hn : n ≤ 8192) (hm : m ≤ 8192) (hl : l ≤ 8192) (hf0 : -9223372036854775808 ≤ first) (hf1 : first ≤ 9223372036854775807)
    (hA : Es w a n N L) (hB : Es w b m N' L') (hC : Es w c l N'' L'') (rA : Rise first n N) (rB : Rise first m N') (rC : Rise first l N'') :
    Calls Tryd.prog 12 #[.int .i64 first, .slice a n ca, .slice b m cb, .slice c l cc] w fun e w' => e = .returned (.slice (some ⟨w.heap.size, 0, none⟩) 4096 4096) ∧ Tbl w w' w.heap.size (app first N'' L'' (app first N' L' (app first N L none0 n) m) l) := by
  have hmk : ∀ w : World, (Instr.makeSlice 32 (.int .i64 4096) (.int .i64 4096)).run Tryd.prog w = .ok (.slice (some ⟨w.heap.size, 0, none⟩) 4096 4096) (w.alloc (.cells (made36 4096) 36)) := run_mk32 4096 (by omega)
  have C1 := fun W (h : Tbl w W w.heap.size none0) => hide (apply20 w.heap.size first a n ca N L none0 w W hn hf0 hf1 (Nat.le_refl _) hA rA h)
  have C2 := fun W g (h : Tbl w W w.heap.size g) => hide (apply20 w.heap.size first b m cb N' L' g w W hm hf0 hf1 (Nat.le_refl _) hB rB h)
  have C3 := fun W g (h : Tbl w W w.heap.size g) => hide (apply20 w.heap.size first c l cc N'' L'' g w W hl hf0 hf1 (Nat.le_refl _) hC rC h)
  clear hA hB hC rA rB rC
  go_enter Tryd.func12, Tryd.ntmps12
  go_wp2_with fail
  refine ((C1 _ (Tbl.start w)).out).mono ?_
  rintro e w1 ⟨rfl, h1⟩
  go_wp2_with fail
  refine ((C2 _ _ h1).out).mono ?_
  rintro e w2 ⟨rfl, h2⟩
  go_wp2_with fail
  refine ((C3 _ _ h2).out).mono ?_
  rintro e w3 ⟨rfl, h3⟩
  go_wp2_with fail
  go_ret
  exact ⟨rfl, h3⟩
end Go.Proofs.Qxb6629270aDoor
