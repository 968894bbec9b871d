/-
  THE WALK over zzMerge.
-/
import Derived.Test.Qxb6629270aDoorJoin
import Derived.ArgAppend
import Derived.Test.Qxb6629270aDoorCopy
import Derived.Test.Qxb6629270aDoorCount
import Derived.Deep.QuietTactic
import Derived.BigQuiet
namespace Go.Proofs.Qxb6629270aDoor
open Go.RowKit
set_option linter.unusedVariables false
attribute [local go_sem ↓] Go.wp_at_zero Go.wp_at_succ

theorem Rw.congr {w : World} {N n k : Nat} {T : TypeId} {Nn Nn' : Nat → Int} {L L' : Nat → List Int} (h : Rw w N n k T Nn L) (e1 : ∀ i, i < k → Nn' i = Nn i) (e2 : ∀ i, i < k → L' i = L i) : Rw w N n k T Nn' L' where
  blk := h.blk
  els := fun i hi => by rw [e1 i hi, e2 i hi]; exact h.els i hi

theorem Rw.push {w W : World} {N n k : Nat} {T : TypeId} {M : Nat → Int} {K : Nat → List Int} (h : Rw w N n k T M K) (hk : k < n) {y : Int} {l : List Int} {x : Option Addr} {m c : Nat} (hW : Below w.heap.size (put2 w N (k * 2) (.int .i64 y) (.slice x m c)) W) (hin : In W x m l) (hf : 0 < m → ∀ p, x = some p → p.block ≠ N) : Rw W N n (k + 1) T (updI M k y) (updL K k l) :=
  (h.congr (fun i hi => updI_other M y (by omega)) (fun i hi => updL_other K l (by omega))).step hk (updI_same M k y) hW (by rw [updL_same]; exact hin) hf

/-- A list of what came in lies apart from the call's own row. -/
theorem In.far {w : World} {x : Option Addr} {m : Nat} {l : List Int} (h : In w x m l) : 0 < m → ∀ p, x = some p → p.block ≠ w.heap.size := fun hm p e => by
  obtain ⟨b', off', e', hc'⟩ := h.at_ hm
  rw [e'] at e
  simp only [Option.some.injEq] at e
  subst e
  have := cell_lt (hc' 0 hm)
  simp only at this ⊢
  omega

/-- append within the room of the call's own row. -/
theorem wpList_push22 {ops : Array Oper} {rest : List Oper} {o : Oper} {a : Act} {Q : Exit → Act → World → Prop} (W : World) (hg : o.guard = none) (s x : Operand) (hop : o.op = Op.call { callee := Callee.builtin Builtin.append, args := #[s, x], argTypes := #[22, 22] })
    (N q R g : Nat) (y : Int) (xa : Option Addr) (l xc : Nat) (M : Nat → Int) (K : Nat → List Int) (hs : a.eval s = .slice (some ⟨N, 0, none⟩) q R) (hx : a.eval x = .slice (some ⟨g, 0, none⟩) 1 1) (hgW : g = W.heap.size) (hR : Rw W N R q 38 M K) (hq : q < R)
    (h : wpList Tryd.prog ops Q rest (a.put o.dst (.slice (some ⟨N, 0, none⟩) (q + 1) R)) (put2 (W.alloc (.cells #[.int .i64 y, .slice xa l xc] 38)) N (q * 2) (.int .i64 y) (.slice xa l xc))) :
    wpList Tryd.prog ops Q (o :: rest) a (W.alloc (.cells #[.int .i64 y, .slice xa l xc] 38)) := by
  refine wpList_plain hg fun K hK' => ?_
  subst hgW
  obtain ⟨i0, hi0, hz0, hz1, hz2⟩ := info_parts info38
  have hR2 := hR.below ((Below.refl _ _).alloc (Nat.le_refl _) (.cells #[.int .i64 y, .slice xa l xc] 38))
  obtain ⟨o0, o1, x0, x1⟩ := hR2.cells q hq
  have hf := hR2.frozen
  have hrun := run_append_room_cells (P := Tryd.prog) (W.alloc (.cells #[.int .i64 y, .slice xa l xc] 38)) 22 o.type 38 i0 Tryd.underlying22 hi0 N 0 q R ⟨W.heap.size, 0, none⟩ 1 1 [.int .i64 y, .slice xa l xc] (by rw [hz1]; rfl)
    (fun j u hu => by
      have hn := World.cell?_alloc_new W #[.int .i64 y, .slice xa l xc] 38 j
      rw [Addr.add_lit, Nat.zero_add, hn, ← hu]
      simp)
    (fun u hu => by
      simp only [List.mem_cons, List.not_mem_nil, or_false] at hu
      rcases hu with rfl | rfl <;> rfl)
    (by omega)
    (fun j hj => by
      rw [hz1, Nat.zero_add]
      simp only [List.length_cons, List.length_nil] at hj
      rcases (show j = 0 ∨ j = 1 by omega) with rfl | rfl
      · rw [Nat.add_zero, x0]; rfl
      · rw [x1]; rfl)
    (fun j hj => by rw [hz1]; exact hf _)
  rw [hz1, Nat.zero_add] at hrun
  unfold Oper.wp
  simp [execOp, hop, resolve, invoke, builtin, hs, hx, hrun, Result.andThen]
  exact hK' _ _ h

theorem Rw.far {W : World} {N n k : Nat} {T : TypeId} {M : Nat → Int} {K : Nat → List Int} (h : Rw W N n k T M K) (hk : k < n) {w : World} (hw : Below w.heap.size w W) (hN : N = w.heap.size) {y : Int} {l : List Int} {x : Option Addr} {m c : Nat} (o : Obj) (hin : In w x m l) :
    Rw (put2 (W.alloc o) N (k * 2) (.int .i64 y) (.slice x m c)) N n (k + 1) T (updI M k y) (updL K k l) ∧ Below w.heap.size w (put2 (W.alloc o) N (k * 2) (.int .i64 y) (.slice x m c)) := by
  subst hN
  have h2 := h.below ((Below.refl _ _).alloc (Nat.le_refl _) o)
  have hw2 := hw.alloc hw.size o
  have hw3 : Below w.heap.size w (put2 (W.alloc o) w.heap.size (k * 2) (.int .i64 y) (.slice x m c)) := put2_below hw2 (Nat.le_refl _)
  exact ⟨h2.push hk (Below.refl _ _) (hin.below hw3) hin.far, hw3⟩

set_option maxRecDepth 100000 in
set_option maxHeartbeats 8000000 in
theorem merge14 (first : Int) (b c : Option Addr) (n cb m cc : Nat) (N N' : Nat → Int) (L L' : Nat → List Int) (w : World) (hn : n ≤ 4096) (hm : m ≤ 4096) (hB : Es w b n N L) (hC : Es w c m N' L') (rB : Rise first n N) (rC : Rise first m N') :
    Calls Tryd.prog 14 #[.slice b n cb, .slice c m cc] w fun e w' => ∃ a' q M K, e = .returned (.slice a' q (n + m)) ∧ Below w.heap.size w w' ∧ Es w' a' q M K ∧ Jn first n m N N' L L' n m q M K := by
  have hmk := run_mk22c (n + m) (by omega)
  have hnm : IntKind.i64.wrap ((n : Int) + (m : Int)) = ((n + m : Nat) : Int) := by rw [wrapi64 _ (by omega) (by omega)]; omega
  generalize hR0 : n + m = R at *
  have HR0 := hide hR0; clear hR0
  have HB := hide hB; have HC := hide hC; have RB := hide rB; have RC := hide rC; clear hB hC rB rC
  go_enter Tryd.func14, Tryd.ntmps14
  go_wp2_with fail
  clear hmk hnm
  go_loopw [5, 6, 7] (fun s i j wr => ∃ (ni nj q : Nat) (M : Nat → Int) (K : Nat → List Int), ni ≤ n ∧ nj ≤ m ∧ i = .int .i64 ni ∧ j = .int .i64 nj ∧ s = .slice (some ⟨w.heap.size, 0, none⟩) q R ∧ Below w.heap.size w wr ∧ Rw wr w.heap.size R q 38 M K ∧ Jn first n m N N' L L' ni nj q M K) (fun _ i j _ => R - (intOf i).toNat - (intOf j).toNat)
  case atStart => exact ⟨0, 0, 0, fun _ => 0, fun _ => [], by omega, by omega, rfl, rfl, rfl, (Below.refl _ _).alloc (Nat.le_refl _) _, Rw.start w (made38 R) (made38_size R), Jn.start⟩
  case round =>
    obtain ⟨i, j, q, M, K, hi, hj, rfl, rfl, rfl, hb, hR, hJ⟩ := hrel
    have hb0 : i < n ∨ i = n := by omega
    have hc0 : j < m ∨ j = m := by omega
    have hqQ : i < n ∨ j < m → q < R := by have := hJ.len; have := HR0.out; omega
    have HJ := hide hJ; have HR := hide hR; have Hb := hide hb
    clear hJ hR hb
    have hi0 : (0 : Int) ≤ (i : Int) := by omega
    have hj0 : (0 : Int) ≤ (j : Int) := by omega
    by_cases hlt : i < n
    · obtain ⟨b1, off, rfl, hcl⟩ := HB.out.at_ (by omega)
      obtain ⟨x, l, xc, d0, d1, hin⟩ := hcl i hlt
      have hbl := cell_lt d0
      simp only at hbl
      have c0 := (Hb.out.cell (p := ⟨b1, _, none⟩) hbl).trans d0
      have c1 := (Hb.out.cell (p := ⟨b1, _, none⟩) hbl).trans d1
      have hi1 : (i : Int) < (n : Int) := by omega
      have hqR := hqQ (.inl hlt)
      generalize hy : N i = y at c0
      have HY := hide hy; have HIN := hide hin
      clear hy hin hcl d0 d1
      by_cases hlt2 : j < m
      · obtain ⟨b2, off2, rfl, hcl⟩ := HC.out.at_ (by omega)
        obtain ⟨x', l', xc', d0, d1, hin⟩ := hcl j hlt2
        have hbl2 := cell_lt d0
        simp only at hbl2
        have e0 := (Hb.out.cell (p := ⟨b2, _, none⟩) hbl2).trans d0
        have e1 := (Hb.out.cell (p := ⟨b2, _, none⟩) hbl2).trans d1
        have hj1 : (j : Int) < (m : Int) := by omega
        generalize hy' : N' j = y' at e0
        have HY' := hide hy'; have HIN' := hide hin
        clear hy' hin hcl d0 d1
        by_cases hyy : y < y'
        · have hd : decide (y < y') = true := by simpa using hyy
          go_wp2_with fail
          go_quiet (fail)
          go_wp2_with (first | (at_builtin; refine wpList_push22 (wr.drewN _) rfl (.tmp 47) (.tmp 52) rfl w.heap.size q R wr.heap.size y x l xc M K rfl rfl rfl (HR.out.below (below_drewN (Below.refl _ _) _)) hqR ?_))
          go_roundw
          case rel =>
            have hRw := (HR.out.below (below_drewN (Below.refl _ _) nq)).far hqR (below_drewN Hb.out nq) rfl (y := y) (c := xc) (.cells #[.int .i64 y, .slice x l xc] 38) HIN.out
            rw [← HY.out] at hRw ⊢
            exact ⟨i + 1, j, q + 1, _, _, by omega, by omega, by go_num, rfl, rfl, hRw.2, hRw.1, HJ.out.one RB.out hlt fun _ => by rw [HY.out, HY'.out]; exact hyy⟩
          case measure => simp [intOf]; have := HR0.out; omega
        · have hd : decide (y < y') = false := by simpa using hyy
          by_cases hyy2 : y' < y
          · have hd2 : decide (y' < y) = true := by simpa using hyy2
            go_wp2_with fail
            go_quiet (fail)
            go_wp2_with fail
            go_quiet (fail)
            go_wp2_with (first | (at_builtin; refine wpList_push22 _ rfl (.tmp 73) (.tmp 78) rfl w.heap.size q R wr.heap.size y' x' l' xc' M K rfl rfl rfl (HR.out.below ⟨rfl, rfl, rfl, Nat.le_refl _, fun _ _ => rfl⟩) hqR ?_))
            go_roundw
            case rel =>
              have hRw := fun nq => (HR.out.below (below_drewN (Below.refl _ _) nq)).far hqR (below_drewN Hb.out nq) rfl (y := y') (c := xc') (.cells #[.int .i64 y', .slice x' l' xc'] 38) HIN'.out
              rw [← HY'.out] at hRw ⊢
              exact ⟨i, j + 1, q + 1, _, _, by omega, by omega, rfl, by go_num, rfl, (hRw _).2, (hRw _).1, HJ.out.two RC.out hlt2 fun _ => by rw [HY.out, HY'.out]; exact hyy2⟩
            case measure => simp [intOf]; have := HR0.out; omega
          · have hd2 : decide (y' < y) = false := by simpa using hyy2
            go_wp2_with fail
            go_quiet (fail)
            go_wp2_with fail
            go_quiet (fail)
            go_wp2_with (first | (at_builtin; refine wpList_push22 _ rfl (.tmp 82) (.tmp 87) rfl w.heap.size q R wr.heap.size y' x' l' xc' M K rfl rfl rfl (HR.out.below ⟨rfl, rfl, rfl, Nat.le_refl _, fun _ _ => rfl⟩) hqR ?_))
            go_roundw
            case rel =>
              have hRw := fun nq => (HR.out.below (below_drewN (Below.refl _ _) nq)).far hqR (below_drewN Hb.out nq) rfl (y := y') (c := xc') (.cells #[.int .i64 y', .slice x' l' xc'] 38) HIN'.out
              rw [← HY'.out] at hRw ⊢
              exact ⟨i + 1, j + 1, q + 1, _, _, by omega, by omega, by go_num, by go_num, rfl, (hRw _).2, (hRw _).1, HJ.out.both RB.out RC.out hlt hlt2 (by rw [HY.out, HY'.out]; omega)⟩
            case measure => simp [intOf]; have := HR0.out; omega
      · obtain rfl : j = m := by omega
        have hj1 : ¬ ((j : Int) < (j : Int)) := by omega
        go_wp2_with fail
        go_quiet (fail)
        go_wp2_with (first | (at_builtin; refine wpList_push22 (wr.drewN _) rfl (.tmp 47) (.tmp 52) rfl w.heap.size q R wr.heap.size y x l xc M K rfl rfl rfl (HR.out.below (below_drewN (Below.refl _ _) _)) hqR ?_))
        go_roundw
        case rel =>
          have hRw := (HR.out.below (below_drewN (Below.refl _ _) nq)).far hqR (below_drewN Hb.out nq) rfl (y := y) (c := xc) (.cells #[.int .i64 y, .slice x l xc] 38) HIN.out
          rw [← HY.out] at hRw ⊢
          exact ⟨i + 1, j, q + 1, _, _, by omega, by omega, by go_num, rfl, rfl, hRw.2, hRw.1, HJ.out.one RB.out hlt fun h => absurd h (Nat.lt_irrefl _)⟩
        case measure => simp [intOf]; have := HR0.out; omega
    · by_cases hlt2 : j < m
      · obtain ⟨b2, off2, rfl, hcl⟩ := HC.out.at_ (by omega)
        obtain ⟨x', l', xc', d0, d1, hin⟩ := hcl j hlt2
        have hbl2 := cell_lt d0
        simp only at hbl2
        have e0 := (Hb.out.cell (p := ⟨b2, _, none⟩) hbl2).trans d0
        have e1 := (Hb.out.cell (p := ⟨b2, _, none⟩) hbl2).trans d1
        have hj1 : (j : Int) < (m : Int) := by omega
        have hqR := hqQ (.inr hlt2)
        generalize hy' : N' j = y' at e0
        have HY' := hide hy'; have HIN' := hide hin
        clear hy' hin hcl d0 d1
        have hi1 : decide ((i : Int) < (n : Int)) = false := by simp; omega
        have hi2 : decide ((n : Int) ≤ (i : Int)) = true := by simp; omega
        have hi3 : ¬ (i : Int) < (n : Int) := by omega
        have hj2 : decide (m ≤ j) = false := by simp; omega
        have hi4 : decide (i < n) = false := by simp; omega
        have hi5 : decide (n ≤ i) = true := by simp; omega
        have hj3 : ¬ m ≤ j := by omega
        go_wp2_with fail
        go_quiet (fail)
        go_wp2_with fail
        go_quiet (fail)
        go_wp2_with (first | (at_builtin; refine wpList_push22 _ rfl (.tmp 73) (.tmp 78) rfl w.heap.size q R wr.heap.size y' x' l' xc' M K rfl rfl rfl (HR.out.below ⟨rfl, rfl, rfl, Nat.le_refl _, fun _ _ => rfl⟩) hqR ?_))
        go_roundw
        case rel =>
          have hRw := fun nq => (HR.out.below (below_drewN (Below.refl _ _) nq)).far hqR (below_drewN Hb.out nq) rfl (y := y') (c := xc') (.cells #[.int .i64 y', .slice x' l' xc'] 38) HIN'.out
          rw [← HY'.out] at hRw ⊢
          exact ⟨i, j + 1, q + 1, _, _, by omega, by omega, rfl, by go_num, rfl, (hRw _).2, (hRw _).1, HJ.out.two RC.out hlt2 fun h => absurd h hlt⟩
        case measure => simp [intOf]; have := HR0.out; omega
      · obtain rfl : i = n := by omega
        have hi1 : ¬ ((i : Int) < (i : Int)) := by omega
        obtain rfl : j = m := by omega
        have hj1 : ¬ ((j : Int) < (j : Int)) := by omega
        go_wp2_with fail
        go_ret
        exact ⟨_, q, rfl, Hb.out, M, K, HR.out.es, HJ.out⟩
end Go.Proofs.Qxb6629270aDoor
