/-
  THE WALKS over ZZof, zzReads.
-/
import Derived.Test.Qxb6629270aDoorModel
namespace Go.Proofs.Qxb6629270aDoor
open Go.RowKit
set_option linter.unusedVariables false
attribute [local go_sem ↓] Go.wp_at_zero Go.wp_at_succ

theorem of19 (r i q : Nat) (x : Option Addr) (m c : Nat) (w : World) (h : ∀ q, Calls Tryd.prog 23 #[.pointer (some ⟨r, 0, none⟩), .int .i64 i] (w.drewN q) fun e w' => e = .returned (.slice x m c) ∧ ∃ k, w' = w.drewN k) :
    Calls Tryd.prog 19 #[.pointer (some ⟨r, 0, none⟩), .int .i64 i] (w.drewN q) fun e w' => e = .returned (.slice x m c) ∧ ∃ k, w' = w.drewN k := by
  have H := fun q => hide (h q); clear h
  go_enter Tryd.func19, Tryd.ntmps19
  go_wp2_with fail
  refine ((H q).out).mono ?_
  rintro e w' ⟨rfl, k, rfl⟩
  go_wp2_with fail
  go_ret
  exact ⟨rfl, _, rfl⟩

theorem cnt_ne (g : Nat → List Int) (n : Nat) (h : ∃ i, i < n ∧ g i ≠ []) : cnt (fun i => !(g i).isEmpty) n ≠ 0 := by
  obtain ⟨i, hi, hg⟩ := h
  have := cnt_lt (fun i => !(g i).isEmpty) hi (by simpa using hg)
  omega

set_option maxRecDepth 100000 in
set_option maxHeartbeats 4000000 in
theorem reads11 (p : Option Addr) (M : Nat) (G : Nat → List Int) (w0 w : World) (hM : w0.heap.size ≤ M) (hz : ∀ i, i < 4096 → (G i).length ≤ 1048576) (hO : Opt w G p) (hT : Tbl w0 w M G) :
    Calls Tryd.prog 11 #[.pointer p, .slice (some ⟨M, 0, none⟩) 4096 4096] w fun e w' => e = .returned (.bool true) ∧ ∃ k, w' = w.drewN k := by
  obtain ⟨f, hrow, hels⟩ := hT.row
  have hbel := hT.bel
  have HROW := hide hrow; have HELS := hide hels; have HZ := hide hz; have HO := hide hO; have HBEL := hide hbel; clear hrow hels hz hO hbel hT
  go_enter Tryd.func11, Tryd.ntmps11
  go_wp2_with fail
  go_loop [5, 6] (fun s i => ∃ (k : Nat), k ≤ 4096 ∧ i = .int .i64 k ∧ s = .int .i64 (cnt (fun i => !(G i).isEmpty) k)) (fun _ i => 4096 - (intOf i).toNat)
  case atStart => exact ⟨0, by omega, rfl, rfl⟩
  case round =>
    obtain ⟨k, hk, rfl, rfl⟩ := hrel
    have hle := cnt_le (fun i => !(G i).isEmpty) k
    by_cases hlt : k < 4096
    · obtain ⟨x, m, c, hfx, hin⟩ := HELS.out k hlt
      have c0 := HROW.out.cell k hlt
      rw [hfx] at c0
      have hml := hin.len
      have hsucc := cnt_succ (fun i => !(G i).isEmpty) k
      have hzk := HZ.out k hlt
      rw [← hml] at hzk
      by_cases hm0 : 0 < m
      · have he : (G k).isEmpty = false := by
          cases hg : G k with
          | nil => rw [hg] at hml; simp at hml; omega
          | cons y ys => rfl
        rw [he] at hsucc
        simp only [Bool.not_false, if_pos] at hsucc
        have HS := hide hsucc; clear hsucc hml hin hfx
        generalize cnt (fun i => !(G i).isEmpty) k = q at *
        go_wp2_with fail
        go_round
        case rel => exact ⟨k + 1, by omega, by go_num, by rw [HS.out]; go_num⟩
        case measure => simp [intOf]; omega
      · obtain rfl : m = 0 := by omega
        have he : (G k).isEmpty = true := by
          rw [List.isEmpty_iff]
          exact List.length_eq_zero_iff.1 hml.symm
        rw [he] at hsucc
        simp only [Bool.not_true, Bool.false_eq_true, if_false, Nat.add_zero] at hsucc
        have HS := hide hsucc; clear hsucc hml hin hfx
        generalize cnt (fun i => !(G i).isEmpty) k = q at *
        go_wp2_with fail
        go_round
        case rel => exact ⟨k + 1, by omega, by go_num, by rw [HS.out]⟩
        case measure => simp [intOf]; omega
    · obtain rfl : k = 4096 := by omega
      cases p with
      | none =>
        have h0 : cnt (fun i => !(G i).isEmpty) 4096 = 0 := cnt_zero fun i hi => by
          have := HO.out i hi
          simp [this]
        rw [h0]
        go_wp2_with fail
        go_ret
        exact ⟨rfl, 0, rfl⟩
      | some p =>
        obtain ⟨⟨r, ws, rfl, hp⟩, hne⟩ := HO.out
        have h0 := cnt_ne G 4096 hne
        have h1 : ((cnt (fun i => !(G i).isEmpty) 4096 : Nat) : Int) ≠ 0 := by omega
        have h2 : (((cnt (fun i => !(G i).isEmpty) 4096 : Nat) : Int) == 0) = false := by simpa using h0
        generalize cnt (fun i => !(G i).isEmpty) 4096 = q at *
        have HP := hide hp; clear hp hne
        go_wp2_with fail
        go_loopw [7] (fun i wr => ∃ (k q : Nat), k ≤ 4096 ∧ i = .int .i64 k ∧ wr = w.drewN q) (fun i _ => 4096 - (intOf i).toNat)
        case atStart => exact ⟨0, 0, by omega, rfl, rfl⟩
        case round =>
          obtain ⟨k, q', hk, rfl, rfl⟩ := hrel
          by_cases hlt : k < 4096
          · have hb0 : Below w.heap.size w (w.drewN q') := below_drewN (Below.refl _ _) q'
            obtain ⟨x, m, c, hin, hof⟩ := of23 (HP.out.below hb0) k hlt
            obtain ⟨x', m', c', hfx, hin'⟩ := HELS.out k hlt
            have c0 := (HROW.out.drewN q').cell k hlt
            rw [hfx] at c0
            have hin1 : In w x' m' (G k) := by
              refine ⟨hin'.len, fun h => ?_⟩
              obtain ⟨b, off, e, hc⟩ := hin'.at_ h
              exact ⟨b, off, e, fun j hj => (HBEL.out.cell (p := ⟨b, _, none⟩) (by have := cell_lt (hc j hj); simp only at this ⊢; omega)).trans (hc j hj)⟩
            have hin2 := hin1.below hb0
            have hmm : m' = m := by rw [hin.len, hin'.len]
            subst hmm
            have hzk := HZ.out k hlt
            rw [← hin.len] at hzk
            generalize hW : w.drewN q' = W at *
            have HW := hide hW
            have C19 := fun q => hide (of19 r k q x m' c W hof)
            have C18 := fun q => hide (eq18 x x' m' c c' (G k) W hzk hin hin2 q)
            clear hin hin' hin1 hin2 hof hfx hzk hW hb0
            have hk0 : (0 : Int) ≤ (k : Int) := by omega
            have hk1 : (k : Int) < 4096 := by omega
            go_wp2_with fail
            go_quiet (first
              | (go_at_call 19; exact (C19 _).out)
              | (go_at_call 18; exact (C18 _).out))
            go_wp2_with fail
            go_roundw
            case rel => exact ⟨k + 1, _, by omega, by go_num, by rw [← HW.out, World.drewN_drewN]⟩
            case measure => simp [intOf]; omega
          · obtain rfl : k = 4096 := by omega
            go_wp2_with fail
            go_ret
            exact ⟨rfl, _, rfl⟩
end Go.Proofs.Qxb6629270aDoor
