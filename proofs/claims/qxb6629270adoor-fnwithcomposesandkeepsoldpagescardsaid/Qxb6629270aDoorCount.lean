/-
  THE WALK over (*listPage).countBefore.
-/
import Derived.Test.Qxb6629270aDoorPage
namespace Go.Proofs.Qxb6629270aDoor
open Go.RowKit
set_option linter.unusedVariables false
attribute [local go_sem ↓] Go.wp_at_zero Go.wp_at_succ

theorem wrap32 (n : Int) (h0 : 0 ≤ n) (h1 : n ≤ 100000) : IntKind.i32.wrap n = n := by simp [IntKind.wrap, IntKind.signed, IntKind.bits]; omega
theorem wrapi64 (n : Int) (h0 : 0 ≤ n) (h1 : n ≤ 100000) : IntKind.i64.wrap n = n := by simp [IntKind.wrap, IntKind.signed, IntKind.bits]; omega

theorem set_off (w : World) (r : Nat) {a b : Nat} (v : Value) (h : a ≠ b) : (w.setCell ⟨r, a, none⟩ v).cell? ⟨r, b, none⟩ = w.cell? ⟨r, b, none⟩ :=
  World.cell?_setCell_other _ _ _ _ (fun e => by simp only [Addr.mk.injEq, and_true, true_and] at e; exact h e)

section
variable {w : World} {r : Nat} {ws bf : Nat → Nat} {lv : Value}
theorem pg_word (h : Blk w r 129 51 (pg ws bf lv)) (v : Nat) (hv : v < 64) : w.cell? ⟨r, v, none⟩ = some (.int .u64 (ws v)) := by
  rw [h.cell _ (by omega)]; simp [pg, hv]
theorem pg_before (h : Blk w r 129 51 (pg ws bf lv)) (v : Nat) (hv : v < 64) : w.cell? ⟨r, 64 + v, none⟩ = some (.int .i32 (bf v)) := by
  rw [h.cell _ (by omega)]; simp only [pg]; rw [if_neg (by omega), if_pos (by omega), Nat.add_sub_cancel_left]
theorem pg_lists (h : Blk w r 129 51 (pg ws bf lv)) : w.cell? ⟨r, 128, none⟩ = some lv := by
  rw [h.cell _ (by omega)]; simp [pg]
theorem pg_setBefore (h : Blk w r 129 51 (pg ws bf lv)) (k x : Nat) (hk : k < 64) : Blk (w.setCell ⟨r, 64 + k, none⟩ (.int .i32 x)) r 129 51 (pg ws (fun v => if v = k then x else bf v) lv) := by
  refine (h.set (64 + k) (.int .i32 x)).fn fun i hi => ?_
  unfold upd
  by_cases e : i = 64 + k
  · subst e
    rw [if_pos rfl]
    simp only [pg]
    rw [if_neg (by omega), if_pos (by omega), if_pos (by omega)]
  · rw [if_neg e]
    simp only [pg]
    by_cases h1 : i < 64
    · rw [if_pos h1, if_pos h1]
    · rw [if_neg h1, if_neg h1]
      by_cases h2 : i < 128
      · rw [if_pos h2, if_pos h2, if_neg (by omega)]
      · rw [if_neg h2, if_neg h2]
theorem pg_setWord (h : Blk w r 129 51 (pg ws bf lv)) (k x : Nat) (hk : k < 64) : Blk (w.setCell ⟨r, k, none⟩ (.int .u64 x)) r 129 51 (pg (fun v => if v = k then x else ws v) bf lv) := by
  refine (h.set k (.int .u64 x)).fn fun i hi => ?_
  unfold upd
  by_cases e : i = k
  · subst e
    rw [if_pos rfl]
    simp only [pg]
    rw [if_pos hk]; simp
  · rw [if_neg e]
    simp only [pg]
    by_cases h1 : i < 64
    · rw [if_pos h1, if_pos h1, if_neg e]
    · rw [if_neg h1, if_neg h1]
theorem pg_setLists (h : Blk w r 129 51 (pg ws bf lv)) (x : Value) : Blk (w.setCell ⟨r, 128, none⟩ x) r 129 51 (pg ws bf x) := by
  refine (h.set 128 x).fn fun i hi => ?_
  unfold upd
  by_cases e : i = 128
  · subst e
    simp [pg]
  · rw [if_neg e]
    simp only [pg]
    by_cases h1 : i < 64
    · rw [if_pos h1, if_pos h1]
    · rw [if_neg h1, if_neg h1, if_pos (by omega), if_pos (by omega)]
end

theorem keep21 {w : World} {r k : Nat} {a b : Value} (c0 : w.cell? ⟨r, k, none⟩ = some a) (c1 : w.cell? ⟨r, 64 + k, none⟩ = some b) (v : Value) :
    (w.setCell ⟨r, 64 + (k + 1), none⟩ v).drew.cell? ⟨r, k, none⟩ = some a ∧ (w.setCell ⟨r, 64 + (k + 1), none⟩ v).drew.cell? ⟨r, 64 + k, none⟩ = some b := by
  rw [World.cell?_drew, World.cell?_drew, set_off _ _ _ (by omega), set_off _ _ _ (by omega)]
  exact ⟨c0, c1⟩

set_option maxRecDepth 100000 in
set_option maxHeartbeats 4000000 in
theorem count21 (r : Nat) (ws bf : Nat → Nat) (lv : Value) (w : World) (hs : ∀ v, v < 64 → ws v < 18446744073709551616) (hP : Blk w r 129 51 (pg ws bf lv)) (h0 : bf 0 = 0) :
    Calls Tryd.prog 21 #[.pointer (some ⟨r, 0, none⟩)] w fun e w' => e = .returned (.int .i64 (cnt (bit ws) 4096)) ∧ Below r w w' ∧ Blk w' r 129 51 (pg ws (fun v => cnt (bit ws) (64 * v)) lv) := by
  have HS := hide hs; have HP := hide hP; clear hs hP
  go_enter Tryd.func21, Tryd.ntmps21
  go_wp2
  go_loopw [3] (fun i wr => ∃ (k : Nat) (bf : Nat → Nat), k < 64 ∧ i = .int .i64 ((k : Int) + 1) ∧ Below r w wr ∧ Blk wr r 129 51 (pg ws bf lv) ∧ ∀ v, v ≤ k → bf v = cnt (bit ws) (64 * v)) (fun i _ => 64 - (intOf i).toNat)
  case atStart => exact ⟨0, bf, by omega, rfl, Below.refl _ _, HP.out, fun v hv => by rw [show v = 0 from by omega, h0]; rfl⟩
  case round =>
    obtain ⟨k, bf, hk, rfl, hb, hB, hall⟩ := hrel
    clear h0
    have hr := hB.lt
    have hX := HS.out k hk
    have c0 := pg_word hB k hk
    have c1 := pg_before hB k hk
    have hbk := hall k (Nat.le_refl _)
    have hle : cnt (bit ws) (64 * k) ≤ 64 * k := cnt_le _ _
    have hle2 : cnt (ws k).testBit 64 ≤ 64 := cnt_le _ _
    have hnext := cnt_word ws k 64 (Nat.le_refl _)
    rw [show 64 * k + 64 = 64 * (k + 1) from by omega] at hnext
    rw [← hbk] at hle hnext
    have C24 := fun W => hide (ones (ws k) hX W)
    have HALL := hide hall; have HB := hide hb; clear hall hb hbk
    generalize hq : cnt (ws k).testBit 64 = q at *
    generalize hB0 : bf k = B at *
    generalize hX0 : ws k = X at *
    have hk0 : (0 : Int) ≤ (k : Int) := by omega
    have hk1 : (k : Int) < 64 := by omega
    have hk2 : (0 : Int) ≤ (k : Int) + 1 := by omega
    have w1 := wrap32 (q : Int) (by omega) (by omega)
    have w2 := wrap32 ((B : Int) + (q : Int)) (by omega) (by omega)
    have w3 := wrapi64 (B : Int) (by omega) (by omega)
    have w4 := wrapi64 ((B : Int) + (q : Int)) (by omega) (by omega)
    have w5 : IntKind.i64.wrap ((k : Int) + 1 - 1) = (k : Int) := by rw [wrapi64 _ (by omega) (by omega)]; omega
    have w6 : IntKind.i64.wrap (k : Int) = (k : Int) := wrapi64 _ (by omega) (by omega)
    have w7 : ((k : Int) + 1).toNat = k + 1 := by omega
    have HN := hide hnext; have HBK := hide hB; have HB0 := hide hB0; clear hnext hB hB0 hq hX0
    by_cases hlt : k < 63
    · have hk3 : (k : Int) + 1 < 64 := by omega
      have f1 : 64 + (k + 1) ≠ 64 + k := by omega
      have f2 : 64 + (k + 1) ≠ k := by omega
      have f3 : 64 + k ≠ 64 + (k + 1) := by omega
      have f4 : k ≠ 64 + (k + 1) := by omega
      have c5 := pg_before HBK.out (k + 1) (by omega)
      have hf := HBK.out.frozen
      generalize bf (k + 1) = B1 at c5
      go_wp2_with fail
      go_region_held3 (fun w' => w'.cell? ⟨r, k, none⟩ = some (.int .u64 X) ∧ w'.cell? ⟨r, 64 + k, none⟩ = some (.int .i32 B))
        (first | exact keep21 c0 c1 _ | go_keep)
        (first
          | (go_at_call 24; refine ((C24 _).out).mono ?_; rintro e w7 ⟨rfl, hw7⟩; subst hw7))
      go_wp2_with fail
      go_roundw
      case rel =>
        refine ⟨k + 1, _, by omega, by go_num, (HB.out.setCell (p := ⟨r, 64 + (k + 1), none⟩) (Nat.le_refl _) _).drew, (pg_setBefore HBK.out (k + 1) (B + q) (by omega)).drew, fun v hv => ?_⟩
        by_cases e : v = k + 1
        · subst e; rw [if_pos rfl, HN.out]
        · rw [if_neg e]; exact HALL.out v (by omega)
      case measure => simp [intOf]; omega
    · obtain rfl : k = 63 := by omega
      go_wp2_with fail
      go_quiet (first | (go_at_call 24; exact ((C24 _).out).mono (fun _ _ ⟨he, hw⟩ => ⟨he, _, hw⟩)))
      go_wp2_with fail
      go_ret
      refine ⟨?_, below_drewN HB.out _, (HBK.out.drewN _).fn fun i hi => ?_⟩
      · show Ending.returned (.int .i64 ((B : Int) + (q : Int))) = _
        rw [HN.out]
        rfl
      · simp only [pg]
        by_cases h1 : i < 64
        · rw [if_pos h1, if_pos h1]
        · rw [if_neg h1, if_neg h1]
          by_cases h2 : i < 128
          · rw [if_pos h2, if_pos h2, HALL.out _ (by omega)]
          · rw [if_neg h2, if_neg h2]
end Go.Proofs.Qxb6629270aDoor
