/-
  A PAGE OF LISTS in memory; THE WALK over its reader, (*listPage).of.
-/
import Derived.Test.Qxb6629270aDoorOnes
import Derived.Test.Qxb6629270aDoorCopy
import Derived.Deep.QuietTactic
import Derived.BigQuiet
namespace Go.Proofs.Qxb6629270aDoor
open Go.RowKit
set_option linter.unusedVariables false
attribute [local go_sem ↓] Go.wp_at_zero Go.wp_at_succ

/-- The mark of number i, out of the words. -/
def bit (ws : Nat → Nat) (i : Nat) : Bool := (ws (i / 64)).testBit (i % 64)
theorem bit_at64 (ws : Nat → Nat) (v t : Nat) (ht : t < 64) : bit ws (64 * v + t) = (ws v).testBit t := by
  unfold bit
  rw [show (64 * v + t) / 64 = v from by omega, show (64 * v + t) % 64 = t from by omega]
theorem cnt_word (ws : Nat → Nat) (v t : Nat) (ht : t ≤ 64) : cnt (bit ws) (64 * v + t) = cnt (bit ws) (64 * v) + cnt (ws v).testBit t := by
  rw [cnt_add]
  congr 1
  exact cnt_congr fun j hj => bit_at64 ws v j (by omega)

/-- The cells of a page. -/
def pg (ws bf : Nat → Nat) (lv : Value) (i : Nat) : Value := if i < 64 then .int .u64 (ws i) else if i < 128 then .int .i32 (bf (i - 64)) else lv

/-- Block r is a page on which number i has the list g i. -/
structure Page (w : World) (r : Nat) (ws : Nat → Nat) (g : Nat → List Int) : Prop where
  blk : ∃ lb cap, Blk w r 129 51 (pg ws (fun v => cnt (bit ws) (64 * v)) (.slice (some ⟨lb, 0, none⟩) (cnt (bit ws) 4096) cap)) ∧
    ∀ i, i < 4096 → bit ws i = true → ∃ x m c, w.cell? ⟨lb, cnt (bit ws) i, none⟩ = some (.slice x m c) ∧ In w x m (g i)
  small : ∀ v, v < 64 → ws v < 18446744073709551616
  bits : ∀ i, i < 4096 → (bit ws i = true ↔ g i ≠ [])

theorem Page.below {w w' : World} {r : Nat} {ws : Nat → Nat} {g : Nat → List Int} (h : Page w r ws g) (hb : Below w.heap.size w w') : Page w' r ws g where
  blk := let ⟨lb, cap, h1, h2⟩ := h.blk
    ⟨lb, cap, h1.below hb h1.lt, fun i hi hbit => let ⟨x, m, c, h3, h4⟩ := h2 i hi hbit; ⟨x, m, c, (hb.cell (p := ⟨lb, _, none⟩) (cell_lt h3)).trans h3, h4.below hb⟩⟩
  small := h.small
  bits := h.bits

set_option maxRecDepth 100000 in
set_option maxHeartbeats 4000000 in
theorem of_raw (r lb i v t X B cap n Y q : Nat) (x : Option Addr) (m c : Nat) (w : World) (hv : v < 64) (hq : (i : Int) / 64 = (v : Int)) (hr : (i : Int) % 64 = (t : Int)) (hi : (i : Int) ≤ 4095)
   (hs : IntKind.u64.wrap ((2 : Int) ^ t) = (Y : Int)) (hs1 : IntKind.u64.wrap ((Y : Int) - 1) = ((Y - 1 : Nat) : Int)) (Z1 Z2 : Nat) (hb1 : bits .and .u64 (X : Int) (Y : Int) = (Z1 : Int)) (hb2 : bits .and .u64 (X : Int) ((Y - 1 : Nat) : Int) = (Z2 : Int)) (hz : ((Z1 : Int) == 0) = false)
   (c0 : w.cell? ⟨r, v, none⟩ = some (.int .u64 X)) (c1 : w.cell? ⟨r, 64 + v, none⟩ = some (.int .i32 B)) (c2 : w.cell? ⟨r, 128, none⟩ = some (.slice (some ⟨lb, 0, none⟩) n cap))
   (hB : B ≤ 4096) (hZ2 : Z2 < 18446744073709551616) (hcq : cnt Z2.testBit 64 = q) (hk : B + q < n) (hn : n ≤ 4096)
   (c3 : w.cell? ⟨lb, B + q, none⟩ = some (.slice x m c)) :
    Calls Tryd.prog 23 #[.pointer (some ⟨r, 0, none⟩), .int .i64 i] w fun e w' => e = .returned (.slice x m c) ∧ ∃ k, w' = w.drewN k := by
  have C24 := fun W => hide (ones Z2 hZ2 W)
  rw [hcq] at C24
  have ht : (0 : Int) ≤ (t : Int) := by omega
  have ht' : (t : Int) < 64 := by omega
  have hB' : (B : Int) ≤ 4096 := by omega
  clear hcq
  have hv0 : (0 : Int) ≤ (v : Int) := by omega
  have hv1 : (v : Int) < 64 := by omega
  have hw0 : IntKind.i64.wrap (B : Int) = (B : Int) := by simp [IntKind.wrap, IntKind.signed, IntKind.bits]; omega
  have hw1 : IntKind.i64.wrap ((B : Int) + (q : Int)) = (B : Int) + (q : Int) := by simp [IntKind.wrap, IntKind.signed, IntKind.bits]; omega
  have hq0 : (0 : Int) ≤ (B : Int) + (q : Int) := by omega
  have hq1 : (B : Int) + (q : Int) < (n : Int) := by omega
  have hq2 : ((B : Int) + (q : Int)).toNat = B + q := by omega
  go_enter Tryd.func23, Tryd.ntmps23
  go_wp2_with fail
  go_quiet (fail)
  go_wp2_with fail
  go_quiet (first | (go_at_call 24; exact ((C24 _).out).mono (fun _ _ ⟨he, hw⟩ => ⟨he, _, hw⟩)))
  go_wp2_with fail
  go_ret
  exact ⟨rfl, _, World.drewN_drewN _ _ _⟩

set_option maxRecDepth 100000 in
set_option maxHeartbeats 4000000 in
theorem of_none (r i v t X Y : Nat) (w : World) (hv : v < 64) (hq : (i : Int) / 64 = (v : Int)) (hr : (i : Int) % 64 = (t : Int)) (hi : (i : Int) ≤ 4095)
   (hs : IntKind.u64.wrap ((2 : Int) ^ t) = (Y : Int)) (hb1 : bits .and .u64 (X : Int) (Y : Int) = 0)
   (c0 : w.cell? ⟨r, v, none⟩ = some (.int .u64 X)) :
    Calls Tryd.prog 23 #[.pointer (some ⟨r, 0, none⟩), .int .i64 i] w fun e w' => e = .returned (.slice none 0 0) ∧ ∃ k, w' = w.drewN k := by
  have ht : (0 : Int) ≤ (t : Int) := by omega
  have ht' : (t : Int) < 64 := by omega
  have hv0 : (0 : Int) ≤ (v : Int) := by omega
  have hv1 : (v : Int) < 64 := by omega
  go_enter Tryd.func23, Tryd.ntmps23
  go_wp2_with fail
  go_quiet (fail)
  go_wp2_with fail
  go_ret
  exact ⟨rfl, _, rfl⟩

theorem and_pow (x k : Nat) : x &&& 2 ^ k = if x.testBit k then 2 ^ k else 0 := by
  apply Nat.eq_of_testBit_eq
  intro j
  rw [Nat.testBit_and, Nat.testBit_two_pow]
  by_cases e : k = j
  · subst e
    by_cases h : x.testBit k = true
    · simp [h]
    · simp [h]
  · by_cases h : x.testBit k = true
    · simp [h, e]
    · simp [h, e]
theorem pow_lt64 {t : Nat} (ht : t < 64) : 2 ^ t < 18446744073709551616 := Nat.pow_lt_pow_right (a := 2) (by omega) ht
theorem shl_wrap {t : Nat} (ht : t < 64) : IntKind.u64.wrap ((2 : Int) ^ t) = ((2 ^ t : Nat) : Int) := by
  have h := pow_lt64 ht
  have e : ((2 : Int) ^ t) = ((2 ^ t : Nat) : Int) := by simp
  rw [e, IntKind.wrap_u64]
  generalize 2 ^ t = Y at *
  omega

/-- (*listPage).of: the list of number i. -/
theorem of23 {w : World} {r : Nat} {ws : Nat → Nat} {g : Nat → List Int} (h : Page w r ws g) (i : Nat) (hi : i < 4096) :
    ∃ x m c, In w x m (g i) ∧ ∀ q, Calls Tryd.prog 23 #[.pointer (some ⟨r, 0, none⟩), .int .i64 i] (w.drewN q) fun e w' => e = .returned (.slice x m c) ∧ ∃ k, w' = w.drewN k := by
  obtain ⟨lb, cap, hb, hl⟩ := h.blk
  have hv : i / 64 < 64 := by omega
  have ht : i % 64 < 64 := by omega
  have hX := h.small (i / 64) hv
  have hY := pow_lt64 ht
  have hY0 : 0 < 2 ^ (i % 64) := Nat.two_pow_pos _
  have c0 : w.cell? ⟨r, i / 64, none⟩ = some (.int .u64 (ws (i / 64))) := by
    rw [hb.cell _ (by omega)]; simp [pg, hv]
  have c1 : w.cell? ⟨r, 64 + i / 64, none⟩ = some (.int .i32 (cnt (bit ws) (64 * (i / 64)))) := by
    rw [hb.cell _ (by omega)]; simp only [pg]; rw [if_neg (by omega), if_pos (by omega), Nat.add_sub_cancel_left]
  have c2 : w.cell? ⟨r, 128, none⟩ = some (.slice (some ⟨lb, 0, none⟩) (cnt (bit ws) 4096) cap) := by
    rw [hb.cell _ (by omega)]; simp [pg]
  have hand := and_pow (ws (i / 64)) (i % 64)
  have hb1 := u64_and_nat (ws (i / 64)) (2 ^ (i % 64)) hX hY
  by_cases hbit : bit ws i = true
  · obtain ⟨x, m, c, c3, hin⟩ := hl i hi hbit
    refine ⟨x, m, c, hin, fun q => ?_⟩
    have hb2 := u64_and_nat (ws (i / 64)) (2 ^ (i % 64) - 1) hX (by omega)
    have hZ : ws (i / 64) &&& (2 ^ (i % 64) - 1) ≤ ws (i / 64) := Nat.and_le_left
    have hcq : cnt (ws (i / 64) &&& (2 ^ (i % 64) - 1)).testBit 64 = cnt (ws (i / 64)).testBit (i % 64) := by
      rw [← cnt_cut (ws (i / 64)).testBit (i % 64) 64 (by omega)]
      exact cnt_congr fun j _ => low_bits _ _ _
    have hrank : cnt (bit ws) i = cnt (bit ws) (64 * (i / 64)) + cnt (ws (i / 64)).testBit (i % 64) := by
      have := cnt_word ws (i / 64) (i % 64) (by omega)
      rwa [Nat.div_add_mod] at this
    have hlt : cnt (bit ws) i < cnt (bit ws) 4096 := cnt_lt _ hi hbit
    have hle : cnt (bit ws) 4096 ≤ 4096 := cnt_le _ _
    have hle2 : cnt (bit ws) (64 * (i / 64)) ≤ 64 * (i / 64) := cnt_le _ _
    rw [hrank] at c3 hlt
    refine (of_raw r lb i (i / 64) (i % 64) (ws (i / 64)) (cnt (bit ws) (64 * (i / 64))) cap (cnt (bit ws) 4096) (2 ^ (i % 64)) (cnt (ws (i / 64)).testBit (i % 64)) x m c (w.drewN q) hv (by omega) (by omega) (by omega)
      (shl_wrap ht) ?_ _ _ hb1 hb2 ?_ c0 c1 c2 (by omega) (by omega) hcq hlt hle c3).mono ?_
    · rw [IntKind.wrap_u64]
      generalize 2 ^ (i % 64) = Y at *
      omega
    · rw [hand]
      unfold bit at hbit
      rw [hbit]
      generalize 2 ^ (i % 64) = Y at *
      simp
      omega
    · rintro e w' ⟨rfl, k, rfl⟩
      exact ⟨rfl, _, World.drewN_drewN _ _ _⟩
  · have hg : g i = [] := by
      by_cases hg : g i = []
      · exact hg
      · exact absurd ((h.bits i hi).2 hg) hbit
    rw [hg]
    refine ⟨none, 0, 0, ⟨rfl, fun h => absurd h (Nat.lt_irrefl _)⟩, fun q => ?_⟩
    refine (of_none r i (i / 64) (i % 64) (ws (i / 64)) (2 ^ (i % 64)) (w.drewN q) hv (by omega) (by omega) (by omega) (shl_wrap ht) ?_ c0).mono ?_
    · rw [hb1, hand]
      unfold bit at hbit
      simp [hbit]
    · rintro e w' ⟨rfl, k, rfl⟩
      exact ⟨rfl, _, World.drewN_drewN _ _ _⟩
end Go.Proofs.Qxb6629270aDoor
