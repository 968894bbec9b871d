/-
  THE WALK over isCanonicalDecimalOf, and the decimal digits of a number.
-/
import Derived.Test.Qxb6629206aDoorGates
import Derived.Lib.ItoaNum
namespace Go.Proofs.Qxb6629206aDoor
open Go.RowKit
set_option linter.unusedVariables false

set_option maxHeartbeats 1000000 in
set_option maxRecDepth 100000 in
theorem canon9 (s : ByteArray) (u nd : Nat) (V D : Nat → Nat) (hsz : s.size = nd) (h1 : 1 ≤ nd) (h20 : nd ≤ 20) (hs : ∀ k (h : k < s.size), (s[k].toNat : Int) = 48 + (D k : Int)) (hD : ∀ k, k < nd → D k ≤ 9)
    (V0 : V 0 = 0) (VS : ∀ k, k < nd → V (k + 1) = 10 * V k + D k) (Vn : V nd = u) (hV : ∀ k, k ≤ nd → V k < 18446744073709551616) (hz : 1 < nd → D 0 ≠ 0) (w : World) :
    Calls Tryd.prog 9 #[.string s, .int .u64 u] w fun e w' => e = .returned (.bool true) ∧ w' = w := by
  subst hsz
  have e0 : ((s.size : Int) == 0) = false := by simp only [beq_eq_false_iff_ne, ne_eq]; omega
  have hp : 0 < s.size := by omega
  have hp' : (0 : Int) < (s.size : Int) := by omega
  have H0 := hs 0 hp
  have HZ := hide hz; have HS := hide hs; have HD := hide hD; have HVS := hide VS; have HVn := hide Vn; have HV := hide hV; have HV0 := hide V0
  clear hs hD VS Vn hV V0
  have h00 : ¬ ((s[0].toNat : Int) = 48 ∧ (1 : Int) < (s.size : Int)) := by
    intro h
    have := HZ.out (by omega)
    omega
  have HH := hide h00; clear h00 hz
  have H00 := hide H0; clear H0
  rcases (show ((s[0].toNat : Int) = 48 ∧ (s.size : Int) ≤ 1) ∨ ¬ (s[0].toNat : Int) = 48 by have := HH.out; omega) with hc | hc
  all_goals
    go_enter Tryd.func9, Tryd.ntmps9
    go_wp2_with fail
    go_loop [5, 6] (fun v i => ∃ k : Nat, k ≤ s.size ∧ i = .int .i64 k ∧ v = .int .u64 (V k)) (fun _ i => s.size - (intOf i).toNat)
    case atStart => exact ⟨0, by omega, rfl, by rw [HV0.out]; rfl⟩
    case round =>
      clear hc
      obtain ⟨k, hk, rfl, rfl⟩ := hrel
      by_cases hlt : k < s.size
      · have hsk := HS.out k hlt
        have hdk := HD.out k hlt
        have hvs := HVS.out k hlt
        have hv1 := HV.out (k + 1) (by omega)
        rw [hvs] at hv1
        have HVK := hide hvs; clear hvs
        generalize V k = vk at hv1 HVK
        generalize D k = dk at hdk hv1 HVK hsk
        have hb1 : (48 : Int) ≤ (s[k].toNat : Int) := by omega
        have hb2 : (s[k].toNat : Int) ≤ 57 := by omega
        have hd48 : (s[k].toNat : Int) - 48 = (dk : Int) := by omega
        have HSK := hide hsk; clear hsk
        have HV1 := hide hv1; clear hv1
        go_wp2_with fail
        · have h1 := HV1.out
          have h2 : (18446744073709551615 - (dk : Int)) / 10 < (vk : Int) := by assumption
          omega
        · go_round
          case rel => exact ⟨k + 1, by omega, by go_num, congrArg (Value.int .u64) (by rw [HVK.out]; omega)⟩
          case measure => simp [intOf]; omega
      · obtain rfl : k = s.size := by omega
        rw [HVn.out]
        go_wp2_with fail
        go_ret
        exact ⟨rfl, rfl⟩

/-! ### The decimal digits -/
open Go.Lib in
theorem pow_le_of_big (u : Nat) (h : 1 < nDigits u) : 10 ^ (nDigits u - 1) ≤ u := by
  have hb : ¬ u < 10 := fun hs => by rw [nDigits_small hs] at h; omega
  suffices H : ∀ n u, u ≤ n → ¬ u < 10 → 10 ^ (nDigits u - 1) ≤ u from H u u (Nat.le_refl _) hb
  intro n
  induction n with
  | zero => intro u hu hb; omega
  | succ n ih =>
    intro u hu hb
    rw [nDigits_big hb, Nat.add_sub_cancel]
    by_cases h2 : u / 10 < 10
    · rw [nDigits_small h2]; omega
    · have := ih (u / 10) (by omega) h2
      have hp := nDigits_pos (u / 10)
      have e : nDigits (u / 10) = (nDigits (u / 10) - 1) + 1 := by omega
      rw [e, Nat.pow_succ]
      omega

open Go.Lib in
theorem canon_dec (u : Nat) (hu : u < 18446744073709551616) (w : World) :
    Calls Tryd.prog 9 #[.string ⟨(decDigits u).toArray⟩, .int .u64 u] w fun e w' => e = .returned (.bool true) ∧ w' = w := by
  have hsz : (ByteArray.mk (decDigits u).toArray).size = nDigits u := by
    show (decDigits u).toArray.size = _
    rw [List.size_toArray, decDigits_length]
  have h1 := nDigits_pos u
  have h20 : nDigits u ≤ 20 := by
    rcases Nat.lt_or_ge u 1 with h | h
    · rw [nDigits_small (by omega)]; omega
    · have := numDigits_eq u h hu; split at this <;> omega
  refine canon9 _ u (nDigits u) (fun k => u / 10 ^ (nDigits u - k)) (fun k => u / 10 ^ (nDigits u - 1 - k) % 10) hsz h1 h20 ?_ ?_ ?_ ?_ ?_ ?_ ?_ w
  · intro k hk
    have hk' : k < nDigits u := by rw [← hsz]; exact hk
    have hg : (ByteArray.mk (decDigits u).toArray)[k] = (decDigits u)[k]'(by rw [decDigits_length]; exact hk') := by
      show (decDigits u).toArray[k] = _
      simp
    rw [hg]
    have : (decDigits u)[k]'(by rw [decDigits_length]; exact hk') = dg u (nDigits u - 1 - k) := by
      have h := decDigits_eq u
      simp only [h, List.getElem_map, List.getElem_range]
    rw [this, dg]
    have hm : u / 10 ^ (nDigits u - 1 - k) % 10 < 10 := Nat.mod_lt _ (by decide)
    rw [UInt8.toNat_ofNat']
    omega
  · intro k _
    have : u / 10 ^ (nDigits u - 1 - k) % 10 < 10 := Nat.mod_lt _ (by decide)
    exact Nat.le_of_lt_succ this
  · show u / 10 ^ (nDigits u - 0) = 0
    exact Nat.div_eq_of_lt (lt_pow_nDigits u)
  · intro k hk
    show u / 10 ^ (nDigits u - (k + 1)) = 10 * (u / 10 ^ (nDigits u - k)) + u / 10 ^ (nDigits u - 1 - k) % 10
    have e : nDigits u - k = (nDigits u - (k + 1)) + 1 := by omega
    have e2 : nDigits u - 1 - k = nDigits u - (k + 1) := by omega
    rw [e, e2, Nat.pow_succ, ← Nat.div_div_eq_div_mul]
    omega
  · show u / 10 ^ (nDigits u - nDigits u) = u
    rw [Nat.sub_self, Nat.pow_zero, Nat.div_one]
  · intro k _
    have : u / 10 ^ (nDigits u - k) ≤ u := Nat.div_le_self _ _
    show u / 10 ^ (nDigits u - k) < _
    omega
  · intro hlt
    have hp := pow_le_of_big u hlt
    have hl := lt_pow_nDigits u
    show u / 10 ^ (nDigits u - 1 - 0) % 10 ≠ 0
    rw [Nat.sub_zero]
    have e : nDigits u = (nDigits u - 1) + 1 := by omega
    rw [e, Nat.pow_succ] at hl
    have q1 : 1 ≤ u / 10 ^ (nDigits u - 1) := (Nat.one_le_div_iff (Nat.pow_pos (by decide))).2 hp
    have q2 : u / 10 ^ (nDigits u - 1) < 10 := Nat.div_lt_of_lt_mul (by rw [Nat.mul_comm] at hl; rw [Nat.mul_comm]; exact hl)
    rw [Nat.mod_eq_of_lt q2]
    omega
end Go.Proofs.Qxb6629206aDoor
