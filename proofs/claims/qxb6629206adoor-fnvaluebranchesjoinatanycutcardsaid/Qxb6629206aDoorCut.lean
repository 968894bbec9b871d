/-
  THE WALK over FnValueBranchesJoinAtAnyCut.
-/
import Derived.Test.Qxb6629206aDoorValue
namespace Go.Proofs.Qxb6629206aDoor
open Go.RowKit
set_option linter.unusedVariables false
attribute [local go_sem ↓] Go.wp_at_zero Go.wp_at_succ

theorem info38 : (Tryd.prog.info? 38).map (fun i => (i.zero, i.size, i.bytes)) = some (some z41, 3, 48) := by kernel_rfl
theorem run_mk23 (n m : Nat) (hn : n + m ≤ 2097152) (w : World) : (Instr.makeSlice 23 (.int .i64 ((n : Int) + (m : Int))) (.int .i64 ((n : Int) + (m : Int)))).run Tryd.prog w = .ok (.slice (some ⟨w.heap.size, 0, none⟩) (n + m) (n + m)) (w.alloc (.cells (made41 (n + m)) 38)) := by
  obtain ⟨i0, hi0, hz0, hz1, hz2⟩ := info_parts info38
  have h := run_make (P := Tryd.prog) w 23 38 i0 z41 Tryd.underlying23 hi0 hz0 .i64 .i64 (n + m : Nat) (n + m : Nat) (by omega) (Int.le_refl _) (by rw [hz2]; omega) (by omega)
  rw [hz1] at h
  have e : ((n + m : Nat) : Int) = (n : Int) + (m : Int) := by omega
  rw [Int.toNat_natCast] at h
  rw [e] at h
  exact h

/-- Two families, one behind the other. -/
def cat (n : Nat) (f g : Nat → ByteArray) (i : Nat) : ByteArray := if i < n then f i else g (i - n)
theorem cat_left {n : Nat} {f g : Nat → ByteArray} {i : Nat} (h : i < n) : cat n f g i = f i := by simp [cat, h]
theorem cat_right (n : Nat) (f g : Nat → ByteArray) (i : Nat) : cat n f g (n + i) = g i := by
  rw [cat, if_neg (by omega), Nat.add_sub_cancel_left]

/-- The law's own row as a slice of branches. -/
theorem Row3.bs {w : World} {N n : Nat} {T : TypeId} {R G S : Nat → ByteArray} (h : Row3 w N n n T R G S) (hz : ∀ i, i < n → (R i).size ≤ 9223372036854775807 ∧ (G i).size ≤ 9223372036854775807 ∧ (S i).size ≤ 9223372036854775807) : Bs w (some ⟨N, 0, none⟩) n R G S :=
  ⟨fun _ => ⟨N, 0, rfl, h.lt, fun i hi => by rw [Nat.zero_add]; exact h.els i hi⟩, hz⟩

theorem sz_cat (n m : Nat) (R G S R' G' S' : Nat → ByteArray) : tot (sz (cat n R R') (cat n G G') (cat n S S')) (n + m) = tot (sz R G S) n + tot (sz R' G' S') m :=
  tot_add _ _ _ _ _ (fun i hi => by simp [sz, cat_left hi]) (fun i hi => by simp [sz, cat_right])

/-- THE PLAIN LAW: the payload of the whole. -/
theorem pay_cat (n m : Nat) (R G S R' G' S' : Nat → ByteArray) : pay (cat n R R') (cat n G G') (cat n S S') (n + m) =
    if n = 0 then pay R' G' S' m else if m = 0 then pay R G S n else pay R G S n ++ ⟨#[44]⟩ ++ pay R' G' S' m := by
  split
  · rename_i h
    subst h
    rw [Nat.zero_add]
    rfl
  · split
    · rename_i hm
      subst hm
      unfold pay
      congr 2
      exact joined_congr _ _ _ fun i hi => by simp only [cat_left (show i < n from hi)]
    · unfold pay
      rw [joined_two (fun i => (pc (R i) (G i) (S i)).data.toList) (fun i => (pc (R' i) (G' i) (S' i)).data.toList) n m ‹_› ‹_› _ (fun i hi => by simp only [cat_left hi]) (fun i hi => by simp only [cat_right])]
      apply ByteArray.ext
      simp [ByteArray.data_append]

theorem build_zz (nx : Int) (oc : ByteArray) (g n : Nat) (w : World) (R G S : Nat → ByteArray) (hn : n ≤ 2097152) (ht : tot (sz R G S) n ≤ 2097152) (hg : Row3 w g n n 41 R G S) (r : ByteArray) (hr : pay R G S n = r) :
    Calls Tryd.prog 8 #[.agg (recV nx oc (.slice (some ⟨g, 0, none⟩) n n)), .string ⟨#[98, 114, 97, 110, 99, 104, 101, 115]⟩] w fun e w' => e = .returned (.string r) ∧ Below w.heap.size w w' := by
  subst hr
  exact zz8 nx oc g n w R G S hn ht hg

set_option maxRecDepth 100000 in
set_option maxHeartbeats 4000000 in
theorem cut_walk (a b : Option Addr) (n c m d : Nat) (nx : Int) (oc : ByteArray) (w : World) (R G S R' G' S' : Nat → ByteArray) (hn0 : n ≤ 9223372036854775807) (hm0 : m ≤ 9223372036854775807) (ho : oc.size ≤ 9223372036854775807) (hA : Bs w a n R G S) (hB : Bs w b m R' G' S') :
    Calls Tryd.prog 4 #[.slice a n c, .slice b m d, .int .u64 nx, .string oc] w fun e w' => e = .returned (.bool true) ∧ Below w.heap.size w w' := by
  have H13 := hide (bytes13 a b n c m d nx oc w R G S R' G' S' ho hn0 hm0 hA hB)
  have HA := hide hA; have HB := hide hB; clear hA hB
  go_enter Tryd.func4, Tryd.ntmps4
  go_wp2_with fail
  refine H13.out.mono ?_
  rintro e w' ⟨⟨r, rfl, hr⟩, hw⟩
  subst hw
  cases r
  · clear hr
    go_wp2_with fail
    go_ret
    exact ⟨rfl, Below.refl _ _⟩
  have hs := hr rfl
  clear hr H13
  have hn : n ≤ 1048576 := by omega
  have hm : m ≤ 1048576 := by omega
  have H6 := hide (size6 ⟨#[]⟩ oc a b n c m d w' R G S R' G' S' (by show 0 ≤ _; omega) (by omega) hn hm HA.out HB.out (by omega) (by omega))
  have hmk := run_mk23 n m (by omega)
  have HS := hide hs; clear hs
  go_wp2_with fail
  refine H6.out.mono ?_
  rintro e w' ⟨⟨r, rfl⟩, hw⟩
  subst hw
  cases r
  · go_wp2_with fail
    go_ret
    exact ⟨rfl, Below.refl _ _⟩
  clear H6
  go_wp2_with fail
  clear hmk
  go_loopw [10] (fun i wr => ∃ (k : Nat), k ≤ n ∧ i = .int .i64 k ∧ Below w'.heap.size w' wr ∧ Row3 wr w'.heap.size (n + m) k 38 (cat n R R') (cat n G G') (cat n S S')) (fun i _ => n - (intOf i).toNat)
  case atStart => exact ⟨0, by omega, rfl, (Below.refl _ _).alloc (Nat.le_refl _) _, ⟨⟨made41 (n + m), by rw [heap_alloc_new], made41_size _⟩, fun i hi => absurd hi (Nat.not_lt_zero _)⟩⟩
  case round =>
    obtain ⟨k, hk, rfl, hb, hrow⟩ := hrel
    by_cases hlt : k < n
    · have hbw : ∃ b1 off, a = some ⟨b1, off, none⟩ ∧ b1 < w'.heap.size := let ⟨b1, off, h1, h2, _⟩ := HA.out.at_ (by omega); ⟨b1, off, h1, h2⟩
      obtain ⟨b1, off, rfl, hbw⟩ := hbw
      obtain ⟨b2, off2, hbo, hbl, hcl⟩ := (HA.out.below hb).at_ (by omega)
      simp only [Option.some.injEq, Addr.mk.injEq, and_true] at hbo
      obtain ⟨rfl, rfl⟩ := hbo
      obtain ⟨c0, c1, c2⟩ := hcl k hlt
      clear hcl
      have E0 : Hid (cat n R R' k = R k) := cat_left hlt
      have E1 : Hid (cat n G G' k = G k) := cat_left hlt
      have E2 : Hid (cat n S S' k = S k) := cat_left hlt
      generalize R k = s0 at c0 E0
      generalize G k = s1 at c1 E1
      generalize S k = s2 at c2 E2
      have hf := hrow.frozen
      obtain ⟨o0, o1, o2, x0, x1, x2⟩ := hrow.cells k (by omega)
      have HR := hide hrow; clear hrow
      have HBe := hide hb; clear hb
      go_wp2_with fail
      go_roundw
      case rel => exact ⟨k + 1, by omega, by go_num, put3_below _ _ _ _ _ _ HBe.out (Nat.le_refl _), HR.out.step (by omega) E0.out E1.out E2.out⟩
      case measure => simp [intOf]; omega
    · obtain rfl : k = n := by omega
      have hlt0 : ¬ ((k : Int) < (k : Int)) := by omega
      go_wp2_with fail
      go_loopw [11] (fun i wr => ∃ (j : Nat), j ≤ m ∧ i = .int .i64 j ∧ Below w'.heap.size w' wr ∧ Row3 wr w'.heap.size (k + m) (k + j) 38 (cat k R R') (cat k G G') (cat k S S')) (fun i _ => m - (intOf i).toNat)
      case atStart => exact ⟨0, by omega, rfl, hb, hrow⟩
      case round =>
        clear hb hrow
        obtain ⟨j, hj, rfl, hb, hrow⟩ := hrel
        by_cases hlt : j < m
        · have hbw : ∃ b1 off, b = some ⟨b1, off, none⟩ ∧ b1 < w'.heap.size := let ⟨b1, off, h1, h2, _⟩ := HB.out.at_ (by omega); ⟨b1, off, h1, h2⟩
          obtain ⟨b1, off, rfl, hbw⟩ := hbw
          obtain ⟨b2, off2, hbo, hbl, hcl⟩ := (HB.out.below hb).at_ (by omega)
          simp only [Option.some.injEq, Addr.mk.injEq, and_true] at hbo
          obtain ⟨rfl, rfl⟩ := hbo
          obtain ⟨c0, c1, c2⟩ := hcl j hlt
          clear hcl
          have E0 : Hid (cat k R R' (k + j) = R' j) := cat_right _ _ _ _
          have E1 : Hid (cat k G G' (k + j) = G' j) := cat_right _ _ _ _
          have E2 : Hid (cat k S S' (k + j) = S' j) := cat_right _ _ _ _
          generalize R' j = s0 at c0 E0
          generalize G' j = s1 at c1 E1
          generalize S' j = s2 at c2 E2
          have hf := hrow.frozen
          obtain ⟨o0, o1, o2, x0, x1, x2⟩ := hrow.cells (k + j) (by omega)
          have HR := hide hrow; clear hrow
          have HBe := hide hb; clear hb
          go_wp2_with fail
          go_roundw
          case rel => exact ⟨j + 1, by omega, by go_num, put3_below _ _ _ _ _ _ HBe.out (Nat.le_refl _), HR.out.step (by omega) E0.out E1.out E2.out⟩
          case measure => simp [intOf]; omega
        · obtain rfl : j = m := by omega
          have hs := HS.out
          have hsc := sz_cat k j R G S R' G' S'
          have hzc : ∀ i, i < k + j → (cat k R R' i).size ≤ 9223372036854775807 ∧ (cat k G G' i).size ≤ 9223372036854775807 ∧ (cat k S S' i).size ≤ 9223372036854775807 := fun i hi => by
            have := le_tot (sz (cat k R R') (cat k G G') (cat k S S')) _ i hi
            rw [hsc] at this
            unfold sz at this hs
            omega
          have htA : tot (sz R G S) k ≤ 2097152 := by omega
          have htB : tot (sz R' G' S') j ≤ 2097152 := by omega
          have htC : tot (sz (cat k R R') (cat k G G') (cat k S S')) (k + j) ≤ 2097152 := by omega
          have hpc := pay_cat k j R G S R' G' S'
          have hps := pay_size (cat k R R') (cat k G G') (cat k S S') (k + j)
          obtain ⟨va, hva⟩ : ∃ va, pay R G S k = va := ⟨_, rfl⟩
          obtain ⟨vb, hvb⟩ : ∃ vb, pay R' G' S' j = vb := ⟨_, rfl⟩
          obtain ⟨vc, hvc⟩ : ∃ vc, pay (cat k R R') (cat k G G') (cat k S S') (k + j) = vc := ⟨_, rfl⟩
          obtain ⟨lc, hlc⟩ : ∃ lc, jlen (cat k R R') (cat k G G') (cat k S S') (k + j) = lc := ⟨_, rfl⟩
          rw [hva, hvb, hvc] at hpc
          rw [hvc, hlc] at hps
          have hza : va.size ≤ 16777216 := by rw [← hva, pay_size]; have := jlen_le R G S k; omega
          have hzb : vb.size ≤ 16777216 := by rw [← hvb, pay_size]; have := jlen_le R' G' S' j; omega
          have HVA := hide hva; have HVB := hide hvb; have HVC := hide hvc; have HLC := hide hlc; have HPC := hide hpc; have HPS := hide hps
          have HBC := hide (hrow.bs hzc)
          have HTA := hide htA; have HTB := hide htB; have HTC := hide htC
          clear hva hvb hvc hlc hpc hps hs hsc hzc hrow htA htB htC
          have HB0 := hide hb; clear hb
          -- the payload of a
          go_wp2_with fail
          refine (build7 nx oc a k c _ R G S (by omega) (HA.out.below HB0.out)).mono ?_
          rintro e w1 ⟨rfl, hb1, hr1⟩
          have C1 := hide (build_zz nx oc _ k w1 R G S (by omega) HTA.out hr1 va HVA.out)
          have HB1 := hide (HB0.out.trans (hb1.mono HB0.out.size))
          have HC1 := hide (HBC.out.below hb1)
          clear hb1 hr1 HBC HB0
          go_wp2_with fail
          refine C1.out.mono ?_
          rintro e w2 ⟨rfl, hb2⟩
          have HB2 := hide (HB1.out.trans (hb2.mono HB1.out.size))
          have HC2 := hide (HC1.out.below hb2)
          clear hb2 C1 HC1 HB1
          -- the payload of b
          go_wp2_with fail
          refine (build7 nx oc b j d _ R' G' S' (by omega) (HB.out.below HB2.out)).mono ?_
          rintro e w3 ⟨rfl, hb3, hr3⟩
          have C3 := hide (build_zz nx oc _ j w3 R' G' S' (by omega) HTB.out hr3 vb HVB.out)
          have HB3 := hide (HB2.out.trans (hb3.mono HB2.out.size))
          have HC3 := hide (HC2.out.below hb3)
          clear hb3 hr3 HC2 HB2
          go_wp2_with fail
          refine C3.out.mono ?_
          rintro e w4 ⟨rfl, hb4⟩
          have HB4 := hide (HB3.out.trans (hb4.mono HB3.out.size))
          have HC4 := hide (HC3.out.below hb4)
          clear hb4 C3 HC3 HB3
          -- the payload of the whole
          go_wp2_with fail
          refine (build7 nx oc (some ⟨w'.heap.size, 0, none⟩) (k + j) (k + j) _ _ _ _ (by omega) HC4.out).mono ?_
          rintro e w5 ⟨rfl, hb5, hr5⟩
          have C5 := hide (build_zz nx oc _ (k + j) w5 _ _ _ (by omega) HTC.out hr5 vc HVC.out)
          have HB5 := hide (HB4.out.trans (hb5.mono HB4.out.size))
          have HC5 := hide (HC4.out.below hb5)
          clear hb5 hr5 HC4 HB4
          go_wp2_with fail
          refine C5.out.mono ?_
          rintro e w6 ⟨rfl, hb6⟩
          have HB6 := hide (HB5.out.trans (hb6.mono HB5.out.size))
          have HC6 := hide (HC5.out.below hb6)
          clear hb6 C5 HC5 HB5
          -- the same under another next and outcome
          go_wp2_with fail
          refine (build7 0 ⟨#[]⟩ (some ⟨w'.heap.size, 0, none⟩) (k + j) (k + j) _ _ _ _ (by omega) HC6.out).mono ?_
          rintro e w7 ⟨rfl, hb7, hr7⟩
          have C7 := hide (build_zz 0 ⟨#[]⟩ _ (k + j) w7 _ _ _ (by omega) HTC.out hr7 vc HVC.out)
          have HB7 := hide (HB6.out.trans (hb7.mono HB6.out.size))
          have HC7 := hide (HC6.out.below hb7)
          clear hb7 hr7 HC6 HB6
          go_wp2_with fail
          refine C7.out.mono ?_
          rintro e w8 ⟨rfl, hb8⟩
          have HB8 := hide (HB7.out.trans (hb8.mono HB7.out.size))
          have HC8 := hide (HC7.out.below hb8)
          clear hb8 C7 HC7 HB7
          have C10 := hide (jl10 (some ⟨w'.heap.size, 0, none⟩) (k + j) (k + j) w8 _ _ _ (by omega) HTC.out HC8.out)
          have e2 : ((vc.size : Int) == (lc : Int)) = true := by rw [HPS.out]; simp
          by_cases hk0 : k = 0
          · have e0 : ((k : Int) == 0) = true := by rw [hk0]; rfl
            have e1 : (vc.toList == vb.toList) = true := by have h := HPC.out; rw [if_pos hk0] at h; rw [h]; simp
            have HK := hide hk0; clear hk0
            go_wp2_with fail
            refine C10.out.mono ?_
            rintro e w9 ⟨rfl, hb9⟩
            rw [HLC.out]
            go_wp2_with fail
            go_ret
            exact ⟨rfl, HB8.out.trans (hb9.mono HB8.out.size)⟩
          · have e0 : ((k : Int) == 0) = false := by simp only [beq_eq_false_iff_ne, ne_eq]; omega
            by_cases hj0 : j = 0
            · have e3 : ((j : Int) == 0) = true := by rw [hj0]; rfl
              have e1 : (vc.toList == va.toList) = true := by have h := HPC.out; rw [if_neg hk0, if_pos hj0] at h; rw [h]; simp
              have HK := hide hk0; clear hk0
              have HJ := hide hj0; clear hj0
              go_wp2_with fail
              refine C10.out.mono ?_
              rintro e w9 ⟨rfl, hb9⟩
              rw [HLC.out]
              go_wp2_with fail
              go_ret
              exact ⟨rfl, HB8.out.trans (hb9.mono HB8.out.size)⟩
            · have e3 : ((j : Int) == 0) = false := by simp only [beq_eq_false_iff_ne, ne_eq]; omega
              have e1 : (vc.toList == (va ++ ⟨#[44]⟩ ++ vb).toList) = true := by have h := HPC.out; rw [if_neg hk0, if_neg hj0] at h; rw [h]; simp
              have e4 : (va ++ (ByteArray.mk #[44])).size = va.size + 1 := by rw [ByteArray.size_append]; rfl
              have HK := hide hk0; clear hk0
              have HJ := hide hj0; clear hj0
              go_wp2_with fail
              refine C10.out.mono ?_
              rintro e w9 ⟨rfl, hb9⟩
              rw [HLC.out]
              go_wp2_with fail
              go_ret
              exact ⟨rfl, HB8.out.trans (hb9.mono HB8.out.size)⟩
end Go.Proofs.Qxb6629206aDoor
