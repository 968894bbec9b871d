/-
  'Rows.FnControllerRefConcatSaid', proved.
-/
import Derived.Test.Qxb6629165aLaw
import Derived.Deep.RegionHeld3
import Derived.Deep.DrawnRows
namespace Go.Proofs.Qxb6629165a
open Go.RowKit
set_option linter.unusedVariables false
attribute [local go_sem ↓] Go.wp_at_zero Go.wp_at_succ

/-- Two or three objects, each with its own references; the references that came in. -/
structure St (W : World) (mw ma mz : Nat) (aw aa az : Option Addr) (gw ga gz n k m : Nat) (F G : Nat → Option Bool) (a : Option Addr) (S : Nat → Nat → ByteArray) (C D : Nat → Option Addr) (cb db : Nat → Bool) : Prop where
  mw : W.cell? ⟨mw, 14, none⟩ = some (.slice aw n n)
  ma : W.cell? ⟨ma, 14, none⟩ = some (.slice aa k k)
  mz : W.cell? ⟨mz, 14, none⟩ = some (.slice az m m)
  hw : Has W aw gw n F
  ha : Has W aa ga k F
  hz : Has W az gz m G
  v : View W a n S C D cb db

theorem St.below {W W' : World} {mw ma mz : Nat} {aw aa az : Option Addr} {gw ga gz n k m : Nat} {F G : Nat → Option Bool} {a : Option Addr} {S : Nat → Nat → ByteArray} {C D : Nat → Option Addr} {cb db : Nat → Bool}
    (h : St W mw ma mz aw aa az gw ga gz n k m F G a S C D cb db) (hb : Below W.heap.size W W') : St W' mw ma mz aw aa az gw ga gz n k m F G a S C D cb db where
  mw := (hb.cell (p := ⟨mw, 14, none⟩) (cell_lt h.mw)).trans h.mw
  ma := (hb.cell (p := ⟨ma, 14, none⟩) (cell_lt h.ma)).trans h.ma
  mz := (hb.cell (p := ⟨mz, 14, none⟩) (cell_lt h.mz)).trans h.mz
  hw := h.hw.below hb
  ha := h.ha.below hb
  hz := h.hz.below hb
  v := h.v.below hb

theorem St.drew {W : World} {mw ma mz : Nat} {aw aa az : Option Addr} {gw ga gz n k m : Nat} {F G : Nat → Option Bool} {a : Option Addr} {S : Nat → Nat → ByteArray} {C D : Nat → Option Addr} {cb db : Nat → Bool}
    (h : St W mw ma mz aw aa az gw ga gz n k m F G a S C D cb db) : St W.drew mw ma mz aw aa az gw ga gz n k m F G a S C D cb db := h.below (Below.refl _ _).drew

/-- THE PLAIN LAW: the three answers. -/
theorem three (M : Nat → Bool) (n k : Nat) (hk : k ≤ n) :
    (∃ p : Nat, ix (fst M n) = p ∧ p < n ∧ M p = true ∧ (∀ q, q < p → M q = false) ∧
      ((ix (fst M k) = p ∧ -1 ≤ ix (fst (fun i => M (k + i)) (n - k)) ∧ ix (fst (fun i => M (k + i)) (n - k)) ≤ n) ∨ (ix (fst M k) = -1 ∧ ∃ j : Nat, ix (fst (fun i => M (k + i)) (n - k)) = j ∧ p = k + j))) ∨
    (ix (fst M n) = -1 ∧ ix (fst M k) = -1 ∧ ix (fst (fun i => M (k + i)) (n - k)) = -1 ∧ ∀ q, q < n → M q = false) := by
  have hz : -1 ≤ ix (fst (fun i => M (k + i)) (n - k)) ∧ ix (fst (fun i => M (k + i)) (n - k)) ≤ n := by
    rcases fst_cases (fun i => M (k + i)) (n - k) with ⟨h, _⟩ | ⟨j, h, hj, _, _⟩
    · rw [h]; exact ⟨by simp [ix], by simp only [ix]; omega⟩
    · rw [h]; exact ⟨by simp only [ix]; omega, by simp only [ix]; omega⟩
  rcases fst_cases M k with ⟨h, hf⟩ | ⟨i, h, hi, hm, hf⟩
  · rcases fst_cases (fun i => M (k + i)) (n - k) with ⟨h', hf'⟩ | ⟨j, h', hj, hm', hf'⟩
    · right
      have hall : ∀ q, q < n → M q = false := fun q hq => by
        by_cases hqk : q < k
        · exact hf q hqk
        · have := hf' (q - k) (by omega)
          rwa [show k + (q - k) = q from by omega] at this
      exact ⟨by rw [fst_none hall]; rfl, by rw [h]; rfl, by rw [h']; rfl, hall⟩
    · left
      have hall : ∀ q, q < k + j → M q = false := fun q hq => by
        by_cases hqk : q < k
        · exact hf q hqk
        · have := hf' (q - k) (by omega)
          rwa [show k + (q - k) = q from by omega] at this
      exact ⟨k + j, by rw [fst_some (k := k + j) (by omega) hm' hall]; rfl, by omega, hm', hall, .inr ⟨by rw [h]; rfl, j, by rw [h']; rfl, rfl⟩⟩
  · left
    exact ⟨i, by rw [fst_some (k := i) (by omega) hm hf]; rfl, by omega, hm, hf, .inl ⟨by rw [h]; rfl, hz⟩⟩

theorem mark_shift (C : Nat → Option Addr) (cb : Nat → Bool) (k : Nat) : mark (flag (fun i => C (k + i)) (fun i => cb (k + i))) = fun i => mark (flag C cb) (k + i) := rfl

set_option maxRecDepth 100000 in
set_option maxHeartbeats 4000000 in
theorem concat_in (a : Option Addr) (n c k : Nat) (w : World) (S : Nat → Nat → ByteArray) (C D : Nat → Option Addr) (cb db : Nat → Bool) (hn : n ≤ 1048576) (hc : n ≤ c) (hcm : c ≤ 9223372036854775807) (hk : k ≤ n)
  (hV : View w a n S C D cb db) 
  (h5 : Calls Try.prog 5 #[.slice a n c, .int .i64 k] w fun e w' => IsBool e ∧ w' = w)
  (h6 : Calls Try.prog 6 #[.slice a n c] w fun e w' => IsBool e ∧ w' = w) :
    Calls Try.prog 3 #[.slice a n c, .int .i64 k] w fun e w' => e = .returned (.bool true) ∧ Below w.heap.size w w' := by
  have H5 := hide h5; clear h5
  have H6 := hide h6; clear h6
  have hcut := run_cut a n c k hk
  have hhead := run_head a n c k (by omega)
  obtain ⟨a2, ha2⟩ : ∃ a2, cutAt a k c = a2 := ⟨_, rfl⟩
  rw [ha2] at hcut
  have HA2 := hide ha2; clear ha2
  go_enter Try.func3, Try.ntmps3
  go_wp2_with fail
  refine H5.out.mono ?_
  rintro e w' ⟨⟨r, rfl⟩, hw⟩
  subst hw
  cases r
  · go_wp2_with fail
    go_ret
    exact ⟨rfl, Below.refl _ _⟩
  go_wp2_with fail
  refine H6.out.mono ?_
  rintro e w' ⟨⟨r, rfl⟩, hw⟩
  subst hw
  cases r
  · go_wp2_with fail
    go_ret
    exact ⟨rfl, Below.refl _ _⟩
  clear H5 H6
  go_wp2_with fail
  refine (api_any a n c _ S C D cb db hn hV).mono ?_
  rintro e w1 ⟨aw, rfl, hb1, hw1⟩
  have hV1 := hV.below hb1
  clear hV
  go_wp2_with fail
  generalize hW2 : World.alloc w1 _ = W2
  obtain ⟨hb2, hm2, hs2⟩ := boxed w1 (.slice aw n n) W2 hW2
  clear hW2
  have hw2 := hw1.below hb2
  have hV2 := hV1.below hb2
  clear hw1 hV1
  refine (api_any a k c _ S C D cb db (by omega) (hV2.upto k hk)).mono ?_
  rintro e w3 ⟨aa, rfl, hb3, ha3⟩
  have hw3 := hw2.below hb3
  have hV3 := hV2.below hb3
  have hm3 := (hb3.cell (p := ⟨w1.heap.size, 14, none⟩) hs2).trans hm2
  have hs3 : w1.heap.size < w3.heap.size := Nat.lt_of_lt_of_le hs2 hb3.size
  clear hw2 hV2 hm2
  go_wp2_with fail
  generalize hW4 : World.alloc w3 _ = W4
  obtain ⟨hb4, hm4, hs4⟩ := boxed w3 (.slice aa k k) W4 hW4
  clear hW4
  have ha4 := ha3.below hb4
  have hw4 := hw3.below hb4
  have hV4 := hV3.below hb4
  have hmw4 := (hb4.cell (p := ⟨w1.heap.size, 14, none⟩) hs3).trans hm3
  have hsw4 : w1.heap.size < W4.heap.size := Nat.lt_of_lt_of_le hs3 hb4.size
  clear ha3 hw3 hV3 hm3
  refine (api_any a2 (n - k) (c - k) _ _ _ _ _ _ (by omega) (HA2.out ▸ hV4.from k hk hc)).mono ?_
  rintro e w5 ⟨ab, rfl, hb5, hz5⟩
  have ha5 := ha4.below hb5
  have hw5 := hw4.below hb5
  have hV5 := hV4.below hb5
  have hmw5 := (hb5.cell (p := ⟨w1.heap.size, 14, none⟩) hsw4).trans hmw4
  have hma5 := (hb5.cell (p := ⟨w3.heap.size, 14, none⟩) hs4).trans hm4
  have hsw5 : w1.heap.size < w5.heap.size := Nat.lt_of_lt_of_le hsw4 hb5.size
  have hsa5 : w3.heap.size < w5.heap.size := Nat.lt_of_lt_of_le hs4 hb5.size
  clear ha4 hw4 hV4 hmw4 hm4
  go_wp2_with fail
  generalize hW6 : World.alloc w5 _ = W6
  obtain ⟨hb6, hm6, hs6⟩ := boxed w5 (.slice ab (n - k) (n - k)) W6 hW6
  clear hW6
  have st : St W6 w1.heap.size w3.heap.size w5.heap.size aw aa ab _ _ _ n k (n - k) (flag C cb) (flag (fun i => C (k + i)) (fun i => cb (k + i))) a S C D cb db :=
    ⟨(hb6.cell (p := ⟨w1.heap.size, 14, none⟩) hsw5).trans hmw5, (hb6.cell (p := ⟨w3.heap.size, 14, none⟩) hsa5).trans hma5, hm6, hw5.below hb6, ha5.below hb6, hz5.below hb6, hV5.below hb6⟩
  have hbel : Below w'.heap.size w' W6 := by
    have l1 := hb1.size; have l2 := hb2.size; have l3 := hb3.size; have l4 := hb4.size; have l5 := hb5.size
    exact ((((hb1.trans (hb2.mono l1)).trans (hb3.mono (by omega))).trans (hb4.mono (by omega))).trans (hb5.mono (by omega))).trans (hb6.mono (by omega))
  clear hz5 ha5 hw5 hV5 hmw5 hma5 hb1 hb2 hb3 hb4 hb5 hb6 hs2 hs3 hs4 hsw4 hsw5 hsa5 hs6 hm6
  generalize w1.heap.size = mw at *
  generalize w3.heap.size = ma at *
  generalize w5.heap.size = mz at *
  generalize W2.heap.size = ga at *
  generalize W4.heap.size = gz at *
  clear w1 w3 w5 W2 W4
  have ST := hide st; clear st
  have smw := ST.out.mw
  have h3 := three (mark (flag C cb)) n k hk
  rw [← mark_shift] at h3
  obtain ⟨iw, hiw⟩ : ∃ iw, ix (fst (mark (flag C cb)) n) = iw := ⟨_, rfl⟩
  obtain ⟨ia, hia⟩ : ∃ ia, ix (fst (mark (flag C cb)) k) = ia := ⟨_, rfl⟩
  obtain ⟨ib, hib⟩ : ∃ ib, ix (fst (mark (flag (fun i => C (k + i)) (fun i => cb (k + i)))) (n - k)) = ib := ⟨_, rfl⟩
  rw [hiw, hia, hib] at h3
  have H3 := hide h3; clear h3
  have HW := hide hiw; have HA := hide hia; have HB := hide hib; clear hiw hia hib
  go_region_held3 (fun w' => w'.cell? ⟨mw, 14, none⟩ = some (.slice aw n n)) (first | exact ST7.out.mw | go_keep)
    (first
      | (go_at_call 9; refine (ctrl_any mw aw _ n (flag C cb) _ hn (by first | exact ST.out.mw | exact ST.out.drew.mw) (by first | exact ST.out.hw | exact ST.out.drew.hw)).mono ?_; rintro e w7 ⟨rfl, hb7⟩; have ST7 := hide (ST.out.drew.below hb7))
      | (go_at_call 8; refine (index_eq aw _ n (flag C cb) (mark (flag C cb)) _ hn ST7.out.hw iw HW.out).mono ?_; rintro e w8 ⟨rfl, hw8⟩; subst hw8))
  have hbel8 := hbel.trans ((Below.drew (Below.refl _ _)).trans (hb7.mono hbel.size))
  clear hb7 hbel ST smw
  have sma := ST7.out.ma
  go_wp2_with fail
  go_region_held3 (fun w' => w'.cell? ⟨ma, 14, none⟩ = some (.slice aa k k)) (first | exact ST9.out.ma | go_keep)
    (first
      | (go_at_call 9; refine (ctrl_any ma aa _ k (flag C cb) _ (by omega) (by first | exact ST7.out.ma | exact ST7.out.drew.ma) (by first | exact ST7.out.ha | exact ST7.out.drew.ha)).mono ?_; rintro e w9 ⟨rfl, hb9⟩; have ST9 := hide (ST7.out.drew.below hb9))
      | (go_at_call 8; refine (index_eq aa _ k (flag C cb) (mark (flag C cb)) _ (by omega) ST9.out.ha ia HA.out).mono ?_; rintro e w10 ⟨rfl, hw10⟩; subst hw10))
  have hbel10 := hbel8.trans ((Below.drew (Below.refl _ _)).trans (hb9.mono hbel8.size))
  clear hb9 hbel8 ST7 sma
  have smz := ST9.out.mz
  go_wp2_with fail
  go_region_held3 (fun w' => w'.cell? ⟨mz, 14, none⟩ = some (.slice ab (n - k) (n - k))) (first | exact ST11.out.mz | go_keep)
    (first
      | (go_at_call 9; refine (ctrl_any mz ab _ (n - k) (flag (fun i => C (k + i)) (fun i => cb (k + i))) _ (by omega) (by first | exact ST9.out.mz | exact ST9.out.drew.mz) (by first | exact ST9.out.hz | exact ST9.out.drew.hz)).mono ?_; rintro e w11 ⟨rfl, hb11⟩; have ST11 := hide (ST9.out.drew.below hb11))
      | (go_at_call 8; refine (index_eq ab _ (n - k) _ (mark (flag (fun i => C (k + i)) (fun i => cb (k + i)))) _ (by omega) ST11.out.hz ib HB.out).mono ?_; rintro e w12 ⟨rfl, hw12⟩; subst hw12))
  have hbel12 := hbel10.trans ((Below.drew (Below.refl _ _)).trans (hb11.mono hbel10.size))
  clear hb11 hbel10 ST9 smz
  have HBE := hide hbel12; clear hbel12
  have hvr := ST11.out.v
  have hmw := ST11.out.mw
  rcases H3.out with ⟨p, rfl, hp, hM, hno, hrest⟩ | ⟨rfl, rfl, rfl, hno⟩
  · obtain ⟨b, off, hx, hR⟩ := hvr.refs (by omega)
    subst hx
    clear hvr
    have e1 : ((p : Int) == -2) = false := by simp only [beq_eq_false_iff_ne, ne_eq]; omega
    have e2 : (ia == -2) = false := by simp only [beq_eq_false_iff_ne, ne_eq]; rcases hrest with ⟨h, _⟩ | ⟨h, _⟩ <;> omega
    have e3 : (ib == -2) = false := by simp only [beq_eq_false_iff_ne, ne_eq]; rcases hrest with ⟨_, h, _⟩ | ⟨_, j, h, _⟩ <;> omega
    have hEl := ST11.out.hw.els p hp
    have hat := ST11.out.hw.at_ (by omega)
    subst hat
    have HRR := hide hR; clear hR
    have HNO := hide hno; have HM := hide hM; have HR := hide hrest; have HEL := hide hEl; clear hno hM hrest H3 hEl
    go_wp2_with fail
    go_loopw [11, 12] (fun f i wr => ∃ q : Nat, q ≤ p ∧ i = .int .i64 q ∧ f = .bool false ∧ wr = w12) (fun _ i _ => n - (intOf i).toNat)
    case atStart => exact ⟨0, by omega, rfl, rfl, rfl⟩
    case round =>
      obtain ⟨q, hq, rfl, rfl, hwr⟩ := hrel
      subst hwr
      have hlt : q < n := by omega
      have c4 := HRR.out.c q hlt
      by_cases hqp : q = p
      · subst hqp
        have hc : ∃ pp, C q = some pp ∧ wr.cell? pp = some (.bool true) := by
          cases hC : C q with
          | none => have := HM.out; rw [mark_none hC] at this; cases this
          | some pp =>
            refine ⟨pp, rfl, ?_⟩
            rw [(HRR.out.cp q hlt pp hC).1, ← mark_some (cb := cb) hC, HM.out]
        obtain ⟨pp, hC, hpp⟩ := hc
        rw [hC] at c4
        have HC := hide hC; clear hC
        obtain ⟨s0, s1, s2, s3, a4, a5, d0, d1, d2, d3, d4, d5, hfr, hfl⟩ := HEL.out
        have hg4 : ∃ z, a4 = some ⟨z, 0, none⟩ ∧ wr.cell? ⟨z, 0, none⟩ = some (.bool true) := by
          rcases hfl with ⟨h, _⟩ | ⟨bb, z, h1, h2, _, _, h5⟩
          · have := HM.out; simp [mark, h] at this
          · have := HM.out; simp [mark, h1] at this; subst this; exact ⟨z, h2, h5⟩
        obtain ⟨z, rfl, hz⟩ := hg4
        clear hfl hfr d0 d1 d2 d3 d5
        rcases HR.out with ⟨rfl, hb1, hb2⟩ | ⟨rfl, j, rfl, hqj⟩
        · go_wp2_with (go_at_call 10; refine (marked_at _ true _ (by assumption)).mono ?_; rintro e w13 ⟨rfl, hw13⟩; subst hw13)
          go_ret
          exact ⟨rfl, HBE.out⟩
        · have e4 : ((q : Int) == (k : Int) + (j : Int)) = true := by simp; omega
          have hkj : (k : Int) + (j : Int) ≤ 1048576 := by omega
          have HQJ := hide hqj; clear hqj
          go_wp2_with (go_at_call 10; refine (marked_at _ true _ (by assumption)).mono ?_; rintro e w13 ⟨rfl, hw13⟩; subst hw13)
          go_ret
          exact ⟨rfl, HBE.out⟩
      · have hMq := HNO.out q (by omega)
        cases hC : C q with
        | none =>
          rw [hC] at c4
          have HC := hide hC; clear hC hMq
          go_wp2_with (go_at_call 10; refine (marked_nil _).mono ?_; rintro e w13 ⟨rfl, hw13⟩; subst hw13)
          go_roundw
          case rel => exact ⟨q + 1, by omega, by go_num, rfl, by first | rfl | trivial⟩
          case measure => simp [intOf]; omega
        | some pp =>
          rw [hC] at c4
          have hpp : wr.cell? pp = some (.bool false) := by
            rw [(HRR.out.cp q hlt pp hC).1, ← mark_some (cb := cb) hC, hMq]
          have HC := hide hC; clear hC hMq
          go_wp2_with (go_at_call 10; refine (marked_at pp false _ (by assumption)).mono ?_; rintro e w13 ⟨rfl, hw13⟩; subst hw13)
          go_roundw
          case rel => exact ⟨q + 1, by omega, by go_num, rfl, by first | rfl | trivial⟩
          case measure => simp [intOf]; omega
  · clear H3
    have HNO := hide hno; clear hno
    have HVR := hide hvr; clear hvr
    go_wp2_with fail
    go_loopw [11, 12] (fun f i wr => ∃ q : Nat, q ≤ n ∧ i = .int .i64 q ∧ f = .bool false ∧ wr = w12) (fun _ i _ => n - (intOf i).toNat)
    case atStart => exact ⟨0, by omega, rfl, rfl, rfl⟩
    case round =>
      obtain ⟨q, hq, rfl, rfl, hwr⟩ := hrel
      subst hwr
      by_cases hlt : q < n
      · obtain ⟨b, off, hx, hR⟩ := HVR.out.refs (by omega)
        subst hx
        have hMq := HNO.out q hlt
        have c4 := hR.c q hlt
        have hcp := hR.cp q hlt
        clear hR
        cases hC : C q with
        | none =>
          rw [hC] at c4
          have HC := hide hC; clear hC hMq hcp
          go_wp2_with (go_at_call 10; refine (marked_nil _).mono ?_; rintro e w13 ⟨rfl, hw13⟩; subst hw13)
          go_roundw
          case rel => exact ⟨q + 1, by omega, by go_num, rfl, by first | rfl | trivial⟩
          case measure => simp [intOf]; omega
        | some pp =>
          rw [hC] at c4
          have hpp : wr.cell? pp = some (.bool false) := by
            rw [(hcp pp hC).1, ← mark_some (cb := cb) hC, hMq]
          have HC := hide hC; clear hC hMq hcp
          go_wp2_with (go_at_call 10; refine (marked_at pp false _ (by assumption)).mono ?_; rintro e w13 ⟨rfl, hw13⟩; subst hw13)
          go_roundw
          case rel => exact ⟨q + 1, by omega, by go_num, rfl, by first | rfl | trivial⟩
          case measure => simp [intOf]; omega
      · go_wp2_with fail
        go_ret
        exact ⟨rfl, HBE.out⟩

/-- The cut outside the list, or the gates shut: the law answers true at once. -/
theorem concat_out (a : Option Addr) (n c : Nat) (kk : Int) (w : World) (hn : n ≤ 1048576) (ho : kk < 0 ∨ (n : Int) < kk)
  (h5 : Calls Try.prog 5 #[.slice a n c, .int .i64 kk] w fun e w' => IsBool e ∧ w' = w)
  (h6 : Calls Try.prog 6 #[.slice a n c] w fun e w' => IsBool e ∧ w' = w) :
    Calls Try.prog 3 #[.slice a n c, .int .i64 kk] w fun e w' => e = .returned (.bool true) ∧ Below w.heap.size w w' := by
  have H5 := hide h5; clear h5
  have H6 := hide h6; clear h6
  go_enter Try.func3, Try.ntmps3
  go_wp2_with fail
  refine H5.out.mono ?_
  rintro e w' ⟨⟨r, rfl⟩, hw⟩
  subst hw
  cases r
  · go_wp2_with fail
    go_ret
    exact ⟨rfl, Below.refl _ _⟩
  go_wp2_with fail
  refine H6.out.mono ?_
  rintro e w' ⟨⟨r, rfl⟩, hw⟩
  subst hw
  cases r
  · go_wp2_with fail
    go_ret
    exact ⟨rfl, Below.refl _ _⟩
  rcases ho with ho | ho
  · go_wp2_with fail
    go_ret
    exact ⟨rfl, Below.refl _ _⟩
  · have ho' : ¬ kk < 0 := by omega
    go_wp2_with fail
    go_ret
    exact ⟨rfl, Below.refl _ _⟩

theorem concat_walk (a : Option Addr) (n c : Nat) (kk : Int) (w : World) (S : Nat → Nat → ByteArray) (C D : Nat → Option Addr) (cb db : Nat → Bool) (hc : n ≤ c) (hcm : c ≤ 9223372036854775807) (hV : View w a n S C D cb db) :
    Calls Try.prog 3 #[.slice a n c, .int .i64 kk] w fun e w' => e = .returned (.bool true) ∧ Below w.heap.size w w' := by
  rcases bytesC_any a n c kk w S C D cb db hV with ⟨hn, h5⟩ | h5
  · have h6 := fit_any a n c w S C D cb db hV hn
    by_cases ho : kk < 0 ∨ (n : Int) < kk
    · exact concat_out a n c kk w hn ho h5 h6
    · obtain ⟨k, rfl⟩ := Int.eq_ofNat_of_zero_le (show 0 ≤ kk by omega)
      exact concat_in a n c k w S C D cb db hn hc hcm (by omega) hV h5 h6
  · have H5 := hide h5; clear h5
    go_enter Try.func3, Try.ntmps3
    go_wp2_with fail
    refine H5.out.mono ?_
    rintro e w' ⟨rfl, hw⟩
    subst hw
    go_wp2_with fail
    go_ret
    exact ⟨rfl, Below.refl _ _⟩
end Go.Proofs.Qxb6629165a
