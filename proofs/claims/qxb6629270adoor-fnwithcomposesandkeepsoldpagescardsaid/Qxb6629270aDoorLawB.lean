/-
  THE WALK over the second law.
-/
import Derived.Test.Qxb6629270aDoorCarry
import Derived.Test.Qxb6629270aDoorBytes
import Derived.Test.Qxb6629270aDoorMerge
namespace Go.Proofs.Qxb6629270aDoor
open Go.RowKit
set_option linter.unusedVariables false
attribute [local go_sem ↓] Go.wp_at_zero Go.wp_at_succ

set_option maxRecDepth 100000 in
set_option maxHeartbeats 8000000 in
theorem law4 (first : Int) (a b c : Option Addr) (n ca m cb l cc : Nat) (N N' N'' : Nat → Int) (L L' L'' : Nat → List Int) (w : World) (hf0 : -9223372036854775808 ≤ first) (hf1 : first ≤ 9223372036854775807) (zA : Zs n N L) (zB : Zs m N' L') (zC : Zs l N'' L'') (hA : Es w a n N L) (hB : Es w b m N' L') (hC : Es w c l N'' L'') (hT : TabAt 0 Lib.deBruijn64tab w) :
    Calls Tryd.prog 4 #[.int .i64 first, .slice a n ca, .slice b m cb, .slice c l cc] w fun e w' => e = .returned (.bool true) ∧ Kp w w' := by
  have HA := hide hA; have ZA := hide zA; clear hA zA
  have HB := hide hB; have ZB := hide zB; clear hB zB
  have HC := hide hC; have ZC := hide zC; clear hC zC
  have HT := hide hT; clear hT
  go_enter Tryd.func4, Tryd.ntmps4
  go_wp2_with fail
  refine (bytes13 first a b c n ca m cb l cc w N N' N'' L L' L'' ZA.out ZB.out ZC.out HA.out HB.out HC.out).mono ?_
  rintro e w' ⟨⟨r, rfl, hr⟩, hw⟩
  rw [hw]
  clear hw w'
  cases r with
  | false =>
    go_wp2_with fail
    go_ret
    exact ⟨rfl, Kp.refl _⟩
  | true =>
    obtain ⟨sA, sB, sC⟩ := hr rfl
    have SA := hide sA; have bA := sA.1; clear sA
    have SB := hide sB; have bB := sB.1; clear sB
    have SC := hide sC; have bC := sC.1; clear sC
    clear hr
    by_cases hA : n ≤ 4096
    case neg =>
      go_wp2_with fail
      go_ret
      exact ⟨rfl, Kp.refl _⟩
    by_cases hB : m ≤ 4096
    case neg =>
      go_wp2_with fail
      go_ret
      exact ⟨rfl, Kp.refl _⟩
    by_cases hC : l ≤ 4096
    case neg =>
      go_wp2_with fail
      go_ret
      exact ⟨rfl, Kp.refl _⟩
    go_wp2_with fail
    refine (add6 0 a n ca w N L SA.out (by omega) (by omega) HA.out).mono ?_
    rintro e w' ⟨⟨t0, ht0, hu0, rfl⟩, hw⟩
    rw [hw]
    clear hw w'
    go_wp2_with fail
    refine (add6 t0 b m cb w N' L' SB.out (by omega) (by omega) HB.out).mono ?_
    rintro e w' ⟨⟨t1, ht1, hu1, rfl⟩, hw⟩
    rw [hw]
    clear hw w'
    go_wp2_with fail
    refine (add6 t1 c l cc w N'' L'' SC.out (by omega) (by omega) HC.out).mono ?_
    rintro e w' ⟨⟨t2, ht2, hu2, rfl⟩, hw⟩
    rw [hw]
    clear hw w'
    by_cases hlim : t2 ≤ 1048576
    case neg =>
      go_wp2_with fail
      go_ret
      exact ⟨rfl, Kp.refl _⟩
    go_wp2_with fail
    refine (page7 first a n ca w N L ZA.out hf0 hf1 HA.out).mono ?_
    rintro e w' ⟨⟨r, rfl, hr⟩, hw⟩
    rw [hw]
    clear hw w'
    cases r with
    | false =>
      go_wp2_with fail
      go_ret
      exact ⟨rfl, Kp.refl _⟩
    | true =>
      have RA := hide (hr rfl); clear hr
      go_wp2_with fail
      refine (page7 first b m cb w N' L' ZB.out hf0 hf1 HB.out).mono ?_
      rintro e w' ⟨⟨r, rfl, hr⟩, hw⟩
      rw [hw]
      clear hw w'
      cases r with
      | false =>
        go_wp2_with fail
        go_ret
        exact ⟨rfl, Kp.refl _⟩
      | true =>
        have RB := hide (hr rfl); clear hr
        go_wp2_with fail
        refine (page7 first c l cc w N'' L'' ZC.out hf0 hf1 HC.out).mono ?_
        rintro e w' ⟨⟨r, rfl, hr⟩, hw⟩
        rw [hw]
        clear hw w'
        cases r with
        | false =>
          go_wp2_with fail
          go_ret
          exact ⟨rfl, Kp.refl _⟩
        | true =>
          have RC := hide (hr rfl); clear hr
          have KK := hide (Kp.refl w)
          go_wp2_with fail
          refine (clone8 a n ca N L w (by omega) SA.out.2 HA.out).mono ?_
          rintro e w1 ⟨xA, rfl, hb, hE⟩
          have HB1 := hide (HB.out.kept hb)
          clear HB
          have HC1 := hide (HC.out.kept hb)
          clear HC
          have HT1 := hide (tab_kept HT.out hb)
          clear HT
          have KK1 := hide (KK.out.trans hb)
          clear KK
          have EA := hide hE
          clear hb hE
          go_wp2_with fail
          refine (clone8 b m cb N' L' w1 (by omega) SB.out.2 HB1.out).mono ?_
          rintro e w2 ⟨xB, rfl, hb, hE⟩
          have HC2 := hide (HC1.out.kept hb)
          clear HC1
          have HT2 := hide (tab_kept HT1.out hb)
          clear HT1
          have KK2 := hide (KK1.out.trans hb)
          clear KK1
          have EA2 := hide (EA.out.kept hb)
          clear EA
          have EB := hide hE
          clear hb hE
          go_wp2_with fail
          refine (clone8 c l cc N'' L'' w2 (by omega) SC.out.2 HC2.out).mono ?_
          rintro e w3 ⟨xC, rfl, hb, hE⟩
          have HT3 := hide (tab_kept HT2.out hb)
          clear HT2
          have KK3 := hide (KK2.out.trans hb)
          clear KK2
          have EA3 := hide (EA2.out.kept hb)
          clear EA2
          have EB3 := hide (EB.out.kept hb)
          clear EB
          have EC := hide hE
          clear hb hE
          go_wp2_with fail
          refine (clone8 xA n n N L w3 (by omega) SA.out.2 EA3.out).mono ?_
          rintro e w4 ⟨yA, rfl, hb, hE⟩
          have HT4 := hide (tab_kept HT3.out hb)
          clear HT3
          have KK4 := hide (KK3.out.trans hb)
          clear KK3
          have EA4 := hide (EA3.out.kept hb)
          clear EA3
          have EB4 := hide (EB3.out.kept hb)
          clear EB3
          have EC4 := hide (EC.out.kept hb)
          clear EC
          have PA := hide hE
          clear hb hE
          go_wp2_with fail
          refine (clone8 xB m m N' L' w4 (by omega) SB.out.2 EB4.out).mono ?_
          rintro e w5 ⟨yB, rfl, hb, hE⟩
          have HT5 := hide (tab_kept HT4.out hb)
          clear HT4
          have KK5 := hide (KK4.out.trans hb)
          clear KK4
          have EA5 := hide (EA4.out.kept hb)
          clear EA4
          have EB5 := hide (EB4.out.kept hb)
          clear EB4
          have EC5 := hide (EC4.out.kept hb)
          clear EC4
          have PA5 := hide (PA.out.kept hb)
          clear PA
          have PB := hide hE
          clear hb hE
          go_wp2_with fail
          refine (clone8 xC l l N'' L'' w5 (by omega) SC.out.2 EC5.out).mono ?_
          rintro e w6 ⟨yC, rfl, hb, hE⟩
          have HT6 := hide (tab_kept HT5.out hb)
          clear HT5
          have KK6 := hide (KK5.out.trans hb)
          clear KK5
          have EA6 := hide (EA5.out.kept hb)
          clear EA5
          have EB6 := hide (EB5.out.kept hb)
          clear EB5
          have EC6 := hide (EC5.out.kept hb)
          clear EC5
          have PA6 := hide (PA5.out.kept hb)
          clear PA5
          have PB6 := hide (PB.out.kept hb)
          clear PB
          have PC := hide hE
          clear hb hE
          go_wp2_with fail
          refine (list10 yA n n N L w6 (by omega) PA6.out).mono ?_
          rintro e w7 ⟨zA, rfl, hb, hE⟩
          have HT7 := hide (tab_kept HT6.out hb)
          clear HT6
          have KK7 := hide (KK6.out.trans hb)
          clear KK6
          have EA7 := hide (EA6.out.kept hb)
          clear EA6
          have EB7 := hide (EB6.out.kept hb)
          clear EB6
          have EC7 := hide (EC6.out.kept hb)
          clear EC6
          have PA7 := hide (PA6.out.kept hb)
          clear PA6
          have PB7 := hide (PB6.out.kept hb)
          clear PB6
          have PC7 := hide (PC.out.kept hb)
          clear PC
          have QA := hide hE
          clear hb hE
          go_wp2_with fail
          refine (with9 none first zA n n N L none0 w7 (by omega) hf0 hf1 (Nat.le_refl _) QA.out RA.out (Opt.none0 _) HT7.out).mono ?_
          rintro e w8 ⟨p1, rfl, hb, hO⟩
          have HT8 := hide (tab_kept HT7.out hb)
          clear HT7
          have KK8 := hide (KK7.out.trans hb)
          clear KK7
          have EA8 := hide (EA7.out.kept hb)
          clear EA7
          have EB8 := hide (EB7.out.kept hb)
          clear EB7
          have EC8 := hide (EC7.out.kept hb)
          clear EC7
          have PA8 := hide (PA7.out.kept hb)
          clear PA7
          have PB8 := hide (PB7.out.kept hb)
          clear PB7
          have PC8 := hide (PC7.out.kept hb)
          clear PC7
          have O1 := hide hO
          clear hb hO
          go_wp2_with fail
          refine (list10 yB m m N' L' w8 (by omega) PB8.out).mono ?_
          rintro e w9 ⟨zB, rfl, hb, hE⟩
          have HT9 := hide (tab_kept HT8.out hb)
          clear HT8
          have KK9 := hide (KK8.out.trans hb)
          clear KK8
          have EA9 := hide (EA8.out.kept hb)
          clear EA8
          have EB9 := hide (EB8.out.kept hb)
          clear EB8
          have EC9 := hide (EC8.out.kept hb)
          clear EC8
          have PA9 := hide (PA8.out.kept hb)
          clear PA8
          have PB9 := hide (PB8.out.kept hb)
          clear PB8
          have PC9 := hide (PC8.out.kept hb)
          clear PC8
          have O19 := hide (O1.out.kept hb)
          clear O1
          have QB := hide hE
          clear hb hE
          go_wp2_with fail
          refine (with9 p1 first zB m m N' L' (app first N L none0 n) w9 (by omega) hf0 hf1 (Nat.le_refl _) QB.out RB.out O19.out HT9.out).mono ?_
          rintro e w10 ⟨p2, rfl, hb, hO⟩
          have HT10 := hide (tab_kept HT9.out hb)
          clear HT9
          have KK10 := hide (KK9.out.trans hb)
          clear KK9
          have EA10 := hide (EA9.out.kept hb)
          clear EA9
          have EB10 := hide (EB9.out.kept hb)
          clear EB9
          have EC10 := hide (EC9.out.kept hb)
          clear EC9
          have PA10 := hide (PA9.out.kept hb)
          clear PA9
          have PB10 := hide (PB9.out.kept hb)
          clear PB9
          have PC10 := hide (PC9.out.kept hb)
          clear PC9
          have O110 := hide (O19.out.kept hb)
          clear O19
          have O2 := hide hO
          clear hb hO
          go_wp2_with fail
          refine (list10 yC l l N'' L'' w10 (by omega) PC10.out).mono ?_
          rintro e w11 ⟨zC, rfl, hb, hE⟩
          have HT11 := hide (tab_kept HT10.out hb)
          clear HT10
          have KK11 := hide (KK10.out.trans hb)
          clear KK10
          have EA11 := hide (EA10.out.kept hb)
          clear EA10
          have EB11 := hide (EB10.out.kept hb)
          clear EB10
          have EC11 := hide (EC10.out.kept hb)
          clear EC10
          have PA11 := hide (PA10.out.kept hb)
          clear PA10
          have PB11 := hide (PB10.out.kept hb)
          clear PB10
          have PC11 := hide (PC10.out.kept hb)
          clear PC10
          have O111 := hide (O110.out.kept hb)
          clear O110
          have O211 := hide (O2.out.kept hb)
          clear O2
          have QC := hide hE
          clear hb hE
          go_wp2_with fail
          refine (with9 p2 first zC l l N'' L'' (app first N' L' (app first N L none0 n) m) w11 (by omega) hf0 hf1 (Nat.le_refl _) QC.out RC.out O211.out HT11.out).mono ?_
          rintro e w12 ⟨p3, rfl, hb, hO⟩
          have HT12 := hide (tab_kept HT11.out hb)
          clear HT11
          have KK12 := hide (KK11.out.trans hb)
          clear KK11
          have EA12 := hide (EA11.out.kept hb)
          clear EA11
          have EB12 := hide (EB11.out.kept hb)
          clear EB11
          have EC12 := hide (EC11.out.kept hb)
          clear EC11
          have PA12 := hide (PA11.out.kept hb)
          clear PA11
          have PB12 := hide (PB11.out.kept hb)
          clear PB11
          have PC12 := hide (PC11.out.kept hb)
          clear PC11
          have O112 := hide (O111.out.kept hb)
          clear O111
          have O212 := hide (O211.out.kept hb)
          clear O211
          have O3 := hide hO
          clear hb hO
          go_wp2_with fail
          refine (merge14 first yB yC m m l l N' N'' L' L'' w12 hB hC PB12.out PC12.out RB.out RC.out).mono ?_
          rintro e w13 ⟨yM, q, M, K, rfl, hb, hE, hJ⟩
          have HT13 := hide (tab_kept HT12.out hb)
          clear HT12
          have KK13 := hide (KK12.out.trans hb)
          clear KK12
          have EA13 := hide (EA12.out.kept hb)
          clear EA12
          have EB13 := hide (EB12.out.kept hb)
          clear EB12
          have EC13 := hide (EC12.out.kept hb)
          clear EC12
          have PB13 := hide (PB12.out.kept hb)
          clear PB12
          have PC13 := hide (PC12.out.kept hb)
          clear PC12
          have O113 := hide (O112.out.kept hb)
          clear O112
          have O213 := hide (O212.out.kept hb)
          clear O212
          have O313 := hide (O3.out.kept hb)
          clear O3
          have PM := hide hE
          clear hb hE
          have hq := hJ.len
          have JN := hide hJ; clear hJ
          go_wp2_with fail
          refine (list10 yM q (m + l) M K w13 (by omega) PM.out).mono ?_
          rintro e w14 ⟨zM, rfl, hb, hE⟩
          have HT14 := hide (tab_kept HT13.out hb)
          clear HT13
          have KK14 := hide (KK13.out.trans hb)
          clear KK13
          have EA14 := hide (EA13.out.kept hb)
          clear EA13
          have EB14 := hide (EB13.out.kept hb)
          clear EB13
          have EC14 := hide (EC13.out.kept hb)
          clear EC13
          have O114 := hide (O113.out.kept hb)
          clear O113
          have O214 := hide (O213.out.kept hb)
          clear O213
          have O314 := hide (O313.out.kept hb)
          clear O313
          have QM := hide hE
          clear hb hE
          go_wp2_with fail
          refine (with9 p1 first zM q q M K (app first N L none0 n) w14 (by omega) hf0 hf1 (Nat.le_refl _) QM.out JN.out.rise O114.out HT14.out).mono ?_
          rintro e w15 ⟨p4, rfl, hb, hO⟩
          have HT15 := hide (tab_kept HT14.out hb)
          clear HT14
          have KK15 := hide (KK14.out.trans hb)
          clear KK14
          have EA15 := hide (EA14.out.kept hb)
          clear EA14
          have EB15 := hide (EB14.out.kept hb)
          clear EB14
          have EC15 := hide (EC14.out.kept hb)
          clear EC14
          have O115 := hide (O114.out.kept hb)
          clear O114
          have O215 := hide (O214.out.kept hb)
          clear O214
          have O315 := hide (O314.out.kept hb)
          clear O314
          have O4 := hide hO
          clear hb hO
          have O4b := hide ((funext fun x => JN.out.law (app first N L none0 n) x : app first M K (app first N L none0 n) q = (app first N'' L'' (app first N' L' (app first N L none0 n) m) l)) ▸ O4.out); clear O4
          go_wp2_with fail
          refine (model12 first xA xB xC n m l n m l N N' N'' L L' L'' w15 (by omega) (by omega) (by omega) hf0 hf1 EA15.out EB15.out EC15.out RA.out RB.out RC.out).mono ?_
          rintro e w16 ⟨rfl, hT⟩
          have hb : Kp w15 w16 := hT.bel
          have T3 : Hid (Tb w16 w15.heap.size (app first N'' L'' (app first N' L' (app first N L none0 n) m) l)) := hide (Tb.new hT)
          have KK16 := hide (KK15.out.trans hb)
          clear KK15
          have EA16 := hide (EA15.out.kept hb)
          clear EA15
          have EB16 := hide (EB15.out.kept hb)
          clear EB15
          have EC16 := hide (EC15.out.kept hb)
          clear EC15
          have O116 := hide (O115.out.kept hb)
          clear O115
          have O216 := hide (O215.out.kept hb)
          clear O215
          have O316 := hide (O315.out.kept hb)
          clear O315
          have O416 := hide (O4b.out.kept hb)
          clear O4b
          clear hb hT
          generalize w15.heap.size = mT3 at *
          go_wp2_with fail
          refine (model12 first xA none none n 0 0 n 0 0 N N N L L L w16 (by omega) (by omega) (by omega) hf0 hf1 EA16.out (Es.zero _ _ _ _) (Es.zero _ _ _ _) RA.out (Rise.zero _ _) (Rise.zero _ _)).mono ?_
          rintro e w17 ⟨rfl, hT⟩
          have hb : Kp w16 w17 := hT.bel
          have T1 : Hid (Tb w17 w16.heap.size (app first N L none0 n)) := hide (Tb.new hT)
          have KK17 := hide (KK16.out.trans hb)
          clear KK16
          have EA17 := hide (EA16.out.kept hb)
          clear EA16
          have EB17 := hide (EB16.out.kept hb)
          clear EB16
          have EC17 := hide (EC16.out.kept hb)
          clear EC16
          have O117 := hide (O116.out.kept hb)
          clear O116
          have O217 := hide (O216.out.kept hb)
          clear O216
          have O317 := hide (O316.out.kept hb)
          clear O316
          have O417 := hide (O416.out.kept hb)
          clear O416
          have T317 := hide (T3.out.kept hb)
          clear T3
          clear hb hT
          generalize w16.heap.size = mT1 at *
          go_wp2_with fail
          refine (reads p1 mT1 (app first N L none0 n) w17 (fun i _ => (app_len SA.out.2 (none0_len _))) O117.out T1.out).mono ?_
          rintro e w18 ⟨rfl, hb⟩
          have KK18 := hide (KK17.out.trans hb)
          clear KK17
          have EA18 := hide (EA17.out.kept hb)
          clear EA17
          have EB18 := hide (EB17.out.kept hb)
          clear EB17
          have EC18 := hide (EC17.out.kept hb)
          clear EC17
          have O118 := hide (O117.out.kept hb)
          clear O117
          have O218 := hide (O217.out.kept hb)
          clear O217
          have O318 := hide (O317.out.kept hb)
          clear O317
          have O418 := hide (O417.out.kept hb)
          clear O417
          have T318 := hide (T317.out.kept hb)
          clear T317
          have T118 := hide (T1.out.kept hb)
          clear T1
          clear hb
          go_wp2_with fail
          refine (model12 first xA xB none n m 0 n m 0 N N' N L L' L w18 (by omega) (by omega) (by omega) hf0 hf1 EA18.out EB18.out (Es.zero _ _ _ _) RA.out RB.out (Rise.zero _ _)).mono ?_
          rintro e w19 ⟨rfl, hT⟩
          have hb : Kp w18 w19 := hT.bel
          have T2 : Hid (Tb w19 w18.heap.size (app first N' L' (app first N L none0 n) m)) := hide (Tb.new hT)
          have KK19 := hide (KK18.out.trans hb)
          clear KK18
          have EA19 := hide (EA18.out.kept hb)
          clear EA18
          have EB19 := hide (EB18.out.kept hb)
          clear EB18
          have EC19 := hide (EC18.out.kept hb)
          clear EC18
          have O219 := hide (O218.out.kept hb)
          clear O218
          have O319 := hide (O318.out.kept hb)
          clear O318
          have O419 := hide (O418.out.kept hb)
          clear O418
          have T319 := hide (T318.out.kept hb)
          clear T318
          clear hb hT
          generalize w18.heap.size = mT2 at *
          go_wp2_with fail
          refine (reads p2 mT2 (app first N' L' (app first N L none0 n) m) w19 (fun i _ => (app_len SB.out.2 (app_len SA.out.2 (none0_len _)))) O219.out T2.out).mono ?_
          rintro e w20 ⟨rfl, hb⟩
          have KK20 := hide (KK19.out.trans hb)
          clear KK19
          have EA20 := hide (EA19.out.kept hb)
          clear EA19
          have EB20 := hide (EB19.out.kept hb)
          clear EB19
          have EC20 := hide (EC19.out.kept hb)
          clear EC19
          have O220 := hide (O219.out.kept hb)
          clear O219
          have O320 := hide (O319.out.kept hb)
          clear O319
          have O420 := hide (O419.out.kept hb)
          clear O419
          have T320 := hide (T319.out.kept hb)
          clear T319
          have T220 := hide (T2.out.kept hb)
          clear T2
          clear hb
          go_wp2_with fail
          refine (reads p3 mT3 (app first N'' L'' (app first N' L' (app first N L none0 n) m) l) w20 (fun i _ => (app_len SC.out.2 (app_len SB.out.2 (app_len SA.out.2 (none0_len _))))) O320.out T320.out).mono ?_
          rintro e w21 ⟨rfl, hb⟩
          have KK21 := hide (KK20.out.trans hb)
          clear KK20
          have EA21 := hide (EA20.out.kept hb)
          clear EA20
          have EB21 := hide (EB20.out.kept hb)
          clear EB20
          have EC21 := hide (EC20.out.kept hb)
          clear EC20
          have O321 := hide (O320.out.kept hb)
          clear O320
          have O421 := hide (O420.out.kept hb)
          clear O420
          have T321 := hide (T320.out.kept hb)
          clear T320
          clear hb
          go_wp2_with fail
          refine (reads p4 mT3 (app first N'' L'' (app first N' L' (app first N L none0 n) m) l) w21 (fun i _ => (app_len SC.out.2 (app_len SB.out.2 (app_len SA.out.2 (none0_len _))))) O421.out T321.out).mono ?_
          rintro e w22 ⟨rfl, hb⟩
          have KK22 := hide (KK21.out.trans hb)
          clear KK21
          have EA22 := hide (EA21.out.kept hb)
          clear EA21
          have EB22 := hide (EB21.out.kept hb)
          clear EB21
          have EC22 := hide (EC21.out.kept hb)
          clear EC21
          have O322 := hide (O321.out.kept hb)
          clear O321
          have O422 := hide (O421.out.kept hb)
          clear O421
          have T322 := hide (T321.out.kept hb)
          clear T321
          clear hb
          go_wp2_with fail
          go_ret
          exact ⟨rfl, KK22.out⟩
end Go.Proofs.Qxb6629270aDoor
