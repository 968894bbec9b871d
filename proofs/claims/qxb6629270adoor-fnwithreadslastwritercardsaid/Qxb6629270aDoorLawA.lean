/-
  THE WALK over the first law.
-/
import Derived.Test.Qxb6629270aDoorCarry
namespace Go.Proofs.Qxb6629270aDoor
open Go.RowKit
set_option linter.unusedVariables false
attribute [local go_sem ↓] Go.wp_at_zero Go.wp_at_succ

set_option maxRecDepth 100000 in
set_option maxHeartbeats 8000000 in
theorem law3 (first : Int) (a b : Option Addr) (n ca m cb : Nat) (N N' : Nat → Int) (L L' : Nat → List Int) (w : World) (hf0 : -9223372036854775808 ≤ first) (hf1 : first ≤ 9223372036854775807) (zA : Zs n N L) (zB : Zs m N' L') (hA : Es w a n N L) (hB : Es w b m N' L') (hT : TabAt 0 Lib.deBruijn64tab w) :
    Calls Tryd.prog 3 #[.int .i64 first, .slice a n ca, .slice b m cb] w fun e w' => e = .returned (.bool true) ∧ Kp w w' := by
  have HA := hide hA; have ZA := hide zA; clear hA zA
  have HB := hide hB; have ZB := hide zB; clear hB zB
  have HT := hide hT; clear hT
  go_enter Tryd.func3, Tryd.ntmps3
  go_wp2_with fail
  refine (bytes5 first a b n ca m cb w N N' L L' ZA.out ZB.out HA.out HB.out).mono ?_
  rintro e w' ⟨⟨r, rfl, hr⟩, hw⟩
  rw [hw]
  clear hw w'
  cases r with
  | false =>
    go_wp2_with fail
    go_ret
    exact ⟨rfl, Kp.refl _⟩
  | true =>
    obtain ⟨sA, sB⟩ := hr rfl
    have SA := hide sA; have bA := sA.1; clear sA
    have SB := hide sB; have bB := sB.1; clear sB
    clear hr
    by_cases hA : n ≤ 4096
    case neg =>
      go_wp2_with fail
      go_ret
      exact ⟨rfl, Kp.refl _⟩
    by_cases hB : m ≤ 4096
    case neg =>
      go_wp2_with fail
      go_ret
      exact ⟨rfl, Kp.refl _⟩
    go_wp2_with fail
    refine (add6 0 a n ca w N L SA.out (by omega) (by omega) HA.out).mono ?_
    rintro e w' ⟨⟨t0, ht0, hu0, rfl⟩, hw⟩
    rw [hw]
    clear hw w'
    go_wp2_with fail
    refine (add6 t0 b m cb w N' L' SB.out (by omega) (by omega) HB.out).mono ?_
    rintro e w' ⟨⟨t1, ht1, hu1, rfl⟩, hw⟩
    rw [hw]
    clear hw w'
    by_cases hlim : t1 ≤ 1048576
    case neg =>
      go_wp2_with fail
      go_ret
      exact ⟨rfl, Kp.refl _⟩
    go_wp2_with fail
    refine (page7 first a n ca w N L ZA.out hf0 hf1 HA.out).mono ?_
    rintro e w' ⟨⟨r, rfl, hr⟩, hw⟩
    rw [hw]
    clear hw w'
    cases r with
    | false =>
      go_wp2_with fail
      go_ret
      exact ⟨rfl, Kp.refl _⟩
    | true =>
      have RA := hide (hr rfl); clear hr
      go_wp2_with fail
      refine (page7 first b m cb w N' L' ZB.out hf0 hf1 HB.out).mono ?_
      rintro e w' ⟨⟨r, rfl, hr⟩, hw⟩
      rw [hw]
      clear hw w'
      cases r with
      | false =>
        go_wp2_with fail
        go_ret
        exact ⟨rfl, Kp.refl _⟩
      | true =>
        have RB := hide (hr rfl); clear hr
        have KK := hide (Kp.refl w)
        go_wp2_with fail
        refine (clone8 a n ca N L w (by omega) SA.out.2 HA.out).mono ?_
        rintro e w1 ⟨xA, rfl, hb, hE⟩
        have HB1 := hide (HB.out.kept hb)
        clear HB
        have HT1 := hide (tab_kept HT.out hb)
        clear HT
        have KK1 := hide (KK.out.trans hb)
        clear KK
        have EA := hide hE
        clear hb hE
        go_wp2_with fail
        refine (clone8 b m cb N' L' w1 (by omega) SB.out.2 HB1.out).mono ?_
        rintro e w2 ⟨xB, rfl, hb, hE⟩
        have HT2 := hide (tab_kept HT1.out hb)
        clear HT1
        have KK2 := hide (KK1.out.trans hb)
        clear KK1
        have EA2 := hide (EA.out.kept hb)
        clear EA
        have EB := hide hE
        clear hb hE
        go_wp2_with fail
        refine (clone8 xA n n N L w2 (by omega) SA.out.2 EA2.out).mono ?_
        rintro e w3 ⟨yA, rfl, hb, hE⟩
        have HT3 := hide (tab_kept HT2.out hb)
        clear HT2
        have KK3 := hide (KK2.out.trans hb)
        clear KK2
        have EA3 := hide (EA2.out.kept hb)
        clear EA2
        have EB3 := hide (EB.out.kept hb)
        clear EB
        have PA := hide hE
        clear hb hE
        go_wp2_with fail
        refine (clone8 xB m m N' L' w3 (by omega) SB.out.2 EB3.out).mono ?_
        rintro e w4 ⟨yB, rfl, hb, hE⟩
        have HT4 := hide (tab_kept HT3.out hb)
        clear HT3
        have KK4 := hide (KK3.out.trans hb)
        clear KK3
        have EA4 := hide (EA3.out.kept hb)
        clear EA3
        have EB4 := hide (EB3.out.kept hb)
        clear EB3
        have PA4 := hide (PA.out.kept hb)
        clear PA
        have PB := hide hE
        clear hb hE
        go_wp2_with fail
        refine (list10 yA n n N L w4 (by omega) PA4.out).mono ?_
        rintro e w5 ⟨zA, rfl, hb, hE⟩
        have HT5 := hide (tab_kept HT4.out hb)
        clear HT4
        have KK5 := hide (KK4.out.trans hb)
        clear KK4
        have EA5 := hide (EA4.out.kept hb)
        clear EA4
        have EB5 := hide (EB4.out.kept hb)
        clear EB4
        have PA5 := hide (PA4.out.kept hb)
        clear PA4
        have PB5 := hide (PB.out.kept hb)
        clear PB
        have QA := hide hE
        clear hb hE
        go_wp2_with fail
        refine (with9 none first zA n n N L none0 w5 (by omega) hf0 hf1 (Nat.le_refl _) QA.out RA.out (Opt.none0 _) HT5.out).mono ?_
        rintro e w6 ⟨p1, rfl, hb, hO⟩
        have HT6 := hide (tab_kept HT5.out hb)
        clear HT5
        have KK6 := hide (KK5.out.trans hb)
        clear KK5
        have EA6 := hide (EA5.out.kept hb)
        clear EA5
        have EB6 := hide (EB5.out.kept hb)
        clear EB5
        have PA6 := hide (PA5.out.kept hb)
        clear PA5
        have PB6 := hide (PB5.out.kept hb)
        clear PB5
        have O1 := hide hO
        clear hb hO
        go_wp2_with fail
        refine (list10 yB m m N' L' w6 (by omega) PB6.out).mono ?_
        rintro e w7 ⟨zB, rfl, hb, hE⟩
        have HT7 := hide (tab_kept HT6.out hb)
        clear HT6
        have KK7 := hide (KK6.out.trans hb)
        clear KK6
        have EA7 := hide (EA6.out.kept hb)
        clear EA6
        have EB7 := hide (EB6.out.kept hb)
        clear EB6
        have PA7 := hide (PA6.out.kept hb)
        clear PA6
        have O17 := hide (O1.out.kept hb)
        clear O1
        have QB := hide hE
        clear hb hE
        go_wp2_with fail
        refine (with9 p1 first zB m m N' L' (app first N L none0 n) w7 (by omega) hf0 hf1 (Nat.le_refl _) QB.out RB.out O17.out HT7.out).mono ?_
        rintro e w8 ⟨p2, rfl, hb, hO⟩
        have HT8 := hide (tab_kept HT7.out hb)
        clear HT7
        have KK8 := hide (KK7.out.trans hb)
        clear KK7
        have EA8 := hide (EA7.out.kept hb)
        clear EA7
        have EB8 := hide (EB7.out.kept hb)
        clear EB7
        have PA8 := hide (PA7.out.kept hb)
        clear PA7
        have O18 := hide (O17.out.kept hb)
        clear O17
        have O2 := hide hO
        clear hb hO
        go_wp2_with fail
        refine (model12 first xA none none n 0 0 n 0 0 N N N L L L w8 (by omega) (by omega) (by omega) hf0 hf1 EA8.out (Es.zero _ _ _ _) (Es.zero _ _ _ _) RA.out (Rise.zero _ _) (Rise.zero _ _)).mono ?_
        rintro e w9 ⟨rfl, hT⟩
        have hb : Kp w8 w9 := hT.bel
        have T1 : Hid (Tb w9 w8.heap.size (app first N L none0 n)) := hide (Tb.new hT)
        have HT9 := hide (tab_kept HT8.out hb)
        clear HT8
        have KK9 := hide (KK8.out.trans hb)
        clear KK8
        have EA9 := hide (EA8.out.kept hb)
        clear EA8
        have EB9 := hide (EB8.out.kept hb)
        clear EB8
        have O19 := hide (O18.out.kept hb)
        clear O18
        have O29 := hide (O2.out.kept hb)
        clear O2
        clear hb hT
        generalize w8.heap.size = mT1 at *
        go_wp2_with fail
        refine (reads p1 mT1 (app first N L none0 n) w9 (fun i _ => (app_len SA.out.2 (none0_len _))) O19.out T1.out).mono ?_
        rintro e w10 ⟨rfl, hb⟩
        have HT10 := hide (tab_kept HT9.out hb)
        clear HT9
        have KK10 := hide (KK9.out.trans hb)
        clear KK9
        have EA10 := hide (EA9.out.kept hb)
        clear EA9
        have EB10 := hide (EB9.out.kept hb)
        clear EB9
        have O110 := hide (O19.out.kept hb)
        clear O19
        have O210 := hide (O29.out.kept hb)
        clear O29
        have T110 := hide (T1.out.kept hb)
        clear T1
        clear hb
        go_wp2_with fail
        refine (model12 first xA xB none n m 0 n m 0 N N' N L L' L w10 (by omega) (by omega) (by omega) hf0 hf1 EA10.out EB10.out (Es.zero _ _ _ _) RA.out RB.out (Rise.zero _ _)).mono ?_
        rintro e w11 ⟨rfl, hT⟩
        have hb : Kp w10 w11 := hT.bel
        have T2 : Hid (Tb w11 w10.heap.size (app first N' L' (app first N L none0 n) m)) := hide (Tb.new hT)
        have HT11 := hide (tab_kept HT10.out hb)
        clear HT10
        have KK11 := hide (KK10.out.trans hb)
        clear KK10
        have EA11 := hide (EA10.out.kept hb)
        clear EA10
        have EB11 := hide (EB10.out.kept hb)
        clear EB10
        have O211 := hide (O210.out.kept hb)
        clear O210
        clear hb hT
        generalize w10.heap.size = mT2 at *
        go_wp2_with fail
        refine (reads p2 mT2 (app first N' L' (app first N L none0 n) m) w11 (fun i _ => (app_len SB.out.2 (app_len SA.out.2 (none0_len _)))) O211.out T2.out).mono ?_
        rintro e w12 ⟨rfl, hb⟩
        have HT12 := hide (tab_kept HT11.out hb)
        clear HT11
        have KK12 := hide (KK11.out.trans hb)
        clear KK11
        have EA12 := hide (EA11.out.kept hb)
        clear EA11
        have EB12 := hide (EB11.out.kept hb)
        clear EB11
        have O212 := hide (O211.out.kept hb)
        clear O211
        have T212 := hide (T2.out.kept hb)
        clear T2
        clear hb
        go_wp2_with fail
        go_ret
        exact ⟨rfl, KK12.out⟩
end Go.Proofs.Qxb6629270aDoor
