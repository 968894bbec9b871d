/-
  THE WALK over (*listPage).with, from no page.
-/
import Derived.Test.Qxb6629270aDoorLst
namespace Go.Proofs.Qxb6629270aDoor
open Go.RowKit
set_option linter.unusedVariables false
attribute [local go_sem ↓] Go.wp_at_zero Go.wp_at_succ

set_option maxRecDepth 100000 in
set_option maxHeartbeats 4000000 in
theorem with_nil (first : Int) (a : Option Addr) (n c : Nat) (N : Nat → Int) (L g : Nat → List Int) (w : World) (hn : n ≤ 8192) (hf0 : -9223372036854775808 ≤ first) (hf1 : first ≤ 9223372036854775807) (hnc : n ≤ c) (hE : Es w a n N L) (hR : Rise first n N) (hO : Opt w g none) (hT : TabAt 0 Lib.deBruijn64tab w) :
    Calls Tryd.prog 16 #[.pointer none, .int .i64 first, .slice a n c] w fun e w' => ∃ p, e = .returned (.pointer p) ∧ Below w.heap.size w w' ∧ Opt w' (app first N L g n) p := by
  have HE := hide hE; have HR := hide hR; have HO := hide hO; have HT := hide hT; clear hE hR hO hT
  have hz := zero51
  have hbx := box51
  go_enter Tryd.func16, Tryd.ntmps16
  go_wp2_with fail
  clear hz hbx
  have hP := zc_pg w
  have hW : Below w.heap.size w (w.alloc (.cells zc 51)) := (Below.refl _ _).alloc (Nat.le_refl _) _
  generalize w.alloc (.cells zc 51) = w1 at *
  have hM : Marks (fun _ => 0) (app first N L g 0) := ⟨fun _ _ => by omega, fun i hi => by
    have := HO.out i hi
    simp [bit, app, this]⟩
  generalize hws0 : (fun _ : Nat => 0) = ws0 at hM hP
  have hbf : ∃ bf : Nat → Nat, bf 0 = 0 ∧ Blk w1 w.heap.size 129 51 (pg ws0 bf (.slice none 0 0)) := ⟨ws0, by rw [← hws0], hP⟩
  obtain ⟨bf, hbf0, hP⟩ := hbf
  clear hws0
  go_loopw [28] (fun i wr => ∃ (k : Nat) (ws : Nat → Nat), k ≤ n ∧ i = .int .i64 k ∧ Below w.heap.size w wr ∧ Blk wr w.heap.size 129 51 (pg ws bf (.slice none 0 0)) ∧ Marks ws (app first N L g k)) (fun i _ => n - (intOf i).toNat)
  case atStart => exact ⟨0, ws0, by omega, rfl, hW, hP, hM⟩
  case round =>
    obtain ⟨k, ws, hk, rfl, hb, hB, hM⟩ := hrel
    by_cases hlt : k < n
    · obtain ⟨b, off, rfl, hcl⟩ := HE.out.at_ (by omega)
      obtain ⟨x, m, cc, d0, d1, hin⟩ := hcl k hlt
      have hbl := cell_lt d0
      simp only at hbl
      have c0 := (hb.cell (p := ⟨b, _, none⟩) hbl).trans d0
      have c1 := (hb.cell (p := ⟨b, _, none⟩) hbl).trans d1
      obtain ⟨r1, r2, _⟩ := HR.out k hlt
      obtain ⟨i, hi⟩ : ∃ i : Nat, N k - first = (i : Int) := ⟨(N k - first).toNat, by omega⟩
      have hi4 : i < 4096 := by omega
      have hyk : N k = first + i := by omega
      rw [hyk] at c0
      have hrl := hB.lt
      have hb1 : b < wr.heap.size := by omega
      have hb2 : b < wr.heap.size + 1 := by omega
      have hr2 : w.heap.size < wr.heap.size + 1 := by omega
      have q0 : (i : Int) / 64 = ((i / 64 : Nat) : Int) := by omega
      have q1 : (i : Int) % 64 = ((i % 64 : Nat) : Int) := by omega
      have q2 := shl_wrap (t := i % 64) (by omega)
      have q3 : ((i / 64 : Nat) : Int) < 64 := by omega
      have q4 : ((i % 64 : Nat) : Int) < 64 := by omega
      have q5 : first + (i : Int) - first = (i : Int) := by omega
      have q6 : (i : Int) ≤ 4095 := by omega
      have hX := hM.small (i / 64) (by omega)
      have hY := pow_lt64 (t := i % 64) (by omega)
      have c5 := pg_word hB (i / 64) (by omega)
      have hf := hB.frozen
      have q7 := u64_or_nat (ws (i / 64)) (2 ^ (i % 64)) hX hY
      have q8 := u64_andNot_nat (ws (i / 64)) (2 ^ (i % 64)) hX hY
      have hml := hin.len
      have HB := hide hB; have HBE := hide hb; have HM := hide hM; have HI := hide hi; have HML := hide hml; clear hB hb hM hi hml hcl d0 d1 hin hyk r1 r2
      generalize hws : ws (i / 64) = X at *
      have hwsv : ws (i / 64) = X := hws
      generalize hY0 : 2 ^ (i % 64) = Y at *
      generalize hv0 : i / 64 = v at *
      generalize ht0 : i % 64 = t at *
      have HWS := hide hws; have HY0 := hide hY0; have HV0 := hide hv0; have HT0 := hide ht0; have HWSV := hide hwsv; clear hws hwsv hY0 hv0 ht0
      have q9 : (0 : Int) ≤ (v : Int) := by omega
      have q10 : (0 : Int) ≤ (t : Int) := by omega
      have q11 : (0 : Int) ≤ (i : Int) := by omega
      by_cases hm0 : 0 < m
      · have hm1 : (0 : Int) < (m : Int) := by omega
        go_wp2_with fail
        have hB2 := HB.out.alloc (.cells #[.int .i64 (first + i), .slice x m cc] 42)
        have hb3 := HBE.out.alloc HBE.out.size (.cells #[.int .i64 (first + i), .slice x m cc] 42)
        generalize wr.alloc (.cells #[.int .i64 (first + i), .slice x m cc] 42) = w2 at *
        have c6 := pg_word hB2 v (by omega)
        have hf2 := hB2.frozen
        rw [HWSV.out] at c6
        have HB2 := hide hB2; have HB3 := hide hb3; clear hB2 hb3 c0 c1 c5 hf
        go_region
        go_wp2_with fail
        go_roundw
        case rel =>
          refine ⟨k + 1, (fun j => if j = v then X ||| Y else ws j), by omega, by go_num, (HB3.out.setCell (p := ⟨w.heap.size, v, none⟩) (Nat.le_refl _) _).drew, (pg_setWord HB2.out v (X ||| Y) (by omega)).drew, ?_⟩
          have hmk := HM.out.set hi4 HI.out (fun h => by have := HML.out; rw [h] at this; simp at this; omega)
          rw [HV0.out, HT0.out, HY0.out, HWSV.out] at hmk
          exact hmk
        case measure => simp [intOf]; omega
      · obtain rfl : m = 0 := by omega
        go_wp2_with fail
        have hB2 := HB.out.alloc (.cells #[.int .i64 (first + i), .slice x 0 cc] 42)
        have hb3 := HBE.out.alloc HBE.out.size (.cells #[.int .i64 (first + i), .slice x 0 cc] 42)
        generalize wr.alloc (.cells #[.int .i64 (first + i), .slice x 0 cc] 42) = w2 at *
        have c6 := pg_word hB2 v (by omega)
        have hf2 := hB2.frozen
        rw [HWSV.out] at c6
        have HB2 := hide hB2; have HB3 := hide hb3; clear hB2 hb3 c0 c1 c5 hf
        go_region
        go_wp2_with fail
        go_roundw
        case rel =>
          refine ⟨k + 1, (fun j => if j = v then X &&& (18446744073709551615 - Y) else ws j), by omega, by go_num, (HB3.out.setCell (p := ⟨w.heap.size, v, none⟩) (Nat.le_refl _) _).drew, (pg_setWord HB2.out v (X &&& (18446744073709551615 - Y)) (by omega)).drew, ?_⟩
          have hmk := HM.out.clear hi4 HI.out (List.length_eq_zero_iff.1 HML.out.symm)
          rw [HV0.out, HT0.out, HY0.out, HWSV.out] at hmk
          exact hmk
        case measure => simp [intOf]; omega

    · obtain rfl : k = n := by omega
      have C21 := count21 w.heap.size ws bf (.slice none 0 0) wr hM.small hB hbf0
      have HB := hide hB; have HBE := hide hb; have HM := hide hM; have H21 := hide C21; clear hB hb hM C21 hbf0 hP hW
      go_wp2_with fail
      refine (H21.out).mono ?_
      rintro e w2 ⟨rfl, hb2, hB2⟩
      have hle : cnt (bit ws) 4096 ≤ 4096 := cnt_le _ _
      generalize hR0 : cnt (bit ws) 4096 = R at *
      by_cases h0 : R = 0
      · subst h0
        have HB2 := hide hB2; have Hb2 := hide hb2; clear hB2 hb2
        go_wp2_with fail
        go_ret
        exact ⟨_, rfl, HBE.out.trans Hb2.out, HM.out.zero hR0⟩
      · have h1 : ((R : Int) == 0) = false := by simp; omega
        have hmk := run_mk32c R (by omega)
        have c128 := pg_lists hB2
        have hf2 := hB2.frozen
        have hr2 := hB2.lt
        have hld := range48 ((pg_setLists hB2 (.slice (some ⟨w2.heap.size, 0, none⟩) 0 R)).alloc (.cells (made36 R) 36))
        have HB2 := hide hB2; have Hb2 := hide hb2; have HLD := hide hld; clear hB2 hb2 hld
        go_wp2_with (first | (refine wpList_load_mid rfl 48 _ rfl w.heap.size 0 rfl (wordsA ws) (.array 64 47) HLD.out Tryd.underlying48 rfl (size48 ws) ?_))
        clear hmk c128 hf2
        have hL : Lst w ((w2.setCell ⟨w.heap.size, 128, none⟩ (.slice (some ⟨w2.heap.size, 0, none⟩) 0 R)).alloc (.cells (made36 R) 36)) w.heap.size w2.heap.size R 0 ws (app first N L g k) := by
          refine ⟨((HBE.out.trans Hb2.out).setCell (p := ⟨w.heap.size, 128, none⟩) (Nat.le_refl _) _).alloc ?_ _, (pg_setLists HB2.out _).alloc _, ?_⟩
          · simp; omega
          · have h := Blk.new (w2.setCell ⟨w.heap.size, 128, none⟩ (.slice (some ⟨w2.heap.size, 0, none⟩) 0 R)) (made36 R) 36
            rw [made36_size, World.size_setCell] at h
            exact ⟨_, h, fun i hi => absurd hi (Nat.not_lt_zero _)⟩
        have hlb : w2.heap.size ≠ w.heap.size := by omega
        have hlb1 : w.heap.size ≤ w2.heap.size := by omega
        generalize hlb0 : w2.heap.size = lb at *
        clear hlb0
        generalize ((w2.setCell ⟨w.heap.size, 128, none⟩ (.slice (some ⟨lb, 0, none⟩) 0 R)).alloc (.cells (made36 R) 36)) = w3 at hL ⊢
        clear HLD HB2 Hb2 H21 HB HBE hr2
        go_loopw [2, 82] (fun s i wr => ∃ (v d c' : Nat) (a' : Option Addr), v ≤ 64 ∧ i = .int .i64 v ∧ d ≤ k ∧ k - d ≤ c' ∧ s = .slice a' (k - d) c' ∧ Es w a' (k - d) (fun i => N (d + i)) (fun i => L (d + i)) ∧ (∀ j, j < d → N j - first < 64 * v) ∧ Lst w wr w.heap.size lb R (64 * v) ws (app first N L g k)) (fun _ i _ => 64 - (intOf i).toNat)
        case atStart => exact ⟨0, 0, c, a, by omega, rfl, by omega, hnc, rfl, by simpa using HE.out, fun j hj => absurd hj (Nat.not_lt_zero _), hL⟩
        case round =>
          obtain ⟨v, d, c', a', hv, rfl, hd, hdc, rfl, hEs, hdrop, hLst⟩ := hrel
          by_cases hlt : v < 64
          · have HES := hide hEs; have HD := hide hdrop; have HL := hide hLst; clear hEs hdrop hLst hL
            have hix := index48 ws v hlt
            have hvd : decide ((v : Int) < 64) = true := by simp; omega
            go_wp2_with fail
            clear hix
            try rw [hvd]
            go_loopw [2, 13] (fun s i wr => ∃ (t d c' X : Nat) (a' : Option Addr), t ≤ 64 ∧ i = .int .u64 X ∧ X < 18446744073709551616 ∧ (∀ j, X.testBit j = ((ws v).testBit j && decide (t ≤ j))) ∧ d ≤ k ∧ k - d ≤ c' ∧ s = .slice a' (k - d) c' ∧ Es w a' (k - d) (fun i => N (d + i)) (fun i => L (d + i)) ∧ (∀ j, j < d → N j - first < ((64 * v + t : Nat) : Int)) ∧ Lst w wr w.heap.size lb R (64 * v + t) ws (app first N L g k)) (fun _ i _ => (intOf i).toNat)
            case atStart => exact ⟨0, d, c', ws v, a', by omega, rfl, HM.out.small v hlt, fun j => by simp, hd, hdc, rfl, HES.out, fun j hj => by have := HD.out j hj; omega, HL.out⟩
            case round =>
              clear HES HD HL hdc hd
              obtain ⟨t, d, c', X, a', ht, rfl, hX, hbits, hd, hdc, rfl, hEs, hdrop, hLst⟩ := hrel
              have HES := hide hEs; have HD := hide hdrop; have HL := hide hLst; have HBT := hide hbits; clear hEs hdrop hLst hbits
              by_cases hX0 : X = 0
              · subst hX0
                go_wp2_with fail
                go_roundw
                case rel =>
                  refine ⟨v + 1, d, c', a', by omega, by go_num, hd, hdc, rfl, HES.out, fun j hj => ?_, ?_⟩
                  · have := HD.out j hj; omega
                  · refine HL.out.mono (by omega) fun i h1 h2 => ?_
                    have e : i = 64 * v + (i - 64 * v) := by omega
                    rw [e, bit_at64 ws v _ (by omega)]
                    have := HBT.out (i - 64 * v)
                    simp only [Nat.zero_testBit] at this
                    rw [decide_eq_true (show t ≤ i - 64 * v by omega), Bool.and_true] at this
                    exact this.symm
                case measure => simp [intOf]; omega
              · have hne : ((X : Int) == 0) = false := by simp; omega
                obtain ⟨hc64, hcb, hclow, hclr⟩ := lowest X hX0 hX
                have T22 := fun W (h : TabAt 0 Lib.deBruijn64tab W) => hide (tz X hX hX0 W h)
                generalize Lib.ctz 64 X = cz at hc64 hcb hclow hclr T22
                have hTw : TabAt 0 Lib.deBruijn64tab wr := fun j hj => (HL.out.bel.cell (p := ⟨0, j, none⟩) (cell_lt (HT.out j hj))).trans (HT.out j hj)
                go_wp2_with fail
                refine ((T22 _ hTw).out).mono ?_
                rintro e w4 ⟨rfl, hw4⟩
                rw [hw4]
                clear hw4 w4
                go_wp2_with fail
                clear T22
                have htc : t ≤ cz := by
                  have := HBT.out cz
                  rw [hcb] at this
                  have := (Bool.and_eq_true _ _ ▸ this.symm : _ ∧ _).2
                  simpa using this
                have hbi : bit ws (64 * v + cz) = true := by
                  rw [bit_at64 ws v cz hc64]
                  have := HBT.out cz
                  rw [hcb] at this
                  exact (Bool.and_eq_true _ _ ▸ this.symm : _ ∧ _).1
                have hLi : Lst w wr w.heap.size lb R (64 * v + cz) ws (app first N L g k) := by
                  refine HL.out.mono (by omega) fun i h1 h2 => ?_
                  have e : i = 64 * v + (i - 64 * v) := by omega
                  rw [e, bit_at64 ws v _ (by omega)]
                  have h3 := HBT.out (i - 64 * v)
                  rw [hclow _ (by omega), decide_eq_true (show t ≤ i - 64 * v by omega), Bool.and_true] at h3
                  exact h3.symm
                have hgi := (HM.out.bits (64 * v + cz) (by omega)).1 hbi
                have hiv : (v : Int) * 64 + (cz : Int) = ((64 * v + cz : Nat) : Int) := by omega
                rw [hiv]
                have hX1 : IntKind.u64.wrap ((X : Int) - 1) = ((X - 1 : Nat) : Int) := by rw [IntKind.wrap_u64]; omega
                have hX2 := u64_and_nat X (X - 1) hX (by omega)
                have hX3 : X &&& (X - 1) ≤ X - 1 := Nat.and_le_right
                have hnb : ∀ j, (X &&& (X - 1)).testBit j = ((ws v).testBit j && decide (cz + 1 ≤ j)) := fun j => by
                  rw [hclr, HBT.out j]
                  by_cases h : cz < j
                  · rw [decide_eq_true h, decide_eq_true (show t ≤ j by omega), decide_eq_true (show cz + 1 ≤ j by omega), Bool.and_true, Bool.and_true]
                  · rw [decide_eq_false h, decide_eq_false (show ¬ cz + 1 ≤ j by omega), Bool.and_false, Bool.and_false]
                generalize hXn : X &&& (X - 1) = X' at *
                have HXN := hide hnb; have HLI := hide hLi; have HBI := hide hbi; have HGI := hide hgi; clear hnb hLi hbi hgi HL hXn hclr hclow hcb hiv
                have hi4 : 64 * v + cz < 4096 := by omega
                have hvi : 64 * v + t ≤ 64 * v + cz := by omega
                have hvn : 64 * v + cz + 1 = 64 * v + (cz + 1) := by omega
                generalize hi0 : 64 * v + cz = i at *
                go_loopw [2] (fun s wq => ∃ (d c' : Nat) (a' : Option Addr), d ≤ k ∧ k - d ≤ c' ∧ s = .slice a' (k - d) c' ∧ Es w a' (k - d) (fun i => N (d + i)) (fun i => L (d + i)) ∧ (∀ j, j < d → N j - first < (i : Int)) ∧ wq = wr) (fun s _ => slen s)
                case atStart => exact ⟨d, c', a', hd, hdc, rfl, HES.out, fun j hj => by have := HD.out j hj; omega, rfl⟩
                case round =>
                  clear HES HD hdc hd
                  obtain ⟨d, c', a', hd, hdc, rfl, hEs, hdrop, hwq⟩ := hrel
                  subst hwq
                  have HES := hide hEs; have HD := hide hdrop; clear hEs hdrop
                  by_cases hm : k - d = 0
                  · exfalso
                    apply HGI.out
                    rw [app_miss (fun j hj => by have := HD.out j (by omega); omega)]
                    exact HO.out i hi4
                  · obtain ⟨b', off', rfl, hcl⟩ := HES.out.at_ (by omega)
                    obtain ⟨x, m, cc, d0, d1, hin⟩ := hcl 0 (by omega)
                    rw [Nat.zero_mul, Nat.add_zero] at d0 d1
                    simp only [Nat.add_zero] at d0 hin
                    have hbl := cell_lt d0
                    simp only at hbl
                    have c0 := (HLI.out.bel.cell (p := ⟨b', _, none⟩) hbl).trans d0
                    have c1 := (HLI.out.bel.cell (p := ⟨b', _, none⟩) hbl).trans d1
                    obtain ⟨r1, r2, _⟩ := HR.out d (by omega)
                    obtain ⟨y, hy⟩ : ∃ y : Nat, N d - first = (y : Int) := ⟨(N d - first).toNat, by omega⟩
                    have hyk : N d = first + y := by omega
                    rw [hyk] at c0
                    have q5 : first + (y : Int) - first = (y : Int) := by omega
                    have hml : (0 : Int) < ((k - d : Nat) : Int) := by omega
                    have hcut := run_cut (some ⟨b', off', none⟩) (k - d) c' (by omega)
                    have HCUT := HES.out.cut (by omega) hdc
                    have HCU := hide HCUT; clear HCUT
                    have HY := hide hy; have HIN := hide hin
                    clear hcl d0 d1 hy hin hyk r1 r2
                    generalize hmm : k - d = mm at *
                    have HMM := hide hmm; clear hmm
                    by_cases hlti : y < i
                    · have e1 : mm - 1 = k - (d + 1) := by have := HMM.out; omega
                      have E1 := hide e1; clear e1
                      go_wp2_with fail
                      go_roundw
                      case rel =>
                        refine ⟨d + 1, c' - 1, cutAt (some ⟨b', off', none⟩) c', by have := HMM.out; omega, by have := HMM.out; omega, by rw [E1.out], ?_, fun j hj => ?_, trivial⟩
                        · rw [← E1.out]
                          simpa only [Nat.add_assoc] using HCU.out
                        · rcases Nat.lt_succ_iff_lt_or_eq.1 hj with h | rfl
                          · exact HD.out j h
                          · have := HY.out; omega
                      case measure => simp only [slen]; omega
                    · clear hcut HCU
                      by_cases heq : y = i
                      · subst heq
                        have hge : ¬ (y : Int) < (y : Int) := by omega
                        have c128 := pg_lists HLI.out.page
                        obtain ⟨f, hrow, _⟩ := HLI.out.row
                        have hqR : cnt (bit ws) y < R := by rw [← hR0]; exact cnt_lt _ hi4 HBI.out
                        have cq := hrow.cell _ hqR
                        have hf1 := hrow.frozen
                        have hf2 := HLI.out.page.frozen
                        have hlr := hrow.lt
                        have hrr := HLI.out.page.lt
                        have hG : app first N L g k y = L d := app_hit HR.out (by have := HMM.out; omega) HY.out
                        have HG := hide hG; clear hG
                        clear hrow
                        generalize hq : cnt (bit ws) y = q at *
                        have HQ := hide hq; clear hq
                        generalize f q = oq at cq
                        have hq0 : (q : Int) + 1 ≤ (R : Int) := by omega
                        have hbN : b' ≠ w.heap.size := by omega
                        have hNb : w.heap.size ≠ b' := by omega
                        have hrl : w.heap.size ≠ lb := fun e => hlb e.symm
                        go_wp2_with fail
                        go_region
                        have hLn : Lst w (((wr.setCell ⟨lb, q, none⟩ (.slice x m cc)).setCell ⟨w.heap.size, 128, none⟩ (.slice (some ⟨lb, 0, none⟩) (q + 1) R)).alloc (.cells #[.slice x m cc] 36)).drew w.heap.size lb R (64 * v + (cz + 1)) ws (app first N L g k) := by
                          rw [← hvn]
                          refine HLI.out.step HBI.out (x := x) (m := m) (c := cc) (by rw [HG.out]; exact HIN.out) ((((Below.refl _ _).setCell (p := ⟨lb, q, none⟩) hlb1 _).setCell (p := ⟨w.heap.size, 128, none⟩) (Nat.le_refl _) _).alloc (by simp; omega) _).drew (fun lv h => ?_) (fun f h => ?_)
                          · rw [HQ.out]
                            exact ((pg_setLists (h.other hlb _ _) _).alloc _).drew
                          · rw [HQ.out]
                            exact (((h.set q _).other hrl _ _).alloc _).drew
                        have HLN := hide hLn; clear hLn
                        generalize (((wr.setCell ⟨lb, q, none⟩ (.slice x m cc)).setCell ⟨w.heap.size, 128, none⟩ (.slice (some ⟨lb, 0, none⟩) (q + 1) R)).alloc (.cells #[.slice x m cc] 36)).drew = w5 at *
                        go_wp2_with fail
                        go_roundw
                        case rel =>
                          refine ⟨cz + 1, d, c', X', _, by omega, rfl, by omega, HXN.out, hd, by rw [HMM.out]; exact hdc, by rw [HMM.out], by rw [HMM.out]; exact HES.out, fun j hj => ?_, HLN.out⟩
                          have := HD.out j hj
                          omega
                        case measure => simp [intOf]; omega
                      · exfalso
                        apply HGI.out
                        rw [app_miss (fun j hj => ?_)]
                        · exact HO.out i hi4
                        · by_cases hjd : j < d
                          · have := HD.out j hjd; omega
                          · by_cases e : j = d
                            · subst e; have := HY.out; omega
                            · have h1 := rise_lt HR.out j hj d (by omega)
                              have := HY.out
                              omega
          · obtain rfl : v = 64 := by omega
            go_wp2_with fail
            go_ret
            subst hR0
            exact ⟨_, rfl, hLst.bel, ⟨_, ws, rfl, hLst.fin rfl HM.out⟩, HM.out.some h0⟩
end Go.Proofs.Qxb6629270aDoor
