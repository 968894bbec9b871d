/-
  THE WALK over the second law's first gate.
-/
import Derived.Test.Qxb6629270aDoorGates
namespace Go.Proofs.Qxb6629270aDoor
open Go.RowKit
set_option linter.unusedVariables false

set_option maxRecDepth 100000 in
set_option maxHeartbeats 8000000 in
theorem bytes13 (first : Int) (a b c : Option Addr) (n ca m cb l cc : Nat) (w : World) (N N' N'' : Nat → Int) (L L' L'' : Nat → List Int) (zA : Zs n N L) (zB : Zs m N' L') (zC : Zs l N'' L'') (hA : Es w a n N L) (hB : Es w b m N' L') (hC : Es w c l N'' L'') :
    Calls Tryd.prog 13 #[.int .i64 first, .slice a n ca, .slice b m cb, .slice c l cc] w fun e w' => Ans e (Sm n L ∧ Sm m L' ∧ Sm l L'') ∧ w' = w := by
  have HA := hide hA; clear hA
  have HB := hide hB; clear hB
  have HC := hide hC; clear hC
  obtain ⟨zn, zA⟩ := zA
  obtain ⟨zm, zB⟩ := zB
  obtain ⟨zl, zC⟩ := zC
  have ZA := hide zA; clear zA
  have ZB := hide zB; clear zB
  have ZC := hide zC; clear zC
  go_enter Tryd.func13, Tryd.ntmps13
  go_wp2
  all_goals first
    | (go_ret; exact ⟨Ans.no _, rfl⟩)
    | skip
  go_loop [9, 10] (fun t i => ∃ (k : Nat) (T : Int), k ≤ n ∧ 0 ≤ T ∧ T ≤ 1048576 ∧ i = .int .i64 k ∧ t = .int .i64 T ∧ ∀ j, j < k → (L j).length ≤ 1048576) (fun _ i => n - (intOf i).toNat)
  case atStart => exact ⟨0, _, by omega, by omega, by assumption, rfl, rfl, fun j hj => absurd hj (Nat.not_lt_zero _)⟩
  case round =>
    obtain ⟨k, T, hk, hT0, hT1, rfl, rfl, hall⟩ := hrel
    have HALL := hide hall; clear hall
    by_cases hlt : k < n
    · obtain ⟨b1, off, rfl, hcl⟩ := HA.out.at_ (by omega)
      obtain ⟨x, q, cc, c0, c1, hin⟩ := hcl k hlt
      have hz := (ZA.out k hlt).1
      have hq := hin.len
      rw [← hq] at hz
      have HQ := hide hq
      clear hcl hin hq
      go_wp2
      all_goals first
        | (go_ret; exact ⟨Ans.no _, rfl⟩)
        | (go_round
           case rel =>
             refine ⟨k + 1, _, by omega, by omega, by assumption, by go_num, rfl, fun j hj => ?_⟩
             rcases Nat.lt_succ_iff_lt_or_eq.1 hj with h | rfl
             · exact HALL.out j h
             · rw [← HQ.out]; omega
           case measure => simp [intOf]; omega)
    · obtain rfl : k = n := by omega
      go_wp2
      all_goals first
        | (go_ret; exact ⟨Ans.no _, rfl⟩)
        | skip
      go_loop [9, 11] (fun t i => ∃ (k : Nat) (T : Int), k ≤ m ∧ 0 ≤ T ∧ T ≤ 1048576 ∧ i = .int .i64 k ∧ t = .int .i64 T ∧ ∀ j, j < k → (L' j).length ≤ 1048576) (fun _ i => m - (intOf i).toNat)
      case atStart => exact ⟨0, _, by omega, by omega, by assumption, rfl, rfl, fun j hj => absurd hj (Nat.not_lt_zero _)⟩
      case round =>
        obtain ⟨j, T', hj, hT0', hT1', rfl, rfl, hall'⟩ := hrel
        have HALL' := hide hall'; clear hall'
        by_cases hlt : j < m
        · obtain ⟨b1, off, rfl, hcl⟩ := HB.out.at_ (by omega)
          obtain ⟨x, q, cc, c0, c1, hin⟩ := hcl j hlt
          have hz := (ZB.out j hlt).1
          have hq := hin.len
          rw [← hq] at hz
          have HQ := hide hq
          clear hcl hin hq
          go_wp2
          all_goals first
            | (go_ret; exact ⟨Ans.no _, rfl⟩)
            | (go_round
               case rel =>
                 refine ⟨j + 1, _, by omega, by omega, by assumption, by go_num, rfl, fun i hi => ?_⟩
                 rcases Nat.lt_succ_iff_lt_or_eq.1 hi with h | rfl
                 · exact HALL'.out i h
                 · rw [← HQ.out]; omega
               case measure => simp [intOf]; omega)
        · obtain rfl : j = m := by omega
          go_wp2
          all_goals first
            | (go_ret; exact ⟨Ans.no _, rfl⟩)
            | skip
          go_loop [9, 12] (fun t i => ∃ (k : Nat) (T : Int), k ≤ l ∧ 0 ≤ T ∧ T ≤ 1048576 ∧ i = .int .i64 k ∧ t = .int .i64 T ∧ ∀ j, j < k → (L'' j).length ≤ 1048576) (fun _ i => l - (intOf i).toNat)
          case atStart => exact ⟨0, _, by omega, by omega, by assumption, rfl, rfl, fun j hj => absurd hj (Nat.not_lt_zero _)⟩
          case round =>
            obtain ⟨u, T'', hu, hT0'', hT1'', rfl, rfl, hall''⟩ := hrel
            have HALL'' := hide hall''; clear hall''
            by_cases hlt : u < l
            · obtain ⟨b1, off, rfl, hcl⟩ := HC.out.at_ (by omega)
              obtain ⟨x, q, cc, c0, c1, hin⟩ := hcl u hlt
              have hz := (ZC.out u hlt).1
              have hq := hin.len
              rw [← hq] at hz
              have HQ := hide hq
              clear hcl hin hq
              go_wp2
              all_goals first
                | (go_ret; exact ⟨Ans.no _, rfl⟩)
                | (go_round
                   case rel =>
                     refine ⟨u + 1, _, by omega, by omega, by assumption, by go_num, rfl, fun i hi => ?_⟩
                     rcases Nat.lt_succ_iff_lt_or_eq.1 hi with h | rfl
                     · exact HALL''.out i h
                     · rw [← HQ.out]; omega
                   case measure => simp [intOf]; omega)
            · obtain rfl : u = l := by omega
              go_wp2
              all_goals first
                | (go_ret; exact ⟨Ans.no _, rfl⟩)
                | (go_ret; exact ⟨Ans.yes _ ⟨⟨by omega, HALL.out⟩, ⟨by omega, HALL'.out⟩, by omega, HALL''.out⟩, rfl⟩)
end Go.Proofs.Qxb6629270aDoor
