/-
  THE WALKS over the gates: what the walks are told of the entries that came in; the byte counts; the rising numbers.
-/
import Derived.Test.Qxb6629270aDoorRows
import Derived.WalkKit
import Derived.WalkSpells
import Derived.WalkLawsBesides
namespace Go.Proofs.Qxb6629270aDoor
open Go.RowKit
set_option linter.unusedVariables false

theorem hide {p : Prop} (h : p) : Hid p := h
theorem cell_lt {w : World} {p : Addr} {v : Value} (h : w.cell? p = some v) : p.block < w.heap.size := World.block_lt_of_cell? w p h

/-- A slice of int32 with the contents l. -/
structure In (w : World) (a : Option Addr) (m : Nat) (l : List Int) : Prop where
  len : m = l.length
  at_ : 0 < m → ∃ b off, a = some ⟨b, off, none⟩ ∧ ∀ k, k < m → w.cell? ⟨b, off + k, none⟩ = some (.int .i32 (l.getD k 0))

theorem In.below {w w' : World} {a : Option Addr} {m : Nat} {l : List Int} (h : In w a m l) (hb : Below w.heap.size w w') : In w' a m l where
  len := h.len
  at_ := fun h0 => let ⟨b, off, e, hc⟩ := h.at_ h0
    ⟨b, off, e, fun k hk => (hb.cell (p := ⟨b, _, none⟩) (cell_lt (hc k hk))).trans (hc k hk)⟩

/-- A value that is such a slice. -/
def Ints (w : World) (v : Value) (l : List Int) : Prop := ∃ a m c, v = .slice a m c ∧ In w a m l
theorem Ints.below {w w' : World} {v : Value} {l : List Int} (h : Ints w v l) (hb : Below w.heap.size w w') : Ints w' v l := by
  obtain ⟨a, m, c, e, h⟩ := h
  exact ⟨a, m, c, e, h.below hb⟩
theorem Ints.nil (w : World) (a : Option Addr) (c : Nat) : Ints w (.slice a 0 c) [] := ⟨a, 0, c, rfl, rfl, fun h => absurd h (Nat.lt_irrefl _)⟩

/-- WHAT THE WALKS ARE TOLD OF A SLICE OF ENTRIES: entry i bears the number N i and the list L i. -/
structure Es (w : World) (a : Option Addr) (n : Nat) (N : Nat → Int) (L : Nat → List Int) : Prop where
  at_ : 0 < n → ∃ b off, a = some ⟨b, off, none⟩ ∧ ∀ i, i < n → ∃ x m c, w.cell? ⟨b, off + i * 2, none⟩ = some (.int .i64 (N i)) ∧ w.cell? ⟨b, off + i * 2 + 1, none⟩ = some (.slice x m c) ∧ In w x m (L i)

theorem Es.below {w w' : World} {a : Option Addr} {n : Nat} {N : Nat → Int} {L : Nat → List Int} (h : Es w a n N L) (hb : Below w.heap.size w w') : Es w' a n N L where
  at_ := fun h0 => let ⟨b, off, e, hc⟩ := h.at_ h0
    ⟨b, off, e, fun i hi => let ⟨x, m, c, h1, h2, h3⟩ := hc i hi
      ⟨x, m, c, (hb.cell (p := ⟨b, _, none⟩) (cell_lt h1)).trans h1, (hb.cell (p := ⟨b, _, none⟩) (cell_lt h2)).trans h2, h3.below hb⟩⟩
theorem Es.zero (w : World) (a : Option Addr) (N : Nat → Int) (L : Nat → List Int) : Es w a 0 N L := ⟨fun h => absurd h (Nat.lt_irrefl _)⟩

/-- The bounds of what came in. -/
def Zs (n : Nat) (N : Nat → Int) (L : Nat → List Int) : Prop := n ≤ 9223372036854775807 ∧ ∀ i, i < n → (L i).length ≤ 9223372036854775807 ∧ -9223372036854775808 ≤ N i ∧ N i ≤ 9223372036854775807

/-- What the first gate tells. -/
def Sm (n : Nat) (L : Nat → List Int) : Prop := n ≤ 1048576 ∧ ∀ i, i < n → (L i).length ≤ 1048576

def Ans (e : Ending) (p : Prop) : Prop := ∃ r, e = .returned (.bool r) ∧ (r = true → p)
theorem Ans.no (p : Prop) : Ans (.returned (.bool false)) p := ⟨false, rfl, fun h => nomatch h⟩
theorem Ans.yes {p : Prop} (r : Bool) (h : p) : Ans (.returned (.bool r)) p := ⟨r, rfl, fun _ => h⟩

set_option maxRecDepth 100000 in
set_option maxHeartbeats 4000000 in
theorem bytes5 (first : Int) (a b : Option Addr) (n c m d : Nat) (w : World) (N N' : Nat → Int) (L L' : Nat → List Int) (zA : Zs n N L) (zB : Zs m N' L') (hA : Es w a n N L) (hB : Es w b m N' L') :
    Calls Tryd.prog 5 #[.int .i64 first, .slice a n c, .slice b m d] w fun e w' => Ans e (Sm n L ∧ Sm m L') ∧ w' = w := by
  have HA := hide hA; clear hA
  have HB := hide hB; clear hB
  obtain ⟨zn, zA⟩ := zA
  obtain ⟨zm, zB⟩ := zB
  have ZA := hide zA; clear zA
  have ZB := hide zB; clear zB
  go_enter Tryd.func5, Tryd.ntmps5
  go_wp2
  all_goals first
    | (go_ret; exact ⟨Ans.no _, rfl⟩)
    | skip
  go_loop [7, 8] (fun t i => ∃ (k : Nat) (T : Int), k ≤ n ∧ 0 ≤ T ∧ T ≤ 1048576 ∧ i = .int .i64 k ∧ t = .int .i64 T ∧ ∀ j, j < k → (L j).length ≤ 1048576) (fun _ i => n - (intOf i).toNat)
  case atStart => exact ⟨0, _, by omega, by omega, by assumption, rfl, rfl, fun j hj => absurd hj (Nat.not_lt_zero _)⟩
  case round =>
    obtain ⟨k, T, hk, hT0, hT1, rfl, rfl, hall⟩ := hrel
    have HALL := hide hall; clear hall
    by_cases hlt : k < n
    · obtain ⟨b1, off, rfl, hcl⟩ := HA.out.at_ (by omega)
      obtain ⟨x, q, cc, c0, c1, hin⟩ := hcl k hlt
      have hz := (ZA.out k hlt).1
      have hq := hin.len
      rw [← hq] at hz
      have HQ := hide hq
      clear hcl hin hq
      go_wp2
      all_goals first
        | (go_ret; exact ⟨Ans.no _, rfl⟩)
        | (go_round
           case rel =>
             refine ⟨k + 1, _, by omega, by omega, by assumption, by go_num, rfl, fun j hj => ?_⟩
             rcases Nat.lt_succ_iff_lt_or_eq.1 hj with h | rfl
             · exact HALL.out j h
             · rw [← HQ.out]; omega
           case measure => simp [intOf]; omega)
    · obtain rfl : k = n := by omega
      go_wp2
      all_goals first
        | (go_ret; exact ⟨Ans.no _, rfl⟩)
        | skip
      go_loop [7, 9] (fun t i => ∃ (k : Nat) (T : Int), k ≤ m ∧ 0 ≤ T ∧ T ≤ 1048576 ∧ i = .int .i64 k ∧ t = .int .i64 T ∧ ∀ j, j < k → (L' j).length ≤ 1048576) (fun _ i => m - (intOf i).toNat)
      case atStart => exact ⟨0, _, by omega, by omega, by assumption, rfl, rfl, fun j hj => absurd hj (Nat.not_lt_zero _)⟩
      case round =>
        obtain ⟨j, T', hj, hT0', hT1', rfl, rfl, hall'⟩ := hrel
        have HALL' := hide hall'; clear hall'
        by_cases hlt : j < m
        · obtain ⟨b1, off, rfl, hcl⟩ := HB.out.at_ (by omega)
          obtain ⟨x, q, cc, c0, c1, hin⟩ := hcl j hlt
          have hz := (ZB.out j hlt).1
          have hq := hin.len
          rw [← hq] at hz
          have HQ := hide hq
          clear hcl hin hq
          go_wp2
          all_goals first
            | (go_ret; exact ⟨Ans.no _, rfl⟩)
            | (go_round
               case rel =>
                 refine ⟨j + 1, _, by omega, by omega, by assumption, by go_num, rfl, fun i hi => ?_⟩
                 rcases Nat.lt_succ_iff_lt_or_eq.1 hi with h | rfl
                 · exact HALL'.out i h
                 · rw [← HQ.out]; omega
               case measure => simp [intOf]; omega)
        · obtain rfl : j = m := by omega
          go_wp2
          all_goals first
            | (go_ret; exact ⟨Ans.no _, rfl⟩)
            | (go_ret; exact ⟨Ans.yes _ ⟨⟨by omega, HALL.out⟩, by omega, HALL'.out⟩, rfl⟩)

set_option maxRecDepth 100000 in
set_option maxHeartbeats 4000000 in
/-- zzAddBytes: some int. -/
theorem add6 (t : Int) (a : Option Addr) (n c : Nat) (w : World) (N : Nat → Int) (L : Nat → List Int) (z : Sm n L) (ht0 : 0 ≤ t) (ht1 : t ≤ 9223372036854775807) (hA : Es w a n N L) :
    Calls Tryd.prog 6 #[.int .i64 t, .slice a n c] w fun e w' => (∃ r : Int, 0 ≤ r ∧ r ≤ 9223372036854775807 ∧ e = .returned (.int .i64 r)) ∧ w' = w := by
  have HA := hide hA; clear hA
  obtain ⟨zn, z⟩ := z
  have Z := hide z; clear z
  go_enter Tryd.func6, Tryd.ntmps6
  go_wp2
  all_goals first
    | (go_ret; exact ⟨⟨_, by omega, by omega, rfl⟩, rfl⟩)
    | skip
  go_loop [0, 5] (fun t i => ∃ (k : Nat) (T : Int), k ≤ n ∧ 0 ≤ T ∧ T ≤ 1000000000000 ∧ i = .int .i64 k ∧ t = .int .i64 T) (fun _ i => n - (intOf i).toNat)
  case atStart => exact ⟨0, _, by omega, by omega, by omega, rfl, rfl⟩
  case round =>
    obtain ⟨k, T, hk, hT0, hT1, rfl, rfl⟩ := hrel
    by_cases hlt : k < n
    · obtain ⟨b1, off, rfl, hcl⟩ := HA.out.at_ (by omega)
      obtain ⟨x, q, cc, c0, c1, hin⟩ := hcl k hlt
      have hz := Z.out k hlt
      have hq := hin.len
      rw [← hq] at hz
      clear hcl hin hq
      go_wp2
      all_goals first
        | (go_ret; exact ⟨⟨_, by omega, by omega, rfl⟩, rfl⟩)
        | (go_round
           case rel => exact ⟨k + 1, _, by omega, by omega, by omega, by go_num, rfl⟩
           case measure => simp [intOf]; omega)
    · go_wp2
      go_ret
      exact ⟨⟨_, by omega, by omega, rfl⟩, rfl⟩

/-- The numbers rise strictly within the page. -/
def Rise (first : Int) (n : Nat) (N : Nat → Int) : Prop := ∀ i, i < n → first ≤ N i ∧ N i < first + 4096 ∧ (0 < i → N (i - 1) < N i)

set_option maxRecDepth 100000 in
set_option maxHeartbeats 4000000 in
theorem page7 (first : Int) (a : Option Addr) (n c : Nat) (w : World) (N : Nat → Int) (L : Nat → List Int) (z : Zs n N L) (hf0 : -9223372036854775808 ≤ first) (hf1 : first ≤ 9223372036854775807) (hA : Es w a n N L) :
    Calls Tryd.prog 7 #[.int .i64 first, .slice a n c] w fun e w' => Ans e (Rise first n N) ∧ w' = w := by
  have HA := hide hA; clear hA
  obtain ⟨zn, z⟩ := z
  have Z := hide z; clear z
  go_enter Tryd.func7, Tryd.ntmps7
  go_wp2
  go_loop [5] (fun i => ∃ (k : Nat), k ≤ n ∧ i = .int .i64 k ∧ Rise first k N) (fun i => n - (intOf i).toNat)
  case atStart => exact ⟨0, by omega, rfl, fun j hj => absurd hj (Nat.not_lt_zero _)⟩
  case round =>
    obtain ⟨k, hk, rfl, hall⟩ := hrel
    have HALL := hide hall; clear hall
    by_cases hlt : k < n
    · obtain ⟨b1, off, rfl, hcl⟩ := HA.out.at_ (by omega)
      obtain ⟨x, q, cc, c0, c1, hin⟩ := hcl k hlt
      have hz := (Z.out k hlt).2
      clear hin c1
      have hstep : ∀ y, y = N k → first ≤ y → y < first + 4096 → (0 < k → N (k - 1) < y) → Rise first (k + 1) N := by
        rintro y rfl h1 h2 h3 j hj
        rcases Nat.lt_succ_iff_lt_or_eq.1 hj with h | rfl
        · exact HALL.out j h
        · exact ⟨h1, h2, h3⟩
      by_cases h0 : 0 < k
      · obtain ⟨x', q', cc', c0', _, _⟩ := hcl (k - 1) (by omega)
        clear hcl
        have hz' := (Z.out (k - 1) (by omega)).2
        have HS := hide hstep; clear hstep
        generalize hy : N k = y at *
        generalize hy' : N (k - 1) = y' at *
        have HY := hide hy; have HY' := hide hy'; clear hy hy'
        have hk1 : 0 < (k : Int) := by omega
        by_cases g1 : y < first
        · go_wp2
          go_ret
          exact ⟨Ans.no _, rfl⟩
        by_cases g2 : y < first + 4096
        · by_cases g3 : y' < y
          · go_wp2
            go_round
            case rel => exact ⟨k + 1, by omega, by go_num, HS.out y rfl (by omega) g2 (fun _ => g3)⟩
            case measure => simp [intOf]; omega
          · go_wp2
            go_ret
            exact ⟨Ans.no _, rfl⟩
        · by_cases g4 : y - first ≤ 9223372036854775807
          · have g5 : 4096 ≤ y - first := by omega
            go_wp2
            go_ret
            exact ⟨Ans.no _, rfl⟩
          · have hwr : wrap64 (y - first) = y - first - 18446744073709551616 := by unfold wrap64; omega
            have g6 : y - first - 18446744073709551616 < 0 := by omega
            go_wp2
            go_ret
            exact ⟨Ans.no _, rfl⟩
      · obtain rfl : k = 0 := by omega
        rw [Nat.zero_mul, Nat.add_zero] at c0
        clear hcl
        have HS := hide hstep; clear hstep
        generalize hy : N 0 = y at *
        have HY := hide hy; clear hy
        by_cases g1 : y < first
        · go_wp2
          go_ret
          exact ⟨Ans.no _, rfl⟩
        by_cases g2 : y < first + 4096
        · go_wp2
          go_round
          case rel => exact ⟨0 + 1, by omega, by go_num, HS.out y rfl (by omega) g2 (fun h => absurd h (Nat.lt_irrefl _))⟩
          case measure => simp [intOf]; omega
        · by_cases g4 : y - first ≤ 9223372036854775807
          · have g5 : 4096 ≤ y - first := by omega
            go_wp2
            go_ret
            exact ⟨Ans.no _, rfl⟩
          · have hwr : wrap64 (y - first) = y - first - 18446744073709551616 := by unfold wrap64; omega
            have g6 : y - first - 18446744073709551616 < 0 := by omega
            go_wp2
            go_ret
            exact ⟨Ans.no _, rfl⟩
    · obtain rfl : k = n := by omega
      go_wp2
      go_ret
      exact ⟨Ans.yes _ HALL.out, rfl⟩
end Go.Proofs.Qxb6629270aDoor
