/-
  THE WALKS over the gates: what the walks are told of the branches that came in; the byte counts.
-/
import Derived.Test.Qxb6629206aDoorRows
import Derived.WalkKit
import Derived.WalkSpells
import Derived.WalkLawsBesides
namespace Go.Proofs.Qxb6629206aDoor
open Go.RowKit
set_option linter.unusedVariables false

theorem hide {p : Prop} (h : p) : Hid p := h

def tot (f : Nat → Nat) : Nat → Nat
  | 0 => 0
  | n + 1 => tot f n + f n

theorem tot_succ (f : Nat → Nat) (n : Nat) : tot f (n + 1) = tot f n + f n := rfl

/-- WHAT THE WALKS ARE TOLD OF A SLICE OF BRANCHES: where it has elements, each is three strings. -/
structure Bs (w : World) (a : Option Addr) (n : Nat) (R G S : Nat → ByteArray) : Prop where
  at_ : 0 < n → ∃ b off, a = some ⟨b, off, none⟩ ∧ b < w.heap.size ∧ ∀ i, i < n → w.cell? ⟨b, off + i * 3, none⟩ = some (.string (R i)) ∧ w.cell? ⟨b, off + i * 3 + 1, none⟩ = some (.string (G i)) ∧ w.cell? ⟨b, off + i * 3 + 2, none⟩ = some (.string (S i))
  z : ∀ i, i < n → (R i).size ≤ 9223372036854775807 ∧ (G i).size ≤ 9223372036854775807 ∧ (S i).size ≤ 9223372036854775807

theorem Bs.below {w w' : World} {a : Option Addr} {n : Nat} {R G S : Nat → ByteArray} (h : Bs w a n R G S) (hb : Below w.heap.size w w') : Bs w' a n R G S where
  at_ := fun h0 => let ⟨b, off, e, hlt, hc⟩ := h.at_ h0
    ⟨b, off, e, Nat.lt_of_lt_of_le hlt hb.size, fun i hi => ⟨(hb.cell (p := ⟨b, _, none⟩) hlt).trans (hc i hi).1, (hb.cell (p := ⟨b, _, none⟩) hlt).trans (hc i hi).2.1, (hb.cell (p := ⟨b, _, none⟩) hlt).trans (hc i hi).2.2⟩⟩
  z := h.z

/-- The bytes of branch i. -/
def sz (R G S : Nat → ByteArray) (i : Nat) : Nat := (R i).size + (G i).size + (S i).size

def IsBool (e : Ending) : Prop := ∃ r, e = .returned (.bool r)
theorem IsBool.mk (r : Bool) : IsBool (.returned (.bool r)) := ⟨r, rfl⟩

/-- What the first gate answers: some bool; yes only where all is small. -/
def Ans (e : Ending) (A : Nat) : Prop := ∃ r, e = .returned (.bool r) ∧ (r = true → A ≤ 1048576)
theorem Ans.no (A : Nat) : Ans (.returned (.bool false)) A := ⟨false, rfl, fun h => nomatch h⟩
theorem Ans.yes {A : Nat} (r : Bool) (h : A ≤ 1048576) : Ans (.returned (.bool r)) A := ⟨r, rfl, fun _ => h⟩

set_option maxRecDepth 100000 in
set_option maxHeartbeats 2000000 in
theorem bytes5 (key : ByteArray) (nx : Int) (oc : ByteArray) (a : Option Addr) (n c : Nat) (w : World) (R G S : Nat → ByteArray) (hk : key.size ≤ 9223372036854775807) (ho : oc.size ≤ 9223372036854775807) (hn : n ≤ 9223372036854775807) (hB : Bs w a n R G S) :
    Calls Tryd.prog 5 #[.string key, .int .u64 nx, .string oc, .slice a n c] w fun e w' => Ans e (key.size + oc.size + n + tot (sz R G S) n) ∧ w' = w := by
  have HB := hide hB; clear hB
  go_enter Tryd.func5, Tryd.ntmps5
  go_wp2
  all_goals first
    | (go_ret; exact ⟨Ans.no _, rfl⟩)
    | skip
  go_loop [9, 10] (fun t i => ∃ (kk : Nat) (T : Int), kk ≤ n ∧ (key.size + oc.size + n + tot (sz R G S) kk : Nat) ≤ T ∧ T ≤ 1048576 ∧ i = .int .i64 kk ∧ t = .int .i64 T) (fun _ i => n - (intOf i).toNat)
  case atStart => exact ⟨0, _, by omega, by simp only [tot]; omega, by assumption, rfl, rfl⟩
  case round =>
    obtain ⟨k, T, hkk, hT0k, hT1k, rfl, rfl⟩ := hrel
    have hT00k : 0 ≤ T := by omega
    by_cases hlt : k < n
    · have hz := HB.out.z k hlt
      obtain ⟨b1, off, rfl, _, hcl⟩ := HB.out.at_ (by omega)
      obtain ⟨c0, c1, c2⟩ := hcl k hlt
      obtain ⟨z0, z1, z2⟩ := hz
      clear hcl
      have hsz : tot (sz R G S) (k + 1) = tot (sz R G S) k + ((R k).size + (G k).size + (S k).size) := rfl
      have HSZ := hide hsz; clear hsz
      generalize R k = s0 at c0 z0 HSZ
      generalize G k = s1 at c1 z1 HSZ
      generalize S k = s2 at c2 z2 HSZ
      generalize hq : tot (sz R G S) k = qk at hT0k HSZ
      have HQk := hide hq; clear hq
      go_wp2
      all_goals first
        | (go_ret; exact ⟨Ans.no _, rfl⟩)
        | (go_round
           case rel => exact ⟨k + 1, _, by omega, by rw [HSZ.out]; omega, by assumption, by go_num, rfl⟩
           case measure => simp [intOf]; omega)
    · obtain rfl : k = n := by omega
      generalize hq : tot (sz R G S) k = qk at hT0k
      have HQk := hide hq; clear hq
      go_wp2
      go_ret
      exact ⟨Ans.yes _ (by rw [HQk.out]; omega), rfl⟩

set_option maxRecDepth 100000 in
set_option maxHeartbeats 4000000 in
theorem bytes13 (a b : Option Addr) (n c m d : Nat) (nx : Int) (oc : ByteArray) (w : World) (R G S R' G' S' : Nat → ByteArray) (ho : oc.size ≤ 9223372036854775807) (hn : n ≤ 9223372036854775807) (hm : m ≤ 9223372036854775807) (hA : Bs w a n R G S) (hB : Bs w b m R' G' S') :
    Calls Tryd.prog 13 #[.slice a n c, .slice b m d, .int .u64 nx, .string oc] w fun e w' => Ans e (n + tot (sz R G S) n + m + tot (sz R' G' S') m + oc.size) ∧ w' = w := by
  have HA := hide hA; clear hA
  have HB := hide hB; clear hB
  go_enter Tryd.func13, Tryd.ntmps13
  go_wp2
  all_goals first
    | (go_ret; exact ⟨Ans.no _, rfl⟩)
    | skip
  go_loop [9, 10] (fun t i => ∃ (kk : Nat) (T : Int), kk ≤ n ∧ (n + tot (sz R G S) kk : Nat) ≤ T ∧ T ≤ 1048576 ∧ i = .int .i64 kk ∧ t = .int .i64 T) (fun _ i => n - (intOf i).toNat)
  case atStart => exact ⟨0, _, by omega, by simp only [tot]; omega, by assumption, rfl, rfl⟩
  case round =>
    obtain ⟨k, T, hkk, hT0k, hT1k, rfl, rfl⟩ := hrel
    have hT00k : 0 ≤ T := by omega
    by_cases hlt : k < n
    · have hz := HA.out.z k hlt
      obtain ⟨b1, off, rfl, _, hcl⟩ := HA.out.at_ (by omega)
      obtain ⟨c0, c1, c2⟩ := hcl k hlt
      obtain ⟨z0, z1, z2⟩ := hz
      clear hcl
      have hsz : tot (sz R G S) (k + 1) = tot (sz R G S) k + ((R k).size + (G k).size + (S k).size) := rfl
      have HSZ := hide hsz; clear hsz
      generalize R k = s0 at c0 z0 HSZ
      generalize G k = s1 at c1 z1 HSZ
      generalize S k = s2 at c2 z2 HSZ
      generalize hq : tot (sz R G S) k = qk at hT0k HSZ
      have HQk := hide hq; clear hq
      go_wp2
      all_goals first
        | (go_ret; exact ⟨Ans.no _, rfl⟩)
        | (go_round
           case rel => exact ⟨k + 1, _, by omega, by rw [HSZ.out]; omega, by assumption, by go_num, rfl⟩
           case measure => simp [intOf]; omega)
    · obtain rfl : k = n := by omega
      generalize hq : tot (sz R G S) k = qk at hT0k
      have HQk := hide hq; clear hq
      go_wp2
      all_goals first
        | (go_ret; exact ⟨Ans.no _, rfl⟩)
        | skip
      go_loop [9, 11] (fun t i => ∃ (kk : Nat) (T : Int), kk ≤ m ∧ (k + qk + m + tot (sz R' G' S') kk : Nat) ≤ T ∧ T ≤ 1048576 ∧ i = .int .i64 kk ∧ t = .int .i64 T) (fun _ i => m - (intOf i).toNat)
      case atStart => exact ⟨0, _, by omega, by simp only [tot]; omega, by assumption, rfl, rfl⟩
      case round =>
        obtain ⟨j, T', hkj, hT0j, hT1j, rfl, rfl⟩ := hrel
        have hT00j : 0 ≤ T' := by omega
        by_cases hlt : j < m
        · have hz := HB.out.z j hlt
          obtain ⟨b1, off, rfl, _, hcl⟩ := HB.out.at_ (by omega)
          obtain ⟨c0, c1, c2⟩ := hcl j hlt
          obtain ⟨z0, z1, z2⟩ := hz
          clear hcl
          have hsz : tot (sz R' G' S') (j + 1) = tot (sz R' G' S') j + ((R' j).size + (G' j).size + (S' j).size) := rfl
          have HSZ := hide hsz; clear hsz
          generalize R' j = s0 at c0 z0 HSZ
          generalize G' j = s1 at c1 z1 HSZ
          generalize S' j = s2 at c2 z2 HSZ
          generalize hq : tot (sz R' G' S') j = qj at hT0j HSZ
          have HQj := hide hq; clear hq
          go_wp2
          all_goals first
            | (go_ret; exact ⟨Ans.no _, rfl⟩)
            | (go_round
               case rel => exact ⟨j + 1, _, by omega, by rw [HSZ.out]; omega, by assumption, by go_num, rfl⟩
               case measure => simp [intOf]; omega)
        · obtain rfl : j = m := by omega
          generalize hq : tot (sz R' G' S') j = qj at hT0j
          have HQj := hide hq; clear hq
          go_wp2
          all_goals first
            | (go_ret; exact ⟨Ans.no _, rfl⟩)
            | (go_ret; exact ⟨Ans.yes _ (by rw [HQk.out, HQj.out]; omega), rfl⟩)

theorem le_tot (f : Nat → Nat) (n i : Nat) (h : i < n) : f i ≤ tot f n := by
  induction n with
  | zero => omega
  | succ n ih =>
    rw [tot_succ]
    rcases Nat.lt_succ_iff_lt_or_eq.1 h with h | rfl
    · have := ih h; omega
    · omega

set_option maxRecDepth 100000 in
set_option maxHeartbeats 4000000 in
/-- sizeOK, behind the first gate: some bool. -/
theorem size6 (s1 s2 : ByteArray) (a b : Option Addr) (n c m d : Nat) (w : World) (R G S R' G' S' : Nat → ByteArray) (hs1 : s1.size ≤ 1048576) (hs2 : s2.size ≤ 1048576) (hn : n ≤ 1048576) (hm : m ≤ 1048576)
    (hA : Bs w a n R G S) (hB : Bs w b m R' G' S') (hzA : tot (sz R G S) n ≤ 1048576) (hzB : tot (sz R' G' S') m ≤ 1048576) :
    Calls Tryd.prog 6 #[.string s1, .string s2, .slice a n c, .slice b m d] w fun e w' => IsBool e ∧ w' = w := by
  have HA := hide hA; clear hA
  have HB := hide hB; clear hB
  by_cases g3 : 65536 < n
  · go_enter Tryd.func6, Tryd.ntmps6
    go_wp2
    go_ret
    exact ⟨IsBool.mk _, rfl⟩
  by_cases g4 : 65536 < m
  · go_enter Tryd.func6, Tryd.ntmps6
    go_wp2
    go_ret
    exact ⟨IsBool.mk _, rfl⟩
  go_enter Tryd.func6, Tryd.ntmps6
  go_wp2
  all_goals first
    | (go_ret; exact ⟨IsBool.mk _, rfl⟩)
    | skip
  go_loop [9, 10] (fun t i => ∃ (k : Nat) (T : Int), k ≤ n ∧ 0 ≤ T ∧ T ≤ 1048576 ∧ i = .int .i64 k ∧ t = .int .i64 T) (fun _ i => n - (intOf i).toNat)
  case atStart => exact ⟨0, _, by omega, by omega, by assumption, rfl, rfl⟩
  case round =>
    obtain ⟨k, T, hkn, hT0, hT1, rfl, rfl⟩ := hrel
    by_cases hlt : k < n
    · have hz := le_tot (sz R G S) n k hlt
      unfold sz at hz
      obtain ⟨b1, off, rfl, _, hcl⟩ := HA.out.at_ (by omega)
      obtain ⟨c0, c1, c2⟩ := hcl k hlt
      clear hcl
      have z0 : (R k).size ≤ 1048576 := by unfold sz at hzA; omega
      have z1 : (G k).size ≤ 1048576 := by unfold sz at hzA; omega
      have z2 : (S k).size ≤ 1048576 := by unfold sz at hzA; omega
      clear hz
      generalize R k = s0 at c0 z0
      generalize G k = s1 at c1 z1
      generalize S k = s2 at c2 z2
      go_wp2
      all_goals first
        | (go_ret; exact ⟨IsBool.mk _, rfl⟩)
        | (go_round
           case rel => exact ⟨k + 1, _, by omega, by omega, by assumption, by go_num, rfl⟩
           case measure => simp [intOf]; omega)
    · go_wp2
      all_goals first
        | (go_ret; exact ⟨IsBool.mk _, rfl⟩)
        | skip
      go_loop [9, 11] (fun t i => ∃ (k : Nat) (T : Int), k ≤ m ∧ 0 ≤ T ∧ T ≤ 1048576 ∧ i = .int .i64 k ∧ t = .int .i64 T) (fun _ i => m - (intOf i).toNat)
      case atStart => exact ⟨0, _, by omega, by omega, by assumption, rfl, rfl⟩
      case round =>
        obtain ⟨j, T', hkm, hT0', hT1', rfl, rfl⟩ := hrel
        by_cases hlt : j < m
        · have hz := le_tot (sz R' G' S') m j hlt
          unfold sz at hz
          obtain ⟨b1, off, rfl, _, hcl⟩ := HB.out.at_ (by omega)
          obtain ⟨c0, c1, c2⟩ := hcl j hlt
          clear hcl
          have z0 : (R' j).size ≤ 1048576 := by unfold sz at hzB; omega
          have z1 : (G' j).size ≤ 1048576 := by unfold sz at hzB; omega
          have z2 : (S' j).size ≤ 1048576 := by unfold sz at hzB; omega
          clear hz
          generalize R' j = s0 at c0 z0
          generalize G' j = s1 at c1 z1
          generalize S' j = s2 at c2 z2
          go_wp2
          all_goals first
            | (go_ret; exact ⟨IsBool.mk _, rfl⟩)
            | (go_round
               case rel => exact ⟨j + 1, _, by omega, by omega, by assumption, by go_num, rfl⟩
               case measure => simp [intOf]; omega)
        · go_wp2
          all_goals (go_ret; exact ⟨IsBool.mk _, rfl⟩)

end Go.Proofs.Qxb6629206aDoor
