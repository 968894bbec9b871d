/-
  THE WALKS over the gates of the two laws: what they are told of the references that came in; the byte counts answer some bool and turn nothing.
-/
import Derived.Test.Qxb6629165aRows
import Derived.WalkKit
import Derived.WalkSpells
import Derived.WalkLawsBesides
namespace Go.Proofs.Qxb6629165a
open Go.RowKit
set_option linter.unusedVariables false

theorem hide {p : Prop} (h : p) : Hid p := h

/-- WHAT THE WALK IS TOLD OF THE REFERENCES THAT CAME IN: element i's four strings and two pointers. -/
structure Refs (w : World) (b off n : Nat) (S : Nat → Nat → ByteArray) (C D : Nat → Option Addr) (cb db : Nat → Bool) : Prop where
  s0 : ∀ i, i < n → w.cell? ⟨b, off + i * 6, none⟩ = some (.string (S i 0))
  s1 : ∀ i, i < n → w.cell? ⟨b, off + i * 6 + 1, none⟩ = some (.string (S i 1))
  s2 : ∀ i, i < n → w.cell? ⟨b, off + i * 6 + 2, none⟩ = some (.string (S i 2))
  s3 : ∀ i, i < n → w.cell? ⟨b, off + i * 6 + 3, none⟩ = some (.string (S i 3))
  c : ∀ i, i < n → w.cell? ⟨b, off + i * 6 + 4, none⟩ = some (.pointer (C i))
  d : ∀ i, i < n → w.cell? ⟨b, off + i * 6 + 5, none⟩ = some (.pointer (D i))
  cp : ∀ i, i < n → ∀ p, C i = some p → w.cell? p = some (.bool (cb i)) ∧ p.block < w.heap.size
  dp : ∀ i, i < n → ∀ p, D i = some p → w.cell? p = some (.bool (db i)) ∧ p.block < w.heap.size
  z : ∀ i j, i < n → (S i j).size ≤ 9223372036854775807
  lt : b < w.heap.size

/-- The references in a later world, in which nothing below the old heap's size has turned. -/
theorem Refs.below {w w' : World} {b off n : Nat} {S : Nat → Nat → ByteArray} {C D : Nat → Option Addr} {cb db : Nat → Bool} (h : Refs w b off n S C D cb db) (hb : Below w.heap.size w w') : Refs w' b off n S C D cb db where
  s0 := fun i hi => (hb.cell (p := ⟨b, _, none⟩) h.lt).trans (h.s0 i hi)
  s1 := fun i hi => (hb.cell (p := ⟨b, _, none⟩) h.lt).trans (h.s1 i hi)
  s2 := fun i hi => (hb.cell (p := ⟨b, _, none⟩) h.lt).trans (h.s2 i hi)
  s3 := fun i hi => (hb.cell (p := ⟨b, _, none⟩) h.lt).trans (h.s3 i hi)
  c := fun i hi => (hb.cell (p := ⟨b, _, none⟩) h.lt).trans (h.c i hi)
  d := fun i hi => (hb.cell (p := ⟨b, _, none⟩) h.lt).trans (h.d i hi)
  cp := fun i hi p hp => ⟨(hb.cell (h.cp i hi p hp).2).trans (h.cp i hi p hp).1, Nat.lt_of_lt_of_le (h.cp i hi p hp).2 hb.size⟩
  dp := fun i hi p hp => ⟨(hb.cell (h.dp i hi p hp).2).trans (h.dp i hi p hp).1, Nat.lt_of_lt_of_le (h.dp i hi p hp).2 hb.size⟩
  z := h.z
  lt := Nat.lt_of_lt_of_le h.lt hb.size

/-- The references from k on. -/
theorem Refs.from {w : World} {b off n : Nat} {S : Nat → Nat → ByteArray} {C D : Nat → Option Addr} {cb db : Nat → Bool} (h : Refs w b off n S C D cb db) (k m : Nat) (hm : k + m ≤ n) :
    Refs w b (off + k * 6) m (fun i => S (k + i)) (fun i => C (k + i)) (fun i => D (k + i)) (fun i => cb (k + i)) (fun i => db (k + i)) where
  s0 := fun i hi => by have := h.s0 (k + i) (by omega); rwa [show off + (k + i) * 6 = off + k * 6 + i * 6 from by omega] at this
  s1 := fun i hi => by have := h.s1 (k + i) (by omega); rwa [show off + (k + i) * 6 = off + k * 6 + i * 6 from by omega] at this
  s2 := fun i hi => by have := h.s2 (k + i) (by omega); rwa [show off + (k + i) * 6 = off + k * 6 + i * 6 from by omega] at this
  s3 := fun i hi => by have := h.s3 (k + i) (by omega); rwa [show off + (k + i) * 6 = off + k * 6 + i * 6 from by omega] at this
  c := fun i hi => by have := h.c (k + i) (by omega); rwa [show off + (k + i) * 6 = off + k * 6 + i * 6 from by omega] at this
  d := fun i hi => by have := h.d (k + i) (by omega); rwa [show off + (k + i) * 6 = off + k * 6 + i * 6 from by omega] at this
  cp := fun i hi => h.cp (k + i) (by omega)
  dp := fun i hi => h.dp (k + i) (by omega)
  z := fun i j hi => h.z (k + i) j (by omega)
  lt := h.lt

/-- The first k references. -/
theorem Refs.upto {w : World} {b off n : Nat} {S : Nat → Nat → ByteArray} {C D : Nat → Option Addr} {cb db : Nat → Bool} (h : Refs w b off n S C D cb db) (m : Nat) (hm : m ≤ n) : Refs w b off m S C D cb db where
  s0 := fun i hi => h.s0 i (by omega)
  s1 := fun i hi => h.s1 i (by omega)
  s2 := fun i hi => h.s2 i (by omega)
  s3 := fun i hi => h.s3 i (by omega)
  c := fun i hi => h.c i (by omega)
  d := fun i hi => h.d i (by omega)
  cp := fun i hi => h.cp i (by omega)
  dp := fun i hi => h.dp i (by omega)
  z := fun i j hi => h.z i j (by omega)
  lt := h.lt

/-- The slice value that came in: its length and address, and, where it has elements, what they are. -/
structure View (w : World) (a : Option Addr) (n : Nat) (S : Nat → Nat → ByteArray) (C D : Nat → Option Addr) (cb db : Nat → Bool) : Prop where
  nil : a = none → n = 0
  refs : 0 < n → ∃ b off, a = some ⟨b, off, none⟩ ∧ Refs w b off n S C D cb db

def IsBool (e : Ending) : Prop := ∃ r, e = .returned (.bool r)
theorem IsBool.mk (r : Bool) : IsBool (.returned (.bool r)) := ⟨r, rfl⟩

set_option maxRecDepth 100000 in
set_option maxHeartbeats 1000000 in
theorem bytesC_some (b off n c : Nat) (kk : Int) (w : World) (S : Nat → Nat → ByteArray) (C D : Nat → Option Addr) (cb db : Nat → Bool) (hn : n ≤ 1048576)
  (hR : Refs w b off n S C D cb db) :
    Calls Try.prog 5 #[.slice (some ⟨b, off, none⟩) n c, .int .i64 kk] w fun e w' => IsBool e ∧ w' = w := by
  go_enter Try.func5, Try.ntmps5
  go_wp2
  go_loop [5, 6] (fun t i => ∃ (k : Nat) (T : Int), k ≤ n ∧ 0 ≤ T ∧ T ≤ 1048576 ∧ i = .int .i64 k ∧ t = .int .i64 T) (fun _ i => n - (intOf i).toNat)
  case atStart => exact ⟨0, n, by omega, by omega, by omega, rfl, rfl⟩
  case round =>
    obtain ⟨k, T, hk, hT0, hT1, rfl, rfl⟩ := hrel
    by_cases hlt : k < n
    · have c0 := hR.s0 k hlt
      have c1 := hR.s1 k hlt
      have c2 := hR.s2 k hlt
      have c3 := hR.s3 k hlt
      have z0 := hR.z k 0 hlt
      have z1 := hR.z k 1 hlt
      have z2 := hR.z k 2 hlt
      have z3 := hR.z k 3 hlt
      clear hR
      generalize S k 0 = s0 at c0 z0
      generalize S k 1 = s1 at c1 z1
      generalize S k 2 = s2 at c2 z2
      generalize S k 3 = s3 at c3 z3
      go_wp2
      all_goals first
        | (go_ret; exact ⟨IsBool.mk _, rfl⟩)
        | (go_round
           case rel => exact ⟨k + 1, _, by omega, by omega, by assumption, by go_num, rfl⟩
           case measure => simp [intOf]; omega)
    · go_wp2
      go_ret
      exact ⟨IsBool.mk _, rfl⟩

theorem bytesC_none (a : Option Addr) (c : Nat) (kk : Int) (w : World) :
    Calls Try.prog 5 #[.slice a 0 c, .int .i64 kk] w fun e w' => IsBool e ∧ w' = w := by
  go_enter Try.func5, Try.ntmps5
  go_wp2
  refine wp_loop_rounds 1 ?_
  rw [rounds_succ]
  go_wp2
  go_ret
  exact ⟨IsBool.mk _, rfl⟩

theorem bytesC_great (a : Option Addr) (n c : Nat) (kk : Int) (w : World) (hn : 1048576 < n) :
    Calls Try.prog 5 #[.slice a n c, .int .i64 kk] w fun e w' => e = .returned (.bool false) ∧ w' = w := by
  go_enter Try.func5, Try.ntmps5
  go_wp2
  go_ret
  exact ⟨rfl, rfl⟩

/-- It answers some bool, and yes only where there are at most 1048576 references. -/
theorem bytesC_any (a : Option Addr) (n c : Nat) (kk : Int) (w : World) (S : Nat → Nat → ByteArray) (C D : Nat → Option Addr) (cb db : Nat → Bool) (hV : View w a n S C D cb db) :
    (n ≤ 1048576 ∧ Calls Try.prog 5 #[.slice a n c, .int .i64 kk] w fun e w' => IsBool e ∧ w' = w) ∨ Calls Try.prog 5 #[.slice a n c, .int .i64 kk] w fun e w' => e = .returned (.bool false) ∧ w' = w := by
  by_cases hn : n ≤ 1048576
  · left
    refine ⟨hn, ?_⟩
    by_cases h0 : 0 < n
    · obtain ⟨b, off, rfl, hR⟩ := hV.refs h0
      exact bytesC_some b off n c kk w S C D cb db hn hR
    · obtain rfl : n = 0 := by omega
      exact bytesC_none a c kk w
  · right
    exact bytesC_great a n c kk w (by omega)

set_option maxRecDepth 100000 in
set_option maxHeartbeats 1000000 in
theorem bytesO_some (b off n c : Nat) (w : World) (S : Nat → Nat → ByteArray) (C D : Nat → Option Addr) (cb db : Nat → Bool) (hn : n ≤ 1048576)
  (hR : Refs w b off n S C D cb db) :
    Calls Try.prog 11 #[.slice (some ⟨b, off, none⟩) n c] w fun e w' => IsBool e ∧ w' = w := by
  go_enter Try.func11, Try.ntmps11
  go_wp2
  go_loop [3, 4] (fun t i => ∃ (k : Nat) (T : Int), k ≤ n ∧ 0 ≤ T ∧ T ≤ 1048576 ∧ i = .int .i64 k ∧ t = .int .i64 T) (fun _ i => n - (intOf i).toNat)
  case atStart => exact ⟨0, n, by omega, by omega, by omega, rfl, rfl⟩
  case round =>
    obtain ⟨k, T, hk, hT0, hT1, rfl, rfl⟩ := hrel
    by_cases hlt : k < n
    · have c0 := hR.s0 k hlt
      have c1 := hR.s1 k hlt
      have c2 := hR.s2 k hlt
      have c3 := hR.s3 k hlt
      have z0 := hR.z k 0 hlt
      have z1 := hR.z k 1 hlt
      have z2 := hR.z k 2 hlt
      have z3 := hR.z k 3 hlt
      clear hR
      generalize S k 0 = s0 at c0 z0
      generalize S k 1 = s1 at c1 z1
      generalize S k 2 = s2 at c2 z2
      generalize S k 3 = s3 at c3 z3
      go_wp2
      all_goals first
        | (go_ret; exact ⟨IsBool.mk _, rfl⟩)
        | (go_round
           case rel => exact ⟨k + 1, _, by omega, by omega, by assumption, by go_num, rfl⟩
           case measure => simp [intOf]; omega)
    · go_wp2
      go_ret
      exact ⟨IsBool.mk _, rfl⟩

theorem bytesO_none (a : Option Addr) (c : Nat) (w : World) :
    Calls Try.prog 11 #[.slice a 0 c] w fun e w' => IsBool e ∧ w' = w := by
  go_enter Try.func11, Try.ntmps11
  go_wp2
  refine wp_loop_rounds 1 ?_
  rw [rounds_succ]
  go_wp2
  go_ret
  exact ⟨IsBool.mk _, rfl⟩

theorem bytesO_great (a : Option Addr) (n c : Nat) (w : World) (hn : 1048576 < n) :
    Calls Try.prog 11 #[.slice a n c] w fun e w' => e = .returned (.bool false) ∧ w' = w := by
  go_enter Try.func11, Try.ntmps11
  go_wp2
  go_ret
  exact ⟨rfl, rfl⟩

/-- It answers some bool, and yes only where there are at most 1048576 references. -/
theorem bytesO_any (a : Option Addr) (n c : Nat) (w : World) (S : Nat → Nat → ByteArray) (C D : Nat → Option Addr) (cb db : Nat → Bool) (hV : View w a n S C D cb db) :
    (n ≤ 1048576 ∧ Calls Try.prog 11 #[.slice a n c] w fun e w' => IsBool e ∧ w' = w) ∨ Calls Try.prog 11 #[.slice a n c] w fun e w' => e = .returned (.bool false) ∧ w' = w := by
  by_cases hn : n ≤ 1048576
  · left
    refine ⟨hn, ?_⟩
    by_cases h0 : 0 < n
    · obtain ⟨b, off, rfl, hR⟩ := hV.refs h0
      exact bytesO_some b off n c w S C D cb db hn hR
    · obtain rfl : n = 0 := by omega
      exact bytesO_none a c w
  · right
    exact bytesO_great a n c w (by omega)

set_option maxRecDepth 100000 in
set_option maxHeartbeats 1000000 in
theorem fit_some (b off n c : Nat) (w : World) (S : Nat → Nat → ByteArray) (C D : Nat → Option Addr) (cb db : Nat → Bool) (hn : n ≤ 1048576)
  (hR : Refs w b off n S C D cb db) :
    Calls Try.prog 6 #[.slice (some ⟨b, off, none⟩) n c] w fun e w' => IsBool e ∧ w' = w := by
  go_enter Try.func6, Try.ntmps6
  go_wp2
  go_loop [3, 4] (fun t i => ∃ (k : Nat) (T : Int), k ≤ n ∧ 0 ≤ T ∧ T ≤ 1048576 ∧ i = .int .i64 k ∧ t = .int .i64 T) (fun _ i => n - (intOf i).toNat)
  case atStart => exact ⟨0, 0, by omega, by omega, by omega, rfl, rfl⟩
  case round =>
    obtain ⟨k, T, hk, hT0, hT1, rfl, rfl⟩ := hrel
    by_cases hlt : k < n
    · have c0 := hR.s0 k hlt
      have c1 := hR.s1 k hlt
      have c2 := hR.s2 k hlt
      have c3 := hR.s3 k hlt
      have z0 := hR.z k 0 hlt
      have z1 := hR.z k 1 hlt
      have z2 := hR.z k 2 hlt
      have z3 := hR.z k 3 hlt
      clear hR
      generalize S k 0 = s0 at c0 z0
      generalize S k 1 = s1 at c1 z1
      generalize S k 2 = s2 at c2 z2
      generalize S k 3 = s3 at c3 z3
      go_wp2
      all_goals first
        | (go_ret; exact ⟨IsBool.mk _, rfl⟩)
        | (go_round
           case rel => exact ⟨k + 1, _, by omega, by omega, by assumption, by go_num, rfl⟩
           case measure => simp [intOf]; omega)
    · go_wp2
      go_ret
      exact ⟨IsBool.mk _, rfl⟩

theorem fit_none (a : Option Addr) (c : Nat) (w : World) :
    Calls Try.prog 6 #[.slice a 0 c] w fun e w' => IsBool e ∧ w' = w := by
  go_enter Try.func6, Try.ntmps6
  go_wp2
  refine wp_loop_rounds 1 ?_
  rw [rounds_succ]
  go_wp2
  go_ret
  exact ⟨IsBool.mk _, rfl⟩

theorem fit_any (a : Option Addr) (n c : Nat) (w : World) (S : Nat → Nat → ByteArray) (C D : Nat → Option Addr) (cb db : Nat → Bool) (hV : View w a n S C D cb db) (hn : n ≤ 1048576) :
    Calls Try.prog 6 #[.slice a n c] w fun e w' => IsBool e ∧ w' = w := by
  by_cases h0 : 0 < n
  · obtain ⟨b, off, rfl, hR⟩ := hV.refs h0
    exact fit_some b off n c w S C D cb db hn hR
  · obtain rfl : n = 0 := by omega
    exact fit_none a c w

end Go.Proofs.Qxb6629165a
