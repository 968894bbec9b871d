/-
  THE WALKS over ControllerRef, zzIndexOf, zzMarked, zzCopyBool; the references that the law itself has made.
-/
import Derived.Test.Qxb6629165aGates
import Derived.LaidEqlPtr
namespace Go.Proofs.Qxb6629165a
open Go.RowKit
set_option linter.unusedVariables false

/-! ### The plain part: the first marked index -/
def fst (M : Nat → Bool) : Nat → Option Nat
  | 0 => none
  | n + 1 => match fst M n with
    | some i => some i
    | none => if M n then some n else none

theorem fst_cases (M : Nat → Bool) (n : Nat) : (fst M n = none ∧ ∀ i, i < n → M i = false) ∨ ∃ i, fst M n = some i ∧ i < n ∧ M i = true ∧ ∀ j, j < i → M j = false := by
  induction n with
  | zero => left; exact ⟨rfl, fun i hi => absurd hi (Nat.not_lt_zero _)⟩
  | succ n ih =>
    rcases ih with ⟨h, hf⟩ | ⟨i, h, hi, hm, hf⟩
    · by_cases hM : M n = true
      · right; exact ⟨n, by simp [fst, h, hM], Nat.lt_succ_self n, hM, hf⟩
      · left
        refine ⟨by simp [fst, h, hM], fun i hi => ?_⟩
        rcases Nat.lt_succ_iff_lt_or_eq.1 hi with hlt | rfl
        · exact hf i hlt
        · simpa using hM
    · right; exact ⟨i, by simp [fst, h], by omega, hm, hf⟩

theorem fst_none {M : Nat → Bool} {n : Nat} (h : ∀ i, i < n → M i = false) : fst M n = none := by
  rcases fst_cases M n with ⟨h1, _⟩ | ⟨i, _, hi, hm, _⟩
  · exact h1
  · rw [h i hi] at hm; cases hm

theorem fst_some {M : Nat → Bool} {n k : Nat} (hk : k < n) (hm : M k = true) (h : ∀ i, i < k → M i = false) : fst M n = some k := by
  rcases fst_cases M n with ⟨_, hf⟩ | ⟨i, h1, hi, hmi, hf⟩
  · rw [hf k hk] at hm; cases hm
  · rcases Nat.lt_trichotomy i k with hlt | rfl | hlt
    · rw [h i hlt] at hmi; cases hmi
    · exact h1
    · rw [hf k hlt] at hm; cases hm

/-! ### The small functions -/
theorem marked_nil (w : World) : Calls Try.prog 10 #[.pointer none] w fun e w' => e = .returned (.bool false) ∧ w' = w := by
  go_enter Try.func10, Try.ntmps10
  go_wp2
  go_ret
  exact ⟨rfl, rfl⟩
theorem marked_at (p : Addr) (b : Bool) (w : World) (h : w.cell? p = some (.bool b)) : Calls Try.prog 10 #[.pointer (some p)] w fun e w' => e = .returned (.bool b) ∧ w' = w := by
  go_enter Try.func10, Try.ntmps10
  go_wp2
  go_ret
  exact ⟨rfl, rfl⟩
theorem copy_nil (w : World) : Calls Try.prog 13 #[.pointer none] w fun e w' => e = .returned (.pointer none) ∧ w' = w := by
  go_enter Try.func13, Try.ntmps13
  go_wp2
  go_ret
  exact ⟨rfl, rfl⟩
theorem copy_at (p : Addr) (b : Bool) (w : World) (h : w.cell? p = some (.bool b)) : Calls Try.prog 13 #[.pointer (some p)] w fun e w' => e = .returned (.pointer (some ⟨w.heap.size, 0, none⟩)) ∧ w' = w.alloc (.cells #[.bool b] 4) := by
  go_enter Try.func13, Try.ntmps13
  go_wp2
  go_ret
  exact ⟨rfl, rfl⟩

/-- The zero reference. -/
def z50 : Value := .agg #[.string ⟨#[]⟩, .string ⟨#[]⟩, .string ⟨#[]⟩, .string ⟨#[]⟩, .pointer none, .pointer none]
theorem info50 : (Try.prog.info? 50).map (fun i => (i.zero, i.size, i.bytes)) = some (some z50, 6, 80) := by kernel_rfl

/-! ### A reference of the law's own making -/
/-- Element i of the row at block g: four strings, two pointers; its flag reads f. -/
def El (w : World) (g B i : Nat) (f : Option Bool) : Prop := ∃ (s0 s1 s2 s3 : ByteArray) (a4 a5 : Option Addr),
  w.cell? ⟨g, i * 6, none⟩ = some (.string s0) ∧ w.cell? ⟨g, i * 6 + 1, none⟩ = some (.string s1) ∧ w.cell? ⟨g, i * 6 + 2, none⟩ = some (.string s2) ∧ w.cell? ⟨g, i * 6 + 3, none⟩ = some (.string s3) ∧
  w.cell? ⟨g, i * 6 + 4, none⟩ = some (.pointer a4) ∧ w.cell? ⟨g, i * 6 + 5, none⟩ = some (.pointer a5) ∧ w.frozen? ⟨g, i * 6 + 4, none⟩ = false ∧
  ((f = none ∧ a4 = none) ∨ ∃ b q, f = some b ∧ a4 = some ⟨q, 0, none⟩ ∧ B ≤ q ∧ q ≠ g ∧ w.cell? ⟨q, 0, none⟩ = some (.bool b))

theorem cell_lt {w : World} {p : Addr} {v : Value} (h : w.cell? p = some v) : p.block < w.heap.size := World.block_lt_of_cell? w p h

theorem El.below {w w' : World} {g B i : Nat} {f : Option Bool} (h : El w g B i f) (hb : Below w.heap.size w w') : El w' g B i f := by
  obtain ⟨s0, s1, s2, s3, a4, a5, c0, c1, c2, c3, c4, c5, hf, hq⟩ := h
  have hg : g < w.heap.size := cell_lt c0
  refine ⟨s0, s1, s2, s3, a4, a5, (hb.cell (p := ⟨g, _, none⟩) hg).trans c0, (hb.cell (p := ⟨g, _, none⟩) hg).trans c1, (hb.cell (p := ⟨g, _, none⟩) hg).trans c2, (hb.cell (p := ⟨g, _, none⟩) hg).trans c3,
    (hb.cell (p := ⟨g, _, none⟩) hg).trans c4, (hb.cell (p := ⟨g, _, none⟩) hg).trans c5, (hb.frozen (p := ⟨g, _, none⟩) hg).trans hf, ?_⟩
  rcases hq with hq | ⟨b, q, rfl, rfl, h1, h2, h3⟩
  · exact .inl hq
  · exact .inr ⟨b, q, rfl, rfl, h1, h2, (hb.cell (p := ⟨q, 0, none⟩) (cell_lt h3)).trans h3⟩

/-- The row at block g is a block of the call's own making. -/
def Row (w : World) (g : Nat) : Prop := ∃ cur, w.heap[g]? = some (.cells cur 50 (0, 0))

theorem Row.lt {w : World} {g : Nat} (h : Row w g) : g < w.heap.size := by
  obtain ⟨cur, h⟩ := h
  exact (Array.getElem?_eq_some_iff.1 h).1
theorem Row.below {w w' : World} {g : Nat} (h : Row w g) (hb : Below w.heap.size w w') : Row w' g := by
  have hl := h.lt
  obtain ⟨cur, h⟩ := h
  exact ⟨cur, (hb.block g hl).trans h⟩

/-- The pointer at the element that was found. -/
def pt (g : Nat) : Option Nat → Option Addr
  | none => none
  | some i => some ⟨g, i * 6, none⟩

def mark (F : Nat → Option Bool) (i : Nat) : Bool := F i == some true

theorem ctrl_none (mb : Nat) (a : Option Addr) (c : Nat) (w : World) (hm : w.cell? ⟨mb, 14, none⟩ = some (.slice a 0 c)) :
    Calls Try.prog 9 #[.pointer (some ⟨mb, 0, none⟩)] w fun e w' => e = .returned (.pointer none) ∧ Below w.heap.size w w' := by
  go_enter Try.func9, Try.ntmps9
  go_wp2
  refine wp_loop_rounds 1 ?_
  rw [rounds_succ]
  go_wp2
  go_ret
  exact ⟨rfl, Below.refl _ _⟩

set_option maxRecDepth 100000 in
set_option maxHeartbeats 1000000 in
theorem ctrl_some (mb g B n c : Nat) (F : Nat → Option Bool) (w : World) (hn : n ≤ 1048576) (hm : w.cell? ⟨mb, 14, none⟩ = some (.slice (some ⟨g, 0, none⟩) n c)) (hE : ∀ i, i < n → El w g B i (F i)) :
    Calls Try.prog 9 #[.pointer (some ⟨mb, 0, none⟩)] w fun e w' => e = .returned (.pointer (pt g (fst (mark F) n))) ∧ Below w.heap.size w w' := by
  have hmb : mb < w.heap.size := cell_lt hm
  go_enter Try.func9, Try.ntmps9
  go_wp2
  go_loopw [10] (fun i wr => ∃ (k : Nat), k ≤ n ∧ i = .int .i64 k ∧ Below w.heap.size w wr ∧ ∀ j, j < k → mark F j = false) (fun i _ => n - (intOf i).toNat)
  case atStart => exact ⟨0, by omega, rfl, Below.refl _ _, fun j hj => absurd hj (Nat.not_lt_zero _)⟩
  case round =>
    obtain ⟨k, hk, rfl, hb, hno⟩ := hrel
    by_cases hlt : k < n
    · have hm' : wr.cell? ⟨mb, 14, none⟩ = some (.slice (some ⟨g, 0, none⟩) n c) := (hb.cell (p := ⟨mb, 14, none⟩) hmb).trans hm
      have hek := (hE k hlt).below hb
      have HNO := hide hno; clear hno
      have HE := hide hE; clear hE
      obtain ⟨s0, s1, s2, s3, a4, a5, c0, c1, c2, c3, c4, c5, hfr, hq⟩ := hek
      have hgw : g < wr.heap.size := cell_lt c0
      have hmw : mb < wr.heap.size := cell_lt hm'
      have hnext : Below w.heap.size w (wr.alloc (.cells #[.string s0, .string s1, .string s2, .string s3, .pointer a4, .pointer a5] 50)) := hb.alloc hb.size _
      clear hm hfr
      rcases hq with ⟨hF, rfl⟩ | ⟨b, q, hF, rfl, hB, hqg, hqc⟩
      · have HF := hide hF; clear hF
        have HN := hide hnext; clear hnext
        go_wp2
        go_roundw
        case rel =>
          refine ⟨k + 1, by omega, by go_num, HN.out, fun j hj => ?_⟩
          rcases Nat.lt_succ_iff_lt_or_eq.1 hj with h | rfl
          · exact HNO.out j h
          · simp [mark, HF.out]
        case measure => simp [intOf]; omega
      · have hqw : q < wr.heap.size := cell_lt hqc
        have HF := hide hF; clear hF
        have HN := hide hnext; clear hnext
        cases b with
        | true =>
          go_wp2
          go_ret
          refine ⟨?_, HN.out⟩
          rw [fst_some hlt (by simp [mark, HF.out]) HNO.out]
          rfl
        | false =>
          go_wp2
          go_roundw
          case rel =>
            refine ⟨k + 1, by omega, by go_num, HN.out, fun j hj => ?_⟩
            rcases Nat.lt_succ_iff_lt_or_eq.1 hj with h | rfl
            · exact HNO.out j h
            · simp [mark, HF.out]
          case measure => simp [intOf]; omega
    · have hfs : fst (mark F) n = none := fst_none (fun i hi => hno i (by omega))
      have HFS := hide hfs; clear hfs hno hE
      go_wp2
      go_ret
      exact ⟨by rw [HFS.out]; rfl, hb⟩

/-! ### zzIndexOf -/
theorem index_nil (a : Option Addr) (n c : Nat) (w : World) :
    Calls Try.prog 8 #[.slice a n c, .pointer none] w fun e w' => e = .returned (.int .i64 (-1)) ∧ w' = w := by
  go_enter Try.func8, Try.ntmps8
  go_wp2
  go_ret
  exact ⟨rfl, rfl⟩

set_option maxHeartbeats 1000000 in
theorem index_at (g n c i : Nat) (w : World) (hn : n ≤ 1048576) (hi : i < n) (hrow : Row w g) :
    Calls Try.prog 8 #[.slice (some ⟨g, 0, none⟩) n c, .pointer (some ⟨g, i * 6, none⟩)] w fun e w' => e = .returned (.int .i64 i) ∧ w' = w := by
  obtain ⟨cur, hrow⟩ := hrow
  have HR := hide hrow; clear hrow
  obtain ⟨i0, hi0, _, hz1, _⟩ := info_parts info50
  have hsame := run_eql_ptr_same (P := Try.prog) w (tp := 42) ⟨g, i * 6, none⟩ Try.underlying42 hi0
  have HI := hide hi0; have HZ := hide hz1; clear hi0 hz1
  go_enter Try.func8, Try.ntmps8
  go_wp2
  go_loop [5] (fun j => ∃ (k : Nat), k ≤ i ∧ j = .int .i64 k) (fun j => n - (intOf j).toNat)
  case atStart => exact ⟨0, by omega, rfl⟩
  case round =>
    obtain ⟨k, hk, rfl⟩ := hrel
    have hlt : k < n := by omega
    by_cases he : k = i
    · subst he
      go_wp2
      go_ret
      exact ⟨rfl, rfl⟩
    · have hother := run_eql_ptr_other (P := Try.prog) w (tp := 42) (a := ⟨g, k * 6, none⟩) (b := ⟨g, i * 6, none⟩) Try.underlying42 HI.out (by rw [HZ.out]; decide) (fun h => he (by have h' := congrArg Addr.off h; simp only at h'; omega)) HR.out HR.out
      go_wp2
      go_round
      case rel => exact ⟨k + 1, by omega, by go_num⟩
      case measure => simp [intOf]; omega
end Go.Proofs.Qxb6629165a
