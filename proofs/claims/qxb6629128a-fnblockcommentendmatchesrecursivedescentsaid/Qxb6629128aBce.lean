/-
  THE WALKS over stepstone.blockCommentEnd and what it calls.
-/
import Derived.Test.Qxb6629128aRows
import Derived.Test.Qxb6629128aPlain
import Derived.WalkKit
import Derived.WalkSpells
import Derived.WalkLawsBesides
import Derived.Lib.Strings
namespace Go.Proofs.Qxb6629128a
open Go.RowKit
set_option linter.unusedVariables false

theorem hide {p : Prop} (h : p) : Hid p := h

/-- The bytes from i on. -/
def tail (s : ByteArray) (i : Nat) : List UInt8 := s.data.toList.drop i

theorem tail_extract (s : ByteArray) (i : Nat) : (s.extract i s.size).data.toList = tail s i := by
  rw [Lib.extract_data, tail, List.take_of_length_le]
  rw [List.length_drop, Lib.size_eq]
  exact Nat.le_refl _

theorem tail_len (s : ByteArray) (i : Nat) : (tail s i).length = s.size - i := by
  rw [tail, List.length_drop, Lib.size_eq]

theorem tail_drop (s : ByteArray) (i j : Nat) : (tail s i).drop j = tail s (i + j) := by
  rw [tail, tail, List.drop_drop]

/-- strings.HasPrefix at a prefix of two bytes. -/
theorem pre_yes (t : ByteArray) (a b : UInt8) (r : List UInt8) (h : t.data.toList = a :: b :: r) (w : World) (ht : t.size ≤ maxLen) :
    Calls Try.prog 10 #[.string t, .string ⟨#[a, b]⟩] w fun e w' => e = .returned (.bool true) ∧ w' = w := by
  unfold maxLen at ht
  have hz : 2 ≤ t.size := by rw [Lib.size_eq, h]; simp
  have hp : (ByteArray.mk #[a, b]).size = 2 := rfl
  have he : ((t.extract 0 2).toList == [a, b]) = true := by
    rw [Lib.extract_toList, h]; simp
  have H := hide h; clear h
  go_enter Try.func10, Try.ntmps10
  go_wp2
  go_ret
  exact ⟨rfl, rfl⟩

theorem pre_no (t : ByteArray) (a b : UInt8) (h : ∀ r, t.data.toList ≠ a :: b :: r) (w : World) (ht : t.size ≤ maxLen) :
    Calls Try.prog 10 #[.string t, .string ⟨#[a, b]⟩] w fun e w' => e = .returned (.bool false) ∧ w' = w := by
  unfold maxLen at ht
  have hp : (ByteArray.mk #[a, b]).size = 2 := rfl
  by_cases hz : 2 ≤ t.size
  · have he : ((t.extract 0 2).toList == [a, b]) = false := by
      rw [Lib.extract_toList]
      rw [Lib.size_eq] at hz
      cases hl : t.data.toList with
      | nil => rw [hl] at hz; simp at hz
      | cons c l => cases l with
        | nil => rw [hl] at hz; simp at hz
        | cons d r =>
          have := h r
          rw [hl] at this
          simpa using this
    clear h
    go_enter Try.func10, Try.ntmps10
    go_wp2
    go_ret
    exact ⟨rfl, rfl⟩
  · clear h
    go_enter Try.func10, Try.ntmps10
    go_wp2
    go_ret
    exact ⟨rfl, rfl⟩

theorem ret_int {k : IntKind} {a b : Int} (h : a = b) : Ending.returned (.int k a) = .returned (.int k b) := by rw [h]

open Plain in
set_option maxHeartbeats 1000000 in
theorem bce_any (s : ByteArray) (i : Nat) (w : World) (hs : s.size ≤ 4194304) (hi : i ≤ s.size) :
    Calls Try.prog 9 #[.string s, .int .i64 i] w fun e w' => e = .returned (.int .i64 (i + scan 0 (tail s i) : Nat)) ∧ w' = w := by
  go_enter Try.func9, Try.ntmps9
  go_wp2
  go_loop [1, 5] (fun j d => ∃ (k dd : Nat), i ≤ k ∧ k ≤ s.size ∧ dd ≤ k ∧ j = .int .i64 k ∧ d = .int .i64 (dd + 1 : Nat) ∧ i + scan 0 (tail s i) = k + scan dd (tail s k)) (fun j _ => s.size - (intOf j).toNat)
  case atStart => exact ⟨i, 0, Nat.le_refl _, hi, Nat.zero_le _, rfl, rfl, rfl⟩
  case round =>
    obtain ⟨k, dd, hik, hk, hdd, rfl, rfl, hsc⟩ := hrel
    have HS := hide hsc; clear hsc
    have hxl : (s.extract k s.size).size ≤ maxLen := by
      rw [Lib.size_eq, tail_extract, tail_len]; unfold maxLen; omega
    by_cases hlt : k < s.size
    · by_cases hc : ∃ r, tail s k = 42 :: 47 :: r
      · obtain ⟨r, hr⟩ := hc
        have hy := fun w => pre_yes (s.extract k s.size) 42 47 r (by rw [tail_extract, hr]) w hxl
        have hlen : k + 2 ≤ s.size := by have := tail_len s k; rw [hr] at this; simp at this; omega
        have hr2 : tail s (k + 2) = r := by rw [← tail_drop, hr]; rfl
        have HR := hide hr; clear hr
        have HR2 := hide hr2; clear hr2
        cases dd with
        | zero =>
          go_wp2_with fail
          refine (hy _).mono ?_
          rintro e w' ⟨rfl, rfl⟩
          clear hy
          go_wp2_with fail
          go_ret
          exact ⟨ret_int (by have h0 := HS.out; rw [HR.out, scan_close0] at h0; omega), rfl⟩
        | succ d =>
          go_wp2_with fail
          refine (hy _).mono ?_
          rintro e w' ⟨rfl, rfl⟩
          clear hy
          go_wp2_with fail
          go_round
          case rel => exact ⟨k + 2, d, by omega, hlen, by omega, by go_num, by go_num, by rw [HS.out, HR.out, scan_close, HR2.out]; omega⟩
          case measure => simp [intOf]; omega
      · have hn := fun w => pre_no (s.extract k s.size) 42 47 (by intro r h; rw [tail_extract] at h; exact hc ⟨r, h⟩) w hxl
        by_cases hc2 : ∃ r, tail s k = 47 :: 42 :: r
        · obtain ⟨r, hr⟩ := hc2
          have hy := fun w => pre_yes (s.extract k s.size) 47 42 r (by rw [tail_extract, hr]) w hxl
          have hlen : k + 2 ≤ s.size := by have := tail_len s k; rw [hr] at this; simp at this; omega
          have hr2 : tail s (k + 2) = r := by rw [← tail_drop, hr]; rfl
          have HR := hide hr; clear hr
          have HR2 := hide hr2; clear hr2
          clear hc
          go_wp2_with fail
          refine (hn _).mono ?_
          rintro e w' ⟨rfl, rfl⟩
          clear hn
          go_wp2_with fail
          refine (hy _).mono ?_
          rintro e w' ⟨rfl, rfl⟩
          clear hy
          go_wp2_with fail
          go_round
          case rel => exact ⟨k + 2, dd + 1, by omega, hlen, by omega, by go_num, by go_num, by rw [HS.out, HR.out, scan_open, HR2.out]; omega⟩
          case measure => simp [intOf]; omega
        · have hn2 := fun w => pre_no (s.extract k s.size) 47 42 (by intro r h; rw [tail_extract] at h; exact hc2 ⟨r, h⟩) w hxl
          have hst : scan dd (tail s k) = 1 + scan dd (tail s (k + 1)) := by
            have hl := tail_len s k
            have hd := tail_drop s k 1
            rw [← hd]
            match h : tail s k with
            | [] => rw [h] at hl; simp at hl; omega
            | [a] => simp [scan]
            | a :: b :: r =>
              exact scan_step dd a b r (fun hh => hc ⟨r, by rw [h, hh.1, hh.2]⟩) (fun hh => hc2 ⟨r, by rw [h, hh.1, hh.2]⟩)
          have HST := hide hst; clear hst
          clear hc hc2
          go_wp2_with fail
          refine (hn _).mono ?_
          rintro e w' ⟨rfl, rfl⟩
          clear hn
          go_wp2_with fail
          refine (hn2 _).mono ?_
          rintro e w' ⟨rfl, rfl⟩
          clear hn2
          go_wp2_with fail
          go_round
          case rel => exact ⟨k + 1, dd, by omega, by omega, by omega, by go_num, by go_num, by rw [HS.out, HST.out]; omega⟩
          case measure => simp [intOf]; omega
    · have he : tail s k = [] := by
        have hl := tail_len s k
        exact List.eq_nil_of_length_eq_zero (by omega)
      have HE := hide he; clear he
      go_wp2_with fail
      go_ret
      exact ⟨ret_int (by have h0 := HS.out; rw [HE.out, scan_nil] at h0; omega), rfl⟩

theorem bce_past (s : ByteArray) (i : Int) (w : World) (hs : s.size ≤ 4194304) (hi : s.size < i) (hi' : i ≤ 9223372036854775807) :
    Calls Try.prog 9 #[.string s, .int .i64 i] w fun e w' => e = .returned (.int .i64 s.size) ∧ w' = w := by
  have hn : ¬ i < s.size := by omega
  go_enter Try.func9, Try.ntmps9
  go_wp2
  refine wp_loop_rounds 1 ?_
  rw [rounds_succ]
  go_wp2
  go_ret
  exact ⟨rfl, rfl⟩

theorem zz_any (s : ByteArray) (i : Nat) (w : World) (hs : s.size ≤ 4194304) (hi : i ≤ s.size) :
    Calls Try.prog 7 #[.string s, .int .i64 i] w fun e w' => e = .returned (.int .i64 (i + Plain.scan 0 (tail s i) : Nat)) ∧ w' = w := by
  go_enter Try.func7, Try.ntmps7
  go_wp2_with fail
  refine (bce_any s i _ hs hi).mono ?_
  rintro e w' ⟨rfl, rfl⟩
  go_wp2_with fail
  go_ret
  exact ⟨rfl, rfl⟩

theorem zz_past (s : ByteArray) (i : Int) (w : World) (hs : s.size ≤ 4194304) (hi : s.size < i) (hi' : i ≤ 9223372036854775807) :
    Calls Try.prog 7 #[.string s, .int .i64 i] w fun e w' => e = .returned (.int .i64 s.size) ∧ w' = w := by
  go_enter Try.func7, Try.ntmps7
  go_wp2_with fail
  refine (bce_past s i _ hs hi hi').mono ?_
  rintro e w' ⟨rfl, rfl⟩
  go_wp2_with fail
  go_ret
  exact ⟨rfl, rfl⟩
end Go.Proofs.Qxb6629128a
