/-
  'Rows.FnBlockCommentEndWrapInOpenerSaid', proved: the frame by the guide's proof-skeleton.mjs, the walk by hand.
-/
import Derived.Test.Qxb6629128aRows
import Derived.WalkKit
import Derived.ProofKit
import Derived.OpenShut
import Derived.ShutString
import Derived.Test.Qxb6629128aBce
import Derived.WalkSpells
import Derived.WalkLawsBesides
import Derived.Deep.QuietTactic
import Derived.BigQuiet
namespace Go.Proofs.Qxb6629128a.fnBlockCommentEndWrapInOpener
open Go.ChangeShapes Go.WideShapes Go.ChangeAt Go.RowKit
open Go.ChangeMaps (open_string shut_string)
set_option linter.unusedVariables false      -- a walk need not use every 'w<i>' (that an integer argument fits its kind)

theorem own : ownKnob Try.prog.godebug = none := by kernel_rfl

/-! ### STEP 1: THE WALK -/
theorem bytes_ok (s : ByteArray) (i : Int) (w : World) (hs : s.size ≤ 1048576) :
    Calls Try.prog 8 #[.string s, .int .i64 i] w fun e w' => e = .returned (.bool true) ∧ w' = w := by
  go_enter Try.func8, Try.ntmps8
  go_wp2
  go_ret
  exact ⟨rfl, rfl⟩

theorem bytes_no (s : ByteArray) (i : Int) (w : World) (hs : ¬ s.size ≤ 1048576) :
    Calls Try.prog 8 #[.string s, .int .i64 i] w fun e w' => e = .returned (.bool false) ∧ w' = w := by
  have hs' : 1048576 < s.size := by omega
  go_enter Try.func8, Try.ntmps8
  go_wp2
  go_ret
  exact ⟨rfl, rfl⟩

/-- The text with an opener put in at i. -/
theorem ins_list (s : ByteArray) (i : Nat) : (s.extract 0 i ++ ⟨#[47, 42]⟩ ++ s.extract i s.size).data.toList = s.data.toList.take i ++ [47, 42] ++ tail s i := by
  rw [ByteArray.data_append, ByteArray.data_append, Array.toList_append, Array.toList_append, tail_extract, Lib.extract_data]
  simp

theorem ins_size (s : ByteArray) (i : Nat) (hi : i ≤ s.size) : (s.extract 0 i ++ ⟨#[47, 42]⟩ ++ s.extract i s.size).size = s.size + 2 := by
  rw [Lib.size_eq, ins_list]
  rw [Lib.size_eq] at hi ⊢
  simp [tail]
  omega

theorem ins_tail (s : ByteArray) (i : Nat) (hi : i ≤ s.size) : tail (s.extract 0 i ++ ⟨#[47, 42]⟩ ++ s.extract i s.size) i = 47 :: 42 :: tail s i := by
  rw [tail, ins_list]
  rw [Lib.size_eq] at hi
  rw [List.append_assoc, List.drop_append_of_le_length (by rw [List.length_take]; omega)]
  simp

/-- The three calls, and the plain law over them. -/
theorem three (s : ByteArray) (i : Nat) (hs : s.size ≤ 1048576) (hi : i ≤ s.size) : ∃ r g q : Nat,
    (∀ w : World, Calls Try.prog 7 #[.string s, .int .i64 i] w fun e w' => e = .returned (.int .i64 r) ∧ w' = w) ∧
    (∀ w : World, Calls Try.prog 7 #[.string (s.extract 0 i ++ ⟨#[47, 42]⟩ ++ s.extract i s.size), .int .i64 i] w fun e w' => e = .returned (.int .i64 g) ∧ w' = w) ∧
    (∀ w : World, Calls Try.prog 7 #[.string s, .int .i64 r] w fun e w' => e = .returned (.int .i64 q) ∧ w' = w) ∧
    r ≤ s.size ∧ g = q + 2 ∧ i + 2 ≤ g ∧ g ≤ s.size + 2 := by
  have hl := Plain.scan_le _ 0 (tail s i) (Nat.le_refl _)
  rw [tail_len] at hl
  have hl2 := Plain.scan_le _ 0 (tail s (i + Plain.scan 0 (tail s i))) (Nat.le_refl _)
  rw [tail_len] at hl2
  refine ⟨i + Plain.scan 0 (tail s i), i + Plain.scan 0 (tail (s.extract 0 i ++ ⟨#[47, 42]⟩ ++ s.extract i s.size) i), i + Plain.scan 0 (tail s i) + Plain.scan 0 (tail s (i + Plain.scan 0 (tail s i))),
    fun w => zz_any s i w (by omega) hi, fun w => zz_any _ i w (by rw [ins_size s i hi]; omega) (by rw [ins_size s i hi]; omega), fun w => zz_any s _ w (by omega) (by omega), by omega, ?_, ?_, ?_⟩
  all_goals
    rw [ins_tail s i hi, Plain.scan_open, Plain.scan_deeper _ 0 (tail s i) (Nat.le_refl _), tail_drop]
    omega

theorem walk (a0 : ByteArray) (a1 : Int) (w0 : a0.size ≤ maxLen) (w1 : (Lit.int .i64 a1).wf = true) (w : World) :
    Calls Try.prog 4 #[.string a0, .int .i64 a1] w fun e w' => e = .returned (.bool true) ∧ Grown w w' := by
  by_cases hs : a0.size ≤ 1048576
  · by_cases h0 : a1 < 0
    · go_enter Try.func4, Try.ntmps4
      go_wp2_with (go_at_call 8; refine (bytes_ok _ _ _ hs).mono ?_; rintro e w' ⟨rfl, rfl⟩)
      go_ret
      exact ⟨rfl, Grown.refl _⟩
    · by_cases h1 : (a0.size : Int) < a1
      · go_enter Try.func4, Try.ntmps4
        go_wp2_with (go_at_call 8; refine (bytes_ok _ _ _ hs).mono ?_; rintro e w' ⟨rfl, rfl⟩)
        go_ret
        exact ⟨rfl, Grown.refl _⟩
      · obtain ⟨i, rfl⟩ := Int.eq_ofNat_of_zero_le (show 0 ≤ a1 by omega)
        have hi : i ≤ a0.size := by omega
        have hi2 : (i : Int) ≤ a0.size := by omega
        have hTz := ins_size a0 i hi
        obtain ⟨r, g, q, c1, c2, c3, hr0, hg1, hg2, hg3⟩ := three a0 i hs hi
        have e1 : ((g : Int) == (q : Int) + 2) = true := by simp; omega
        have e2 : ((i : Int) + 2 ≤ (g : Int)) := by omega
        have e4 : (q : Int) ≤ (a0.size : Int) := by omega
        have e3 : (g : Int) ≤ (a0.size : Int) + 2 := by omega
        have E1 := hide hg1; clear hg1
        have C1 := hide c1; clear c1
        have C2 := hide c2; clear c2
        have C3 := hide c3; clear c3
        go_enter Try.func4, Try.ntmps4
        go_wp2_with (go_at_call 8; refine (bytes_ok _ _ _ hs).mono ?_; rintro e w' ⟨rfl, rfl⟩)
        go_quiet (fail)
        go_wp2_with fail
        refine (C1.out _).mono ?_
        rintro e w2 ⟨rfl, rfl⟩
        go_wp2_with fail
        refine (C2.out _).mono ?_
        rintro e w2 ⟨rfl, rfl⟩
        go_wp2_with fail
        refine (C3.out _).mono ?_
        rintro e w2 ⟨rfl, rfl⟩
        go_wp2_with fail
        go_ret
        exact ⟨rfl, by repeat (first | exact Grown.refl _ | apply Grown.drew | apply Grown.alloc)⟩
  · go_enter Try.func4, Try.ntmps4
    go_wp2_with (go_at_call 8; refine (bytes_no _ _ _ hs).mono ?_; rintro e w' ⟨rfl, rfl⟩)
    go_ret
    exact ⟨rfl, Grown.refl _⟩

/-! ### THE ROW's STEP: WRITTEN OUT: LEAVE IT -/
set_option maxRecDepth 100000 in
theorem lifted (os : Os) (started : os.Started) (H : Type) (enc : TypeId × Value → H) :
    ReturnsInHanded {} Try.checked os 4 .any (Rows.fnBlockCommentEndWrapInOpenerSpec.pre6 enc Try.prog Try.f4 Rows.fnBlockCommentEndWrapInOpenerRow.domain false) (Rows.fnBlockCommentEndWrapInOpenerSpec.post enc Try.prog Try.f4 false true false false) := by
  refine returnsInHanded_of_change (C := Try.checked) own started (by kernel_rfl) Try.func4
    (ChangeSpec.witness6 (enc := enc) (C := Try.checked) false ⟨#[], #[.string ByteArray.empty, .int .i64 0], []⟩ 8 (by kernel_rfl) (by kernel_rfl) (by kernel_rfl) (by kernel_rfl)) ?_
  intro W base args ds gs before hval0 hW hcnd _
  have hval : ∀ (j : Nat) t v, Try.f4.params[j]? = some t → args[j]? = some v → Value.okWide Try.prog W .any base t v := hval0
  have hW' := hW
  obtain ⟨p, q, hA0, hV, rfl, hfz, hnd⟩ := hW
  have hA : DataW.TrodAll enc Try.prog W 0 (fun _ => true) true Try.f4.params.toList args.toList ds p := hA0
  rw [Try.params4] at hA hval
  obtain ⟨v0, vs0, d0, ds0, p0, q0, hargs, rfl, rfl, h0, r0⟩ := trodAll_cons hA
  obtain ⟨v1, vs1, d1, ds1, p1, q1, rfl, rfl, rfl, h1, r1⟩ := trodAll_cons r0
  obtain ⟨rfl, rfl, rfl⟩ := trodAll_nil r1
  obtain rfl : args = #[v0, v1] := by cases args; simp_all
  obtain ⟨rfl, rfl⟩ := trodVars_none hV
  obtain ⟨a0, rfl, rfl, rfl, w0⟩ := open_string Try.underlying9 (hval 0 9 v0 rfl rfl) h0
  obtain ⟨a1, rfl, rfl, rfl, w1⟩ := open_int Try.underlying3 (hval 1 3 v1 rfl rfl) h1
  clear hA0 hval0
  simp only [List.append_nil] at hW'
  refine (walk a0 a1 w0 w1 W).mono fun e W' ⟨he, hg⟩ => ?_
  subst he
  exact ⟨_, rfl, post_of_same (pa := []) (pv := []) hW' (fun _ _ _ => (trodAll_cons_mk (shut_bool Try.underlying4 _) trodAll_mk0)) (fun sp _ => (trodAll_cons_mk (shut_string Try.underlying9 w0) (trodAll_cons_mk (shut_int Try.underlying3 w1) trodAll_mk0))) (fun _ _ => rfl) rfl
    (hg.frame _) hg.2.1 (ok_one (by kernel_rfl) rfl (okWide_bool_mk Try.underlying4 _))⟩

theorem over : Rows.fnBlockCommentEndWrapInOpenerRow.holds Try.pinned (OpenSpec.ofChange Rows.fnBlockCommentEndWrapInOpenerSpec) :=
  OpenClaim.holds_of_wide 4 Try.f4 rfl rfl rfl rfl rfl rfl rfl ⟨rfl, rfl, rfl, rfl, rfl⟩ rfl rfl rfl rfl rfl (by kernel_rfl) Try.func4 (by kernel_rfl)
    (of_decide_eq_true (by kernel_rfl)) (by unfold Func.isWrapper; first | (rw [if_pos (by decide +kernel)]; kernel_rfl) | (rw [if_neg (by decide +kernel)]; exact ⟨rfl, rfl⟩))
    (fun os started H enc _ => lifted os started H enc)

/-- ████ THE STATEMENT ████ -/
theorem proved : Rows.FnBlockCommentEndWrapInOpenerSaid :=
  over
end Go.Proofs.Qxb6629128a.fnBlockCommentEndWrapInOpener
