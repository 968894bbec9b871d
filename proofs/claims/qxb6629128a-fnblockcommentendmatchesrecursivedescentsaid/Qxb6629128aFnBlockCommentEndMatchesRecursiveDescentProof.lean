/-
  'Rows.FnBlockCommentEndMatchesRecursiveDescentSaid', proved: the frame by the guide's proof-skeleton.mjs, the walks by hand.
-/
import Derived.Test.Qxb6629128aRows
import Derived.WalkKit
import Derived.ProofKit
import Derived.OpenShut
import Derived.ShutString
import Derived.Test.Qxb6629128aBce
import Derived.WalkSpells
import Derived.WalkLawsBesides
import Derived.Deep.QuietTactic
import Derived.BigQuiet
namespace Go.Proofs.Qxb6629128a.fnBlockCommentEndMatchesRecursiveDescent
open Go.ChangeShapes Go.WideShapes Go.ChangeAt Go.RowKit
open Go.ChangeMaps (open_string shut_string)
set_option linter.unusedVariables false      -- a walk need not use every 'w<i>' (that an integer argument fits its kind)

theorem own : ownKnob Try.prog.godebug = none := by kernel_rfl

/-! ### STEP 1: THE WALKS -/
theorem bytes_ok (s : ByteArray) (i : Int) (w : World) (hs : s.size ≤ 1048576) :
    Calls Try.prog 5 #[.string s, .int .i64 i] w fun e w' => e = .returned (.bool true) ∧ w' = w := by
  go_enter Try.func5, Try.ntmps5
  go_wp2
  go_ret
  exact ⟨rfl, rfl⟩

theorem bytes_no (s : ByteArray) (i : Int) (w : World) (hs : ¬ s.size ≤ 1048576) :
    Calls Try.prog 5 #[.string s, .int .i64 i] w fun e w' => e = .returned (.bool false) ∧ w' = w := by
  have hs' : 1048576 < s.size := by omega
  go_enter Try.func5, Try.ntmps5
  go_wp2
  go_ret
  exact ⟨rfl, rfl⟩

/-- The answer of the recursive descent from k on. -/
def pos (s : ByteArray) (k : Nat) : Int := match Plain.skip 0 (tail s k) with | none => -1 | some n => k + n

theorem pos_none {s : ByteArray} {k : Nat} (h : Plain.skip 0 (tail s k) = none) : pos s k = -1 := by rw [pos, h]
theorem pos_some {s : ByteArray} {k n : Nat} (h : Plain.skip 0 (tail s k) = some n) : pos s k = k + n := by rw [pos, h]

theorem tail_cons (s : ByteArray) (k : Nat) (h : k < s.size) : tail s k = s[k] :: tail s (k + 1) := by
  rw [tail, List.drop_eq_getElem_cons (by rw [← Lib.size_eq]; exact h)]
  rfl

theorem byte_eq {c d : UInt8} {n : Int} (h : (c.toNat : Int) = n) (hd : (d.toNat : Int) = n) : c = d := by
  apply UInt8.toNat_inj.1; omega

open Plain in
theorem pos_close (s : ByteArray) (k : Nat) (h : k + 1 < s.size) (h1 : (s[k].toNat : Int) = 42) (h2 : (s[k + 1].toNat : Int) = 47) : pos s k = k + 2 := by
  refine pos_some (n := 2) ?_
  rw [tail_cons s k (by omega), tail_cons s (k + 1) h, byte_eq h1 (d := 42) rfl, byte_eq h2 (d := 47) rfl, skip_close0]

open Plain in
theorem pos_step (s : ByteArray) (k : Nat) (h : k + 1 < s.size) (h1 : ¬ ((s[k].toNat : Int) = 42 ∧ (s[k + 1].toNat : Int) = 47)) (h2 : ¬ ((s[k].toNat : Int) = 47 ∧ (s[k + 1].toNat : Int) = 42)) : pos s k = pos s (k + 1) := by
  rw [pos, pos, tail_cons s k (by omega), tail_cons s (k + 1) h, skip_step 0 _ _ _ (fun hh => h1 (by rw [hh.1, hh.2]; exact ⟨rfl, rfl⟩)) (fun hh => h2 (by rw [hh.1, hh.2]; exact ⟨rfl, rfl⟩))]
  cases skip 0 (s[k + 1] :: tail s (k + 1 + 1)) with
  | none => rfl
  | some n => simp; omega

open Plain in
theorem pos_end (s : ByteArray) (k : Nat) (h : s.size ≤ k) : pos s k = -1 := by
  have he : tail s k = [] := List.eq_nil_of_length_eq_zero (by rw [tail_len]; omega)
  rw [pos, he, skip_nil]

open Plain in
theorem pos_last (s : ByteArray) (k : Nat) (h : k < s.size) (h' : ¬ k + 1 < s.size) : pos s k = pos s (k + 1) := by
  have he : tail s (k + 1) = [] := List.eq_nil_of_length_eq_zero (by rw [tail_len]; omega)
  rw [pos, pos, tail_cons s k h, he, skip_one, skip_nil]

open Plain in
/-- A nested opener: the answer from behind it is none, and then so is ours; or it is a place j, and then ours is j's. -/
theorem pos_open (s : ByteArray) (k : Nat) (h : k + 1 < s.size) (h1 : (s[k].toNat : Int) = 47) (h2 : (s[k + 1].toNat : Int) = 42) :
    (pos s (k + 2) = -1 ∧ pos s k = -1) ∨ ∃ j : Nat, k + 2 ≤ j ∧ j ≤ s.size ∧ pos s (k + 2) = j ∧ pos s k = pos s j := by
  have hk : skip 0 (tail s k) = (skip 1 (tail s (k + 2))).map (2 + ·) := by
    rw [tail_cons s k (by omega), tail_cons s (k + 1) h, byte_eq h1 (d := 47) rfl, byte_eq h2 (d := 42) rfl, skip_open]
  rw [skip_deeper _ 0 _ (Nat.le_refl _)] at hk
  cases hs : skip 0 (tail s (k + 2)) with
  | none =>
    left
    rw [hs] at hk
    exact ⟨pos_none hs, pos_none hk⟩
  | some n =>
    right
    rw [hs] at hk
    have hn := skip_le _ 0 _ (Nat.le_refl _) n hs
    rw [tail_len] at hn
    refine ⟨k + 2 + n, by omega, by omega, by rw [pos_some hs]; omega, ?_⟩
    simp only [Option.bind_some, Option.map_map] at hk
    rw [tail_drop] at hk
    rw [pos, pos, hk]
    cases skip 0 (tail s (k + 2 + n)) with
    | none => rfl
    | some r => simp; omega

open Plain in
set_option maxHeartbeats 1000000 in
theorem skip_any (m : Nat) : ∀ (s : ByteArray) (i : Nat) (ii : Int) (w : World), s.size ≤ 1048576 → ii = i → i ≤ s.size → s.size - i < m →
    Calls Try.prog 6 #[.string s, .int .i64 ii] w fun e w' => e = .returned (.int .i64 (pos s i)) ∧ w' = w := by
  induction m with
  | zero => intro s i ii w _ _ _ h; omega
  | succ m ih =>
    intro s i ii w hs hii hi hm
    subst hii
    have IH := hide (ih s); clear ih
    go_enter Try.func6, Try.ntmps6
    go_wp2_with fail
    go_loop [1] (fun j => ∃ k : Nat, i ≤ k ∧ k ≤ s.size ∧ j = .int .i64 k ∧ pos s i = pos s k) (fun j => s.size - (intOf j).toNat)
    case atStart => exact ⟨i, Nat.le_refl _, hi, rfl, rfl⟩
    case round =>
      obtain ⟨k, hik, hk, rfl, hps⟩ := hrel
      have HS := hide hps; clear hps
      by_cases hlt : k < s.size
      · by_cases hlt2 : k + 1 < s.size
        · by_cases c1 : (s[k].toNat : Int) = 42 ∧ (s[k + 1].toNat : Int) = 47
          · have HP := hide (pos_close s k hlt2 c1.1 c1.2)
            obtain ⟨c1, c2⟩ := c1
            go_wp2_with fail
            go_ret
            exact ⟨ret_int (by rw [HS.out, HP.out]), rfl⟩
          · by_cases c2 : (s[k].toNat : Int) = 47 ∧ (s[k + 1].toNat : Int) = 42
            · have hop := pos_open s k hlt2 c2.1 c2.2
              clear c1
              obtain ⟨c1, c2⟩ := c2
              have c3 : ¬ (s[k].toNat : Int) = 42 := by omega
              rcases hop with ⟨hj, hp⟩ | ⟨j, hj1, hj2, hj, hp⟩
              · have cc := fun w => IH.out (k + 2) ((k : Int) + 2) w hs (by omega) (by omega) (by omega)
                rw [hj] at cc
                have HP := hide hp; clear hp hj
                have CC := hide cc; clear cc
                go_wp2_with fail
                refine (CC.out _).mono ?_
                rintro e w' ⟨rfl, rfl⟩
                go_wp2_with fail
                go_ret
                exact ⟨ret_int (by rw [HS.out, HP.out]), rfl⟩
              · have cc := fun w => IH.out (k + 2) ((k : Int) + 2) w hs (by omega) (by omega) (by omega)
                rw [hj] at cc
                have HP := hide hp; clear hp hj
                have CC := hide cc; clear cc
                go_wp2_with fail
                refine (CC.out _).mono ?_
                rintro e w' ⟨rfl, rfl⟩
                go_wp2_with fail
                go_round
                case rel => exact ⟨j, by omega, hj2, rfl, by rw [HS.out, HP.out]⟩
                case measure => simp [intOf]; omega
            · have HP := hide (pos_step s k hlt2 c1 c2)
              have C1 := hide c1; clear c1
              have C2 := hide c2; clear c2
              go_wp2_with fail
              · exact absurd ⟨by assumption, beq_iff_eq.1 (by assumption)⟩ C1.out
              · go_round
                case rel => exact ⟨k + 1, by omega, by omega, by go_num, by rw [HS.out, HP.out]⟩
                case measure => simp [intOf]; omega
              · exact absurd ⟨by assumption, beq_iff_eq.1 (by assumption)⟩ C2.out
              · go_round
                case rel => exact ⟨k + 1, by omega, by omega, by go_num, by rw [HS.out, HP.out]⟩
                case measure => simp [intOf]; omega
              · go_round
                case rel => exact ⟨k + 1, by omega, by omega, by go_num, by rw [HS.out, HP.out]⟩
                case measure => simp [intOf]; omega
        · have HP := hide (pos_last s k hlt hlt2)
          go_wp2_with fail
          go_round
          case rel => exact ⟨k + 1, by omega, by omega, by go_num, by rw [HS.out, HP.out]⟩
          case measure => simp [intOf]; omega
      · have HP := hide (pos_end s k (by omega))
        go_wp2_with fail
        go_ret
        exact ⟨ret_int (by rw [HS.out, HP.out]), rfl⟩

theorem skip_past (s : ByteArray) (i : Int) (w : World) (hi : s.size < i) :
    Calls Try.prog 6 #[.string s, .int .i64 i] w fun e w' => e = .returned (.int .i64 (-1)) ∧ w' = w := by
  have hn : ¬ i < s.size := by omega
  go_enter Try.func6, Try.ntmps6
  go_wp2_with fail
  refine wp_loop_rounds 1 ?_
  rw [rounds_succ]
  go_wp2_with fail
  go_ret
  exact ⟨rfl, rfl⟩

/-- Both calls, and the plain law over them. -/
theorem two (s : ByteArray) (i : Nat) (hs : s.size ≤ 1048576) (hi : i ≤ s.size) :
    (∃ g : Nat, g ≤ 1048576 ∧ (∀ w : World, Calls Try.prog 6 #[.string s, .int .i64 i] w fun e w' => e = .returned (.int .i64 g) ∧ w' = w) ∧
      (∀ w : World, Calls Try.prog 7 #[.string s, .int .i64 i] w fun e w' => e = .returned (.int .i64 g) ∧ w' = w)) ∨
    ((∀ w : World, Calls Try.prog 6 #[.string s, .int .i64 i] w fun e w' => e = .returned (.int .i64 (-1)) ∧ w' = w) ∧
      (∀ w : World, Calls Try.prog 7 #[.string s, .int .i64 i] w fun e w' => e = .returned (.int .i64 s.size) ∧ w' = w)) := by
  have c6 := fun w => skip_any (s.size - i + 1) s i i w hs rfl hi (by omega)
  have c7 := fun w => zz_any s i w (by omega) hi
  have hl := Plain.scan_skip _ 0 (tail s i) (Nat.le_refl _)
  have hle := Plain.scan_le _ 0 (tail s i) (Nat.le_refl _)
  rw [tail_len] at hle hl
  cases h : Plain.skip 0 (tail s i) with
  | none =>
    right
    rw [h] at hl
    simp only [Option.getD_none] at hl
    rw [pos_none h] at c6
    rw [hl, show i + (s.size - i) = s.size from by omega] at c7
    exact ⟨c6, c7⟩
  | some n =>
    left
    rw [h] at hl
    simp only [Option.getD_some] at hl
    rw [pos_some h] at c6
    rw [hl] at c7
    exact ⟨i + n, by omega, c6, c7⟩

theorem walk (a0 : ByteArray) (a1 : Int) (w0 : a0.size ≤ maxLen) (w1 : (Lit.int .i64 a1).wf = true) (w : World) :
    Calls Try.prog 3 #[.string a0, .int .i64 a1] w fun e w' => e = .returned (.bool true) ∧ Grown w w' := by
  by_cases hs : a0.size ≤ 1048576
  · by_cases h0 : a1 < 0
    · go_enter Try.func3, Try.ntmps3
      go_wp2_with (go_at_call 5; refine (bytes_ok _ _ _ hs).mono ?_; rintro e w' ⟨rfl, rfl⟩)
      go_ret
      exact ⟨rfl, Grown.refl _⟩
    · by_cases h1 : (a0.size : Int) < a1
      · have c6 := fun w => skip_past a0 a1 w h1
        have hw : a1 ≤ 9223372036854775807 := (bounds_i64 w1).2
        have c7 := fun w => zz_past a0 a1 w (by omega) h1 hw
        have C6 := hide c6; clear c6
        have C7 := hide c7; clear c7
        clear hw w1
        go_enter Try.func3, Try.ntmps3
        go_wp2_with (go_at_call 5; refine (bytes_ok _ _ _ hs).mono ?_; rintro e w' ⟨rfl, rfl⟩)
        refine (C6.out _).mono ?_
        rintro e w' ⟨rfl, rfl⟩
        go_wp2_with fail
        refine (C7.out _).mono ?_
        rintro e w' ⟨rfl, rfl⟩
        go_wp2_with fail
        go_ret
        exact ⟨rfl, Grown.refl _⟩
      · obtain ⟨i, rfl⟩ := Int.eq_ofNat_of_zero_le (show 0 ≤ a1 by omega)
        have hi : i ≤ a0.size := by omega
        rcases two a0 i hs hi with ⟨g, hg, c6, c7⟩ | ⟨c6, c7⟩
        · have C6 := hide c6; clear c6
          have C7 := hide c7; clear c7
          go_enter Try.func3, Try.ntmps3
          go_wp2_with (go_at_call 5; refine (bytes_ok _ _ _ hs).mono ?_; rintro e w' ⟨rfl, rfl⟩)
          refine (C6.out _).mono ?_
          rintro e w' ⟨rfl, rfl⟩
          go_wp2_with fail
          refine (C7.out _).mono ?_
          rintro e w' ⟨rfl, rfl⟩
          go_wp2_with fail
          go_ret
          exact ⟨rfl, Grown.refl _⟩
        · have C6 := hide c6; clear c6
          have C7 := hide c7; clear c7
          go_enter Try.func3, Try.ntmps3
          go_wp2_with (go_at_call 5; refine (bytes_ok _ _ _ hs).mono ?_; rintro e w' ⟨rfl, rfl⟩)
          refine (C6.out _).mono ?_
          rintro e w' ⟨rfl, rfl⟩
          go_wp2_with fail
          refine (C7.out _).mono ?_
          rintro e w' ⟨rfl, rfl⟩
          go_wp2_with fail
          go_ret
          exact ⟨rfl, Grown.refl _⟩
  · go_enter Try.func3, Try.ntmps3
    go_wp2_with (go_at_call 5; refine (bytes_no _ _ _ hs).mono ?_; rintro e w' ⟨rfl, rfl⟩)
    go_ret
    exact ⟨rfl, Grown.refl _⟩

/-! ### THE ROW's STEP: WRITTEN OUT: LEAVE IT -/
set_option maxRecDepth 100000 in
theorem lifted (os : Os) (started : os.Started) (H : Type) (enc : TypeId × Value → H) :
    ReturnsInHanded {} Try.checked os 3 .any (Rows.fnBlockCommentEndMatchesRecursiveDescentSpec.pre6 enc Try.prog Try.f3 Rows.fnBlockCommentEndMatchesRecursiveDescentRow.domain false) (Rows.fnBlockCommentEndMatchesRecursiveDescentSpec.post enc Try.prog Try.f3 false true false false) := by
  refine returnsInHanded_of_change (C := Try.checked) own started (by kernel_rfl) Try.func3
    (ChangeSpec.witness6 (enc := enc) (C := Try.checked) false ⟨#[], #[.string ByteArray.empty, .int .i64 0], []⟩ 8 (by kernel_rfl) (by kernel_rfl) (by kernel_rfl) (by kernel_rfl)) ?_
  intro W base args ds gs before hval0 hW hcnd _
  have hval : ∀ (j : Nat) t v, Try.f3.params[j]? = some t → args[j]? = some v → Value.okWide Try.prog W .any base t v := hval0
  have hW' := hW
  obtain ⟨p, q, hA0, hV, rfl, hfz, hnd⟩ := hW
  have hA : DataW.TrodAll enc Try.prog W 0 (fun _ => true) true Try.f3.params.toList args.toList ds p := hA0
  rw [Try.params3] at hA hval
  obtain ⟨v0, vs0, d0, ds0, p0, q0, hargs, rfl, rfl, h0, r0⟩ := trodAll_cons hA
  obtain ⟨v1, vs1, d1, ds1, p1, q1, rfl, rfl, rfl, h1, r1⟩ := trodAll_cons r0
  obtain ⟨rfl, rfl, rfl⟩ := trodAll_nil r1
  obtain rfl : args = #[v0, v1] := by cases args; simp_all
  obtain ⟨rfl, rfl⟩ := trodVars_none hV
  obtain ⟨a0, rfl, rfl, rfl, w0⟩ := open_string Try.underlying9 (hval 0 9 v0 rfl rfl) h0
  obtain ⟨a1, rfl, rfl, rfl, w1⟩ := open_int Try.underlying3 (hval 1 3 v1 rfl rfl) h1
  clear hA0 hval0
  simp only [List.append_nil] at hW'
  refine (walk a0 a1 w0 w1 W).mono fun e W' ⟨he, hg⟩ => ?_
  subst he
  exact ⟨_, rfl, post_of_same (pa := []) (pv := []) hW' (fun _ _ _ => (trodAll_cons_mk (shut_bool Try.underlying4 _) trodAll_mk0)) (fun sp _ => (trodAll_cons_mk (shut_string Try.underlying9 w0) (trodAll_cons_mk (shut_int Try.underlying3 w1) trodAll_mk0))) (fun _ _ => rfl) rfl
    (hg.frame _) hg.2.1 (ok_one (by kernel_rfl) rfl (okWide_bool_mk Try.underlying4 _))⟩

theorem over : Rows.fnBlockCommentEndMatchesRecursiveDescentRow.holds Try.pinned (OpenSpec.ofChange Rows.fnBlockCommentEndMatchesRecursiveDescentSpec) :=
  OpenClaim.holds_of_wide 3 Try.f3 rfl rfl rfl rfl rfl rfl rfl ⟨rfl, rfl, rfl, rfl, rfl⟩ rfl rfl rfl rfl rfl (by kernel_rfl) Try.func3 (by kernel_rfl)
    (of_decide_eq_true (by kernel_rfl)) (by unfold Func.isWrapper; first | (rw [if_pos (by decide +kernel)]; kernel_rfl) | (rw [if_neg (by decide +kernel)]; exact ⟨rfl, rfl⟩))
    (fun os started H enc _ => lifted os started H enc)

/-- ████ THE STATEMENT ████ -/
theorem proved : Rows.FnBlockCommentEndMatchesRecursiveDescentSaid :=
  over
end Go.Proofs.Qxb6629128a.fnBlockCommentEndMatchesRecursiveDescent
