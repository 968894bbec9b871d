/-
  'Rows.FnWithComposesAndKeepsOldPagesCardSaid', PROVED: the row's frame after the guide's worked examples (a law over slices; a listed variable); the walk: Qxb6629270aDoorLawB; the card by the builder over the given tie.
-/
import Derived.Test.Qxb6629270aDoorLawB
import Derived.Test.Qxb6629270aDoorOpen
import Derived.Test.Qxb6629270aDoorTie
import Derived.Test.Qxb6629270aDoorCards
import Derived.Lib.LaidTab
import Derived.ShutString
import Derived.ChangeOld
import Derived.Below
import Derived.LaidMore
import Derived.Stop.Joined
import Derived.SevenTiedAt
namespace Go.Proofs.Qxb6629270aDoor.fnWithComposesAndKeepsOldPages
open Go.ChangeShapes Go.WideShapes Go.ChangeAt Go.RowKit
set_option linter.unusedVariables false

theorem own : ownKnob Tryd.prog.godebug = none := by kernel_rfl
theorem laidOut : laidOutB Tryd.prog = true := by kernel_rfl

/-- The listed variable. -/
def laid1 : List (String × DataW Unit) := Rows.fnWithComposesAndKeepsOldPagesRow.laid

set_option maxRecDepth 100000 in
/-- The door's own heap meets the condition. -/
theorem door_met (os : Os) (args : Array Value) : laidMetH Tryd.prog laid1 ((World.doorLaid Tryd.prog 14 os).forCall (fun _ _ => 0) ⟨#[], args, []⟩).memory :=
  laidMetH_of_parts3 (fuel := 8) (laidMet_of_run' 8 (by kernel_rfl) (by kernel_rfl)) (by kernel_rfl) (by kernel_rfl)

/-- The name of the table. -/
def tabName : String := match Rows.fnWithComposesAndKeepsOldPagesRow.laid with | [x] => x.1 | _ => ""
def tabInts : List Int := Lib.deBruijn64tab.map fun (n : Nat) => (n : Int)

/-- WHAT THE CONDITION GIVES THE WALK: the table of the places of the lowest bit. -/
theorem tab_of {W : World} (h : laidMetH Tryd.prog laid1 W) : TabAt 0 Lib.deBruijn64tab W := by
  rw [MakeChecks.laidMetH_plain _ _ _ (by kernel_rfl)] at h
  have h3 : laidMet Tryd.prog [(tabName, Lib.tabData .u8 tabInts)] W := by
    have h2 : laidMet Tryd.prog [(tabName, Rows.laid_math_bits_deBruijn64tab)] W := h
    have e : (Lib.tabData .u8 tabInts : DataW Unit) = Rows.laid_math_bits_deBruijn64tab := by kernel_rfl
    rw [e]
    exact h2
  have ht : Lib.TabIs Tryd.prog W tabName .u8 tabInts := Lib.tabIs_of_head (g := 0) (t := 55) (e := 5) (n := 64) (by kernel_rfl) (by kernel_rfl) Tryd.underlying55 Tryd.underlying5 (by kernel_rfl) (by kernel_rfl) h3
  intro j hj
  have hc := ht.cell (g := 0) (by kernel_rfl) j (by simpa [tabInts] using hj)
  rw [hc]
  congr 2
  simp [tabInts, List.getD, hj]

set_option maxRecDepth 100000 in
theorem lifted (os : Os) (started : os.Started) (H : Type) (enc : TypeId × Value → H) :
    ReturnsInHanded {} Tryd.checked os 4 .any (fun w args => (Rows.fnWithComposesAndKeepsOldPagesSpec.pre enc Tryd.prog Tryd.f4 [] false w args ∧ laidMetH Tryd.prog laid1 w) ∧ sizedMet enc Tryd.prog Tryd.f4 (OpenSpec.ofChange Rows.fnWithComposesAndKeepsOldPagesSpec) false w args)
      (Rows.fnWithComposesAndKeepsOldPagesSpec.post enc Tryd.prog Tryd.f4 false true false false) := by
  refine returnsInHanded_of_change_and (C := Tryd.checked) (X := fun w _ => laidMetH Tryd.prog laid1 w) (fun _ _ _ hh h => h.of_heap hh) own started (by kernel_rfl) Tryd.func4
    (ChangeSpec.witness_shaped (enc := enc) (C := Tryd.checked) (os := os) (X := fun w _ => laidMetH Tryd.prog laid1 w) false (World.doorLaid Tryd.prog 14 os) #[.int .i64 0, .slice none 0 0, .slice none 0 0, .slice none 0 0] 8 rfl (World.shaped_of_RefB (by kernel_rfl) (by kernel_rfl)) (by kernel_rfl) (by kernel_rfl) (by kernel_rfl) (door_met os _)) ?_
  intro W base args ds gs before hval0 hW _ _ hL _
  have hval : ∀ (j : Nat) t v, Tryd.f4.params[j]? = some t → args[j]? = some v → Value.okWide Tryd.prog W .any base t v := hval0
  have hW' := hW
  obtain ⟨p, q, hA0, hV, rfl, hfz, hnd⟩ := hW
  have hA : DataW.TrodAll enc Tryd.prog W 0 (fun _ => true) true Tryd.f4.params.toList args.toList ds p := hA0
  rw [Tryd.params4] at hA hval
  obtain ⟨v0, vs0, d0, ds0, p0, q0, hargs, rfl, rfl, h0, r0⟩ := trodAll_cons hA
  obtain ⟨v1, vs1, d1, ds1, p1, q1, rfl, rfl, rfl, h1, r1⟩ := trodAll_cons r0
  obtain ⟨v2, vs2, d2, ds2, p2, q2, rfl, rfl, rfl, h2, r2⟩ := trodAll_cons r1
  obtain ⟨v3, vs3, d3, ds3, p3, q3, rfl, rfl, rfl, h3, r3⟩ := trodAll_cons r2
  obtain ⟨rfl, rfl, rfl⟩ := trodAll_nil r3
  obtain rfl : args = #[v0, v1, v2, v3] := by cases args; simp_all
  obtain ⟨rfl, rfl⟩ := trodVars_none hV
  obtain ⟨a0, rfl, rfl, rfl, w0⟩ := open_int Tryd.underlying3 (hval 0 3 v0 rfl rfl) h0
  obtain ⟨a1, len1, cap1, rfl⟩ := okWide_slice Tryd.underlying22 (hval 1 22 v1 rfl rfl)
  have k1 := h1
  have lt1 : ∀ x ∈ p1, x.block < W.heap.size := by obtain ⟨m, hm⟩ := k1; exact DataW.trod_lt m _ _ _ hm
  obtain ⟨N1, L1, e1, z1⟩ : ∃ N L, Es W a1 len1 N L ∧ Zs len1 N L := by
    obtain ⟨fuel, hf⟩ := h1
    exact es_of (by simpa [Value.cells] using hf)
  obtain ⟨a2, len2, cap2, rfl⟩ := okWide_slice Tryd.underlying22 (hval 2 22 v2 rfl rfl)
  have k2 := h2
  have lt2 : ∀ x ∈ p2, x.block < W.heap.size := by obtain ⟨m, hm⟩ := k2; exact DataW.trod_lt m _ _ _ hm
  obtain ⟨N2, L2, e2, z2⟩ : ∃ N L, Es W a2 len2 N L ∧ Zs len2 N L := by
    obtain ⟨fuel, hf⟩ := h2
    exact es_of (by simpa [Value.cells] using hf)
  obtain ⟨a3, len3, cap3, rfl⟩ := okWide_slice Tryd.underlying22 (hval 3 22 v3 rfl rfl)
  have k3 := h3
  have lt3 : ∀ x ∈ p3, x.block < W.heap.size := by obtain ⟨m, hm⟩ := k3; exact DataW.trod_lt m _ _ _ hm
  obtain ⟨N3, L3, e3, z3⟩ : ∃ N L, Es W a3 len3 N L ∧ Zs len3 N L := by
    obtain ⟨fuel, hf⟩ := h3
    exact es_of (by simpa [Value.cells] using hf)
  have hT := tab_of hL
  have hb0 := bounds_i64 w0
  clear hA0 hval0 hL
  refine (law4 a0 a1 a2 a3 len1 cap1 len2 cap2 len3 cap3 N1 N2 N3 L1 L2 L3 W hb0.1 hb0.2 z1 z2 z3 e1 e2 e3 hT).mono fun e W' ⟨he, bel⟩ => ?_
  have bel : Below W.heap.size W W' := bel
  subst he
  exact ⟨_, rfl, _, _, _, [], _, [], hW', trodAll_mk1 (shut_bool Tryd.underlying4 _), (trodAll_cons_mk (shut_int Tryd.underlying3 w0) (trodAll_cons_mk (Below.trod laidOut (by kernel_rfl) (of_decide_eq_true (by kernel_rfl)) k1 bel lt1) (trodAll_cons_mk (Below.trod laidOut (by kernel_rfl) (of_decide_eq_true (by kernel_rfl)) k2 bel lt2) (trodAll_cons_mk (Below.trod laidOut (by kernel_rfl) (of_decide_eq_true (by kernel_rfl)) k3 bel lt3) trodAll_mk0)))), rfl, bel.frame _, fun h => by cases h⟩

theorem over : Rows.FnWithComposesAndKeepsOldPagesSaid :=
  OpenClaim.holds_of_wide 4 Tryd.f4 rfl rfl rfl rfl rfl rfl rfl ⟨rfl, rfl, rfl, rfl, rfl⟩ rfl rfl rfl rfl rfl (by kernel_rfl) Tryd.func4 (by kernel_rfl)
    (of_decide_eq_true (by kernel_rfl)) (by unfold Func.isWrapper; first | (rw [if_pos (by decide +kernel)]; kernel_rfl) | (rw [if_neg (by decide +kernel)]; exact ⟨rfl, rfl⟩))
    (fun os started H enc _ => lifted os started H enc)

/-- THE STATEMENT: the tied card. -/
theorem proved : Rows.FnWithComposesAndKeepsOldPagesCardSaid :=
  Claim7.holds_tied_plain_at .later [] [.data] true (true, "ca15f00c72a823676d317d2448fbc012dc9824ef14e2cb8e86399adb04cfe28f") false
    over (fun _ h => by cases h) (by kernel_rfl) (fun _ h => by cases h) fnWithComposesAndKeepsOldPages_row_tie rfl ⟨rfl, rfl⟩ (by kernel_rfl) rfl
    (fun f fn hf hfn => by
      obtain rfl : f = 4 := Option.some.inj ((show Tryd.prog.funcNamed Tryd.f4.name = some 4 by kernel_rfl).symm.trans hf) |>.symm
      obtain rfl : fn = Tryd.f4 := (Option.some.inj (Tryd.func4.symm.trans hfn)).symm
      exact ⟨by kernel_rfl, fun j t ht => by
        rw [Tryd.params4] at ht
        have h3 : t = 3 ∨ t = 22 := by
          rcases j with _ | _ | _ | _ | j
          · left; simpa using ht.symm
          · right; simpa using ht.symm
          · right; simpa using ht.symm
          · right; simpa using ht.symm
          · simp at ht
        rcases h3 with rfl | rfl
        · exact (show Tryd.prog.wantsStandIn 3 = false by kernel_rfl)
        · exact (show Tryd.prog.wantsStandIn 22 = false by kernel_rfl)⟩)
    (by kernel_rfl)
end Go.Proofs.Qxb6629270aDoor.fnWithComposesAndKeepsOldPages
