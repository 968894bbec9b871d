/-
  ZZwith; what later worlds keep; the bounds of the lists on a page.
-/
import Derived.Test.Qxb6629270aDoorWith
import Derived.Test.Qxb6629270aDoorWith2
import Derived.Test.Qxb6629270aDoorReads
namespace Go.Proofs.Qxb6629270aDoor
open Go.RowKit
set_option linter.unusedVariables false
attribute [local go_sem ↓] Go.wp_at_zero Go.wp_at_succ

/-- (*listPage).with, from a page or from none. -/
theorem with16 (p : Option Addr) (first : Int) (a : Option Addr) (n c : Nat) (N : Nat → Int) (L g : Nat → List Int) (w : World) (hn : n ≤ 8192) (hf0 : -9223372036854775808 ≤ first) (hf1 : first ≤ 9223372036854775807) (hnc : n ≤ c) (hE : Es w a n N L) (hR : Rise first n N) (hO : Opt w g p) (hT : TabAt 0 Lib.deBruijn64tab w) :
    Calls Tryd.prog 16 #[.pointer p, .int .i64 first, .slice a n c] w fun e w' => ∃ p, e = .returned (.pointer p) ∧ Below w.heap.size w w' ∧ Opt w' (app first N L g n) p := by
  cases p with
  | none => exact with_nil first a n c N L g w hn hf0 hf1 hnc hE hR hO hT
  | some p =>
    obtain ⟨⟨r0, ws, rfl, hp⟩, _⟩ := hO
    exact with_some r0 ws first a n c N L g w hn hf0 hf1 hnc hE hR hp hT

/-- ZZwith. -/
theorem with9 (p : Option Addr) (first : Int) (a : Option Addr) (n c : Nat) (N : Nat → Int) (L g : Nat → List Int) (w : World) (hn : n ≤ 8192) (hf0 : -9223372036854775808 ≤ first) (hf1 : first ≤ 9223372036854775807) (hnc : n ≤ c) (hE : Es w a n N L) (hR : Rise first n N) (hO : Opt w g p) (hT : TabAt 0 Lib.deBruijn64tab w) :
    Calls Tryd.prog 9 #[.pointer p, .int .i64 first, .slice a n c] w fun e w' => ∃ p, e = .returned (.pointer p) ∧ Below w.heap.size w w' ∧ Opt w' (app first N L g n) p := by
  have H := hide (with16 p first a n c N L g w hn hf0 hf1 hnc hE hR hO hT)
  clear hE hR hO hT
  go_enter Tryd.func9, Tryd.ntmps9
  go_wp2_with fail
  refine (H.out).mono ?_
  rintro e w' ⟨p', rfl, hb, ho⟩
  have HB := hide hb; have HO := hide ho; clear hb ho
  go_wp2_with fail
  go_ret
  exact ⟨p', rfl, HB.out, HO.out⟩

/-- What was there is as it was. -/
def Kp (w w' : World) : Prop := Below w.heap.size w w'
theorem Kp.trans {a b c : World} (h : Kp a b) (k : Kp b c) : Kp a c := Below.trans h (Below.mono k h.size)
theorem Kp.refl (w : World) : Kp w w := Below.refl _ _
theorem Kp.drewN {a b : World} (h : Kp a b) (k : Nat) : Kp a (b.drewN k) := below_drewN h k
theorem tab_kept {w w' : World} {t : List Nat} {k : Nat} (h : TabAt k t w) (hb : Kp w w') : TabAt k t w' := fun j hj => (Below.cell hb (p := ⟨k, j, none⟩) (cell_lt (h j hj))).trans (h j hj)
theorem Es.kept {w w' : World} {a : Option Addr} {n : Nat} {N : Nat → Int} {L : Nat → List Int} (h : Es w a n N L) (hb : Kp w w') : Es w' a n N L := h.below hb
theorem Opt.kept {w w' : World} {g : Nat → List Int} {p : Option Addr} (h : Opt w g p) (hb : Kp w w') : Opt w' g p := h.below hb

/-- A table, in a later world. -/
def Tb (w : World) (M : Nat) (G : Nat → List Int) : Prop := ∃ w0 : World, w0.heap.size ≤ M ∧ Tbl w0 w M G
theorem Tb.new {w0 w : World} {G : Nat → List Int} (h : Tbl w0 w w0.heap.size G) : Tb w w0.heap.size G := ⟨w0, Nat.le_refl _, h⟩
theorem Tb.kept {w w' : World} {M : Nat} {G : Nat → List Int} (h : Tb w M G) (hb : Kp w w') : Tb w' M G := by
  obtain ⟨w0, hM, ht⟩ := h
  obtain ⟨f, hr, he⟩ := ht.row
  exact ⟨w0, hM, ht.bel.trans (Below.mono hb (Nat.le_of_lt hr.lt)), f, hr.below hb hr.lt, he⟩

theorem reads (p : Option Addr) (M : Nat) (G : Nat → List Int) (w : World) (hz : ∀ i, i < 4096 → (G i).length ≤ 1048576) (hO : Opt w G p) (hT : Tb w M G) :
    Calls Tryd.prog 11 #[.pointer p, .slice (some ⟨M, 0, none⟩) 4096 4096] w fun e w' => e = .returned (.bool true) ∧ Kp w w' := by
  obtain ⟨w0, hM, ht⟩ := hT
  refine (reads11 p M G w0 w hM hz hO ht).mono ?_
  rintro e w' ⟨rfl, k, rfl⟩
  exact ⟨rfl, (Kp.refl w).drewN k⟩

theorem app_len {first : Int} {N : Nat → Int} {L g : Nat → List Int} {n i : Nat} (hL : ∀ k, k < n → (L k).length ≤ 1048576) (hg : (g i).length ≤ 1048576) : (app first N L g n i).length ≤ 1048576 := by
  induction n with
  | zero => exact hg
  | succ n ih =>
    rw [app]
    split
    · exact hL n (by omega)
    · exact ih fun k hk => hL k (by omega)
theorem none0_len (i : Nat) : (none0 i).length ≤ 1048576 := by simp [none0]
theorem app_none (first : Int) (N : Nat → Int) (L g : Nat → List Int) : app first N L g 0 = g := rfl
theorem Opt.none0 (w : World) : Opt w none0 none := fun _ _ => rfl
theorem Rise.zero (first : Int) (N : Nat → Int) : Rise first 0 N := fun _ h => absurd h (Nat.not_lt_zero _)
end Go.Proofs.Qxb6629270aDoor
