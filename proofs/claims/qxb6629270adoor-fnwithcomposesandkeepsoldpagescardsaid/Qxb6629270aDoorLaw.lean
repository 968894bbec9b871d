/-
  THE PLAIN PART: the last writer, the words' marks, the rising numbers.
-/
import Derived.Test.Qxb6629270aDoorPage
namespace Go.Proofs.Qxb6629270aDoor
open Go.RowKit

/-- What the first n entries leave at number i: the last writer's list; else g's. -/
def app (first : Int) (N : Nat → Int) (L : Nat → List Int) (g : Nat → List Int) : Nat → Nat → List Int
  | 0, i => g i
  | n + 1, i => if N n - first = (i : Int) then L n else app first N L g n i

theorem rise_lt {first : Int} {n : Nat} {N : Nat → Int} (h : Rise first n N) : ∀ k, k < n → ∀ j, j < k → N j < N k := by
  intro k
  induction k with
  | zero => intro _ j hj; omega
  | succ k ih =>
    intro hk j hj
    have h1 := (h (k + 1) hk).2.2 (by omega)
    rw [Nat.add_sub_cancel] at h1
    rcases Nat.lt_succ_iff_lt_or_eq.1 hj with hjk | rfl
    · have := ih (by omega) j hjk
      omega
    · exact h1

theorem Rise.upto {first : Int} {n m : Nat} {N : Nat → Int} (h : Rise first n N) (hm : m ≤ n) : Rise first m N := fun i hi => h i (by omega)

theorem app_miss {first : Int} {N : Nat → Int} {L : Nat → List Int} {g : Nat → List Int} {n i : Nat} (h : ∀ k, k < n → N k - first ≠ (i : Int)) : app first N L g n i = g i := by
  induction n with
  | zero => rfl
  | succ n ih => rw [app, if_neg (h n (by omega)), ih fun k hk => h k (by omega)]

theorem app_hit {first : Int} {N : Nat → Int} {L : Nat → List Int} {g : Nat → List Int} {n k i : Nat} (hR : Rise first n N) (hk : k < n) (hi : N k - first = (i : Int)) : app first N L g n i = L k := by
  induction n with
  | zero => omega
  | succ n ih =>
    rcases Nat.lt_succ_iff_lt_or_eq.1 hk with hkn | rfl
    · have := rise_lt hR n (by omega) k hkn
      rw [app, if_neg (by omega), ih (hR.upto (by omega)) hkn]
    · rw [app, if_pos hi]

theorem app_congr {first : Int} {N : Nat → Int} {L : Nat → List Int} {g g' : Nat → List Int} {n i : Nat} (h : g i = g' i) : app first N L g n i = app first N L g' n i := by
  induction n with
  | zero => exact h
  | succ n ih => rw [app, app, ih]

/-! ### The words -/
/-- The words fit 64 bits, and mark just the numbers that have a list. -/
structure Marks (ws : Nat → Nat) (g : Nat → List Int) : Prop where
  small : ∀ v, v < 64 → ws v < 18446744073709551616
  bits : ∀ i, i < 4096 → (bit ws i = true ↔ g i ≠ [])

theorem bit_set (ws : Nat → Nat) (i j : Nat) : bit (fun v => if v = i / 64 then ws (i / 64) ||| 2 ^ (i % 64) else ws v) j = (bit ws j || decide (j = i)) := by
  unfold bit
  by_cases e : j / 64 = i / 64
  · simp only [e, if_pos]
    rw [set_bit]
    congr 1
    have : (j % 64 = i % 64) = (j = i) := by apply propext; omega
    simp [this]
  · simp only [if_neg e]
    have : j ≠ i := fun h => e (by rw [h])
    simp [this]
theorem bit_clear (ws : Nat → Nat) (i j : Nat) : bit (fun v => if v = i / 64 then ws (i / 64) &&& (18446744073709551615 - 2 ^ (i % 64)) else ws v) j = (bit ws j && !decide (j = i)) := by
  unfold bit
  by_cases e : j / 64 = i / 64
  · simp only [e, if_pos]
    rw [clear_bit _ _ _ (Nat.mod_lt _ (by omega)) (Nat.mod_lt _ (by omega))]
    congr 2
    have : (j % 64 = i % 64) = (j = i) := by apply propext; omega
    simp [this]
  · simp only [if_neg e]
    have : j ≠ i := fun h => e (by rw [h])
    simp [this]

theorem Marks.set {first : Int} {N : Nat → Int} {L : Nat → List Int} {g : Nat → List Int} {ws : Nat → Nat} {k i : Nat} (h : Marks ws (app first N L g k)) (hi : i < 4096) (he : N k - first = (i : Int)) (hl : L k ≠ []) :
    Marks (fun v => if v = i / 64 then ws (i / 64) ||| 2 ^ (i % 64) else ws v) (app first N L g (k + 1)) where
  small := fun v hv => by
    have h1 := h.small v hv
    by_cases e : v = i / 64
    · simp only [if_pos e]
      have h2 := h.small (i / 64) (by omega)
      exact Nat.or_lt_two_pow (n := 64) h2 (pow_lt64 (Nat.mod_lt _ (by omega)))
    · simpa only [if_neg e] using h1
  bits := fun j hj => by
    rw [bit_set, app]
    by_cases e : j = i
    · subst e
      rw [if_pos he]
      simp [hl]
    · rw [if_neg (by omega)]
      simpa [e] using h.bits j hj
theorem Marks.clear {first : Int} {N : Nat → Int} {L : Nat → List Int} {g : Nat → List Int} {ws : Nat → Nat} {k i : Nat} (h : Marks ws (app first N L g k)) (hi : i < 4096) (he : N k - first = (i : Int)) (hl : L k = []) :
    Marks (fun v => if v = i / 64 then ws (i / 64) &&& (18446744073709551615 - 2 ^ (i % 64)) else ws v) (app first N L g (k + 1)) where
  small := fun v hv => by
    have h1 := h.small v hv
    by_cases e : v = i / 64
    · simp only [if_pos e]
      have h2 := h.small (i / 64) (by omega)
      exact Nat.lt_of_le_of_lt Nat.and_le_left h2
    · simpa only [if_neg e] using h1
  bits := fun j hj => by
    rw [bit_clear, app]
    by_cases e : j = i
    · subst e
      rw [if_pos he]
      simp [hl]
    · rw [if_neg (by omega)]
      simpa [e] using h.bits j hj

/-- A page, or none where no number has a list. -/
def Opt (w : World) (g : Nat → List Int) : Option Addr → Prop
  | none => ∀ i, i < 4096 → g i = []
  | some p => (∃ r ws, p = ⟨r, 0, none⟩ ∧ Page w r ws g) ∧ ∃ i, i < 4096 ∧ g i ≠ []

theorem Opt.below {w w' : World} {g : Nat → List Int} {p : Option Addr} (h : Opt w g p) (hb : Below w.heap.size w w') : Opt w' g p := by
  cases p with
  | none => exact h
  | some p =>
    obtain ⟨⟨r, ws, e, hp⟩, hi⟩ := h
    exact ⟨⟨r, ws, e, hp.below hb⟩, hi⟩

theorem Marks.zero {ws : Nat → Nat} {g : Nat → List Int} (h : Marks ws g) (h0 : cnt (bit ws) 4096 = 0) : ∀ i, i < 4096 → g i = [] := by
  intro i hi
  by_cases hg : g i = []
  · exact hg
  · have := cnt_lt (bit ws) hi ((h.bits i hi).2 hg)
    omega
theorem Marks.some {ws : Nat → Nat} {g : Nat → List Int} (h : Marks ws g) (h0 : cnt (bit ws) 4096 ≠ 0) : ∃ i, i < 4096 ∧ g i ≠ [] := by
  by_cases hx : ∃ i, i < 4096 ∧ g i ≠ []
  · exact hx
  · exfalso
    apply h0
    apply cnt_zero
    intro i hi
    have hg : g i = [] := by
      by_cases hg : g i = []
      · exact hg
      · exact absurd ⟨i, hi, hg⟩ hx
    cases hb : bit ws i with
    | false => rfl
    | true => exact absurd hg ((h.bits i hi).1 hb)
end Go.Proofs.Qxb6629270aDoor
