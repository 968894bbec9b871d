/-
  THE PLAIN PART of zzMerge: what the joined entries leave is what the one list and then the other leave.
-/
import Derived.Test.Qxb6629270aDoorLaw
namespace Go.Proofs.Qxb6629270aDoor
open Go.RowKit

/-- f with v at k. -/
def updI (f : Nat → Int) (k : Nat) (v : Int) (i : Nat) : Int := if i = k then v else f i
def updL (f : Nat → List Int) (k : Nat) (v : List Int) (i : Nat) : List Int := if i = k then v else f i
theorem updI_same (f : Nat → Int) (k : Nat) (v : Int) : updI f k v k = v := by simp [updI]
theorem updI_other (f : Nat → Int) {k i : Nat} (v : Int) (h : i ≠ k) : updI f k v i = f i := by simp [updI, h]
theorem updL_same (f : Nat → List Int) (k : Nat) (v : List Int) : updL f k v k = v := by simp [updL]
theorem updL_other (f : Nat → List Int) {k i : Nat} (v : List Int) (h : i ≠ k) : updL f k v i = f i := by simp [updL, h]

theorem app_upd (first : Int) (N : Nat → Int) (L : Nat → List Int) (g : Nat → List Int) (q : Nat) (y : Int) (l : List Int) (x : Nat) : ∀ n, n ≤ q → app first (updI N q y) (updL L q l) g n x = app first N L g n x := by
  intro n
  induction n with
  | zero => intro _; rfl
  | succ n ih =>
    intro hn
    rw [app, app, ih (by omega), updI_other _ _ (by omega), updL_other _ _ (by omega)]
theorem app_push (first : Int) (N : Nat → Int) (L : Nat → List Int) (g : Nat → List Int) (q : Nat) (y : Int) (l : List Int) (x : Nat) : app first (updI N q y) (updL L q l) g (q + 1) x = if y - first = (x : Int) then l else app first N L g q x := by
  rw [app, updI_same, updL_same, app_upd _ _ _ _ _ _ _ _ q (Nat.le_refl _)]

/-- How far the join has come: i of the one, j of the other, q joined. -/
structure Jn (first : Int) (n m : Nat) (N N' : Nat → Int) (L L' : Nat → List Int) (i j q : Nat) (M : Nat → Int) (K : Nat → List Int) : Prop where
  len : q ≤ i + j
  rise : Rise first q M
  lo : ∀ k, k < q → (i < n → M k < N i) ∧ (j < m → M k < N' j)
  xb : ∀ k, k < j → i < n → N' k < N i
  xc : ∀ k, k < i → j < m → N k < N' j
  law : ∀ (g : Nat → List Int) x, app first M K g q x = app first N' L' (app first N L g i) j x

theorem Rise.push {first : Int} {q : Nat} {M : Nat → Int} (h : Rise first q M) {y : Int} (h0 : first ≤ y) (h1 : y < first + 4096) (hl : ∀ k, k < q → M k < y) : Rise first (q + 1) (updI M q y) := by
  intro i hi
  rcases Nat.lt_succ_iff_lt_or_eq.1 hi with hik | rfl
  · obtain ⟨a, b, c⟩ := h i hik
    refine ⟨by rw [updI_other _ _ (by omega)]; exact a, by rw [updI_other _ _ (by omega)]; exact b, fun hp => ?_⟩
    rw [updI_other _ _ (by omega), updI_other _ _ (by omega)]
    exact c hp
  · refine ⟨by rw [updI_same]; exact h0, by rw [updI_same]; exact h1, fun hp => ?_⟩
    rw [updI_same, updI_other _ _ (by omega)]
    exact hl _ (by omega)

section
variable {first : Int} {n m : Nat} {N N' : Nat → Int} {L L' : Nat → List Int} {i j q : Nat} {M : Nat → Int} {K : Nat → List Int}
theorem Jn.start : Jn first n m N N' L L' 0 0 0 M K :=
  ⟨Nat.le_refl _, fun _ h => absurd h (Nat.not_lt_zero _), fun _ h => absurd h (Nat.not_lt_zero _), fun _ h => absurd h (Nat.not_lt_zero _), fun _ h => absurd h (Nat.not_lt_zero _), fun _ _ => rfl⟩

theorem Jn.one (h : Jn first n m N N' L L' i j q M K) (rA : Rise first n N) (hi : i < n) (hc : j < m → N i < N' j) :
    Jn first n m N N' L L' (i + 1) j (q + 1) (updI M q (N i)) (updL K q (L i)) := by
  obtain ⟨a0, a1, _⟩ := rA i hi
  refine ⟨by have := h.len; omega, h.rise.push a0 a1 fun k hk => (h.lo k hk).1 hi, fun k hk => ?_, fun k hk hin => ?_, fun k hk hj => ?_, fun g x => ?_⟩
  · by_cases e : k = q
    · subst e
      rw [updI_same]
      exact ⟨fun hn => rise_lt rA _ hn i (by omega), hc⟩
    · rw [updI_other _ _ e]
      have hkq := h.lo k (by omega)
      exact ⟨fun hn => by have := hkq.1 hi; have := rise_lt rA _ hn i (by omega); omega, hkq.2⟩
  · have := h.xb k hk hi
    have := rise_lt rA _ hin i (by omega)
    omega
  · rcases Nat.lt_succ_iff_lt_or_eq.1 hk with hki | rfl
    · exact h.xc k hki hj
    · exact hc hj
  · rw [app_push]
    by_cases e : N i - first = (x : Int)
    · rw [if_pos e, app_miss (fun k hk => by have := h.xb k hk hi; omega), app, if_pos e]
    · rw [if_neg e, h.law g x]
      exact app_congr (by rw [app, if_neg e])

theorem Jn.two (h : Jn first n m N N' L L' i j q M K) (rB : Rise first m N') (hj : j < m) (hc : i < n → N' j < N i) :
    Jn first n m N N' L L' i (j + 1) (q + 1) (updI M q (N' j)) (updL K q (L' j)) := by
  obtain ⟨a0, a1, _⟩ := rB j hj
  refine ⟨by have := h.len; omega, h.rise.push a0 a1 fun k hk => (h.lo k hk).2 hj, fun k hk => ?_, fun k hk hin => ?_, fun k hk hjm => ?_, fun g x => ?_⟩
  · by_cases e : k = q
    · subst e
      rw [updI_same]
      exact ⟨hc, fun hn => rise_lt rB _ hn j (by omega)⟩
    · rw [updI_other _ _ e]
      have hkq := h.lo k (by omega)
      exact ⟨hkq.1, fun hn => by have := hkq.2 hj; have := rise_lt rB _ hn j (by omega); omega⟩
  · rcases Nat.lt_succ_iff_lt_or_eq.1 hk with hki | rfl
    · exact h.xb k hki hin
    · exact hc hin
  · have := h.xc k hk hj
    have := rise_lt rB _ hjm j (by omega)
    omega
  · rw [app_push, app, h.law g x]

theorem Jn.both (h : Jn first n m N N' L L' i j q M K) (rA : Rise first n N) (rB : Rise first m N') (hi : i < n) (hj : j < m) (hc : N' j = N i) :
    Jn first n m N N' L L' (i + 1) (j + 1) (q + 1) (updI M q (N' j)) (updL K q (L' j)) := by
  obtain ⟨a0, a1, _⟩ := rB j hj
  refine ⟨by have := h.len; omega, h.rise.push a0 a1 fun k hk => (h.lo k hk).2 hj, fun k hk => ?_, fun k hk hin => ?_, fun k hk hjm => ?_, fun g x => ?_⟩
  · by_cases e : k = q
    · subst e
      rw [updI_same]
      exact ⟨fun hn => by rw [hc]; exact rise_lt rA _ hn i (by omega), fun hn => rise_lt rB _ hn j (by omega)⟩
    · rw [updI_other _ _ e]
      have hkq := h.lo k (by omega)
      exact ⟨fun hn => by have := hkq.1 hi; have := rise_lt rA _ hn i (by omega); omega, fun hn => by have := hkq.2 hj; have := rise_lt rB _ hn j (by omega); omega⟩
  · have h1 := rise_lt rA _ hin i (by omega)
    rcases Nat.lt_succ_iff_lt_or_eq.1 hk with hki | rfl
    · have := h.xb k hki hi
      omega
    · omega
  · have h1 := rise_lt rB _ hjm j (by omega)
    rcases Nat.lt_succ_iff_lt_or_eq.1 hk with hki | rfl
    · have := h.xc k hki hj
      omega
    · omega
  · rw [app_push, app, h.law g x]
    by_cases e : N' j - first = (x : Int)
    · rw [if_pos e, if_pos e]
    · rw [if_neg e, if_neg e]
      exact app_congr (by rw [app, if_neg (by omega)])
end
end Go.Proofs.Qxb6629270aDoor
