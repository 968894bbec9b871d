import Derived.Test.Qxb6629270aDoorMem
import Derived.Deep.MidRow
namespace Go.Proofs.Qxb6629270aDoor
open Go.RowKit
/-- f with the values vs from o on. -/
def updList (f : Nat → Value) (o : Nat) : List Value → Nat → Value
  | [] => f
  | v :: r => updList (upd f o v) (o + 1) r
theorem updList_at (vs : List Value) : ∀ (f : Nat → Value) (o i : Nat), updList f o vs i = if o ≤ i then (vs[i - o]?).getD (f i) else f i := by
  induction vs with
  | nil => intro f o i; simp [updList]
  | cons v r ih =>
    intro f o i
    rw [updList, ih]
    by_cases h : o ≤ i
    · by_cases e : i = o
      · subst e
        rw [if_neg (by omega), if_pos (Nat.le_refl _), upd_same]
        simp
      · rw [if_pos (show o + 1 ≤ i by omega), if_pos h, upd_other _ _ e, show i - o = (i - (o + 1)) + 1 from by omega, List.getElem?_cons_succ]
    · rw [if_neg (by omega), if_neg h, upd_other _ _ (by omega)]
theorem Blk.sets {N n : Nat} {T : TypeId} (vs : List Value) : ∀ {w : World} {f : Nat → Value} (o : Nat), Blk w N n T f → Blk (w.setCells N o vs) N n T (updList f o vs) := by
  induction vs with
  | nil => intro w f o h; exact h
  | cons v r ih =>
    intro w f o h
    rw [World.setCells, updList]
    exact ih (o + 1) (h.set o v)
theorem below_sets {B N : Nat} (hB : B ≤ N) (vs : List Value) : ∀ {a w : World} (o : Nat), Below B a w → Below B a (w.setCells N o vs) := by
  induction vs with
  | nil => intro a w o h; exact h
  | cons v r ih =>
    intro a w o h
    rw [World.setCells]
    exact ih (o + 1) (h.setCell (p := ⟨N, o, none⟩) hB v)
end Go.Proofs.Qxb6629270aDoor
