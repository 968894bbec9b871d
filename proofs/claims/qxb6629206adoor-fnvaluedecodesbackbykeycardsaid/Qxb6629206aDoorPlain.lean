/-
  THE PLAIN LAWS of the branches' payload: no Go in sight.
-/
import Derived.Lib.Join
import Derived.Lib.Strings
import Derived.Test.Qxb6629206aDoorGates
namespace Go.Proofs.Qxb6629206aDoor
set_option linter.unusedVariables false

theorem joinTail_append (sep : List UInt8) (r s : List (List UInt8)) : Lib.joinTail sep (r ++ s) = Lib.joinTail sep r ++ Lib.joinTail sep s := by
  simp [Lib.joinTail]

theorem joinTail_cons (sep x : List UInt8) (r : List (List UInt8)) : Lib.joinTail sep (x :: r) = sep ++ x ++ Lib.joinTail sep r := by
  simp [Lib.joinTail]

theorem join_append (A B : List (List UInt8)) (sep : List UInt8) (hA : A ≠ []) (hB : B ≠ []) : Lib.join (A ++ B) sep = Lib.join A sep ++ sep ++ Lib.join B sep := by
  cases A with
  | nil => exact absurd rfl hA
  | cons a A =>
    cases B with
    | nil => exact absurd rfl hB
    | cons b B =>
      rw [List.cons_append, Lib.join_cons, Lib.join_cons, Lib.join_cons, joinTail_append, joinTail_cons]
      simp [List.append_assoc]

/-- The pieces of n branches, joined. -/
def joined (f : Nat → List UInt8) (n : Nat) : List UInt8 := Lib.join ((List.range n).map f) [44]

theorem joined_zero (f : Nat → List UInt8) : joined f 0 = [] := rfl
theorem joined_succ (f : Nat → List UInt8) (n : Nat) : joined f (n + 1) = if n = 0 then f 0 else joined f n ++ [44] ++ f n := by
  unfold joined
  rw [List.range_succ, List.map_append]
  by_cases h : n = 0
  · subst h
    simp [Lib.join_one]
  · rw [if_neg h, join_append _ _ _ (by simp [h]) (by simp)]
    simp [Lib.join_one]

theorem joined_length (f : Nat → List UInt8) (n : Nat) : (joined f n).length = tot (fun i => (f i).length) n + (n - 1) := by
  induction n with
  | zero => rfl
  | succ n ih =>
    rw [joined_succ, tot_succ]
    by_cases h : n = 0
    · subst h; simp [tot]
    · rw [if_neg h]
      simp only [List.length_append, List.length_cons, List.length_nil, ih]
      omega

/-- Two lists joined, one behind the other. -/
theorem joined_two (f g : Nat → List UInt8) (n m : Nat) (hn : n ≠ 0) (hm : m ≠ 0) (h : Nat → List UInt8) (h1 : ∀ i, i < n → h i = f i) (h2 : ∀ i, i < m → h (n + i) = g i) :
    joined h (n + m) = joined f n ++ [44] ++ joined g m := by
  unfold joined
  rw [List.range_add, List.map_append, join_append _ _ _ (by simp [hn]) (by simp [hm]), List.map_map]
  congr 2
  · congr 1
    exact List.map_congr_left fun i hi => h1 i (List.mem_range.1 hi)
  · exact List.map_congr_left fun i hi => h2 i (List.mem_range.1 hi)

theorem joined_congr (f g : Nat → List UInt8) (n : Nat) (h : ∀ i, i < n → f i = g i) : joined f n = joined g n := by
  unfold joined
  rw [List.map_congr_left fun i hi => h i (List.mem_range.1 hi)]

theorem tot_congr (f g : Nat → Nat) (n : Nat) (h : ∀ i, i < n → f i = g i) : tot f n = tot g n := by
  induction n with
  | zero => rfl
  | succ n ih => rw [tot_succ, tot_succ, ih fun i hi => h i (by omega), h n (by omega)]

theorem tot_le (f g : Nat → Nat) (n c : Nat) (h : ∀ i, i < n → f i ≤ g i + c) : tot f n ≤ tot g n + c * n := by
  induction n with
  | zero => simp [tot]
  | succ n ih =>
    rw [tot_succ, tot_succ, Nat.mul_succ]
    have := ih fun i hi => h i (by omega)
    have := h n (by omega)
    omega

theorem tot_add (f g h : Nat → Nat) (n m : Nat) (h1 : ∀ i, i < n → h i = f i) (h2 : ∀ i, i < m → h (n + i) = g i) : tot h (n + m) = tot f n + tot g m := by
  induction m with
  | zero => simpa [tot] using tot_congr h f n h1
  | succ m ih =>
    rw [← Nat.add_assoc, tot_succ, tot_succ, ih fun i hi => h2 i (by omega), h2 m (by omega)]
    omega

/-- One branch's piece. -/
def pc (r g s : ByteArray) : ByteArray := if s.toList.isEmpty then r ++ ⟨#[47]⟩ ++ g else r ++ ⟨#[47]⟩ ++ g ++ (⟨#[47]⟩ ++ s)

/-- The bytes of the piece. -/
def pcl (r g s : ByteArray) : Nat := r.size + 1 + g.size + (if s.toList.isEmpty then 0 else 1 + s.size)

theorem pc_size (r g s : ByteArray) : (pc r g s).size = pcl r g s := by
  unfold pc pcl
  split
  · simp only [ByteArray.size_append]; rfl
  · simp only [ByteArray.size_append]
    show r.size + 1 + g.size + (1 + s.size) = _
    omega

theorem pcl_le (r g s : ByteArray) : pcl r g s ≤ r.size + g.size + s.size + 2 := by
  unfold pcl
  split <;> omega

theorem size_eq (s : ByteArray) : s.size = s.data.toList.length := Lib.size_eq s

end Go.Proofs.Qxb6629206aDoor
