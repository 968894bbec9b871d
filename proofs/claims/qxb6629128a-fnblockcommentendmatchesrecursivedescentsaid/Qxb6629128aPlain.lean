/-
  THE PLAIN LAW: no Go in sight. A scan of nested block comments over a list of bytes.
-/
namespace Go.Proofs.Qxb6629128a.Plain

/-- How many bytes a scan at depth 'd + 1' takes off the list (all of it, where the comment never closes). -/
def scan : Nat → List UInt8 → Nat
  | _, [] => 0
  | _, [_] => 1
  | d, a :: b :: r =>
    if a = 42 ∧ b = 47 then (match d with | 0 => 2 | d' + 1 => 2 + scan d' r)
    else if a = 47 ∧ b = 42 then 2 + scan (d + 1) r
    else 1 + scan d (b :: r)

theorem scan_nil (d : Nat) : scan d [] = 0 := by simp [scan]
theorem scan_one (d : Nat) (a : UInt8) : scan d [a] = 1 := by simp [scan]
theorem scan_close0 (r : List UInt8) : scan 0 (42 :: 47 :: r) = 2 := by simp [scan]
theorem scan_close (d : Nat) (r : List UInt8) : scan (d + 1) (42 :: 47 :: r) = 2 + scan d r := by simp [scan]
theorem scan_open (d : Nat) (r : List UInt8) : scan d (47 :: 42 :: r) = 2 + scan (d + 1) r := by simp [scan]
theorem scan_step (d : Nat) (a b : UInt8) (r : List UInt8) (h1 : ¬ (a = 42 ∧ b = 47)) (h2 : ¬ (a = 47 ∧ b = 42)) :
    scan d (a :: b :: r) = 1 + scan d (b :: r) := by
  rw [scan.eq_def]; simp only [if_neg h1, if_neg h2]

theorem scan_le : ∀ (n : Nat) (d : Nat) (l : List UInt8), l.length ≤ n → scan d l ≤ l.length := by
  intro n
  induction n with
  | zero => intro d l h; cases l with
    | nil => simp [scan]
    | cons a r => simp at h
  | succ n ih =>
    intro d l h
    match l with
    | [] => simp [scan]
    | [a] => simp [scan]
    | a :: b :: r =>
      simp only [List.length_cons] at h ⊢
      by_cases h1 : a = 42 ∧ b = 47
      · obtain ⟨rfl, rfl⟩ := h1
        cases d with
        | zero => rw [scan_close0]; omega
        | succ d => rw [scan_close]; have := ih d r (by omega); omega
      · by_cases h2 : a = 47 ∧ b = 42
        · obtain ⟨rfl, rfl⟩ := h2
          rw [scan_open]; have := ih (d + 1) r (by omega); omega
        · rw [scan_step d a b r h1 h2]; have := ih d (b :: r) (by simp; omega); simp at this; omega

/-- A scan one deeper is the scan, and a scan at depth one of what is left. -/
theorem scan_deeper : ∀ (n : Nat) (d : Nat) (l : List UInt8), l.length ≤ n → scan (d + 1) l = scan d l + scan 0 (l.drop (scan d l)) := by
  intro n
  induction n with
  | zero => intro d l h; cases l with
    | nil => simp [scan]
    | cons a r => simp at h
  | succ n ih =>
    intro d l h
    match l with
    | [] => simp [scan]
    | [a] => simp [scan]
    | a :: b :: r =>
      simp only [List.length_cons] at h
      by_cases h1 : a = 42 ∧ b = 47
      · obtain ⟨rfl, rfl⟩ := h1
        cases d with
        | zero => rw [scan_close0, scan_close]; simp
        | succ d =>
          rw [scan_close, scan_close, ih d r (by omega)]
          rw [show 2 + scan d r = scan d r + 2 from Nat.add_comm _ _]
          simp only [List.drop_succ_cons]
          omega
      · by_cases h2 : a = 47 ∧ b = 42
        · obtain ⟨rfl, rfl⟩ := h2
          rw [scan_open, scan_open, ih (d + 1) r (by omega)]
          rw [show 2 + scan (d + 1) r = scan (d + 1) r + 2 from Nat.add_comm _ _]
          simp only [List.drop_succ_cons]
          omega
        · rw [scan_step _ a b r h1 h2, scan_step _ a b r h1 h2, ih d (b :: r) (by simp; omega)]
          rw [show 1 + scan d (b :: r) = scan d (b :: r) + 1 from Nat.add_comm _ _]
          simp only [List.drop_succ_cons]
          omega

/-- The same by recursive descent: none where the comment never closes. -/
def skip : Nat → List UInt8 → Option Nat
  | _, [] => none
  | _, [_] => none
  | d, a :: b :: r =>
    if a = 42 ∧ b = 47 then (match d with | 0 => some 2 | d' + 1 => (skip d' r).map (2 + ·))
    else if a = 47 ∧ b = 42 then (skip (d + 1) r).map (2 + ·)
    else (skip d (b :: r)).map (1 + ·)

theorem skip_nil (d : Nat) : skip d [] = none := by simp [skip]
theorem skip_one (d : Nat) (a : UInt8) : skip d [a] = none := by simp [skip]
theorem skip_close0 (r : List UInt8) : skip 0 (42 :: 47 :: r) = some 2 := by simp [skip]
theorem skip_close (d : Nat) (r : List UInt8) : skip (d + 1) (42 :: 47 :: r) = (skip d r).map (2 + ·) := by simp [skip]
theorem skip_open (d : Nat) (r : List UInt8) : skip d (47 :: 42 :: r) = (skip (d + 1) r).map (2 + ·) := by simp [skip]
theorem skip_step (d : Nat) (a b : UInt8) (r : List UInt8) (h1 : ¬ (a = 42 ∧ b = 47)) (h2 : ¬ (a = 47 ∧ b = 42)) :
    skip d (a :: b :: r) = (skip d (b :: r)).map (1 + ·) := by
  rw [skip.eq_def]; simp only [if_neg h1, if_neg h2]

theorem scan_skip : ∀ (n : Nat) (d : Nat) (l : List UInt8), l.length ≤ n → scan d l = (skip d l).getD l.length := by
  intro n
  induction n with
  | zero => intro d l h; cases l with
    | nil => simp [scan, skip]
    | cons a r => simp at h
  | succ n ih =>
    intro d l h
    match l with
    | [] => simp [scan, skip]
    | [a] => simp [scan, skip]
    | a :: b :: r =>
      simp only [List.length_cons] at h
      by_cases h1 : a = 42 ∧ b = 47
      · obtain ⟨rfl, rfl⟩ := h1
        cases d with
        | zero => rw [scan_close0, skip_close0]; simp
        | succ d =>
          rw [scan_close, skip_close, ih d r (by omega)]
          cases skip d r <;> simp <;> omega
      · by_cases h2 : a = 47 ∧ b = 42
        · obtain ⟨rfl, rfl⟩ := h2
          rw [scan_open, skip_open, ih (d + 1) r (by omega)]
          cases skip (d + 1) r <;> simp <;> omega
        · rw [scan_step _ a b r h1 h2, skip_step _ a b r h1 h2, ih d (b :: r) (by simp; omega)]
          cases skip d (b :: r) <;> simp <;> omega

theorem skip_deeper : ∀ (n : Nat) (d : Nat) (l : List UInt8), l.length ≤ n →
    skip (d + 1) l = (skip d l).bind fun k => (skip 0 (l.drop k)).map (k + ·) := by
  intro n
  induction n with
  | zero => intro d l h; cases l with
    | nil => simp [skip]
    | cons a r => simp at h
  | succ n ih =>
    intro d l h
    match l with
    | [] => simp [skip]
    | [a] => simp [skip]
    | a :: b :: r =>
      simp only [List.length_cons] at h
      by_cases h1 : a = 42 ∧ b = 47
      · obtain ⟨rfl, rfl⟩ := h1
        cases d with
        | zero => rw [skip_close0, skip_close]; simp
        | succ d =>
          rw [skip_close, skip_close, ih d r (by omega)]
          cases skip d r with
          | none => simp
          | some k =>
            simp only [Option.bind_some, Option.map_some, Option.map_map]
            rw [show 2 + k = k + 2 from Nat.add_comm _ _]
            simp only [List.drop_succ_cons]
            congr 1; funext x; simp; omega
      · by_cases h2 : a = 47 ∧ b = 42
        · obtain ⟨rfl, rfl⟩ := h2
          rw [skip_open, skip_open, ih (d + 1) r (by omega)]
          cases skip (d + 1) r with
          | none => simp
          | some k =>
            simp only [Option.bind_some, Option.map_some, Option.map_map]
            rw [show 2 + k = k + 2 from Nat.add_comm _ _]
            simp only [List.drop_succ_cons]
            congr 1; funext x; simp; omega
        · rw [skip_step _ a b r h1 h2, skip_step _ a b r h1 h2, ih d (b :: r) (by simp; omega)]
          cases skip d (b :: r) with
          | none => simp
          | some k =>
            simp only [Option.bind_some, Option.map_some, Option.map_map]
            rw [show 1 + k = k + 1 from Nat.add_comm _ _]
            simp only [List.drop_succ_cons]
            congr 1; funext x; simp; omega

theorem skip_le (n d : Nat) (l : List UInt8) (h : l.length ≤ n) : ∀ k, skip d l = some k → k ≤ l.length := by
  intro k hk
  have h1 := scan_skip n d l h
  have h2 := scan_le n d l h
  rw [h1, hk] at h2
  simpa using h2

end Go.Proofs.Qxb6629128a.Plain
