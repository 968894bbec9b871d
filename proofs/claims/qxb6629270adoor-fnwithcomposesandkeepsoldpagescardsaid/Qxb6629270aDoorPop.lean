/-
  THE PLAIN PART OF THE BITS: counts of bits, the sum of bits in parallel, the lowest bit.
-/
import Derived.Laws.BitsAllLaws
import Derived.Lib.TrailingZeros
namespace Go.Proofs.Qxb6629270aDoor

/-- How many of the first n are marked. -/
def cnt (g : Nat → Bool) : Nat → Nat
  | 0 => 0
  | n + 1 => cnt g n + (if g n then 1 else 0)

theorem cnt_succ (g : Nat → Bool) (n : Nat) : cnt g (n + 1) = cnt g n + (if g n then 1 else 0) := rfl
theorem cnt_add (g : Nat → Bool) (a b : Nat) : cnt g (a + b) = cnt g a + cnt (fun j => g (a + j)) b := by
  induction b with
  | zero => rfl
  | succ b ih => rw [← Nat.add_assoc, cnt_succ, cnt_succ, ih, Nat.add_assoc]
theorem cnt_congr {g h : Nat → Bool} {n : Nat} (e : ∀ i, i < n → g i = h i) : cnt g n = cnt h n := by
  induction n with
  | zero => rfl
  | succ n ih => rw [cnt_succ, cnt_succ, ih (fun i hi => e i (by omega)), e n (by omega)]
theorem cnt_le (g : Nat → Bool) (n : Nat) : cnt g n ≤ n := by
  induction n with
  | zero => exact Nat.le_refl _
  | succ n ih => rw [cnt_succ]; split <;> omega
theorem cnt_mono (g : Nat → Bool) {a b : Nat} (h : a ≤ b) : cnt g a ≤ cnt g b := by
  obtain ⟨c, rfl⟩ := Nat.le.dest h
  rw [cnt_add]; omega
theorem cnt_lt (g : Nat → Bool) {a b : Nat} (h : a < b) (hg : g a = true) : cnt g a < cnt g b := by
  have := cnt_mono g (show a + 1 ≤ b from h)
  rw [cnt_succ, hg, if_pos rfl] at this
  omega
theorem cnt_zero {g : Nat → Bool} {n : Nat} (h : ∀ i, i < n → g i = false) : cnt g n = 0 := by
  induction n with
  | zero => rfl
  | succ n ih => rw [cnt_succ, ih (fun i hi => h i (by omega)), h n (by omega)]; rfl
theorem cnt_flat (g : Nat → Bool) {a b : Nat} (h : a ≤ b) (hz : ∀ i, a ≤ i → i < b → g i = false) : cnt g b = cnt g a := by
  obtain ⟨c, rfl⟩ := Nat.le.dest h
  rw [cnt_add, cnt_zero (g := fun j => g (a + j)) (fun i hi => hz _ (by omega) (by omega))]; rfl
theorem cnt_cut (g : Nat → Bool) (k n : Nat) (h : k ≤ n) : cnt (fun j => g j && decide (j < k)) n = cnt g k := by
  obtain ⟨c, rfl⟩ := Nat.le.dest h
  rw [cnt_add, cnt_zero (n := c) (fun i hi => by simp), Nat.add_zero]
  exact cnt_congr fun i hi => by simp [hi]

theorem and_split (a b : Nat) : a &&& b = 256 * (a / 256 &&& b / 256) + (a % 256 &&& b % 256) := by
  have h1 : (a &&& b) / 2 ^ 8 = a / 2 ^ 8 &&& b / 2 ^ 8 := Nat.and_div_two_pow
  have h2 : (a &&& b) % 2 ^ 8 = a % 2 ^ 8 &&& b % 2 ^ 8 := Nat.and_mod_two_pow
  have := Nat.div_add_mod (a &&& b) (2 ^ 8)
  rw [h1, h2] at this
  exact this.symm

def rep (m : Nat) : Nat → Nat
  | 0 => 0
  | n + 1 => 256 * rep m n + m

def b1 (l : Nat) : Nat := (l / 2 &&& 85) + (l &&& 85)
def b2 (l : Nat) : Nat := (l / 4 &&& 51) + (l &&& 51)
def b3 (l : Nat) : Nat := (l / 16 + l) &&& 15
def s1 (n x : Nat) : Nat := (x / 2 &&& rep 85 n) + (x &&& rep 85 n)
def s2 (n x : Nat) : Nat := (x / 4 &&& rep 51 n) + (x &&& rep 51 n)
def s3 (n x : Nat) : Nat := (x / 16 + x) &&& rep 15 n

theorem rep_div (m n : Nat) (h : m < 256) : rep m (n + 1) / 256 = rep m n := by simp only [rep]; omega
theorem rep_mod (m n : Nat) (h : m < 256) : rep m (n + 1) % 256 = m := by simp only [rep]; omega

theorem t1 : ∀ t, t < 512 → (t / 2) % 256 &&& 85 = (t % 256) / 2 &&& 85 := by decide +kernel
theorem t2 : ∀ t, t < 1024 → (t / 4) % 256 &&& 51 = (t % 256) / 4 &&& 51 := by decide +kernel
theorem t3 : ∀ a, a < 16 → ∀ l, l < 69 → (16 * a + l + l / 16) &&& 15 = (l / 16 + l) &&& 15 := by decide +kernel
theorem small1 : ∀ l, l < 256 → b1 l < 256 := by decide +kernel
theorem small2 : ∀ l, l < 256 → b2 (b1 l) < 69 ∧ b2 (b1 l) % 16 < 5 := by decide +kernel
theorem byte_pop : ∀ l, l < 256 → b3 (b2 (b1 l)) = cnt l.testBit 8 := by decide +kernel

theorem s1_step (n x : Nat) : s1 (n + 1) x = 256 * s1 n (x / 256) + b1 (x % 256) := by
  unfold s1 b1
  rw [and_split (x / 2), and_split x, rep_div 85 n (by omega), rep_mod 85 n (by omega)]
  have h := t1 (x % 512) (Nat.mod_lt _ (by omega))
  rw [show (x % 512) / 2 % 256 = x / 2 % 256 from by omega, show x % 512 % 256 = x % 256 from by omega] at h
  rw [h, show x / 2 / 256 = x / 256 / 2 from by omega]
  omega
theorem s2_step (n h l : Nat) (hl : l < 256) : s2 (n + 1) (256 * h + l) = 256 * s2 n h + b2 l := by
  unfold s2 b2
  rw [and_split ((256 * h + l) / 4), and_split (256 * h + l), rep_div 51 n (by omega), rep_mod 51 n (by omega)]
  have e := t2 ((256 * h + l) % 1024) (Nat.mod_lt _ (by omega))
  rw [show (256 * h + l) % 1024 / 4 % 256 = (256 * h + l) / 4 % 256 from by omega, show (256 * h + l) % 1024 % 256 = l from by omega] at e
  rw [e, show (256 * h + l) / 4 / 256 = h / 4 from by omega, show (256 * h + l) / 256 = h from by omega, show (256 * h + l) % 256 = l from by omega]
  omega
theorem s3_step (n h l : Nat) (hl : l < 69) (hh : h % 16 < 5) : s3 (n + 1) (256 * h + l) = 256 * s3 n h + b3 l := by
  unfold s3 b3
  rw [and_split, rep_div 15 n (by omega), rep_mod 15 n (by omega)]
  rw [show ((256 * h + l) / 16 + (256 * h + l)) / 256 = h / 16 + h from by omega, show ((256 * h + l) / 16 + (256 * h + l)) % 256 = 16 * (h % 16) + l + l / 16 from by omega,
    t3 (h % 16) (by omega) l hl]

/-- The counts of the bytes, in the bytes' own places. -/
def pops : Nat → Nat → Nat
  | 0, _ => 0
  | n + 1, x => 256 * pops n (x / 256) + cnt (x % 256).testBit 8

theorem two (n x : Nat) : s2 (n + 1) (s1 (n + 1) x) = 256 * s2 n (s1 n (x / 256)) + b2 (b1 (x % 256)) := by
  rw [s1_step, s2_step _ _ _ (small1 _ (Nat.mod_lt _ (by omega)))]
theorem nib (n x : Nat) : s2 n (s1 n x) % 16 < 5 := by
  cases n with
  | zero => simp [s2, rep]
  | succ n =>
    rw [two]
    have := (small2 (x % 256) (Nat.mod_lt _ (by omega))).2
    omega
theorem swar (n x : Nat) : s3 n (s2 n (s1 n x)) = pops n x := by
  induction n generalizing x with
  | zero => simp [s3, rep, pops]
  | succ n ih =>
    rw [two, s3_step _ _ _ (small2 _ (Nat.mod_lt _ (by omega))).1 (nib _ _), ih, byte_pop _ (Nat.mod_lt _ (by omega))]
    rfl

theorem pop_step (n x : Nat) : cnt x.testBit (8 * (n + 1)) = cnt (x % 256).testBit 8 + cnt (x / 256).testBit (8 * n) := by
  rw [show 8 * (n + 1) = 8 + 8 * n from by omega, cnt_add]
  congr 1
  · exact cnt_congr fun i hi => by
      have := Nat.testBit_mod_two_pow x 8 i
      rw [show (2 : Nat) ^ 8 = 256 from rfl] at this
      rw [this]; simp [hi]
  · exact cnt_congr fun i hi => by
      have := Nat.testBit_div_two_pow (n := 8) x i
      rw [show (2 : Nat) ^ 8 = 256 from rfl] at this
      rw [this, Nat.add_comm]

theorem s1_le (n x : Nat) : s1 n x ≤ 2 * rep 85 n := by
  have h1 : x / 2 &&& rep 85 n ≤ rep 85 n := Nat.and_le_right
  have h2 : x &&& rep 85 n ≤ rep 85 n := Nat.and_le_right
  unfold s1; omega
theorem s2_le (n x : Nat) : s2 n x ≤ 2 * rep 51 n := by
  have h1 : x / 4 &&& rep 51 n ≤ rep 51 n := Nat.and_le_right
  have h2 : x &&& rep 51 n ≤ rep 51 n := Nat.and_le_right
  unfold s2; omega

/-- The last three sums. -/
theorem fold8 (x : Nat) : ∃ y, y = pops 8 x ∧ y < 651061555542690058 ∧ (y + y / 256) < 18446744073709551616 ∧
    (let a := y + y / 256; let b := a + a / 65536; let c := b + b / 4294967296; b < 18446744073709551616 ∧ c < 9223372036854775807 ∧ c % 128 = cnt x.testBit 64) := by
  have e : cnt x.testBit 64 = cnt (x % 256).testBit 8 + (cnt (x / 256 % 256).testBit 8 + (cnt (x / 256 / 256 % 256).testBit 8 + (cnt (x / 256 / 256 / 256 % 256).testBit 8 + (cnt (x / 256 / 256 / 256 / 256 % 256).testBit 8 + (cnt (x / 256 / 256 / 256 / 256 / 256 % 256).testBit 8 +
      (cnt (x / 256 / 256 / 256 / 256 / 256 / 256 % 256).testBit 8 + (cnt (x / 256 / 256 / 256 / 256 / 256 / 256 / 256 % 256).testBit 8 + 0))))))) := by
    rw [show 64 = 8 * (7 + 1) from rfl, pop_step, show 8 * 7 = 8 * (6 + 1) from rfl, pop_step, show 8 * 6 = 8 * (5 + 1) from rfl, pop_step, show 8 * 5 = 8 * (4 + 1) from rfl, pop_step, show 8 * 4 = 8 * (3 + 1) from rfl, pop_step,
      show 8 * 3 = 8 * (2 + 1) from rfl, pop_step, show 8 * 2 = 8 * (1 + 1) from rfl, pop_step, show 8 * 1 = 8 * (0 + 1) from rfl, pop_step]
    rfl
  refine ⟨_, rfl, ?_⟩
  rw [e]
  simp only [pops]
  have q0 := cnt_le (x % 256).testBit 8
  have q1 := cnt_le (x / 256 % 256).testBit 8
  have q2 := cnt_le (x / 256 / 256 % 256).testBit 8
  have q3 := cnt_le (x / 256 / 256 / 256 % 256).testBit 8
  have q4 := cnt_le (x / 256 / 256 / 256 / 256 % 256).testBit 8
  have q5 := cnt_le (x / 256 / 256 / 256 / 256 / 256 % 256).testBit 8
  have q6 := cnt_le (x / 256 / 256 / 256 / 256 / 256 / 256 % 256).testBit 8
  have q7 := cnt_le (x / 256 / 256 / 256 / 256 / 256 / 256 / 256 % 256).testBit 8
  generalize cnt (x % 256).testBit 8 = p0 at *
  generalize cnt (x / 256 % 256).testBit 8 = p1 at *
  generalize cnt (x / 256 / 256 % 256).testBit 8 = p2 at *
  generalize cnt (x / 256 / 256 / 256 % 256).testBit 8 = p3 at *
  generalize cnt (x / 256 / 256 / 256 / 256 % 256).testBit 8 = p4 at *
  generalize cnt (x / 256 / 256 / 256 / 256 / 256 % 256).testBit 8 = p5 at *
  generalize cnt (x / 256 / 256 / 256 / 256 / 256 / 256 % 256).testBit 8 = p6 at *
  generalize cnt (x / 256 / 256 / 256 / 256 / 256 / 256 / 256 % 256).testBit 8 = p7 at *
  clear e
  generalize hy : 256 * (256 * (256 * (256 * (256 * (256 * (256 * (256 * 0 + p7) + p6) + p5) + p4) + p3) + p2) + p1) + p0 = y
  have hy1 : y < 651061555542690058 := by omega
  have ha : y + y / 256 = (p0 + p1) + 256 * (p1 + p2) + 65536 * (p2 + p3) + 16777216 * (p3 + p4) + 4294967296 * (p4 + p5) + 1099511627776 * (p5 + p6) + 281474976710656 * (p6 + p7) + 72057594037927936 * p7 := by omega
  refine ⟨hy1, by omega, ?_⟩
  rw [ha]
  clear ha hy hy1
  generalize hA : (p0 + p1) + 256 * (p1 + p2) + 65536 * (p2 + p3) + 16777216 * (p3 + p4) + 4294967296 * (p4 + p5) + 1099511627776 * (p5 + p6) + 281474976710656 * (p6 + p7) + 72057594037927936 * p7 = A
  have hb : A + A / 65536 = (p0 + p1 + p2 + p3) + 256 * (p1 + p2 + p3 + p4) + 65536 * (p2 + p3 + p4 + p5) + 16777216 * (p3 + p4 + p5 + p6) + 4294967296 * (p4 + p5 + p6 + p7) + 1099511627776 * (p5 + p6 + p7) + 281474976710656 * (p6 + p7) + 72057594037927936 * p7 := by omega
  rw [hb]
  clear hb hA
  generalize hB : (p0 + p1 + p2 + p3) + 256 * (p1 + p2 + p3 + p4) + 65536 * (p2 + p3 + p4 + p5) + 16777216 * (p3 + p4 + p5 + p6) + 4294967296 * (p4 + p5 + p6 + p7) + 1099511627776 * (p5 + p6 + p7) + 281474976710656 * (p6 + p7) + 72057594037927936 * p7 = B
  have hc : B / 4294967296 = (p4 + p5 + p6 + p7) + 256 * (p5 + p6 + p7) + 65536 * (p6 + p7) + 16777216 * p7 := by omega
  refine ⟨by omega, by omega, ?_⟩
  rw [hc]
  omega

/-! ### The lowest bit -/
theorem ctz_spec (x : Nat) (h0 : x ≠ 0) (h : x < 18446744073709551616) : ∃ m, x = 2 ^ Lib.ctz 64 x * (2 * m + 1) ∧ Lib.ctz 64 x < 64 := by
  have := Lib.ctzFrom_spec 64 x (by omega) h
  simpa [Lib.ctz, h0] using this

theorem bit_at (c m j : Nat) : (2 ^ c * (2 * m + 1)).testBit j = (decide (j = c) || (decide (c < j) && m.testBit (j - c - 1))) := by
  rw [Nat.testBit_two_pow_mul]
  rcases Nat.lt_trichotomy j c with h | rfl | h
  · simp [show ¬ c ≤ j from by omega, show ¬ j = c from by omega, show ¬ c < j from by omega]
  · simp
  · have e : (2 * m + 1).testBit (j - c) = m.testBit (j - c - 1) := by
      obtain ⟨d, hd⟩ : ∃ d, j - c = d + 1 := ⟨j - c - 1, by omega⟩
      rw [hd, Nat.testBit_succ]
      congr 1
      omega
    simp [show c ≤ j from by omega, show ¬ j = c from by omega, h, e]

theorem cleared (c m : Nat) : (2 ^ c * (2 * m + 1)) &&& (2 ^ c * (2 * m + 1) - 1) = 2 ^ (c + 1) * m := by
  have hp : 0 < 2 ^ c := Nat.two_pow_pos c
  have e0 : 2 ^ c * (2 * m + 1) = 2 ^ (c + 1) * m + 2 ^ c := by rw [Nat.pow_succ, Nat.mul_add, Nat.mul_one, Nat.mul_assoc]
  rw [e0]
  generalize hy : 2 ^ (c + 1) * m + 2 ^ c - 1 = y
  have hlt : 2 ^ c < 2 ^ (c + 1) := by rw [Nat.pow_succ]; omega
  have y0 : y = 2 ^ (c + 1) * m + (2 ^ c - 1) := by omega
  have d1 : (2 ^ (c + 1) * m + 2 ^ c) / 2 ^ (c + 1) = m := by rw [Nat.mul_add_div (by omega), Nat.div_eq_of_lt hlt]; rfl
  have d2 : y / 2 ^ (c + 1) = m := by rw [y0, Nat.mul_add_div (by omega), Nat.div_eq_of_lt (by omega)]; rfl
  have m1 : (2 ^ (c + 1) * m + 2 ^ c) % 2 ^ (c + 1) = 2 ^ c := by rw [Nat.mul_add_mod, Nat.mod_eq_of_lt hlt]
  have m2 : y % 2 ^ (c + 1) = 2 ^ c - 1 := by rw [y0, Nat.mul_add_mod, Nat.mod_eq_of_lt (by omega)]
  have z : 2 ^ c &&& (2 ^ c - 1) = 0 := by
    rw [Nat.and_two_pow_sub_one_eq_mod, Nat.mod_self]
  have h1 := Nat.and_div_two_pow (a := 2 ^ (c + 1) * m + 2 ^ c) (b := y) (n := c + 1)
  have h2 := Nat.and_mod_two_pow (a := 2 ^ (c + 1) * m + 2 ^ c) (b := y) (n := c + 1)
  rw [d1, d2, Nat.and_self] at h1
  rw [m1, m2, z] at h2
  have := Nat.div_add_mod ((2 ^ (c + 1) * m + 2 ^ c) &&& y) (2 ^ (c + 1))
  rw [h1, h2] at this
  omega

/-- The lowest marked place of x, and x without it. -/
theorem lowest (x : Nat) (h0 : x ≠ 0) (h : x < 18446744073709551616) : Lib.ctz 64 x < 64 ∧ x.testBit (Lib.ctz 64 x) = true ∧ (∀ j, j < Lib.ctz 64 x → x.testBit j = false) ∧
    ∀ j, (x &&& (x - 1)).testBit j = (x.testBit j && decide (Lib.ctz 64 x < j)) := by
  obtain ⟨m, hm, hk⟩ := ctz_spec x h0 h
  generalize Lib.ctz 64 x = c at hm hk
  subst hm
  refine ⟨hk, ?_, ?_, ?_⟩
  · rw [bit_at]; simp
  · intro j hj; rw [bit_at]; simp [show ¬ j = c from by omega, show ¬ c < j from by omega]
  · intro j
    rw [cleared, bit_at, Nat.testBit_two_pow_mul]
    rcases Nat.lt_trichotomy j c with h | rfl | h
    · simp [show ¬ c + 1 ≤ j from by omega, show ¬ c < j from by omega]
    · simp [show ¬ j + 1 ≤ j from by omega]
    · simp [show c + 1 ≤ j from by omega, h, show ¬ j = c from by omega, Nat.sub_sub]

/-- A place marked, a place cleared. -/
theorem set_bit (x k j : Nat) : (x ||| 2 ^ k).testBit j = (x.testBit j || decide (j = k)) := by
  rw [Nat.testBit_or, Nat.testBit_two_pow]; congr 1; simp [eq_comm]
theorem clear_bit (x k j : Nat) (hk : k < 64) (hj : j < 64) : (x &&& (18446744073709551615 - 2 ^ k)).testBit j = (x.testBit j && !decide (j = k)) := by
  rw [Nat.testBit_and]
  congr 1
  have h := Nat.testBit_two_pow_sub_succ (x := 2 ^ k) (n := 64) (Nat.pow_lt_pow_right (by omega) hk) j
  rw [show 2 ^ 64 - (2 ^ k + 1) = 18446744073709551615 - 2 ^ k from by omega, Nat.testBit_two_pow] at h
  rw [h]; simp [hj, eq_comm]
theorem low_bits (x k j : Nat) : (x &&& (2 ^ k - 1)).testBit j = (x.testBit j && decide (j < k)) := by
  rw [Nat.testBit_and, Nat.testBit_two_pow_sub_one]
end Go.Proofs.Qxb6629270aDoor
