/-
  THE WALK over FnValueDecodesBackByKey.
-/
import Derived.Test.Qxb6629206aDoorCuts
import Derived.Test.Qxb6629206aDoorUint
import Derived.Test.Qxb6629206aDoorCanon
namespace Go.Proofs.Qxb6629206aDoor
open Go.RowKit
set_option linter.unusedVariables false

/-- A listed table outlives what turns nothing below the heap's old size. -/
theorem tabIs_below {w w' : World} {name : String} {k : IntKind} {zs : List Int} (h : Lib.TabIs Tryd.prog w name k zs) (hb : Below w.heap.size w w') : Lib.TabIs Tryd.prog w' name k zs := by
  unfold Lib.TabIs World.var? at *
  cases hg : Tryd.prog.globalNamed name with
  | none => simp [hg] at h
  | some g =>
    simp only [hg, Option.bind_some] at h ⊢
    have hlt : g < w.heap.size := by
      rcases Nat.lt_or_ge g w.heap.size with h' | h'
      · exact h'
      · rw [Array.getElem?_eq_none h'] at h; simp at h
    rw [hb.block g hlt]
    exact h

theorem value_next (u : Nat) (hu : u < 18446744073709551616) (oc : ByteArray) (a : Option Addr) (n c : Nat) (w : World) (htab : Lib.TabIs Tryd.prog w Tryd.powName .u64 Lib.pow10Tab) :
    Calls Tryd.prog 16 #[.agg (recV u oc (.slice a n c)), .string ⟨#[110, 101, 120, 116]⟩] w fun e w' => e = .returned (.string ⟨(Lib.decDigits u).toArray⟩) ∧ Below w.heap.size w w' := by
  have C := hide (fmt19 u hu _ (Lib.tabIs_alloc htab (.cells (recV u oc (.slice a n c)) 29)))
  clear htab
  simp only [recV] at C ⊢
  go_enter Tryd.func16, Tryd.ntmps16
  go_wp2_with fail
  refine C.out.mono ?_
  rintro e w' ⟨rfl, hb⟩
  go_wp2_with fail
  go_ret
  exact ⟨rfl, ((Below.refl _ _).alloc (Nat.le_refl _) _).trans (hb.mono (by simp))⟩

theorem value_outcome (nx : Int) (oc : ByteArray) (a : Option Addr) (n c : Nat) (w : World) :
    Calls Tryd.prog 16 #[.agg (recV nx oc (.slice a n c)), .string ⟨#[111, 117, 116, 99, 111, 109, 101]⟩] w fun e w' => e = .returned (.string oc) ∧ Below w.heap.size w w' := by
  simp only [recV]
  go_enter Tryd.func16, Tryd.ntmps16
  go_wp2_with fail
  go_ret
  exact ⟨rfl, (Below.refl _ _).alloc (Nat.le_refl _) _⟩

theorem zz_next (u : Nat) (hu : u < 18446744073709551616) (oc : ByteArray) (a : Option Addr) (n c : Nat) (w : World) (htab : Lib.TabIs Tryd.prog w Tryd.powName .u64 Lib.pow10Tab) :
    Calls Tryd.prog 8 #[.agg (recV u oc (.slice a n c)), .string ⟨#[110, 101, 120, 116]⟩] w fun e w' => e = .returned (.string ⟨(Lib.decDigits u).toArray⟩) ∧ Below w.heap.size w w' := by
  have C := hide (value_next u hu oc a n c _ (Lib.tabIs_alloc htab (.cells (recV u oc (.slice a n c)) 29)))
  clear htab
  simp only [recV] at C ⊢
  go_enter Tryd.func8, Tryd.ntmps8
  go_wp2_with fail
  refine C.out.mono ?_
  rintro e w' ⟨rfl, hb⟩
  go_wp2_with fail
  go_ret
  exact ⟨rfl, ((Below.refl _ _).alloc (Nat.le_refl _) _).trans (hb.mono (by simp))⟩

theorem zz_outcome (nx : Int) (oc : ByteArray) (a : Option Addr) (n c : Nat) (w : World) :
    Calls Tryd.prog 8 #[.agg (recV nx oc (.slice a n c)), .string ⟨#[111, 117, 116, 99, 111, 109, 101]⟩] w fun e w' => e = .returned (.string oc) ∧ Below w.heap.size w w' := by
  have C := fun W => hide (value_outcome nx oc a n c W)
  have HC := hide C; clear C
  simp only [recV] at HC ⊢
  go_enter Tryd.func8, Tryd.ntmps8
  go_wp2_with fail
  refine ((HC.out _).out).mono ?_
  rintro e w' ⟨rfl, hb⟩
  go_wp2_with fail
  go_ret
  exact ⟨rfl, ((Below.refl _ _).alloc (Nat.le_refl _) _).trans (hb.mono (by simp))⟩


set_option maxRecDepth 100000 in
set_option maxHeartbeats 2000000 in
theorem key_other (key : ByteArray) (nx : Int) (oc : ByteArray) (a : Option Addr) (n c : Nat) (w : World) (R G S : Nat → ByteArray) (hk : key.size ≤ 9223372036854775807) (ho : oc.size ≤ 9223372036854775807) (hn0 : n ≤ 9223372036854775807) (hA : Bs w a n R G S) (k1 : (key.toList == [110, 101, 120, 116]) = false) (k2 : (key.toList == [111, 117, 116, 99, 111, 109, 101]) = false) (k3 : (key.toList == [98, 114, 97, 110, 99, 104, 101, 115]) = false) :
    Calls Tryd.prog 3 #[.string key, .int .u64 nx, .string oc, .slice a n c] w fun e w' => e = .returned (.bool true) ∧ Below w.heap.size w w' := by
  have H5 := hide (bytes5 key nx oc a n c w R G S hk ho hn0 hA)
  have HA := hide hA; clear hA
  go_enter Tryd.func3, Tryd.ntmps3
  go_wp2_with fail
  refine H5.out.mono ?_
  rintro e w' ⟨⟨r, rfl, hr⟩, hw⟩
  subst hw
  cases r
  · clear hr
    go_wp2_with fail
    go_ret
    exact ⟨rfl, Below.refl _ _⟩
  have hs := hr rfl
  clear hr H5
  have hn : n ≤ 1048576 := by omega
  have H6 := hide (size6 key oc a none n c 0 0 w' R G S (fun _ => ByteArray.empty) (fun _ => ByteArray.empty) (fun _ => ByteArray.empty) (by omega) (by omega) hn (by omega) HA.out ⟨fun h0 => absurd h0 (Nat.lt_irrefl _), fun i hi => absurd hi (Nat.not_lt_zero _)⟩ (by omega) (by simp [tot]))
  have htt : tot (sz R G S) n ≤ 2097152 := by omega
  clear hs
  go_wp2_with fail
  refine H6.out.mono ?_
  rintro e w' ⟨⟨r, rfl⟩, hw⟩
  subst hw
  cases r
  · go_wp2_with fail
    go_ret
    exact ⟨rfl, Below.refl _ _⟩
  clear H6
  go_wp2_with fail
  go_ret
  exact ⟨rfl, Below.refl _ _⟩

set_option maxRecDepth 100000 in
set_option maxHeartbeats 2000000 in
theorem key_next (nx : Int) (oc : ByteArray) (a : Option Addr) (n c : Nat) (w : World) (R G S : Nat → ByteArray) (ho : oc.size ≤ 9223372036854775807) (hn0 : n ≤ 9223372036854775807) (hA : Bs w a n R G S) (u : Nat) (hu : u < 18446744073709551616) (hnx : nx = u) (htab : Lib.TabIs Tryd.prog w Tryd.powName .u64 Lib.pow10Tab) :
    Calls Tryd.prog 3 #[.string ⟨#[110, 101, 120, 116]⟩, .int .u64 nx, .string oc, .slice a n c] w fun e w' => e = .returned (.bool true) ∧ Below w.heap.size w w' := by
  subst hnx
  have hk : (ByteArray.mk #[110, 101, 120, 116]).size ≤ 9223372036854775807 := by show 4 ≤ _; omega
  have H5 := hide (bytes5 ⟨#[110, 101, 120, 116]⟩ u oc a n c w R G S hk ho hn0 hA)
  have HA := hide hA; clear hA
  have HT := hide htab; clear htab
  go_enter Tryd.func3, Tryd.ntmps3
  go_wp2_with fail
  refine H5.out.mono ?_
  rintro e w' ⟨⟨r, rfl, hr⟩, hw⟩
  subst hw
  cases r
  · clear hr
    go_wp2_with fail
    go_ret
    exact ⟨rfl, Below.refl _ _⟩
  have hs := hr rfl
  clear hr H5
  have hn : n ≤ 1048576 := by omega
  have H6 := hide (size6 ⟨#[110, 101, 120, 116]⟩ oc a none n c 0 0 w' R G S (fun _ => ByteArray.empty) (fun _ => ByteArray.empty) (fun _ => ByteArray.empty) (by show 4 ≤ _; omega) (by omega) hn (by omega) HA.out ⟨fun h0 => absurd h0 (Nat.lt_irrefl _), fun i hi => absurd hi (Nat.not_lt_zero _)⟩ (by omega) (by simp [tot]))
  have htt : tot (sz R G S) n ≤ 2097152 := by omega
  clear hs
  go_wp2_with fail
  refine H6.out.mono ?_
  rintro e w' ⟨⟨r, rfl⟩, hw⟩
  subst hw
  cases r
  · go_wp2_with fail
    go_ret
    exact ⟨rfl, Below.refl _ _⟩
  clear H6
  go_wp2_with fail
  refine (build7 u oc a n c _ R G S (by omega) HA.out).mono ?_
  rintro e w1 ⟨rfl, hb1, hr1⟩
  simp only [recV]
  have HB1 := hide hb1; have HR1 := hide hr1; clear hb1 hr1
  go_wp2_with fail
  generalize hW2 : World.alloc w1 _ = W2
  have hb2 : Below w1.heap.size w1 W2 := by rw [← hW2]; exact (Below.refl _ _).alloc (Nat.le_refl _) _
  clear hW2
  have HB2 := hide (HB1.out.trans (hb2.mono HB1.out.size))
  have C8 := hide (zz_next u hu oc (some ⟨w'.heap.size + 1, 0, none⟩) n n W2 (tabIs_below HT.out HB2.out))
  have C9 := fun W => hide (canon_dec u hu W)
  have HC9 := hide C9; clear C9
  simp only [recV] at C8
  refine C8.out.mono ?_
  rintro e w3 ⟨rfl, hb3⟩
  have HB3 := hide (HB2.out.trans (hb3.mono HB2.out.size)); clear hb3
  generalize hD : (ByteArray.mk (Lib.decDigits u).toArray) = dd at HC9 ⊢
  clear hD
  go_wp2_with fail
  refine ((HC9.out _).out).mono ?_
  rintro e w4 ⟨rfl, hw4⟩
  subst hw4
  go_wp2_with fail
  go_ret
  exact ⟨rfl, HB3.out⟩

set_option maxRecDepth 100000 in
set_option maxHeartbeats 2000000 in
theorem key_outcome (nx : Int) (oc : ByteArray) (a : Option Addr) (n c : Nat) (w : World) (R G S : Nat → ByteArray) (ho : oc.size ≤ 9223372036854775807) (hn0 : n ≤ 9223372036854775807) (hA : Bs w a n R G S) :
    Calls Tryd.prog 3 #[.string ⟨#[111, 117, 116, 99, 111, 109, 101]⟩, .int .u64 nx, .string oc, .slice a n c] w fun e w' => e = .returned (.bool true) ∧ Below w.heap.size w w' := by
  have hk : (ByteArray.mk #[111, 117, 116, 99, 111, 109, 101]).size ≤ 9223372036854775807 := by show 7 ≤ _; omega
  have H5 := hide (bytes5 ⟨#[111, 117, 116, 99, 111, 109, 101]⟩ nx oc a n c w R G S hk ho hn0 hA)
  have HA := hide hA; clear hA
  go_enter Tryd.func3, Tryd.ntmps3
  go_wp2_with fail
  refine H5.out.mono ?_
  rintro e w' ⟨⟨r, rfl, hr⟩, hw⟩
  subst hw
  cases r
  · clear hr
    go_wp2_with fail
    go_ret
    exact ⟨rfl, Below.refl _ _⟩
  have hs := hr rfl
  clear hr H5
  have hn : n ≤ 1048576 := by omega
  have H6 := hide (size6 ⟨#[111, 117, 116, 99, 111, 109, 101]⟩ oc a none n c 0 0 w' R G S (fun _ => ByteArray.empty) (fun _ => ByteArray.empty) (fun _ => ByteArray.empty) (by show 7 ≤ _; omega) (by omega) hn (by omega) HA.out ⟨fun h0 => absurd h0 (Nat.lt_irrefl _), fun i hi => absurd hi (Nat.not_lt_zero _)⟩ (by omega) (by simp [tot]))
  have htt : tot (sz R G S) n ≤ 2097152 := by omega
  clear hs
  go_wp2_with fail
  refine H6.out.mono ?_
  rintro e w' ⟨⟨r, rfl⟩, hw⟩
  subst hw
  cases r
  · go_wp2_with fail
    go_ret
    exact ⟨rfl, Below.refl _ _⟩
  clear H6
  go_wp2_with fail
  refine (build7 nx oc a n c _ R G S (by omega) HA.out).mono ?_
  rintro e w1 ⟨rfl, hb1, hr1⟩
  simp only [recV]
  have HB1 := hide hb1; have HR1 := hide hr1; clear hb1 hr1
  go_wp2_with fail
  generalize hW2 : World.alloc w1 _ = W2
  have hb2 : Below w1.heap.size w1 W2 := by rw [← hW2]; exact (Below.refl _ _).alloc (Nat.le_refl _) _
  clear hW2
  have HB2 := hide (HB1.out.trans (hb2.mono HB1.out.size))
  have C8 := hide (zz_outcome nx oc (some ⟨w'.heap.size + 1, 0, none⟩) n n W2)
  simp only [recV] at C8
  refine C8.out.mono ?_
  rintro e w3 ⟨rfl, hb3⟩
  have HB3 := hide (HB2.out.trans (hb3.mono HB2.out.size)); clear hb3
  go_wp2_with fail
  go_ret
  exact ⟨rfl, HB3.out⟩

theorem dec12_zero (a : Option Addr) (c : Nat) (w : World) :
    Calls Tryd.prog 12 #[.string ⟨#[]⟩, .slice a 0 c] w fun e w' => e = .returned (.bool true) ∧ Below w.heap.size w w' := by
  go_enter Tryd.func12, Tryd.ntmps12
  go_wp2_with fail
  go_ret
  exact ⟨rfl, Below.refl _ _⟩

set_option maxRecDepth 100000 in
set_option maxHeartbeats 2000000 in
theorem key_branches (nx : Int) (oc : ByteArray) (a : Option Addr) (n c : Nat) (w : World) (R G S : Nat → ByteArray) (ho : oc.size ≤ 9223372036854775807) (hn0 : n ≤ 9223372036854775807) (hA : Bs w a n R G S) :
    Calls Tryd.prog 3 #[.string ⟨#[98, 114, 97, 110, 99, 104, 101, 115]⟩, .int .u64 nx, .string oc, .slice a n c] w fun e w' => e = .returned (.bool true) ∧ Below w.heap.size w w' := by
  have hk : (ByteArray.mk #[98, 114, 97, 110, 99, 104, 101, 115]).size ≤ 9223372036854775807 := by show 8 ≤ _; omega
  have H5 := hide (bytes5 ⟨#[98, 114, 97, 110, 99, 104, 101, 115]⟩ nx oc a n c w R G S hk ho hn0 hA)
  have HA := hide hA; clear hA
  go_enter Tryd.func3, Tryd.ntmps3
  go_wp2_with fail
  refine H5.out.mono ?_
  rintro e w' ⟨⟨r, rfl, hr⟩, hw⟩
  subst hw
  cases r
  · clear hr
    go_wp2_with fail
    go_ret
    exact ⟨rfl, Below.refl _ _⟩
  have hs := hr rfl
  clear hr H5
  have hn : n ≤ 1048576 := by omega
  have H6 := hide (size6 ⟨#[98, 114, 97, 110, 99, 104, 101, 115]⟩ oc a none n c 0 0 w' R G S (fun _ => ByteArray.empty) (fun _ => ByteArray.empty) (fun _ => ByteArray.empty) (by show 8 ≤ _; omega) (by omega) hn (by omega) HA.out ⟨fun h0 => absurd h0 (Nat.lt_irrefl _), fun i hi => absurd hi (Nat.not_lt_zero _)⟩ (by omega) (by simp [tot]))
  have htt : tot (sz R G S) n ≤ 2097152 := by omega
  clear hs
  go_wp2_with fail
  refine H6.out.mono ?_
  rintro e w' ⟨⟨r, rfl⟩, hw⟩
  subst hw
  cases r
  · go_wp2_with fail
    go_ret
    exact ⟨rfl, Below.refl _ _⟩
  clear H6
  go_wp2_with fail
  refine (build7 nx oc a n c _ R G S (by omega) HA.out).mono ?_
  rintro e w1 ⟨rfl, hb1, hr1⟩
  simp only [recV]
  have HB1 := hide hb1; have HR1 := hide hr1; clear hb1 hr1
  go_wp2_with fail
  generalize hW2 : World.alloc w1 _ = W2
  have hb2 : Below w1.heap.size w1 W2 := by rw [← hW2]; exact (Below.refl _ _).alloc (Nat.le_refl _) _
  clear hW2
  have HB2 := hide (HB1.out.trans (hb2.mono HB1.out.size))
  have C8 := hide (zz8 nx oc (w'.heap.size + 1) n W2 R G S (by omega) htt (HR1.out.below hb2 HR1.out.lt))
  simp only [recV] at C8
  have hps := pay_size R G S n
  have hjl := jlen_le R G S n
  have hzo : (pay R G S n).size ≤ 16777216 := by omega
  obtain ⟨out, hout⟩ : ∃ out, pay R G S n = out := ⟨_, rfl⟩
  rw [hout] at C8 hps hzo
  obtain ⟨lc, hlc⟩ : ∃ lc, jlen R G S n = lc := ⟨_, rfl⟩
  rw [hlc] at hps
  have HOUT := hide hout; have HLC := hide hlc; have HPS := hide hps; clear hout hlc hps hjl
  refine C8.out.mono ?_
  rintro e w3 ⟨rfl, hb3⟩
  have HB3 := hide (HB2.out.trans (hb3.mono HB2.out.size)); clear hb3
  have C10 := hide (jl10 a n c w3 R G S (by omega) htt (HA.out.below HB3.out))
  have e1 : ((out.size : Int) != (lc : Int)) = false := by rw [HPS.out]; simp
  go_wp2_with fail
  refine C10.out.mono ?_
  rintro e w4 ⟨rfl, hb4⟩
  rw [HLC.out]
  have HB4 := hide (HB3.out.trans (hb4.mono HB3.out.size)); clear hb4
  have C11 := hide (any11 a n c w4 R G S (by omega) htt (HA.out.below HB4.out))
  go_wp2_with fail
  refine C11.out.mono ?_
  rintro e w5 ⟨⟨r, rfl, hr⟩, hw5⟩
  subst hw5
  cases r with
  | true =>
    clear hr
    go_wp2_with fail
    go_ret
    exact ⟨rfl, HB4.out⟩
  | false =>
    have hno := hr rfl
    clear hr
    have hcp := cuts_pay R G S n htt hno
    rw [HOUT.out] at hcp
    have C12 : Hid (Calls Tryd.prog 12 #[.string out, .slice a n c] w5 fun e w' => e = .returned (.bool true) ∧ Below w5.heap.size w5 w') := by
      by_cases h0 : 0 < n
      · exact dec12 out a n c w5 R G S _ (by omega) h0 hzo (HA.out.below HB4.out) hcp
      · have hn00 : n = 0 := by omega
        have ho0 : out = ⟨#[]⟩ := by rw [← HOUT.out, hn00]; rfl
        rw [hn00, ho0]
        exact dec12_zero a c w5
    clear hcp hno
    go_wp2_with fail
    refine C12.out.mono ?_
    rintro e w6 ⟨rfl, hb6⟩
    go_wp2_with fail
    go_ret
    exact ⟨rfl, HB4.out.trans (hb6.mono HB4.out.size)⟩


theorem key_eq {key : ByteArray} {l : List UInt8} (h : ¬ (key.toList == l) = false) : key = ⟨l.toArray⟩ := by
  have h' : key.toList = l := by simpa using h
  apply ext_list
  rw [← h', ByteArray.toList_eq]

/-- THE WALK, at every input. -/
theorem key_walk (key : ByteArray) (nx : Int) (oc : ByteArray) (a : Option Addr) (n c : Nat) (w : World) (R G S : Nat → ByteArray) (hk : key.size ≤ 9223372036854775807) (ho : oc.size ≤ 9223372036854775807) (hn0 : n ≤ 9223372036854775807)
    (hnx : 0 ≤ nx ∧ nx < 18446744073709551616) (hA : Bs w a n R G S) (htab : Lib.TabIs Tryd.prog w Tryd.powName .u64 Lib.pow10Tab) :
    Calls Tryd.prog 3 #[.string key, .int .u64 nx, .string oc, .slice a n c] w fun e w' => e = .returned (.bool true) ∧ Below w.heap.size w w' := by
  by_cases k1 : (key.toList == [110, 101, 120, 116]) = false
  · by_cases k2 : (key.toList == [111, 117, 116, 99, 111, 109, 101]) = false
    · by_cases k3 : (key.toList == [98, 114, 97, 110, 99, 104, 101, 115]) = false
      · exact key_other key nx oc a n c w R G S hk ho hn0 hA k1 k2 k3
      · rw [key_eq k3]
        exact key_branches nx oc a n c w R G S ho hn0 hA
    · rw [key_eq k2]
      exact key_outcome nx oc a n c w R G S ho hn0 hA
  · rw [key_eq k1]
    exact key_next nx oc a n c w R G S ho hn0 hA nx.toNat (by omega) (by omega) htab

end Go.Proofs.Qxb6629206aDoor
