/-
  THE ARGUMENT OPENED: a slice of entries, as the walks are told of it.
-/
import Derived.Test.Qxb6629270aDoorGates
import Derived.ProofKit
import Derived.OpenShut
import Derived.Deep.Slices
import Derived.Deep.Fields
namespace Go.Proofs.Qxb6629270aDoor
open Go.RowKit Go.Deep Go.ChangeShapes Go.WideShapes

section
variable {H : Type} {enc : TypeId × Value → H} {P : Program} {w : World} {base : Nat} {spare : Nat → Bool} {held : Bool}

/-- A SLICE OF STRUCTS WHOSE FIELDS ARE ONE CELL EACH: element i's field j lies at 'off + i * size + j', and reads by its own type. -/
theorem open_rows {t e : TypeId} {fs : Array Field} {fuel : Nat} {a : Option Addr} {len cap : Nat} {x : DataW H × List MemPlace} (ht : P.underlying t = some (.slice e)) (hs : P.underlying e = some (.struct fs))
    (hone : ∀ (i : Nat) (f : Field), fs[i]? = some f → f.offset = i ∧ P.cellsOf f.type = 1) (hC : P.cellsOf e = fs.size) (hpos : 0 < fs.size) (h : DataW.trod enc P w base spare held fuel t [.slice a len cap] = some x) :
    (a = none ∧ len = 0 ∧ cap = 0) ∨
    (len ≤ cap ∧ cap ≤ maxLen ∧ a ≠ none ∧ (0 < len → ∃ b off n, a = some ⟨b, off, none⟩ ∧ ∀ i, i < len → ∀ (j : Nat) (f : Field), fs[j]? = some f →
      ∃ v y, w.cell? ⟨b, off + i * fs.size + j, none⟩ = some v ∧ DataW.trod enc P w base spare held n f.type [v] = some y)) := by
  rcases open_slice ht h with ⟨hcs, _⟩ | ⟨ad, len', cap', m, n, D, Pl, hcs, hb, hl, hm, hmm, _, hx⟩
  · simp only [List.cons.injEq, Value.slice.injEq, and_true] at hcs
    exact .inl hcs
  · simp only [List.cons.injEq, Value.slice.injEq, and_true] at hcs
    obtain ⟨rfl, rfl, rfl⟩ := hcs
    right
    refine ⟨hl, hm, by simp, fun h0 => ?_⟩
    have hle : len ≤ m := by rw [hmm]; split <;> omega
    rw [hC] at hx
    have hspot : ad.spot = none := by
      obtain ⟨cs', hc, _⟩ := hx 0 (by omega)
      obtain ⟨_, hlen, hcell⟩ := World.cells?_some hc
      have h0 := hcell 0 hpos
      rw [List.getElem?_eq_getElem (by omega)] at h0
      have := World.cell?_spot h0
      simpa [Addr.add] using this
    obtain ⟨b, off, spot⟩ := ad
    simp only at hspot
    subst hspot
    refine ⟨b, off, ?_⟩
    have hall : ∀ i, i < len → ∃ n, ∀ (j : Nat) (f : Field), fs[j]? = some f → ∃ v y, w.cell? ⟨b, off + i * fs.size + j, none⟩ = some v ∧ DataW.trod enc P w base spare held n f.type [v] = some y := by
      intro i hi
      obtain ⟨cs', hc, htr⟩ := hx i (by omega)
      obtain ⟨_, hlen, hcell⟩ := World.cells?_some hc
      obtain ⟨xs, n', _, _, _, hxl, hf⟩ := DataW.trod_struct hs htr
      refine ⟨n', fun j f hj => ?_⟩
      have hlt : j < fs.size := (Array.getElem?_eq_some_iff.1 hj).1
      obtain ⟨ho, hc1⟩ := hone j f hj
      have g := hf j f hj
      rw [ho, hc1, take1_drop cs' j undef (by omega), List.getElem?_eq_getElem (by omega)] at g
      refine ⟨cs'.getD j undef, xs[j], ?_, g⟩
      have := hcell j hlt
      rw [add_plain, add_plain, List.getElem?_eq_getElem (by omega)] at this
      rw [this]
      simp [List.getD, List.getElem?_eq_getElem (show j < cs'.length by omega)]
    obtain ⟨N, hN⟩ := fuel_lt (n := len) (q := fun i m => ∀ (j : Nat) (f : Field), fs[j]? = some f → ∃ v y, w.cell? ⟨b, off + i * fs.size + j, none⟩ = some v ∧ DataW.trod enc P w base spare held m f.type [v] = some y)
      (fun i a b hab hq j f hj => let ⟨v, y, h1, h2⟩ := hq j f hj; ⟨v, y, h1, DataW.trod_le hab h2⟩) hall
    exact ⟨N, rfl, hN⟩

end

theorem one_int {H : Type} {enc : TypeId × Value → H} {W : World} {base : Nat} {sp : Nat → Bool} {hd : Bool} {n : Nat} {v : Value} {y : DataW H × List MemPlace} (h : DataW.trod enc Tryd.prog W base sp hd n 3 [v] = some y) :
    ∃ z : Int, v = .int .i64 z ∧ -9223372036854775808 ≤ z ∧ z ≤ 9223372036854775807 := by
  obtain ⟨z, hs, _, hl⟩ := DataW.trod_int Tryd.underlying3 h
  simp only [List.cons.injEq, and_true] at hs
  have := bounds_i64 hl
  exact ⟨z, hs, by omega, by omega⟩

theorem one_list {H : Type} {enc : TypeId × Value → H} {W : World} {base : Nat} {sp : Nat → Bool} {hd : Bool} {n : Nat} {v : Value} {y : DataW H × List MemPlace} (h : DataW.trod enc Tryd.prog W base sp hd n 36 [v] = some y) :
    ∃ x m c l, v = .slice x m c ∧ In W x m l ∧ l.length ≤ 9223372036854775807 := by
  rcases open_ints Tryd.underlying36 Tryd.underlying21 (by kernel_rfl) h with ⟨hs, _⟩ | ⟨a, len, cap, zs, hs, _, hl, hm, hz, _, hc, _⟩
  · simp only [List.cons.injEq, and_true] at hs
    exact ⟨none, 0, 0, [], hs, ⟨rfl, fun h => absurd h (Nat.lt_irrefl _)⟩, by simp⟩
  · simp only [List.cons.injEq, and_true] at hs
    unfold maxLen at hm
    have hzl : len ≤ zs.length := by rw [hz]; split <;> omega
    have htl : (zs.take len).length = len := by simp; omega
    refine ⟨some a, len, cap, zs.take len, hs, ⟨htl.symm, fun h0 => ?_⟩, by omega⟩
    have hspot : a.spot = none := by
      have := World.cell?_spot (hc 0 (by omega))
      simpa [Addr.add] using this
    obtain ⟨b, off, spot⟩ := a
    simp only at hspot
    subst hspot
    refine ⟨b, off, rfl, fun k hk => ?_⟩
    have := hc k (by omega)
    rw [add_plain] at this
    rw [this]
    congr 2
    simp [List.getD, hk]

/-- WHAT THE WALKS ARE TOLD, out of the reading of the argument. -/
theorem es_of {H : Type} {enc : TypeId × Value → H} {W : World} {base : Nat} {sp : Nat → Bool} {hd : Bool} {fuel : Nat} {a : Option Addr} {len cap : Nat} {x : DataW H × List MemPlace}
    (h : DataW.trod enc Tryd.prog W base sp hd fuel 22 [.slice a len cap] = some x) :
    ∃ N L, Es W a len N L ∧ Zs len N L := by
  have hnone : ∀ a, Es W a 0 (fun _ => 0) (fun _ => []) ∧ Zs 0 (fun _ => 0) (fun _ => []) := fun a => ⟨Es.zero _ _ _ _, by omega, fun i hi => absurd hi (Nat.not_lt_zero _)⟩
  rcases open_rows Tryd.underlying22 Tryd.underlying38 (hone_of (by kernel_rfl)) (by kernel_rfl) (by decide) h with ⟨rfl, rfl, rfl⟩ | ⟨hl, hm, hne, hrow⟩
  · exact ⟨_, _, hnone _⟩
  · unfold maxLen at hm
    by_cases h0 : 0 < len
    · obtain ⟨b, off, n, rfl, hcell⟩ := hrow h0
      have hall : ∀ i, i < len → ∃ r : Int × List Int, (∃ x m c, W.cell? ⟨b, off + i * 2, none⟩ = some (.int .i64 r.1) ∧ W.cell? ⟨b, off + i * 2 + 1, none⟩ = some (.slice x m c) ∧ In W x m r.2) ∧
          r.2.length ≤ 9223372036854775807 ∧ -9223372036854775808 ≤ r.1 ∧ r.1 ≤ 9223372036854775807 := by
        intro i hi
        obtain ⟨v0, y0, c0, t0⟩ := hcell i hi 0 _ rfl
        obtain ⟨v1, y1, c1, t1⟩ := hcell i hi 1 _ rfl
        obtain ⟨z, rfl, z0, z1⟩ := one_int t0
        obtain ⟨x, m, c, l, rfl, hin, hlen⟩ := one_list t1
        exact ⟨(z, l), ⟨x, m, c, c0, c1, hin⟩, hlen, z0, z1⟩
      obtain ⟨F, hF⟩ := choose_lt hall
      exact ⟨fun i => (F i).1, fun i => (F i).2, ⟨fun _ => ⟨b, off, rfl, fun i hi => (hF i hi).1⟩⟩, by omega, fun i hi => (hF i hi).2⟩
    · obtain rfl : len = 0 := by omega
      exact ⟨_, _, hnone _⟩

end Go.Proofs.Qxb6629270aDoor
