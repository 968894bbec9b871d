/-
  THE ARGUMENT OPENED: a slice of references, as the walks are told of it.
-/
import Derived.Test.Qxb6629165aGates
import Derived.ProofKit
import Derived.OpenShut
import Derived.Deep.Slices
import Derived.Deep.Fields
namespace Go.Proofs.Qxb6629165a
open Go.RowKit Go.Deep Go.ChangeShapes Go.WideShapes

section
variable {H : Type} {enc : TypeId × Value → H} {P : Program} {w : World} {base : Nat} {spare : Nat → Bool} {held : Bool}

/-- A SLICE OF STRUCTS WHOSE FIELDS ARE ONE CELL EACH: element i's field j lies at 'off + i * size + j', and reads by its own type. -/
theorem open_rows {t e : TypeId} {fs : Array Field} {fuel : Nat} {a : Option Addr} {len cap : Nat} {x : DataW H × List MemPlace} (ht : P.underlying t = some (.slice e)) (hs : P.underlying e = some (.struct fs))
    (hone : ∀ (i : Nat) (f : Field), fs[i]? = some f → f.offset = i ∧ P.cellsOf f.type = 1) (hC : P.cellsOf e = fs.size) (hpos : 0 < fs.size) (h : DataW.trod enc P w base spare held fuel t [.slice a len cap] = some x) :
    (a = none ∧ len = 0 ∧ cap = 0) ∨
    (len ≤ cap ∧ cap ≤ maxLen ∧ a ≠ none ∧ (0 < len → ∃ b off n, a = some ⟨b, off, none⟩ ∧ ∀ i, i < len → ∀ (j : Nat) (f : Field), fs[j]? = some f →
      ∃ v y, w.cell? ⟨b, off + i * fs.size + j, none⟩ = some v ∧ DataW.trod enc P w base spare held n f.type [v] = some y)) := by
  rcases open_slice ht h with ⟨hcs, _⟩ | ⟨ad, len', cap', m, n, D, Pl, hcs, hb, hl, hm, hmm, _, hx⟩
  · simp only [List.cons.injEq, Value.slice.injEq, and_true] at hcs
    exact .inl hcs
  · simp only [List.cons.injEq, Value.slice.injEq, and_true] at hcs
    obtain ⟨rfl, rfl, rfl⟩ := hcs
    right
    refine ⟨hl, hm, by simp, fun h0 => ?_⟩
    have hle : len ≤ m := by rw [hmm]; split <;> omega
    rw [hC] at hx
    have hspot : ad.spot = none := by
      obtain ⟨cs', hc, _⟩ := hx 0 (by omega)
      obtain ⟨_, hlen, hcell⟩ := World.cells?_some hc
      have h0 := hcell 0 hpos
      rw [List.getElem?_eq_getElem (by omega)] at h0
      have := World.cell?_spot h0
      simpa [Addr.add] using this
    obtain ⟨b, off, spot⟩ := ad
    simp only at hspot
    subst hspot
    refine ⟨b, off, ?_⟩
    have hall : ∀ i, i < len → ∃ n, ∀ (j : Nat) (f : Field), fs[j]? = some f → ∃ v y, w.cell? ⟨b, off + i * fs.size + j, none⟩ = some v ∧ DataW.trod enc P w base spare held n f.type [v] = some y := by
      intro i hi
      obtain ⟨cs', hc, htr⟩ := hx i (by omega)
      obtain ⟨_, hlen, hcell⟩ := World.cells?_some hc
      obtain ⟨xs, n', _, _, _, hxl, hf⟩ := DataW.trod_struct hs htr
      refine ⟨n', fun j f hj => ?_⟩
      have hlt : j < fs.size := (Array.getElem?_eq_some_iff.1 hj).1
      obtain ⟨ho, hc1⟩ := hone j f hj
      have g := hf j f hj
      rw [ho, hc1, take1_drop cs' j undef (by omega), List.getElem?_eq_getElem (by omega)] at g
      refine ⟨cs'.getD j undef, xs[j], ?_, g⟩
      have := hcell j hlt
      rw [add_plain, add_plain, List.getElem?_eq_getElem (by omega)] at this
      rw [this]
      simp [List.getD, List.getElem?_eq_getElem (show j < cs'.length by omega)]
    obtain ⟨N, hN⟩ := fuel_lt (n := len) (q := fun i m => ∀ (j : Nat) (f : Field), fs[j]? = some f → ∃ v y, w.cell? ⟨b, off + i * fs.size + j, none⟩ = some v ∧ DataW.trod enc P w base spare held m f.type [v] = some y)
      (fun i a b hab hq j f hj => let ⟨v, y, h1, h2⟩ := hq j f hj; ⟨v, y, h1, DataW.trod_le hab h2⟩) hall
    exact ⟨N, rfl, hN⟩

end

theorem one_string {H : Type} {enc : TypeId × Value → H} {W : World} {base : Nat} {sp : Nat → Bool} {hd : Bool} {n : Nat} {v : Value} {y : DataW H × List MemPlace} (h : DataW.trod enc Try.prog W base sp hd n 9 [v] = some y) :
    ∃ s : ByteArray, v = .string s ∧ s.size ≤ 9223372036854775807 := by
  obtain ⟨s, hs, _, hl⟩ := DataW.trod_string Try.underlying9 h
  simp only [List.cons.injEq, and_true] at hs
  exact ⟨s, hs, by unfold maxLen at hl; omega⟩

theorem cells4 : Try.prog.cellsOf 4 = 1 := by kernel_rfl

theorem one_flag {H : Type} {enc : TypeId × Value → H} {W : World} {base : Nat} {sp : Nat → Bool} {hd : Bool} {n : Nat} {v : Value} {y : DataW H × List MemPlace} (h : DataW.trod enc Try.prog W base sp hd n 45 [v] = some y) :
    ∃ (p : Option Addr) (b : Bool), v = .pointer p ∧ ∀ q, p = some q → W.cell? q = some (.bool b) ∧ q.block < W.heap.size := by
  rcases DataW.trod_pointer Try.underlying45 h with ⟨hv, _⟩ | ⟨q, cs', z, m, _, hv, _, hc, htr⟩
  · simp only [List.cons.injEq, and_true] at hv
    exact ⟨none, false, hv, fun q hq => nomatch hq⟩
  · simp only [List.cons.injEq, and_true] at hv
    rw [cells4] at hc
    obtain ⟨b, hb, _⟩ := DataW.trod_bool Try.underlying4 htr
    subst hb
    have hcell := cell_of_cells?_one hc
    refine ⟨some q, b, hv, fun q' hq => ?_⟩
    obtain rfl := Option.some.inj hq
    exact ⟨hcell, World.block_lt_of_cell? W _ hcell⟩

/-- WHAT THE WALKS ARE TOLD, out of the reading of the argument. -/
theorem view_of {H : Type} {enc : TypeId × Value → H} {W : World} {base : Nat} {sp : Nat → Bool} {hd : Bool} {fuel : Nat} {a : Option Addr} {len cap : Nat} {x : DataW H × List MemPlace}
    (h : DataW.trod enc Try.prog W base sp hd fuel 22 [.slice a len cap] = some x) :
    ∃ S C D cb db, View W a len S C D cb db ∧ len ≤ cap ∧ cap ≤ 9223372036854775807 := by
  rcases open_rows Try.underlying22 Try.underlying47 (hone_of (by kernel_rfl)) (by kernel_rfl) (by decide) h with ⟨rfl, rfl, rfl⟩ | ⟨hl, hm, hne, hrow⟩
  · exact ⟨fun _ _ => ByteArray.empty, fun _ => none, fun _ => none, fun _ => false, fun _ => false, ⟨fun _ => rfl, fun h0 => absurd h0 (Nat.lt_irrefl _)⟩, Nat.le_refl _, by omega⟩
  · unfold maxLen at hm
    by_cases h0 : 0 < len
    · obtain ⟨b, off, n, rfl, hcell⟩ := hrow h0
      have hall : ∀ i, i < len → ∃ r : (ByteArray × ByteArray × ByteArray × ByteArray) × (Option Addr × Bool) × (Option Addr × Bool),
          W.cell? ⟨b, off + i * 6, none⟩ = some (.string r.1.1) ∧ W.cell? ⟨b, off + i * 6 + 1, none⟩ = some (.string r.1.2.1) ∧ W.cell? ⟨b, off + i * 6 + 2, none⟩ = some (.string r.1.2.2.1) ∧ W.cell? ⟨b, off + i * 6 + 3, none⟩ = some (.string r.1.2.2.2) ∧
          W.cell? ⟨b, off + i * 6 + 4, none⟩ = some (.pointer r.2.1.1) ∧ W.cell? ⟨b, off + i * 6 + 5, none⟩ = some (.pointer r.2.2.1) ∧
          (r.1.1.size ≤ 9223372036854775807 ∧ r.1.2.1.size ≤ 9223372036854775807 ∧ r.1.2.2.1.size ≤ 9223372036854775807 ∧ r.1.2.2.2.size ≤ 9223372036854775807) ∧
          (∀ q, r.2.1.1 = some q → W.cell? q = some (.bool r.2.1.2) ∧ q.block < W.heap.size) ∧ (∀ q, r.2.2.1 = some q → W.cell? q = some (.bool r.2.2.2) ∧ q.block < W.heap.size) := by
        intro i hi
        obtain ⟨v0, y0, c0, t0⟩ := hcell i hi 0 _ rfl
        obtain ⟨v1, y1, c1, t1⟩ := hcell i hi 1 _ rfl
        obtain ⟨v2, y2, c2, t2⟩ := hcell i hi 2 _ rfl
        obtain ⟨v3, y3, c3, t3⟩ := hcell i hi 3 _ rfl
        obtain ⟨v4, y4, c4, t4⟩ := hcell i hi 4 _ rfl
        obtain ⟨v5, y5, c5, t5⟩ := hcell i hi 5 _ rfl
        obtain ⟨s0, rfl, z0⟩ := one_string t0
        obtain ⟨s1, rfl, z1⟩ := one_string t1
        obtain ⟨s2, rfl, z2⟩ := one_string t2
        obtain ⟨s3, rfl, z3⟩ := one_string t3
        obtain ⟨p4, b4, rfl, f4⟩ := one_flag t4
        obtain ⟨p5, b5, rfl, f5⟩ := one_flag t5
        exact ⟨((s0, s1, s2, s3), (p4, b4), (p5, b5)), c0, c1, c2, c3, c4, c5, ⟨z0, z1, z2, z3⟩, f4, f5⟩
      obtain ⟨R, hR⟩ := choose_lt hall
      refine ⟨fun i j => match j with | 0 => (R i).1.1 | 1 => (R i).1.2.1 | 2 => (R i).1.2.2.1 | _ => (R i).1.2.2.2, fun i => (R i).2.1.1, fun i => (R i).2.2.1, fun i => (R i).2.1.2, fun i => (R i).2.2.2, ⟨fun e => (nomatch e), fun _ => ⟨b, off, rfl, ?_⟩⟩, hl, by omega⟩
      refine ⟨fun i hi => (hR i hi).1, fun i hi => (hR i hi).2.1, fun i hi => (hR i hi).2.2.1, fun i hi => (hR i hi).2.2.2.1, fun i hi => (hR i hi).2.2.2.2.1, fun i hi => (hR i hi).2.2.2.2.2.1,
        fun i hi => (hR i hi).2.2.2.2.2.2.2.1, fun i hi => (hR i hi).2.2.2.2.2.2.2.2, fun i j hi => ?_, World.block_lt_of_cell? W _ (hR 0 h0).1⟩
      have hz := (hR i hi).2.2.2.2.2.2.1
      match j with
      | 0 => exact hz.1
      | 1 => exact hz.2.1
      | 2 => exact hz.2.2.1
      | _ + 3 => exact hz.2.2.2
    · obtain rfl : len = 0 := by omega
      exact ⟨fun _ _ => ByteArray.empty, fun _ => none, fun _ => none, fun _ => false, fun _ => false, ⟨fun _ => rfl, fun h0 => absurd h0 (Nat.lt_irrefl _)⟩, hl, by omega⟩

end Go.Proofs.Qxb6629165a
