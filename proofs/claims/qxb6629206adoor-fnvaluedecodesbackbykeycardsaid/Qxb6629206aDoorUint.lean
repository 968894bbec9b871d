/-
  THE WALK over strconv.FormatUint at base 10.
-/
import Derived.Test.Qxb6629206aDoorGates
import Derived.Test.Qxb6629206aDoorShelfK
import Derived.Lib.ItoaMem
import Derived.BigCall
namespace Go.Proofs.Qxb6629206aDoor
open Go.RowKit Go.Sort Go.Lib
set_option linter.unusedVariables false

theorem holds_zero0 (w : World) (T : TypeId) (nd : Nat) (hs : nd ≤ 24) : Holds (fun (b : UInt8) => Value.int .u8 (b.toNat : Int)) (w.alloc (.cells zeros24 T)) w.heap.size 0 (Array.replicate nd (0 : UInt8)) := fun j hj => by
  have hj' : j < nd := by simpa using hj
  refine ⟨?_, World.frozen?_alloc_new _ _ _ _⟩
  rw [World.cell?_alloc_new, zeros24_at _ (by omega), getElem!_pos _ j hj]
  simp

theorem below_put0 (w : World) (o : Obj) (dk : Array UInt8) (k : Nat) : Below w.heap.size w ((putRow (fun (b : UInt8) => Value.int .u8 (b.toNat : Int)) (w.alloc o) w.heap.size 0 dk).drewN k) := by
  have h1 : Below w.heap.size w (w.alloc o) := (Below.refl _ _).alloc (Nat.le_refl _) _
  have h2 : Below w.heap.size (w.alloc o) (putRow (fun (b : UInt8) => Value.int .u8 (b.toNat : Int)) (w.alloc o) w.heap.size 0 dk) := by
    refine ⟨rfl, rfl, rfl, by simp [putRow, mapBlock], fun i hi => ?_⟩
    simp only [putRow, mapBlock, Array.getElem?_modify]
    rw [if_neg (by omega)]
  exact below_drewN (h1.trans h2) k

set_option maxHeartbeats 2000000 in
set_option maxRecDepth 100000 in
theorem fmt21 (u : Nat) (hu64 : u < 18446744073709551616) (w : World) (htab : TabIs Tryd.prog w Tryd.powName .u64 pow10Tab) :
    Calls Tryd.prog 21 #[.int .u64 u, .int .i64 10] w fun e w' => e = .returned (.string ⟨(decDigits u).toArray⟩) ∧ Below w.heap.size w w' := by
  by_cases hs : u < 100
  · have hs' : (u : Int) < 100 := by omega
    have C := hide (Tryd.internal_strconv_small u hs w)
    clear htab
    go_enter Tryd.func21, Tryd.ntmps21
    go_wp2_with fail
    refine C.out.mono ?_
    rintro e w' ⟨rfl, hw⟩
    subst hw
    go_wp2_with fail
    go_ret
    exact ⟨rfl, Below.refl _ _⟩
  · have hu1 : 1 ≤ u := by omega
    have hs' : ¬ (u : Int) < 100 := by omega
    have hnd20 : nDigits u ≤ 20 := by have := numDigits_eq u hu1 hu64; split at this <;> omega
    have hal : Tryd.prog.arrayLen 61 = 24 := by simp [Program.arrayLen, Tryd.underlying61]
    have hsl1 : ∀ W, (Instr.sliceAt 61 (.pointer (some ⟨w.heap.size, 0, none⟩)) none (some (.int .i64 (nDigits u : Int))) none).run Tryd.prog W = .ok (.slice (some ⟨w.heap.size, 0, none⟩) (nDigits u) 24) W := fun W => by
      rw [run_sliceAt_array_h W 61 ⟨w.heap.size, 0, none⟩ (by simp [Program.arrayLen, Program.elem, Tryd.underlying61]) .i64 (nDigits u : Int) (by omega) (by rw [hal]; omega)]
      go_simp
    have hH0 := holds_zero0 w 61 (nDigits u) (by omega)
    have hfmt := Tryd.internal_strconv_formatBase10 w.heap.size 0 24 u (Array.replicate (nDigits u) 0) (w.alloc (.cells zeros24 61)) hH0 (by rw [Array.size_replicate]; exact lt_pow_nDigits u) hu64 (by rw [Array.size_replicate]; omega)
    rw [Array.size_replicate] at hfmt
    have hnum := Tryd.internal_strconv_numDigits u hu1 hu64 (w.alloc (.cells zeros24 61)) (tabIs_alloc htab _)
    have HH0 := hide hH0
    have HF := hide hfmt
    have HN := hide hnum
    clear hH0 hal hfmt hnum htab
    go_enter Tryd.func21, Tryd.ntmps21
    go_wp2_with fail
    refine HN.out.mono ?_
    rintro e w' ⟨rfl, hw⟩
    subst hw
    go_wp2_with fail
    refine HF.out.mono ?_
    rintro e w' ⟨rfl, k, v', dk, hw, hF⟩
    subst hw
    have hcv : (convert 51 9 (.slice (some ⟨w.heap.size, 0, none⟩) (nDigits u) 24)).run Tryd.prog ((putRow (fun (b : UInt8) => Value.int .u8 (b.toNat : Int)) (w.alloc (.cells zeros24 61)) w.heap.size 0 dk).drewN k) = .ok (.string ⟨(decDigits u).toArray⟩) ((putRow (fun (b : UInt8) => Value.int .u8 (b.toNat : Int)) (w.alloc (.cells zeros24 61)) w.heap.size 0 dk).drewN k) := by
      have h := run_convert_bytes_back (P := Tryd.prog) ((putRow (fun (b : UInt8) => Value.int .u8 (b.toNat : Int)) (w.alloc (.cells zeros24 61)) w.heap.size 0 dk).drewN k) 51 9 5 ⟨w.heap.size, 0, none⟩ 24 (decDigits u) Tryd.underlying51 Tryd.underlying5 Tryd.underlying9 (fun j hj => by
        rw [row_is_numeral hF j hj, Lib.add_plain, World.cell?_drewN]
        exact cell?_putRow (fun (b : UInt8) => Value.int .u8 (b.toNat : Int)) _ w.heap.size 0 _ dk HH0.out (by rw [hF.size, Array.size_replicate]) j (by rw [hF.size]; rw [decDigits_length] at hj; exact hj))
      rw [decDigits_length] at h
      exact h
    have HBE := hide (below_put0 w (.cells zeros24 61) dk k)
    clear HF HN HH0 hF
    go_wp2
    go_ret
    exact ⟨rfl, HBE.out⟩

theorem fmt19 (u : Nat) (hu64 : u < 18446744073709551616) (w : World) (htab : TabIs Tryd.prog w Tryd.powName .u64 pow10Tab) :
    Calls Tryd.prog 19 #[.int .u64 u, .int .i64 10] w fun e w' => e = .returned (.string ⟨(decDigits u).toArray⟩) ∧ Below w.heap.size w w' := by
  have C := hide (fmt21 u hu64 w htab)
  clear htab
  go_enter Tryd.func19, Tryd.ntmps19
  go_wp2_with fail
  refine C.out.mono ?_
  rintro e w' ⟨rfl, hb⟩
  go_wp2_with fail
  go_ret
  exact ⟨rfl, hb⟩
end Go.Proofs.Qxb6629206aDoor
