/-
  THE WALKS over math/bits.OnesCount64 and TrailingZeros64.
-/
import Derived.Test.Qxb6629270aDoorRows
import Derived.WalkKit
import Derived.WalkSpells
import Derived.WalkLawsBesides
import Derived.Laws.BitsAllLaws
import Derived.Laws.Bits128
import Derived.Shelf.Spec.TrailingZeros
import Derived.Test.Qxb6629270aDoorPop
namespace Go.Proofs.Qxb6629270aDoor
open Go.RowKit
theorem wadd (a b : Nat) (h : a + b < 18446744073709551616) : IntKind.u64.wrap ((a : Int) + (b : Int)) = ((a + b : Nat) : Int) := by
  rw [IntKind.wrap_u64]; omega
set_option maxRecDepth 100000 in
theorem ones (x : Nat) (hx : x < 18446744073709551616) (w : World) :
    Calls Tryd.prog 24 #[.int .u64 x] w fun e w' => e = .returned (.int .i64 (cnt x.testBit 64)) ∧ w' = w := by
  have M1 : rep 85 8 = 6148914691236517205 := by decide
  have M2 : rep 51 8 = 3689348814741910323 := by decide
  have M3 : rep 15 8 = 1085102592571150095 := by decide
  have l1 := s1_le 8 x
  have l2 := s2_le 8 (s1 8 x)
  have hsw := swar 8 x
  obtain ⟨y, hy, hy1, hy2, hb, hc, hr⟩ := fold8 x
  rw [← hy] at hsw
  generalize cnt x.testBit 64 = N at *
  have e1 : IntKind.u64.wrap (bits .and .u64 ((x : Int) / 2) 6148914691236517205 + bits .and .u64 (x : Int) 6148914691236517205) = ((s1 8 x : Nat) : Int) := by
    have a1 := u64_and_nat (x / 2) 6148914691236517205 (by omega) (by omega)
    have a2 := u64_and_nat x 6148914691236517205 (by omega) (by omega)
    unfold s1 at l1 ⊢
    rw [M1] at l1 ⊢
    rw [← wadd _ _ (by omega), ← a1, ← a2]
    rfl
  generalize s1 8 x = y1 at *
  have e2 : IntKind.u64.wrap (bits .and .u64 ((y1 : Int) / 4) 3689348814741910323 + bits .and .u64 (y1 : Int) 3689348814741910323) = ((s2 8 y1 : Nat) : Int) := by
    have a1 := u64_and_nat (y1 / 4) 3689348814741910323 (by omega) (by omega)
    have a2 := u64_and_nat y1 3689348814741910323 (by omega) (by omega)
    unfold s2 at l2 ⊢
    rw [M2] at l2 ⊢
    rw [← wadd _ _ (by omega), ← a1, ← a2]
    rfl
  generalize s2 8 y1 = y2 at *
  have e3 : bits .and .u64 (IntKind.u64.wrap ((y2 : Int) / 16 + (y2 : Int))) 1085102592571150095 = (y : Int) := by
    have a0 := wadd (y2 / 16) y2 (by omega)
    have a1 := u64_and_nat (y2 / 16 + y2) 1085102592571150095 (by omega) (by omega)
    rw [show ((y2 : Int) / 16) = ((y2 / 16 : Nat) : Int) from rfl, a0, show (1085102592571150095 : Int) = ((1085102592571150095 : Nat) : Int) from rfl, a1, ← hsw, ← M3]
    rfl
  clear M1 M2 M3 l1 l2 hsw hy
  have e4 : IntKind.u64.wrap ((y : Int) + (y : Int) / 256) = ((y + y / 256 : Nat) : Int) := wadd y (y / 256) hy2
  generalize y + y / 256 = y4 at *
  have e5 : IntKind.u64.wrap ((y4 : Int) + (y4 : Int) / 65536) = ((y4 + y4 / 65536 : Nat) : Int) := wadd y4 (y4 / 65536) hb
  generalize y4 + y4 / 65536 = y5 at *
  have e6 : IntKind.u64.wrap ((y5 : Int) + (y5 : Int) / 4294967296) = ((y5 + y5 / 4294967296 : Nat) : Int) := wadd y5 (y5 / 4294967296) (by omega)
  generalize y5 + y5 / 4294967296 = y6 at *
  have hw6 : wrap64 (y6 : Int) = y6 := by unfold wrap64; omega
  have e7 : bits .and .i64 (y6 : Int) 127 = (N : Nat) := by
    rw [i64_and127]; omega
  clear hb hc hr hy1 hy2
  go_enter Tryd.func24, Tryd.ntmps24
  go_wp2
  go_ret
  exact ⟨rfl, rfl⟩

theorem tz_core (x k idx : Nat) (w : World) (hx0 : ((x : Int) == 0) = false)
    (key : IntKind.u64.wrap (bits BinOp.and IntKind.u64 (x : Int) (IntKind.u64.wrap (-(x : Int))) * 285870213051353865) / 288230376151711744 = (idx : Int))
    (hi : idx < 64) (hk : k < 64) (hcell : w.cell? ⟨0, idx, none⟩ = some (.int .u8 k)) :
    Calls Tryd.prog 22 #[.int .u64 x] w fun e w' => e = .returned (.int .i64 k) ∧ w' = w := by
  go_enter Tryd.func22, Tryd.ntmps22
  go_wp2_with (simp only [key])
  go_ret
  exact ⟨rfl, rfl⟩

theorem tz (x : Nat) (hx : x < 18446744073709551616) (hx0 : x ≠ 0) (w : World) (hT : TabAt 0 Lib.deBruijn64tab w) :
    Calls Tryd.prog 22 #[.int .u64 x] w fun e w' => e = .returned (.int .i64 (Lib.ctz 64 x)) ∧ w' = w := by
  obtain ⟨hlow, hk⟩ := Lib.lowest_bit 64 x hx0 hx
  obtain ⟨hi, htab⟩ := Lib.deBruijn64_at _ hk
  have hcell := hT _ hi
  rw [htab] at hcell
  exact tz_core x _ _ w (by simp; omega) (tz64_key x _ hx hx0 hlow) hi hk hcell
end Go.Proofs.Qxb6629270aDoor
