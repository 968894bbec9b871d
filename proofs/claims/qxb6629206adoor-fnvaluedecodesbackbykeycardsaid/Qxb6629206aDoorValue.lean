/-
  THE WALKS over record.value at the key "branches", ZZvalue, joinedLen.
-/
import Derived.Test.Qxb6629206aDoorBuild
import Derived.Test.Qxb6629206aDoorPlain
import Derived.Test.Qxb6629206aDoorShelfJ
import Derived.Deep.QuietTactic
import Derived.BigQuiet
namespace Go.Proofs.Qxb6629206aDoor
open Go.RowKit
set_option linter.unusedVariables false
attribute [local go_sem ↓] Go.wp_at_zero Go.wp_at_succ

theorem info9 : (Tryd.prog.info? 9).map (fun i => (i.zero, i.size, i.bytes)) = some (some (.string ⟨#[]⟩), 1, 16) := by kernel_rfl
def made9 (n : Nat) : Array Value := madeCells #[.string ⟨#[]⟩] n
theorem made9_size (n : Nat) : (made9 n).size = n := size_madeCells _ _
theorem run_mk48 (n : Nat) (hn : n ≤ 2097152) (w : World) : (Instr.makeSlice 48 (.int .i64 n) (.int .i64 n)).run Tryd.prog w = .ok (.slice (some ⟨w.heap.size, 0, none⟩) n n) (w.alloc (.cells (made9 n) 9)) := by
  obtain ⟨i0, hi0, hz0, hz1, hz2⟩ := info_parts info9
  have h := run_make (P := Tryd.prog) w 48 9 i0 (.string ⟨#[]⟩) Tryd.underlying48 hi0 hz0 .i64 .i64 n n (by omega) (Int.le_refl _) (by rw [hz2]; omega) (by omega)
  rw [hz1] at h
  simpa [made9, Value.cells] using h

/-- A row of k strings lies at block N (which has room for n of them). -/
structure Row1 (w : World) (N n k : Nat) (P : Nat → ByteArray) : Prop where
  blk : ∃ cur, w.heap[N]? = some (.cells cur 9 (0, 0)) ∧ cur.size = n
  els : ∀ i, i < k → w.cell? ⟨N, i, none⟩ = some (.string (P i))

section
variable {w : World} {N n k : Nat} {P : Nat → ByteArray}
theorem Row1.lt (h : Row1 w N n k P) : N < w.heap.size := by
  obtain ⟨cur, h, _⟩ := h.blk
  exact (Array.getElem?_eq_some_iff.1 h).1
theorem Row1.frozen (h : Row1 w N n k P) (j : Nat) : w.frozen? ⟨N, j, none⟩ = false := by
  obtain ⟨cur, h, _⟩ := h.blk
  exact frozen_of_row w _ j cur 9 h
theorem Row1.cell (h : Row1 w N n k P) (i : Nat) (hk : i < n) : ∃ o, w.cell? ⟨N, i, none⟩ = some o := by
  obtain ⟨cur, h, hs⟩ := h.blk
  refine ⟨cur[i]'(by omega), ?_⟩
  rw [cell_of_row w _ _ cur 9 _ h]
  exact Array.getElem?_eq_getElem (by omega)
theorem Row1.below {w' : World} (h : Row1 w N n k P) {B : Nat} (hb : Below B w w') (hN : N < B) : Row1 w' N n k P where
  blk := let ⟨cur, h1, h2⟩ := h.blk; ⟨cur, (hb.block N hN).trans h1, h2⟩
  els := fun i hi => (hb.cell (p := ⟨N, _, none⟩) hN).trans (h.els i hi)
theorem Row1.set (h : Row1 w N n k P) (v : Value) : Row1 (w.setCell ⟨N, k, none⟩ v) N n k P := by
  obtain ⟨cur, hb, hs⟩ := h.blk
  refine ⟨⟨_, heap_setCell_same _ _ _ _ _ _ hb, by simpa using hs⟩, fun i hi => ?_⟩
  rw [World.cell?_setCell_other _ _ _ _ (ne_off (by omega))]
  exact h.els i hi
theorem Row1.step (h : Row1 w N n k P) (hk : k < n) {s : ByteArray} (e : P k = s) : Row1 (w.setCell ⟨N, k, none⟩ (.string s)) N n (k + 1) P := by
  obtain ⟨o, ho⟩ := h.cell k hk
  refine ⟨(h.set _).blk, fun i hi => ?_⟩
  rcases Nat.lt_succ_iff_lt_or_eq.1 hi with hik | rfl
  · exact (h.set _).els i hik
  · rw [e]; exact World.cell?_setCell_same _ _ _ ho
end

/-- What holds behind k rounds of value's loop. -/
structure Val (w wr : World) (n k : Nat) (P : Nat → ByteArray) : Prop where
  bel : Below w.heap.size w wr
  row : Row1 wr (w.heap.size + 1) n k P

theorem Val.start (w : World) (n : Nat) (P : Nat → ByteArray) (o : Obj) : Val w ((w.alloc o).alloc (.cells (made9 n) 9)) n 0 P where
  bel := ((Below.refl _ _).alloc (Nat.le_refl _) _).alloc (by simp) _
  row := ⟨⟨made9 n, by rw [heap_alloc2_new], made9_size n⟩, fun i hi => absurd hi (Nat.not_lt_zero _)⟩

theorem Val.step1 {w wr : World} {n k : Nat} {P : Nat → ByteArray} (h : Val w wr n k P) (hk : k < n) {s : ByteArray} (e : P k = s) (ob : Obj) :
    Val w ((wr.setCell ⟨w.heap.size + 1, k, none⟩ (.string s)).alloc ob) n (k + 1) P := by
  have hl := h.row.lt
  have hb : Below wr.heap.size (wr.setCell ⟨w.heap.size + 1, k, none⟩ (.string s)) ((wr.setCell ⟨w.heap.size + 1, k, none⟩ (.string s)).alloc ob) := (Below.refl _ _).alloc (by simp) _
  exact ⟨(h.bel.setCell (p := ⟨w.heap.size + 1, _, none⟩) (by simp) _).trans (hb.mono h.bel.size), (h.row.step hk e).below hb hl⟩

theorem Val.step2 {w wr : World} {n k : Nat} {P : Nat → ByteArray} (h : Val w wr n k P) (hk : k < n) (v : Value) {s : ByteArray} (e : P k = s) (ob : Obj) :
    Val w (((wr.setCell ⟨w.heap.size + 1, k, none⟩ v).setCell ⟨w.heap.size + 1, k, none⟩ (.string s)).alloc ob).drew n (k + 1) P := by
  have hl := h.row.lt
  have h' : Val w (wr.setCell ⟨w.heap.size + 1, k, none⟩ v) n k P := ⟨h.bel.setCell (p := ⟨w.heap.size + 1, _, none⟩) (by simp) _, h.row.set v⟩
  have h2 := h'.step1 hk e ob
  exact ⟨h2.bel.drew, h2.row.below (Below.refl (w.heap.size + 2) _).drew (by omega)⟩

/-- The payload of n branches. -/
def pay (R G S : Nat → ByteArray) (n : Nat) : ByteArray := ⟨(joined (fun i => (pc (R i) (G i) (S i)).data.toList) n).toArray⟩

theorem pay_list (R G S : Nat → ByteArray) (n : Nat) : (pay R G S n).data.toList = joined (fun i => (pc (R i) (G i) (S i)).data.toList) n := rfl

/-- The counted length. -/
def jlen (R G S : Nat → ByteArray) (n : Nat) : Nat := tot (fun i => pcl (R i) (G i) (S i)) n + (n - 1)

theorem pay_size (R G S : Nat → ByteArray) (n : Nat) : (pay R G S n).size = jlen R G S n := by
  rw [size_eq, pay_list, joined_length, jlen]
  congr 1
  exact tot_congr _ _ _ fun i _ => by rw [← size_eq, pc_size]

theorem jlen_le (R G S : Nat → ByteArray) (n : Nat) : jlen R G S n ≤ tot (sz R G S) n + 3 * n := by
  have := tot_le (fun i => pcl (R i) (G i) (S i)) (sz R G S) n 2 fun i _ => pcl_le _ _ _
  unfold jlen
  omega

theorem join20 (H n : Nat) (R G S : Nat → ByteArray) (w : World) (hn : n ≤ 2097152) (ht : tot (sz R G S) n ≤ 2097152) (hr : Row1 w H n n fun i => pc (R i) (G i) (S i)) :
    Calls Tryd.prog 20 #[.slice (some ⟨H, 0, none⟩) n n, .string ⟨#[44]⟩] w fun e w' => e = .returned (.string (pay R G S n)) ∧ Below w.heap.size w w' := by
  have hl := jlen_le R G S n
  have hp := pay_size R G S n
  rw [size_eq, pay_list, joined] at hp
  have hm : ((List.range n).map fun i => (pc (R i) (G i) (S i)).data.toList) = ((List.range n).map fun i => pc (R i) (G i) (S i)).map (·.data.toList) := by rw [List.map_map]; rfl
  have c := Tryd.strings_Join H 0 n ((List.range n).map fun i => pc (R i) (G i) (S i)) ⟨#[44]⟩ w (fun j x hj => by
      rw [Nat.zero_add]
      have hjn : j < n := by
        have := (List.getElem?_eq_some_iff.1 hj).1
        simpa using this
      rw [hr.els j hjn]
      simp [hjn] at hj
      rw [hj]) hr.lt (by simp; omega) (by simp) (by
      show (Lib.join _ [44]).length ≤ _
      rw [← hm, hp]; omega)
  rw [List.length_map, List.length_range] at c
  refine c.mono ?_
  rintro e w' ⟨rfl, hb⟩
  refine ⟨?_, hb⟩
  rw [pay, joined, hm]

set_option maxRecDepth 100000 in
set_option maxHeartbeats 1000000 in
theorem value16 (nx : Int) (oc : ByteArray) (g n : Nat) (w : World) (R G S : Nat → ByteArray) (hn : n ≤ 2097152) (ht : tot (sz R G S) n ≤ 2097152) (hg : Row3 w g n n 41 R G S) :
    Calls Tryd.prog 16 #[.agg (recV nx oc (.slice (some ⟨g, 0, none⟩) n n)), .string ⟨#[98, 114, 97, 110, 99, 104, 101, 115]⟩] w fun e w' => e = .returned (.string (pay R G S n)) ∧ Below w.heap.size w w' := by
  have hmk := run_mk48 n hn
  have hgl := hg.lt
  have HG := hide hg; clear hg
  simp only [recV]
  go_enter Tryd.func16, Tryd.ntmps16
  go_wp2_with fail
  clear hmk
  go_loopw [27] (fun i wr => ∃ (k : Nat), k ≤ n ∧ i = .int .i64 k ∧ Val w wr n k fun i => pc (R i) (G i) (S i)) (fun i _ => n - (intOf i).toNat)
  case atStart => exact ⟨0, by omega, rfl, Val.start w n _ _⟩
  case round =>
    obtain ⟨k, hk, rfl, hV⟩ := hrel
    by_cases hlt : k < n
    · obtain ⟨c0, c1, c2⟩ := (HG.out.below hV.bel hgl).els k hlt
      have hzk := le_tot (sz R G S) n k hlt
      have z0 : (R k).size ≤ 2097152 := by unfold sz at hzk ht; omega
      have z1 : (G k).size ≤ 2097152 := by unfold sz at hzk ht; omega
      have z2 : (S k).size ≤ 2097152 := by unfold sz at hzk ht; omega
      have hgr : g < wr.heap.size := cell_lt c0
      clear hzk
      have hP : (fun i => pc (R i) (G i) (S i)) k = pc (R k) (G k) (S k) := rfl
      have HP := hide hP; clear hP
      generalize R k = s0 at c0 z0 HP
      generalize G k = s1 at c1 z1 HP
      generalize S k = s2 at c2 z2 HP
      have hf := hV.row.frozen
      obtain ⟨o0, x0⟩ := hV.row.cell k hlt
      have hNw := hV.row.lt
      have HV := hide hV; clear hV
      by_cases hs : s2.toList.isEmpty = true
      · have hs' : (!s2.toList.isEmpty) = false := by rw [hs]; rfl
        have HE : Hid ((fun i => pc (R i) (G i) (S i)) k = s0 ++ ⟨#[47]⟩ ++ s1) := by
          have := HP.out; rw [pc, if_pos hs] at this; exact this
        clear HP
        go_wp2_with fail
        go_roundw
        case rel => exact ⟨k + 1, by omega, by go_num, HV.out.step1 hlt HE.out _⟩
        case measure => simp [intOf]; omega
      · have hs' : (!s2.toList.isEmpty) = true := by simpa using hs
        have z3 : (s0 ++ (ByteArray.mk #[47]) ++ s1).size = s0.size + 1 + s1.size := by simp [ByteArray.size_append]; rfl
        have z4 : ((ByteArray.mk #[47]) ++ s2).size = 1 + s2.size := by simp [ByteArray.size_append]; rfl
        have HE : Hid ((fun i => pc (R i) (G i) (S i)) k = s0 ++ ⟨#[47]⟩ ++ s1 ++ (⟨#[47]⟩ ++ s2)) := by
          have := HP.out; rw [pc, if_neg hs] at this; exact this
        clear HP
        go_wp2_with fail
        go_region
        go_wp2_with fail
        go_roundw
        case rel => exact ⟨k + 1, by omega, by go_num, HV.out.step2 hlt _ HE.out _⟩
        case measure => simp [intOf]; omega
    · obtain rfl : k = n := by omega
      have C20 := hide (join20 (w.heap.size + 1) k R G S wr hn ht hV.row)
      have HV := hide hV; clear hV
      go_wp2_with fail
      refine C20.out.mono ?_
      rintro e w7 ⟨rfl, hb7⟩
      go_wp2_with fail
      go_ret
      exact ⟨rfl, HV.out.bel.trans (hb7.mono HV.out.bel.size)⟩

/-- ZZvalue at a record that buildRecord has made. -/
theorem zz8 (nx : Int) (oc : ByteArray) (g n : Nat) (w : World) (R G S : Nat → ByteArray) (hn : n ≤ 2097152) (ht : tot (sz R G S) n ≤ 2097152) (hg : Row3 w g n n 41 R G S) :
    Calls Tryd.prog 8 #[.agg (recV nx oc (.slice (some ⟨g, 0, none⟩) n n)), .string ⟨#[98, 114, 97, 110, 99, 104, 101, 115]⟩] w fun e w' => e = .returned (.string (pay R G S n)) ∧ Below w.heap.size w w' := by
  have C16 := fun W (h : Row3 W g n n 41 R G S) => hide (value16 nx oc g n W R G S hn ht h)
  have HC := hide C16; clear C16
  have HG := hide hg
  have hgl := hg.lt
  clear hg
  simp only [recV] at HC ⊢
  go_enter Tryd.func8, Tryd.ntmps8
  go_wp2_with fail
  refine ((HC.out _ (HG.out.below ((Below.refl _ _).alloc (Nat.le_refl _) _) hgl)).out).mono ?_
  rintro e w7 ⟨rfl, hb7⟩
  go_wp2_with fail
  go_ret
  exact ⟨rfl, ((Below.refl _ _).alloc (Nat.le_refl _) _).trans (hb7.mono (by simp))⟩

theorem tot_mono (f : Nat → Nat) {k n : Nat} (h : k ≤ n) : tot f k ≤ tot f n := by
  induction n with
  | zero => obtain rfl : k = 0 := Nat.le_zero.1 h
            exact Nat.le_refl _
  | succ n ih =>
    rcases Nat.lt_or_eq_of_le h with h | rfl
    · have := ih (by omega); rw [tot_succ]; omega
    · exact Nat.le_refl _

set_option maxRecDepth 100000 in
set_option maxHeartbeats 1000000 in
theorem jl10 (a : Option Addr) (n c : Nat) (w : World) (R G S : Nat → ByteArray) (hn : n ≤ 2097152) (ht : tot (sz R G S) n ≤ 2097152) (hA : Bs w a n R G S) :
    Calls Tryd.prog 10 #[.slice a n c] w fun e w' => e = .returned (.int .i64 (jlen R G S n)) ∧ Below w.heap.size w w' := by
  have HA := hide hA; clear hA
  have hmono : ∀ k, k ≤ n → tot (sz R G S) k ≤ 2097152 := fun k hk => Nat.le_trans (tot_mono _ hk) ht
  have HM := hide hmono; clear hmono
  go_enter Tryd.func10, Tryd.ntmps10
  go_wp2_with fail
  go_loopw [3, 4] (fun t i wr => ∃ (k : Nat), k ≤ n ∧ i = .int .i64 k ∧ t = .int .i64 (jlen R G S k) ∧ Below w.heap.size w wr) (fun _ i _ => n - (intOf i).toNat)
  case atStart => exact ⟨0, by omega, rfl, rfl, Below.refl _ _⟩
  case round =>
    obtain ⟨k, hk, rfl, rfl, hb⟩ := hrel
    by_cases hlt : k < n
    · have hzk := HM.out (k + 1) (by omega)
      rw [tot_succ] at hzk
      have hjl := jlen_le R G S k
      have hj1 : jlen R G S (k + 1) = tot (fun i => pcl (R i) (G i) (S i)) k + pcl (R k) (G k) (S k) + k := rfl
      have hj0 : jlen R G S k = tot (fun i => pcl (R i) (G i) (S i)) k + (k - 1) := rfl
      have hzk' : (R k).size + (G k).size + (S k).size ≤ 2097152 := by unfold sz at hzk; omega
      have hJ : jlen R G S k ≤ 12582912 := by omega
      clear hjl hzk
      obtain ⟨b, off, rfl, hbl, hcl⟩ := (HA.out.below hb).at_ (by omega)
      obtain ⟨c0, c1, c2⟩ := hcl k hlt
      clear hcl
      have z0 : (R k).size ≤ 2097152 := by omega
      have z1 : (G k).size ≤ 2097152 := by omega
      have z2 : (S k).size ≤ 2097152 := by omega
      clear hzk'
      generalize tot (fun i => pcl (R i) (G i) (S i)) k = q at hj1 hj0
      have HJ1 := hide hj1; have HJ0 := hide hj0; clear hj1 hj0
      generalize R k = s0 at c0 z0 HJ1
      generalize G k = s1 at c1 z1 HJ1
      generalize S k = s2 at c2 z2 HJ1
      generalize hjk : jlen R G S k = jk at HJ0 hJ
      have HJK := hide hjk; clear hjk
      have hk0 : (0 : Int) ≤ (k : Int) := by omega
      have hk1 : (k : Int) < (n : Int) := by omega
      by_cases hk00 : (0 : Int) < (k : Int)
      · by_cases hs : s2.toList.isEmpty = true
        · have hs' : (!s2.toList.isEmpty) = false := by rw [hs]; rfl
          have HE : Hid (jlen R G S (k + 1) = jk + 1 + (s0.size + 1 + s1.size)) := by
            have h1 := HJ1.out; have h0 := HJ0.out; rw [pcl, if_pos hs] at h1; show _ = _; omega
          clear HJ1 HJ0
          go_wp2_with fail
          go_quiet (fail)
          go_wp2_with fail
          go_roundw
          case rel => exact ⟨k + 1, by omega, by go_num, congrArg (Value.int .i64) (by rw [HE.out]; omega), below_drewN hb _⟩
          case measure => simp [intOf]; omega
        · have hs' : (!s2.toList.isEmpty) = true := by simpa using hs
          have HE : Hid (jlen R G S (k + 1) = jk + 1 + (s0.size + 1 + s1.size) + (1 + s2.size)) := by
            have h1 := HJ1.out; have h0 := HJ0.out; rw [pcl, if_neg hs] at h1; show _ = _; omega
          clear HJ1 HJ0
          go_wp2_with fail
          go_quiet (fail)
          go_wp2_with fail
          go_roundw
          case rel => exact ⟨k + 1, by omega, by go_num, congrArg (Value.int .i64) (by rw [HE.out]; omega), below_drewN hb _⟩
          case measure => simp [intOf]; omega
      · by_cases hs : s2.toList.isEmpty = true
        · have hs' : (!s2.toList.isEmpty) = false := by rw [hs]; rfl
          have HE : Hid (jlen R G S (k + 1) = jk + 0 + (s0.size + 1 + s1.size)) := by
            have h1 := HJ1.out; have h0 := HJ0.out; rw [pcl, if_pos hs] at h1; show _ = _; omega
          clear HJ1 HJ0
          go_wp2_with fail
          go_quiet (fail)
          go_wp2_with fail
          go_roundw
          case rel => exact ⟨k + 1, by omega, by go_num, congrArg (Value.int .i64) (by rw [HE.out]; omega), below_drewN hb _⟩
          case measure => simp [intOf]; omega
        · have hs' : (!s2.toList.isEmpty) = true := by simpa using hs
          have HE : Hid (jlen R G S (k + 1) = jk + 0 + (s0.size + 1 + s1.size) + (1 + s2.size)) := by
            have h1 := HJ1.out; have h0 := HJ0.out; rw [pcl, if_neg hs] at h1; show _ = _; omega
          clear HJ1 HJ0
          go_wp2_with fail
          go_quiet (fail)
          go_wp2_with fail
          go_roundw
          case rel => exact ⟨k + 1, by omega, by go_num, congrArg (Value.int .i64) (by rw [HE.out]; omega), below_drewN hb _⟩
          case measure => simp [intOf]; omega
    · obtain rfl : k = n := by omega
      go_wp2_with fail
      go_ret
      exact ⟨rfl, hb⟩
end Go.Proofs.Qxb6629206aDoor
