/-
  THE WALK over FnControllerRefClearInOrder.
-/
import Derived.Test.Qxb6629165aLaw
namespace Go.Proofs.Qxb6629165a
open Go.RowKit
set_option linter.unusedVariables false

/-- The flags with one cleared. -/
def clr (G : Nat → Option Bool) (i : Nat) : Nat → Option Bool := fun j => if j = i then none else G j

theorem Has.clear {W : World} {a : Option Addr} {g n : Nat} {G : Nat → Option Bool} (h : Has W a g n G) (i : Nat) (hi : i < n) : Has (W.setCell ⟨g, i * 6 + 4, none⟩ (.pointer none)) a g n (clr G i) := by
  refine ⟨h.at_, fun h0 => ?_, fun j hj => ?_⟩
  · obtain ⟨cur, hc⟩ := h.row h0
    exact ⟨_, heap_setCell_same _ _ _ _ _ _ hc⟩
  · obtain ⟨s0, s1, s2, s3, a4, a5, c0, c1, c2, c3, c4, c5, hf, hq⟩ := h.els j hj
    by_cases hji : j = i
    · subst hji
      refine ⟨s0, s1, s2, s3, none, a5, ?_, ?_, ?_, ?_, World.cell?_setCell_same _ _ _ c4, ?_, by rw [World.frozen?_setCell]; exact hf, .inl ⟨by simp [clr], rfl⟩⟩
      · rw [World.cell?_setCell_other _ _ _ _ (ne_off (by omega)), c0]
      · rw [World.cell?_setCell_other _ _ _ _ (ne_off (by omega)), c1]
      · rw [World.cell?_setCell_other _ _ _ _ (ne_off (by omega)), c2]
      · rw [World.cell?_setCell_other _ _ _ _ (ne_off (by omega)), c3]
      · rw [World.cell?_setCell_other _ _ _ _ (ne_off (by omega)), c5]
    · refine ⟨s0, s1, s2, s3, a4, a5, ?_, ?_, ?_, ?_, ?_, ?_, by rw [World.frozen?_setCell]; exact hf, ?_⟩
      · rw [World.cell?_setCell_other _ _ _ _ (ne_off (by omega)), c0]
      · rw [World.cell?_setCell_other _ _ _ _ (ne_off (by omega)), c1]
      · rw [World.cell?_setCell_other _ _ _ _ (ne_off (by omega)), c2]
      · rw [World.cell?_setCell_other _ _ _ _ (ne_off (by omega)), c3]
      · rw [World.cell?_setCell_other _ _ _ _ (ne_off (by omega)), c4]
      · rw [World.cell?_setCell_other _ _ _ _ (ne_off (by omega)), c5]
      · have hcl : clr G i j = G j := by simp [clr, hji]
        rw [hcl]
        rcases hq with hq | ⟨b, q, h1, h2, h3, h4, h5⟩
        · exact .inl hq
        · exact .inr ⟨b, q, h1, h2, h3, h4, by rw [World.cell?_setCell_other _ _ _ _ (ne_off (.inl h4)), h5]⟩

theorem mark_clr_same (G : Nat → Option Bool) (i : Nat) : mark (clr G i) i = false := by simp [mark, clr]
theorem mark_clr_other (G : Nat → Option Bool) (i j : Nat) (h : j ≠ i) : mark (clr G i) j = mark G j := by simp [mark, clr, h]

/-- What holds at each step's head. -/
structure Turn (w wr : World) (a : Option Addr) (n : Nat) (S : Nat → Nat → ByteArray) (C D : Nat → Option Addr) (cb db : Nat → Bool) (mb : Nat) (am : Option Addr) (g cur : Nat) : Prop where
  bel : Below w.heap.size w wr
  m : wr.cell? ⟨mb, 14, none⟩ = some (.slice am n n)
  mg : 0 < n → mb ≠ g
  gw : w.heap.size ≤ g
  has : ∃ G, Has wr am g n G ∧ (∀ i, i < cur → mark G i = false) ∧ ∀ i, cur ≤ i → i < n → mark G i = mark (flag C cb) i
  v : View wr a n S C D cb db

theorem Turn.below {w wr wr' : World} {a : Option Addr} {n : Nat} {S : Nat → Nat → ByteArray} {C D : Nat → Option Addr} {cb db : Nat → Bool} {mb : Nat} {am : Option Addr} {g cur : Nat}
    (h : Turn w wr a n S C D cb db mb am g cur) (hb : Below wr.heap.size wr wr') : Turn w wr' a n S C D cb db mb am g cur where
  bel := h.bel.trans (hb.mono h.bel.size)
  m := (hb.cell (p := ⟨mb, 14, none⟩) (cell_lt h.m)).trans h.m
  mg := h.mg
  gw := h.gw
  has := let ⟨G, h1, h2, h3⟩ := h.has; ⟨G, h1.below hb, h2, h3⟩
  v := h.v.below hb

/-- No mark is left: the object answers nil. -/
theorem Turn.none_left {w wr : World} {a : Option Addr} {n : Nat} {S : Nat → Nat → ByteArray} {C D : Nat → Option Addr} {cb db : Nat → Bool} {mb : Nat} {am : Option Addr} {g cur : Nat}
    (h : Turn w wr a n S C D cb db mb am g cur) (hn : n ≤ 1048576) (hno : ∀ i, cur ≤ i → i < n → mark (flag C cb) i = false) :
    Calls Try.prog 9 #[.pointer (some ⟨mb, 0, none⟩)] wr fun e w' => e = .returned (.pointer none) ∧ Below wr.heap.size wr w' := by
  obtain ⟨G, h1, h2, h3⟩ := h.has
  have hf : fst (mark G) n = none := fst_none fun i hi => by
    by_cases hc : i < cur
    · exact h2 i hc
    · rw [h3 i (by omega) hi]; exact hno i (by omega) hi
  have := ctrl_any mb am g n G wr hn h.m h1
  rwa [hf] at this

/-- The next mark: the object answers a pointer at it. -/
theorem Turn.next {w wr : World} {a : Option Addr} {n : Nat} {S : Nat → Nat → ByteArray} {C D : Nat → Option Addr} {cb db : Nat → Bool} {mb : Nat} {am : Option Addr} {g cur : Nat}
    (h : Turn w wr a n S C D cb db mb am g cur) (hn : n ≤ 1048576) (p : Nat) (hp : cur ≤ p) (hpn : p < n) (hM : mark (flag C cb) p = true) (hno : ∀ i, cur ≤ i → i < p → mark (flag C cb) i = false) :
    Calls Try.prog 9 #[.pointer (some ⟨mb, 0, none⟩)] wr fun e w' => e = .returned (.pointer (some ⟨g, p * 6, none⟩)) ∧ Below wr.heap.size wr w' := by
  obtain ⟨G, h1, h2, h3⟩ := h.has
  have hf : fst (mark G) n = some p := fst_some hpn (by rw [h3 p hp hpn]; exact hM) fun i hi => by
    by_cases hc : i < cur
    · exact h2 i hc
    · rw [h3 i (by omega) (by omega)]; exact hno i (by omega) hi
  have := ctrl_any mb am g n G wr hn h.m h1
  rwa [hf] at this

/-- Behind the clearing of the mark at p. -/
theorem Turn.step {w wr : World} {a : Option Addr} {n : Nat} {S : Nat → Nat → ByteArray} {C D : Nat → Option Addr} {cb db : Nat → Bool} {mb : Nat} {am : Option Addr} {g cur : Nat}
    (h : Turn w wr a n S C D cb db mb am g cur) (hV : View w a n S C D cb db) (p : Nat) (hp : cur ≤ p) (hpn : p < n) (hno : ∀ i, cur ≤ i → i < p → mark (flag C cb) i = false) :
    Turn w (wr.setCell ⟨g, p * 6 + 4, none⟩ (.pointer none)) a n S C D cb db mb am g (p + 1) := by
  have hb : Below w.heap.size w (wr.setCell ⟨g, p * 6 + 4, none⟩ (.pointer none)) := h.bel.setCell (p := ⟨g, _, none⟩) h.gw _
  refine ⟨hb, ?_, h.mg, h.gw, ?_, hV.below hb⟩
  · rw [World.cell?_setCell_other _ _ _ _ (ne_off (.inl (h.mg (by omega))))]; exact h.m
  · obtain ⟨G, h1, h2, h3⟩ := h.has
    refine ⟨clr G p, h1.clear p hpn, fun i hi => ?_, fun i hi hin => ?_⟩
    · by_cases hip : i = p
      · subst hip; exact mark_clr_same G i
      · rw [mark_clr_other G p i hip]
        by_cases hc : i < cur
        · exact h2 i hc
        · rw [h3 i (by omega) (by omega)]; exact hno i (by omega) (by omega)
    · rw [mark_clr_other G p i (by omega)]; exact h3 i (by omega) hin

set_option maxRecDepth 100000 in
set_option maxHeartbeats 4000000 in
theorem clear_in (a : Option Addr) (n c : Nat) (w : World) (S : Nat → Nat → ByteArray) (C D : Nat → Option Addr) (cb db : Nat → Bool) (hn : n ≤ 1048576) (hV : View w a n S C D cb db)
  (h5 : Calls Try.prog 11 #[.slice a n c] w fun e w' => IsBool e ∧ w' = w)
  (h6 : Calls Try.prog 6 #[.slice a n c] w fun e w' => IsBool e ∧ w' = w) :
    Calls Try.prog 4 #[.slice a n c] w fun e w' => e = .returned (.bool true) ∧ Below w.heap.size w w' := by
  have H5 := hide h5; clear h5
  have H6 := hide h6; clear h6
  go_enter Try.func4, Try.ntmps4
  go_wp2_with fail
  refine H5.out.mono ?_
  rintro e w' ⟨⟨r, rfl⟩, hw⟩
  subst hw
  cases r
  · go_wp2_with fail
    go_ret
    exact ⟨rfl, Below.refl _ _⟩
  go_wp2_with fail
  refine H6.out.mono ?_
  rintro e w' ⟨⟨r, rfl⟩, hw⟩
  subst hw
  cases r
  · go_wp2_with fail
    go_ret
    exact ⟨rfl, Below.refl _ _⟩
  clear H5 H6
  by_cases hsm : n ≤ 4096
  · go_wp2_with fail
    refine (api_any a n c _ S C D cb db hn hV).mono ?_
    rintro e w1 ⟨am, rfl, hb1, hw1⟩
    have hV1 := hV.below hb1
    have HV := hide hV; clear hV
    go_wp2_with fail
    generalize hW2 : World.alloc w1 _ = W2
    obtain ⟨hb2, hm2, hs2⟩ := boxed w1 (.slice am n n) W2 hW2
    clear hW2
    have hT : Turn w' W2 a n S C D cb db w1.heap.size am w'.heap.size 0 :=
      ⟨hb1.trans (hb2.mono hb1.size), hm2, fun h0 => Nat.ne_of_gt (hw1.row h0).lt, Nat.le_refl _, ⟨_, hw1.below hb2, fun i hi => absurd hi (Nat.not_lt_zero _), fun i _ _ => rfl⟩, hV1.below hb2⟩
    have HT := hide hT; clear hT
    clear hb1 hb2 hm2 hs2 hw1 hV1
    generalize w1.heap.size = mb at *
    clear w1
    obtain ⟨g, hg⟩ : ∃ g, w'.heap.size = g := ⟨_, rfl⟩
    have HTg : Hid (Turn w' W2 a n S C D cb db mb am g 0) := hg ▸ HT
    clear HT
    have HG := hide hg; clear hg
    go_loopw [5, 6] (fun cu st wr => ∃ cur s : Nat, s ≤ cur ∧ cur ≤ n ∧ cu = .int .i64 cur ∧ st = .int .i64 s ∧ Turn w' wr a n S C D cb db mb am g cur) (fun _ st _ => n + 1 - (intOf st).toNat)
    case atStart => exact ⟨0, 0, Nat.le_refl _, Nat.zero_le _, rfl, rfl, HTg.out⟩
    case round =>
      obtain ⟨cur, s, hs, hc, rfl, rfl, hT⟩ := hrel
      have HT := hide hT
      have hsn : s ≤ n := by omega
      have hvr := hT.v
      rcases fst_cases (fun i => mark (flag C cb) (cur + i)) (n - cur) with ⟨_, hno⟩ | ⟨j, _, hj, hM, hno⟩
      · have hno' : ∀ i, cur ≤ i → i < n → mark (flag C cb) i = false := fun i h1 h2 => by
          have := hno (i - cur) (by omega); rwa [show cur + (i - cur) = i from by omega] at this
        have c9 := hT.none_left hn hno'
        have hmm := hT.m
        clear hno hT
        have HNO := hide hno'; clear hno'
        have C9 := hide c9; clear c9
        have HVR := hide hvr; clear hvr
        go_wp2_with fail
        go_loopw [7, 8] (fun wa i wz => ∃ q : Nat, cur ≤ q ∧ q ≤ n ∧ i = .int .i64 q ∧ wa = .int .i64 (-1) ∧ wz = wr) (fun _ i _ => n - (intOf i).toNat)
        case atStart => exact ⟨cur, Nat.le_refl _, hc, rfl, rfl, rfl⟩
        case round =>
          obtain ⟨q, hq1, hq2, rfl, rfl, hwz⟩ := hrel
          subst hwz
          by_cases hlt : q < n
          · obtain ⟨b, off, hx, hR⟩ := HVR.out.refs (by omega)
            subst hx
            have hMq := HNO.out q hq1 hlt
            have c4 := hR.c q hlt
            have hcp := hR.cp q hlt
            clear hR
            cases hC : C q with
            | none =>
              rw [hC] at c4
              have HC := hide hC; clear hC hMq hcp
              go_wp2_with (go_at_call 10; refine (marked_nil _).mono ?_; rintro e w13 ⟨rfl, hw13⟩; subst hw13)
              go_roundw
              case rel => exact ⟨q + 1, by omega, by omega, by go_num, rfl, by first | rfl | trivial⟩
              case measure => simp [intOf]; omega
            | some pp =>
              rw [hC] at c4
              have hpp : wr.cell? pp = some (.bool false) := by
                rw [(hcp pp hC).1, ← mark_some (cb := cb) hC, hMq]
              have HC := hide hC; clear hC hMq hcp
              go_wp2_with (go_at_call 10; refine (marked_at pp false _ (by assumption)).mono ?_; rintro e w13 ⟨rfl, hw13⟩; subst hw13)
              go_roundw
              case rel => exact ⟨q + 1, by omega, by omega, by go_num, rfl, by first | rfl | trivial⟩
              case measure => simp [intOf]; omega
          · go_wp2_with fail
            refine C9.out.mono ?_
            rintro e w3 ⟨rfl, hb3⟩
            have hT3 := HT.out.below hb3
            have hm3 := hT3.m
            have HT3 := hide hT3; clear hT3 hb3
            go_wp2_with (go_at_call 8; refine (index_nil am n n _).mono ?_; rintro e w4 ⟨rfl, hw4⟩; subst hw4)
            go_ret
            exact ⟨rfl, HT3.out.bel⟩
      · have hno' : ∀ i, cur ≤ i → i < cur + j → mark (flag C cb) i = false := fun i h1 h2 => by
          have := hno (i - cur) (by omega); rwa [show cur + (i - cur) = i from by omega] at this
        obtain ⟨p, hp⟩ : ∃ p, cur + j = p := ⟨_, rfl⟩
        have hp1 : cur ≤ p := by omega
        have hp2 : p < n := by omega
        simp only [hp] at hM hno'
        have c9 := hT.next hn p hp1 hp2 hM hno'
        obtain ⟨b, off, hx, hR⟩ := hvr.refs (by omega)
        subst hx
        have hat : am = some ⟨g, 0, none⟩ := let ⟨G, h1, _⟩ := hT.has; h1.at_ (by omega)
        subst hat
        clear hno hT hj hp
        have HNO := hide hno'; clear hno'
        have C9 := hide c9; clear c9
        have HRR := hide hR; clear hR hvr
        have HM := hide hM; clear hM
        go_wp2_with fail
        go_loopw [7, 8] (fun wa i wz => ∃ q : Nat, cur ≤ q ∧ q ≤ p ∧ i = .int .i64 q ∧ wa = .int .i64 (-1) ∧ wz = wr) (fun _ i _ => n - (intOf i).toNat)
        case atStart => exact ⟨cur, Nat.le_refl _, hp1, rfl, rfl, rfl⟩
        case round =>
          obtain ⟨q, hq1, hq2, rfl, rfl, hwz⟩ := hrel
          subst hwz
          have hlt : q < n := by omega
          have c4 := HRR.out.c q hlt
          have hcp := HRR.out.cp q hlt
          by_cases hqp : q = p
          · subst hqp
            have hcc : ∃ pp, C q = some pp ∧ wr.cell? pp = some (.bool true) := by
              cases hC : C q with
              | none => have := HM.out; rw [mark_none hC] at this; cases this
              | some pp =>
                refine ⟨pp, rfl, ?_⟩
                rw [(hcp pp hC).1, ← mark_some (cb := cb) hC, HM.out]
            obtain ⟨pp, hC, hpp⟩ := hcc
            rw [hC] at c4
            have HC := hide hC; clear hC hcp
            go_wp2_with (go_at_call 10; refine (marked_at _ true _ (by assumption)).mono ?_; rintro e w13 ⟨rfl, hw13⟩; subst hw13)
            refine C9.out.mono ?_
            rintro e w3 ⟨rfl, hb3⟩
            have hT3 := HT.out.below hb3
            have hm3 := hT3.m
            obtain ⟨G, hG, _, _⟩ := hT3.has
            have hrow := hG.row (by omega)
            obtain ⟨t0, t1, t2, t3, b4, b5, _, _, _, _, d4, _, hfr, _⟩ := hG.els q hlt
            have HT3 := hide hT3; clear hT3 hb3 hG hpp c4
            have C8 := hide (index_at g n n q w3 hn hlt hrow); clear hrow
            go_wp2_with fail
            refine C8.out.mono ?_
            rintro e w4 ⟨rfl, hw4⟩
            subst hw4
            go_wp2_with fail
            go_roundw
            case rel => exact ⟨q + 1, s + 1, by omega, by omega, by go_num, by go_num, HT3.out.step HV.out q hq1 hlt HNO.out⟩
            case measure => simp [intOf]; omega
          · have hMq := HNO.out q hq1 (by omega)
            cases hC : C q with
            | none =>
              rw [hC] at c4
              have HC := hide hC; clear hC hMq hcp
              go_wp2_with (go_at_call 10; refine (marked_nil _).mono ?_; rintro e w13 ⟨rfl, hw13⟩; subst hw13)
              go_roundw
              case rel => exact ⟨q + 1, by omega, by omega, by go_num, rfl, by first | rfl | trivial⟩
              case measure => simp [intOf]; omega
            | some pp =>
              rw [hC] at c4
              have hpp : wr.cell? pp = some (.bool false) := by
                rw [(hcp pp hC).1, ← mark_some (cb := cb) hC, hMq]
              have HC := hide hC; clear hC hMq hcp
              go_wp2_with (go_at_call 10; refine (marked_at pp false _ (by assumption)).mono ?_; rintro e w13 ⟨rfl, hw13⟩; subst hw13)
              go_roundw
              case rel => exact ⟨q + 1, by omega, by omega, by go_num, rfl, by first | rfl | trivial⟩
              case measure => simp [intOf]; omega
  · have hsm' : 4096 < n := by omega
    go_wp2_with fail
    go_ret
    exact ⟨rfl, Below.refl _ _⟩

theorem clear_walk (a : Option Addr) (n c : Nat) (w : World) (S : Nat → Nat → ByteArray) (C D : Nat → Option Addr) (cb db : Nat → Bool) (hV : View w a n S C D cb db) :
    Calls Try.prog 4 #[.slice a n c] w fun e w' => e = .returned (.bool true) ∧ Below w.heap.size w w' := by
  rcases bytesO_any a n c w S C D cb db hV with ⟨hn, h5⟩ | h5
  · exact clear_in a n c w S C D cb db hn hV h5 (fit_any a n c w S C D cb db hV hn)
  · have H5 := hide h5; clear h5
    go_enter Try.func4, Try.ntmps4
    go_wp2_with fail
    refine H5.out.mono ?_
    rintro e w' ⟨rfl, hw⟩
    subst hw
    go_wp2_with fail
    go_ret
    exact ⟨rfl, Below.refl _ _⟩
end Go.Proofs.Qxb6629165a
