/-
  THE WALKS over hasSep, anySep, pieceIs, decodesTo.
-/
import Derived.Test.Qxb6629206aDoorBuild
import Derived.Deep.QuietTactic
import Derived.BigQuiet
namespace Go.Proofs.Qxb6629206aDoor
open Go.RowKit
set_option linter.unusedVariables false

/-- No byte of s is a separator. -/
def NoSep (s : ByteArray) : Prop := ∀ k (h : k < s.size), (s[k].toNat : Int) ≠ 44 ∧ (s[k].toNat : Int) ≠ 47

def SepAns (e : Ending) (p : Prop) : Prop := ∃ r, e = .returned (.bool r) ∧ (r = false → p)
theorem SepAns.yes (p : Prop) : SepAns (.returned (.bool true)) p := ⟨true, rfl, fun h => (nomatch h)⟩
theorem SepAns.no {p : Prop} (h : p) : SepAns (.returned (.bool false)) p := ⟨false, rfl, fun _ => h⟩

set_option maxHeartbeats 1000000 in
theorem has17 (s : ByteArray) (hs : s.size ≤ 2097152) (w : World) : Calls Tryd.prog 17 #[.string s] w fun e w' => SepAns e (NoSep s) ∧ w' = w := by
  go_enter Tryd.func17, Tryd.ntmps17
  go_wp2_with fail
  go_loop [3] (fun i => ∃ k : Nat, k ≤ s.size ∧ i = .int .i64 k ∧ ∀ j (h : j < s.size), j < k → (s[j].toNat : Int) ≠ 44 ∧ (s[j].toNat : Int) ≠ 47) (fun i => s.size - (intOf i).toNat)
  case atStart => exact ⟨0, by omega, rfl, fun j _ hj => absurd hj (Nat.not_lt_zero _)⟩
  case round =>
    obtain ⟨k, hk, rfl, hno⟩ := hrel
    have HN := hide hno; clear hno
    by_cases hlt : k < s.size
    · by_cases h1 : (s[k].toNat : Int) = 44
      · have e1 : ((s[k].toNat : Int) == 44) = true := by simpa using h1
        have H1 := hide h1; clear h1
        go_wp2_with fail
        go_ret
        exact ⟨SepAns.yes _, rfl⟩
      · by_cases h2 : (s[k].toNat : Int) = 47
        · have e1 : ((s[k].toNat : Int) == 44) = false := by simpa using h1
          have e2 : ((s[k].toNat : Int) == 47) = true := by simpa using h2
          have H1 := hide h1; have H2 := hide h2; clear h1 h2
          go_wp2_with fail
          go_ret
          exact ⟨SepAns.yes _, rfl⟩
        · have e1 : ((s[k].toNat : Int) == 44) = false := by simpa using h1
          have e2 : ((s[k].toNat : Int) == 47) = false := by simpa using h2
          have H1 := hide h1; have H2 := hide h2; clear h1 h2
          go_wp2_with fail
          go_round
          case rel =>
            refine ⟨k + 1, by omega, by go_num, fun j hj hjk => ?_⟩
            rcases Nat.lt_succ_iff_lt_or_eq.1 hjk with h | rfl
            · exact HN.out j hj h
            · exact ⟨H1.out, H2.out⟩
          case measure => simp [intOf]; omega
    · go_wp2_with fail
      go_ret
      exact ⟨SepAns.no fun j hj => HN.out j hj (by omega), rfl⟩

set_option maxHeartbeats 1000000 in
set_option maxRecDepth 100000 in
theorem any11 (a : Option Addr) (n c : Nat) (w : World) (R G S : Nat → ByteArray) (hn : n ≤ 2097152) (ht : tot (sz R G S) n ≤ 2097152) (hA : Bs w a n R G S) :
    Calls Tryd.prog 11 #[.slice a n c] w fun e w' => SepAns e (∀ i, i < n → NoSep (R i) ∧ NoSep (G i) ∧ NoSep (S i)) ∧ w' = w := by
  have HA := hide hA; clear hA
  go_enter Tryd.func11, Tryd.ntmps11
  go_wp2_with fail
  go_loopw [3] (fun i wr => ∃ k : Nat, k ≤ n ∧ i = .int .i64 k ∧ wr = w ∧ ∀ j, j < k → NoSep (R j) ∧ NoSep (G j) ∧ NoSep (S j)) (fun i _ => n - (intOf i).toNat)
  case atStart => exact ⟨0, by omega, rfl, rfl, fun j hj => absurd hj (Nat.not_lt_zero _)⟩
  case round =>
    obtain ⟨k, hk, rfl, hw, hno⟩ := hrel
    subst hw
    have HN := hide hno; clear hno
    by_cases hlt : k < n
    · have hzk := le_tot (sz R G S) n k hlt
      have z0 : (R k).size ≤ 2097152 := by unfold sz at hzk ht; omega
      have z1 : (G k).size ≤ 2097152 := by unfold sz at hzk ht; omega
      have z2 : (S k).size ≤ 2097152 := by unfold sz at hzk ht; omega
      clear hzk
      obtain ⟨b, off, rfl, hbl, hcl⟩ := HA.out.at_ (by omega)
      obtain ⟨c0, c1, c2⟩ := hcl k hlt
      clear hcl
      have C0 := hide (has17 (R k) z0 wr)
      have C1 := hide (has17 (G k) z1 wr)
      have C2 := hide (has17 (S k) z2 wr)
      have HS : Hid (∀ p0 : NoSep (R k), ∀ p1 : NoSep (G k), ∀ p2 : NoSep (S k), ∀ j, j < k + 1 → NoSep (R j) ∧ NoSep (G j) ∧ NoSep (S j)) := fun p0 p1 p2 j hj => by
        rcases Nat.lt_succ_iff_lt_or_eq.1 hj with h | rfl
        · exact HN.out j h
        · exact ⟨p0, p1, p2⟩
      clear HN
      generalize hq0 : NoSep (R k) = q0 at C0 HS
      generalize hq1 : NoSep (G k) = q1 at C1 HS
      generalize hq2 : NoSep (S k) = q2 at C2 HS
      clear hq0 hq1 hq2
      generalize R k = s0 at c0 z0 C0
      generalize G k = s1 at c1 z1 C1
      generalize S k = s2 at c2 z2 C2
      go_wp2_with fail
      refine C0.out.mono ?_
      rintro e w1 ⟨⟨r0, rfl, h0⟩, hw1⟩
      subst hw1
      cases r0 with
      | true =>
        clear h0
        go_wp2_with fail
        go_ret
        exact ⟨SepAns.yes _, rfl⟩
      | false =>
        have p0 := hide (h0 rfl); clear h0
        go_wp2_with fail
        refine C1.out.mono ?_
        rintro e w1 ⟨⟨r1, rfl, h1⟩, hw1⟩
        subst hw1
        cases r1 with
        | true =>
          clear h1
          go_wp2_with fail
          go_ret
          exact ⟨SepAns.yes _, rfl⟩
        | false =>
          have p1 := hide (h1 rfl); clear h1
          go_wp2_with fail
          refine C2.out.mono ?_
          rintro e w1 ⟨⟨r2, rfl, h2⟩, hw1⟩
          subst hw1
          cases r2 with
          | true =>
            clear h2
            go_wp2_with fail
            go_ret
            exact ⟨SepAns.yes _, rfl⟩
          | false =>
            have p2 := hide (h2 rfl); clear h2
            go_wp2_with fail
            go_roundw
            case rel => exact ⟨k + 1, by omega, by go_num, by first | rfl | trivial, HS.out p0.out p1.out p2.out⟩
            case measure => simp [intOf]; omega
    · obtain rfl : k = n := by omega
      go_wp2_with fail
      go_ret
      exact ⟨SepAns.no HN.out, rfl⟩

set_option maxHeartbeats 1000000 in
set_option maxRecDepth 100000 in
/-- pieceIs at a piece with one slash, the branch without a server. -/
theorem piece18_one (p r g s : ByteArray) (fr : Nat) (w : World) (hp : p.size ≤ 8388608) (hf : fr < p.size) (h47 : (p[fr].toNat : Int) = 47) (hno : ∀ k (h : k < p.size), k ≠ fr → (p[k].toNat : Int) ≠ 47)
    (hs : s.toList.isEmpty = true) (hr : ((p.extract 0 fr).toList == r.toList) = true) (hg : ((p.extract (fr + 1) p.size).toList == g.toList) = true) :
    Calls Tryd.prog 18 #[.string p, .agg #[.string r, .string g, .string s]] w fun e w' => e = .returned (.bool true) ∧ Below w.heap.size w w' := by
  have HN := hide hno; clear hno
  have H47 := hide h47; clear h47
  go_enter Tryd.func18, Tryd.ntmps18
  go_wp2_with fail
  go_loop [5, 6, 7, 8] (fun f t cn j => ∃ k : Nat, k ≤ p.size ∧ j = .int .i64 k ∧ t = .int .i64 (-1) ∧ ((k ≤ fr ∧ f = .int .i64 (-1) ∧ cn = .int .i64 0) ∨ (fr < k ∧ f = .int .i64 fr ∧ cn = .int .i64 1))) (fun _ _ _ j => p.size - (intOf j).toNat)
  case atStart => exact ⟨0, by omega, rfl, rfl, .inl ⟨by omega, rfl, rfl⟩⟩
  case round =>
    obtain ⟨k, hk, rfl, rfl, hcase⟩ := hrel
    by_cases hlt : k < p.size
    · by_cases hkf : k = fr
      · subst hkf
        have e1 : ((p[k].toNat : Int) == 47) = true := by simpa using H47.out
        rcases hcase with ⟨_, rfl, rfl⟩ | ⟨h, _, _⟩
        · go_wp2_with fail
          go_round
          case rel => exact ⟨k + 1, by omega, by go_num, rfl, .inr ⟨by omega, rfl, rfl⟩⟩
          case measure => simp [intOf]; omega
        · omega
      · have e1 : ((p[k].toNat : Int) == 47) = false := by simpa using HN.out k hlt hkf
        rcases hcase with ⟨h, rfl, rfl⟩ | ⟨h, rfl, rfl⟩
        · go_wp2_with fail
          go_round
          case rel => exact ⟨k + 1, by omega, by go_num, rfl, .inl ⟨by omega, rfl, rfl⟩⟩
          case measure => simp [intOf]; omega
        · go_wp2_with fail
          go_round
          case rel => exact ⟨k + 1, by omega, by go_num, rfl, .inr ⟨by omega, rfl, rfl⟩⟩
          case measure => simp [intOf]; omega
    · rcases hcase with ⟨h, _, _⟩ | ⟨h, rfl, rfl⟩
      · omega
      · have hf0 : (0 : Int) ≤ (fr : Int) := by omega
        have hf1 : (fr : Int) ≤ (p.size : Int) := by omega
        have hf2 : (fr : Int) + 1 ≤ (p.size : Int) := by omega
        go_wp2_with fail
        go_quiet (fail)
        go_wp2_with fail
        go_ret
        exact ⟨rfl, below_drewN ((Below.refl _ _).alloc (Nat.le_refl _) _) _⟩

set_option maxHeartbeats 1000000 in
set_option maxRecDepth 100000 in
/-- pieceIs at a piece with two slashes, the branch with a server. -/
theorem piece18_two (p r g s : ByteArray) (fr se : Nat) (w : World) (hp : p.size ≤ 8388608) (hfs : fr < se) (hf : se < p.size) (h47 : (p[fr].toNat : Int) = 47) (h47' : (p[se].toNat : Int) = 47) (hno : ∀ k (h : k < p.size), k ≠ fr → k ≠ se → (p[k].toNat : Int) ≠ 47)
    (hs : s.toList.isEmpty = false) (hr : ((p.extract 0 fr).toList == r.toList) = true) (hg : ((p.extract (fr + 1) se).toList == g.toList) = true) (hss : ((p.extract (se + 1) p.size).toList == s.toList) = true) :
    Calls Tryd.prog 18 #[.string p, .agg #[.string r, .string g, .string s]] w fun e w' => e = .returned (.bool true) ∧ Below w.heap.size w w' := by
  have HN := hide hno; clear hno
  have H47 := hide h47; clear h47
  have H47' := hide h47'; clear h47'
  go_enter Tryd.func18, Tryd.ntmps18
  go_wp2_with fail
  go_loop [5, 6, 7, 8] (fun f t cn j => ∃ k : Nat, k ≤ p.size ∧ j = .int .i64 k ∧ ((k ≤ fr ∧ f = .int .i64 (-1) ∧ t = .int .i64 (-1) ∧ cn = .int .i64 0) ∨ (fr < k ∧ k ≤ se ∧ f = .int .i64 fr ∧ t = .int .i64 (-1) ∧ cn = .int .i64 1) ∨ (se < k ∧ f = .int .i64 fr ∧ t = .int .i64 se ∧ cn = .int .i64 2))) (fun _ _ _ j => p.size - (intOf j).toNat)
  case atStart => exact ⟨0, by omega, rfl, .inl ⟨by omega, rfl, rfl, rfl⟩⟩
  case round =>
    obtain ⟨k, hk, rfl, hcase⟩ := hrel
    by_cases hlt : k < p.size
    · by_cases hkf : k = fr
      · subst hkf
        have e1 : ((p[k].toNat : Int) == 47) = true := by simpa using H47.out
        rcases hcase with ⟨_, rfl, rfl, rfl⟩ | ⟨h, _, _, _, _⟩ | ⟨h, _, _, _⟩
        · go_wp2_with fail
          go_round
          case rel => exact ⟨k + 1, by omega, by go_num, .inr (.inl ⟨by omega, by omega, rfl, rfl, rfl⟩)⟩
          case measure => simp [intOf]; omega
        · omega
        · omega
      · by_cases hks : k = se
        · subst hks
          have e1 : ((p[k].toNat : Int) == 47) = true := by simpa using H47'.out
          rcases hcase with ⟨h, _, _, _⟩ | ⟨_, _, rfl, rfl, rfl⟩ | ⟨h, _, _, _⟩
          · omega
          · go_wp2_with fail
            go_round
            case rel => exact ⟨k + 1, by omega, by go_num, .inr (.inr ⟨by omega, rfl, rfl, rfl⟩)⟩
            case measure => simp [intOf]; omega
          · omega
        · have e1 : ((p[k].toNat : Int) == 47) = false := by simpa using HN.out k hlt hkf hks
          rcases hcase with ⟨h, rfl, rfl, rfl⟩ | ⟨h, h', rfl, rfl, rfl⟩ | ⟨h, rfl, rfl, rfl⟩
          · go_wp2_with fail
            go_round
            case rel => exact ⟨k + 1, by omega, by go_num, .inl ⟨by omega, rfl, rfl, rfl⟩⟩
            case measure => simp [intOf]; omega
          · go_wp2_with fail
            go_round
            case rel => exact ⟨k + 1, by omega, by go_num, .inr (.inl ⟨by omega, by omega, rfl, rfl, rfl⟩)⟩
            case measure => simp [intOf]; omega
          · go_wp2_with fail
            go_round
            case rel => exact ⟨k + 1, by omega, by go_num, .inr (.inr ⟨by omega, rfl, rfl, rfl⟩)⟩
            case measure => simp [intOf]; omega
    · rcases hcase with ⟨h, _, _, _⟩ | ⟨h, h', _, _, _⟩ | ⟨h, rfl, rfl, rfl⟩
      · omega
      · omega
      · have hf0 : (0 : Int) ≤ (fr : Int) := by omega
        have hf1 : (fr : Int) ≤ (p.size : Int) := by omega
        have hf2 : (fr : Int) + 1 ≤ (se : Int) := by omega
        have hf3 : (se : Int) ≤ (p.size : Int) := by omega
        have hf4 : (se : Int) + 1 ≤ (p.size : Int) := by omega
        go_wp2_with fail
        go_quiet (fail)
        go_wp2_with fail
        go_ret
        exact ⟨rfl, below_drewN ((Below.refl _ _).alloc (Nat.le_refl _) _) _⟩

/-- What decodesTo is told of the text: E k: where the first k pieces end. -/
structure Cuts (out : ByteArray) (n : Nat) (E : Nat → Nat) (R G S : Nat → ByteArray) : Prop where
  zero : E 0 = 0
  last : E n = out.size
  le : ∀ k, k < n → (if k = 0 then 0 else E k + 1) ≤ E (k + 1) ∧ E (k + 1) ≤ out.size
  comma : ∀ k, 0 < k → k < n → ∃ h : E k < out.size, (out[E k].toNat : Int) = 44
  none : ∀ k, k < n → ∀ t (h : t < out.size), (if k = 0 then 0 else E k + 1) ≤ t → t < E (k + 1) → (out[t].toNat : Int) ≠ 44
  piece : ∀ k, k < n → ∀ w : World, Calls Tryd.prog 18 #[.string (out.extract (if k = 0 then 0 else E k + 1) (E (k + 1))), .agg #[.string (R k), .string (G k), .string (S k)]] w fun e w' => e = .returned (.bool true) ∧ Below w.heap.size w w'

set_option maxHeartbeats 2000000 in
set_option maxRecDepth 100000 in
theorem dec12 (out : ByteArray) (a : Option Addr) (n c : Nat) (w : World) (R G S : Nat → ByteArray) (E : Nat → Nat) (hn : n ≤ 2097152) (hn0 : 0 < n) (ho : out.size ≤ 16777216) (hA : Bs w a n R G S) (hC : Cuts out n E R G S) :
    Calls Tryd.prog 12 #[.string out, .slice a n c] w fun e w' => e = .returned (.bool true) ∧ Below w.heap.size w w' := by
  have HA := hide hA; clear hA
  have HC := hide hC; clear hC
  have e0 : ((n : Int) == 0) = false := by simp only [beq_eq_false_iff_ne, ne_eq]; omega
  go_enter Tryd.func12, Tryd.ntmps12
  go_wp2_with fail
  go_loopw [5, 6] (fun ps i wr => ∃ k : Nat, k ≤ n ∧ i = .int .i64 k ∧ ps = .int .i64 (E k) ∧ Below w.heap.size w wr) (fun _ i _ => n - (intOf i).toNat)
  case atStart => exact ⟨0, by omega, rfl, by rw [HC.out.zero]; rfl, Below.refl _ _⟩
  case round =>
    obtain ⟨k, hk, rfl, rfl, hb⟩ := hrel
    by_cases hlt : k < n
    · obtain ⟨b, off, rfl, hbl, hcl⟩ := (HA.out.below hb).at_ (by omega)
      obtain ⟨c0, c1, c2⟩ := hcl k hlt
      clear hcl
      obtain ⟨hle, hle2⟩ := HC.out.le k hlt
      have hnone := HC.out.none k hlt
      have hpc := HC.out.piece k hlt
      have hnx : k + 1 < n → ∃ h : E (k + 1) < out.size, (out[E (k + 1)].toNat : Int) = 44 := fun h => HC.out.comma (k + 1) (by omega) h
      have hend : E (k + 1) = out.size ∨ ∃ h : E (k + 1) < out.size, (out[E (k + 1)].toNat : Int) = 44 := by
        by_cases h : k + 1 < n
        · exact .inr (hnx h)
        · left; rw [show k + 1 = n from by omega]; exact HC.out.last
      clear hnx
      have HBE := hide hb; clear hb
      by_cases hk0 : k = 0
      · subst hk0
        have hE0 := HC.out.zero
        simp only [Nat.zero_mul, Nat.add_zero] at c0 c1 c2
        simp only [if_true] at hle hnone hpc
        rw [hE0]
        have HN := hide hnone; have HP := hide hpc; have HE := hide hend; clear hnone hpc hend hE0
        generalize hq : E (0 + 1) = q at hle hle2 HN HP HE
        have HQ := hide hq; clear hq
        have hk00 : ¬ ((0 : Int) < ((0 : Nat) : Int)) := by omega
        go_wp2_with fail
        go_loop [7] (fun e => ∃ t : Nat, 0 ≤ t ∧ t ≤ q ∧ e = .int .i64 t) (fun e => q - (intOf e).toNat)
        case atStart => exact ⟨0, by omega, by omega, by go_num⟩
        case round =>
          obtain ⟨t, ht1, ht2, rfl⟩ := hrel
          by_cases htq : t < q
          · have htl : t < out.size := by omega
            have e2 : ((out[t].toNat : Int) != 44) = true := by rw [bne_iff_ne]; exact HN.out t htl ht1 htq
            go_wp2_with fail
            go_round
            case rel => exact ⟨t + 1, by omega, by omega, by go_num⟩
            case measure => simp [intOf]; omega
          · obtain rfl : t = q := by omega
            rcases HE.out with hqs | ⟨hqs, h44⟩
            · have hts : ¬ ((t : Int) < (out.size : Int)) := by omega
              have HQS := hide hqs; clear hqs
              go_wp2_with fail
              refine (HP.out _).mono ?_
              rintro e w1 ⟨rfl, hb1⟩
              have HB1 := hide (HBE.out.trans (hb1.mono HBE.out.size)); clear hb1
              go_wp2_with fail
              go_roundw
              case rel => exact ⟨0 + 1, by omega, by go_num, by rw [HQ.out], HB1.out⟩
              case measure => simp [intOf]; omega
            · have e2 : ((out[t].toNat : Int) != 44) = false := by simpa using h44
              have hts : (t : Int) < (out.size : Int) := by omega
              have H44 := hide h44; clear h44
              go_wp2_with fail
              refine (HP.out _).mono ?_
              rintro e w1 ⟨rfl, hb1⟩
              have HB1 := hide (HBE.out.trans (hb1.mono HBE.out.size)); clear hb1
              go_wp2_with fail
              go_roundw
              case rel => exact ⟨0 + 1, by omega, by go_num, by rw [HQ.out], HB1.out⟩
              case measure => simp [intOf]; omega
      · obtain ⟨ek, hek, hcl2, hcm⟩ : ∃ ek, E k = ek ∧ ∃ h : ek < out.size, (out[ek].toNat : Int) = 44 := ⟨E k, rfl, HC.out.comma k (by omega) hlt⟩
        simp only [if_neg hk0] at hle hnone hpc
        rw [hek] at hle hnone hpc ⊢
        have e3 : ((out[ek].toNat : Int) != 44) = false := by simpa using hcm
        have HN := hide hnone; have HP := hide hpc; have HE := hide hend; have HCM := hide hcm; have HEK := hide hek; clear hnone hpc hend hcm hek
        have hcl' : ¬ ((out.size : Int) ≤ (ek : Int)) := by omega
        generalize hq : E (k + 1) = q at hle hle2 HN HP HE
        have HQ := hide hq; clear hq
        have hk00 : (0 : Int) < (k : Int) := by omega
        go_wp2_with fail
        go_loop [7] (fun e => ∃ t : Nat, (ek + 1) ≤ t ∧ t ≤ q ∧ e = .int .i64 t) (fun e => q - (intOf e).toNat)
        case atStart => exact ⟨(ek + 1), by omega, by omega, by go_num⟩
        case round =>
          obtain ⟨t, ht1, ht2, rfl⟩ := hrel
          by_cases htq : t < q
          · have htl : t < out.size := by omega
            have e2 : ((out[t].toNat : Int) != 44) = true := by rw [bne_iff_ne]; exact HN.out t htl ht1 htq
            go_wp2_with fail
            go_round
            case rel => exact ⟨t + 1, by omega, by omega, by go_num⟩
            case measure => simp [intOf]; omega
          · obtain rfl : t = q := by omega
            rcases HE.out with hqs | ⟨hqs, h44⟩
            · have hts : ¬ ((t : Int) < (out.size : Int)) := by omega
              have HQS := hide hqs; clear hqs
              go_wp2_with fail
              refine (HP.out _).mono ?_
              rintro e w1 ⟨rfl, hb1⟩
              have HB1 := hide (HBE.out.trans (hb1.mono HBE.out.size)); clear hb1
              go_wp2_with fail
              go_roundw
              case rel => exact ⟨k + 1, by omega, by go_num, by rw [HQ.out], HB1.out⟩
              case measure => simp [intOf]; omega
            · have e2 : ((out[t].toNat : Int) != 44) = false := by simpa using h44
              have hts : (t : Int) < (out.size : Int) := by omega
              have H44 := hide h44; clear h44
              go_wp2_with fail
              refine (HP.out _).mono ?_
              rintro e w1 ⟨rfl, hb1⟩
              have HB1 := hide (HBE.out.trans (hb1.mono HBE.out.size)); clear hb1
              go_wp2_with fail
              go_roundw
              case rel => exact ⟨k + 1, by omega, by go_num, by rw [HQ.out], HB1.out⟩
              case measure => simp [intOf]; omega
    · obtain rfl : k = n := by omega
      have e1 : ((E k : Int) == (out.size : Int)) = true := by rw [HC.out.last]; simp
      go_wp2_with fail
      go_ret
      exact ⟨rfl, hb⟩
end Go.Proofs.Qxb6629206aDoor
