/-
  THE PLAIN LAW: a payload of branches without separators cuts back into its pieces.
-/
import Derived.Test.Qxb6629206aDoorSep
import Derived.Test.Qxb6629206aDoorPlain
import Derived.Test.Qxb6629206aDoorValue
namespace Go.Proofs.Qxb6629206aDoor
open Go.RowKit
set_option linter.unusedVariables false

/-! ### Bytes and lists -/
theorem byte_at {s : ByteArray} {t : Nat} (h : t < s.size) {c : UInt8} (hc : s.data.toList[t]? = some c) : s[t] = c := by
  have e : s[t] = s.data.toList[t]'(by rw [← size_eq]; exact h) := by
    show s.data[t] = _
    simp
  rw [e]
  exact (List.getElem?_eq_some_iff.1 hc).2

theorem noSep_mem {s : ByteArray} (h : NoSep s) {c : UInt8} (hc : c ∈ s.data.toList) : c ≠ 44 ∧ c ≠ 47 := by
  obtain ⟨t, ht, e⟩ := List.getElem_of_mem hc
  have ht' : t < s.size := by rw [size_eq]; exact ht
  have hb := h t ht'
  rw [byte_at ht' (List.getElem?_eq_some_iff.2 ⟨ht, e⟩)] at hb
  exact ⟨fun h => hb.1 (by rw [h]; rfl), fun h => hb.2 (by rw [h]; rfl)⟩

theorem ext_list {a b : ByteArray} (h : a.data.toList = b.data.toList) : a = b := by
  apply ByteArray.ext
  exact Array.toList_inj.1 h

theorem pc_list (r g s : ByteArray) : (pc r g s).data.toList = if s.toList.isEmpty then r.data.toList ++ 47 :: g.data.toList else r.data.toList ++ 47 :: (g.data.toList ++ 47 :: s.data.toList) := by
  unfold pc
  split
  · simp [ByteArray.data_append]
  · simp [ByteArray.data_append]

theorem pc_no44 {r g s : ByteArray} (hr : NoSep r) (hg : NoSep g) (hs : NoSep s) {c : UInt8} (hc : c ∈ (pc r g s).data.toList) : c ≠ 44 := by
  rw [pc_list] at hc
  split at hc
  · simp only [List.mem_append, List.mem_cons] at hc
    rcases hc with h | rfl | h
    · exact (noSep_mem hr h).1
    · decide
    · exact (noSep_mem hg h).1
  · simp only [List.mem_append, List.mem_cons] at hc
    rcases hc with h | rfl | h | rfl | h
    · exact (noSep_mem hr h).1
    · decide
    · exact (noSep_mem hg h).1
    · decide
    · exact (noSep_mem hs h).1

theorem ne47 {c : UInt8} (h : c ≠ 47) : (c.toNat : Int) ≠ 47 := fun e => h (UInt8.toNat_inj.1 (by show c.toNat = 47; omega))
theorem ne44 {c : UInt8} (h : c ≠ 44) : (c.toNat : Int) ≠ 44 := fun e => h (UInt8.toNat_inj.1 (by show c.toNat = 44; omega))

/-- pieceIs at a branch's own piece. -/
theorem piece_ok (r g s : ByteArray) (hz : r.size + g.size + s.size ≤ 2097152) (hr : NoSep r) (hg : NoSep g) (hs : NoSep s) (w : World) :
    Calls Tryd.prog 18 #[.string (pc r g s), .agg #[.string r, .string g, .string s]] w fun e w' => e = .returned (.bool true) ∧ Below w.heap.size w w' := by
  have hl := pc_list r g s
  have hsz : (pc r g s).size ≤ 8388608 := by rw [pc_size]; have := pcl_le r g s; omega
  have hrl := size_eq r
  have hgl := size_eq g
  have hsl := size_eq s
  have hpl := size_eq (pc r g s)
  by_cases he : s.toList.isEmpty = true
  · rw [if_pos he] at hl
    have hlen : (pc r g s).size = r.size + 1 + g.size := by rw [hpl, hl]; simp [← hrl, ← hgl]; omega
    refine piece18_one (pc r g s) r g s r.size w hsz (by omega) ?_ ?_ he ?_ ?_
    · rw [byte_at (by omega) (c := 47) (by rw [hl, List.getElem?_append_right (by omega), hrl]; simp)]; rfl
    · intro k hk hne
      refine ne47 fun e => ?_
      have hk2 : (pc r g s).data.toList[k]? = some 47 := by
        have := List.getElem?_eq_getElem (l := (pc r g s).data.toList) (i := k) (by rw [← hpl]; exact hk)
        rw [this]
        have hb := byte_at hk this
        rw [hb] at e
        rw [e]
      rw [hl] at hk2
      by_cases hkr : k < r.size
      · rw [List.getElem?_append_left (by omega)] at hk2
        exact (noSep_mem hr (List.mem_of_getElem? hk2)).2 rfl
      · rw [List.getElem?_append_right (by omega), List.getElem?_cons] at hk2
        rw [if_neg (by omega)] at hk2
        exact (noSep_mem hg (List.mem_of_getElem? hk2)).2 rfl
    · rw [Lib.extract_toList, hl, List.drop_zero, Nat.sub_zero, hrl, List.take_left, Lib.toList_data]
      simp
    · rw [Lib.extract_toList, hl, hlen]
      have : r.data.toList ++ 47 :: g.data.toList = (r.data.toList ++ [47]) ++ g.data.toList := by simp
      rw [this, List.drop_append_of_le_length (by first | (simp; done) | (simp; omega)), List.drop_of_length_le (by first | (simp; done) | (simp; omega)), List.nil_append, List.take_of_length_le (by omega), Lib.toList_data]
      simp
  · rw [if_neg he] at hl
    have hlen : (pc r g s).size = r.size + 1 + g.size + 1 + s.size := by rw [hpl, hl]; simp [← hrl, ← hgl, ← hsl]; omega
    refine piece18_two (pc r g s) r g s r.size (r.size + 1 + g.size) w hsz (by omega) (by omega) ?_ ?_ ?_ (by simpa using he) ?_ ?_ ?_
    · rw [byte_at (by omega) (c := 47) (by rw [hl, List.getElem?_append_right (by omega), hrl]; simp)]; rfl
    · rw [byte_at (by omega) (c := 47) (by
        rw [hl, List.getElem?_append_right (by omega), List.getElem?_cons, if_neg (by omega), List.getElem?_append_right (by omega), List.getElem?_cons, if_pos (by omega)])]
      rfl
    · intro k hk hne hne2
      refine ne47 fun e => ?_
      have hk2 : (pc r g s).data.toList[k]? = some 47 := by
        have := List.getElem?_eq_getElem (l := (pc r g s).data.toList) (i := k) (by rw [← hpl]; exact hk)
        rw [this]
        have hb := byte_at hk this
        rw [hb] at e
        rw [e]
      rw [hl] at hk2
      by_cases hkr : k < r.size
      · rw [List.getElem?_append_left (by omega)] at hk2
        exact (noSep_mem hr (List.mem_of_getElem? hk2)).2 rfl
      · rw [List.getElem?_append_right (by omega), List.getElem?_cons, if_neg (by omega)] at hk2
        by_cases hkg : k < r.size + 1 + g.size
        · rw [List.getElem?_append_left (by omega)] at hk2
          exact (noSep_mem hg (List.mem_of_getElem? hk2)).2 rfl
        · rw [List.getElem?_append_right (by omega), List.getElem?_cons, if_neg (by omega)] at hk2
          exact (noSep_mem hs (List.mem_of_getElem? hk2)).2 rfl
    · rw [Lib.extract_toList, hl, List.drop_zero, Nat.sub_zero, hrl, List.take_left, Lib.toList_data]
      simp
    · rw [Lib.extract_toList, hl]
      have : r.data.toList ++ 47 :: (g.data.toList ++ 47 :: s.data.toList) = (r.data.toList ++ [47]) ++ (g.data.toList ++ 47 :: s.data.toList) := by simp
      rw [this, List.drop_append_of_le_length (by first | (simp; done) | (simp; omega)), List.drop_of_length_le (by first | (simp; done) | (simp; omega)), List.nil_append, show r.size + 1 + g.size - (r.size + 1) = g.data.toList.length from by omega, List.take_left, Lib.toList_data]
      simp
    · rw [Lib.extract_toList, hl, hlen]
      have : r.data.toList ++ 47 :: (g.data.toList ++ 47 :: s.data.toList) = (r.data.toList ++ [47] ++ g.data.toList ++ [47]) ++ s.data.toList := by simp
      rw [this, List.drop_append_of_le_length (by first | (simp; done) | (simp; omega)), List.drop_of_length_le (by first | (simp; done) | (simp; omega)), List.nil_append, List.take_of_length_le (by omega), Lib.toList_data]
      simp

/-! ### The cuts -/
theorem joined_prefix (f : Nat → List UInt8) (k n : Nat) (h : k < n) : ∃ rest, joined f n = joined f (k + 1) ++ rest := by
  induction n with
  | zero => omega
  | succ n ih =>
    rcases Nat.lt_succ_iff_lt_or_eq.1 h with h | rfl
    · obtain ⟨rest, hr⟩ := ih h
      refine ⟨rest ++ [44] ++ f n, ?_⟩
      rw [joined_succ, if_neg (by omega), hr]
      simp
    · exact ⟨[], by simp⟩

theorem joined_len_succ (f : Nat → List UInt8) (k : Nat) : (joined f (k + 1)).length = (if k = 0 then 0 else (joined f k).length + 1) + (f k).length := by
  rw [joined_succ]
  by_cases h : k = 0
  · subst h; simp
  · simp only [if_neg h, List.length_append, List.length_cons, List.length_nil]

/-- The list from the k-th piece on. -/
theorem joined_at (f : Nat → List UInt8) (k n : Nat) (h : k < n) : ∃ rest, (joined f n).drop (if k = 0 then 0 else (joined f k).length + 1) = f k ++ rest := by
  obtain ⟨rest, hr⟩ := joined_prefix f k n h
  refine ⟨rest, ?_⟩
  rw [hr, joined_succ]
  by_cases hk : k = 0
  · subst hk; simp
  · simp only [if_neg hk]
    rw [List.append_assoc (joined f k ++ [44]), List.drop_append_of_le_length (by simp), List.drop_of_length_le (by simp), List.nil_append]

theorem cuts_pay (R G S : Nat → ByteArray) (n : Nat) (ht : tot (sz R G S) n ≤ 2097152) (hno : ∀ i, i < n → NoSep (R i) ∧ NoSep (G i) ∧ NoSep (S i)) :
    Cuts (pay R G S n) n (fun k => (joined (fun i => (pc (R i) (G i) (S i)).data.toList) k).length) R G S := by
  have hps : (pay R G S n).size = (joined (fun i => (pc (R i) (G i) (S i)).data.toList) n).length := by rw [size_eq, pay_list]
  have hle : ∀ k, k < n → (joined (fun i => (pc (R i) (G i) (S i)).data.toList) (k + 1)).length ≤ (pay R G S n).size := fun k hk => by
    obtain ⟨rest, hr⟩ := joined_prefix (fun i => (pc (R i) (G i) (S i)).data.toList) k n hk
    rw [hps, hr, List.length_append]
    omega
  refine ⟨rfl, hps.symm, fun k hk => ⟨?_, hle k hk⟩, fun k h0 hk => ?_, fun k hk t h h1 h2 => ?_, fun k hk w => ?_⟩
  · rw [joined_len_succ]; omega
  · have hl := hle k hk
    rw [joined_len_succ, if_neg (by omega)] at hl
    have hlt : (joined (fun i => (pc (R i) (G i) (S i)).data.toList) k).length < (pay R G S n).size := by omega
    refine ⟨hlt, ?_⟩
    obtain ⟨rest, hr⟩ := joined_prefix (fun i => (pc (R i) (G i) (S i)).data.toList) k n hk
    rw [joined_succ, if_neg (by omega)] at hr
    rw [byte_at hlt (c := 44) (by rw [pay_list, hr, List.append_assoc, List.append_assoc, List.getElem?_append_right (Nat.le_refl _), Nat.sub_self]; rfl)]
    rfl
  · have hlen := joined_len_succ (fun i => (pc (R i) (G i) (S i)).data.toList) k
    obtain ⟨rest, hr⟩ := joined_at (fun i => (pc (R i) (G i) (S i)).data.toList) k n hk
    generalize hst : (if k = 0 then 0 else (joined (fun i => (pc (R i) (G i) (S i)).data.toList) k).length + 1) = st at h1 hr hlen
    have hlt : t - st < ((pc (R k) (G k) (S k)).data.toList).length := by
      have : t < (joined (fun i => (pc (R i) (G i) (S i)).data.toList) (k + 1)).length := h2
      omega
    have hget : (pay R G S n).data.toList[t]? = (pc (R k) (G k) (S k)).data.toList[t - st]? := by
      rw [pay_list, show t = st + (t - st) from by omega, ← List.getElem?_drop, hr, List.getElem?_append_left hlt, show st + (t - st) - st = t - st from by omega]
    rw [List.getElem?_eq_getElem hlt] at hget
    rw [byte_at h hget]
    obtain ⟨a, b, c⟩ := hno k hk
    exact ne44 (pc_no44 a b c (List.getElem_mem _))
  · have hlen := joined_len_succ (fun i => (pc (R i) (G i) (S i)).data.toList) k
    obtain ⟨rest, hr⟩ := joined_at (fun i => (pc (R i) (G i) (S i)).data.toList) k n hk
    have hx : (pay R G S n).extract (if k = 0 then 0 else (joined (fun i => (pc (R i) (G i) (S i)).data.toList) k).length + 1) (joined (fun i => (pc (R i) (G i) (S i)).data.toList) (k + 1)).length = pc (R k) (G k) (S k) := by
      apply ext_list
      rw [Lib.extract_data, pay_list, hr, hlen, Nat.add_sub_cancel_left, List.take_left]
    show Calls Tryd.prog 18 #[.string ((pay R G S n).extract (if k = 0 then 0 else (joined (fun i => (pc (R i) (G i) (S i)).data.toList) k).length + 1) (joined (fun i => (pc (R i) (G i) (S i)).data.toList) (k + 1)).length), _] w _
    rw [hx]
    obtain ⟨a, b, c⟩ := hno k hk
    have hz := le_tot (sz R G S) n k hk
    exact piece_ok _ _ _ (by unfold sz at hz ht; omega) a b c w

end Go.Proofs.Qxb6629206aDoor
