/-
  THE PLAIN LAWS OF SEAT b6601453aM: cutting a list of bytes at its last '/'. No Go program in sight.
-/
import Derived.Lib.Strings
import Derived.Lib.LastIndexByte
namespace Go.Proofs.Qxb6601453aMods.Plain

/-- Does the list hold the byte '/' (47)? -/
def hasB (l : List UInt8) : Bool := l.any (fun c => c == 47)

theorem hasB_append (a b : List UInt8) : hasB (a ++ b) = (hasB a || hasB b) := by
  unfold hasB; exact List.any_append

theorem hasB_slash (b a : List UInt8) : hasB (b ++ 47 :: a) = true := by
  rw [hasB_append]; simp [hasB]

/-- The list s cut at its last '/': (b, a). -/
def Cut (s b a : List UInt8) : Prop := (hasB s = false ∧ b = [] ∧ a = s) ∨ (s = b ++ 47 :: a ∧ hasB a = false)

theorem cut_uniq (b a b' a' : List UInt8) (h : b ++ 47 :: a = b' ++ 47 :: a') (ha : hasB a = false) (ha' : hasB a' = false) : b = b' ∧ a = a' := by
  rcases List.append_eq_append_iff.1 h with ⟨c, h1, h2⟩ | ⟨c, h1, h2⟩
  · cases c with
    | nil => simp at h1 h2; exact ⟨h1.symm, h2⟩
    | cons x c =>
      simp at h2
      rw [h2.2, hasB_slash] at ha
      exact absurd ha (by simp)
  · cases c with
    | nil => simp at h1 h2; exact ⟨h1, h2.symm⟩
    | cons x c =>
      simp at h2
      rw [h2.2, hasB_slash] at ha'
      exact absurd ha' (by simp)

theorem cut_no {s b a : List UInt8} (h : Cut s b a) (hs : hasB s = false) : b = [] ∧ a = s := by
  rcases h with ⟨_, h1, h2⟩ | ⟨h1, h2⟩
  · exact ⟨h1, h2⟩
  · rw [h1, hasB_slash] at hs; exact absurd hs (by simp)

theorem cut_yes {s b a : List UInt8} (h : Cut s b a) (hs : hasB s = true) : s = b ++ 47 :: a ∧ hasB a = false := by
  rcases h with ⟨h0, _, _⟩ | h
  · rw [h0] at hs; exact absurd hs (by simp)
  · exact h

theorem cut_join {x l b a : List UInt8} (h : Cut (x ++ 47 :: l) b a) (hl : hasB l = false) : b = x ∧ a = l := by
  obtain ⟨h1, h2⟩ := cut_yes h (hasB_slash _ _)
  have := cut_uniq _ _ _ _ h1 hl h2
  exact ⟨this.1.symm, this.2.symm⟩

theorem cut_more {s t b0 a0 b1 a1 : List UInt8} (h0 : Cut s b0 a0) (h1 : Cut (s ++ t) b1 a1) (ht : hasB t = false) : b1 = b0 ∧ a1 = a0 ++ t := by
  cases hs : hasB s with
  | false =>
    obtain ⟨e0, e1⟩ := cut_no h0 hs
    obtain ⟨e2, e3⟩ := cut_no h1 (by rw [hasB_append, hs, ht]; rfl)
    subst e0 e1 e2 e3
    exact ⟨rfl, rfl⟩
  | true =>
    obtain ⟨e0, e1⟩ := cut_yes h0 hs
    obtain ⟨e2, e3⟩ := cut_yes h1 (by rw [hasB_append, hs]; rfl)
    rw [e0, List.append_assoc, List.cons_append] at e2
    have := cut_uniq _ _ _ _ e2 (by rw [hasB_append, e1, ht]; rfl) e3
    exact ⟨this.1.symm, this.2.symm⟩

theorem cut_len {s b a : List UInt8} (h : Cut s b a) : a.length ≤ s.length := by
  rcases h with ⟨_, _, rfl⟩ | ⟨rfl, _⟩
  · exact Nat.le_refl _
  · rw [List.length_append, List.length_cons]; omega

/-! ### from the walk's forms -/

theorem take_snoc (s : ByteArray) (k : Nat) (h : k < s.size) : s.data.toList.take (k + 1) = s.data.toList.take k ++ [s[k]] := by
  rw [List.take_succ_eq_append_getElem (by simpa using h)]; rfl

theorem is47 (c : UInt8) : (c == 47) = ((c.toNat : Int) == 47) := by
  rw [Bool.eq_iff_iff]; simp [← UInt8.toNat_inj]; omega

theorem hasB_snoc (s : ByteArray) (k : Nat) (h : k < s.size) : hasB (s.data.toList.take (k + 1)) = (hasB (s.data.toList.take k) || ((s[k].toNat : Int) == 47)) := by
  rw [take_snoc s k h, hasB_append, ← is47]; simp [hasB]

theorem hasB_hit (s : ByteArray) (k : Nat) (h : k < s.size) (hc : ((s[k].toNat : Int) == 47) = true) : hasB s.data.toList = true := by
  have e := hasB_snoc s k h
  rw [hc, Bool.or_true] at e
  rw [← List.take_append_drop (k + 1) s.data.toList, hasB_append, e]; rfl

theorem bang (s : ByteArray) (j : Nat) (hj : j < s.size) : s.data[j]! = s[j] := by
  rw [getElem!_pos s.data j (by simpa using hj)]; rfl

theorem hasB_false_of (l : List UInt8) (h : ∀ c, c ∈ l → c ≠ 47) : hasB l = false := by
  unfold hasB; rw [List.any_eq_false]; intro c hc; simpa using h c hc

/-- What the last place of '/' says of the two parts: none. -/
theorem cut_none (s : ByteArray) (h : ∀ j, j < s.size → ((s.data[j]!).toNat : Int) ≠ 47) : Cut s.data.toList [] s.data.toList := by
  refine Or.inl ⟨hasB_false_of _ ?_, rfl, rfl⟩
  intro c hc
  obtain ⟨j, hj, rfl⟩ := List.getElem_of_mem hc
  have hj' : j < s.size := by simpa using hj
  have := h j hj'
  rw [getElem!_pos s.data j (by simpa using hj')] at this
  intro e
  apply this
  simp at e
  rw [e]; rfl

/-- .. the place i. -/
theorem cut_at (s : ByteArray) (i : Nat) (hi : i < s.size) (hc : ((s.data[i]!).toNat : Int) = 47) (h : ∀ j, i < j → j < s.size → ((s.data[j]!).toNat : Int) ≠ 47) :
    Cut s.data.toList (s.extract 0 i).data.toList (s.extract (i + 1) s.size).data.toList := by
  have hl : s.data.toList.length = s.size := (Lib.size_eq s).symm
  refine Or.inr ⟨?_, hasB_false_of _ ?_⟩
  · rw [Lib.extract_data, Lib.extract_data, Nat.sub_zero, List.drop_zero, List.take_of_length_le (l := List.drop (i + 1) s.data.toList) (by simp only [List.length_drop]; omega)]
    have e : s.data.toList[i]'(by omega) = 47 := by
      rw [getElem!_pos s.data i (by simpa using hi)] at hc
      rw [Array.getElem_toList]
      apply UInt8.toNat_inj.1
      rw [show UInt8.toNat 47 = 47 from rfl]
      omega
    have h2 := List.take_append_drop i s.data.toList
    rw [List.drop_eq_getElem_cons (by omega), e] at h2
    exact h2.symm
  · intro c hc2
    rw [Lib.extract_data, List.take_of_length_le (by simp only [List.length_drop]; omega)] at hc2
    obtain ⟨j, hj, rfl⟩ := List.getElem_of_mem hc2
    have hj' : i + 1 + j < s.size := by simp at hj; omega
    have := h (i + 1 + j) (by omega) hj'
    rw [getElem!_pos s.data _ (by simpa using hj')] at this
    intro e
    apply this
    simp at e
    rw [e]; rfl

/-! ### byte arrays by their lists -/

theorem ba_ext {a b : ByteArray} (h : a.data.toList = b.data.toList) : a = b := by
  rw [← Lib.mk_data a, ← Lib.mk_data b, h]

theorem data_append (a b : ByteArray) : (a ++ b).data.toList = a.data.toList ++ b.data.toList := by
  rw [ByteArray.data_append, Array.toList_append]

theorem data_slash (b a : ByteArray) : (b ++ ByteArray.mk #[47] ++ a).data.toList = b.data.toList ++ 47 :: a.data.toList := by
  rw [data_append, data_append]; simp

theorem size_of_list {a : ByteArray} {l : List UInt8} (h : a.data.toList = l) : a.size = l.length := by
  rw [Lib.size_eq, h]

end Go.Proofs.Qxb6601453aMods.Plain
