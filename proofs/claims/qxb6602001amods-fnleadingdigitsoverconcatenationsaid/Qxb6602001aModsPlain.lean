/-
  THE PLAIN LAWS OF SEAT b6602001aM: how many digits a list of bytes begins with. No Go program in sight.
-/
import Derived.Lib.Strings
namespace Go.Proofs.Qxb6602001aMods.Plain

/-- Is the number a digit's byte? -/
def isD (c : Int) : Bool := decide (48 ≤ c ∧ c ≤ 57)

theorem isD_yes {c : Int} (h1 : 48 ≤ c) (h2 : c ≤ 57) : isD c = true := by unfold isD; exact decide_eq_true ⟨h1, h2⟩
theorem isD_lo {c : Int} (h : c < 48) : isD c = false := by unfold isD; exact decide_eq_false (by omega)
theorem isD_hi {c : Int} (h : 57 < c) : isD c = false := by unfold isD; exact decide_eq_false (by omega)
theorem isD_le {c : Int} (h : isD c = true) : 48 ≤ c ∧ c ≤ 57 := by unfold isD at h; exact of_decide_eq_true h

/-- How many bytes, from the start, are digits. -/
def lead (l : List UInt8) : Nat := (l.takeWhile fun c => isD c.toNat).length

/-- All are digits. -/
def allD (l : List UInt8) : Bool := l.all fun c => isD c.toNat

theorem lead_le (l : List UInt8) : lead l ≤ l.length := (List.takeWhile_sublist _).length_le

theorem lead_append (a b : List UInt8) : lead (a ++ b) = if lead a = a.length then a.length + lead b else lead a := by
  unfold lead
  rw [List.takeWhile_append]
  split
  · rw [List.length_append]
  · rfl

theorem lead_all (l : List UInt8) : lead l = l.length ↔ allD l = true := by
  unfold lead allD
  induction l with
  | nil => simp
  | cons x l ih =>
    rw [List.takeWhile_cons, List.all_cons]
    cases hx : isD x.toNat with
    | false => simp
    | true => simp only [if_pos, List.length_cons, Bool.true_and]; rw [← ih]; omega

theorem lead_not (l : List UInt8) (h : allD l = false) : lead l < l.length := by
  have h1 := lead_le l
  have h2 : ¬ lead l = l.length := by rw [lead_all, h]; simp
  omega

theorem lead_stop (a b : List UInt8) (c : UInt8) (ha : allD a = true) (hc : isD c.toNat = false) : lead (a ++ c :: b) = a.length := by
  rw [lead_append, if_pos ((lead_all a).2 ha)]
  unfold lead
  rw [List.takeWhile_cons, hc]
  simp

theorem allD_append (a b : List UInt8) : allD (a ++ b) = (allD a && allD b) := by unfold allD; exact List.all_append

theorem lead_at (l : List UInt8) (j : Nat) (h : j < lead l) : ∃ hl : j < l.length, isD (l[j].toNat : Int) = true := by
  have hj : j < l.length := Nat.lt_of_lt_of_le h (lead_le l)
  refine ⟨hj, ?_⟩
  unfold lead at h
  have h1 : (l.takeWhile fun c => isD c.toNat)[j] ∈ l.takeWhile fun c => isD c.toNat := List.getElem_mem h
  have h2 := List.all_takeWhile (p := fun c : UInt8 => isD c.toNat) (l := l)
  rw [List.all_eq_true] at h2
  have h3 := h2 _ h1
  have h4 : (l.takeWhile fun c => isD c.toNat)[j] = l[j]'hj := (List.takeWhile_prefix _).getElem h
  rw [h4] at h3
  exact h3

theorem lead_end (l : List UInt8) (h : lead l < l.length) : isD (l[lead l].toNat : Int) = false := by
  induction l with
  | nil => simp at h
  | cons x l ih =>
    cases hx : isD x.toNat with
    | false =>
      have e : lead (x :: l) = 0 := by unfold lead; rw [List.takeWhile_cons, hx]; rfl
      simp only [e, List.getElem_cons_zero]; exact hx
    | true =>
      have e : lead (x :: l) = lead l + 1 := by unfold lead; rw [List.takeWhile_cons, hx]; rfl
      simp only [e, List.getElem_cons_succ]
      exact ih (by rw [e, List.length_cons] at h; omega)

/-! ### in the walk's forms -/

theorem take_snoc (s : ByteArray) (k : Nat) (h : k < s.size) : s.data.toList.take (k + 1) = s.data.toList.take k ++ [s[k]] := by
  rw [List.take_succ_eq_append_getElem (by simpa using h)]; rfl

theorem drop_cons (s : ByteArray) (k : Nat) (h : k < s.size) : s.data.toList.drop k = s[k] :: s.data.toList.drop (k + 1) := by
  rw [List.drop_eq_getElem_cons (by simpa using h)]; rfl

theorem allD_snoc (s : ByteArray) (k : Nat) (h : k < s.size) : allD (s.data.toList.take (k + 1)) = (allD (s.data.toList.take k) && isD (s[k].toNat : Int)) := by
  rw [take_snoc s k h, allD_append]; simp [allD]

theorem lead_at_stop (s : ByteArray) (k : Nat) (h : k < s.size) (ha : allD (s.data.toList.take k) = true) (hc : isD (s[k].toNat : Int) = false) : lead s.data.toList = k := by
  have hl := Lib.size_eq s
  rw [← List.take_append_drop k s.data.toList, drop_cons s k h, lead_stop _ _ _ ha hc, List.length_take]
  omega

theorem allD_whole (s : ByteArray) (k : Nat) (h : s.size ≤ k) (ha : allD (s.data.toList.take k) = true) : allD s.data.toList = true := by
  rwa [List.take_of_length_le (by rw [← Lib.size_eq]; omega)] at ha

theorem lead_whole (s : ByteArray) (k : Nat) (h1 : k ≤ s.size) (h2 : ¬ k < s.size) (ha : allD (s.data.toList.take k) = true) : lead s.data.toList = k := by
  rw [(lead_all _).2 (allD_whole s k (by omega) ha), ← Lib.size_eq]; omega

theorem digit_of_all (s : ByteArray) (k : Nat) (h : k < s.size) (ha : allD s.data.toList = true) : isD (s[k].toNat : Int) = true := by
  unfold allD at ha
  rw [List.all_eq_true] at ha
  exact ha s[k] (by
    have : s[k] = s.data.toList[k]'(by simpa using h) := rfl
    rw [this]; exact List.getElem_mem _)

theorem digit_below (s : ByteArray) (k : Nat) (h : k < lead s.data.toList) : ∃ hk : k < s.size, isD (s[k].toNat : Int) = true := by
  obtain ⟨h1, h2⟩ := lead_at _ _ h
  exact ⟨by simpa using h1, h2⟩

theorem no_digit_at (s : ByteArray) (k : Nat) (hk : k < s.size) (h : lead s.data.toList = k) : isD (s[k].toNat : Int) = false := by
  subst h
  exact lead_end s.data.toList (by simpa using hk)

theorem data_append (a b : ByteArray) : (a ++ b).data.toList = a.data.toList ++ b.data.toList := by
  rw [ByteArray.data_append, Array.toList_append]

theorem lead_size (s : ByteArray) : lead s.data.toList ≤ s.size := by rw [Lib.size_eq]; exact lead_le _

end Go.Proofs.Qxb6602001aMods.Plain
