/-
  THE PLAIN LAWS OF SEAT b6602698aM: the order of byte strings, and the first key past a place. No Go program in sight.
-/
import Derived.Lib.Strings
import GoSem.Op.String
namespace Go.Proofs.Qxb6602698aMods.Plain
open Go.Op (bytesLess)

theorem less_nil (l : List UInt8) : bytesLess l [] = false := by cases l <;> rfl
theorem nil_less (x : UInt8) (l : List UInt8) : bytesLess [] (x :: l) = true := rfl
theorem less_cons (x y : UInt8) (l m : List UInt8) : bytesLess (x :: l) (y :: m) = (decide (x < y) || (x == y && bytesLess l m)) := rfl

theorem less_lt {x y : UInt8} (l m : List UInt8) (h : x < y) : bytesLess (x :: l) (y :: m) = true := by
  rw [less_cons, decide_eq_true h]; rfl
theorem less_gt {x y : UInt8} (l m : List UInt8) (h : y < x) : bytesLess (x :: l) (y :: m) = false := by
  have h1 : ¬ x < y := by rw [UInt8.lt_iff_toNat_lt] at h ⊢; omega
  have h2 : (x == y) = false := by
    rw [beq_eq_false_iff_ne]; intro e; subst e; exact h1 h
  rw [less_cons, decide_eq_false h1, h2]; rfl
theorem less_same (x : UInt8) (l m : List UInt8) : bytesLess (x :: l) (x :: m) = bytesLess l m := by
  have h1 : ¬ x < x := by rw [UInt8.lt_iff_toNat_lt]; omega
  rw [less_cons, decide_eq_false h1]; simp

theorem three (x y : UInt8) : x < y ∨ x = y ∨ y < x := by
  rw [UInt8.lt_iff_toNat_lt, UInt8.lt_iff_toNat_lt, ← UInt8.toNat_inj]; omega

/-- Go's 'x > y' as the walk writes it. -/
theorem gt_eq : ∀ x y : List UInt8, (!(bytesLess x y || x == y)) = bytesLess y x
  | [], [] => rfl
  | [], y :: m => rfl
  | x :: l, [] => rfl
  | x :: l, y :: m => by
    rcases three x y with h | rfl | h
    · rw [less_lt l m h, less_gt m l h]; rfl
    · rw [less_same, less_same, ← gt_eq l m]; simp
    · rw [less_gt l m h, less_lt m l h]
      have : (x :: l == y :: m) = false := by
        rw [beq_eq_false_iff_ne]
        intro e
        simp only [List.cons.injEq] at e
        rw [e.1, UInt8.lt_iff_toNat_lt] at h
        omega
      rw [this]; rfl

theorem less_more (p l m : List UInt8) : bytesLess (p ++ l) (p ++ m) = bytesLess l m := by
  induction p with
  | nil => rfl
  | cons x p ih => rw [List.cons_append, List.cons_append, less_same, ih]

theorem less_zero (a : List UInt8) : bytesLess a (a ++ [0]) = true := by
  have := less_more a [] [0]
  rw [List.append_nil] at this; rw [this]; rfl

/-- 'a' with a zero byte behind it is the first that comes after 'a'. -/
theorem next_zero : ∀ a key : List UInt8, (!bytesLess key (a ++ [0])) = bytesLess a key
  | [], [] => rfl
  | [], k :: t => by
    rw [List.nil_append, nil_less]
    rcases three k 0 with h | rfl | h
    · rw [UInt8.lt_iff_toNat_lt, show UInt8.toNat 0 = 0 from rfl] at h; omega
    · rw [less_same, less_nil]; rfl
    · rw [less_gt _ _ h]; rfl
  | x :: a, [] => rfl
  | x :: a, k :: t => by
    rw [List.cons_append]
    rcases three k x with h | rfl | h
    · rw [less_lt _ _ h, less_gt _ _ h]; rfl
    · rw [less_same, less_same]; exact next_zero a t
    · rw [less_gt _ _ h, less_lt _ _ h]; rfl

/-- All bytes are 0xff. -/
def allF (l : List UInt8) : Bool := l.all fun c => c == 255

theorem allF_cons (x : UInt8) (l : List UInt8) : allF (x :: l) = (x == 255 && allF l) := rfl

theorem allF_append (a b : List UInt8) : allF (a ++ b) = (allF a && allF b) := by unfold allF; exact List.all_append

/-- Past a string of 0xff come only strings that begin with it. -/
theorem past_ff : ∀ a key : List UInt8, allF a = true → bytesLess a key = true → a.isPrefixOf key = true
  | [], _, _, _ => by simp
  | x :: a, [], _, h => by rw [less_nil] at h; exact absurd h (by simp)
  | x :: a, k :: t, hf, h => by
    rw [allF_cons, Bool.and_eq_true] at hf
    have hx : x = 255 := by simpa using hf.1
    rcases three x k with h1 | rfl | h1
    · rw [UInt8.lt_iff_toNat_lt, hx, show UInt8.toNat 255 = 255 from rfl] at h1
      have := k.toNat_lt; omega
    · rw [less_same] at h
      simp [past_ff a t hf.2 h]
    · rw [less_gt _ _ h1] at h; exact absurd h (by simp)

theorem past_ff_false (a key : List UInt8) (ha : allF a = true) : (bytesLess a key && !a.isPrefixOf key) = false := by
  cases h : bytesLess a key with
  | false => rfl
  | true => rw [past_ff a key ha h]; rfl

theorem up_toNat {b : UInt8} (hb : b ≠ 255) : (b + 1).toNat = b.toNat + 1 := by
  rw [UInt8.toNat_add, show UInt8.toNat 1 = 1 from rfl]
  have := b.toNat_lt
  have h2 : b.toNat ≠ 255 := by intro e; apply hb; apply UInt8.toNat_inj.1; rw [e]; rfl
  omega

/-- The first key past every key that begins with p b ff..ff: p (b+1). -/
theorem first_past (b : UInt8) (q : List UInt8) (hb : b ≠ 255) (hq : allF q = true) : ∀ p key : List UInt8,
    (!bytesLess key (p ++ [b + 1])) = (bytesLess (p ++ b :: q) key && !(p ++ b :: q).isPrefixOf key)
  | [], [] => rfl
  | [], k :: t => by
    rw [List.nil_append, List.nil_append]
    rcases three b k with h | rfl | h
    · rw [less_lt _ _ h]
      have h1 : (b == k) = false := by
        rw [beq_eq_false_iff_ne]; intro e; subst e; rw [UInt8.lt_iff_toNat_lt] at h; omega
      have h2 : (b :: q).isPrefixOf (k :: t) = false := by simp only [List.isPrefixOf, h1, Bool.false_and]
      rw [h2]
      rcases three k (b + 1) with h3 | h3 | h3
      · rw [UInt8.lt_iff_toNat_lt] at h h3; rw [up_toNat hb] at h3; omega
      · subst h3; rw [less_same, less_nil]; rfl
      · rw [less_gt _ _ h3]; rfl
    · rw [less_same, less_lt _ _ (by rw [UInt8.lt_iff_toNat_lt, up_toNat hb]; omega)]
      have h2 : (b :: q).isPrefixOf (b :: t) = q.isPrefixOf t := by simp only [List.isPrefixOf, beq_self_eq_true, Bool.true_and]
      rw [h2, past_ff_false q t hq]; rfl
    · rw [less_gt _ _ h, less_lt _ _ (by rw [UInt8.lt_iff_toNat_lt] at h ⊢; rw [up_toNat hb]; omega)]; rfl
  | x :: p, [] => rfl
  | x :: p, k :: t => by
    rw [List.cons_append, List.cons_append]
    rcases three k x with h | rfl | h
    · rw [less_lt _ _ h, less_gt _ _ h]; rfl
    · rw [less_same, less_same]
      have h2 : (k :: (p ++ b :: q)).isPrefixOf (k :: t) = (p ++ b :: q).isPrefixOf t := by simp only [List.isPrefixOf, beq_self_eq_true, Bool.true_and]
      rw [h2]; exact first_past b q hb hq p t
    · rw [less_gt _ _ h, less_lt _ _ h]
      have h1 : (x == k) = false := by
        rw [beq_eq_false_iff_ne]; intro e; subst e; rw [UInt8.lt_iff_toNat_lt] at h; omega
      have h2 : (x :: (p ++ b :: q)).isPrefixOf (k :: t) = false := by simp only [List.isPrefixOf, h1, Bool.false_and]
      rw [h2]; rfl

theorem up_past (b : UInt8) (q r : List UInt8) (hb : b ≠ 255) (p : List UInt8) : bytesLess (p ++ b :: q ++ r) (p ++ [b + 1]) = true := by
  rw [List.append_assoc, less_more, List.cons_append]
  exact less_lt _ _ (by rw [UInt8.lt_iff_toNat_lt, up_toNat hb]; omega)

theorem less_irrefl : ∀ l : List UInt8, bytesLess l l = false
  | [] => rfl
  | x :: l => by rw [less_same]; exact less_irrefl l

/-- What 'start' answers at a common start's place: (s, ok). -/
def StartAt (a s : List UInt8) (ok : Bool) : Prop :=
  (ok = false ∧ s = [] ∧ allF a = true) ∨ (ok = true ∧ ∃ (p : List UInt8) (b : UInt8) (q : List UInt8), a = p ++ b :: q ∧ allF q = true ∧ b ≠ 255 ∧ s = p ++ [b + 1])

theorem start_ok {a s : List UInt8} {ok : Bool} (h : StartAt a s ok) : ok = !allF a := by
  rcases h with ⟨rfl, _, h⟩ | ⟨rfl, p, b, q, rfl, _, hb, _⟩
  · rw [h]; rfl
  · rw [allF_append, allF_cons]
    have : (b == 255) = false := by simpa using hb
    rw [this]; simp

/-- .. and no key lies past the place where it answers false. -/
theorem start_no {a s : List UInt8} (h : StartAt a s false) : s = [] ∧ ∀ key, (bytesLess a key && !a.isPrefixOf key) = false := by
  rcases h with ⟨_, h1, h2⟩ | ⟨h, _⟩
  · exact ⟨h1, fun key => past_ff_false a key h2⟩
  · exact absurd h (by simp)

theorem start_yes {a s : List UInt8} (h : StartAt a s true) :
    bytesLess a s = true ∧ a.isPrefixOf s = false ∧ ∀ key, (!bytesLess key s) = (bytesLess a key && !a.isPrefixOf key) := by
  rcases h with ⟨h, _⟩ | ⟨_, p, b, q, rfl, hq, hb, rfl⟩
  · exact absurd h (by simp)
  · have h1 := up_past b q [] hb p
    rw [List.append_nil] at h1
    have h2 := first_past b q hb hq p (p ++ [b + 1])
    rw [h1, less_irrefl] at h2
    refine ⟨h1, ?_, fun key => first_past b q hb hq p key⟩
    simpa using h2.symm

/-- The shape of what it answers. -/
theorem start_shape {a s : List UInt8} (h : StartAt a s true) :
    0 < s.length ∧ s.length ≤ a.length ∧ bytesLess (a ++ [0]) s = true ∧ s.take (s.length - 1) = a.take (s.length - 1) := by
  rcases h with ⟨h, _⟩ | ⟨_, p, b, q, rfl, hq, hb, rfl⟩
  · exact absurd h (by simp)
  · refine ⟨by simp, by simp, up_past b q [0] hb p, ?_⟩
    rw [List.length_append, List.length_singleton, Nat.add_sub_cancel, List.take_left, List.take_left]

/-! ### from the walk's forms -/

theorem take_snoc (s : ByteArray) (k : Nat) (h : k < s.size) : s.data.toList.take (k + 1) = s.data.toList.take k ++ [s[k]] := by
  rw [List.take_succ_eq_append_getElem (by simpa using h)]; rfl

theorem drop_cons (s : ByteArray) (k : Nat) (h : k < s.size) : s.data.toList.drop k = s[k] :: s.data.toList.drop (k + 1) := by
  rw [List.drop_eq_getElem_cons (by simpa using h)]; rfl

theorem is255 (c : UInt8) : (c == 255) = ((c.toNat : Int) == 255) := by
  rw [Bool.eq_iff_iff]; simp [← UInt8.toNat_inj]; omega

theorem allF_snoc (s : ByteArray) (k : Nat) (h : k < s.size) : allF (s.data.toList.take (k + 1)) = (allF (s.data.toList.take k) && ((s[k].toNat : Int) == 255)) := by
  rw [take_snoc s k h, allF_append, ← is255]; simp [allF]

theorem allF_drop (s : ByteArray) (k : Nat) (h : k < s.size) : allF (s.data.toList.drop k) = (((s[k].toNat : Int) == 255) && allF (s.data.toList.drop (k + 1))) := by
  rw [drop_cons s k h, allF_cons, is255]

theorem up_eq (b : UInt8) : UInt8.ofNat ((b.toNat + 1) % 256) = b + 1 := by
  apply UInt8.toNat_inj.1
  rw [UInt8.toNat_add, show UInt8.toNat 1 = 1 from rfl, UInt8.toNat_ofNat_of_lt' (by show _ < 256; omega)]

theorem data_append (a b : ByteArray) : (a ++ b).data.toList = a.data.toList ++ b.data.toList := by
  rw [ByteArray.data_append, Array.toList_append]

theorem start_at (s : ByteArray) (k : Nat) (h : k < s.size) (hd : allF (s.data.toList.drop (k + 1)) = true) (hc : ((s[k].toNat : Int) == 255) = false) :
    StartAt s.data.toList (s.data.toList.take k ++ [s[k] + 1]) true := by
  refine Or.inr ⟨rfl, s.data.toList.take k, s[k], s.data.toList.drop (k + 1), ?_, hd, ?_, rfl⟩
  · rw [← drop_cons s k h, List.take_append_drop]
  · rw [← is255] at hc; simpa using hc

theorem allF_at (s : ByteArray) (k : Nat) (h : k < s.size) (ha : allF s.data.toList = true) : ((s[k].toNat : Int) == 255) = true := by
  have e := allF_drop s k h
  rw [← List.take_append_drop k s.data.toList, allF_append, e] at ha
  simp only [Bool.and_eq_true] at ha
  exact ha.2.1

/-- 'n', the key with a zero byte behind it: Go's tests on it, as the walk writes them. -/
theorem next_facts (a n : ByteArray) (h : n.data.toList = a.data.toList ++ [0]) :
    n.size = a.size + 1 ∧ bytesLess n.toList a.toList = false ∧ (n.toList == a.toList) = false := by
  have e := gt_eq n.toList a.toList
  have e2 : bytesLess a.toList n.toList = true := by rw [Lib.toList_data, Lib.toList_data, h]; exact less_zero _
  rw [e2] at e
  simp only [Bool.not_eq_eq_eq_not, Bool.not_true, Bool.or_eq_false_iff] at e
  refine ⟨?_, e.1, e.2⟩
  rw [Lib.size_eq, h, List.length_append, ← Lib.size_eq]; rfl

/-- 's', what 'start' answers at a common start's place: Go's tests on it. -/
theorem shape_facts (a n s : ByteArray) (h : n.data.toList = a.data.toList ++ [0]) (hs : StartAt a.data.toList s.data.toList true) :
    0 < s.size ∧ s.size ≤ a.size ∧ bytesLess s.toList n.toList = false ∧ (s.toList == n.toList) = false ∧ s.extract 0 (s.size - 1) = a.extract 0 (s.size - 1) := by
  obtain ⟨h1, h2, h3, h4⟩ := start_shape hs
  have e := gt_eq s.toList n.toList
  have e2 : bytesLess n.toList s.toList = true := by rw [Lib.toList_data, Lib.toList_data, h]; exact h3
  rw [e2] at e
  simp only [Bool.not_eq_eq_eq_not, Bool.not_true, Bool.or_eq_false_iff] at e
  rw [← Lib.size_eq] at h1 h2 h4
  rw [← Lib.size_eq] at h2
  refine ⟨h1, h2, e.1, e.2, ?_⟩
  rw [Lib.extract_eq, Lib.extract_eq, Nat.sub_zero, List.drop_zero, List.drop_zero, h4]

/-! ### a key against a place -/

theorem ba_ext {a b : ByteArray} (h : a.data.toList = b.data.toList) : a = b := by
  rw [← Lib.mk_data a, ← Lib.mk_data b, h]

theorem tri (k a : ByteArray) : bytesLess k.toList a.toList = true ∨ k = a ∨ (bytesLess k.toList a.toList = false ∧ (k.toList == a.toList) = false) := by
  cases h1 : bytesLess k.toList a.toList with
  | true => exact Or.inl rfl
  | false =>
    cases h2 : (k.toList == a.toList) with
    | true =>
      refine Or.inr (Or.inl (ba_ext ?_))
      rw [← Lib.toList_data, ← Lib.toList_data]
      exact eq_of_beq h2
    | false => exact Or.inr (Or.inr ⟨rfl, rfl⟩)

theorem less_self (a : ByteArray) : bytesLess a.toList a.toList = false := less_irrefl _

/-- Go's 'k > a' is 'a < k'. -/
theorem gt_less (k a : ByteArray) : bytesLess a.toList k.toList = (!(bytesLess k.toList a.toList || k.toList == a.toList)) := (gt_eq _ _).symm

/-- A key against the first key past a key's place. -/
theorem key_next (a n k : ByteArray) (h : n.data.toList = a.data.toList ++ [0]) : bytesLess k.toList n.toList = (bytesLess k.toList a.toList || k.toList == a.toList) := by
  have e := next_zero a.toList k.toList
  rw [gt_less] at e
  have hn : n.toList = a.toList ++ [0] := by rw [Lib.toList_data, Lib.toList_data, h]
  rw [← hn] at e
  simpa using e

/-- Past a place of 0xff alone every key begins with it. -/
theorem none_pre (a k : ByteArray) (ha : allF a.data.toList = true) (h1 : bytesLess k.toList a.toList = false) (h2 : (k.toList == a.toList) = false) : a.data.toList.isPrefixOf k.data.toList = true := by
  refine past_ff _ _ ha ?_
  have e := gt_less k a
  rw [h1, h2, Lib.toList_data, Lib.toList_data] at e
  exact e

/-- What 'start' answers at a common start's place lies past it. -/
theorem some_facts (a s : ByteArray) (hs : StartAt a.data.toList s.data.toList true) :
    bytesLess s.toList a.toList = false ∧ (s.toList == a.toList) = false ∧ a.data.toList.isPrefixOf s.data.toList = false ∧ s.size ≤ a.size := by
  obtain ⟨h1, h2, _⟩ := start_yes hs
  obtain ⟨_, h3, _⟩ := start_shape hs
  have e := gt_less s a
  rw [Lib.toList_data a, Lib.toList_data s, h1] at e
  have e' := e.symm
  simp only [Bool.not_eq_eq_eq_not, Bool.not_true, Bool.or_eq_false_iff] at e'
  rw [← Lib.size_eq, ← Lib.size_eq] at h3
  exact ⟨by rw [Lib.toList_data, Lib.toList_data]; exact e'.1, by rw [Lib.toList_data, Lib.toList_data]; exact e'.2, h2, h3⟩

/-- A key that is no greater than the place comes ahead of it. -/
theorem some_low (a s k : ByteArray) (hs : StartAt a.data.toList s.data.toList true) (h : (bytesLess k.toList a.toList || k.toList == a.toList) = true) : bytesLess k.toList s.toList = true := by
  obtain ⟨_, _, h3⟩ := start_yes hs
  have e := h3 k.data.toList
  have e2 := gt_less k a
  rw [h, Lib.toList_data a, Lib.toList_data k] at e2
  rw [e2] at e
  rw [Lib.toList_data, Lib.toList_data]
  simpa using e

/-- A greater one comes ahead of it if and only if it begins with the place. -/
theorem some_high (a s k : ByteArray) (hs : StartAt a.data.toList s.data.toList true) (h1 : bytesLess k.toList a.toList = false) (h2 : (k.toList == a.toList) = false) :
    bytesLess k.toList s.toList = a.data.toList.isPrefixOf k.data.toList := by
  obtain ⟨_, _, h3⟩ := start_yes hs
  have e := h3 k.data.toList
  have e2 := gt_less k a
  rw [h1, h2, Lib.toList_data a, Lib.toList_data k] at e2
  rw [e2] at e
  rw [Lib.toList_data, Lib.toList_data]
  simpa using e

/-! ### one string beginning another, byte by byte -/

theorem pre_long (s p : ByteArray) (h : s.size < p.size) : p.data.toList.isPrefixOf s.data.toList = false := by
  rw [Lib.size_eq, Lib.size_eq] at h
  cases e : p.data.toList.isPrefixOf s.data.toList with
  | false => rfl
  | true =>
    have := (List.isPrefixOf_iff_prefix.1 e).length_le
    omega

theorem pre_miss (s p : ByteArray) (k : Nat) (hs : k < s.size) (hp : k < p.size) (h : ((s[k].toNat : Int) == (p[k].toNat : Int)) = false) : p.data.toList.isPrefixOf s.data.toList = false := by
  cases e : p.data.toList.isPrefixOf s.data.toList with
  | false => rfl
  | true =>
    have h1 := (List.isPrefixOf_iff_prefix.1 e).getElem (i := k) (by simpa using hp)
    have h2 : p[k] = s[k] := h1
    rw [h2] at h
    simp at h

theorem pre_snoc (s p : ByteArray) (k : Nat) (hs : k < s.size) (hp : k < p.size) (h : ((s[k].toNat : Int) == (p[k].toNat : Int)) = true) (ht : p.data.toList.take k = s.data.toList.take k) :
    p.data.toList.take (k + 1) = s.data.toList.take (k + 1) := by
  rw [take_snoc s k hs, take_snoc p k hp, ht]
  have : p[k] = s[k] := by
    apply UInt8.toNat_inj.1
    have := eq_of_beq h
    omega
  rw [this]

theorem pre_whole (s p : ByteArray) (k : Nat) (hk : p.size ≤ k) (ht : p.data.toList.take k = s.data.toList.take k) : p.data.toList.isPrefixOf s.data.toList = true := by
  rw [List.take_of_length_le (by rw [← Lib.size_eq]; omega)] at ht
  rw [List.isPrefixOf_iff_prefix, ht]
  exact List.take_prefix _ _

end Go.Proofs.Qxb6602698aMods.Plain
