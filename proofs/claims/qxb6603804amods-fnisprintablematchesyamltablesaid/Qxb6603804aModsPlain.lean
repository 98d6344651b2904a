/-
  THE PLAIN LAWS OF SEAT b6603804aM: the seven printable ranges. No Go program in sight.
-/
namespace Go.Proofs.Qxb6603804aMods.Plain

/-- The k-th range's first rune. -/
def lo : Nat → Int
  | 0 => 9
  | 1 => 13
  | 2 => 32
  | 3 => 133
  | 4 => 160
  | 5 => 57344
  | 6 => 65536
  | _ => 1

/-- The k-th range's last rune. -/
def hi : Nat → Int
  | 0 => 10
  | 1 => 13
  | 2 => 126
  | 3 => 133
  | 4 => 55295
  | 5 => 65533
  | 6 => 1114111
  | _ => 0

/-- Does c lie in one of the seven ranges? -/
def prt (c : Int) : Bool :=
  decide ((9 ≤ c ∧ c ≤ 10) ∨ c = 13 ∨ (32 ≤ c ∧ c ≤ 126) ∨ c = 133 ∨ (160 ≤ c ∧ c ≤ 55295) ∨ (57344 ≤ c ∧ c ≤ 65533) ∨ (65536 ≤ c ∧ c ≤ 1114111))

theorem prt_yes {c : Int} (h : (9 ≤ c ∧ c ≤ 10) ∨ c = 13 ∨ (32 ≤ c ∧ c ≤ 126) ∨ c = 133 ∨ (160 ≤ c ∧ c ≤ 55295) ∨ (57344 ≤ c ∧ c ≤ 65533) ∨ (65536 ≤ c ∧ c ≤ 1114111)) : prt c = true := by
  unfold prt; exact decide_eq_true h

theorem prt_no {c : Int} (h : ¬ ((9 ≤ c ∧ c ≤ 10) ∨ c = 13 ∨ (32 ≤ c ∧ c ≤ 126) ∨ c = 133 ∨ (160 ≤ c ∧ c ≤ 55295) ∨ (57344 ≤ c ∧ c ≤ 65533) ∨ (65536 ≤ c ∧ c ≤ 1114111))) : prt c = false := by
  unfold prt; exact decide_eq_false h

theorem seven {k : Nat} (h : k < 7) : k = 0 ∨ k = 1 ∨ k = 2 ∨ k = 3 ∨ k = 4 ∨ k = 5 ∨ k = 6 := by omega

theorem prt_in (c : Int) (k : Nat) (hk : k < 7) (h1 : lo k ≤ c) (h2 : c ≤ hi k) : prt c = true := by
  apply prt_yes
  rcases seven hk with rfl | rfl | rfl | rfl | rfl | rfl | rfl <;> simp only [lo, hi] at h1 h2 <;> omega

/-- c lies in none of the first k ranges. -/
def Out (c : Int) (k : Nat) : Prop := ∀ j, j < k → ¬ (lo j ≤ c ∧ c ≤ hi j)

theorem out_zero (c : Int) : Out c 0 := fun _ h => absurd h (Nat.not_lt_zero _)

theorem out_succ {c : Int} {k : Nat} (h : Out c k) (hk : ¬ (lo k ≤ c ∧ c ≤ hi k)) : Out c (k + 1) := fun j hj => by
  rcases Nat.lt_succ_iff_lt_or_eq.1 hj with h1 | rfl
  · exact h j h1
  · exact hk

theorem prt_out (c : Int) (h : Out c 7) : prt c = false := by
  apply prt_no
  have h0 := h 0 (by omega)
  have h1 := h 1 (by omega)
  have h2 := h 2 (by omega)
  have h3 := h 3 (by omega)
  have h4 := h 4 (by omega)
  have h5 := h 5 (by omega)
  have h6 := h 6 (by omega)
  simp only [lo, hi] at h0 h1 h2 h3 h4 h5 h6
  omega

end Go.Proofs.Qxb6603804aMods.Plain
