/-
  THE WALKS OF SEAT b6603804aM: isPrintable, ZZIsPrintable, yamlPrintableRange, inYAMLPrintable.
-/
import Derived.Test.Qxb6603804aModsRows
import Derived.WalkKit
import Derived.WalkSpells
import Derived.WalkLawsBesides
import Derived.ProofKit
import Derived.OpenShut
import Derived.Test.Qxb6603804aModsPlain
namespace Go.Proofs.Qxb6603804aMods.Shared
open Go.RowKit
open Go.Proofs.Qxb6603804aMods.Plain

/-- The sixteen intervals that isPrintable's tests part. -/
theorem parts (c : Int) : (c < 9 ∨ c = 9 ∨ c = 10 ∨ (11 ≤ c ∧ c ≤ 12) ∨ c = 13 ∨ (14 ≤ c ∧ c ≤ 31)) ∨
    ((32 ≤ c ∧ c ≤ 126) ∨ (127 ≤ c ∧ c ≤ 132) ∨ c = 133 ∨ (134 ≤ c ∧ c ≤ 159)) ∨
    ((160 ≤ c ∧ c ≤ 55295) ∨ (55296 ≤ c ∧ c ≤ 57343) ∨ (57344 ≤ c ∧ c ≤ 65533) ∨ (65534 ≤ c ∧ c ≤ 65535) ∨ (65536 ≤ c ∧ c ≤ 1114111) ∨ 1114112 ≤ c) := by omega

set_option maxHeartbeats 800000 in
/-- isPrintable. -/
theorem print_any (c : Int) (w : World) :
    Calls Trym.prog 6 #[.int .i32 c] w fun e w' => e = .returned (.bool (prt c)) ∧ w' = w := by
  rcases parts c with (h | rfl | rfl | ⟨h1, h2⟩ | rfl | ⟨h1, h2⟩) | (⟨h1, h2⟩ | ⟨h1, h2⟩ | rfl | ⟨h1, h2⟩) | (⟨h1, h2⟩ | ⟨h1, h2⟩ | ⟨h1, h2⟩ | ⟨h1, h2⟩ | ⟨h1, h2⟩ | h)
  · rw [prt_no (by omega)]
    have e9 : (c == 9) = false := beq_eq_false_iff_ne.2 (by omega)
    have e10 : (c == 10) = false := beq_eq_false_iff_ne.2 (by omega)
    have e13 : (c == 13) = false := beq_eq_false_iff_ne.2 (by omega)
    have e133 : (c == 133) = false := beq_eq_false_iff_ne.2 (by omega)
    go_enter Trym.func6, Trym.ntmps6
    go_wp2
    go_ret
    exact ⟨rfl, rfl⟩
  · rw [prt_yes (by omega)]
    go_enter Trym.func6, Trym.ntmps6
    go_wp2
    go_ret
    exact ⟨rfl, rfl⟩
  · rw [prt_yes (by omega)]
    go_enter Trym.func6, Trym.ntmps6
    go_wp2
    go_ret
    exact ⟨rfl, rfl⟩
  · rw [prt_no (by omega)]
    have e9 : (c == 9) = false := beq_eq_false_iff_ne.2 (by omega)
    have e10 : (c == 10) = false := beq_eq_false_iff_ne.2 (by omega)
    have e13 : (c == 13) = false := beq_eq_false_iff_ne.2 (by omega)
    have e133 : (c == 133) = false := beq_eq_false_iff_ne.2 (by omega)
    go_enter Trym.func6, Trym.ntmps6
    go_wp2
    go_ret
    exact ⟨rfl, rfl⟩
  · rw [prt_yes (by omega)]
    go_enter Trym.func6, Trym.ntmps6
    go_wp2
    go_ret
    exact ⟨rfl, rfl⟩
  · rw [prt_no (by omega)]
    have e9 : (c == 9) = false := beq_eq_false_iff_ne.2 (by omega)
    have e10 : (c == 10) = false := beq_eq_false_iff_ne.2 (by omega)
    have e13 : (c == 13) = false := beq_eq_false_iff_ne.2 (by omega)
    have e133 : (c == 133) = false := beq_eq_false_iff_ne.2 (by omega)
    go_enter Trym.func6, Trym.ntmps6
    go_wp2
    go_ret
    exact ⟨rfl, rfl⟩
  · rw [prt_yes (by omega)]
    have e9 : (c == 9) = false := beq_eq_false_iff_ne.2 (by omega)
    have e10 : (c == 10) = false := beq_eq_false_iff_ne.2 (by omega)
    have e13 : (c == 13) = false := beq_eq_false_iff_ne.2 (by omega)
    have e133 : (c == 133) = false := beq_eq_false_iff_ne.2 (by omega)
    go_enter Trym.func6, Trym.ntmps6
    go_wp2
    go_ret
    exact ⟨rfl, rfl⟩
  · rw [prt_no (by omega)]
    have e9 : (c == 9) = false := beq_eq_false_iff_ne.2 (by omega)
    have e10 : (c == 10) = false := beq_eq_false_iff_ne.2 (by omega)
    have e13 : (c == 13) = false := beq_eq_false_iff_ne.2 (by omega)
    have e133 : (c == 133) = false := beq_eq_false_iff_ne.2 (by omega)
    go_enter Trym.func6, Trym.ntmps6
    go_wp2
    go_ret
    exact ⟨rfl, rfl⟩
  · rw [prt_yes (by omega)]
    go_enter Trym.func6, Trym.ntmps6
    go_wp2
    go_ret
    exact ⟨rfl, rfl⟩
  · rw [prt_no (by omega)]
    have e9 : (c == 9) = false := beq_eq_false_iff_ne.2 (by omega)
    have e10 : (c == 10) = false := beq_eq_false_iff_ne.2 (by omega)
    have e13 : (c == 13) = false := beq_eq_false_iff_ne.2 (by omega)
    have e133 : (c == 133) = false := beq_eq_false_iff_ne.2 (by omega)
    go_enter Trym.func6, Trym.ntmps6
    go_wp2
    go_ret
    exact ⟨rfl, rfl⟩
  · rw [prt_yes (by omega)]
    have e9 : (c == 9) = false := beq_eq_false_iff_ne.2 (by omega)
    have e10 : (c == 10) = false := beq_eq_false_iff_ne.2 (by omega)
    have e13 : (c == 13) = false := beq_eq_false_iff_ne.2 (by omega)
    have e133 : (c == 133) = false := beq_eq_false_iff_ne.2 (by omega)
    go_enter Trym.func6, Trym.ntmps6
    go_wp2
    go_ret
    exact ⟨rfl, rfl⟩
  · rw [prt_no (by omega)]
    have e9 : (c == 9) = false := beq_eq_false_iff_ne.2 (by omega)
    have e10 : (c == 10) = false := beq_eq_false_iff_ne.2 (by omega)
    have e13 : (c == 13) = false := beq_eq_false_iff_ne.2 (by omega)
    have e133 : (c == 133) = false := beq_eq_false_iff_ne.2 (by omega)
    go_enter Trym.func6, Trym.ntmps6
    go_wp2
    go_ret
    exact ⟨rfl, rfl⟩
  · rw [prt_yes (by omega)]
    have e9 : (c == 9) = false := beq_eq_false_iff_ne.2 (by omega)
    have e10 : (c == 10) = false := beq_eq_false_iff_ne.2 (by omega)
    have e13 : (c == 13) = false := beq_eq_false_iff_ne.2 (by omega)
    have e133 : (c == 133) = false := beq_eq_false_iff_ne.2 (by omega)
    go_enter Trym.func6, Trym.ntmps6
    go_wp2
    go_ret
    exact ⟨rfl, rfl⟩
  · rw [prt_no (by omega)]
    have e9 : (c == 9) = false := beq_eq_false_iff_ne.2 (by omega)
    have e10 : (c == 10) = false := beq_eq_false_iff_ne.2 (by omega)
    have e13 : (c == 13) = false := beq_eq_false_iff_ne.2 (by omega)
    have e133 : (c == 133) = false := beq_eq_false_iff_ne.2 (by omega)
    go_enter Trym.func6, Trym.ntmps6
    go_wp2
    go_ret
    exact ⟨rfl, rfl⟩
  · rw [prt_yes (by omega)]
    have e9 : (c == 9) = false := beq_eq_false_iff_ne.2 (by omega)
    have e10 : (c == 10) = false := beq_eq_false_iff_ne.2 (by omega)
    have e13 : (c == 13) = false := beq_eq_false_iff_ne.2 (by omega)
    have e133 : (c == 133) = false := beq_eq_false_iff_ne.2 (by omega)
    go_enter Trym.func6, Trym.ntmps6
    go_wp2
    go_ret
    exact ⟨rfl, rfl⟩
  · rw [prt_no (by omega)]
    have e9 : (c == 9) = false := beq_eq_false_iff_ne.2 (by omega)
    have e10 : (c == 10) = false := beq_eq_false_iff_ne.2 (by omega)
    have e13 : (c == 13) = false := beq_eq_false_iff_ne.2 (by omega)
    have e133 : (c == 133) = false := beq_eq_false_iff_ne.2 (by omega)
    have el : decide (c ≤ 1114111) = false := decide_eq_false (by omega)
    go_enter Trym.func6, Trym.ntmps6
    go_wp2
    go_ret
    exact ⟨rfl, rfl⟩

/-- yamlPrintableRange at 0 .. 6. -/
theorem range_any (k : Nat) (hk : k < 7) (w : World) :
    Calls Trym.prog 7 #[.int .i64 (k : Int)] w fun e w' => e = .returned (.tuple #[.int .i32 (lo k), .int .i32 (hi k)]) ∧ w' = w := by
  rcases seven hk with rfl | rfl | rfl | rfl | rfl | rfl | rfl <;> simp only [lo, hi] <;> clear hk
  all_goals
    go_enter Trym.func7, Trym.ntmps7
    go_wp2
    go_ret2
    exact ⟨rfl, rfl⟩

/-- ZZIsPrintable. -/
theorem zzprint_any (c : Int) (w : World) :
    Calls Trym.prog 4 #[.int .i32 c] w fun e w' => e = .returned (.bool (prt c)) ∧ w' = w := by
  go_enter Trym.func4, Trym.ntmps4
  go_wp2_with (go_at_call 6; refine (print_any _ _).mono ?_; rintro e w' ⟨rfl, rfl⟩)
  go_ret
  exact ⟨rfl, rfl⟩

set_option maxHeartbeats 400000 in
/-- inYAMLPrintable. -/
theorem table_any (c : Int) (w : World) :
    Calls Trym.prog 5 #[.int .i32 c] w fun e w' => e = .returned (.bool (prt c)) ∧ w' = w := by
  go_enter Trym.func5, Trym.ntmps5
  go_wp2
  go_loop [3] (fun i => ∃ k : Nat, k ≤ 7 ∧ i = .int .i64 k ∧ Hid (Out c k)) (fun i => 7 - (intOf i).toNat)
  case atStart => exact ⟨0, Nat.zero_le _, rfl, out_zero c⟩
  case round =>
    obtain ⟨k, hk, rfl, hh⟩ := hrel
    by_cases hlt : k < 7
    · by_cases h1 : lo k ≤ c
      · by_cases h2 : c ≤ hi k
        · have HP : Hid (prt c = true) := prt_in c k hlt h1 h2
          go_wp2_with (go_at_call 7; refine (range_any _ hlt _).mono ?_; rintro e w' ⟨rfl, rfl⟩)
          go_ret
          rw [HP.out]
          exact ⟨rfl, rfl⟩
        · go_wp2_with (go_at_call 7; refine (range_any _ hlt _).mono ?_; rintro e w' ⟨rfl, rfl⟩)
          go_round
          case rel => exact ⟨k + 1, by omega, by go_num, out_succ hh.out (by omega)⟩
          case measure => simp [intOf]; omega
      · go_wp2_with (go_at_call 7; refine (range_any _ hlt _).mono ?_; rintro e w' ⟨rfl, rfl⟩)
        go_round
        case rel => exact ⟨k + 1, by omega, by go_num, out_succ hh.out (by omega)⟩
        case measure => simp [intOf]; omega
    · obtain rfl : k = 7 := by omega
      have HP : Hid (prt c = false) := prt_out c hh.out
      go_wp2
      go_ret
      rw [HP.out]
      exact ⟨rfl, rfl⟩

end Go.Proofs.Qxb6603804aMods.Shared
