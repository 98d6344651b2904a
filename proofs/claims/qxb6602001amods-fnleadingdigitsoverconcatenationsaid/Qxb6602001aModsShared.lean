/-
  THE WALKS THAT THE TWO LAWS OF SEAT b6602001aM SHARE: zzIsDigit, leadingDigits, ZZLeadingDigits, the bounds.
-/
import Derived.Test.Qxb6602001aModsRows
import Derived.WalkKit
import Derived.WalkSpells
import Derived.WalkLawsBesides
import Derived.ProofKit
import Derived.OpenShut
import Derived.Test.Qxb6602001aModsPlain
namespace Go.Proofs.Qxb6602001aMods.Shared
open Go.RowKit
open Go.Proofs.Qxb6602001aMods.Plain

/-- zzIsDigit. -/
theorem digit_any (c : Int) (w : World) :
    Calls Trym.prog 7 #[.int .u8 c] w fun e w' => e = .returned (.bool (isD c)) ∧ w' = w := by
  by_cases h1 : 48 ≤ c
  · by_cases h2 : c ≤ 57
    · rw [isD_yes h1 h2]
      go_enter Trym.func7, Trym.ntmps7
      go_wp2
      go_ret
      exact ⟨rfl, rfl⟩
    · rw [isD_hi (by omega)]
      go_enter Trym.func7, Trym.ntmps7
      go_wp2
      go_ret
      exact ⟨rfl, rfl⟩
  · rw [isD_lo (by omega)]
    go_enter Trym.func7, Trym.ntmps7
    go_wp2
    go_ret
    exact ⟨rfl, rfl⟩

set_option maxHeartbeats 400000 in
/-- leadingDigits. -/
theorem lead_any (s : ByteArray) (w : World) (hs : s.size ≤ maxLen) :
    Calls Trym.prog 9 #[.string s] w fun e w' => e = .returned (.int .i64 (lead s.data.toList)) ∧ w' = w := by
  unfold maxLen at hs
  go_enter Trym.func9, Trym.ntmps9
  go_wp2
  go_loop [3] (fun i => ∃ k : Nat, k ≤ s.size ∧ i = .int .i64 k ∧ Hid (allD (s.data.toList.take k) = true)) (fun i => s.size - (intOf i).toNat)
  case atStart => exact ⟨0, Nat.zero_le _, rfl, by simp [Hid, allD]⟩
  case round =>
    obtain ⟨k, hk, rfl, hh⟩ := hrel
    by_cases hlt : k < s.size
    · by_cases h1 : 48 ≤ (s[k].toNat : Int)
      · by_cases h2 : (s[k].toNat : Int) ≤ 57
        · go_wp2
          go_round
          case rel => exact ⟨k + 1, by omega, by go_num, by show _ = _; rw [allD_snoc s k hlt, hh.out, isD_yes h1 h2]; rfl⟩
          case measure => simp [intOf]; omega
        · go_wp2
          go_ret
          rw [lead_at_stop s k hlt hh.out (isD_hi (by omega))]
          exact ⟨rfl, rfl⟩
      · go_wp2
        go_ret
        rw [lead_at_stop s k hlt hh.out (isD_lo (by omega))]
        exact ⟨rfl, rfl⟩
    · go_wp2
      go_ret
      rw [lead_whole s k hk hlt hh.out]
      exact ⟨rfl, rfl⟩

/-- ZZLeadingDigits. -/
theorem zzlead_any (s : ByteArray) (w : World) (hs : s.size ≤ maxLen) :
    Calls Trym.prog 6 #[.string s] w fun e w' => e = .returned (.int .i64 (lead s.data.toList)) ∧ w' = w := by
  go_enter Trym.func6, Trym.ntmps6
  go_wp2_with (go_at_call 9; refine (lead_any _ _ hs).mono ?_; rintro e w' ⟨rfl, rfl⟩)
  go_ret
  exact ⟨rfl, rfl⟩

/-- The bound laid by program, one string: short. -/
theorem bytes5_yes (a : ByteArray) (w : World) (h : a.size ≤ 1048576) :
    Calls Trym.prog 5 #[.string a] w fun e w' => e = .returned (.bool true) ∧ w' = w := by
  go_enter Trym.func5, Trym.ntmps5
  go_wp2
  go_ret
  exact ⟨rfl, rfl⟩

/-- The bound laid by program, two strings: short. -/
theorem bytes8_yes (a b : ByteArray) (w : World) (h : a.size + b.size ≤ 1048576) :
    Calls Trym.prog 8 #[.string a, .string b] w fun e w' => e = .returned (.bool true) ∧ w' = w := by
  have ha : a.size ≤ 1048576 := by omega
  have hb : b.size ≤ 1048576 := by omega
  go_enter Trym.func8, Trym.ntmps8
  go_wp2
  go_ret
  exact ⟨rfl, rfl⟩

/-- .. long. -/
theorem bytes8_no (a b : ByteArray) (w : World) (ha : a.size ≤ maxLen) (hb : b.size ≤ maxLen) (h : 1048576 < a.size + b.size) :
    Calls Trym.prog 8 #[.string a, .string b] w fun e w' => e = .returned (.bool false) ∧ w' = w := by
  unfold maxLen at ha hb
  by_cases h1 : 1048576 < a.size
  · go_enter Trym.func8, Trym.ntmps8
    go_wp2
    go_ret
    exact ⟨rfl, rfl⟩
  · by_cases h2 : 1048576 < b.size
    · go_enter Trym.func8, Trym.ntmps8
      go_wp2
      go_ret
      exact ⟨rfl, rfl⟩
    · go_enter Trym.func8, Trym.ntmps8
      go_wp2
      go_ret
      exact ⟨rfl, rfl⟩

end Go.Proofs.Qxb6602001aMods.Shared
