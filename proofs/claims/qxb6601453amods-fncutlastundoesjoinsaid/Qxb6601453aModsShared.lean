/-
  THE WALKS THAT THE THREE LAWS OF SEAT b6601453aM SHARE: containsSlash, LastIndexByteString, LastIndexByte, cutLast, ZZcutLast.
-/
import Derived.Test.Qxb6601453aModsRows
import Derived.WalkKit
import Derived.WalkSpells
import Derived.WalkLawsBesides
import Derived.Deep.QuietTactic
import Derived.BigQuiet
import Derived.ProofKit
import Derived.OpenShut
import Derived.Test.Qxb6601453aModsPlain
namespace Go.Proofs.Qxb6601453aMods.Shared
open Go.RowKit
open Go.Proofs.Qxb6601453aMods.Plain

set_option maxHeartbeats 400000 in
/-- containsSlash: does s hold '/'? -/
theorem contains_any (s : ByteArray) (w : World) (hs : s.size ≤ maxLen) :
    Calls Trym.prog 8 #[.string s] w fun e w' => e = .returned (.bool (hasB s.data.toList)) ∧ w' = w := by
  unfold maxLen at hs
  go_enter Trym.func8, Trym.ntmps8
  go_wp2
  go_loop [3] (fun i => ∃ k : Nat, k ≤ s.size ∧ i = .int .i64 k ∧ Hid (hasB (s.data.toList.take k) = false)) (fun i => s.size - (intOf i).toNat)
  case atStart => exact ⟨0, Nat.zero_le _, rfl, by simp [Hid, hasB]⟩
  case round =>
    obtain ⟨k, hk, rfl, hh⟩ := hrel
    by_cases hlt : k < s.size
    · go_wp2
      · have hc : ((s[k].toNat : Int) == 47) = true := by assumption
        go_ret
        rw [hasB_hit s k hlt hc]
        exact ⟨rfl, rfl⟩
      · have hc : ((s[k].toNat : Int) == 47) = false := by assumption
        go_round
        case rel => exact ⟨k + 1, by omega, by go_num, by show _ = _; rw [hasB_snoc s k hlt, hh.out, hc]; rfl⟩
        case measure => simp [intOf]; omega
    · go_wp2
      go_ret
      have e : hasB s.data.toList = false := by
        have := hh.out
        rwa [List.take_of_length_le (by rw [← Lib.size_eq]; omega)] at this
      rw [e]
      exact ⟨rfl, rfl⟩

set_option maxHeartbeats 400000 in
/-- internal/bytealg.LastIndexByteString. -/
theorem lastStr_any (s : ByteArray) (c : Int) (w : World) (hs : s.size ≤ maxLen) :
    Calls Trym.prog 13 #[.string s, .int .u8 c] w fun e w' => e = .returned (.int .i64 (Lib.lastIndexByte s c)) ∧ w' = w := by
  unfold maxLen at hs
  go_enter Trym.func13, Trym.ntmps13
  go_wp2
  go_loop [5] (fun vi => ∃ k : Nat, k ≤ s.size ∧ vi = .int .i64 ((k : Int) - 1) ∧ Hid (Lib.lastIndexByte s c = Lib.lastIdx s c k)) (fun vi => ((intOf vi) + 1).toNat)
  case atStart => exact ⟨s.size, Nat.le_refl _, by first | rfl | go_num | (congr 1; omega), rfl⟩
  case round =>
    obtain ⟨k, hk, rfl, hh⟩ := hrel
    go_wp2
    · have hc : (((s[k - 1]).toNat : Int) == c) = true := by assumption
      have k1 : 1 ≤ k := by omega
      have e1 : Lib.lastIdx s c k = ((k - 1 : Nat) : Int) := by
        have := Lib.lastIdx_hit s c (k - 1) (by rw [bang s (k - 1) (by omega)]; simpa using hc)
        rwa [show k - 1 + 1 = k by omega] at this
      have e2 : ((k - 1 : Nat) : Int) = (k : Int) - 1 := by omega
      go_ret
      rw [hh.out, e1, e2]
      exact ⟨rfl, rfl⟩
    · have hc : (((s[k - 1]).toNat : Int) == c) = false := by assumption
      have k1 : 1 ≤ k := by omega
      have e1 : Lib.lastIdx s c k = Lib.lastIdx s c (k - 1) := by
        have := Lib.lastIdx_miss s c (k - 1) (by rw [bang s (k - 1) (by omega)]; simpa using hc)
        rwa [show k - 1 + 1 = k by omega] at this
      refine ⟨⟨k - 1, by omega, by congr 1; omega, hh.out.trans e1⟩, ?_⟩
      simp [intOf]; omega
    · have k0 : k = 0 := by omega
      subst k0
      go_ret
      rw [hh.out]
      exact ⟨rfl, rfl⟩

/-- strings.LastIndexByte. -/
theorem last_any (s : ByteArray) (c : Int) (w : World) (hs : s.size ≤ maxLen) :
    Calls Trym.prog 12 #[.string s, .int .u8 c] w fun e w' => e = .returned (.int .i64 (Lib.lastIndexByte s c)) ∧ w' = w := by
  go_enter Trym.func12, Trym.ntmps12
  go_wp2_with (go_at_call 13; refine (lastStr_any _ _ _ hs).mono ?_; rintro e w' ⟨rfl, rfl⟩)
  go_ret
  exact ⟨rfl, rfl⟩

theorem grown_drewN (w : World) (n : Nat) : Grown w (w.drewN n) := Grown.refl w

set_option maxHeartbeats 400000 in
/-- cutLast. -/
theorem cut_any (s : ByteArray) (w : World) (hs : s.size ≤ maxLen) :
    Calls Trym.prog 11 #[.string s] w fun e w' => ∃ (b a : ByteArray) (n : Nat), e = .returned (.tuple #[.string b, .string a]) ∧ Cut s.data.toList b.data.toList a.data.toList ∧ w' = w.drewN n := by
  rcases Lib.lastIndexByte_spec s 47 with ⟨h1, h2⟩ | ⟨i, hi, h1, h2, h3⟩
  · have cL : Calls Trym.prog 12 #[.string s, .int .u8 47] w fun e w' => e = .returned (.int .i64 (-1)) ∧ w' = w := by
      rw [← h1]; exact last_any s 47 w hs
    have hcut := cut_none s h2
    clear h1 h2
    have HC : Hid (Cut _ _ _) := hcut
    clear hcut
    go_enter Trym.func11, Trym.ntmps11
    go_wp2_with (go_at_call 12; refine cL.mono ?_; rintro e w' ⟨rfl, rfl⟩)
    go_ret2
    exact ⟨ByteArray.empty, s, 0, rfl, HC.out, rfl⟩
  · have cL : Calls Trym.prog 12 #[.string s, .int .u8 47] w fun e w' => e = .returned (.int .i64 (i : Int)) ∧ w' = w := by
      rw [← h1]; exact last_any s 47 w hs
    have hcut := cut_at s i hi h2 h3
    clear h1 h2 h3
    have HC : Hid (Cut _ _ _) := hcut
    clear hcut
    unfold maxLen at hs
    go_enter Trym.func11, Trym.ntmps11
    go_wp2_with (go_at_call 12; refine cL.mono ?_; rintro e w' ⟨rfl, rfl⟩)
    go_quiet (fail)
    go_wp2
    go_ret2
    exact ⟨_, _, _, rfl, HC.out, rfl⟩

/-- ZZcutLast. -/
theorem zzcut_any (s : ByteArray) (w : World) (hs : s.size ≤ maxLen) :
    Calls Trym.prog 7 #[.string s] w fun e w' => ∃ (b a : ByteArray) (n : Nat), e = .returned (.tuple #[.string b, .string a]) ∧ Cut s.data.toList b.data.toList a.data.toList ∧ w' = w.drewN n := by
  go_enter Trym.func7, Trym.ntmps7
  go_wp2_with (go_at_call 11; refine (cut_any _ _ hs).mono ?_; rintro e w' ⟨b, a, n, rfl, hc, rfl⟩)
  go_ret2
  exact ⟨_, _, _, rfl, hc, rfl⟩

/-- The bound laid by program, one string: short. -/
theorem bytes6_yes (a : ByteArray) (w : World) (h : a.size ≤ 1048576) :
    Calls Trym.prog 6 #[.string a] w fun e w' => e = .returned (.bool true) ∧ w' = w := by
  go_enter Trym.func6, Trym.ntmps6
  go_wp2
  go_ret
  exact ⟨rfl, rfl⟩

/-- The bound laid by program, two strings: short. -/
theorem bytes9_yes (a b : ByteArray) (w : World) (h : a.size + b.size ≤ 1048576) :
    Calls Trym.prog 9 #[.string a, .string b] w fun e w' => e = .returned (.bool true) ∧ w' = w := by
  have ha : a.size ≤ 1048576 := by omega
  have hb : b.size ≤ 1048576 := by omega
  go_enter Trym.func9, Trym.ntmps9
  go_wp2
  go_ret
  exact ⟨rfl, rfl⟩

/-- .. long. -/
theorem bytes9_no (a b : ByteArray) (w : World) (ha : a.size ≤ maxLen) (hb : b.size ≤ maxLen) (h : 1048576 < a.size + b.size) :
    Calls Trym.prog 9 #[.string a, .string b] w fun e w' => e = .returned (.bool false) ∧ w' = w := by
  unfold maxLen at ha hb
  by_cases h1 : 1048576 < a.size
  · go_enter Trym.func9, Trym.ntmps9
    go_wp2
    go_ret
    exact ⟨rfl, rfl⟩
  · by_cases h2 : 1048576 < b.size
    · go_enter Trym.func9, Trym.ntmps9
      go_wp2
      go_ret
      exact ⟨rfl, rfl⟩
    · go_enter Trym.func9, Trym.ntmps9
      go_wp2
      go_ret
      exact ⟨rfl, rfl⟩

/-- The bound laid by program, two strings: short. -/
theorem bytes10_yes (a b : ByteArray) (w : World) (h : a.size + b.size ≤ 1048576) :
    Calls Trym.prog 10 #[.string a, .string b] w fun e w' => e = .returned (.bool true) ∧ w' = w := by
  have ha : a.size ≤ 1048576 := by omega
  have hb : b.size ≤ 1048576 := by omega
  go_enter Trym.func10, Trym.ntmps10
  go_wp2
  go_ret
  exact ⟨rfl, rfl⟩

/-- .. long. -/
theorem bytes10_no (a b : ByteArray) (w : World) (ha : a.size ≤ maxLen) (hb : b.size ≤ maxLen) (h : 1048576 < a.size + b.size) :
    Calls Trym.prog 10 #[.string a, .string b] w fun e w' => e = .returned (.bool false) ∧ w' = w := by
  unfold maxLen at ha hb
  by_cases h1 : 1048576 < a.size
  · go_enter Trym.func10, Trym.ntmps10
    go_wp2
    go_ret
    exact ⟨rfl, rfl⟩
  · by_cases h2 : 1048576 < b.size
    · go_enter Trym.func10, Trym.ntmps10
      go_wp2
      go_ret
      exact ⟨rfl, rfl⟩
    · go_enter Trym.func10, Trym.ntmps10
      go_wp2
      go_ret
      exact ⟨rfl, rfl⟩

end Go.Proofs.Qxb6601453aMods.Shared
