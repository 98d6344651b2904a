/-
  THE WALKS THAT THE TWO LAWS OF SEAT b6602698aM SHARE: keyAfter, (cursor).start, ZZCursorStartS3B1, zzHasPrefix_s3b1, the bounds.
-/
import Derived.Test.Qxb6602698aModsRows
import Derived.WalkKit
import Derived.WalkSpells
import Derived.WalkLawsBesides
import Derived.Deep.QuietTactic
import Derived.BigQuiet
import Derived.ProofKit
import Derived.OpenShut
import Derived.Test.Qxb6602698aModsPlain
namespace Go.Proofs.Qxb6602698aMods.Shared
open Go.RowKit
open Go.Proofs.Qxb6602698aMods.Plain

theorem grown_trans {a b c : World} (h1 : Grown a b) (h2 : Grown b c) : Grown a c :=
  ⟨World.keptBut_trans h1.1 (World.keptBut_mono (fun _ f => f.elim) h2.1), fun x => (h2.2.1 x).trans (h1.2.1 x), Nat.le_trans h1.2.2 h2.2.2⟩

theorem grown_drewN {a b : World} (h : Grown a b) (n : Nat) : Grown a (b.drewN n) := h

/-- (cursor).start at a key's place. -/
theorem start_key (a : ByteArray) (w : World) (hs : a.size ≤ 1048576) :
    Calls Trym.prog 17 #[.agg #[.string a, .bool false]] w fun e w' => e = .returned (.tuple #[.string (a ++ ByteArray.mk #[0]), .bool true]) ∧ Grown w w' := by
  have hs1 : a.size + 1 ≤ 9223372036854775807 := by omega
  go_enter Trym.func17, Trym.ntmps17
  go_wp2
  go_ret2
  exact ⟨rfl, by repeat (first | exact Grown.refl _ | apply Grown.drew | apply Grown.alloc)⟩

/-- 'string([]byte{n})', the slice just laid. -/
theorem conv_one (w : World) (X : Obj) (n : Int) :
    (convert 37 9 (.slice (some ⟨w.heap.size + 1, 0, none⟩) 1 1)).run Trym.prog ((w.alloc X).alloc (.cells #[.int .u8 n] 5)).drew = .ok (.string ⟨#[UInt8.ofNat n.toNat]⟩) ((w.alloc X).alloc (.cells #[.int .u8 n] 5)).drew := by
  rw [run_convert_bytes_string _ 37 9 5 _ _ _ Trym.underlying37 Trym.underlying5 Trym.underlying9]
  rw [run_bytesToString _ ⟨w.heap.size + 1, 0, none⟩ 1 1 [n] (by go_simp)]
  rfl

/-- How 'start' answers at a common start's place. -/
def Ans (a : ByteArray) (w : World) (e : Ending) (w' : World) : Prop :=
  ∃ (s : ByteArray) (ok : Bool), e = .returned (.tuple #[.string s, .bool ok]) ∧ StartAt a.data.toList s.data.toList ok ∧ Grown w w'

set_option maxHeartbeats 800000 in
/-- (cursor).start at a common start's place. -/
theorem start_prefix (a : ByteArray) (w : World) (hs : a.size ≤ 1048576) :
    Calls Trym.prog 17 #[.agg #[.string a, .bool true]] w (Ans a w) := by
  go_enter Trym.func17, Trym.ntmps17
  go_wp2
  go_loop [4] (fun i => ∃ k : Nat, k ≤ a.size ∧ i = .int .i64 ((k : Int) - 1) ∧ Hid (allF (a.data.toList.drop k) = true)) (fun i => (intOf i + 1).toNat)
  case atStart => exact ⟨a.size, Nat.le_refl _, rfl, by show _ = _; rw [List.drop_of_length_le (by rw [← Lib.size_eq]; exact Nat.le_refl _)]; rfl⟩
  case round =>
    obtain ⟨k, hk, rfl, hh⟩ := hrel
    by_cases hk0 : 1 ≤ k
    · obtain ⟨j, rfl⟩ : ∃ j, k = j + 1 := ⟨k - 1, by omega⟩
      have ej : ((j + 1 : Nat) : Int) - 1 = (j : Int) := by omega
      rw [ej]
      have hlt : j < a.size := by omega
      cases hc : ((a[j].toNat : Int) == 255) with
      | true =>
        go_wp2
        go_round
        case rel => exact ⟨j, by omega, by go_num, by show _ = _; rw [allF_drop a j hlt, hc, hh.out]; rfl⟩
        case measure => simp [intOf]
      | false =>
        go_wp2
        have hcv := conv_one w
        have hst := start_at a j hlt hh.out hc
        have hup : UInt8.ofNat ((a[j].toNat + 1) % 256) = a[j] + 1 := up_eq a[j]
        rw [← hup] at hst
        have HS : Hid (StartAt a.data.toList (a.data.toList.take j ++ [UInt8.ofNat ((a[j].toNat + 1) % 256)]) true) := hst
        clear hst hup
        go_region
        go_wp2
        go_ret2
        refine ⟨_, true, rfl, ?_, by repeat (first | exact Grown.refl _ | apply Grown.drew | apply Grown.alloc)⟩
        rw [data_append, Lib.extract_data, Nat.sub_zero, List.drop_zero]
        exact HS.out
    · have k0 : k = 0 := by omega
      subst k0
      go_wp2
      go_ret2
      exact ⟨ByteArray.empty, false, rfl, Or.inl ⟨rfl, rfl, hh.out⟩, by repeat (first | exact Grown.refl _ | apply Grown.drew | apply Grown.alloc)⟩

/-- ZZCursorStartS3B1 at a key's place. -/
theorem zzstart_key (a : ByteArray) (w : World) (hs : a.size ≤ 1048576) :
    Calls Trym.prog 9 #[.string a, .bool false] w fun e w' => ∃ n : ByteArray, e = .returned (.tuple #[.string n, .bool true]) ∧ n.data.toList = a.data.toList ++ [0] ∧ Grown w w' := by
  go_enter Trym.func9, Trym.ntmps9
  go_wp2_with (go_at_call 17; refine (start_key _ _ hs).mono ?_; rintro e w' ⟨rfl, hg⟩)
  go_ret2
  exact ⟨_, rfl, by rw [data_append], hg⟩

/-- .. at a common start's place. -/
theorem zzstart_prefix (a : ByteArray) (w : World) (hs : a.size ≤ 1048576) :
    Calls Trym.prog 9 #[.string a, .bool true] w (Ans a w) := by
  go_enter Trym.func9, Trym.ntmps9
  go_wp2_with (go_at_call 17; refine (start_prefix _ _ hs).mono ?_; rintro e w' ⟨s, ok, rfl, hst, hg⟩)
  go_ret2
  exact ⟨s, ok, rfl, hst, hg⟩

/-- .. at the place of a common start that is all 0xff: no key comes after it. -/
theorem zzstart_none (a : ByteArray) (w : World) (hs : a.size ≤ 1048576) (hF : allF a.data.toList = true) :
    Calls Trym.prog 9 #[.string a, .bool true] w fun e w' => ∃ s : ByteArray, e = .returned (.tuple #[.string s, .bool false]) ∧ StartAt a.data.toList s.data.toList false ∧ Grown w w' := by
  refine (zzstart_prefix a w hs).mono ?_
  rintro e w' ⟨s, ok, rfl, hst, hg⟩
  have h := start_ok hst
  rw [hF] at h
  subst h
  exact ⟨s, rfl, hst, hg⟩

/-- .. of any other. -/
theorem zzstart_some (a : ByteArray) (w : World) (hs : a.size ≤ 1048576) (hF : allF a.data.toList = false) :
    Calls Trym.prog 9 #[.string a, .bool true] w fun e w' => ∃ s : ByteArray, e = .returned (.tuple #[.string s, .bool true]) ∧ StartAt a.data.toList s.data.toList true ∧ Grown w w' := by
  refine (zzstart_prefix a w hs).mono ?_
  rintro e w' ⟨s, ok, rfl, hst, hg⟩
  have h := start_ok hst
  rw [hF] at h
  subst h
  exact ⟨s, rfl, hst, hg⟩

set_option maxHeartbeats 400000 in
/-- zzHasPrefix_s3b1. -/
theorem pre_any (s p : ByteArray) (w : World) (hs : s.size ≤ 1048577) :
    Calls Trym.prog 10 #[.string s, .string p] w fun e w' => e = .returned (.bool (p.data.toList.isPrefixOf s.data.toList)) ∧ Grown w w' := by
  by_cases hlong : s.size < p.size
  · rw [pre_long s p hlong]
    go_enter Trym.func10, Trym.ntmps10
    go_wp2
    go_ret
    exact ⟨rfl, Grown.refl _⟩
  · go_enter Trym.func10, Trym.ntmps10
    go_wp2
    go_loopw [5] (fun i wr => ∃ k n : Nat, k ≤ p.size ∧ i = .int .i64 k ∧ wr = w.drewN n ∧ Hid (p.data.toList.take k = s.data.toList.take k)) (fun i _ => p.size - (intOf i).toNat)
    case atStart => exact ⟨0, 0, Nat.zero_le _, rfl, rfl, by simp [Hid]⟩
    case round =>
      obtain ⟨k, n, hk, rfl, rfl, hh⟩ := hrel
      by_cases hlt : k < p.size
      · have hlt2 : k < s.size := by omega
        cases hc : ((s[k].toNat : Int) == (p[k].toNat : Int)) with
        | true =>
          go_wp2
          go_quiet (fail)
          go_wp2
          go_roundw
          case rel => exact ⟨k + 1, _, by omega, by go_num, rfl, pre_snoc s p k hlt2 hlt hc hh.out⟩
          case measure => simp [intOf]; omega
        | false =>
          go_wp2
          go_quiet (fail)
          go_wp2
          go_ret
          rw [pre_miss s p k hlt2 hlt hc]
          exact ⟨rfl, Grown.refl w⟩
      · go_wp2
        go_ret
        rw [pre_whole s p k (by omega) hh.out]
        exact ⟨rfl, Grown.refl w⟩

/-- The bound laid by program, one string: short. -/
theorem bytes11_yes (a : ByteArray) (w : World) (h : a.size ≤ 1048576) :
    Calls Trym.prog 11 #[.string a] w fun e w' => e = .returned (.bool true) ∧ w' = w := by
  go_enter Trym.func11, Trym.ntmps11
  go_wp2
  go_ret
  exact ⟨rfl, rfl⟩

/-- The bound laid by program, two strings: short. -/
theorem bytes8_yes (a b : ByteArray) (x : Bool) (w : World) (h : a.size + b.size ≤ 1048576) :
    Calls Trym.prog 8 #[.string a, .bool x, .string b] w fun e w' => e = .returned (.bool true) ∧ w' = w := by
  have ha : a.size ≤ 1048576 := by omega
  have hb : b.size ≤ 1048576 := by omega
  go_enter Trym.func8, Trym.ntmps8
  go_wp2
  go_ret
  exact ⟨rfl, rfl⟩

/-- .. long. -/
theorem bytes8_no (a b : ByteArray) (x : Bool) (w : World) (ha : a.size ≤ maxLen) (hb : b.size ≤ maxLen) (h : 1048576 < a.size + b.size) :
    Calls Trym.prog 8 #[.string a, .bool x, .string b] w fun e w' => e = .returned (.bool false) ∧ w' = w := by
  unfold maxLen at ha hb
  by_cases h1 : 1048576 < a.size
  · go_enter Trym.func8, Trym.ntmps8
    go_wp2
    go_ret
    exact ⟨rfl, rfl⟩
  · by_cases h2 : 1048576 < b.size
    · go_enter Trym.func8, Trym.ntmps8
      go_wp2
      go_ret
      exact ⟨rfl, rfl⟩
    · go_enter Trym.func8, Trym.ntmps8
      go_wp2
      go_ret
      exact ⟨rfl, rfl⟩

end Go.Proofs.Qxb6602698aMods.Shared
