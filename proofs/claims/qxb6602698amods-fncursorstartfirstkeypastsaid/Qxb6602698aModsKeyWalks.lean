/-
  THE WALKS OF FnCursorStartFirstKeyPast AT SHORT STRINGS: a key's place; a common start's place of 0xff alone; any other common start's place.
-/
import Derived.Test.Qxb6602698aModsShared
namespace Go.Proofs.Qxb6602698aMods.KeyWalks
open Go.RowKit
open Go.Proofs.Qxb6602698aMods.Plain Go.Proofs.Qxb6602698aMods.Shared

/-- A key's place. -/
theorem walk_key (a k : ByteArray) (w : World) (ha : a.size ≤ 65536) (hk : k.size ≤ 65536) :
    Calls Trym.prog 3 #[.string a, .bool false, .string k] w fun e w' => e = .returned (.bool true) ∧ Grown w w' := by
  have ha1 : a.size ≤ 1048576 := by omega
  rcases tri k a with h1 | rfl | ⟨h1, h2⟩
  · go_enter Trym.func3, Trym.ntmps3
    go_wp2_with fail
    refine (bytes8_yes _ _ _ _ (by omega)).mono ?_
    rintro e w' ⟨rfl, rfl⟩
    go_wp2_with fail
    refine (zzstart_key _ _ ha1).mono ?_
    rintro e w1 ⟨n, rfl, hn, hg⟩
    obtain ⟨_, n2, n3⟩ := next_facts a n hn
    have n4 := key_next a n k hn
    rw [h1, Bool.true_or] at n4
    clear hn
    go_wp2
    go_ret
    exact ⟨rfl, hg⟩
  · have h1 := less_self k
    go_enter Trym.func3, Trym.ntmps3
    go_wp2_with fail
    refine (bytes8_yes _ _ _ _ (by omega)).mono ?_
    rintro e w' ⟨rfl, rfl⟩
    go_wp2_with fail
    refine (zzstart_key _ _ ha1).mono ?_
    rintro e w1 ⟨n, rfl, hn, hg⟩
    obtain ⟨_, n2, n3⟩ := next_facts k n hn
    have n4 := key_next k n k hn
    rw [beq_self_eq_true, Bool.or_true] at n4
    clear hn
    go_wp2
    go_ret
    exact ⟨rfl, hg⟩
  · go_enter Trym.func3, Trym.ntmps3
    go_wp2_with fail
    refine (bytes8_yes _ _ _ _ (by omega)).mono ?_
    rintro e w' ⟨rfl, rfl⟩
    go_wp2_with fail
    refine (zzstart_key _ _ ha1).mono ?_
    rintro e w1 ⟨n, rfl, hn, hg⟩
    obtain ⟨_, n2, n3⟩ := next_facts a n hn
    have n4 := key_next a n k hn
    rw [h1, h2, Bool.or_false] at n4
    clear hn
    go_wp2
    go_ret
    exact ⟨rfl, hg⟩

/-- A common start's place, 0xff alone. -/
theorem walk_none (a k : ByteArray) (w : World) (ha : a.size ≤ 65536) (hk : k.size ≤ 65536) (hF : allF a.data.toList = true) :
    Calls Trym.prog 3 #[.string a, .bool true, .string k] w fun e w' => e = .returned (.bool true) ∧ Grown w w' := by
  have ha1 : a.size ≤ 1048576 := by omega
  have HF : Hid (allF a.data.toList = true) := hF
  clear hF
  rcases tri k a with h1 | rfl | ⟨h1, h2⟩
  · go_enter Trym.func3, Trym.ntmps3
    go_wp2_with fail
    refine (bytes8_yes _ _ _ _ (by omega)).mono ?_
    rintro e w' ⟨rfl, rfl⟩
    go_wp2_with fail
    refine (zzstart_none _ _ ha1 HF.out).mono ?_
    rintro e w1 ⟨s, rfl, hst, hg⟩
    have hs : s.toList = [] := by rw [Lib.toList_data]; exact (start_no hst).1
    clear hst
    go_wp2
    go_ret
    exact ⟨rfl, hg⟩
  · have h1 := less_self k
    go_enter Trym.func3, Trym.ntmps3
    go_wp2_with fail
    refine (bytes8_yes _ _ _ _ (by omega)).mono ?_
    rintro e w' ⟨rfl, rfl⟩
    go_wp2_with fail
    refine (zzstart_none _ _ ha1 HF.out).mono ?_
    rintro e w1 ⟨s, rfl, hst, hg⟩
    have hs : s.toList = [] := by rw [Lib.toList_data]; exact (start_no hst).1
    clear hst
    go_wp2
    go_ret
    exact ⟨rfl, hg⟩
  · have HP : Hid (a.data.toList.isPrefixOf k.data.toList = true) := none_pre a k HF.out h1 h2
    go_enter Trym.func3, Trym.ntmps3
    go_wp2_with fail
    refine (bytes8_yes _ _ _ _ (by omega)).mono ?_
    rintro e w' ⟨rfl, rfl⟩
    go_wp2_with fail
    refine (zzstart_none _ _ ha1 HF.out).mono ?_
    rintro e w1 ⟨s, rfl, hst, hg⟩
    have hs : s.toList = [] := by rw [Lib.toList_data]; exact (start_no hst).1
    clear hst
    go_wp2_with fail
    refine (pre_any _ _ _ (by omega)).mono ?_
    rintro e w2 ⟨rfl, hg2⟩
    rw [HP.out]
    go_wp2
    go_ret
    exact ⟨rfl, grown_trans hg hg2⟩

/-- Any other common start's place. -/
theorem walk_some (a k : ByteArray) (w : World) (ha : a.size ≤ 65536) (hk : k.size ≤ 65536) (hF : allF a.data.toList = false) :
    Calls Trym.prog 3 #[.string a, .bool true, .string k] w fun e w' => e = .returned (.bool true) ∧ Grown w w' := by
  have ha1 : a.size ≤ 1048576 := by omega
  have HF : Hid (allF a.data.toList = false) := hF
  clear hF
  rcases tri k a with h1 | rfl | ⟨h1, h2⟩
  · go_enter Trym.func3, Trym.ntmps3
    go_wp2_with fail
    refine (bytes8_yes _ _ _ _ (by omega)).mono ?_
    rintro e w' ⟨rfl, rfl⟩
    go_wp2_with fail
    refine (zzstart_some _ _ ha1 HF.out).mono ?_
    rintro e w1 ⟨s, rfl, hst, hg⟩
    obtain ⟨s1, s2, s3, s4⟩ := some_facts a s hst
    have s5 := some_low a s k hst (by rw [h1]; rfl)
    have HP : Hid (a.data.toList.isPrefixOf s.data.toList = false) := s3
    clear hst s3
    go_wp2_with fail
    refine (pre_any _ _ _ (by omega)).mono ?_
    rintro e w2 ⟨rfl, hg2⟩
    rw [HP.out]
    go_wp2
    go_ret
    exact ⟨rfl, grown_trans hg hg2⟩
  · have h1 := less_self k
    go_enter Trym.func3, Trym.ntmps3
    go_wp2_with fail
    refine (bytes8_yes _ _ _ _ (by omega)).mono ?_
    rintro e w' ⟨rfl, rfl⟩
    go_wp2_with fail
    refine (zzstart_some _ _ ha1 HF.out).mono ?_
    rintro e w1 ⟨s, rfl, hst, hg⟩
    obtain ⟨s1, s2, s3, s4⟩ := some_facts k s hst
    have s5 := some_low k s k hst (by rw [beq_self_eq_true, Bool.or_true])
    have HP : Hid (k.data.toList.isPrefixOf s.data.toList = false) := s3
    clear hst s3
    go_wp2_with fail
    refine (pre_any _ _ _ (by omega)).mono ?_
    rintro e w2 ⟨rfl, hg2⟩
    rw [HP.out]
    go_wp2
    go_ret
    exact ⟨rfl, grown_trans hg hg2⟩
  · cases hx : a.data.toList.isPrefixOf k.data.toList with
    | true =>
      have HX : Hid (a.data.toList.isPrefixOf k.data.toList = true) := hx
      clear hx
      go_enter Trym.func3, Trym.ntmps3
      go_wp2_with fail
      refine (bytes8_yes _ _ _ _ (by omega)).mono ?_
      rintro e w' ⟨rfl, rfl⟩
      go_wp2_with fail
      refine (zzstart_some _ _ ha1 HF.out).mono ?_
      rintro e w1 ⟨s, rfl, hst, hg⟩
      obtain ⟨s1, s2, s3, s4⟩ := some_facts a s hst
      have s5 := some_high a s k hst h1 h2
      rw [HX.out] at s5
      have HP : Hid (a.data.toList.isPrefixOf s.data.toList = false) := s3
      clear hst s3
      go_wp2_with fail
      refine (pre_any _ _ _ (by omega)).mono ?_
      rintro e w2 ⟨rfl, hg2⟩
      rw [HX.out]
      go_wp2_with fail
      refine (pre_any _ _ _ (by omega)).mono ?_
      rintro e w3 ⟨rfl, hg3⟩
      rw [HP.out]
      go_wp2
      go_ret
      exact ⟨rfl, grown_trans (grown_trans hg hg2) hg3⟩
    | false =>
      have HX : Hid (a.data.toList.isPrefixOf k.data.toList = false) := hx
      clear hx
      go_enter Trym.func3, Trym.ntmps3
      go_wp2_with fail
      refine (bytes8_yes _ _ _ _ (by omega)).mono ?_
      rintro e w' ⟨rfl, rfl⟩
      go_wp2_with fail
      refine (zzstart_some _ _ ha1 HF.out).mono ?_
      rintro e w1 ⟨s, rfl, hst, hg⟩
      obtain ⟨s1, s2, s3, s4⟩ := some_facts a s hst
      have s5 := some_high a s k hst h1 h2
      rw [HX.out] at s5
      have HP : Hid (a.data.toList.isPrefixOf s.data.toList = false) := s3
      clear hst s3
      go_wp2_with fail
      refine (pre_any _ _ _ (by omega)).mono ?_
      rintro e w2 ⟨rfl, hg2⟩
      rw [HX.out]
      go_wp2_with fail
      refine (pre_any _ _ _ (by omega)).mono ?_
      rintro e w3 ⟨rfl, hg3⟩
      rw [HP.out]
      go_wp2
      go_ret
      exact ⟨rfl, grown_trans (grown_trans hg hg2) hg3⟩

end Go.Proofs.Qxb6602698aMods.KeyWalks
