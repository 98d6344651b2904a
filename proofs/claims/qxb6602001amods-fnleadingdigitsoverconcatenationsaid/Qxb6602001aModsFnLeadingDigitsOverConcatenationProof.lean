/-
  THE PROOF OF 'Rows.FnLeadingDigitsOverConcatenationSaid'. The frame is the guide's template at this function's number and types; the walk is ours.
-/
import Derived.Test.Qxb6602001aModsRows
import Derived.WalkKit
import Derived.ProofKit
import Derived.OpenShut
import Derived.ShutString
import Derived.Test.Qxb6602001aModsShared
namespace Go.Proofs.Qxb6602001aMods.fnLeadingDigitsOverConcatenation
open Go.ChangeShapes Go.WideShapes Go.ChangeAt Go.RowKit
open Go.ChangeMaps (open_string shut_string)
open Go.Proofs.Qxb6602001aMods.Plain Go.Proofs.Qxb6602001aMods.Shared
set_option linter.unusedVariables false      -- a walk need not use every 'w<i>' (that an integer argument fits its kind)

theorem own : ownKnob Trym.prog.godebug = none := by kernel_rfl

/-! ### THE WALK: the Go text returns true; of the world that was there nothing has turned. -/
theorem walk (a0 : ByteArray) (a1 : ByteArray) (w0 : a0.size ≤ maxLen) (w1 : a1.size ≤ maxLen) (w : World) :
    Calls Trym.prog 4 #[.string a0, .string a1] w fun e w' => e = .returned (.bool true) ∧ Grown w w' := by
  have w0' := w0
  have w1' := w1
  unfold maxLen at w0' w1'
  by_cases hbig : 1048576 < a0.size + a1.size
  · go_enter Trym.func4, Trym.ntmps4
    go_wp2_with fail
    refine (bytes8_no _ _ _ w0 w1 hbig).mono ?_
    rintro e w' ⟨rfl, rfl⟩
    go_wp2
    go_ret
    exact ⟨rfl, Grown.refl _⟩
  by_cases hb0 : 524288 < a0.size
  · go_enter Trym.func4, Trym.ntmps4
    go_wp2_with fail
    refine (bytes8_yes _ _ _ (by omega)).mono ?_
    rintro e w' ⟨rfl, rfl⟩
    go_wp2
    go_ret
    exact ⟨rfl, Grown.refl _⟩
  by_cases hb1 : 524288 < a1.size
  · go_enter Trym.func4, Trym.ntmps4
    go_wp2_with fail
    refine (bytes8_yes _ _ _ (by omega)).mono ?_
    rintro e w' ⟨rfl, rfl⟩
    go_wp2
    go_ret
    exact ⟨rfl, Grown.refl _⟩
  have hz : (a0 ++ a1).size ≤ maxLen := by
    unfold maxLen
    rw [ByteArray.size_append]
    omega
  have hz2 : a0.size + a1.size ≤ 1048576 := by omega
  cases hall : allD a0.data.toList with
  | true =>
    have HA : Hid (allD a0.data.toList = true) := hall
    clear hall
    obtain ⟨nb, hnb⟩ : ∃ n, n = lead a1.data.toList := ⟨_, rfl⟩
    have hnb1 := lead_size a1
    rw [← hnb] at hnb1
    have cA : Hid (∀ w, Calls Trym.prog 6 #[.string a0] w fun e w' => e = .returned (.int .i64 (a0.size : Int)) ∧ w' = w) := fun w => by
      have := zzlead_any a0 w w0
      rwa [(lead_all _).2 HA.out, ← Lib.size_eq] at this
    have cB : Hid (∀ w, Calls Trym.prog 6 #[.string a1] w fun e w' => e = .returned (.int .i64 (nb : Int)) ∧ w' = w) := fun w => by
      rw [hnb]; exact zzlead_any a1 w w1
    have cAB : Hid (∀ w, Calls Trym.prog 6 #[.string (a0 ++ a1)] w fun e w' => e = .returned (.int .i64 ((a0.size : Int) + (nb : Int))) ∧ w' = w) := fun w => by
      have := zzlead_any (a0 ++ a1) w hz
      rwa [data_append, lead_append, if_pos ((lead_all _).2 HA.out), ← Lib.size_eq, ← hnb, Int.natCast_add] at this
    clear hnb
    go_enter Trym.func4, Trym.ntmps4
    go_wp2_with fail
    refine (bytes8_yes _ _ _ (by omega)).mono ?_
    rintro e w' ⟨rfl, rfl⟩
    go_wp2
    go_loop [5, 6] (fun b i => b = .bool false ∧ ∃ k : Nat, k ≤ a0.size ∧ i = .int .i64 k) (fun _ i => a0.size - (intOf i).toNat)
    case atStart => exact ⟨rfl, 0, Nat.zero_le _, rfl⟩
    case round =>
      obtain ⟨rfl, k, hk, rfl⟩ := hrel
      by_cases hlt : k < a0.size
      · have HD : Hid (isD (a0[k].toNat : Int) = true) := digit_of_all a0 k hlt HA.out
        go_wp2_with fail
        refine (digit_any _ _).mono ?_
        rintro e w' ⟨rfl, rfl⟩
        rw [HD.out]
        go_wp2
        go_round
        case rel => exact ⟨rfl, k + 1, by omega, by go_num⟩
        case measure => simp [intOf]; omega
      · go_wp2_with fail
        refine (cA.out _).mono ?_
        rintro e w' ⟨rfl, rfl⟩
        go_wp2_with fail
        refine (cAB.out _).mono ?_
        rintro e w' ⟨rfl, rfl⟩
        go_wp2_with fail
        refine (cB.out _).mono ?_
        rintro e w' ⟨rfl, rfl⟩
        go_wp2
        go_ret
        exact ⟨rfl, Grown.refl _⟩
  | false =>
    have HA : Hid (allD a0.data.toList = false) := hall
    clear hall
    obtain ⟨na, hna⟩ : ∃ n, n = lead a0.data.toList := ⟨_, rfl⟩
    have hlt0 : na < a0.size := by rw [hna, Lib.size_eq]; exact lead_not _ HA.out
    have cA : Hid (∀ w, Calls Trym.prog 6 #[.string a0] w fun e w' => e = .returned (.int .i64 (na : Int)) ∧ w' = w) := fun w => by
      rw [hna]; exact zzlead_any a0 w w0
    have cAB : Hid (∀ w, Calls Trym.prog 6 #[.string (a0 ++ a1)] w fun e w' => e = .returned (.int .i64 (na : Int)) ∧ w' = w) := fun w => by
      have := zzlead_any (a0 ++ a1) w hz
      rwa [data_append, lead_append, if_neg (by rw [← hna, ← Lib.size_eq]; omega), ← hna] at this
    clear hna
    go_enter Trym.func4, Trym.ntmps4
    go_wp2_with fail
    refine (bytes8_yes _ _ _ (by omega)).mono ?_
    rintro e w' ⟨rfl, rfl⟩
    go_wp2
    go_loop [5, 6] (fun b i => b = .bool false ∧ ∃ k : Nat, k ≤ a0.size ∧ i = .int .i64 k ∧ Hid (allD (a0.data.toList.take k) = true)) (fun _ i => a0.size - (intOf i).toNat)
    case atStart => exact ⟨rfl, 0, Nat.zero_le _, rfl, by simp [Hid, allD]⟩
    case round =>
      obtain ⟨rfl, k, hk, rfl, hh⟩ := hrel
      have hlt : k < a0.size := by
        refine Nat.lt_of_not_le fun h => ?_
        have := allD_whole a0 k h hh.out
        rw [HA.out] at this
        exact absurd this (by simp)
      cases hd : isD (a0[k].toNat : Int) with
      | true =>
        have HD : Hid (isD (a0[k].toNat : Int) = true) := hd
        clear hd
        go_wp2_with fail
        refine (digit_any _ _).mono ?_
        rintro e w' ⟨rfl, rfl⟩
        rw [HD.out]
        go_wp2
        go_round
        case rel => exact ⟨rfl, k + 1, by omega, by go_num, by show _ = _; rw [allD_snoc a0 k hlt, hh.out, HD.out]; rfl⟩
        case measure => simp [intOf]; omega
      | false =>
        have HD : Hid (isD (a0[k].toNat : Int) = false) := hd
        clear hd
        go_wp2_with fail
        refine (digit_any _ _).mono ?_
        rintro e w' ⟨rfl, rfl⟩
        rw [HD.out]
        go_wp2_with fail
        refine (cA.out _).mono ?_
        rintro e w' ⟨rfl, rfl⟩
        go_wp2_with fail
        refine (cAB.out _).mono ?_
        rintro e w' ⟨rfl, rfl⟩
        go_wp2
        go_ret
        exact ⟨rfl, Grown.refl _⟩

/-! ### THE ROW's STEP: WRITTEN OUT: LEAVE IT -/
set_option maxRecDepth 100000 in
theorem lifted (os : Os) (started : os.Started) (H : Type) (enc : TypeId × Value → H) :
    ReturnsInHanded {} Trym.checked os 4 .any (Rows.fnLeadingDigitsOverConcatenationSpec.pre6 enc Trym.prog Trym.f4 Rows.fnLeadingDigitsOverConcatenationRow.domain false) (Rows.fnLeadingDigitsOverConcatenationSpec.post enc Trym.prog Trym.f4 false true false false) := by
  refine returnsInHanded_of_change (C := Trym.checked) own started (by kernel_rfl) Trym.func4
    (ChangeSpec.witness6 (enc := enc) (C := Trym.checked) false ⟨#[], #[.string ByteArray.empty, .string ByteArray.empty], []⟩ 8 (by kernel_rfl) (by kernel_rfl) (by kernel_rfl) (by kernel_rfl)) ?_
  intro W base args ds gs before hval0 hW hcnd _
  have hval : ∀ (j : Nat) t v, Trym.f4.params[j]? = some t → args[j]? = some v → Value.okWide Trym.prog W .any base t v := hval0
  have hW' := hW
  obtain ⟨p, q, hA0, hV, rfl, hfz, hnd⟩ := hW
  have hA : DataW.TrodAll enc Trym.prog W 0 (fun _ => true) true Trym.f4.params.toList args.toList ds p := hA0
  rw [Trym.params4] at hA hval
  obtain ⟨v0, vs0, d0, ds0, p0, q0, hargs, rfl, rfl, h0, r0⟩ := trodAll_cons hA
  obtain ⟨v1, vs1, d1, ds1, p1, q1, rfl, rfl, rfl, h1, r1⟩ := trodAll_cons r0
  obtain ⟨rfl, rfl, rfl⟩ := trodAll_nil r1
  obtain rfl : args = #[v0, v1] := by cases args; simp_all
  obtain ⟨rfl, rfl⟩ := trodVars_none hV
  obtain ⟨a0, rfl, rfl, rfl, w0⟩ := open_string Trym.underlying9 (hval 0 9 v0 rfl rfl) h0
  obtain ⟨a1, rfl, rfl, rfl, w1⟩ := open_string Trym.underlying9 (hval 1 9 v1 rfl rfl) h1
  clear hA0 hval0
  simp only [List.append_nil] at hW'
  refine (walk a0 a1 w0 w1 W).mono fun e W' ⟨he, hg⟩ => ?_
  subst he
  exact ⟨_, rfl, post_of_same (pa := []) (pv := []) hW' (fun _ _ _ => (trodAll_cons_mk (shut_bool Trym.underlying4 _) trodAll_mk0)) (fun sp _ => (trodAll_cons_mk (shut_string Trym.underlying9 w0) (trodAll_cons_mk (shut_string Trym.underlying9 w1) trodAll_mk0))) (fun _ _ => rfl) rfl
    (hg.frame _) hg.2.1 (ok_one (by kernel_rfl) rfl (okWide_bool_mk Trym.underlying4 _))⟩

theorem over : Rows.fnLeadingDigitsOverConcatenationRow.holds Trym.pinned (OpenSpec.ofChange Rows.fnLeadingDigitsOverConcatenationSpec) :=
  OpenClaim.holds_of_wide 4 Trym.f4 rfl rfl rfl rfl rfl rfl rfl ⟨rfl, rfl, rfl, rfl, rfl⟩ rfl rfl rfl rfl rfl (by kernel_rfl) Trym.func4 (by kernel_rfl)
    (of_decide_eq_true (by kernel_rfl)) (by unfold Func.isWrapper; first | (rw [if_pos (by decide +kernel)]; kernel_rfl) | (rw [if_neg (by decide +kernel)]; exact ⟨rfl, rfl⟩))
    (fun os started H enc _ => lifted os started H enc)

/-- ████ THE STATEMENT ████ -/
theorem proved : Rows.FnLeadingDigitsOverConcatenationSaid :=
  over
#print axioms proved
end Go.Proofs.Qxb6602001aMods.fnLeadingDigitsOverConcatenation
