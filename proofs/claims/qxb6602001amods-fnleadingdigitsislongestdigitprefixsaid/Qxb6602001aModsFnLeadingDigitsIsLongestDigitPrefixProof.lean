/-
  THE PROOF OF 'Rows.FnLeadingDigitsIsLongestDigitPrefixSaid'. The frame is the guide's template at this function's number and types; the walk is ours.
-/
import Derived.Test.Qxb6602001aModsRows
import Derived.WalkKit
import Derived.ProofKit
import Derived.OpenShut
import Derived.ShutString
import Derived.Test.Qxb6602001aModsShared
namespace Go.Proofs.Qxb6602001aMods.fnLeadingDigitsIsLongestDigitPrefix
open Go.ChangeShapes Go.WideShapes Go.ChangeAt Go.RowKit
open Go.ChangeMaps (open_string shut_string)
open Go.Proofs.Qxb6602001aMods.Plain Go.Proofs.Qxb6602001aMods.Shared
set_option linter.unusedVariables false      -- a walk need not use every 'w<i>' (that an integer argument fits its kind)

theorem own : ownKnob Trym.prog.godebug = none := by kernel_rfl

/-! ### THE WALK: the Go text returns true; of the world that was there nothing has turned. -/
theorem walk (a0 : ByteArray) (w0 : a0.size ≤ maxLen) (w : World) :
    Calls Trym.prog 3 #[.string a0] w fun e w' => e = .returned (.bool true) ∧ Grown w w' := by
  have w0' := w0
  unfold maxLen at w0'
  by_cases hbig : 1048576 < a0.size
  · go_enter Trym.func3, Trym.ntmps3
    go_wp2
    go_ret
    exact ⟨rfl, Grown.refl _⟩
  have hle := lead_size a0
  obtain ⟨n, hn⟩ : ∃ n, n = lead a0.data.toList := ⟨_, rfl⟩
  have cL : Calls Trym.prog 6 #[.string a0] w fun e w' => e = .returned (.int .i64 (n : Int)) ∧ w' = w := by
    rw [hn]; exact zzlead_any a0 w w0
  rw [← hn] at hle
  have HN : Hid (n = lead a0.data.toList) := hn
  clear hn
  have q0 : decide ((n : Int) < 0) = false := decide_eq_false (by omega)
  have q1 : decide (a0.size < n) = false := decide_eq_false (by omega)
  go_enter Trym.func3, Trym.ntmps3
  go_wp2_with fail
  refine (bytes5_yes _ _ (by omega)).mono ?_
  rintro e w' ⟨rfl, rfl⟩
  go_wp2_with fail
  refine cL.mono ?_
  rintro e w' ⟨rfl, rfl⟩
  clear cL
  go_wp2
  go_loop [4] (fun i => ∃ k : Nat, k ≤ n ∧ i = .int .i64 k) (fun i => n - (intOf i).toNat)
  case atStart => exact ⟨0, Nat.zero_le _, rfl⟩
  case round =>
    obtain ⟨k, hk, rfl⟩ := hrel
    by_cases hlt : k < n
    · have hks : k < a0.size := by omega
      have hd : isD (a0[k].toNat : Int) = true := by
        obtain ⟨_, h⟩ := digit_below a0 k (by rw [← HN.out]; exact hlt)
        exact h
      have HD : Hid (isD (a0[k].toNat : Int) = true) := hd
      clear hd
      go_wp2_with fail
      refine (digit_any _ _).mono ?_
      rintro e w' ⟨rfl, rfl⟩
      rw [HD.out]
      go_wp2
      go_round
      case rel => exact ⟨k + 1, by omega, by go_num⟩
      case measure => simp [intOf]; omega
    · by_cases hend : n < a0.size
      · have hd := no_digit_at a0 n hend HN.out.symm
        have HD : Hid (isD (a0[n].toNat : Int) = false) := hd
        clear hd
        go_wp2_with fail
        refine (digit_any _ _).mono ?_
        rintro e w' ⟨rfl, rfl⟩
        rw [HD.out]
        go_wp2
        go_ret
        exact ⟨rfl, Grown.refl _⟩
      · have hnn : n = a0.size := by omega
        have he : ((n : Int) == (a0.size : Int)) = true := by simp [hnn]
        clear hnn
        go_wp2
        go_ret
        exact ⟨rfl, Grown.refl _⟩

/-! ### THE ROW's STEP: WRITTEN OUT: LEAVE IT -/
set_option maxRecDepth 100000 in
theorem lifted (os : Os) (started : os.Started) (H : Type) (enc : TypeId × Value → H) :
    ReturnsInHanded {} Trym.checked os 3 .any (Rows.fnLeadingDigitsIsLongestDigitPrefixSpec.pre6 enc Trym.prog Trym.f3 Rows.fnLeadingDigitsIsLongestDigitPrefixRow.domain false) (Rows.fnLeadingDigitsIsLongestDigitPrefixSpec.post enc Trym.prog Trym.f3 false true false false) := by
  refine returnsInHanded_of_change (C := Trym.checked) own started (by kernel_rfl) Trym.func3
    (ChangeSpec.witness6 (enc := enc) (C := Trym.checked) false ⟨#[], #[.string ByteArray.empty], []⟩ 8 (by kernel_rfl) (by kernel_rfl) (by kernel_rfl) (by kernel_rfl)) ?_
  intro W base args ds gs before hval0 hW hcnd _
  have hval : ∀ (j : Nat) t v, Trym.f3.params[j]? = some t → args[j]? = some v → Value.okWide Trym.prog W .any base t v := hval0
  have hW' := hW
  obtain ⟨p, q, hA0, hV, rfl, hfz, hnd⟩ := hW
  have hA : DataW.TrodAll enc Trym.prog W 0 (fun _ => true) true Trym.f3.params.toList args.toList ds p := hA0
  rw [Trym.params3] at hA hval
  obtain ⟨v0, vs0, d0, ds0, p0, q0, hargs, rfl, rfl, h0, r0⟩ := trodAll_cons hA
  obtain ⟨rfl, rfl, rfl⟩ := trodAll_nil r0
  obtain rfl : args = #[v0] := by cases args; simp_all
  obtain ⟨rfl, rfl⟩ := trodVars_none hV
  obtain ⟨a0, rfl, rfl, rfl, w0⟩ := open_string Trym.underlying9 (hval 0 9 v0 rfl rfl) h0
  clear hA0 hval0
  simp only [List.append_nil] at hW'
  refine (walk a0 w0 W).mono fun e W' ⟨he, hg⟩ => ?_
  subst he
  exact ⟨_, rfl, post_of_same (pa := []) (pv := []) hW' (fun _ _ _ => (trodAll_cons_mk (shut_bool Trym.underlying4 _) trodAll_mk0)) (fun sp _ => (trodAll_cons_mk (shut_string Trym.underlying9 w0) trodAll_mk0)) (fun _ _ => rfl) rfl
    (hg.frame _) hg.2.1 (ok_one (by kernel_rfl) rfl (okWide_bool_mk Trym.underlying4 _))⟩

theorem over : Rows.fnLeadingDigitsIsLongestDigitPrefixRow.holds Trym.pinned (OpenSpec.ofChange Rows.fnLeadingDigitsIsLongestDigitPrefixSpec) :=
  OpenClaim.holds_of_wide 3 Trym.f3 rfl rfl rfl rfl rfl rfl rfl ⟨rfl, rfl, rfl, rfl, rfl⟩ rfl rfl rfl rfl rfl (by kernel_rfl) Trym.func3 (by kernel_rfl)
    (of_decide_eq_true (by kernel_rfl)) (by unfold Func.isWrapper; first | (rw [if_pos (by decide +kernel)]; kernel_rfl) | (rw [if_neg (by decide +kernel)]; exact ⟨rfl, rfl⟩))
    (fun os started H enc _ => lifted os started H enc)

/-- ████ THE STATEMENT ████ -/
theorem proved : Rows.FnLeadingDigitsIsLongestDigitPrefixSaid :=
  over
#print axioms proved
end Go.Proofs.Qxb6602001aMods.fnLeadingDigitsIsLongestDigitPrefix
