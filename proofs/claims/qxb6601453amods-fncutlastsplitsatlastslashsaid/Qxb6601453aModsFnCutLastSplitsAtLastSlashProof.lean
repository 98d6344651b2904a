/-
  THE PROOF OF 'Rows.FnCutLastSplitsAtLastSlashSaid' ('zzlaws_internal_httpdoor_b1.FnCutLastSplitsAtLastSlash'). The frame is the guide's template at this function's number and types; the walk is ours.
-/
import Derived.Test.Qxb6601453aModsRows
import Derived.WalkKit
import Derived.ProofKit
import Derived.OpenShut
import Derived.ShutString
import Derived.Test.Qxb6601453aModsShared
namespace Go.Proofs.Qxb6601453aMods.fnCutLastSplitsAtLastSlash
open Go.ChangeShapes Go.WideShapes Go.ChangeAt Go.RowKit
open Go.ChangeMaps (open_string shut_string)
open Go.Proofs.Qxb6601453aMods.Plain Go.Proofs.Qxb6601453aMods.Shared
set_option linter.unusedVariables false      -- a walk need not use every 'w<i>' (that an integer argument fits its kind)

theorem own : ownKnob Trym.prog.godebug = none := by kernel_rfl

/-! ### THE WALK: the Go text returns true; the world has at most moved on by draws. -/
theorem walk (a0 : ByteArray) (w0 : a0.size ≤ maxLen) (w : World) :
    Calls Trym.prog 3 #[.string a0] w fun e w' => e = .returned (.bool true) ∧ Grown w w' := by
  have w0' := w0
  unfold maxLen at w0'
  by_cases hbig : 1048576 < a0.size
  · go_enter Trym.func3, Trym.ntmps3
    go_wp2
    go_ret
    exact ⟨rfl, Grown.refl _⟩
  · cases hb : hasB a0.data.toList with
    | false =>
      go_enter Trym.func3, Trym.ntmps3
      go_wp2_with fail
      refine (bytes6_yes _ _ (by omega)).mono ?_
      rintro e w' ⟨rfl, rfl⟩
      go_wp2_with fail
      refine (zzcut_any _ _ w0).mono ?_
      rintro e w' ⟨b, a, n, rfl, hc, rfl⟩
      go_wp2_with fail
      refine (contains_any _ _ w0).mono ?_
      rintro e w' ⟨rfl, rfl⟩
      rw [hb]
      obtain ⟨hc1, hc2⟩ := cut_no hc hb
      have hb1 : b.toList = [] := by rw [Lib.toList_data]; exact hc1
      have ha1 : a.toList = a0.toList := by rw [Lib.toList_data, Lib.toList_data]; exact hc2
      clear hc hc1 hc2 hb
      go_wp2
      go_ret
      exact ⟨rfl, grown_drewN _ _⟩
    | true =>
      go_enter Trym.func3, Trym.ntmps3
      go_wp2_with fail
      refine (bytes6_yes _ _ (by omega)).mono ?_
      rintro e w' ⟨rfl, rfl⟩
      go_wp2_with fail
      refine (zzcut_any _ _ w0).mono ?_
      rintro e w' ⟨b, a, n, rfl, hc, rfl⟩
      go_wp2_with fail
      refine (contains_any _ _ w0).mono ?_
      rintro e w' ⟨rfl, rfl⟩
      rw [hb]
      obtain ⟨hc1, hc2⟩ := cut_yes hc hb
      have hE : b ++ ByteArray.mk #[47] ++ a = a0 := ba_ext (by rw [data_slash, hc1])
      have hz : b.size + 1 + a.size = a0.size := by
        have := size_of_list hc1
        rw [List.length_append, List.length_cons, ← Lib.size_eq, ← Lib.size_eq] at this
        omega
      have hz1 : b.size ≤ 1048576 := by omega
      have hz2 : b.size + 1 + a.size ≤ 1048576 := by omega
      have hza : a.size ≤ maxLen := by unfold maxLen; omega
      clear hc hc1 hb hz
      have HA : Hid (hasB a.data.toList = false) := hc2
      clear hc2
      go_wp2_with fail
      refine (contains_any _ _ hza).mono ?_
      rintro e w' ⟨rfl, rfl⟩
      rw [HA.out]
      go_wp2
      go_ret
      exact ⟨rfl, grown_drewN _ _⟩

/-! ### THE ROW's STEP: WRITTEN OUT: LEAVE IT -/
set_option maxRecDepth 100000 in
theorem lifted (os : Os) (started : os.Started) (H : Type) (enc : TypeId × Value → H) :
    ReturnsInHanded {} Trym.checked os 3 .any (Rows.fnCutLastSplitsAtLastSlashSpec.pre6 enc Trym.prog Trym.f3 Rows.fnCutLastSplitsAtLastSlashRow.domain false) (Rows.fnCutLastSplitsAtLastSlashSpec.post enc Trym.prog Trym.f3 false true false false) := by
  refine returnsInHanded_of_change (C := Trym.checked) own started (by kernel_rfl) Trym.func3
    (ChangeSpec.witness6 (enc := enc) (C := Trym.checked) false ⟨#[], #[.string ByteArray.empty], []⟩ 8 (by kernel_rfl) (by kernel_rfl) (by kernel_rfl) (by kernel_rfl)) ?_
  intro W base args ds gs before hval0 hW hcnd _
  have hval : ∀ (j : Nat) t v, Trym.f3.params[j]? = some t → args[j]? = some v → Value.okWide Trym.prog W .any base t v := hval0
  have hW' := hW
  obtain ⟨p, q, hA0, hV, rfl, hfz, hnd⟩ := hW
  have hA : DataW.TrodAll enc Trym.prog W 0 (fun _ => true) true Trym.f3.params.toList args.toList ds p := hA0
  rw [Trym.params3] at hA hval
  obtain ⟨v0, vs0, d0, ds0, p0, q0, hargs, rfl, rfl, h0, r0⟩ := trodAll_cons hA
  obtain ⟨rfl, rfl, rfl⟩ := trodAll_nil r0
  obtain rfl : args = #[v0] := by cases args; simp_all
  obtain ⟨rfl, rfl⟩ := trodVars_none hV
  obtain ⟨a0, rfl, rfl, rfl, w0⟩ := open_string Trym.underlying9 (hval 0 9 v0 rfl rfl) h0
  clear hA0 hval0
  simp only [List.append_nil] at hW'
  refine (walk a0 w0 W).mono fun e W' ⟨he, hg⟩ => ?_
  subst he
  exact ⟨_, rfl, post_of_same (pa := []) (pv := []) hW' (fun _ _ _ => (trodAll_cons_mk (shut_bool Trym.underlying4 _) trodAll_mk0)) (fun sp _ => (trodAll_cons_mk (shut_string Trym.underlying9 w0) trodAll_mk0)) (fun _ _ => rfl) rfl
    (hg.frame _) hg.2.1 (ok_one (by kernel_rfl) rfl (okWide_bool_mk Trym.underlying4 _))⟩

theorem over : Rows.fnCutLastSplitsAtLastSlashRow.holds Trym.pinned (OpenSpec.ofChange Rows.fnCutLastSplitsAtLastSlashSpec) :=
  OpenClaim.holds_of_wide 3 Trym.f3 rfl rfl rfl rfl rfl rfl rfl ⟨rfl, rfl, rfl, rfl, rfl⟩ rfl rfl rfl rfl rfl (by kernel_rfl) Trym.func3 (by kernel_rfl)
    (of_decide_eq_true (by kernel_rfl)) (by unfold Func.isWrapper; first | (rw [if_pos (by decide +kernel)]; kernel_rfl) | (rw [if_neg (by decide +kernel)]; exact ⟨rfl, rfl⟩))
    (fun os started H enc _ => lifted os started H enc)

/-- ████ THE STATEMENT ████ -/
theorem proved : Rows.FnCutLastSplitsAtLastSlashSaid :=
  over
#print axioms proved
end Go.Proofs.Qxb6601453aMods.fnCutLastSplitsAtLastSlash
