/-
  THE PROOF OF 'Rows.FnCutLastAppendExtendsLastSegmentSaid' ('zzlaws_internal_httpdoor_b1.FnCutLastAppendExtendsLastSegment'). The frame is the guide's template at this function's number and types; the walk is ours.
-/
import Derived.Test.Qxb6601453aModsRows
import Derived.WalkKit
import Derived.ProofKit
import Derived.OpenShut
import Derived.ShutString
import Derived.Test.Qxb6601453aModsShared
namespace Go.Proofs.Qxb6601453aMods.fnCutLastAppendExtendsLastSegment
open Go.ChangeShapes Go.WideShapes Go.ChangeAt Go.RowKit
open Go.ChangeMaps (open_string shut_string)
open Go.Proofs.Qxb6601453aMods.Plain Go.Proofs.Qxb6601453aMods.Shared
set_option linter.unusedVariables false      -- a walk need not use every 'w<i>' (that an integer argument fits its kind)

theorem own : ownKnob Trym.prog.godebug = none := by kernel_rfl

/-! ### THE WALK: the Go text returns true; the world has at most moved on by draws. -/
theorem walk (a0 : ByteArray) (a1 : ByteArray) (w0 : a0.size ≤ maxLen) (w1 : a1.size ≤ maxLen) (w : World) :
    Calls Trym.prog 5 #[.string a0, .string a1] w fun e w' => e = .returned (.bool true) ∧ Grown w w' := by
  have w0' := w0
  have w1' := w1
  unfold maxLen at w0' w1'
  by_cases hbig : 1048576 < a0.size + a1.size
  · go_enter Trym.func5, Trym.ntmps5
    go_wp2_with fail
    refine (bytes10_no _ _ _ w0 w1 hbig).mono ?_
    rintro e w' ⟨rfl, rfl⟩
    go_wp2
    go_ret
    exact ⟨rfl, Grown.refl _⟩
  by_cases hb0 : 524288 < a0.size
  · go_enter Trym.func5, Trym.ntmps5
    go_wp2_with fail
    refine (bytes10_yes _ _ _ (by omega)).mono ?_
    rintro e w' ⟨rfl, rfl⟩
    go_wp2
    go_ret
    exact ⟨rfl, Grown.refl _⟩
  by_cases hb1 : 524288 < a1.size
  · go_enter Trym.func5, Trym.ntmps5
    go_wp2_with fail
    refine (bytes10_yes _ _ _ (by omega)).mono ?_
    rintro e w' ⟨rfl, rfl⟩
    go_wp2
    go_ret
    exact ⟨rfl, Grown.refl _⟩
  cases hb : hasB a1.data.toList with
  | true =>
    go_enter Trym.func5, Trym.ntmps5
    go_wp2_with fail
    refine (bytes10_yes _ _ _ (by omega)).mono ?_
    rintro e w' ⟨rfl, rfl⟩
    go_wp2_with fail
    refine (contains_any _ _ w1).mono ?_
    rintro e w' ⟨rfl, rfl⟩
    rw [hb]
    go_wp2
    go_ret
    exact ⟨rfl, Grown.refl _⟩
  | false =>
    go_enter Trym.func5, Trym.ntmps5
    go_wp2_with fail
    refine (bytes10_yes _ _ _ (by omega)).mono ?_
    rintro e w' ⟨rfl, rfl⟩
    go_wp2_with fail
    refine (contains_any _ _ w1).mono ?_
    rintro e w' ⟨rfl, rfl⟩
    rw [hb]
    have hz : (a0 ++ a1).size ≤ maxLen := by
      unfold maxLen
      rw [ByteArray.size_append]
      omega
    go_wp2_with fail
    refine (zzcut_any _ _ w0).mono ?_
    rintro e w' ⟨b0, x0, n0, rfl, hc0, rfl⟩
    have H0 : Hid (Cut _ _ _) := hc0
    clear hc0
    go_wp2_with fail
    refine (zzcut_any _ _ hz).mono ?_
    rintro e w' ⟨b1, x1, n1, rfl, hc1, rfl⟩
    rw [data_append] at hc1
    obtain ⟨e1, e2⟩ := cut_more H0.out hc1 hb
    have f1 : b1.toList = b0.toList := by rw [Lib.toList_data, Lib.toList_data]; exact e1
    have f2 : x1.toList = (x0 ++ a1).toList := by rw [Lib.toList_data, Lib.toList_data, data_append]; exact e2
    have hx := cut_len H0.out
    rw [← Lib.size_eq, ← Lib.size_eq] at hx
    have hx2 : x0.size + a1.size ≤ 1048576 := by omega
    clear hc1 e1 e2 hb hx
    go_wp2
    go_ret
    exact ⟨rfl, grown_drewN _ _⟩

/-! ### THE ROW's STEP: WRITTEN OUT: LEAVE IT -/
set_option maxRecDepth 100000 in
theorem lifted (os : Os) (started : os.Started) (H : Type) (enc : TypeId × Value → H) :
    ReturnsInHanded {} Trym.checked os 5 .any (Rows.fnCutLastAppendExtendsLastSegmentSpec.pre6 enc Trym.prog Trym.f5 Rows.fnCutLastAppendExtendsLastSegmentRow.domain false) (Rows.fnCutLastAppendExtendsLastSegmentSpec.post enc Trym.prog Trym.f5 false true false false) := by
  refine returnsInHanded_of_change (C := Trym.checked) own started (by kernel_rfl) Trym.func5
    (ChangeSpec.witness6 (enc := enc) (C := Trym.checked) false ⟨#[], #[.string ByteArray.empty, .string ByteArray.empty], []⟩ 8 (by kernel_rfl) (by kernel_rfl) (by kernel_rfl) (by kernel_rfl)) ?_
  intro W base args ds gs before hval0 hW hcnd _
  have hval : ∀ (j : Nat) t v, Trym.f5.params[j]? = some t → args[j]? = some v → Value.okWide Trym.prog W .any base t v := hval0
  have hW' := hW
  obtain ⟨p, q, hA0, hV, rfl, hfz, hnd⟩ := hW
  have hA : DataW.TrodAll enc Trym.prog W 0 (fun _ => true) true Trym.f5.params.toList args.toList ds p := hA0
  rw [Trym.params5] at hA hval
  obtain ⟨v0, vs0, d0, ds0, p0, q0, hargs, rfl, rfl, h0, r0⟩ := trodAll_cons hA
  obtain ⟨v1, vs1, d1, ds1, p1, q1, rfl, rfl, rfl, h1, r1⟩ := trodAll_cons r0
  obtain ⟨rfl, rfl, rfl⟩ := trodAll_nil r1
  obtain rfl : args = #[v0, v1] := by cases args; simp_all
  obtain ⟨rfl, rfl⟩ := trodVars_none hV
  obtain ⟨a0, rfl, rfl, rfl, w0⟩ := open_string Trym.underlying9 (hval 0 9 v0 rfl rfl) h0
  obtain ⟨a1, rfl, rfl, rfl, w1⟩ := open_string Trym.underlying9 (hval 1 9 v1 rfl rfl) h1
  clear hA0 hval0
  simp only [List.append_nil] at hW'
  refine (walk a0 a1 w0 w1 W).mono fun e W' ⟨he, hg⟩ => ?_
  subst he
  exact ⟨_, rfl, post_of_same (pa := []) (pv := []) hW' (fun _ _ _ => (trodAll_cons_mk (shut_bool Trym.underlying4 _) trodAll_mk0)) (fun sp _ => (trodAll_cons_mk (shut_string Trym.underlying9 w0) (trodAll_cons_mk (shut_string Trym.underlying9 w1) trodAll_mk0))) (fun _ _ => rfl) rfl
    (hg.frame _) hg.2.1 (ok_one (by kernel_rfl) rfl (okWide_bool_mk Trym.underlying4 _))⟩

theorem over : Rows.fnCutLastAppendExtendsLastSegmentRow.holds Trym.pinned (OpenSpec.ofChange Rows.fnCutLastAppendExtendsLastSegmentSpec) :=
  OpenClaim.holds_of_wide 5 Trym.f5 rfl rfl rfl rfl rfl rfl rfl ⟨rfl, rfl, rfl, rfl, rfl⟩ rfl rfl rfl rfl rfl (by kernel_rfl) Trym.func5 (by kernel_rfl)
    (of_decide_eq_true (by kernel_rfl)) (by unfold Func.isWrapper; first | (rw [if_pos (by decide +kernel)]; kernel_rfl) | (rw [if_neg (by decide +kernel)]; exact ⟨rfl, rfl⟩))
    (fun os started H enc _ => lifted os started H enc)

/-- ████ THE STATEMENT ████ -/
theorem proved : Rows.FnCutLastAppendExtendsLastSegmentSaid :=
  over
#print axioms proved
end Go.Proofs.Qxb6601453aMods.fnCutLastAppendExtendsLastSegment
