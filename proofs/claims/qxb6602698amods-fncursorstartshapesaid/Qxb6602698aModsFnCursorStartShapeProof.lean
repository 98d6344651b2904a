/-
  THE PROOF OF 'Rows.FnCursorStartShapeSaid'. The frame is the guide's template at this function's number and types; the walk is ours.
-/
import Derived.Test.Qxb6602698aModsRows
import Derived.WalkKit
import Derived.ProofKit
import Derived.OpenShut
import Derived.ShutString
import Derived.Test.Qxb6602698aModsShared
namespace Go.Proofs.Qxb6602698aMods.fnCursorStartShape
open Go.ChangeShapes Go.WideShapes Go.ChangeAt Go.RowKit
open Go.ChangeMaps (open_string shut_string)
open Go.Proofs.Qxb6602698aMods.Plain Go.Proofs.Qxb6602698aMods.Shared
set_option linter.unusedVariables false      -- a walk need not use every 'w<i>' (that an integer argument fits its kind)

theorem own : ownKnob Trym.prog.godebug = none := by kernel_rfl

/-! ### THE WALK: the Go text returns true; of the world that was there nothing has turned. -/
theorem walk (a0 : ByteArray) (w0 : a0.size ≤ maxLen) (w : World) :
    Calls Trym.prog 4 #[.string a0] w fun e w' => e = .returned (.bool true) ∧ Grown w w' := by
  have w0' := w0
  unfold maxLen at w0'
  by_cases hbig : 1048576 < a0.size
  · go_enter Trym.func4, Trym.ntmps4
    go_wp2
    go_ret
    exact ⟨rfl, Grown.refl _⟩
  by_cases hb : 65536 < a0.size
  · go_enter Trym.func4, Trym.ntmps4
    go_wp2_with fail
    refine (bytes11_yes _ _ (by omega)).mono ?_
    rintro e w' ⟨rfl, rfl⟩
    go_wp2
    go_ret
    exact ⟨rfl, Grown.refl _⟩
  have hs0 : a0.size ≤ 1048576 := by omega
  cases hF : allF a0.data.toList with
  | true =>
    have HF : Hid (allF a0.data.toList = true) := hF
    clear hF
    go_enter Trym.func4, Trym.ntmps4
    go_wp2_with fail
    refine (bytes11_yes _ _ hs0).mono ?_
    rintro e w' ⟨rfl, rfl⟩
    go_wp2_with fail
    refine (zzstart_key _ _ hs0).mono ?_
    rintro e w1 ⟨n, rfl, hn, hg1⟩
    go_wp2_with fail
    refine (zzstart_none _ _ hs0 HF.out).mono ?_
    rintro e w2 ⟨s, rfl, hst, hg2⟩
    obtain ⟨n1, n2, n3⟩ := next_facts a0 n hn
    obtain ⟨hs1, _⟩ := start_no hst
    have hs2 : s.toList = [] := by rw [Lib.toList_data]; exact hs1
    have HG : Hid (Grown w' w2) := grown_trans hg1 hg2
    clear hn hst hs1 hg1 hg2
    go_wp2
    go_loop [7, 8] (fun b i => b = .bool true ∧ ∃ k : Nat, k ≤ a0.size ∧ i = .int .i64 k) (fun _ i => a0.size - (intOf i).toNat)
    case atStart => exact ⟨rfl, 0, Nat.zero_le _, rfl⟩
    case round =>
      obtain ⟨rfl, k, hk, rfl⟩ := hrel
      by_cases hlt : k < a0.size
      · have hc : ((a0[k].toNat : Int) == 255) = true := allF_at a0 k hlt HF.out
        go_wp2
        go_round
        case rel => exact ⟨rfl, k + 1, by omega, by go_num⟩
        case measure => simp [intOf]; omega
      · go_wp2
        go_ret
        exact ⟨rfl, HG.out⟩
  | false =>
    have HF : Hid (allF a0.data.toList = false) := hF
    clear hF
    go_enter Trym.func4, Trym.ntmps4
    go_wp2_with fail
    refine (bytes11_yes _ _ hs0).mono ?_
    rintro e w' ⟨rfl, rfl⟩
    go_wp2_with fail
    refine (zzstart_key _ _ hs0).mono ?_
    rintro e w1 ⟨n, rfl, hn, hg1⟩
    go_wp2_with fail
    refine (zzstart_some _ _ hs0 HF.out).mono ?_
    rintro e w2 ⟨s, rfl, hst, hg2⟩
    obtain ⟨n1, n2, n3⟩ := next_facts a0 n hn
    obtain ⟨s1, s2, s3, s4, s5⟩ := shape_facts a0 n s hn hst
    have s6 : ¬ s = ByteArray.empty := by
      intro e
      rw [e] at s1
      exact absurd s1 (by decide)
    have s7 : ((s.size : Int) == 0) = false := by
      rw [beq_eq_false_iff_ne]; omega
    have HG : Hid (Grown w' w2) := grown_trans hg1 hg2
    clear hn hst hg1 hg2
    go_wp2
    go_loop [7, 8] (fun b i => ∃ (bb : Bool) (k : Nat), b = .bool bb ∧ k ≤ a0.size ∧ i = .int .i64 k ∧ Hid (bb = allF (a0.data.toList.take k))) (fun _ i => a0.size - (intOf i).toNat)
    case atStart => exact ⟨true, 0, rfl, Nat.zero_le _, rfl, by simp [Hid, allF]⟩
    case round =>
      obtain ⟨bb, k, rfl, hk, rfl, hh⟩ := hrel
      by_cases hlt : k < a0.size
      · cases hc : ((a0[k].toNat : Int) == 255) with
        | true =>
          go_wp2
          go_round
          case rel => exact ⟨bb, k + 1, rfl, by omega, by go_num, by show _ = _; rw [allF_snoc a0 k hlt, hc, ← hh.out]; simp⟩
          case measure => simp [intOf]; omega
        | false =>
          go_wp2
          go_round
          case rel => exact ⟨false, k + 1, rfl, by omega, by go_num, by show _ = _; rw [allF_snoc a0 k hlt, hc]; simp⟩
          case measure => simp [intOf]; omega
      · obtain rfl : bb = false := by
          rw [hh.out, List.take_of_length_le (by rw [← Lib.size_eq]; omega)]; exact HF.out
        go_wp2
        go_quiet (fail)
        go_wp2
        go_ret
        exact ⟨rfl, HG.out⟩

/-! ### THE ROW's STEP: WRITTEN OUT: LEAVE IT -/
set_option maxRecDepth 100000 in
theorem lifted (os : Os) (started : os.Started) (H : Type) (enc : TypeId × Value → H) :
    ReturnsInHanded {} Trym.checked os 4 .any (Rows.fnCursorStartShapeSpec.pre6 enc Trym.prog Trym.f4 Rows.fnCursorStartShapeRow.domain false) (Rows.fnCursorStartShapeSpec.post enc Trym.prog Trym.f4 false true false false) := by
  refine returnsInHanded_of_change (C := Trym.checked) own started (by kernel_rfl) Trym.func4
    (ChangeSpec.witness6 (enc := enc) (C := Trym.checked) false ⟨#[], #[.string ByteArray.empty], []⟩ 8 (by kernel_rfl) (by kernel_rfl) (by kernel_rfl) (by kernel_rfl)) ?_
  intro W base args ds gs before hval0 hW hcnd _
  have hval : ∀ (j : Nat) t v, Trym.f4.params[j]? = some t → args[j]? = some v → Value.okWide Trym.prog W .any base t v := hval0
  have hW' := hW
  obtain ⟨p, q, hA0, hV, rfl, hfz, hnd⟩ := hW
  have hA : DataW.TrodAll enc Trym.prog W 0 (fun _ => true) true Trym.f4.params.toList args.toList ds p := hA0
  rw [Trym.params4] at hA hval
  obtain ⟨v0, vs0, d0, ds0, p0, q0, hargs, rfl, rfl, h0, r0⟩ := trodAll_cons hA
  obtain ⟨rfl, rfl, rfl⟩ := trodAll_nil r0
  obtain rfl : args = #[v0] := by cases args; simp_all
  obtain ⟨rfl, rfl⟩ := trodVars_none hV
  obtain ⟨a0, rfl, rfl, rfl, w0⟩ := open_string Trym.underlying9 (hval 0 9 v0 rfl rfl) h0
  clear hA0 hval0
  simp only [List.append_nil] at hW'
  refine (walk a0 w0 W).mono fun e W' ⟨he, hg⟩ => ?_
  subst he
  exact ⟨_, rfl, post_of_same (pa := []) (pv := []) hW' (fun _ _ _ => (trodAll_cons_mk (shut_bool Trym.underlying4 _) trodAll_mk0)) (fun sp _ => (trodAll_cons_mk (shut_string Trym.underlying9 w0) trodAll_mk0)) (fun _ _ => rfl) rfl
    (hg.frame _) hg.2.1 (ok_one (by kernel_rfl) rfl (okWide_bool_mk Trym.underlying4 _))⟩

theorem over : Rows.fnCursorStartShapeRow.holds Trym.pinned (OpenSpec.ofChange Rows.fnCursorStartShapeSpec) :=
  OpenClaim.holds_of_wide 4 Trym.f4 rfl rfl rfl rfl rfl rfl rfl ⟨rfl, rfl, rfl, rfl, rfl⟩ rfl rfl rfl rfl rfl (by kernel_rfl) Trym.func4 (by kernel_rfl)
    (of_decide_eq_true (by kernel_rfl)) (by unfold Func.isWrapper; first | (rw [if_pos (by decide +kernel)]; kernel_rfl) | (rw [if_neg (by decide +kernel)]; exact ⟨rfl, rfl⟩))
    (fun os started H enc _ => lifted os started H enc)

/-- ████ THE STATEMENT ████ -/
theorem proved : Rows.FnCursorStartShapeSaid :=
  over
#print axioms proved
end Go.Proofs.Qxb6602698aMods.fnCursorStartShape
