/-
  laws.FnModeParts answers true for every mode, and the mode reads as it did. No conditions.
-/
import Derived.Test.YtmenkckgpiafiaaGreatY
namespace Go.Proofs.YtmenkckgpiafiaaGreat
open Go.RowKit Go.Great Go.ChangeShapes Go.WideShapes Go.ChangeAt

theorem modeType (x : Int) (w : World) (h0 : 0 ≤ x) (h1 : x ≤ 4294967295) : Calls Tryz.prog 75 #[.int .u32 x] w fun e w' => e = .returned (.int .u32 (bits .and .u32 x 61440)) ∧ w = w' := by
  go_enter Tryz.func75, Tryz.ntmps75
  go_wp2
  go_ret
  exact ⟨rfl, rfl⟩
theorem modePerm (x : Int) (w : World) (h0 : 0 ≤ x) (h1 : x ≤ 4294967295) : Calls Tryz.prog 76 #[.int .u32 x] w fun e w' => e = .returned (.int .u32 (bits .and .u32 x 511)) ∧ w = w' := by
  go_enter Tryz.func76, Tryz.ntmps76
  go_wp2
  go_ret
  exact ⟨rfl, rfl⟩
theorem modeDir (x : Int) (w : World) (h0 : 0 ≤ x) (h1 : x ≤ 4294967295) : Calls Tryz.prog 77 #[.int .u32 x] w fun e w' => e = .returned (.bool (bits .and .u32 x 61440 == 16384)) ∧ w = w' := by
  go_enter Tryz.func77, Tryz.ntmps77
  go_wp2
  go_ret
  exact ⟨rfl, rfl⟩
theorem modeReg (x : Int) (w : World) (h0 : 0 ≤ x) (h1 : x ≤ 4294967295) : Calls Tryz.prog 78 #[.int .u32 x] w fun e w' => e = .returned (.bool (bits .and .u32 x 61440 == 32768)) ∧ w = w' := by
  go_enter Tryz.func78, Tryz.ntmps78
  go_wp2
  go_ret
  exact ⟨rfl, rfl⟩
theorem results_t4 {fn : Func} {a b c d : Tmp} (h : fn.results = #[.tmp a, .tmp b, .tmp c, .tmp d]) {P : Program} (tmps : Array Value) (w : World) :
    (results fn tmps).run P w = .ok (.tuple #[tmps.getD a undef, tmps.getD b undef, tmps.getD c undef, tmps.getD d undef]) w := by
  simp [results, h]
theorem implParts (x : Int) (w : World) (h0 : 0 ≤ x) (h1 : x ≤ 4294967295) : Calls Tryz.prog 35 #[.int .u32 x] w fun e w' => e = .returned (.tuple #[.int .u32 (bits .and .u32 x 61440), .int .u32 (bits .and .u32 x 511), .bool (bits .and .u32 x 61440 == 16384), .bool (bits .and .u32 x 61440 == 32768)]) ∧ w = w' := by
  go_enter Tryz.func35, Tryz.ntmps35
  go_wp2_with (first
    | (go_at_call 75; refine (modeType x _ h0 h1).mono ?_; rintro e w' ⟨rfl, rfl⟩)
    | (go_at_call 76; refine (modePerm x _ h0 h1).mono ?_; rintro e w' ⟨rfl, rfl⟩)
    | (go_at_call 77; refine (modeDir x _ h0 h1).mono ?_; rintro e w' ⟨rfl, rfl⟩)
    | (go_at_call 78; refine (modeReg x _ h0 h1).mono ?_; rintro e w' ⟨rfl, rfl⟩))
  refine bodyPost_ret (results_t4 Tryz.results35 _ _) rfl ?_
  exact ⟨rfl, rfl⟩

set_option maxRecDepth 5000 in
set_option maxHeartbeats 1600000 in
theorem modeParts (x : Int) (w : World) (h0 : 0 ≤ x) (h1 : x ≤ 4294967295) : Calls Tryz.prog 10 #[.int .u32 x] w fun e w' => e = .returned (.bool true) ∧ Below w.heap.size w w' := by
  go_enter Tryz.func10, Tryz.ntmps10
  go_wp2_with (first
    | (go_at_call 35; refine (implParts x _ h0 h1).mono ?_; rintro e w' ⟨rfl, rfl⟩)
    | (go_at_call 23; refine (awake _).mono ?_; rintro e w' ⟨rfl, hb⟩))
  go_ret
  exact ⟨rfl, hb⟩
theorem own : ownKnob Tryz.prog.godebug = none := by kernel_rfl

set_option maxRecDepth 100000 in
theorem modeParts_lifted (os : Os) (started : os.Started) (H : Type) (enc : TypeId × Value → H) :
    ReturnsInHanded {} Tryz.checked os 10 .any (Rows.fnModePartsSpec.pre6 enc Tryz.prog Tryz.f10 Rows.fnModePartsRow.domain false) (Rows.fnModePartsSpec.post enc Tryz.prog Tryz.f10 false true false false) := by
  refine returnsInHanded_of_change (C := Tryz.checked) own started (by kernel_rfl) Tryz.func10
    (ChangeSpec.witness6 (enc := enc) (C := Tryz.checked) false ⟨#[], #[.int .u32 0], []⟩ 8 (by kernel_rfl) (by kernel_rfl) (by kernel_rfl) (by kernel_rfl)) ?_
  intro W base args ds gs before hval0 hW hcnd _
  have hval : ∀ (j : Nat) t v, Tryz.f10.params[j]? = some t → args[j]? = some v → Value.okWide Tryz.prog W .any base t v := hval0
  have hW' := hW
  obtain ⟨p, q, hA0, hV, rfl, hfz, hnd⟩ := hW
  have hA : DataW.TrodAll enc Tryz.prog W 0 (fun _ => true) true Tryz.f10.params.toList args.toList ds p := hA0
  rw [Tryz.params10] at hA hval
  obtain ⟨v0, vs0, d0, ds0, p0, q0, hargs, rfl, rfl, h0, r0⟩ := trodAll_cons hA
  obtain ⟨rfl, rfl, rfl⟩ := trodAll_nil r0
  obtain rfl : args = #[v0] := by cases args; simp_all
  obtain ⟨rfl, rfl⟩ := trodVars_none hV
  obtain ⟨a0, rfl, rfl, rfl, w0⟩ := open_int Tryz.underlying22 (hval 0 22 v0 rfl rfl) h0
  clear hA0 hval0
  simp only [List.append_nil] at hW'
  have hr : 0 ≤ a0 ∧ a0 ≤ 4294967295 := by
    have h := w0
    simpa [Lit.wf, IntKind.min, IntKind.max, IntKind.signed, IntKind.bits] using h
  refine (modeParts a0 W hr.1 hr.2).mono fun e W' ⟨he, hg⟩ => ?_
  subst he
  exact ⟨_, rfl, post_of_below (pa := []) (pv := []) hW' (fun _ _ _ => (trodAll_cons_mk (shut_bool Tryz.underlying4 _) trodAll_mk0)) (fun sp _ => (trodAll_cons_mk (shut_int Tryz.underlying22 w0) trodAll_mk0)) (fun _ _ => rfl) rfl
    hg (ok_one (by kernel_rfl) rfl (okWide_bool_mk Tryz.underlying4 _))⟩

theorem modeParts_named : Tryz.pinned.checked.prog.funcNamed Rows.fnModePartsRow.func = some 10 := by kernel_rfl
set_option maxHeartbeats 8000000 in
theorem modeParts_facts : joinedFacts Tryz.pinned.checked.prog 10 Tryz.f10 Rows.fnModePartsSpec Rows.fnModePartsRow = true := by
  simp only [joinedFacts, Bool.and_eq_true]
  repeat' apply And.intro
  all_goals (as_aux_lemma => kernel_rfl)
theorem modeParts_inst : Tryz.f10.isInstance Tryz.pinned.checked.prog Rows.fnModePartsRow.origin Rows.fnModePartsRow.targs := of_decide_eq_true (by kernel_rfl)
theorem modeParts_wrap : Tryz.f10.isWrapper Tryz.pinned.checked.prog Rows.fnModePartsRow.wrapper Rows.fnModePartsRow.mainSum := by
  unfold Func.isWrapper
  rw [if_neg (by decide +kernel)]
  exact ⟨rfl, rfl⟩

/-- 'laws.FnModeParts': whatever the input: true; the input reads as it did. -/
theorem modeParts_holds : Rows.FnModePartsSaid :=
  OpenClaim.holds_of_wide 10 Tryz.f10 rfl rfl rfl rfl rfl rfl rfl ⟨rfl, rfl, rfl, rfl, rfl⟩ rfl rfl rfl rfl rfl modeParts_named Tryz.func10 modeParts_facts modeParts_inst modeParts_wrap
    (fun os started H enc _ => modeParts_lifted os started H enc)
end Go.Proofs.YtmenkckgpiafiaaGreat
