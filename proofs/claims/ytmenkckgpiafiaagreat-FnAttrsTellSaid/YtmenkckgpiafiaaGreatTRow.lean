/-
  laws.FnAttrsTell answers true for every input, and the input reads as it did. No conditions.
-/
import Derived.Test.YtmenkckgpiafiaaGreatTC
import Derived.Test.YtmenkckgpiafiaaGreatKP
import Derived.Test.YtmenkckgpiafiaaGreatY
import Derived.Test.YtmenkckgpiafiaaGreatRows
import Derived.ChangeSlices
import Derived.ShutString
namespace Go.Proofs.YtmenkckgpiafiaaGreat
open Go.RowKit Go.Great Go.ChangeShapes Go.WideShapes Go.ChangeAt Go.Proofs.YtmenkckgpiafiaaGreatW.PrintWords Go.Proofs.YtmenkckgpiafiaaGreat.KK
open Go.ChangeMaps (open_string shut_string)
theorem tell_own : ownKnob Tryz.prog.godebug = none := by kernel_rfl
theorem tell_laid : laidOutB Tryz.prog = true := by kernel_rfl
set_option maxRecDepth 100000 in
theorem tell_lifted (os : Os) (started : os.Started) (H : Type) (enc : TypeId × Value → H) :
    ReturnsInHanded {} Tryz.checked os 13 .any (Rows.fnAttrsTellSpec.pre6 enc Tryz.prog Tryz.f13 Rows.fnAttrsTellRow.domain false) (Rows.fnAttrsTellSpec.post enc Tryz.prog Tryz.f13 false true false false) := by
  refine returnsInHanded_of_change (C := Tryz.checked) tell_own started (by kernel_rfl) Tryz.func13
    (ChangeSpec.witness6 (enc := enc) (C := Tryz.checked) false ⟨#[], #[.agg z8], []⟩ 8 (by kernel_rfl) (by kernel_rfl) (by kernel_rfl) (by kernel_rfl)) ?_
  intro W base args ds gs before hval0 hW hcnd _
  have hval : ∀ (j : Nat) t v, Tryz.f13.params[j]? = some t → args[j]? = some v → Value.okWide Tryz.prog W .any base t v := hval0
  have hW' := hW
  have hlt : ∀ x ∈ before, x.block < W.heap.size := fun x hx => hW.lt x hx
  obtain ⟨p, q, hA0, hV, rfl, hfz, hnd⟩ := hW
  have hA : DataW.TrodAll enc Tryz.prog W 0 (fun _ => true) true Tryz.f13.params.toList args.toList ds p := hA0
  rw [Tryz.params13] at hA hval
  obtain ⟨v0, vs0, d0, ds0, p0, q0, hargs, rfl, rfl, h0, r0⟩ := trodAll_cons hA
  obtain ⟨rfl, rfl, rfl⟩ := trodAll_nil r0
  obtain rfl : args = #[v0] := by cases args; simp_all
  obtain ⟨rfl, rfl⟩ := trodVars_none hV
  simp only [List.append_nil] at hW' hlt
  obtain ⟨cs0, rfl, _⟩ := okWide_struct Tryz.underlying26 (hval 0 26 v0 rfl rfl)
  have t0 := h0
  obtain ⟨fuel0, hf0⟩ := h0
  obtain ⟨y0, hK0, hG0⟩ := opnAttrs.out hf0
  clear hA0 hval0
  refine (tellLawK cs0 y0 W hK0).mono fun e W' ⟨he, hg⟩ => ?_
  subst he
  exact ⟨_, rfl, post_of_below (pa := _) (pv := []) hW' (fun _ _ _ => (trodAll_cons_mk (shut_bool Tryz.underlying4 _) trodAll_mk0))
    (fun sp hsp0 => by
      have hsp1 := hsp0
      have s0 := WideElems.Trod_stays tell_laid (by kernel_rfl) (of_decide_eq_true (by kernel_rfl)) t0 (fun x hx => hg.same (hlt x (by simp [hx]))) (fun x hx => hsp0 x (by simp [hx]))
      have r := (trodAll_cons_mk (s0) trodAll_mk0)
      simp only [List.append_nil, List.nil_append] at r
      exact r) (fun _ _ => rfl) (by simp)
    hg (ok_one (by kernel_rfl) rfl (okWide_bool_mk Tryz.underlying4 _))⟩

theorem tell_named : Tryz.pinned.checked.prog.funcNamed Rows.fnAttrsTellRow.func = some 13 := by kernel_rfl
set_option maxHeartbeats 8000000 in
theorem tell_facts : joinedFacts Tryz.pinned.checked.prog 13 Tryz.f13 Rows.fnAttrsTellSpec Rows.fnAttrsTellRow = true := by
  simp only [joinedFacts, Bool.and_eq_true]
  repeat' apply And.intro
  all_goals (as_aux_lemma => kernel_rfl)
theorem tell_inst : Tryz.f13.isInstance Tryz.pinned.checked.prog Rows.fnAttrsTellRow.origin Rows.fnAttrsTellRow.targs := of_decide_eq_true (by kernel_rfl)
theorem tell_wrap : Tryz.f13.isWrapper Tryz.pinned.checked.prog Rows.fnAttrsTellRow.wrapper Rows.fnAttrsTellRow.mainSum := by
  unfold Func.isWrapper
  rw [if_neg (by decide +kernel)]
  exact ⟨rfl, rfl⟩

/-- 'laws.FnAttrsTell': whatever the input: true; the input reads as it did. -/
theorem tell_holds : Rows.FnAttrsTellSaid :=
  OpenClaim.holds_of_wide 13 Tryz.f13 rfl rfl rfl rfl rfl rfl rfl ⟨rfl, rfl, rfl, rfl, rfl⟩ rfl rfl rfl rfl rfl tell_named Tryz.func13 tell_facts tell_inst tell_wrap
    (fun os started H enc _ => tell_lifted os started H enc)
end Go.Proofs.YtmenkckgpiafiaaGreat
