/-
  laws.FnVFSBack answers true for every slice of numbers, and the slice reads as it did. No conditions.
-/
import Derived.Test.YtmenkckgpiafiaaGreatVD
import Derived.ChangeSlices
namespace Go.Proofs.YtmenkckgpiafiaaGreat
open Go.RowKit Go.Great Go.ChangeShapes Go.WideShapes Go.ChangeAt

theorem vfs_own : ownKnob Tryz.prog.godebug = none := by kernel_rfl
theorem vfs_laidOut : laidOutB Tryz.prog = true := by kernel_rfl
theorem cells64 : Tryz.prog.cellsOf 23 = 1 := by kernel_rfl

theorem spot_none {w : World} {a : Addr} {v : Value} (h : w.cell? a = some v) : a.spot = none := by
  unfold World.cell? at h
  split at h
  · split at h
    · cases h
    · rename_i hs
      simpa using hs
  · cases h

set_option maxRecDepth 100000 in
theorem vfs_lifted (os : Os) (started : os.Started) (H : Type) (enc : TypeId × Value → H) :
    ReturnsInHanded {} Tryz.checked os 11 .any (Rows.fnVFSBackSpec.pre6 enc Tryz.prog Tryz.f11 Rows.fnVFSBackRow.domain false) (Rows.fnVFSBackSpec.post enc Tryz.prog Tryz.f11 false true false false) := by
  refine returnsInHanded_of_change (C := Tryz.checked) vfs_own started (by kernel_rfl) Tryz.func11
    (ChangeSpec.witness6 (enc := enc) (C := Tryz.checked) false ⟨#[], #[.slice none 0 0], []⟩ 8 (by kernel_rfl) (by kernel_rfl) (by kernel_rfl) (by kernel_rfl)) ?_
  intro W base args ds gs before hval0 hW hcnd _
  have hval : ∀ (j : Nat) t v, Tryz.f11.params[j]? = some t → args[j]? = some v → Value.okWide Tryz.prog W .any base t v := hval0
  have hW' := hW
  have hlt : ∀ x ∈ before, x.block < W.heap.size := fun x hx => hW.lt x hx
  obtain ⟨p, q, hA0, hV, rfl, hfz, hnd⟩ := hW
  have hA : DataW.TrodAll enc Tryz.prog W 0 (fun _ => true) true Tryz.f11.params.toList args.toList ds p := hA0
  rw [Tryz.params11] at hA hval
  obtain ⟨v0, d0, hv0, rfl, h0⟩ := trodAll_one hA
  obtain rfl : args = #[v0] := by cases args; simp_all
  obtain ⟨rfl, rfl⟩ := trodVars_none hV
  obtain ⟨a0, len, cap, rfl⟩ := okWide_slice Tryz.underlying62 (hval 0 62 v0 rfl rfl)
  have hT := h0
  obtain ⟨fuel, hf⟩ := h0
  clear hA0 hval0
  simp only [List.append_nil] at hW' hlt
  have C : Calls Tryz.prog 11 #[.slice a0 len cap] W fun e w' => e = .returned (.bool true) ∧ Below W.heap.size W w' := by
    by_cases hn : len = 11
    · subst hn
      rcases open_ints Tryz.underlying62 Tryz.underlying23 cells64 hf with ⟨hcs, hx⟩ | ⟨a, len', cap', zs, hcs, _, hl, hm, hz, hx, hcell, hwz⟩
      · simp [Value.cells] at hcs
      · simp [Value.cells] at hcs
        obtain ⟨rfl, rfl, rfl⟩ := hcs
        simp only [if_true] at hz
        have h0c := hcell 0 (by omega)
        have hsp : a.spot = none := by
          have h := spot_none h0c
          simpa [Addr.add] using h
        obtain ⟨b, o, sp⟩ := a
        have hsp' : sp = none := hsp
        subst hsp'
        have hX : ∀ i, 0 ≤ zs.getD i 0 ∧ zs.getD i 0 ≤ 18446744073709551615 := fun i => by
          by_cases hi : i < zs.length
          · have hm : zs.getD i 0 ∈ zs := by rw [List.getD_eq_getElem?_getD, List.getElem?_eq_getElem hi]; exact List.getElem_mem hi
            have hw := hwz _ hm
            simpa [Lit.wf, IntKind.min, IntKind.max, IntKind.signed, IntKind.bits] using hw
          · rw [List.getD_eq_getElem?_getD, List.getElem?_eq_none (by omega)]
            exact ⟨by decide, by decide⟩
        have hc : ∀ i, i < 11 → W.cell? ⟨b, o + i, none⟩ = some (.int .u64 (zs.getD i 0)) := fun i hi => by
          have h := hcell i (by omega)
          rwa [add_plain] at h
        exact vfsLaw b o cap (fun i => zs.getD i 0) W (World.block_lt_of_cell? W _ (hc 0 (by omega))) hl hX hc
    · exact vfsOther a0 len cap W hn
  refine C.mono fun e W' ⟨he, hg⟩ => ?_
  subst he
  exact ⟨_, rfl, post_of_below (pa := p) (pv := []) hW' (fun _ _ _ => (trodAll_cons_mk (shut_bool Tryz.underlying4 _) trodAll_mk0))
    (fun sp hsp => trodAll_mk1 (WideElems.Trod_stays vfs_laidOut (by kernel_rfl) (of_decide_eq_true (by kernel_rfl)) hT (fun x hx => hg.same (hlt x hx)) hsp)) (fun _ _ => rfl) (by simp)
    hg (ok_one (by kernel_rfl) rfl (okWide_bool_mk Tryz.underlying4 _))⟩

theorem vfs_named : Tryz.pinned.checked.prog.funcNamed Rows.fnVFSBackRow.func = some 11 := by kernel_rfl
set_option maxHeartbeats 8000000 in
theorem vfs_facts : joinedFacts Tryz.pinned.checked.prog 11 Tryz.f11 Rows.fnVFSBackSpec Rows.fnVFSBackRow = true := by
  simp only [joinedFacts, Bool.and_eq_true]
  repeat' apply And.intro
  all_goals (as_aux_lemma => kernel_rfl)
theorem vfs_inst : Tryz.f11.isInstance Tryz.pinned.checked.prog Rows.fnVFSBackRow.origin Rows.fnVFSBackRow.targs := of_decide_eq_true (by kernel_rfl)
theorem vfs_wrap : Tryz.f11.isWrapper Tryz.pinned.checked.prog Rows.fnVFSBackRow.wrapper Rows.fnVFSBackRow.mainSum := by
  unfold Func.isWrapper
  rw [if_neg (by decide +kernel)]
  exact ⟨rfl, rfl⟩

/-- 'laws.FnVFSBack': whatever the input: true; the input reads as it did. -/
theorem vfs_holds : Rows.FnVFSBackSaid :=
  OpenClaim.holds_of_wide 11 Tryz.f11 rfl rfl rfl rfl rfl rfl rfl ⟨rfl, rfl, rfl, rfl, rfl⟩ rfl rfl rfl rfl rfl vfs_named Tryz.func11 vfs_facts vfs_inst vfs_wrap
    (fun os started H enc _ => vfs_lifted os started H enc)
end Go.Proofs.YtmenkckgpiafiaaGreat
