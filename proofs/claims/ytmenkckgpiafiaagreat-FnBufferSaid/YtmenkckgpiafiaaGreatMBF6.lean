/-
  laws.FnBuffer answers true for every input, and the input reads as it did. No conditions.
-/
import Derived.Test.YtmenkckgpiafiaaGreatRows
import Derived.ChangeSlices
import Derived.ShutString
import Derived.Test.YtmenkckgpiafiaaGreatMBF3
import Derived.Test.YtmenkckgpiafiaaGreatMBF4
import Derived.Test.YtmenkckgpiafiaaGreatMBF5
set_option linter.unusedVariables false
set_option linter.unusedSimpArgs false
namespace Go.Proofs.YtmenkckgpiafiaaGreat
open Go.RowKit Go.Great Go.Proofs.YtmenkckgpiafiaaGreatW.PrintWords Go.Proofs.YtmenkckgpiafiaaGreatW.PrintLast Go.Proofs.YtmenkckgpiafiaaGreatW.PrintMore Go.Proofs.YtmenkckgpiafiaaGreat.KK
theorem fits13_f (d x : Int) (s : ByteArray) : ∃ r, PF.laws_zzFits13.f d x s = some r := by
  unfold PF.laws_zzFits13.f
  (repeat' split) <;> exact ⟨_, rfl⟩
theorem wrap_nx {i : Nat} {n : Nat} (h : i < n) (hn : n ≤ 4398046511104) : wrap64 ((i : Int) + 1) = ((i + 1 : Nat) : Int) := by
  unfold wrap64
  omega
theorem fits12_l0 (l : List S79) (hl : l.length ≤ 2147483647) : ∀ (m : Nat) (k : Nat) (i : Nat), i + m = l.length → m < k → ∃ r, PF.laws_zzFits12.l0 k l (l.length : Int) (i : Int) = some r := by
  intro m
  induction m with
  | zero =>
    intro k i hi hk
    obtain ⟨k, rfl⟩ : ∃ j, k = j + 1 := ⟨k - 1, by omega⟩
    simp only [PF.laws_zzFits12.l0]
    rw [if_neg (by omega)]
    exact ⟨_, rfl⟩
  | succ m ih =>
    intro k i hi hk
    obtain ⟨k, rfl⟩ : ∃ j, k = j + 1 := ⟨k - 1, by omega⟩
    simp only [PF.laws_zzFits12.l0]
    rw [if_pos (by omega), if_pos (by omega), if_pos (by omega), wrap_nx (show i < l.length by omega) (by omega)]
    obtain ⟨r, hr⟩ := fits13_f (rd_T79 l (i : Int)).f0 (rd_T79 l (i : Int)).f1 (rd_T79 l (i : Int)).f2
    rw [hr]
    simp only [Option.bind_some]
    split
    · exact ih k (i + 1) (by omega) (by omega)
    · exact ⟨_, rfl⟩
theorem fits12C (A : Option Addr) (cap : Nat) (l : List S79) (w : World) (hr : Kd.C k79 w A l.length l) (hc : l.length ≤ cap) :
    ∃ r, Calls Tryz.prog 44 #[.slice A l.length cap] w fun e w' => e = .returned (.bool r) ∧ Below w.heap.size w w' := by
  by_cases hl : l.length ≤ 2147483647
  · obtain ⟨r, h⟩ := fits12_l0 l hl l.length (l.length + 1) 0 (by omega) (by omega)
    refine ⟨r, PF.laws_zzFits12.calls (l.length + 1) A cap l r w hr hc ?_⟩
    unfold PF.laws_zzFits12.f
    rw [if_neg (by omega)]
    exact h
  · refine ⟨false, PF.laws_zzFits12.calls 1 A cap l false w hr hc ?_⟩
    unfold PF.laws_zzFits12.f
    rw [if_pos (by omega)]
def toSp (o : S79) : S80 := ⟨o.f0, o.f1, o.f2⟩
theorem map_toSp (l : List S79) : (l.map toSp).map opS = l.map opT := by
  rw [List.map_map]
  rfl
/-- The steps that have been copied. -/
def CL (w wr : World) (l : List S79) (v : Value) (k : Nat) : Prop :=
  Kd.R k80 80 wr w.heap.size (fun _ => True) v ((l.take k).map toSp) ∧ Below w.heap.size w wr ∧ ∀ e ∈ l.take k, e.f2.size ≤ 100
theorem CL.step {w w' : World} {l : List S79} {v' : Value} {k : Nat} {o : S79} (hk : l[k]? = some o) (hs : ∀ e ∈ l.take k, e.f2.size ≤ 100) (ho : o.f2.size ≤ 100) (hR : Kd.R k80 80 w' w.heap.size (fun _ => True) v' ((l.take k).map toSp ++ [toSp o])) (hb : Below w.heap.size w w') : CL w w' l v' (k + 1) := by
  have hlt := (List.getElem?_eq_some_iff.1 hk).1
  have he : l[k] = o := (List.getElem?_eq_some_iff.1 hk).2
  have ht : l.take (k + 1) = l.take k ++ [o] := by rw [List.take_succ_eq_append_getElem hlt, he]
  refine ⟨by rw [ht, List.map_append]; exact hR, hb, fun e h => ?_⟩
  rw [ht] at h
  rcases List.mem_append.1 h with h | h
  · exact hs e h
  · rw [List.mem_singleton.1 h]; exact ho
set_option maxRecDepth 100000 in
set_option maxHeartbeats 16000000 in
theorem bufferLaw (first : ByteArray) (A : Option Addr) (cap : Nat) (l : List S79) (w : World) (hC : Kd.C k79 w A l.length l) (hc : l.length ≤ cap) (hG : ∀ e ∈ l, 0 ≤ e.f1 ∧ e.f1 ≤ 18446744073709551615) (hbig : l.length ≤ maxLen) (hfb : first.size ≤ maxLen) :
    Calls Tryz.prog 17 #[.string first, .slice A l.length cap] w fun e w' => e = .returned (.bool true) ∧ Below w.heap.size w w' := by
  obtain ⟨fit, CF⟩ := fits12C A cap l w hC hc
  have CF := Lib.hid CF
  have HC := Lib.hid hC
  have HG := Lib.hid hG
  have HCC := Lib.hid hc
  obtain ⟨n, hn⟩ : ∃ n, l.length = n := ⟨_, rfl⟩
  have HN := Lib.hid hn
  unfold maxLen at hbig hfb
  clear hC hc hG
  rw [hn] at CF hbig ⊢
  clear hn
  by_cases hf1 : (2147483647 : Int) < (first.size : Int)
  · go_enter Tryz.func17, Tryz.ntmps17
    go_wp2_with fail
    go_ret
    exact ⟨rfl, Below.refl _ _⟩
  · go_enter Tryz.func17, Tryz.ntmps17
    go_wp2_with fail
    refine CF.out.mono ?_
    rintro e w1 ⟨rfl, hb⟩
    have B1 := Lib.hid hb
    have C1 := Lib.hid (Kd.C_below HC.out hb)
    clear hb CF
    cases fit with
    | false =>
      go_wp2_with fail
      go_ret
      exact ⟨rfl, B1.out⟩
    | true =>
      by_cases h30 : (30 : Int) < (n : Int)
      · go_wp2_with fail
        go_ret
        exact ⟨rfl, B1.out⟩
      · by_cases h400 : (400 : Int) < (first.size : Int)
        · go_wp2_with fail
          go_ret
          exact ⟨rfl, B1.out⟩
        · go_wp2_with fail
          have n30 : n ≤ 30 := by omega
          have f400 : first.size ≤ 400 := by omega
          have n64 : (n : Int) < 9223372036854775807 := by omega
          have L0 := Lib.hid (show CL w w1 l (.slice none 0 0) 0 from ⟨Kd.R_nil _ _ _ _ _, B1.out, by simp⟩)
          clear h30 h400 hf1
          go_loopw [5, 34] (fun v i wr => ∃ k : Nat, k ≤ n ∧ i = .int .i64 (k : Int) ∧ Hid (CL w wr l v k)) (fun _ i _ => n - (intOf i).toNat)
          case atStart => exact ⟨0, Nat.zero_le _, rfl, L0⟩
          case round =>
            clear L0 C1
            obtain ⟨k, hk, rfl, HR⟩ := hrel
            obtain ⟨hR, hB, hS⟩ := HR.out
            clear HR
            by_cases hlt : k < n
            · have hkl : k < l.length := by have := HN.out; omega
              obtain ⟨x, p, rfl, hx, hc0⟩ := (opS_of_C HC.out).resolve_left (by intro h; rw [h] at hkl; simp at hkl)
              have he : l[k]? = some l[k] := List.getElem?_eq_getElem hkl
              obtain ⟨e1, e2, e3⟩ := hc0 _ _ he
              have kx : ∀ i, wr.cell? ⟨x, i, none⟩ = w.cell? ⟨x, i, none⟩ := fun i => cell_kept (hB.block x hx)
              rw [← kx] at e1 e2 e3
              generalize l[k] = o at *
              obtain ⟨d, y, s⟩ := o
              simp only [] at e1 e2 e3
              obtain ⟨W1, hW1⟩ : ∃ W, wr.alloc (.cells (op3 0 0 ⟨#[]⟩) 79) = W := ⟨_, rfl⟩
              obtain ⟨W2, hW2⟩ : ∃ W, W1.setRow wr.heap.size (op3 d y s) = W := ⟨_, rfl⟩
              have k1 : W1.heap[wr.heap.size]? = some (.cells (op3 0 0 ⟨#[]⟩) 79 (0, 0)) := by rw [← hW1]; exact heap_alloc_new _ _
              have k2 : W2.heap[wr.heap.size]? = some (.cells (op3 d y s) 79 (0, 0)) := by rw [← hW2]; exact setRow_blk k1
              have b2 : Below wr.heap.size wr W2 := ⟨by rw [← hW2, ← hW1]; rfl, by rw [← hW2, ← hW1]; rfl, by rw [← hW2, ← hW1]; rfl, by rw [← hW2, setRow_size, ← hW1]; simp, fun k hk => by rw [← hW2, setRow_other _ _ _ _ (by omega), ← hW1, heap_alloc_old _ _ hk]⟩
              have hB2 := hB.trans (b2.mono hB.size)
              have hR2 := Kd.R_below hR b2
              have q2 : W2.cell? ⟨wr.heap.size, 2, none⟩ = some (.string s) := by rw [cell_of_blk k2]; rfl
              have hz2 := hB2.size
              have hll : (l.take k).length ≤ k := List.length_take_le _ _
              have X1 := Lib.hid hW1
              have X2 := Lib.hid hW2
              have K1 := Lib.hid k1
              have K2 := Lib.hid k2
              have HB2 := Lib.hid hB2
              have HR2 := Lib.hid hR2
              have HSS := Lib.hid hS
              have HE := Lib.hid he
              clear hW1 hW2 k1 k2 b2 hB2 hR2 hB hR hS he hc0 kx
              by_cases h100 : (100 : Int) < (s.size : Int)
              · go_wp2_with (first
                  | (refine wpList_allocTo rfl (some 7) rfl (.pointer (some ⟨wr.heap.size, 0, none⟩)) (.cells (op3 0 0 ⟨#[]⟩) 79) (by as_aux_lemma => kernel_rfl) ?_; rw [X1.out])
                  | (refine wpList_store_row rfl 79 _ _ rfl wr.heap.size (op3 d y s) rfl rfl 79 (op3 0 0 ⟨#[]⟩) K1.out (oinfo _ _ _) rfl (oone _ _ _) ?_; rw [X2.out]))
                go_ret
                exact ⟨rfl, HB2.out⟩
              · go_wp2_with (first
                  | (refine wpList_allocTo rfl (some 7) rfl (.pointer (some ⟨wr.heap.size, 0, none⟩)) (.cells (op3 0 0 ⟨#[]⟩) 79) (by as_aux_lemma => kernel_rfl) ?_; rw [X1.out])
                  | (refine wpList_store_row rfl 79 _ _ rfl wr.heap.size (op3 d y s) rfl rfl 79 (op3 0 0 ⟨#[]⟩) K1.out (oinfo _ _ _) rfl (oone _ _ _) ?_; rw [X2.out])
                  | refine wpList_load_row rfl 79 _ rfl wr.heap.size rfl 79 (op3 d y s) (0, 0) _ K2.out Tryz.underlying79 rfl (oinfo _ _ _) ?_
                  | refine wpList_buildSliceTo rfl 77 80 1 _ rfl W2.heap.size rfl (some 44) rfl Tryz.underlying77 (op3 d y s) (by as_aux_lemma => kernel_rfl) ?_
                  | (at_builtin; refine Kd.R_append k80 (w0 := w) w.heap.size rfl (.tmp 42) (.tmp 44) 77 80 (.agg #[.int .i64 0, .int .u64 0, .string ⟨#[]⟩]) 32 rfl Tryz.underlying77 infoP rfl (by decide) (by omega) _ ((l.take k).map toSp) (toSp ⟨d, y, s⟩) [.int .i64 d, .int .u64 y, .string s] (fun _ => True) (fun _ => False) rfl (by first | rfl | (go_simp; done)) (k80_mkM _ _ _ _) (fun _ h => h.elim) (fun _ _ => trivial) HR2.out HB2.out hz2 (by rw [List.length_map]; omega) ?_; intro v1 w6 hR6 hb6 hgr hat; have F := Lib.hid (CL.step HE.out HSS.out (by show s.size ≤ 100; omega) hR6 hb6); clear hR6 hb6 hgr hat))
                go_roundw
                case rel => exact ⟨k + 1, by omega, by go_num, F⟩
                case measure => simp [intOf]; omega
            · obtain rfl : k = n := by omega
              have hfull : l.take k = l := List.take_of_length_le (by have := HN.out; omega)
              rw [hfull] at hR hS
              obtain ⟨A2, c2, hv, hc2, hC2⟩ := Kd.R_reads hR
              have hl2 : (l.map toSp).length = k := by rw [List.length_map]; exact HN.out
              rw [hl2] at hv hc2
              subst hv
              have hb1 := hB.size
              have SP := Lib.hid (specBufferC first A2 k c2 (l.map toSp) wr hC2 hl2.symm n30 f400 (fun e he => by obtain ⟨o, ho, rfl⟩ := List.mem_map.1 he; exact hS o ho) (fun e he => by obtain ⟨o, ho, rfl⟩ := List.mem_map.1 he; exact HG.out o ho))
              have HB := Lib.hid hB
              have HSS := Lib.hid hS
              clear hR hS hC2 hl2 hc2 hfull hB
              go_wp2_with fail
              refine SP.out.mono ?_
              rintro e w2 ⟨hS, hb2⟩
              have B2 := Lib.hid (HB.out.trans (hb2.mono HB.out.size))
              clear hb2 SP
              rcases hS with rfl | ⟨r, vv, vals, left, rfl, hR2, hF2, hL2, hA2⟩
              · go_wp2_with fail
                go_ret
                exact ⟨rfl, B2.out⟩
              · obtain ⟨A3, c3, rfl, hc3, hC3⟩ := Kd.R_reads hR2
                obtain ⟨N, hN⟩ : ∃ N, vals.length = N := ⟨_, rfl⟩
                have hN30 : vals.length ≤ 9223372036854775807 := by have := hC3.2.1; omega
                rw [hN] at hN30 ⊢
                have IM := Lib.hid (bufferC first A k cap l w2 (Kd.C_below HC.out B2.out) HN.out.symm n30 f400 HSS.out HG.out (fun e he => hA2 (toSp e) (List.mem_map_of_mem he)))
                have HN2 := Lib.hid hN
                have C3 := Lib.hid hC3
                have F2 := Lib.hid hF2
                have L2 := Lib.hid hL2
                clear hN hC3 hF2 hL2 hA2 hR2 hc3 n30 f400
                go_wp2_with fail
                refine IM.out.mono ?_
                rintro e w3 ⟨⟨r', vv', vals', left', code, rfl, hR3, hF3, hn3, hs3⟩, hb3⟩
                have hpair : (r', vals'.map opT) = (r, vals.map opS) := by rw [hF3, F2.out, bfold_T, map_toSp]
                obtain ⟨rfl, hmap⟩ := Prod.mk.inj hpair
                have hlen : vals'.length = N := by have h := congrArg List.length hmap; rw [List.length_map, List.length_map] at h; rw [h]; exact HN2.out
                obtain ⟨A4, c4, rfl, hc4, hC4⟩ := Kd.R_reads hR3
                rw [hlen]
                have hcase : (r' = none ∧ code = 1) ∨ (∃ m, r' = some m ∧ code = 0 ∧ left' = left) := by
                  cases r' with
                  | none => exact .inl ⟨rfl, hn3 rfl⟩
                  | some m => exact .inr ⟨m, rfl, (hs3 m rfl).1, by rw [(hs3 m rfl).2, L2.out m rfl]⟩
                have B3 := Lib.hid (B2.out.trans (hb3.mono B2.out.size))
                have C4 := Lib.hid hC4
                have C3 := Lib.hid (Kd.C_below C3.out hb3)
                have HL4 := Lib.hid hlen
                have HM := Lib.hid hmap
                clear hpair hmap hlen hC4 hc4 hR3 hF3 hn3 hs3 hb3 IM F2 L2
                rcases hcase with ⟨rfl, rfl⟩ | ⟨m, rfl, rfl, rfl⟩
                all_goals
                  go_wp2_with fail
                  go_loopw [89] (fun i wx => ∃ j : Nat, j ≤ N ∧ i = .int .i64 (j : Int) ∧ Hid (Below w3.heap.size w3 wx)) (fun i _ => N - (intOf i).toNat)
                  case atStart => exact ⟨0, Nat.zero_le _, rfl, Lib.hid (Below.refl _ _)⟩
                  case round =>
                    obtain ⟨j, hj, rfl, HR⟩ := hrel
                    by_cases hjl : j < N
                    · have h3 : j < vals.length := by have := HN2.out; omega
                      have h4 : j < vals'.length := by have := HL4.out; omega
                      obtain ⟨x4, p4, rfl, hx4, hq4⟩ := (opS_of_C C4.out).resolve_left (by intro h; rw [h] at h4; simp at h4)
                      obtain ⟨x3, p3, rfl, hx3, hq3⟩ := (spS_of_C C3.out).resolve_left (by intro h; rw [h] at h3; simp at h3)
                      obtain ⟨a1, a2, a3⟩ := hq4 j _ (List.getElem?_eq_getElem h4)
                      obtain ⟨b1, b2, b3⟩ := hq3 j _ (List.getElem?_eq_getElem h3)
                      have hE : opT vals'[j] = opS vals[j] := by
                        have h := congrArg (fun q => q[j]?) HM.out
                        simp only [List.getElem?_map, List.getElem?_eq_getElem h4, List.getElem?_eq_getElem h3, Option.map_some, Option.some.injEq] at h
                        exact h
                      obtain ⟨g1, g2⟩ := Prod.mk.inj hE
                      obtain ⟨g2, g3⟩ := Prod.mk.inj g2
                      rw [g1] at a1
                      rw [g2] at a2
                      rw [g3] at a3
                      have k4 : ∀ i, wr.cell? ⟨x4, i, none⟩ = w3.cell? ⟨x4, i, none⟩ := fun i => cell_kept (HR.out.block x4 hx4)
                      have k3 : ∀ i, wr.cell? ⟨x3, i, none⟩ = w3.cell? ⟨x3, i, none⟩ := fun i => cell_kept (HR.out.block x3 hx3)
                      rw [← k4] at a1 a2 a3
                      rw [← k3] at b1 b2 b3
                      clear k4 k3 hq4 hq3 hE g1 g2 g3
                      generalize vals[j].f0 = d at *
                      generalize vals[j].f1 = y at *
                      generalize vals[j].f2 = s at *
                      go_wp2_with fail
                      go_quiet (fail)
                      go_wp2_with fail
                      go_roundw
                      case rel => exact ⟨j + 1, by omega, by go_num, Lib.hid (below_drewN HR.out _)⟩
                      case measure => simp [intOf]; omega
                    · obtain rfl : j = N := by omega
                      go_wp2_with (go_at_call 23; refine (awake _).mono ?_; rintro e w' ⟨rfl, hb⟩)
                      go_ret
                      exact ⟨rfl, (B3.out.trans (HR.out.mono B3.out.size)).trans (hb.mono (by have := B3.out.size; have := HR.out.size; omega))⟩
theorem bufferLawK (first : ByteArray) (a : Option Addr) (len cap : Nat) (y : List S79) (W : World) (hf : first.size ≤ maxLen) (hK : (Kd.slice 79 k79).K W y (Value.slice a len cap).cells.toList) (hG : gOps y) :
    Calls Tryz.prog 17 #[.string first, .slice a len cap] W fun e w' => e = .returned (.bool true) ∧ Below W.heap.size W w' := by
  obtain ⟨A, c, he, hl, hC⟩ := hK
  have he2 : [Value.slice a len cap] = [Value.slice A y.length c] := he
  simp only [List.cons.injEq, Value.slice.injEq, and_true] at he2
  obtain ⟨rfl, rfl, rfl⟩ := he2
  exact bufferLaw first a cap y W hC hl (fun e h => (hG.2 e h).2.1) hG.1 hf
end Go.Proofs.YtmenkckgpiafiaaGreat
namespace Go.Proofs.YtmenkckgpiafiaaGreat
open Go.RowKit Go.Great Go.ChangeShapes Go.WideShapes Go.ChangeAt Go.Proofs.YtmenkckgpiafiaaGreatW.PrintWords Go.Proofs.YtmenkckgpiafiaaGreat.KK
open Go.ChangeMaps (open_string shut_string)
theorem bufL_own : ownKnob Tryz.prog.godebug = none := by kernel_rfl
theorem bufL_laid : laidOutB Tryz.prog = true := by kernel_rfl
set_option maxRecDepth 100000 in
theorem bufL_lifted (os : Os) (started : os.Started) (H : Type) (enc : TypeId × Value → H) :
    ReturnsInHanded {} Tryz.checked os 17 .any (Rows.fnBufferSpec.pre6 enc Tryz.prog Tryz.f17 Rows.fnBufferRow.domain false) (Rows.fnBufferSpec.post enc Tryz.prog Tryz.f17 false true false false) := by
  refine returnsInHanded_of_change (C := Tryz.checked) bufL_own started (by kernel_rfl) Tryz.func17
    (ChangeSpec.witness6 (enc := enc) (C := Tryz.checked) false ⟨#[], #[.string ByteArray.empty, .slice none 0 0], []⟩ 8 (by kernel_rfl) (by kernel_rfl) (by kernel_rfl) (by kernel_rfl)) ?_
  intro W base args ds gs before hval0 hW hcnd _
  have hval : ∀ (j : Nat) t v, Tryz.f17.params[j]? = some t → args[j]? = some v → Value.okWide Tryz.prog W .any base t v := hval0
  have hW' := hW
  have hlt : ∀ x ∈ before, x.block < W.heap.size := fun x hx => hW.lt x hx
  obtain ⟨p, q, hA0, hV, rfl, hfz, hnd⟩ := hW
  have hA : DataW.TrodAll enc Tryz.prog W 0 (fun _ => true) true Tryz.f17.params.toList args.toList ds p := hA0
  rw [Tryz.params17] at hA hval
  obtain ⟨v0, vs0, d0, ds0, p0, q0, hargs, rfl, rfl, h0, r0⟩ := trodAll_cons hA
  obtain ⟨v1, vs1, d1, ds1, p1, q1, rfl, rfl, rfl, h1, r1⟩ := trodAll_cons r0
  obtain ⟨rfl, rfl, rfl⟩ := trodAll_nil r1
  obtain rfl : args = #[v0, v1] := by cases args; simp_all
  obtain ⟨rfl, rfl⟩ := trodVars_none hV
  simp only [List.append_nil] at hW' hlt
  obtain ⟨a0, rfl, rfl, rfl, w0⟩ := open_string Tryz.underlying9 (hval 0 9 v0 rfl rfl) h0
  have t1 := h1
  obtain ⟨fuel1, hf1⟩ := h1
  obtain ⟨y1, hK1, hG1⟩ := opnOps.out hf1
  obtain ⟨a1, len1, cap1, rfl⟩ := okWide_slice Tryz.underlying75 (hval 1 75 v1 rfl rfl)
  clear hA0 hval0
  refine (bufferLawK a0 a1 len1 cap1 y1 W w0 hK1 hG1).mono fun e W' ⟨he, hg⟩ => ?_
  subst he
  exact ⟨_, rfl, post_of_below (pa := _) (pv := []) hW' (fun _ _ _ => (trodAll_cons_mk (shut_bool Tryz.underlying4 _) trodAll_mk0))
    (fun sp hsp0 => by
      have hsp1 := hsp0
      have s1 := WideElems.Trod_stays bufL_laid (by kernel_rfl) (of_decide_eq_true (by kernel_rfl)) t1 (fun x hx => hg.same (hlt x (by simp [hx]))) (fun x hx => hsp0 x (by simp [hx]))
      have r := (trodAll_cons_mk (shut_string Tryz.underlying9 w0) (trodAll_cons_mk (s1) trodAll_mk0))
      simp only [List.append_nil, List.nil_append] at r
      exact r) (fun _ _ => rfl) (by simp)
    hg (ok_one (by kernel_rfl) rfl (okWide_bool_mk Tryz.underlying4 _))⟩
theorem bufL_named : Tryz.pinned.checked.prog.funcNamed Rows.fnBufferRow.func = some 17 := by kernel_rfl
set_option maxHeartbeats 8000000 in
theorem bufL_facts : joinedFacts Tryz.pinned.checked.prog 17 Tryz.f17 Rows.fnBufferSpec Rows.fnBufferRow = true := by
  simp only [joinedFacts, Bool.and_eq_true]
  repeat' apply And.intro
  all_goals (as_aux_lemma => kernel_rfl)
theorem bufL_inst : Tryz.f17.isInstance Tryz.pinned.checked.prog Rows.fnBufferRow.origin Rows.fnBufferRow.targs := of_decide_eq_true (by kernel_rfl)
theorem bufL_wrap : Tryz.f17.isWrapper Tryz.pinned.checked.prog Rows.fnBufferRow.wrapper Rows.fnBufferRow.mainSum := by
  unfold Func.isWrapper
  rw [if_neg (by decide +kernel)]
  exact ⟨rfl, rfl⟩
/-- 'laws.FnBuffer': whatever the input: true; the input reads as it did. -/
theorem bufL_holds : Rows.FnBufferSaid :=
  OpenClaim.holds_of_wide 17 Tryz.f17 rfl rfl rfl rfl rfl rfl rfl ⟨rfl, rfl, rfl, rfl, rfl⟩ rfl rfl rfl rfl rfl bufL_named Tryz.func17 bufL_facts bufL_inst bufL_wrap
    (fun os started H enc _ => bufL_lifted os started H enc)
end Go.Proofs.YtmenkckgpiafiaaGreat
