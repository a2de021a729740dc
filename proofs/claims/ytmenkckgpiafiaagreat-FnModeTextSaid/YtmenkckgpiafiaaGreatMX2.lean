/-
  Lemmas and contracts, part 2.
-/
import Derived.Test.YtmenkckgpiafiaaGreatProg
import Derived.Below
import Derived.Deep.Draws
import Derived.Deep.AppendLies
import Derived.Maps.AppendAt
import Derived.OwnWalk
import Derived.Laws.BytesArg
import Derived.Laws.MakeOwn
import Derived.Laws.OwnMore
import Derived.Deep.OwnRows
import Derived.Tactics
import Derived.Lib.ConvBytes
import Derived.Laws.Slices
import Derived.WalkKit
import Derived.KernelRfl
import Derived.RowKit3
import Derived.Deep.LoopGhost
import Derived.Deep.QuietTactic
import Derived.BigQuiet
import Derived.WideLaws
import Derived.Deep.DeepCutAuto
import Derived.Deep.CutBlock
import Derived.Deep.RegionHeld3
import Derived.Laws.Rows
import Derived.Lib.AppendStr
import Derived.ArgAppend
import Derived.Laws.IdiomCopy
import Derived.OrdersHeld
import Derived.Laws.BitsLemmas
import Derived.RowKit
import Derived.Laws.StructEq
import Derived.Test.YtmenkckgpiafiaaGreatMX1
set_option linter.unusedVariables false
set_option linter.unusedSimpArgs false
namespace Go.Proofs.YtmenkckgpiafiaaGreat.PM
open Go.Proofs.YtmenkckgpiafiaaGreat.KK Go.RowKit Go.Proofs.YtmenkckgpiafiaaGreatW.PrintWords Go.Proofs.YtmenkckgpiafiaaGreatW.PrintLast Go.Proofs.YtmenkckgpiafiaaGreatW.PrintMore
attribute [local go_sem] max2_int min2_int max_two min_two max_three min_three max_four min_four
set_option linter.unusedVariables false
set_option linter.unusedSimpArgs false
def errW : Option Int → Value
  | none => .nilIface
  | some c => .iface 0 (.int .i64 c)
theorem errW_none : errW none = .nilIface := rfl
theorem errW_some (c : Int) : errW (some c) = .iface 0 (.int .i64 c) := rfl
theorem info5 : (Tryz.prog.info? 5).map (fun i => (i.zero, i.size, i.bytes)) = some (some (.int .u8 0), 1, 1) := by kernel_rfl
end Go.Proofs.YtmenkckgpiafiaaGreat.PM
namespace Go.Proofs.YtmenkckgpiafiaaGreat.PM
open Go.Proofs.YtmenkckgpiafiaaGreat.KK Go.RowKit Go.Proofs.YtmenkckgpiafiaaGreatW.PrintWords Go.Proofs.YtmenkckgpiafiaaGreatW.PrintLast Go.Proofs.YtmenkckgpiafiaaGreatW.PrintMore
attribute [local go_sem] max2_int min2_int max_two min_two max_three min_three max_four min_four
set_option linter.unusedVariables false
set_option linter.unusedSimpArgs false
mutual
def spec_ModeText.j0 : Nat → Int → Int → Option (ByteArray)
  | 0, _, _ => none
  | k + 1, x0, x3 => spec_ModeText.l0 k x0 (([x3] : List Int)) 0
def spec_ModeText.l0 : Nat → Int → List Int → Int → Option (ByteArray)
  | 0, _, _, _ => none
  | k + 1, x0, x4, x28 => if x28 < 9 then (if 0 ≤ (wrap64 (8 - x28)) then (if (Go.bits .and .u32 (shr .u32 x0 (wrap64 (8 - x28))) 1) = 0 then (if x4.length < 140737488355328 then (spec_ModeText.l0 k x0 (x4 ++ [45]) (wrap64 (x28 + 1))) else (none)) else (if 0 ≤ (Int.tmod x28 3) then (if (Int.tmod x28 3) < 3 then (if x4.length < 140737488355328 then (spec_ModeText.l0 k x0 (x4 ++ [bt (⟨#[114, 119, 120]⟩ : ByteArray) (Int.tmod x28 3)]) (wrap64 (x28 + 1))) else (none)) else (none)) else (none))) else (none)) else ((some (([(⟨2048, 115⟩ : S163), (⟨1024, 115⟩ : S163), (⟨512, 116⟩ : S163)] : List (S163)) : List (S163))).bind fun y110 => (spec_ModeText.l1 k x0 x4 y110 (y110.length : Int) 0))
def spec_ModeText.l1 : Nat → Int → List Int → List (S163) → Int → Int → Option (ByteArray)
  | 0, _, _, _, _, _ => none
  | k + 1, x0, x4, x48, x49, x50 => if x50 < x49 then (if 0 ≤ x50 then (if x50 < (x48.length : Int) then (if (Go.bits .and .u32 x0 ((rd_T163 x48 x50).f0)) = 0 then (spec_ModeText.l1 k x0 x4 x48 x49 (wrap64 (x50 + 1))) else (if 0 ≤ (wrap64 (3 + (wrap64 (3 * x50)))) then (if (wrap64 (3 + (wrap64 (3 * x50)))) < (x4.length : Int) then (if (rd x4 (wrap64 (3 + (wrap64 (3 * x50))))) = 120 then (spec_ModeText.l1 k x0 (x4.set ((wrap64 (3 + (wrap64 (3 * x50)))) : Int).toNat ((rd_T163 x48 x50).f1)) x48 x49 (wrap64 (x50 + 1))) else (spec_ModeText.l1 k x0 (x4.set ((wrap64 (3 + (wrap64 (3 * x50)))) : Int).toNat ((((((rd_T163 x48 x50).f1) - 97) % 256) + 65) % 256)) x48 x49 (wrap64 (x50 + 1)))) else (none)) else (none))) else (none)) else (none)) else (some (strOfNums x4))
end
def spec_ModeText.f (k : Nat) (a0 : Int) : Option (ByteArray) := if (Go.bits .and .u32 a0 61440) = 4096 then (spec_ModeText.j0 k a0 112) else (if (Go.bits .and .u32 a0 61440) = 8192 then (spec_ModeText.j0 k a0 99) else (if (Go.bits .and .u32 a0 61440) = 16384 then (spec_ModeText.j0 k a0 100) else (if (Go.bits .and .u32 a0 61440) = 24576 then (spec_ModeText.j0 k a0 98) else (if (Go.bits .and .u32 a0 61440) = 32768 then (spec_ModeText.j0 k a0 45) else (if (Go.bits .and .u32 a0 61440) = 40960 then (spec_ModeText.j0 k a0 108) else (if (Go.bits .and .u32 a0 61440) = 49152 then (spec_ModeText.j0 k a0 115) else (spec_ModeText.j0 k a0 63)))))))
theorem spec_ModeText.mono_l : ∀ k, (∀ y0 y1, LeO (spec_ModeText.j0 k y0 y1) (spec_ModeText.j0 (k + 1) y0 y1)) ∧ (∀ y0 y1 y2, LeO (spec_ModeText.l0 k y0 y1 y2) (spec_ModeText.l0 (k + 1) y0 y1 y2)) ∧ (∀ y0 y1 y2 y3 y4, LeO (spec_ModeText.l1 k y0 y1 y2 y3 y4) (spec_ModeText.l1 (k + 1) y0 y1 y2 y3 y4))
  | 0 => ⟨fun _ _ r h => by simp [spec_ModeText.j0] at h, fun _ _ _ r h => by simp [spec_ModeText.l0] at h, fun _ _ _ _ _ r h => by simp [spec_ModeText.l1] at h⟩
  | k + 1 => by
    obtain ⟨ih0, ih1, ih2⟩ := spec_ModeText.mono_l k
    refine ⟨?_, ?_, ?_⟩
    · intro y0 y1
      unfold spec_ModeText.j0
      repeat' first
      | (with_reducible exact ih0 _ _)
      | (with_reducible exact ih1 _ _ _)
      | (with_reducible exact ih2 _ _ _ _ _)
      | (with_reducible exact LeO.refl _)
      | (with_reducible exact LeO.none _)
      | (with_reducible refine LeO.ite ?_ ?_)
      | (with_reducible refine LeO.bind ?_ (fun _ => ?_))
      | exact ih0 _ _
      | exact ih1 _ _ _
      | exact ih2 _ _ _ _ _
      | exact LeO.none _
      | refine LeO.ite ?_ ?_
      | refine LeO.bind ?_ (fun _ => ?_)
    · intro y0 y1 y2
      unfold spec_ModeText.l0
      repeat' first
      | (with_reducible exact ih0 _ _)
      | (with_reducible exact ih1 _ _ _)
      | (with_reducible exact ih2 _ _ _ _ _)
      | (with_reducible exact LeO.refl _)
      | (with_reducible exact LeO.none _)
      | (with_reducible refine LeO.ite ?_ ?_)
      | (with_reducible refine LeO.bind ?_ (fun _ => ?_))
      | exact ih0 _ _
      | exact ih1 _ _ _
      | exact ih2 _ _ _ _ _
      | exact LeO.none _
      | refine LeO.ite ?_ ?_
      | refine LeO.bind ?_ (fun _ => ?_)
    · intro y0 y1 y2 y3 y4
      unfold spec_ModeText.l1
      repeat' first
      | (with_reducible exact ih0 _ _)
      | (with_reducible exact ih1 _ _ _)
      | (with_reducible exact ih2 _ _ _ _ _)
      | (with_reducible exact LeO.refl _)
      | (with_reducible exact LeO.none _)
      | (with_reducible refine LeO.ite ?_ ?_)
      | (with_reducible refine LeO.bind ?_ (fun _ => ?_))
      | exact ih0 _ _
      | exact ih1 _ _ _
      | exact ih2 _ _ _ _ _
      | exact LeO.none _
      | refine LeO.ite ?_ ?_
      | refine LeO.bind ?_ (fun _ => ?_)
theorem spec_ModeText.mono : ∀ a0 k, LeO (spec_ModeText.f k a0) (spec_ModeText.f (k + 1) a0) := by
  intro a0 k
  obtain ⟨ih0, ih1, ih2⟩ := spec_ModeText.mono_l k
  unfold spec_ModeText.f
  repeat' first
      | (with_reducible exact ih0 _ _)
      | (with_reducible exact ih1 _ _ _)
      | (with_reducible exact ih2 _ _ _ _ _)
      | (with_reducible exact LeO.refl _)
      | (with_reducible exact LeO.none _)
      | (with_reducible refine LeO.ite ?_ ?_)
      | (with_reducible refine LeO.bind ?_ (fun _ => ?_))
      | exact ih0 _ _
      | exact ih1 _ _ _
      | exact ih2 _ _ _ _ _
      | exact LeO.none _
      | refine LeO.ite ?_ ?_
      | refine LeO.bind ?_ (fun _ => ?_)
set_option maxHeartbeats 8000000 in
set_option maxRecDepth 100000 in
theorem spec_ModeText.calls (k : Nat) (a0 : Int) (r : ByteArray) (w : World) (h : spec_ModeText.f k a0 = some r) :
    Calls Tryz.prog 43 #[.int .u32 a0] w fun e w' => e = .returned (.string r) ∧ Below w.heap.size w w' := by
  have hu163 := Tryz.underlying163
  have HB := Aside0.mk (Below.refl w.heap.size w)
  have H : (if (Go.bits .and .u32 a0 61440) = 4096 then (spec_ModeText.j0 k a0 112) else (if (Go.bits .and .u32 a0 61440) = 8192 then (spec_ModeText.j0 k a0 99) else (if (Go.bits .and .u32 a0 61440) = 16384 then (spec_ModeText.j0 k a0 100) else (if (Go.bits .and .u32 a0 61440) = 24576 then (spec_ModeText.j0 k a0 98) else (if (Go.bits .and .u32 a0 61440) = 32768 then (spec_ModeText.j0 k a0 45) else (if (Go.bits .and .u32 a0 61440) = 40960 then (spec_ModeText.j0 k a0 108) else (if (Go.bits .and .u32 a0 61440) = 49152 then (spec_ModeText.j0 k a0 115) else (spec_ModeText.j0 k a0 63)))))))) = some r := h
  clear h
  have HC2 := Aside0.mk H
  clear H
  go_enter Tryz.func43, Tryz.ntmps43
  go_upto_block 0 with (fail)
  go_cut [3] (fun v3 wc => ∃ (kq : Nat) (x3_1 : Int), v3 = .int .u8 x3_1 ∧ Aside0 (spec_ModeText.j0 kq a0 x3_1 = some r) ∧ Aside0 (kq ≤ k) ∧ Aside0 (Below w.heap.size w wc))
  case first =>
    have H := HC2.out
    clear HC2
    by_cases c3 : (Go.bits .and .u32 a0 61440) = 4096
    · rw [if_pos c3] at H
      have c3b0 : ((Go.bits .and .u32 a0 61440) == 4096) = true := beq_iff_eq.mpr c3
      have c3b1 : ((Go.bits .and .u32 a0 61440) != 4096) = false := bne_eq_false_iff_eq.mpr c3
      clear c3
      (first | rw [c3b0] | (simp only [i64_w, i32_w]; rw [c3b0]) | skip)
      have H' := Aside0.mk H
      clear H
      go_wp2
      go_meet
      case rel => exact ⟨_, (112), (by first | rfl | (simp; done) | (simp [*]; done)), H', ⟨by first | omega | exact Nat.le_refl _⟩, ⟨by repeat (first | (with_reducible first | exact HB.out | apply below_alloc | apply pw_below_drewN | apply below_drew1) | exact HB.out)⟩⟩
    · rw [if_neg c3] at H
      have c3b0 : ((Go.bits .and .u32 a0 61440) == 4096) = false := beq_eq_false_iff_ne.mpr c3
      have c3b1 : ((Go.bits .and .u32 a0 61440) != 4096) = true := bne_iff_ne.mpr c3
      (first | rw [c3b0] | (simp only [i64_w, i32_w]; rw [c3b0]) | skip)
      by_cases c4 : (Go.bits .and .u32 a0 61440) = 8192
      · rw [if_pos c4] at H
        have c4b0 : ((Go.bits .and .u32 a0 61440) == 8192) = true := beq_iff_eq.mpr c4
        have c4b1 : ((Go.bits .and .u32 a0 61440) != 8192) = false := bne_eq_false_iff_eq.mpr c4
        clear c4
        have H' := Aside0.mk H
        clear H
        go_wp2
        go_meet
        case rel => exact ⟨_, (99), (by first | rfl | (simp; done) | (simp [*]; done)), H', ⟨by first | omega | exact Nat.le_refl _⟩, ⟨by repeat (first | (with_reducible first | exact HB.out | apply below_alloc | apply pw_below_drewN | apply below_drew1) | exact HB.out)⟩⟩
      · rw [if_neg c4] at H
        have c4b0 : ((Go.bits .and .u32 a0 61440) == 8192) = false := beq_eq_false_iff_ne.mpr c4
        have c4b1 : ((Go.bits .and .u32 a0 61440) != 8192) = true := bne_iff_ne.mpr c4
        by_cases c5 : (Go.bits .and .u32 a0 61440) = 16384
        · rw [if_pos c5] at H
          have c5b0 : ((Go.bits .and .u32 a0 61440) == 16384) = true := beq_iff_eq.mpr c5
          have c5b1 : ((Go.bits .and .u32 a0 61440) != 16384) = false := bne_eq_false_iff_eq.mpr c5
          clear c5
          have H' := Aside0.mk H
          clear H
          go_wp2
          go_meet
          case rel => exact ⟨_, (100), (by first | rfl | (simp; done) | (simp [*]; done)), H', ⟨by first | omega | exact Nat.le_refl _⟩, ⟨by repeat (first | (with_reducible first | exact HB.out | apply below_alloc | apply pw_below_drewN | apply below_drew1) | exact HB.out)⟩⟩
        · rw [if_neg c5] at H
          have c5b0 : ((Go.bits .and .u32 a0 61440) == 16384) = false := beq_eq_false_iff_ne.mpr c5
          have c5b1 : ((Go.bits .and .u32 a0 61440) != 16384) = true := bne_iff_ne.mpr c5
          by_cases c6 : (Go.bits .and .u32 a0 61440) = 24576
          · rw [if_pos c6] at H
            have c6b0 : ((Go.bits .and .u32 a0 61440) == 24576) = true := beq_iff_eq.mpr c6
            have c6b1 : ((Go.bits .and .u32 a0 61440) != 24576) = false := bne_eq_false_iff_eq.mpr c6
            clear c6
            have H' := Aside0.mk H
            clear H
            go_wp2
            go_meet
            case rel => exact ⟨_, (98), (by first | rfl | (simp; done) | (simp [*]; done)), H', ⟨by first | omega | exact Nat.le_refl _⟩, ⟨by repeat (first | (with_reducible first | exact HB.out | apply below_alloc | apply pw_below_drewN | apply below_drew1) | exact HB.out)⟩⟩
          · rw [if_neg c6] at H
            have c6b0 : ((Go.bits .and .u32 a0 61440) == 24576) = false := beq_eq_false_iff_ne.mpr c6
            have c6b1 : ((Go.bits .and .u32 a0 61440) != 24576) = true := bne_iff_ne.mpr c6
            by_cases c7 : (Go.bits .and .u32 a0 61440) = 32768
            · rw [if_pos c7] at H
              have c7b0 : ((Go.bits .and .u32 a0 61440) == 32768) = true := beq_iff_eq.mpr c7
              have c7b1 : ((Go.bits .and .u32 a0 61440) != 32768) = false := bne_eq_false_iff_eq.mpr c7
              clear c7
              have H' := Aside0.mk H
              clear H
              go_wp2
              go_meet
              case rel => exact ⟨_, (45), (by first | rfl | (simp; done) | (simp [*]; done)), H', ⟨by first | omega | exact Nat.le_refl _⟩, ⟨by repeat (first | (with_reducible first | exact HB.out | apply below_alloc | apply pw_below_drewN | apply below_drew1) | exact HB.out)⟩⟩
            · rw [if_neg c7] at H
              have c7b0 : ((Go.bits .and .u32 a0 61440) == 32768) = false := beq_eq_false_iff_ne.mpr c7
              have c7b1 : ((Go.bits .and .u32 a0 61440) != 32768) = true := bne_iff_ne.mpr c7
              by_cases c8 : (Go.bits .and .u32 a0 61440) = 40960
              · rw [if_pos c8] at H
                have c8b0 : ((Go.bits .and .u32 a0 61440) == 40960) = true := beq_iff_eq.mpr c8
                have c8b1 : ((Go.bits .and .u32 a0 61440) != 40960) = false := bne_eq_false_iff_eq.mpr c8
                clear c8
                have H' := Aside0.mk H
                clear H
                go_wp2
                go_meet
                case rel => exact ⟨_, (108), (by first | rfl | (simp; done) | (simp [*]; done)), H', ⟨by first | omega | exact Nat.le_refl _⟩, ⟨by repeat (first | (with_reducible first | exact HB.out | apply below_alloc | apply pw_below_drewN | apply below_drew1) | exact HB.out)⟩⟩
              · rw [if_neg c8] at H
                have c8b0 : ((Go.bits .and .u32 a0 61440) == 40960) = false := beq_eq_false_iff_ne.mpr c8
                have c8b1 : ((Go.bits .and .u32 a0 61440) != 40960) = true := bne_iff_ne.mpr c8
                by_cases c9 : (Go.bits .and .u32 a0 61440) = 49152
                · rw [if_pos c9] at H
                  have c9b0 : ((Go.bits .and .u32 a0 61440) == 49152) = true := beq_iff_eq.mpr c9
                  have c9b1 : ((Go.bits .and .u32 a0 61440) != 49152) = false := bne_eq_false_iff_eq.mpr c9
                  clear c9
                  have H' := Aside0.mk H
                  clear H
                  go_wp2
                  go_meet
                  case rel => exact ⟨_, (115), (by first | rfl | (simp; done) | (simp [*]; done)), H', ⟨by first | omega | exact Nat.le_refl _⟩, ⟨by repeat (first | (with_reducible first | exact HB.out | apply below_alloc | apply pw_below_drewN | apply below_drew1) | exact HB.out)⟩⟩
                · rw [if_neg c9] at H
                  have c9b0 : ((Go.bits .and .u32 a0 61440) == 49152) = false := beq_eq_false_iff_ne.mpr c9
                  have c9b1 : ((Go.bits .and .u32 a0 61440) != 49152) = true := bne_iff_ne.mpr c9
                  have H' := Aside0.mk H
                  clear H
                  go_wp2
                  go_meet
                  case rel => exact ⟨_, (63), (by first | rfl | (simp; done) | (simp [*]; done)), H', ⟨by first | omega | exact Nat.le_refl _⟩, ⟨by repeat (first | (with_reducible first | exact HB.out | apply below_alloc | apply pw_below_drewN | apply below_drew1) | exact HB.out)⟩⟩
  case rest =>
    clear HC2
    try clear p2
    try clear c3
    try clear c3b0
    try clear c3b1
    try clear c4
    try clear c4b0
    try clear c4b1
    try clear c5
    try clear c5b0
    try clear c5b1
    try clear c6
    try clear c6b0
    try clear c6b1
    try clear c7
    try clear c7b0
    try clear c7b1
    try clear c8
    try clear c8b0
    try clear c8b1
    try clear c9
    try clear c9b0
    try clear c9b1
    obtain ⟨kq, x3_1, rfl, HA, HJ1, HB⟩ := hcut
    cases kq with
    | zero => exact absurd HA.out (by simp [spec_ModeText.j0])
    | succ kj1 =>
      have H := HA.out
      clear HA
      simp only [spec_ModeText.j0] at H
      obtain ⟨y101, hy101⟩ : ∃ y_ : List Int, y_ = (([x3_1] : List Int)) := ⟨_, rfl⟩
      replace H : (spec_ModeText.l0 kj1 a0 y101 0) = some r := by first | (rw [hy101]; with_reducible exact H) | (have H2_ := (Option.bind_some _ _).symm.trans H; rw [hy101]; with_reducible exact H2_) | (have H2_ := (Option.bind_some _ _).symm.trans H; with_reducible exact H2_) | with_reducible exact H | (rw [hy101]; exact H) | exact H
      have Ny101 := Aside0.mk hy101
      clear hy101
      have H' := Aside0.mk H
      clear H
      go_wp2_with (first | ((with_reducible refine gate_dst (N := 27) rfl ?_); refine Kd.R_lit (Kd.int .u8) _ 5 ?hg (N := 27) ?hd (xs := ([x3_1] : List Int)) (inner := [.int .u8 x3_1]) (ok := fun _ => True) (okp := fun _ => True) ?hr ?hp (fun _ hk => hk) trivial (Below.refl _ _) (Nat.le_refl _) (by simp) ?_; (case hd => rfl); (case hg => rfl); (case hr => first | (go_simp; done) | (go_simp; rfl)); (case hp => exact (Reps.one (show Kd.M (Kd.int .u8) _ _ _ x3_1 [.int .u8 x3_1] from rfl) (Reps.none _ _))); intro v102 w10 ho11 hb hg_ hnew_; clear hg_ hnew_; (first | rw [← Ny101.out] at ho11 | (simp only [Int.reduceToNat] at ho11; rw [← Ny101.out] at ho11)); have n0_ := Aside0.mk (Kd.R_lower ho11 (below_size (by repeat (first | (with_reducible first | exact HB.out | apply below_alloc | apply pw_below_drewN | apply below_drew1) | exact HB.out)))); have n1_ := Aside0.mk (below_step (by repeat (first | (with_reducible first | exact HB.out | apply below_alloc | apply pw_below_drewN | apply below_drew1) | exact HB.out)) hb); clear HB; have HO103 := n0_; have HB := n1_; clear n0_ n1_; clear hb ho11))
      go_loopg [4, 28] kj1 (fun kq v4 v28 w' => ∃ (x4_2 : List Int) (x28_2 : Int), v28 = .int .i64 x28_2 ∧ Aside0 (spec_ModeText.l0 kq a0 x4_2 x28_2 = some r) ∧ Aside0 (kq ≤ kj1) ∧ Aside0 (Kd.R (Kd.int .u8) 5 w' w.heap.size (fun _ => True) v4 x4_2) ∧ Aside0 (Below w.heap.size w w'))
      case atStart => exact ⟨(y101), (0), (by first | rfl | (simp; done) | (simp [*]; done)), H', ⟨Nat.le_refl _⟩, ⟨by (with_reducible repeat (first | apply Kd.R_alloc | apply Kd.R_drewN | apply Kd.R_drew)); exact HO103.out⟩, ⟨by repeat (first | (with_reducible first | exact HB.out | apply below_alloc | apply pw_below_drewN | apply below_drew1) | exact HB.out)⟩⟩
      case round =>
        clear H'
        try clear p2
        try clear c3
        try clear c3b0
        try clear c3b1
        try clear c4
        try clear c4b0
        try clear c4b1
        try clear c5
        try clear c5b0
        try clear c5b1
        try clear c6
        try clear c6b0
        try clear c6b1
        try clear c7
        try clear c7b0
        try clear c7b1
        try clear c8
        try clear c8b0
        try clear c8b1
        try clear c9
        try clear c9b0
        try clear c9b1
        try clear p2
        obtain ⟨x4_2, x28_2, rfl, HA, HK2, HO_4, HB⟩ := hrel
        cases gk with
        | zero => exact absurd HA.out (by simp [spec_ModeText.l0])
        | succ k2 =>
          have H := HA.out
          clear HA
          simp only [spec_ModeText.l0] at H
          by_cases c12 : x28_2 < 9
          · rw [if_pos c12] at H
            have c12b0 : decide (x28_2 < 9) = true := decide_eq_true c12
            clear c12
            obtain ⟨ji13, hji13⟩ : ∃ j_ : Int, (wrap64 (8 - x28_2)) = j_ := ⟨_, rfl⟩
            replace H : (if 0 ≤ (ji13) then (if (Go.bits .and .u32 (shr .u32 a0 (ji13)) 1) = 0 then (if x4_2.length < 140737488355328 then (spec_ModeText.l0 k2 a0 (x4_2 ++ [45]) (wrap64 (x28_2 + 1))) else (none)) else (if 0 ≤ (Int.tmod x28_2 3) then (if (Int.tmod x28_2 3) < 3 then (if x4_2.length < 140737488355328 then (spec_ModeText.l0 k2 a0 (x4_2 ++ [bt (⟨#[114, 119, 120]⟩ : ByteArray) (Int.tmod x28_2 3)]) (wrap64 (x28_2 + 1))) else (none)) else (none)) else (none))) else (none)) = some r := by first | (rw [hji13] at H; exact H) | (simp only [hji13] at H ⊢; exact H)
            have hji13w : (IntKind.i64.wrap (8 - x28_2)) = ji13 := (i64_w _).trans hji13
            by_cases c14 : 0 ≤ (ji13)
            · rw [if_pos c14] at H
              have c14b0 := eq_true c14
              have c14b1 : decide (0 ≤ (ji13)) = true := decide_eq_true c14
              clear c14
              obtain ⟨ji15, hji15⟩ : ∃ j_ : Int, (shr .u32 a0 (ji13)) = j_ := ⟨_, rfl⟩
              replace H : (if (Go.bits .and .u32 (ji15) 1) = 0 then (if x4_2.length < 140737488355328 then (spec_ModeText.l0 k2 a0 (x4_2 ++ [45]) (wrap64 (x28_2 + 1))) else (none)) else (if 0 ≤ (Int.tmod x28_2 3) then (if (Int.tmod x28_2 3) < 3 then (if x4_2.length < 140737488355328 then (spec_ModeText.l0 k2 a0 (x4_2 ++ [bt (⟨#[114, 119, 120]⟩ : ByteArray) (Int.tmod x28_2 3)]) (wrap64 (x28_2 + 1))) else (none)) else (none)) else (none))) = some r := by first | (rw [hji15] at H; exact H) | (simp only [hji15] at H ⊢; exact H)
              have hji15_ : (a0 / 2 ^ min (ji13).toNat 32) = ji15 := hji15
              have hji15z : (ji13) ≤ 32 → (a0 / 2 ^ (ji13).toNat) = ji15 := shr_small hji15
              by_cases c16 : (Go.bits .and .u32 (ji15) 1) = 0
              · rw [if_pos c16] at H
                have c16b0 : ((Go.bits .and .u32 (ji15) 1) == 0) = true := beq_iff_eq.mpr c16
                have c16b1 : ((Go.bits .and .u32 (ji15) 1) != 0) = false := bne_eq_false_iff_eq.mpr c16
                clear c16
                by_cases c17 : x4_2.length < 140737488355328
                · rw [if_pos c17] at H
                  have LMc17 := Aside0.mk c17
                  clear c17
                  obtain ⟨y104, hy104⟩ : ∃ y_ : List Int, y_ = (x4_2 ++ [45]) := ⟨_, rfl⟩
                  replace H : (spec_ModeText.l0 k2 a0 y104 (wrap64 (x28_2 + 1))) = some r := by first | (rw [hy104]; with_reducible exact H) | (have H2_ := (Option.bind_some _ _).symm.trans H; rw [hy104]; with_reducible exact H2_) | (have H2_ := (Option.bind_some _ _).symm.trans H; with_reducible exact H2_) | with_reducible exact H | (rw [hy104]; exact H) | exact H
                  have Ny104 := Aside0.mk hy104
                  clear hy104
                  have H' := Aside0.mk H
                  clear H
                  go_wp2_with (first | ((with_reducible refine gate_builtin (b := .append) (xs := #[.tmp 40, .tmp 42]) rfl ?_); at_builtin; refine Kd.R_append (Kd.int .u8) (w0 := w) w.heap.size rfl (.tmp 40) (.tmp 42) 93 5 (.int .u8 0) 1 rfl Tryz.underlying93 info5 rfl (by decide) (by omega) u4 x4_2 45 [.int .u8 45] (fun _ => True) (fun _ => False) rfl rfl ?aP (fun _ hk => hk.elim) ?aF ?aO ?aB ?aS ?aL ?_; (case aP => exact rfl); (case aB => exact (by repeat (first | (with_reducible first | exact HB.out | apply below_alloc | apply pw_below_drewN | apply below_drew1) | exact HB.out))); (case aF => exact (fun _ _ => trivial)); (case aO => exact (by (with_reducible repeat (first | apply Kd.R_alloc | apply Kd.R_drewN | apply Kd.R_drew)); exact HO_4.out)); (case aS => exact (below_size (by repeat (first | (with_reducible first | exact HB.out | apply below_alloc | apply pw_below_drewN | apply below_drew1) | exact HB.out)))); (case aL => have := LMc17.out; omega); intro v105 w18 ho hb hg hat; rw [← Ny104.out] at ho; have n0_ := Aside0.mk (hb); have n1_ := Aside0.mk (ho); clear HB; clear HO_4; have HB := n0_; have HO106 := n1_; clear n0_ n1_; clear ho hb hg hat))
                  go_roundg k2
                  case measure => have := HJ1.out; have := HK2.out; omega
                  case rel => exact ⟨(y104), (wrap64 (x28_2 + 1)), (by first | rfl | (simp; done) | (simp [*]; done)), H', ⟨by have := HJ1.out; have := HK2.out; omega⟩, ⟨by (with_reducible repeat (first | apply Kd.R_alloc | apply Kd.R_drewN | apply Kd.R_drew)); exact HO106.out⟩, ⟨by repeat (first | (with_reducible first | exact HB.out | apply below_alloc | apply pw_below_drewN | apply below_drew1) | exact HB.out)⟩⟩
                · rw [if_neg c17] at H
                  exact absurd H (by simp)
              · rw [if_neg c16] at H
                have c16b0 : ((Go.bits .and .u32 (ji15) 1) == 0) = false := beq_eq_false_iff_ne.mpr c16
                have c16b1 : ((Go.bits .and .u32 (ji15) 1) != 0) = true := bne_iff_ne.mpr c16
                obtain ⟨ji19, hji19⟩ : ∃ j_ : Int, (Int.tmod x28_2 3) = j_ := ⟨_, rfl⟩
                replace H : (if 0 ≤ (ji19) then (if (ji19) < 3 then (if x4_2.length < 140737488355328 then (spec_ModeText.l0 k2 a0 (x4_2 ++ [bt (⟨#[114, 119, 120]⟩ : ByteArray) (ji19)]) (wrap64 (x28_2 + 1))) else (none)) else (none)) else (none)) = some r := by first | (rw [hji19] at H; exact H) | (simp only [hji19] at H ⊢; exact H)
                by_cases c20 : 0 ≤ (ji19)
                · rw [if_pos c20] at H
                  have c20b0 : decide (0 ≤ (ji19)) = true := decide_eq_true c20
                  clear c20
                  by_cases c21 : (ji19) < 3
                  · rw [if_pos c21] at H
                    have c21b0 : decide ((ji19) < 3) = true := decide_eq_true c21
                    clear c21
                    by_cases c23 : x4_2.length < 140737488355328
                    · rw [if_pos c23] at H
                      have LMc23 := Aside0.mk c23
                      clear c23
                      obtain ⟨y107, hy107⟩ : ∃ y_ : List Int, y_ = (x4_2 ++ [bt (⟨#[114, 119, 120]⟩ : ByteArray) (ji19)]) := ⟨_, rfl⟩
                      replace H : (spec_ModeText.l0 k2 a0 y107 (wrap64 (x28_2 + 1))) = some r := by first | (rw [hy107]; with_reducible exact H) | (have H2_ := (Option.bind_some _ _).symm.trans H; rw [hy107]; with_reducible exact H2_) | (have H2_ := (Option.bind_some _ _).symm.trans H; with_reducible exact H2_) | with_reducible exact H | (rw [hy107]; exact H) | exact H
                      have Ny107 := Aside0.mk hy107
                      clear hy107
                      have H' := Aside0.mk H
                      clear H
                      have p22 : 0 ≤ ((ji19) : Int) := of_decide_eq_true (by first | (with_reducible assumption) | assumption)
                      have q22 : (ji19) < (3 : Int) := of_decide_eq_true (by first | (with_reducible assumption) | assumption)
                      have hx22 := bt_at (⟨#[114, 119, 120]⟩ : ByteArray) (ji19)
                      replace p22 := eq_true p22
                      replace q22 := eq_true q22
                      go_wp2_with (first | ((with_reducible refine gate_builtin (b := .append) (xs := #[.tmp 40, .tmp 42]) rfl ?_); at_builtin; refine Kd.R_append (Kd.int .u8) (w0 := w) w.heap.size rfl (.tmp 40) (.tmp 42) 93 5 (.int .u8 0) 1 rfl Tryz.underlying93 info5 rfl (by decide) (by omega) u4 x4_2 (bt (⟨#[114, 119, 120]⟩ : ByteArray) (ji19)) [.int .u8 (bt (⟨#[114, 119, 120]⟩ : ByteArray) (ji19))] (fun _ => True) (fun _ => False) rfl rfl ?aP (fun _ hk => hk.elim) ?aF ?aO ?aB ?aS ?aL ?_; (case aP => exact rfl); (case aB => exact (by repeat (first | (with_reducible first | exact HB.out | apply below_alloc | apply pw_below_drewN | apply below_drew1) | exact HB.out))); (case aF => exact (fun _ _ => trivial)); (case aO => exact (by (with_reducible repeat (first | apply Kd.R_alloc | apply Kd.R_drewN | apply Kd.R_drew)); exact HO_4.out)); (case aS => exact (below_size (by repeat (first | (with_reducible first | exact HB.out | apply below_alloc | apply pw_below_drewN | apply below_drew1) | exact HB.out)))); (case aL => have := LMc23.out; omega); intro v108 w24 ho hb hg hat; rw [← Ny107.out] at ho; have n0_ := Aside0.mk (hb); have n1_ := Aside0.mk (ho); clear HB; clear HO_4; have HB := n0_; have HO109 := n1_; clear n0_ n1_; clear ho hb hg hat))
                      go_roundg k2
                      case measure => have := HJ1.out; have := HK2.out; omega
                      case rel => exact ⟨(y107), (wrap64 (x28_2 + 1)), (by first | rfl | (simp; done) | (simp [*]; done)), H', ⟨by have := HJ1.out; have := HK2.out; omega⟩, ⟨by (with_reducible repeat (first | apply Kd.R_alloc | apply Kd.R_drewN | apply Kd.R_drew)); exact HO109.out⟩, ⟨by repeat (first | (with_reducible first | exact HB.out | apply below_alloc | apply pw_below_drewN | apply below_drew1) | exact HB.out)⟩⟩
                    · rw [if_neg c23] at H
                      exact absurd H (by simp)
                  · rw [if_neg c21] at H
                    exact absurd H (by simp)
                · rw [if_neg c20] at H
                  exact absurd H (by simp)
            · rw [if_neg c14] at H
              exact absurd H (by simp)
          · rw [if_neg c12] at H
            have c12b0 : decide (x28_2 < 9) = false := decide_eq_false c12
            clear c12
            obtain ⟨y110, hy110⟩ : ∃ y_ : List (S163), y_ = (([(⟨2048, 115⟩ : S163), (⟨1024, 115⟩ : S163), (⟨512, 116⟩ : S163)] : List (S163))) := ⟨_, rfl⟩
            replace H : (spec_ModeText.l1 k2 a0 x4_2 y110 (y110.length : Int) 0) = some r := by first | (rw [hy110]; with_reducible exact H) | (have H2_ := (Option.bind_some _ _).symm.trans H; rw [hy110]; with_reducible exact H2_) | (have H2_ := (Option.bind_some _ _).symm.trans H; with_reducible exact H2_) | with_reducible exact H | (rw [hy110]; exact H) | exact H
            have Ny110 := Aside0.mk hy110
            clear hy110
            have H' := Aside0.mk H
            clear H
            go_wp2_with (first | ((with_reducible refine gate_dst (N := 48) rfl ?_); refine Kd.R_lit k163 _ 163 ?hg (N := 48) ?hd (xs := ([(⟨2048, 115⟩ : S163), (⟨1024, 115⟩ : S163), (⟨512, 116⟩ : S163)] : List (S163))) (inner := [.int .u32 2048, .int .u8 115, .int .u32 1024, .int .u8 115, .int .u32 512, .int .u8 116]) (ok := fun _ => True) (okp := fun _ => True) ?hr ?hp (fun _ hk => hk) trivial (Below.refl _ _) (Nat.le_refl _) (by simp) ?_; (case hd => rfl); (case hg => rfl); (case hr => first | (go_simp; done) | (go_simp; rfl)); (case hp => exact (Reps.c2 (show Kd.M k163 _ _ _ (⟨2048, 115⟩ : S163) [.int .u32 2048, .int .u8 115] from (k163_mkM _ _ _ (⟨2048, 115⟩ : S163) )) (Reps.c2 (show Kd.M k163 _ _ _ (⟨1024, 115⟩ : S163) [.int .u32 1024, .int .u8 115] from (k163_mkM _ _ _ (⟨1024, 115⟩ : S163) )) (Reps.c2 (show Kd.M k163 _ _ _ (⟨512, 116⟩ : S163) [.int .u32 512, .int .u8 116] from (k163_mkM _ _ _ (⟨512, 116⟩ : S163) )) (Reps.none _ _))))); intro v111 w25 ho26 hb hg_ hnew_; clear hg_ hnew_; (first | rw [← Ny110.out] at ho26 | (simp only [Int.reduceToNat] at ho26; rw [← Ny110.out] at ho26)); have n0_ := Aside0.mk (Kd.R_below (by (with_reducible repeat (first | apply Kd.R_alloc | apply Kd.R_drewN | apply Kd.R_drew)); exact HO_4.out) hb); have n1_ := Aside0.mk (Kd.R_lower ho26 (below_size (by repeat (first | (with_reducible first | exact HB.out | apply below_alloc | apply pw_below_drewN | apply below_drew1) | exact HB.out)))); have n2_ := Aside0.mk (below_step (by repeat (first | (with_reducible first | exact HB.out | apply below_alloc | apply pw_below_drewN | apply below_drew1) | exact HB.out)) hb); clear HO_4; clear HB; have HO_4 := n0_; have HO112 := n1_; have HB := n2_; clear n0_ n1_ n2_; clear hb ho26; obtain ⟨Ao27, co27, eo27⟩ := Kd.R_slice HO112.out; subst eo27))
            go_loopg [50] k2 (fun kq v50 w' => ∃ (x4_3 : List Int) (x50_3 : Int), v50 = .int .i64 x50_3 ∧ Aside0 (spec_ModeText.l1 kq a0 x4_3 y110 (y110.length : Int) x50_3 = some r) ∧ Aside0 (kq ≤ k2) ∧ Aside0 (Kd.R (Kd.int .u8) 5 w' w.heap.size (fun _ => True) u4 x4_3) ∧ Aside0 (Kd.R k163 163 w' w.heap.size (fun _ => True) (.slice Ao27 y110.length co27) y110) ∧ Aside0 (Below w.heap.size w w'))
            case atStart => exact ⟨(x4_2), (0), (by first | rfl | (simp; done) | (simp [*]; done)), H', ⟨Nat.le_refl _⟩, ⟨by (with_reducible repeat (first | apply Kd.R_alloc | apply Kd.R_drewN | apply Kd.R_drew)); exact HO_4.out⟩, ⟨by (with_reducible repeat (first | apply Kd.R_alloc | apply Kd.R_drewN | apply Kd.R_drew)); exact HO112.out⟩, ⟨by repeat (first | (with_reducible first | exact HB.out | apply below_alloc | apply pw_below_drewN | apply below_drew1) | exact HB.out)⟩⟩
            case round =>
              clear H'
              try clear c1
              try clear c2
              try clear p2
              try clear q2
              try clear hx2
              try clear c3
              try clear c3b0
              try clear c3b1
              try clear c4
              try clear c4b0
              try clear c4b1
              try clear c5
              try clear c5b0
              try clear c5b1
              try clear c6
              try clear c6b0
              try clear c6b1
              try clear p6
              try clear c7
              try clear c7b0
              try clear c7b1
              try clear c8
              try clear c8b0
              try clear c8b1
              try clear c9
              try clear c9b0
              try clear c9b1
              try clear c12
              try clear c12b0
              try clear c14
              try clear c14b0
              try clear c14b1
              try clear c16
              try clear c16b0
              try clear c16b1
              try clear c17
              try clear c20
              try clear c20b0
              try clear c21
              try clear c21b0
              try clear p22
              try clear q22
              try clear hx22
              try clear c23
              try clear p2
              try clear p22
              try clear q22
              obtain ⟨x4_3, x50_3, rfl, HA, HK3, HO_4, HO_48, HB⟩ := hrel
              cases gk with
              | zero => exact absurd HA.out (by simp [spec_ModeText.l1])
              | succ k3 =>
                have H := HA.out
                clear HA
                simp only [spec_ModeText.l1] at H
                by_cases c28 : x50_3 < (y110.length : Int)
                · rw [if_pos c28] at H
                  have c28b0 : decide (x50_3 < (y110.length : Int)) = true := decide_eq_true c28
                  clear c28
                  by_cases c29 : 0 ≤ x50_3
                  · rw [if_pos c29] at H
                    have c29b0 : decide (0 ≤ x50_3) = true := decide_eq_true c29
                    clear c29
                    by_cases c30 : x50_3 < (y110.length : Int)
                    · rw [if_pos c30] at H
                      have c30b0 : decide (x50_3 < (y110.length : Int)) = true := decide_eq_true c30
                      clear c30
                      by_cases c31 : (Go.bits .and .u32 a0 ((rd_T163 y110 x50_3).f0)) = 0
                      · rw [if_pos c31] at H
                        have c31b0 : ((Go.bits .and .u32 a0 ((rd_T163 y110 x50_3).f0)) == 0) = true := beq_iff_eq.mpr c31
                        have c31b1 : ((Go.bits .and .u32 a0 ((rd_T163 y110 x50_3).f0)) != 0) = false := bne_eq_false_iff_eq.mpr c31
                        clear c31
                        have H' := Aside0.mk H
                        clear H
                        have p113 : 0 ≤ (x50_3 : Int) := of_decide_eq_true (by first | (with_reducible assumption) | assumption)
                        have q113 : x50_3 < (y110.length : Int) := of_decide_eq_true (by first | (with_reducible assumption) | assumption)
                        obtain ⟨ad113, e113, hx113_0, hx113_1⟩ := at_T163 (Kd.R_reads' HO_48.out).2.2 x50_3 p113 q113
                        cases e113
                        replace p113 := eq_true p113
                        replace q113 := eq_true q113
                        go_wp2_with (first | ((with_reducible refine gate_dst (N := 8) rfl ?_); refine box_event ?hg (N := 8) ?hd (cs := #[.int .u32 0, .int .u8 0]) (t := 163) ?hr ?_; (case hd => rfl); (case hg => rfl); (case hr => first | (go_simp; done) | (go_simp; rfl)); intro gb114 hg w32 hbox hb; have n0_ := Aside0.mk (Kd.R_below (by (with_reducible repeat (first | apply Kd.R_alloc | apply Kd.R_drewN | apply Kd.R_drew)); exact HO_4.out) hb); have n1_ := Aside0.mk (Kd.R_below (Kd.R_elderB (by (with_reducible repeat (first | apply Kd.R_alloc | apply Kd.R_drewN | apply Kd.R_drew)); exact HO_48.out) gb114 (Nat.le_of_eq hg.symm)) hb); have n2_ := Aside0.mk (below_step (by repeat (first | (with_reducible first | exact HB.out | apply below_alloc | apply pw_below_drewN | apply below_drew1) | exact HB.out)) hb); have n3_ := Aside0.mk (hbox); have n4_ := Aside0.mk ((by rw [hg]; exact (below_size (by repeat (first | (with_reducible first | exact HB.out | apply below_alloc | apply pw_below_drewN | apply below_drew1) | exact HB.out))) : w.heap.size ≤ gb114)); have n5_ := Aside0.mk ((by rw [hg]; exact (below_size (by repeat (first | (with_reducible first | exact HB.out | apply below_alloc | apply pw_below_drewN | apply below_drew1) | exact HB.out))) : w.heap.size ≤ gb114)); clear HO_4; clear HO_48; clear HB; have HO_4 := n0_; have HO_48 := n1_; have HB := n2_; have BK114 := n3_; have GW114 := n4_; have GE114 := n5_; clear n0_ n1_ n2_ n3_ n4_ n5_; clear hb hbox hg; have hcz33_0 : w32.cell? ⟨gb114, 0, none⟩ = some (.int .u32 0) := (blk_cell BK114.out 0).trans rfl; have hcz33_1 : w32.cell? ⟨gb114, 1, none⟩ = some (.int .u8 0) := (blk_cell BK114.out 1).trans rfl; have hfz33_0 := blk_frozen BK114.out 0; have hfz33_1 := blk_frozen BK114.out 1))
                        go_roundg k3
                        case measure => have := HJ1.out; have := HK2.out; have := HK3.out; omega
                        case rel => exact ⟨(x4_3), (wrap64 (x50_3 + 1)), (by first | rfl | (simp; done) | (simp [*]; done)), H', ⟨by have := HJ1.out; have := HK2.out; have := HK3.out; omega⟩, ⟨by (with_reducible repeat (first | apply Kd.R_alloc | apply Kd.R_drewN | apply Kd.R_drew)); exact Kd.R_mono (Kd.R_far (p := ⟨gb114, 1, none⟩) (Kd.R_far (p := ⟨gb114, 0, none⟩) (Kd.R_types HO_4.out BK114.out (by decide)) (fun _ hk => hk.2) (.int .u32 ((rd_T163 y110 x50_3).f0))) (fun _ hk => hk.2) (.int .u8 ((rd_T163 y110 x50_3).f1))) (fun _ hk => trivial)⟩, ⟨by (with_reducible repeat (first | apply Kd.R_alloc | apply Kd.R_drewN | apply Kd.R_drew)); exact Kd.R_mono (Kd.R_far (p := ⟨gb114, 1, none⟩) (Kd.R_far (p := ⟨gb114, 0, none⟩) (Kd.R_mono HO_48.out (fun k_ hk => (⟨hk, hk.2⟩ : _ ∧ k_ ≠ gb114))) (fun _ hk => hk.2) (.int .u32 ((rd_T163 y110 x50_3).f0))) (fun _ hk => hk.2) (.int .u8 ((rd_T163 y110 x50_3).f1))) (fun _ hk => trivial)⟩, ⟨by repeat (first | (with_reducible first | exact HB.out | apply below_alloc | apply pw_below_drewN | apply below_drew1 | refine below_set ?_ GE114.out) | exact HB.out)⟩⟩
                      · rw [if_neg c31] at H
                        have c31b0 : ((Go.bits .and .u32 a0 ((rd_T163 y110 x50_3).f0)) == 0) = false := beq_eq_false_iff_ne.mpr c31
                        have c31b1 : ((Go.bits .and .u32 a0 ((rd_T163 y110 x50_3).f0)) != 0) = true := bne_iff_ne.mpr c31
                        obtain ⟨ji34, hji34⟩ : ∃ j_ : Int, (wrap64 (3 + (wrap64 (3 * x50_3)))) = j_ := ⟨_, rfl⟩
                        replace H : (if 0 ≤ (ji34) then (if (ji34) < (x4_3.length : Int) then (if (rd x4_3 (ji34)) = 120 then (spec_ModeText.l1 k3 a0 (x4_3.set ((ji34) : Int).toNat ((rd_T163 y110 x50_3).f1)) y110 (y110.length : Int) (wrap64 (x50_3 + 1))) else (spec_ModeText.l1 k3 a0 (x4_3.set ((ji34) : Int).toNat ((((((rd_T163 y110 x50_3).f1) - 97) % 256) + 65) % 256)) y110 (y110.length : Int) (wrap64 (x50_3 + 1)))) else (none)) else (none)) = some r := by first | (rw [hji34] at H; exact H) | (simp only [hji34] at H ⊢; exact H)
                        have hji34w : (IntKind.i64.wrap (3 + (wrap64 (3 * x50_3)))) = ji34 := (i64_w _).trans hji34
                        by_cases c35 : 0 ≤ (ji34)
                        · rw [if_pos c35] at H
                          have c35b0 : decide (0 ≤ (ji34)) = true := decide_eq_true c35
                          clear c35
                          by_cases c36 : (ji34) < (x4_3.length : Int)
                          · rw [if_pos c36] at H
                            have c36b0 : decide ((ji34) < (x4_3.length : Int)) = true := decide_eq_true c36
                            clear c36
                            by_cases c37 : (rd x4_3 (ji34)) = 120
                            · rw [if_pos c37] at H
                              have c37b0 : ((rd x4_3 (ji34)) == 120) = true := beq_iff_eq.mpr c37
                              have c37b1 : ((rd x4_3 (ji34)) != 120) = false := bne_eq_false_iff_eq.mpr c37
                              clear c37
                              obtain ⟨y116, hy116⟩ : ∃ y_ : List Int, y_ = (x4_3.set ((ji34) : Int).toNat ((rd_T163 y110 x50_3).f1)) := ⟨_, rfl⟩
                              replace H : (spec_ModeText.l1 k3 a0 y116 y110 (y110.length : Int) (wrap64 (x50_3 + 1))) = some r := by first | (rw [hy116]; with_reducible exact H) | (have H2_ := (Option.bind_some _ _).symm.trans H; rw [hy116]; with_reducible exact H2_) | (have H2_ := (Option.bind_some _ _).symm.trans H; with_reducible exact H2_) | with_reducible exact H | (rw [hy116]; exact H) | exact H
                              have Ny116 := Aside0.mk hy116
                              clear hy116
                              have H' := Aside0.mk H
                              clear H
                              have p113 : 0 ≤ (x50_3 : Int) := of_decide_eq_true (by first | (with_reducible assumption) | assumption)
                              have q113 : x50_3 < (y110.length : Int) := of_decide_eq_true (by first | (with_reducible assumption) | assumption)
                              obtain ⟨ad113, e113, hx113_0, hx113_1⟩ := at_T163 (Kd.R_reads' HO_48.out).2.2 x50_3 p113 q113
                              cases e113
                              replace p113 := eq_true p113
                              replace q113 := eq_true q113
                              go_wp2_with (first | ((with_reducible refine gate_dst (N := 8) rfl ?_); refine box_event ?hg (N := 8) ?hd (cs := #[.int .u32 0, .int .u8 0]) (t := 163) ?hr ?_; (case hd => rfl); (case hg => rfl); (case hr => first | (go_simp; done) | (go_simp; rfl)); intro gb114 hg w39 hbox hb; have n0_ := Aside0.mk (Kd.R_below (by (with_reducible repeat (first | apply Kd.R_alloc | apply Kd.R_drewN | apply Kd.R_drew)); exact HO_4.out) hb); have n1_ := Aside0.mk (Kd.R_below (Kd.R_elderB (by (with_reducible repeat (first | apply Kd.R_alloc | apply Kd.R_drewN | apply Kd.R_drew)); exact HO_48.out) gb114 (Nat.le_of_eq hg.symm)) hb); have n2_ := Aside0.mk (below_step (by repeat (first | (with_reducible first | exact HB.out | apply below_alloc | apply pw_below_drewN | apply below_drew1) | exact HB.out)) hb); have n3_ := Aside0.mk (hbox); have n4_ := Aside0.mk ((by rw [hg]; exact (below_size (by repeat (first | (with_reducible first | exact HB.out | apply below_alloc | apply pw_below_drewN | apply below_drew1) | exact HB.out))) : w.heap.size ≤ gb114)); have n5_ := Aside0.mk ((by rw [hg]; exact (below_size (by repeat (first | (with_reducible first | exact HB.out | apply below_alloc | apply pw_below_drewN | apply below_drew1) | exact HB.out))) : w.heap.size ≤ gb114)); clear HO_4; clear HO_48; clear HB; have HO_4 := n0_; have HO_48 := n1_; have HB := n2_; have BK114 := n3_; have GW114 := n4_; have GE114 := n5_; clear n0_ n1_ n2_ n3_ n4_ n5_; clear hb hbox hg; have hcz40_0 : w39.cell? ⟨gb114, 0, none⟩ = some (.int .u32 0) := (blk_cell BK114.out 0).trans rfl; have hcz40_1 : w39.cell? ⟨gb114, 1, none⟩ = some (.int .u8 0) := (blk_cell BK114.out 1).trans rfl; have hfz40_0 := blk_frozen BK114.out 0; have hfz40_1 := blk_frozen BK114.out 1) | ((with_reducible refine gate_store (t := 163) (p := 8) rfl ?_); refine store_event (t := 163) (p := 8) (v := ?vo_w41) (w1 := ((w39.setCell ⟨gb114, 0, none⟩ (.int .u32 ((rd_T163 y110 x50_3).f0))).setCell ⟨gb114, 1, none⟩ (.int .u8 ((rd_T163 y110 x50_3).f1)))) ?hg ?ho ?hn ?hr ?_; (case ho => rfl); (case hg => rfl); (case hn => rfl); (case hr => first | (go_simp; done) | (go_simp; rfl)); intro w41 hw; have n0_ : Aside0 (Kd.R (Kd.int .u8) 5 w41 w.heap.size (fun _ => True) u4 x4_3) := ⟨(by rw [hw]; exact (by (with_reducible repeat (first | apply Kd.R_alloc | apply Kd.R_drewN | apply Kd.R_drew)); exact Kd.R_mono (Kd.R_far (p := ⟨gb114, 1, none⟩) (Kd.R_far (p := ⟨gb114, 0, none⟩) (Kd.R_types HO_4.out BK114.out (by decide)) (fun _ hk => hk.2) (.int .u32 ((rd_T163 y110 x50_3).f0))) (fun _ hk => hk.2) (.int .u8 ((rd_T163 y110 x50_3).f1))) (fun _ hk => trivial)))⟩; have n1_ : Aside0 (Kd.R k163 163 w41 w.heap.size (fun k_ => k_ ≠ gb114) (.slice (some ad113) y110.length co27) y110) := ⟨(by rw [hw]; exact (by (with_reducible repeat (first | apply Kd.R_alloc | apply Kd.R_drewN | apply Kd.R_drew)); exact Kd.R_mono (Kd.R_far (p := ⟨gb114, 1, none⟩) (Kd.R_far (p := ⟨gb114, 0, none⟩) (Kd.R_mono HO_48.out (fun k_ hk => (⟨hk, hk.2⟩ : _ ∧ k_ ≠ gb114))) (fun _ hk => hk.2) (.int .u32 ((rd_T163 y110 x50_3).f0))) (fun _ hk => hk.2) (.int .u8 ((rd_T163 y110 x50_3).f1))) (fun _ hk => hk.1.2)))⟩; have n2_ : Aside0 (w41.heap[gb114]? = some (.cells #[.int .u32 ((rd_T163 y110 x50_3).f0), .int .u8 ((rd_T163 y110 x50_3).f1)] 163 (0, 0))) := ⟨(by rw [hw]; exact (by (with_reducible repeat (first | refine blk_drewN ?_ _ | refine blk_drew ?_ | refine blk_alloc ?_ _)); refine blk_put (cs := #[.int .u32 ((rd_T163 y110 x50_3).f0), .int .u8 0]) ?_ 1 _ rfl; (with_reducible repeat (first | refine blk_drewN ?_ _ | refine blk_drew ?_ | refine blk_alloc ?_ _)); refine blk_put (cs := #[.int .u32 0, .int .u8 0]) ?_ 0 _ rfl; (with_reducible repeat (first | refine blk_drewN ?_ _ | refine blk_drew ?_ | refine blk_alloc ?_ _)); exact BK114.out))⟩; have n3_ : Aside0 (Below w.heap.size w w41) := ⟨(by rw [hw]; exact (by repeat (first | (with_reducible first | exact HB.out | apply below_alloc | apply pw_below_drewN | apply below_drew1 | refine below_set ?_ GE114.out) | exact HB.out)))⟩; clear hw; clear HO_4; clear HO_48; clear BK114; clear HB; have HO_4 := n0_; have HO_48 := n1_; have BK114 := n2_; have HB := n3_; clear n0_ n1_ n2_ n3_; have hcz42_0 : w41.cell? ⟨gb114, 0, none⟩ = some (.int .u32 ((rd_T163 y110 x50_3).f0)) := (blk_cell BK114.out 0).trans rfl; have hcz42_1 : w41.cell? ⟨gb114, 1, none⟩ = some (.int .u8 ((rd_T163 y110 x50_3).f1)) := (blk_cell BK114.out 1).trans rfl; have hfz42_0 := blk_frozen BK114.out 0; have hfz42_1 := blk_frozen BK114.out 1; obtain ⟨Ao43, co43, eo43⟩ := Kd.R_slice HO_4.out; subst eo43; have p115 : 0 ≤ ((ji34) : Int) := of_decide_eq_true (by first | (with_reducible assumption) | assumption); have q115 : (ji34) < (x4_3.length : Int) := of_decide_eq_true (by first | (with_reducible assumption) | assumption); obtain ⟨ad115, e115, hx115_0⟩ := Kd.at_int (Kd.R_reads' HO_4.out).2.2 (ji34) p115 q115; cases e115; replace p115 := eq_true p115; replace q115 := eq_true q115; have p38 : 0 ≤ ((ji34) : Int) := of_decide_eq_true (by first | (with_reducible assumption) | assumption); have q38 : ((ji34) : Int) < ((x4_3.length : Int) : Int) := of_decide_eq_true (by first | (with_reducible assumption) | assumption); obtain ⟨go38, co38, eo38, gb38, gl38, cl38, HG38⟩ := Kd.R_form HO_4.out (by omega); (first | cases eo38 | (injection eo38 with ea_ en_ ec_; (first | subst ea_ | (injection ea_ with ea_; subst ea_)); subst ec_; clear en_)); have GB38 := Aside0.mk gb38; have GG38 := Aside0.mk HG38; clear gb38 gl38 HG38; (first | simp only [add_plain] at hx115_0 | skip); obtain ⟨hx38_0, hf38_0⟩ := Kd.R_celln 0 HO_4.out ((ji34) : Int) p38 q38; replace p38 := eq_true p38; replace q38 := eq_true q38; obtain ⟨hy44_, hz44_⟩ := Kd.R_celln 0 HO_4.out ((ji34) : Int) (of_decide_eq_true (by first | (with_reducible assumption) | assumption)) (of_decide_eq_true (by first | (with_reducible assumption) | assumption)); have HP44 := Kd.R_putg HO_4.out ((ji34) : Int) ((rd_T163 y110 x50_3).f1)) | ((with_reducible refine gate_store (t := 5) (p := 72) rfl ?_); refine store_event (t := 5) (p := 72) (v := ?vo_w45) (w1 := (w41.setCell ⟨go38, ((ji34) : Int).toNat, none⟩ (.int .u8 ((rd_T163 y110 x50_3).f1)))) ?hg ?ho ?hn ?hr ?_; (case ho => rfl); (case hg => rfl); (case hn => rfl); (case hr => first | (go_simp; done) | (go_simp; rfl)); intro w45 hw; have hg : w41.grownBy w45 (some go38) := (by rw [hw]; exact HP44.2); have hp_ : Kd.R (Kd.int .u8) 5 w45 w.heap.size (fun _ => True) (.slice (some ⟨go38, 0, none⟩) x4_3.length co43) y116 := (by rw [hw, Ny116.out]; exact HP44.1); clear HP44; have n0_ := Aside0.mk (hp_); have n1_ := Aside0.mk (Kd.R_over' (v := (.slice (some ⟨go38, 0, none⟩) x4_3.length co43)) (by (with_reducible repeat (first | apply Kd.R_alloc | apply Kd.R_drewN | apply Kd.R_drew)); exact HO_48.out) (Kd.R_typed HO_4.out) (by decide) hg); have n2_ := Aside0.mk (blk_grown (g := gb114) (o := .cells #[.int .u32 ((rd_T163 y110 x50_3).f0), .int .u8 ((rd_T163 y110 x50_3).f1)] 163 (0, 0)) (by (with_reducible repeat (first | refine blk_drewN ?_ _ | refine blk_drew ?_ | refine blk_alloc ?_ _)); exact BK114.out) hg (Kd.R_ne HO_4.out BK114.out (by decide))); have n3_ := Aside0.mk ((by rw [hw]; exact below_set (HB.out) GB38.out : Below w.heap.size w w45)); clear HO_4; clear HO_48; clear BK114; clear HB; have HO_4 := n0_; have HO_48 := n1_; have BK114 := n2_; have HB := n3_; clear n0_ n1_ n2_ n3_; clear hg hw hp_))
                              go_roundg k3
                              case measure => have := HJ1.out; have := HK2.out; have := HK3.out; omega
                              case rel => exact ⟨(y116), (wrap64 (x50_3 + 1)), (by first | rfl | (simp; done) | (simp [*]; done)), H', ⟨by have := HJ1.out; have := HK2.out; have := HK3.out; omega⟩, ⟨by (with_reducible repeat (first | apply Kd.R_alloc | apply Kd.R_drewN | apply Kd.R_drew)); exact HO_4.out⟩, ⟨by (with_reducible repeat (first | apply Kd.R_alloc | apply Kd.R_drewN | apply Kd.R_drew)); exact Kd.R_mono HO_48.out (fun _ hk => trivial)⟩, ⟨by repeat (first | (with_reducible first | exact HB.out | apply below_alloc | apply pw_below_drewN | apply below_drew1 | refine below_set ?_ GE114.out) | exact HB.out)⟩⟩
                            · rw [if_neg c37] at H
                              have c37b0 : ((rd x4_3 (ji34)) == 120) = false := beq_eq_false_iff_ne.mpr c37
                              have c37b1 : ((rd x4_3 (ji34)) != 120) = true := bne_iff_ne.mpr c37
                              obtain ⟨y117, hy117⟩ : ∃ y_ : List Int, y_ = (x4_3.set ((ji34) : Int).toNat ((((((rd_T163 y110 x50_3).f1) - 97) % 256) + 65) % 256)) := ⟨_, rfl⟩
                              replace H : (spec_ModeText.l1 k3 a0 y117 y110 (y110.length : Int) (wrap64 (x50_3 + 1))) = some r := by first | (rw [hy117]; with_reducible exact H) | (have H2_ := (Option.bind_some _ _).symm.trans H; rw [hy117]; with_reducible exact H2_) | (have H2_ := (Option.bind_some _ _).symm.trans H; with_reducible exact H2_) | with_reducible exact H | (rw [hy117]; exact H) | exact H
                              have Ny117 := Aside0.mk hy117
                              clear hy117
                              have H' := Aside0.mk H
                              clear H
                              have p113 : 0 ≤ (x50_3 : Int) := of_decide_eq_true (by first | (with_reducible assumption) | assumption)
                              have q113 : x50_3 < (y110.length : Int) := of_decide_eq_true (by first | (with_reducible assumption) | assumption)
                              obtain ⟨ad113, e113, hx113_0, hx113_1⟩ := at_T163 (Kd.R_reads' HO_48.out).2.2 x50_3 p113 q113
                              cases e113
                              replace p113 := eq_true p113
                              replace q113 := eq_true q113
                              go_wp2_with (first | ((with_reducible refine gate_dst (N := 8) rfl ?_); refine box_event ?hg (N := 8) ?hd (cs := #[.int .u32 0, .int .u8 0]) (t := 163) ?hr ?_; (case hd => rfl); (case hg => rfl); (case hr => first | (go_simp; done) | (go_simp; rfl)); intro gb114 hg w47 hbox hb; have n0_ := Aside0.mk (Kd.R_below (by (with_reducible repeat (first | apply Kd.R_alloc | apply Kd.R_drewN | apply Kd.R_drew)); exact HO_4.out) hb); have n1_ := Aside0.mk (Kd.R_below (Kd.R_elderB (by (with_reducible repeat (first | apply Kd.R_alloc | apply Kd.R_drewN | apply Kd.R_drew)); exact HO_48.out) gb114 (Nat.le_of_eq hg.symm)) hb); have n2_ := Aside0.mk (below_step (by repeat (first | (with_reducible first | exact HB.out | apply below_alloc | apply pw_below_drewN | apply below_drew1) | exact HB.out)) hb); have n3_ := Aside0.mk (hbox); have n4_ := Aside0.mk ((by rw [hg]; exact (below_size (by repeat (first | (with_reducible first | exact HB.out | apply below_alloc | apply pw_below_drewN | apply below_drew1) | exact HB.out))) : w.heap.size ≤ gb114)); have n5_ := Aside0.mk ((by rw [hg]; exact (below_size (by repeat (first | (with_reducible first | exact HB.out | apply below_alloc | apply pw_below_drewN | apply below_drew1) | exact HB.out))) : w.heap.size ≤ gb114)); clear HO_4; clear HO_48; clear HB; have HO_4 := n0_; have HO_48 := n1_; have HB := n2_; have BK114 := n3_; have GW114 := n4_; have GE114 := n5_; clear n0_ n1_ n2_ n3_ n4_ n5_; clear hb hbox hg; have hcz48_0 : w47.cell? ⟨gb114, 0, none⟩ = some (.int .u32 0) := (blk_cell BK114.out 0).trans rfl; have hcz48_1 : w47.cell? ⟨gb114, 1, none⟩ = some (.int .u8 0) := (blk_cell BK114.out 1).trans rfl; have hfz48_0 := blk_frozen BK114.out 0; have hfz48_1 := blk_frozen BK114.out 1) | ((with_reducible refine gate_store (t := 163) (p := 8) rfl ?_); refine store_event (t := 163) (p := 8) (v := ?vo_w49) (w1 := ((w47.setCell ⟨gb114, 0, none⟩ (.int .u32 ((rd_T163 y110 x50_3).f0))).setCell ⟨gb114, 1, none⟩ (.int .u8 ((rd_T163 y110 x50_3).f1)))) ?hg ?ho ?hn ?hr ?_; (case ho => rfl); (case hg => rfl); (case hn => rfl); (case hr => first | (go_simp; done) | (go_simp; rfl)); intro w49 hw; have n0_ : Aside0 (Kd.R (Kd.int .u8) 5 w49 w.heap.size (fun _ => True) u4 x4_3) := ⟨(by rw [hw]; exact (by (with_reducible repeat (first | apply Kd.R_alloc | apply Kd.R_drewN | apply Kd.R_drew)); exact Kd.R_mono (Kd.R_far (p := ⟨gb114, 1, none⟩) (Kd.R_far (p := ⟨gb114, 0, none⟩) (Kd.R_types HO_4.out BK114.out (by decide)) (fun _ hk => hk.2) (.int .u32 ((rd_T163 y110 x50_3).f0))) (fun _ hk => hk.2) (.int .u8 ((rd_T163 y110 x50_3).f1))) (fun _ hk => trivial)))⟩; have n1_ : Aside0 (Kd.R k163 163 w49 w.heap.size (fun k_ => k_ ≠ gb114) (.slice (some ad113) y110.length co27) y110) := ⟨(by rw [hw]; exact (by (with_reducible repeat (first | apply Kd.R_alloc | apply Kd.R_drewN | apply Kd.R_drew)); exact Kd.R_mono (Kd.R_far (p := ⟨gb114, 1, none⟩) (Kd.R_far (p := ⟨gb114, 0, none⟩) (Kd.R_mono HO_48.out (fun k_ hk => (⟨hk, hk.2⟩ : _ ∧ k_ ≠ gb114))) (fun _ hk => hk.2) (.int .u32 ((rd_T163 y110 x50_3).f0))) (fun _ hk => hk.2) (.int .u8 ((rd_T163 y110 x50_3).f1))) (fun _ hk => hk.1.2)))⟩; have n2_ : Aside0 (w49.heap[gb114]? = some (.cells #[.int .u32 ((rd_T163 y110 x50_3).f0), .int .u8 ((rd_T163 y110 x50_3).f1)] 163 (0, 0))) := ⟨(by rw [hw]; exact (by (with_reducible repeat (first | refine blk_drewN ?_ _ | refine blk_drew ?_ | refine blk_alloc ?_ _)); refine blk_put (cs := #[.int .u32 ((rd_T163 y110 x50_3).f0), .int .u8 0]) ?_ 1 _ rfl; (with_reducible repeat (first | refine blk_drewN ?_ _ | refine blk_drew ?_ | refine blk_alloc ?_ _)); refine blk_put (cs := #[.int .u32 0, .int .u8 0]) ?_ 0 _ rfl; (with_reducible repeat (first | refine blk_drewN ?_ _ | refine blk_drew ?_ | refine blk_alloc ?_ _)); exact BK114.out))⟩; have n3_ : Aside0 (Below w.heap.size w w49) := ⟨(by rw [hw]; exact (by repeat (first | (with_reducible first | exact HB.out | apply below_alloc | apply pw_below_drewN | apply below_drew1 | refine below_set ?_ GE114.out) | exact HB.out)))⟩; clear hw; clear HO_4; clear HO_48; clear BK114; clear HB; have HO_4 := n0_; have HO_48 := n1_; have BK114 := n2_; have HB := n3_; clear n0_ n1_ n2_ n3_; have hcz50_0 : w49.cell? ⟨gb114, 0, none⟩ = some (.int .u32 ((rd_T163 y110 x50_3).f0)) := (blk_cell BK114.out 0).trans rfl; have hcz50_1 : w49.cell? ⟨gb114, 1, none⟩ = some (.int .u8 ((rd_T163 y110 x50_3).f1)) := (blk_cell BK114.out 1).trans rfl; have hfz50_0 := blk_frozen BK114.out 0; have hfz50_1 := blk_frozen BK114.out 1; obtain ⟨Ao51, co51, eo51⟩ := Kd.R_slice HO_4.out; subst eo51; have p115 : 0 ≤ ((ji34) : Int) := of_decide_eq_true (by first | (with_reducible assumption) | assumption); have q115 : (ji34) < (x4_3.length : Int) := of_decide_eq_true (by first | (with_reducible assumption) | assumption); obtain ⟨ad115, e115, hx115_0⟩ := Kd.at_int (Kd.R_reads' HO_4.out).2.2 (ji34) p115 q115; cases e115; replace p115 := eq_true p115; replace q115 := eq_true q115; have p46 : 0 ≤ ((ji34) : Int) := of_decide_eq_true (by first | (with_reducible assumption) | assumption); have q46 : ((ji34) : Int) < ((x4_3.length : Int) : Int) := of_decide_eq_true (by first | (with_reducible assumption) | assumption); obtain ⟨go46, co46, eo46, gb46, gl46, cl46, HG46⟩ := Kd.R_form HO_4.out (by omega); (first | cases eo46 | (injection eo46 with ea_ en_ ec_; (first | subst ea_ | (injection ea_ with ea_; subst ea_)); subst ec_; clear en_)); have GB46 := Aside0.mk gb46; have GG46 := Aside0.mk HG46; clear gb46 gl46 HG46; (first | simp only [add_plain] at hx115_0 | skip); obtain ⟨hx46_0, hf46_0⟩ := Kd.R_celln 0 HO_4.out ((ji34) : Int) p46 q46; replace p46 := eq_true p46; replace q46 := eq_true q46; obtain ⟨hy52_, hz52_⟩ := Kd.R_celln 0 HO_4.out ((ji34) : Int) (of_decide_eq_true (by first | (with_reducible assumption) | assumption)) (of_decide_eq_true (by first | (with_reducible assumption) | assumption)); have HP52 := Kd.R_putg HO_4.out ((ji34) : Int) ((((((rd_T163 y110 x50_3).f1) - 97) % 256) + 65) % 256)) | ((with_reducible refine gate_store (t := 5) (p := 79) rfl ?_); refine store_event (t := 5) (p := 79) (v := ?vo_w53) (w1 := (w49.setCell ⟨go46, ((ji34) : Int).toNat, none⟩ (.int .u8 ((((((rd_T163 y110 x50_3).f1) - 97) % 256) + 65) % 256)))) ?hg ?ho ?hn ?hr ?_; (case ho => rfl); (case hg => rfl); (case hn => rfl); (case hr => first | (go_simp; done) | (go_simp; rfl)); intro w53 hw; have hg : w49.grownBy w53 (some go46) := (by rw [hw]; exact HP52.2); have hp_ : Kd.R (Kd.int .u8) 5 w53 w.heap.size (fun _ => True) (.slice (some ⟨go46, 0, none⟩) x4_3.length co51) y117 := (by rw [hw, Ny117.out]; exact HP52.1); clear HP52; have n0_ := Aside0.mk (hp_); have n1_ := Aside0.mk (Kd.R_over' (v := (.slice (some ⟨go46, 0, none⟩) x4_3.length co51)) (by (with_reducible repeat (first | apply Kd.R_alloc | apply Kd.R_drewN | apply Kd.R_drew)); exact HO_48.out) (Kd.R_typed HO_4.out) (by decide) hg); have n2_ := Aside0.mk (blk_grown (g := gb114) (o := .cells #[.int .u32 ((rd_T163 y110 x50_3).f0), .int .u8 ((rd_T163 y110 x50_3).f1)] 163 (0, 0)) (by (with_reducible repeat (first | refine blk_drewN ?_ _ | refine blk_drew ?_ | refine blk_alloc ?_ _)); exact BK114.out) hg (Kd.R_ne HO_4.out BK114.out (by decide))); have n3_ := Aside0.mk ((by rw [hw]; exact below_set (HB.out) GB46.out : Below w.heap.size w w53)); clear HO_4; clear HO_48; clear BK114; clear HB; have HO_4 := n0_; have HO_48 := n1_; have BK114 := n2_; have HB := n3_; clear n0_ n1_ n2_ n3_; clear hg hw hp_))
                              go_roundg k3
                              case measure => have := HJ1.out; have := HK2.out; have := HK3.out; omega
                              case rel => exact ⟨(y117), (wrap64 (x50_3 + 1)), (by first | rfl | (simp; done) | (simp [*]; done)), H', ⟨by have := HJ1.out; have := HK2.out; have := HK3.out; omega⟩, ⟨by (with_reducible repeat (first | apply Kd.R_alloc | apply Kd.R_drewN | apply Kd.R_drew)); exact HO_4.out⟩, ⟨by (with_reducible repeat (first | apply Kd.R_alloc | apply Kd.R_drewN | apply Kd.R_drew)); exact Kd.R_mono HO_48.out (fun _ hk => trivial)⟩, ⟨by repeat (first | (with_reducible first | exact HB.out | apply below_alloc | apply pw_below_drewN | apply below_drew1 | refine below_set ?_ GE114.out) | exact HB.out)⟩⟩
                          · rw [if_neg c36] at H
                            exact absurd H (by simp)
                        · rw [if_neg c35] at H
                          exact absurd H (by simp)
                    · rw [if_neg c30] at H
                      exact absurd H (by simp)
                  · rw [if_neg c29] at H
                    exact absurd H (by simp)
                · rw [if_neg c28] at H
                  have c28b0 : decide (x50_3 < (y110.length : Int)) = false := decide_eq_false c28
                  clear c28
                  obtain rfl := Option.some.inj H
                  have hcv54 := own_string (P := Tryz.prog) Tryz.underlying93 Tryz.underlying5 Tryz.underlying9 (Kd.own_of_R HO_4.out)
                  go_wp2
                  go_ret
                  exact ⟨by first | rfl | (simp [errW_none, errW_some] <;> rfl) | (simp [*, errW_none, errW_some] <;> rfl), by repeat (first | (with_reducible first | exact HB.out | apply below_alloc | apply pw_below_drewN | apply below_drew1) | exact HB.out)⟩
end Go.Proofs.YtmenkckgpiafiaaGreat.PM
