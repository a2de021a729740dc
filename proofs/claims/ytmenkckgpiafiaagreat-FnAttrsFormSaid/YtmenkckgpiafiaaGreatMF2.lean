/-
  Lemmas and contracts, part 2.
-/
import Derived.Test.YtmenkckgpiafiaaGreatProg
import Derived.Below
import Derived.Deep.Draws
import Derived.Deep.AppendLies
import Derived.Maps.AppendAt
import Derived.OwnWalk
import Derived.Laws.BytesArg
import Derived.Laws.MakeOwn
import Derived.Laws.OwnMore
import Derived.Deep.OwnRows
import Derived.Tactics
import Derived.Lib.ConvBytes
import Derived.Laws.Slices
import Derived.WalkKit
import Derived.KernelRfl
import Derived.RowKit3
import Derived.Deep.LoopGhost
import Derived.Deep.QuietTactic
import Derived.BigQuiet
import Derived.WideLaws
import Derived.Deep.DeepCutAuto
import Derived.Deep.CutBlock
import Derived.Deep.RegionHeld3
import Derived.Laws.Rows
import Derived.Lib.AppendStr
import Derived.ArgAppend
import Derived.Laws.IdiomCopy
import Derived.OrdersHeld
import Derived.Laws.BitsLemmas
import Derived.RowKit
import Derived.Test.YtmenkckgpiafiaaGreatMF1
set_option linter.unusedVariables false
set_option linter.unusedSimpArgs false
namespace Go.Proofs.YtmenkckgpiafiaaGreat.PA
open Go.Proofs.YtmenkckgpiafiaaGreat.KK Go.RowKit Go.Proofs.YtmenkckgpiafiaaGreatW.PrintWords Go.Proofs.YtmenkckgpiafiaaGreatW.PrintLast Go.Proofs.YtmenkckgpiafiaaGreatW.PrintMore
attribute [local go_sem] max2_int min2_int max_two min_two max_three min_three max_four min_four
set_option linter.unusedVariables false
set_option linter.unusedSimpArgs false
def errW : Option Int → Value
  | none => .nilIface
  | some c => .iface 0 (.int .i64 c)
theorem errW_none : errW none = .nilIface := rfl
theorem errW_some (c : Int) : errW (some c) = .iface 0 (.int .i64 c) := rfl
theorem info89 : (Tryz.prog.info? 89).map (fun i => (i.zero, i.size, i.bytes)) = some (some (.agg #[(.string ⟨#[]⟩), (.string ⟨#[]⟩)]), 2, 32) := by kernel_rfl
theorem info266 : (Tryz.prog.info? 266).map (fun i => (i.zero, i.size, i.bytes)) = some (some (.agg #[(.string ⟨#[]⟩), (.string ⟨#[]⟩)]), 2, 32) := by kernel_rfl
end Go.Proofs.YtmenkckgpiafiaaGreat.PA
namespace Go.Proofs.YtmenkckgpiafiaaGreat.PA
open Go.Proofs.YtmenkckgpiafiaaGreat.KK Go.RowKit Go.Proofs.YtmenkckgpiafiaaGreatW.PrintWords Go.Proofs.YtmenkckgpiafiaaGreatW.PrintLast Go.Proofs.YtmenkckgpiafiaaGreatW.PrintMore
attribute [local go_sem] max2_int min2_int max_two min_two max_three min_three max_four min_four
set_option linter.unusedVariables false
set_option linter.unusedSimpArgs false
def impl_attrs.l0 : Nat → List (S89) → Int → Int → Int → Int → Int → Int → Int → Int → Int → List (S266) → Option (Int × Int × Int × Int × Int × Int × Int × (List (S266)))
  | 0, _, _, _, _, _, _, _, _, _, _, _ => none
  | k + 1, x22, x23, x24, x104000, x104001, x104002, x104003, x104004, x104005, x104006, x104007 => if x24 < x23 then (if 0 ≤ x24 then (if x24 < (x22.length : Int) then (if x104007.length < 4398046511104 then (impl_attrs.l0 k x22 x23 (wrap64 (x24 + 1)) x104000 x104001 x104002 x104003 x104004 x104005 x104006 (x104007 ++ [(⟨(rd_T89 x22 x24).f0, (rd_T89 x22 x24).f1⟩ : S266)])) else (none)) else (none)) else (none)) else (some (x104000, x104001, x104002, x104003, x104004, x104005, x104006, x104007))
def impl_attrs.f (k : Nat) (a0_0 : Int) (a0_1 : Int) (a0_2 : Int) (a0_3 : Int) (a0_4 : Int) (a0_5 : Int) (a0_6 : Int) (l0_7 : List (S89)) : Option (Int × Int × Int × Int × Int × Int × Int × (List (S266))) := impl_attrs.l0 k l0_7 (l0_7.length : Int) 0 a0_0 a0_1 a0_2 a0_3 a0_4 a0_5 a0_6 ([] : List (S266))
theorem impl_attrs.mono_l : ∀ k, (∀ y0 y1 y2 y3 y4 y5 y6 y7 y8 y9 y10, LeO (impl_attrs.l0 k y0 y1 y2 y3 y4 y5 y6 y7 y8 y9 y10) (impl_attrs.l0 (k + 1) y0 y1 y2 y3 y4 y5 y6 y7 y8 y9 y10))
  | 0 => fun _ _ _ _ _ _ _ _ _ _ _ r h => by simp [impl_attrs.l0] at h
  | k + 1 => by
    have ih0 := impl_attrs.mono_l k
    · intro y0 y1 y2 y3 y4 y5 y6 y7 y8 y9 y10
      unfold impl_attrs.l0
      repeat' first
      | (with_reducible exact ih0 _ _ _ _ _ _ _ _ _ _ _)
      | (with_reducible exact LeO.refl _)
      | (with_reducible exact LeO.none _)
      | (with_reducible refine LeO.ite ?_ ?_)
      | (with_reducible refine LeO.bind ?_ (fun _ => ?_))
      | exact ih0 _ _ _ _ _ _ _ _ _ _ _
      | exact LeO.none _
      | refine LeO.ite ?_ ?_
      | refine LeO.bind ?_ (fun _ => ?_)
theorem impl_attrs.mono : ∀ a0 a1 a2 a3 a4 a5 a6 a7 k, LeO (impl_attrs.f k a0 a1 a2 a3 a4 a5 a6 a7) (impl_attrs.f (k + 1) a0 a1 a2 a3 a4 a5 a6 a7) := by
  intro a0 a1 a2 a3 a4 a5 a6 a7 k
  have ih0 := impl_attrs.mono_l k
  unfold impl_attrs.f
  repeat' first
      | (with_reducible exact ih0 _ _ _ _ _ _ _ _ _ _ _)
      | (with_reducible exact LeO.refl _)
      | (with_reducible exact LeO.none _)
      | (with_reducible refine LeO.ite ?_ ?_)
      | (with_reducible refine LeO.bind ?_ (fun _ => ?_))
      | exact ih0 _ _ _ _ _ _ _ _ _ _ _
      | exact LeO.none _
      | refine LeO.ite ?_ ?_
      | refine LeO.bind ?_ (fun _ => ?_)
set_option maxHeartbeats 8000000 in
set_option maxRecDepth 100000 in
theorem impl_attrs.calls (k : Nat) (a0_0 : Int) (a0_1 : Int) (a0_2 : Int) (a0_3 : Int) (a0_4 : Int) (a0_5 : Int) (a0_6 : Int) (A0_7 : Option Addr) (c0_7 : Nat) (l0_7 : List (S89)) (r1 : Int) (r2 : Int) (r3 : Int) (r4 : Int) (r5 : Int) (r6 : Int) (r7 : Int) (r8 : List (S266)) (w : World) (hr0_7 : Kd.C k89 w A0_7 l0_7.length l0_7) (hc0_7 : l0_7.length ≤ c0_7) (h : impl_attrs.f k a0_0 a0_1 a0_2 a0_3 a0_4 a0_5 a0_6 l0_7 = some (r1, r2, r3, r4, r5, r6, r7, r8)) :
    Calls Tryz.prog 69 #[.agg #[.int .u32 a0_0, .int .u64 a0_1, .int .u32 a0_2, .int .u32 a0_3, .int .u32 a0_4, .int .u32 a0_5, .int .u32 a0_6, .slice A0_7 l0_7.length c0_7]] w fun e w' => ∃ v7_ : Value, e = .returned (.agg #[.int .u32 r1, .int .u64 r2, .int .u32 r3, .int .u32 r4, .int .u32 r5, .int .u32 r6, .int .u32 r7, v7_]) ∧ Kd.R k266 266 w' w.heap.size (fun _ => True) v7_ r8 ∧ Below w.heap.size w w' := by
  have hu26 := Tryz.underlying26
  have hu139 := Tryz.underlying139
  have hu89 := Tryz.underlying89
  have hu266 := Tryz.underlying266
  have HR0_7 := Aside0.mk hr0_7
  have HC0_7 := Aside0.mk hc0_7
  clear hr0_7 hc0_7
  have HB := Aside0.mk (Below.refl w.heap.size w)
  have H : (impl_attrs.l0 k l0_7 (l0_7.length : Int) 0 a0_0 a0_1 a0_2 a0_3 a0_4 a0_5 a0_6 ([] : List (S266))) = some (r1, r2, r3, r4, r5, r6, r7, r8) := h
  clear h
  have H' := Aside0.mk H
  clear H
  go_enter Tryz.func69, Tryz.ntmps69
  go_wp2_with (first | ((with_reducible refine gate_dst (N := 1) rfl ?_); refine box_event ?hg (N := 1) ?hd (cs := #[.int .u32 a0_0, .int .u64 a0_1, .int .u32 a0_2, .int .u32 a0_3, .int .u32 a0_4, .int .u32 a0_5, .int .u32 a0_6, .slice A0_7 l0_7.length c0_7]) (t := 26) ?hr ?_; (case hd => rfl); (case hg => rfl); (case hr => first | (go_simp; done) | (go_simp; rfl)); intro gb101 hg w2 hbox hb; have n0_ := Aside0.mk (below_step (by repeat (first | (with_reducible first | exact HB.out | apply below_alloc | apply pw_below_drewN | apply below_drew1) | exact HB.out)) hb); have n1_ := Aside0.mk (hbox); have n2_ := Aside0.mk ((by rw [hg]; exact (below_size (by repeat (first | (with_reducible first | exact HB.out | apply below_alloc | apply pw_below_drewN | apply below_drew1) | exact HB.out))) : w.heap.size ≤ gb101)); have n3_ := Aside0.mk ((by rw [hg]; exact (below_size (by repeat (first | (with_reducible first | exact HB.out | apply below_alloc | apply pw_below_drewN | apply below_drew1) | exact HB.out))) : w.heap.size ≤ gb101)); clear HB; have HB := n0_; have BK101 := n1_; have GW101 := n2_; have GE101 := n3_; clear n0_ n1_ n2_ n3_; clear hb hbox hg) | ((with_reducible refine gate_dst (N := 2) rfl ?_); refine box_event ?hg (N := 2) ?hd (cs := #[.int .u32 0, .int .u64 0, .int .u32 0, .int .u32 0, .int .u32 0, .int .u32 0, .int .u32 0, .slice none 0 0]) (t := 139) ?hr ?_; (case hd => rfl); (case hg => rfl); (case hr => first | (go_simp; done) | (go_simp; rfl)); intro gb102 hg w3 hbox hb; have n0_ := Aside0.mk (blk_below (g := gb101) (o := .cells #[.int .u32 a0_0, .int .u64 a0_1, .int .u32 a0_2, .int .u32 a0_3, .int .u32 a0_4, .int .u32 a0_5, .int .u32 a0_6, .slice A0_7 l0_7.length c0_7] 26 (0, 0)) (by (with_reducible repeat (first | refine blk_drewN ?_ _ | refine blk_drew ?_ | refine blk_alloc ?_ _)); exact BK101.out) hb); have n1_ := Aside0.mk (below_step (by repeat (first | (with_reducible first | exact HB.out | apply below_alloc | apply pw_below_drewN | apply below_drew1 | refine below_set ?_ GE101.out) | exact HB.out)) hb); have n2_ := Aside0.mk (hbox); have n3_ := Aside0.mk ((by rw [hg]; exact (below_size (by repeat (first | (with_reducible first | exact HB.out | apply below_alloc | apply pw_below_drewN | apply below_drew1 | refine below_set ?_ GE101.out) | exact HB.out))) : w.heap.size ≤ gb102)); have n4_ := Aside0.mk ((by rw [hg]; exact (below_size (by repeat (first | (with_reducible first | exact HB.out | apply below_alloc | apply pw_below_drewN | apply below_drew1 | refine below_set ?_ GE101.out) | exact HB.out))) : w.heap.size ≤ gb102)); have n5_ := Aside0.mk ((by rw [hg]; exact Nat.ne_of_lt (blk_lt (g := gb101) (o := .cells #[.int .u32 a0_0, .int .u64 a0_1, .int .u32 a0_2, .int .u32 a0_3, .int .u32 a0_4, .int .u32 a0_5, .int .u32 a0_6, .slice A0_7 l0_7.length c0_7] 26 (0, 0)) (by (with_reducible repeat (first | refine blk_drewN ?_ _ | refine blk_drew ?_ | refine blk_alloc ?_ _)); exact BK101.out)) : gb101 ≠ gb102)); have n6_ := Aside0.mk ((by rw [hg]; exact Nat.ne_of_gt (blk_lt (g := gb101) (o := .cells #[.int .u32 a0_0, .int .u64 a0_1, .int .u32 a0_2, .int .u32 a0_3, .int .u32 a0_4, .int .u32 a0_5, .int .u32 a0_6, .slice A0_7 l0_7.length c0_7] 26 (0, 0)) (by (with_reducible repeat (first | refine blk_drewN ?_ _ | refine blk_drew ?_ | refine blk_alloc ?_ _)); exact BK101.out)) : gb102 ≠ gb101)); clear BK101; clear HB; have BK101 := n0_; have HB := n1_; have BK102 := n2_; have GW102 := n3_; have GE102 := n4_; have NB101_102 := n5_; have NB102_101 := n6_; clear n0_ n1_ n2_ n3_ n4_ n5_ n6_; clear hb hbox hg; have hnb4 := NB101_102.out; have hnc4 := NB102_101.out; have hcz5_0 : w3.cell? ⟨gb101, 0, none⟩ = some (.int .u32 a0_0) := (blk_cell BK101.out 0).trans rfl; have hcz5_1 : w3.cell? ⟨gb101, 1, none⟩ = some (.int .u64 a0_1) := (blk_cell BK101.out 1).trans rfl; have hcz5_2 : w3.cell? ⟨gb101, 2, none⟩ = some (.int .u32 a0_2) := (blk_cell BK101.out 2).trans rfl; have hcz5_3 : w3.cell? ⟨gb101, 3, none⟩ = some (.int .u32 a0_3) := (blk_cell BK101.out 3).trans rfl; have hcz5_4 : w3.cell? ⟨gb101, 4, none⟩ = some (.int .u32 a0_4) := (blk_cell BK101.out 4).trans rfl; have hcz5_5 : w3.cell? ⟨gb101, 5, none⟩ = some (.int .u32 a0_5) := (blk_cell BK101.out 5).trans rfl; have hcz5_6 : w3.cell? ⟨gb101, 6, none⟩ = some (.int .u32 a0_6) := (blk_cell BK101.out 6).trans rfl; have hcz5_7 : w3.cell? ⟨gb101, 7, none⟩ = some (.slice A0_7 l0_7.length c0_7) := (blk_cell BK101.out 7).trans rfl; have hfz5_0 := blk_frozen BK101.out 0; have hfz5_1 := blk_frozen BK101.out 1; have hfz5_2 := blk_frozen BK101.out 2; have hfz5_3 := blk_frozen BK101.out 3; have hfz5_4 := blk_frozen BK101.out 4; have hfz5_5 := blk_frozen BK101.out 5; have hfz5_6 := blk_frozen BK101.out 6; have hfz5_7 := blk_frozen BK101.out 7) | ((with_reducible refine gate_dst (N := 3) rfl ?_); refine box_event ?hg (N := 3) ?hd (cs := #[.int .u32 0, .int .u64 0, .int .u32 0, .int .u32 0, .int .u32 0, .int .u32 0, .int .u32 0, .slice none 0 0]) (t := 139) ?hr ?_; (case hd => rfl); (case hg => rfl); (case hr => first | (go_simp; done) | (go_simp; rfl)); intro gb103 hg w6 hbox hb; have n0_ := Aside0.mk (blk_below (g := gb101) (o := .cells #[.int .u32 a0_0, .int .u64 a0_1, .int .u32 a0_2, .int .u32 a0_3, .int .u32 a0_4, .int .u32 a0_5, .int .u32 a0_6, .slice A0_7 l0_7.length c0_7] 26 (0, 0)) (by (with_reducible repeat (first | refine blk_drewN ?_ _ | refine blk_drew ?_ | refine blk_alloc ?_ _)); exact BK101.out) hb); have n1_ := Aside0.mk (blk_below (g := gb102) (o := .cells #[.int .u32 0, .int .u64 0, .int .u32 0, .int .u32 0, .int .u32 0, .int .u32 0, .int .u32 0, .slice none 0 0] 139 (0, 0)) (by (with_reducible repeat (first | refine blk_drewN ?_ _ | refine blk_drew ?_ | refine blk_alloc ?_ _)); exact BK102.out) hb); have n2_ := Aside0.mk (below_step (by repeat (first | (with_reducible first | exact HB.out | apply below_alloc | apply pw_below_drewN | apply below_drew1 | refine below_set ?_ GE101.out | refine below_set ?_ GE102.out) | exact HB.out)) hb); have n3_ := Aside0.mk (hbox); have n4_ := Aside0.mk ((by rw [hg]; exact (below_size (by repeat (first | (with_reducible first | exact HB.out | apply below_alloc | apply pw_below_drewN | apply below_drew1 | refine below_set ?_ GE101.out | refine below_set ?_ GE102.out) | exact HB.out))) : w.heap.size ≤ gb103)); have n5_ := Aside0.mk ((by rw [hg]; exact (below_size (by repeat (first | (with_reducible first | exact HB.out | apply below_alloc | apply pw_below_drewN | apply below_drew1 | refine below_set ?_ GE101.out | refine below_set ?_ GE102.out) | exact HB.out))) : w.heap.size ≤ gb103)); have n6_ := Aside0.mk ((by rw [hg]; exact Nat.ne_of_lt (blk_lt (g := gb101) (o := .cells #[.int .u32 a0_0, .int .u64 a0_1, .int .u32 a0_2, .int .u32 a0_3, .int .u32 a0_4, .int .u32 a0_5, .int .u32 a0_6, .slice A0_7 l0_7.length c0_7] 26 (0, 0)) (by (with_reducible repeat (first | refine blk_drewN ?_ _ | refine blk_drew ?_ | refine blk_alloc ?_ _)); exact BK101.out)) : gb101 ≠ gb103)); have n7_ := Aside0.mk ((by rw [hg]; exact Nat.ne_of_gt (blk_lt (g := gb101) (o := .cells #[.int .u32 a0_0, .int .u64 a0_1, .int .u32 a0_2, .int .u32 a0_3, .int .u32 a0_4, .int .u32 a0_5, .int .u32 a0_6, .slice A0_7 l0_7.length c0_7] 26 (0, 0)) (by (with_reducible repeat (first | refine blk_drewN ?_ _ | refine blk_drew ?_ | refine blk_alloc ?_ _)); exact BK101.out)) : gb103 ≠ gb101)); have n8_ := Aside0.mk ((by rw [hg]; exact Nat.ne_of_lt (blk_lt (g := gb102) (o := .cells #[.int .u32 0, .int .u64 0, .int .u32 0, .int .u32 0, .int .u32 0, .int .u32 0, .int .u32 0, .slice none 0 0] 139 (0, 0)) (by (with_reducible repeat (first | refine blk_drewN ?_ _ | refine blk_drew ?_ | refine blk_alloc ?_ _)); exact BK102.out)) : gb102 ≠ gb103)); have n9_ := Aside0.mk ((by rw [hg]; exact Nat.ne_of_gt (blk_lt (g := gb102) (o := .cells #[.int .u32 0, .int .u64 0, .int .u32 0, .int .u32 0, .int .u32 0, .int .u32 0, .int .u32 0, .slice none 0 0] 139 (0, 0)) (by (with_reducible repeat (first | refine blk_drewN ?_ _ | refine blk_drew ?_ | refine blk_alloc ?_ _)); exact BK102.out)) : gb103 ≠ gb102)); clear BK101; clear BK102; clear HB; have BK101 := n0_; have BK102 := n1_; have HB := n2_; have BK103 := n3_; have GW103 := n4_; have GE103 := n5_; have NB101_103 := n6_; have NB103_101 := n7_; have NB102_103 := n8_; have NB103_102 := n9_; clear n0_ n1_ n2_ n3_ n4_ n5_ n6_ n7_ n8_ n9_; clear hb hbox hg; have hnb7 := NB103_101.out; have hnc7 := NB101_103.out; have hnb8 := NB103_102.out; have hnc8 := NB102_103.out; have hcz9_0 : w6.cell? ⟨gb103, 0, none⟩ = some (.int .u32 0) := (blk_cell BK103.out 0).trans rfl; have hcz9_1 : w6.cell? ⟨gb103, 1, none⟩ = some (.int .u64 0) := (blk_cell BK103.out 1).trans rfl; have hcz9_2 : w6.cell? ⟨gb103, 2, none⟩ = some (.int .u32 0) := (blk_cell BK103.out 2).trans rfl; have hcz9_3 : w6.cell? ⟨gb103, 3, none⟩ = some (.int .u32 0) := (blk_cell BK103.out 3).trans rfl; have hcz9_4 : w6.cell? ⟨gb103, 4, none⟩ = some (.int .u32 0) := (blk_cell BK103.out 4).trans rfl; have hcz9_5 : w6.cell? ⟨gb103, 5, none⟩ = some (.int .u32 0) := (blk_cell BK103.out 5).trans rfl; have hcz9_6 : w6.cell? ⟨gb103, 6, none⟩ = some (.int .u32 0) := (blk_cell BK103.out 6).trans rfl; have hcz9_7 : w6.cell? ⟨gb103, 7, none⟩ = some (.slice none 0 0) := (blk_cell BK103.out 7).trans rfl; have hfz9_0 := blk_frozen BK103.out 0; have hfz9_1 := blk_frozen BK103.out 1; have hfz9_2 := blk_frozen BK103.out 2; have hfz9_3 := blk_frozen BK103.out 3; have hfz9_4 := blk_frozen BK103.out 4; have hfz9_5 := blk_frozen BK103.out 5; have hfz9_6 := blk_frozen BK103.out 6; have hfz9_7 := blk_frozen BK103.out 7; have hcz10_0 : w6.cell? ⟨gb101, 0, none⟩ = some (.int .u32 a0_0) := (blk_cell BK101.out 0).trans rfl; have hcz10_1 : w6.cell? ⟨gb101, 1, none⟩ = some (.int .u64 a0_1) := (blk_cell BK101.out 1).trans rfl; have hcz10_2 : w6.cell? ⟨gb101, 2, none⟩ = some (.int .u32 a0_2) := (blk_cell BK101.out 2).trans rfl; have hcz10_3 : w6.cell? ⟨gb101, 3, none⟩ = some (.int .u32 a0_3) := (blk_cell BK101.out 3).trans rfl; have hcz10_4 : w6.cell? ⟨gb101, 4, none⟩ = some (.int .u32 a0_4) := (blk_cell BK101.out 4).trans rfl; have hcz10_5 : w6.cell? ⟨gb101, 5, none⟩ = some (.int .u32 a0_5) := (blk_cell BK101.out 5).trans rfl; have hcz10_6 : w6.cell? ⟨gb101, 6, none⟩ = some (.int .u32 a0_6) := (blk_cell BK101.out 6).trans rfl; have hcz10_7 : w6.cell? ⟨gb101, 7, none⟩ = some (.slice A0_7 l0_7.length c0_7) := (blk_cell BK101.out 7).trans rfl; have hfz10_0 := blk_frozen BK101.out 0; have hfz10_1 := blk_frozen BK101.out 1; have hfz10_2 := blk_frozen BK101.out 2; have hfz10_3 := blk_frozen BK101.out 3; have hfz10_4 := blk_frozen BK101.out 4; have hfz10_5 := blk_frozen BK101.out 5; have hfz10_6 := blk_frozen BK101.out 6; have hfz10_7 := blk_frozen BK101.out 7))
  go_loopg [24] k (fun kq v24 w' => ∃ (x24_1 : Int) (x104007_1 : List (S266)) (u104007 : Value), v24 = .int .i64 x24_1 ∧ Aside0 (impl_attrs.l0 kq l0_7 (l0_7.length : Int) x24_1 a0_0 a0_1 a0_2 a0_3 a0_4 a0_5 a0_6 x104007_1 = some (r1, r2, r3, r4, r5, r6, r7, r8)) ∧ Aside0 (kq ≤ k) ∧ Aside0 (Kd.R k266 266 w' w.heap.size (fun _ => True) u104007 x104007_1) ∧ Aside0 (w'.heap[gb101]? = some (.cells #[.int .u32 a0_0, .int .u64 a0_1, .int .u32 a0_2, .int .u32 a0_3, .int .u32 a0_4, .int .u32 a0_5, .int .u32 a0_6, (.slice A0_7 l0_7.length c0_7)] 26 (0, 0))) ∧ Aside0 (w'.heap[gb102]? = some (.cells #[.int .u32 0, .int .u64 0, .int .u32 0, .int .u32 0, .int .u32 0, .int .u32 0, .int .u32 0, (.slice none 0 0)] 139 (0, 0))) ∧ Aside0 (w'.heap[gb103]? = some (.cells #[.int .u32 a0_0, .int .u64 a0_1, .int .u32 a0_2, .int .u32 a0_3, .int .u32 a0_4, .int .u32 a0_5, .int .u32 a0_6, u104007] 139 (0, 0))) ∧ Aside0 (Below w.heap.size w w'))
  case atStart => exact ⟨(0), (([] : List (S266))), (.slice none 0 0), (by first | rfl | (simp; done) | (simp [*]; done)), H', ⟨Nat.le_refl _⟩, ⟨by first | exact Kd.R_nil _ _ _ _ _ | exact Kd.N_nil _ _ _ _ _ | exact Kd.V_nil _ _ _ _ _ | exact Kd.Q_nil _ _ _ _ _ | exact Kd.S_nil _ _ _ _ _⟩, ⟨by (with_reducible repeat (first | refine blk_drewN ?_ _ | refine blk_drew ?_ | refine blk_alloc ?_ _)); refine blk_far ?_ NB101_103.out _; (with_reducible repeat (first | refine blk_drewN ?_ _ | refine blk_drew ?_ | refine blk_alloc ?_ _)); refine blk_far ?_ NB101_103.out _; (with_reducible repeat (first | refine blk_drewN ?_ _ | refine blk_drew ?_ | refine blk_alloc ?_ _)); refine blk_far ?_ NB101_103.out _; (with_reducible repeat (first | refine blk_drewN ?_ _ | refine blk_drew ?_ | refine blk_alloc ?_ _)); refine blk_far ?_ NB101_103.out _; (with_reducible repeat (first | refine blk_drewN ?_ _ | refine blk_drew ?_ | refine blk_alloc ?_ _)); refine blk_far ?_ NB101_103.out _; (with_reducible repeat (first | refine blk_drewN ?_ _ | refine blk_drew ?_ | refine blk_alloc ?_ _)); refine blk_far ?_ NB101_103.out _; (with_reducible repeat (first | refine blk_drewN ?_ _ | refine blk_drew ?_ | refine blk_alloc ?_ _)); refine blk_far ?_ NB101_103.out _; (with_reducible repeat (first | refine blk_drewN ?_ _ | refine blk_drew ?_ | refine blk_alloc ?_ _)); refine blk_far ?_ NB101_103.out _; (with_reducible repeat (first | refine blk_drewN ?_ _ | refine blk_drew ?_ | refine blk_alloc ?_ _)); exact BK101.out⟩, ⟨by (with_reducible repeat (first | refine blk_drewN ?_ _ | refine blk_drew ?_ | refine blk_alloc ?_ _)); refine blk_far ?_ NB102_103.out _; (with_reducible repeat (first | refine blk_drewN ?_ _ | refine blk_drew ?_ | refine blk_alloc ?_ _)); refine blk_far ?_ NB102_103.out _; (with_reducible repeat (first | refine blk_drewN ?_ _ | refine blk_drew ?_ | refine blk_alloc ?_ _)); refine blk_far ?_ NB102_103.out _; (with_reducible repeat (first | refine blk_drewN ?_ _ | refine blk_drew ?_ | refine blk_alloc ?_ _)); refine blk_far ?_ NB102_103.out _; (with_reducible repeat (first | refine blk_drewN ?_ _ | refine blk_drew ?_ | refine blk_alloc ?_ _)); refine blk_far ?_ NB102_103.out _; (with_reducible repeat (first | refine blk_drewN ?_ _ | refine blk_drew ?_ | refine blk_alloc ?_ _)); refine blk_far ?_ NB102_103.out _; (with_reducible repeat (first | refine blk_drewN ?_ _ | refine blk_drew ?_ | refine blk_alloc ?_ _)); refine blk_far ?_ NB102_103.out _; (with_reducible repeat (first | refine blk_drewN ?_ _ | refine blk_drew ?_ | refine blk_alloc ?_ _)); refine blk_far ?_ NB102_103.out _; (with_reducible repeat (first | refine blk_drewN ?_ _ | refine blk_drew ?_ | refine blk_alloc ?_ _)); exact BK102.out⟩, ⟨by (with_reducible repeat (first | refine blk_drewN ?_ _ | refine blk_drew ?_ | refine blk_alloc ?_ _)); refine blk_put (cs := #[.int .u32 a0_0, .int .u64 a0_1, .int .u32 a0_2, .int .u32 a0_3, .int .u32 a0_4, .int .u32 a0_5, .int .u32 a0_6, .slice none 0 0]) ?_ 7 _ rfl; (with_reducible repeat (first | refine blk_drewN ?_ _ | refine blk_drew ?_ | refine blk_alloc ?_ _)); refine blk_put (cs := #[.int .u32 a0_0, .int .u64 a0_1, .int .u32 a0_2, .int .u32 a0_3, .int .u32 a0_4, .int .u32 a0_5, .int .u32 0, .slice none 0 0]) ?_ 6 _ rfl; (with_reducible repeat (first | refine blk_drewN ?_ _ | refine blk_drew ?_ | refine blk_alloc ?_ _)); refine blk_put (cs := #[.int .u32 a0_0, .int .u64 a0_1, .int .u32 a0_2, .int .u32 a0_3, .int .u32 a0_4, .int .u32 0, .int .u32 0, .slice none 0 0]) ?_ 5 _ rfl; (with_reducible repeat (first | refine blk_drewN ?_ _ | refine blk_drew ?_ | refine blk_alloc ?_ _)); refine blk_put (cs := #[.int .u32 a0_0, .int .u64 a0_1, .int .u32 a0_2, .int .u32 a0_3, .int .u32 0, .int .u32 0, .int .u32 0, .slice none 0 0]) ?_ 4 _ rfl; (with_reducible repeat (first | refine blk_drewN ?_ _ | refine blk_drew ?_ | refine blk_alloc ?_ _)); refine blk_put (cs := #[.int .u32 a0_0, .int .u64 a0_1, .int .u32 a0_2, .int .u32 0, .int .u32 0, .int .u32 0, .int .u32 0, .slice none 0 0]) ?_ 3 _ rfl; (with_reducible repeat (first | refine blk_drewN ?_ _ | refine blk_drew ?_ | refine blk_alloc ?_ _)); refine blk_put (cs := #[.int .u32 a0_0, .int .u64 a0_1, .int .u32 0, .int .u32 0, .int .u32 0, .int .u32 0, .int .u32 0, .slice none 0 0]) ?_ 2 _ rfl; (with_reducible repeat (first | refine blk_drewN ?_ _ | refine blk_drew ?_ | refine blk_alloc ?_ _)); refine blk_put (cs := #[.int .u32 a0_0, .int .u64 0, .int .u32 0, .int .u32 0, .int .u32 0, .int .u32 0, .int .u32 0, .slice none 0 0]) ?_ 1 _ rfl; (with_reducible repeat (first | refine blk_drewN ?_ _ | refine blk_drew ?_ | refine blk_alloc ?_ _)); refine blk_put (cs := #[.int .u32 0, .int .u64 0, .int .u32 0, .int .u32 0, .int .u32 0, .int .u32 0, .int .u32 0, .slice none 0 0]) ?_ 0 _ rfl; (with_reducible repeat (first | refine blk_drewN ?_ _ | refine blk_drew ?_ | refine blk_alloc ?_ _)); exact BK103.out⟩, ⟨by repeat (first | (with_reducible first | exact HB.out | apply below_alloc | apply pw_below_drewN | apply below_drew1 | refine below_set ?_ GE101.out | refine below_set ?_ GE102.out | refine below_set ?_ GE103.out) | exact HB.out)⟩⟩
  case round =>
    clear H'
    try clear p2
    try clear c4
    try clear c6
    try clear c7
    try clear c8
    try clear hcz10_0
    try clear hcz10_1
    try clear hcz10_2
    try clear hcz10_3
    try clear hcz10_4
    try clear hcz10_5
    try clear hcz10_6
    try clear hcz10_7
    try clear hcz5_0
    try clear hcz5_1
    try clear hcz5_2
    try clear hcz5_3
    try clear hcz5_4
    try clear hcz5_5
    try clear hcz5_6
    try clear hcz5_7
    try clear hcz9_0
    try clear hcz9_1
    try clear hcz9_2
    try clear hcz9_3
    try clear hcz9_4
    try clear hcz9_5
    try clear hcz9_6
    try clear hcz9_7
    try clear hfz10_0
    try clear hfz10_1
    try clear hfz10_2
    try clear hfz10_3
    try clear hfz10_4
    try clear hfz10_5
    try clear hfz10_6
    try clear hfz10_7
    try clear hfz5_0
    try clear hfz5_1
    try clear hfz5_2
    try clear hfz5_3
    try clear hfz5_4
    try clear hfz5_5
    try clear hfz5_6
    try clear hfz5_7
    try clear hfz9_0
    try clear hfz9_1
    try clear hfz9_2
    try clear hfz9_3
    try clear hfz9_4
    try clear hfz9_5
    try clear hfz9_6
    try clear hfz9_7
    obtain ⟨x24_1, x104007_1, u104007, rfl, HA, HK1, HO_104007, BK101, BK102, BK103, HB⟩ := hrel
    cases gk with
    | zero => exact absurd HA.out (by simp [impl_attrs.l0])
    | succ k1 =>
      have H := HA.out
      clear HA
      simp only [impl_attrs.l0] at H
      by_cases c11 : x24_1 < (l0_7.length : Int)
      · rw [if_pos c11] at H
        have c11b0 : decide (x24_1 < (l0_7.length : Int)) = true := decide_eq_true c11
        clear c11
        by_cases c12 : 0 ≤ x24_1
        · rw [if_pos c12] at H
          have c12b0 : decide (0 ≤ x24_1) = true := decide_eq_true c12
          clear c12
          by_cases c13 : x24_1 < (l0_7.length : Int)
          · rw [if_pos c13] at H
            have c13b0 : decide (x24_1 < (l0_7.length : Int)) = true := decide_eq_true c13
            clear c13
            by_cases c14 : x104007_1.length < 4398046511104
            · rw [if_pos c14] at H
              have LMc14 := Aside0.mk c14
              clear c14
              obtain ⟨y106, hy106⟩ : ∃ y_ : List (S266), y_ = (x104007_1 ++ [(⟨(rd_T89 l0_7 x24_1).f0, (rd_T89 l0_7 x24_1).f1⟩ : S266)]) := ⟨_, rfl⟩
              replace H : (impl_attrs.l0 k1 l0_7 (l0_7.length : Int) (wrap64 (x24_1 + 1)) a0_0 a0_1 a0_2 a0_3 a0_4 a0_5 a0_6 y106) = some (r1, r2, r3, r4, r5, r6, r7, r8) := by first | (rw [hy106]; with_reducible exact H) | (have H2_ := (Option.bind_some _ _).symm.trans H; rw [hy106]; with_reducible exact H2_) | (have H2_ := (Option.bind_some _ _).symm.trans H; with_reducible exact H2_) | with_reducible exact H | (rw [hy106]; exact H) | exact H
              have Ny106 := Aside0.mk hy106
              clear hy106
              have H' := Aside0.mk H
              clear H
              have p104 : 0 ≤ (x24_1 : Int) := of_decide_eq_true (by first | (with_reducible assumption) | assumption)
              have q104 : x24_1 < (l0_7.length : Int) := of_decide_eq_true (by first | (with_reducible assumption) | assumption)
              obtain ⟨ad104, e104, hx104_0, hx104_1⟩ := at_T89 HR0_7.out x24_1 p104 q104
              cases e104
              replace hx104_0 := (HB.out.cell (World.block_lt_of_cell? w _ hx104_0)).trans hx104_0
              replace hx104_1 := (HB.out.cell (World.block_lt_of_cell? w _ hx104_1)).trans hx104_1
              replace p104 := eq_true p104
              replace q104 := eq_true q104
              go_wp2_with (first | ((with_reducible refine gate_dst (N := 5) rfl ?_); refine box_event ?hg (N := 5) ?hd (cs := #[.string (⟨#[]⟩ : ByteArray), .string (⟨#[]⟩ : ByteArray)]) (t := 89) ?hr ?_; (case hd => rfl); (case hg => rfl); (case hr => first | (go_simp; done) | (go_simp; rfl)); intro gb105 hg w15 hbox hb; have n0_ := Aside0.mk (Kd.R_below (by (with_reducible repeat (first | apply Kd.R_alloc | apply Kd.R_drewN | apply Kd.R_drew)); exact HO_104007.out) hb); have n1_ := Aside0.mk (blk_below (g := gb101) (o := .cells #[.int .u32 a0_0, .int .u64 a0_1, .int .u32 a0_2, .int .u32 a0_3, .int .u32 a0_4, .int .u32 a0_5, .int .u32 a0_6, .slice (some ad104) l0_7.length c0_7] 26 (0, 0)) (by (with_reducible repeat (first | refine blk_drewN ?_ _ | refine blk_drew ?_ | refine blk_alloc ?_ _)); exact BK101.out) hb); have n2_ := Aside0.mk (blk_below (g := gb102) (o := .cells #[.int .u32 0, .int .u64 0, .int .u32 0, .int .u32 0, .int .u32 0, .int .u32 0, .int .u32 0, .slice none 0 0] 139 (0, 0)) (by (with_reducible repeat (first | refine blk_drewN ?_ _ | refine blk_drew ?_ | refine blk_alloc ?_ _)); exact BK102.out) hb); have n3_ := Aside0.mk (blk_below (g := gb103) (o := .cells #[.int .u32 a0_0, .int .u64 a0_1, .int .u32 a0_2, .int .u32 a0_3, .int .u32 a0_4, .int .u32 a0_5, .int .u32 a0_6, u104007] 139 (0, 0)) (by (with_reducible repeat (first | refine blk_drewN ?_ _ | refine blk_drew ?_ | refine blk_alloc ?_ _)); exact BK103.out) hb); have n4_ := Aside0.mk (below_step (by repeat (first | (with_reducible first | exact HB.out | apply below_alloc | apply pw_below_drewN | apply below_drew1 | refine below_set ?_ GE101.out | refine below_set ?_ GE102.out | refine below_set ?_ GE103.out) | exact HB.out)) hb); have n5_ := Aside0.mk (hbox); have n6_ := Aside0.mk ((by rw [hg]; exact (below_size (by repeat (first | (with_reducible first | exact HB.out | apply below_alloc | apply pw_below_drewN | apply below_drew1 | refine below_set ?_ GE101.out | refine below_set ?_ GE102.out | refine below_set ?_ GE103.out) | exact HB.out))) : w.heap.size ≤ gb105)); have n7_ := Aside0.mk ((by rw [hg]; exact (below_size (by repeat (first | (with_reducible first | exact HB.out | apply below_alloc | apply pw_below_drewN | apply below_drew1 | refine below_set ?_ GE101.out | refine below_set ?_ GE102.out | refine below_set ?_ GE103.out) | exact HB.out))) : w.heap.size ≤ gb105)); have n8_ := Aside0.mk ((by rw [hg]; exact Nat.ne_of_lt (blk_lt (g := gb101) (o := .cells #[.int .u32 a0_0, .int .u64 a0_1, .int .u32 a0_2, .int .u32 a0_3, .int .u32 a0_4, .int .u32 a0_5, .int .u32 a0_6, .slice (some ad104) l0_7.length c0_7] 26 (0, 0)) (by (with_reducible repeat (first | refine blk_drewN ?_ _ | refine blk_drew ?_ | refine blk_alloc ?_ _)); exact BK101.out)) : gb101 ≠ gb105)); have n9_ := Aside0.mk ((by rw [hg]; exact Nat.ne_of_gt (blk_lt (g := gb101) (o := .cells #[.int .u32 a0_0, .int .u64 a0_1, .int .u32 a0_2, .int .u32 a0_3, .int .u32 a0_4, .int .u32 a0_5, .int .u32 a0_6, .slice (some ad104) l0_7.length c0_7] 26 (0, 0)) (by (with_reducible repeat (first | refine blk_drewN ?_ _ | refine blk_drew ?_ | refine blk_alloc ?_ _)); exact BK101.out)) : gb105 ≠ gb101)); have n10_ := Aside0.mk ((by rw [hg]; exact Nat.ne_of_lt (blk_lt (g := gb102) (o := .cells #[.int .u32 0, .int .u64 0, .int .u32 0, .int .u32 0, .int .u32 0, .int .u32 0, .int .u32 0, .slice none 0 0] 139 (0, 0)) (by (with_reducible repeat (first | refine blk_drewN ?_ _ | refine blk_drew ?_ | refine blk_alloc ?_ _)); exact BK102.out)) : gb102 ≠ gb105)); have n11_ := Aside0.mk ((by rw [hg]; exact Nat.ne_of_gt (blk_lt (g := gb102) (o := .cells #[.int .u32 0, .int .u64 0, .int .u32 0, .int .u32 0, .int .u32 0, .int .u32 0, .int .u32 0, .slice none 0 0] 139 (0, 0)) (by (with_reducible repeat (first | refine blk_drewN ?_ _ | refine blk_drew ?_ | refine blk_alloc ?_ _)); exact BK102.out)) : gb105 ≠ gb102)); have n12_ := Aside0.mk ((by rw [hg]; exact Nat.ne_of_lt (blk_lt (g := gb103) (o := .cells #[.int .u32 a0_0, .int .u64 a0_1, .int .u32 a0_2, .int .u32 a0_3, .int .u32 a0_4, .int .u32 a0_5, .int .u32 a0_6, u104007] 139 (0, 0)) (by (with_reducible repeat (first | refine blk_drewN ?_ _ | refine blk_drew ?_ | refine blk_alloc ?_ _)); exact BK103.out)) : gb103 ≠ gb105)); have n13_ := Aside0.mk ((by rw [hg]; exact Nat.ne_of_gt (blk_lt (g := gb103) (o := .cells #[.int .u32 a0_0, .int .u64 a0_1, .int .u32 a0_2, .int .u32 a0_3, .int .u32 a0_4, .int .u32 a0_5, .int .u32 a0_6, u104007] 139 (0, 0)) (by (with_reducible repeat (first | refine blk_drewN ?_ _ | refine blk_drew ?_ | refine blk_alloc ?_ _)); exact BK103.out)) : gb105 ≠ gb103)); clear HO_104007; clear BK101; clear BK102; clear BK103; clear HB; have HO_104007 := n0_; have BK101 := n1_; have BK102 := n2_; have BK103 := n3_; have HB := n4_; have BK105 := n5_; have GW105 := n6_; have GE105 := n7_; have NB101_105 := n8_; have NB105_101 := n9_; have NB102_105 := n10_; have NB105_102 := n11_; have NB103_105 := n12_; have NB105_103 := n13_; clear n0_ n1_ n2_ n3_ n4_ n5_ n6_ n7_ n8_ n9_ n10_ n11_ n12_ n13_; clear hb hbox hg; have hnb16 := NB105_101.out; have hnc16 := NB101_105.out; have hnb17 := NB105_102.out; have hnc17 := NB102_105.out; have hnb18 := NB105_103.out; have hnc18 := NB103_105.out; have hcz19_0 : w15.cell? ⟨gb105, 0, none⟩ = some (.string (⟨#[]⟩ : ByteArray)) := (blk_cell BK105.out 0).trans rfl; have hcz19_1 : w15.cell? ⟨gb105, 1, none⟩ = some (.string (⟨#[]⟩ : ByteArray)) := (blk_cell BK105.out 1).trans rfl; have hfz19_0 := blk_frozen BK105.out 0; have hfz19_1 := blk_frozen BK105.out 1; have hnb20 := NB103_101.out; have hnc20 := NB101_103.out; have hnb21 := NB103_102.out; have hnc21 := NB102_103.out; have hcz22_0 : w15.cell? ⟨gb103, 0, none⟩ = some (.int .u32 a0_0) := (blk_cell BK103.out 0).trans rfl; have hcz22_1 : w15.cell? ⟨gb103, 1, none⟩ = some (.int .u64 a0_1) := (blk_cell BK103.out 1).trans rfl; have hcz22_2 : w15.cell? ⟨gb103, 2, none⟩ = some (.int .u32 a0_2) := (blk_cell BK103.out 2).trans rfl; have hcz22_3 : w15.cell? ⟨gb103, 3, none⟩ = some (.int .u32 a0_3) := (blk_cell BK103.out 3).trans rfl; have hcz22_4 : w15.cell? ⟨gb103, 4, none⟩ = some (.int .u32 a0_4) := (blk_cell BK103.out 4).trans rfl; have hcz22_5 : w15.cell? ⟨gb103, 5, none⟩ = some (.int .u32 a0_5) := (blk_cell BK103.out 5).trans rfl; have hcz22_6 : w15.cell? ⟨gb103, 6, none⟩ = some (.int .u32 a0_6) := (blk_cell BK103.out 6).trans rfl; have hcz22_7 : w15.cell? ⟨gb103, 7, none⟩ = some (u104007) := (blk_cell BK103.out 7).trans rfl; have hfz22_0 := blk_frozen BK103.out 0; have hfz22_1 := blk_frozen BK103.out 1; have hfz22_2 := blk_frozen BK103.out 2; have hfz22_3 := blk_frozen BK103.out 3; have hfz22_4 := blk_frozen BK103.out 4; have hfz22_5 := blk_frozen BK103.out 5; have hfz22_6 := blk_frozen BK103.out 6; have hfz22_7 := blk_frozen BK103.out 7) | ((with_reducible refine gate_builtin (b := .append) (xs := #[.tmp 29, .tmp 35]) rfl ?_); at_builtin; refine Kd.R_append k266 (w0 := w) w.heap.size rfl (.tmp 29) (.tmp 35) 137 266 (.agg #[(.string ⟨#[]⟩), (.string ⟨#[]⟩)]) 32 rfl Tryz.underlying137 info266 rfl (by decide) (by omega) u104007 x104007_1 (⟨(rd_T89 l0_7 x24_1).f0, (rd_T89 l0_7 x24_1).f1⟩ : S266) [.string ((rd_T89 l0_7 x24_1).f0), .string ((rd_T89 l0_7 x24_1).f1)] (fun _ => True) (fun _ => False) rfl (by first | (go_simp; done) | (go_simp; rfl)) ?aP (fun _ hk => hk.elim) ?aF ?aO ?aB ?aS ?aL ?_; (case aP => exact k266_mkM _ _ _ (⟨(rd_T89 l0_7 x24_1).f0, (rd_T89 l0_7 x24_1).f1⟩ : S266)); (case aB => exact (by repeat (first | (with_reducible first | exact HB.out | apply below_alloc | apply pw_below_drewN | apply below_drew1 | refine below_set ?_ GE101.out | refine below_set ?_ GE102.out | refine below_set ?_ GE103.out | refine below_set ?_ GE105.out) | exact HB.out))); (case aF => exact (fun _ _ => trivial)); (case aO => exact (by (with_reducible repeat (first | apply Kd.R_alloc | apply Kd.R_drewN | apply Kd.R_drew)); exact Kd.R_mono (Kd.R_far (p := ⟨gb105, 1, none⟩) (Kd.R_far (p := ⟨gb105, 0, none⟩) (Kd.R_types HO_104007.out BK105.out (by decide)) (fun _ hk => hk.2) (.string ((rd_T89 l0_7 x24_1).f0))) (fun _ hk => hk.2) (.string ((rd_T89 l0_7 x24_1).f1))) (fun _ hk => trivial))); (case aS => exact (below_size (by repeat (first | (with_reducible first | exact HB.out | apply below_alloc | apply pw_below_drewN | apply below_drew1 | refine below_set ?_ GE101.out | refine below_set ?_ GE102.out | refine below_set ?_ GE103.out | refine below_set ?_ GE105.out) | exact HB.out)))); (case aL => have := LMc14.out; omega); intro v107 w23 ho hb hg hat; rw [← Ny106.out] at ho; have n0_ := Aside0.mk (blk_grown (g := gb101) (o := .cells #[.int .u32 a0_0, .int .u64 a0_1, .int .u32 a0_2, .int .u32 a0_3, .int .u32 a0_4, .int .u32 a0_5, .int .u32 a0_6, .slice (some ad104) l0_7.length c0_7] 26 (0, 0)) (by (with_reducible repeat (first | refine blk_drewN ?_ _ | refine blk_drew ?_ | refine blk_alloc ?_ _)); refine blk_far ?_ NB101_105.out _; (with_reducible repeat (first | refine blk_drewN ?_ _ | refine blk_drew ?_ | refine blk_alloc ?_ _)); refine blk_far ?_ NB101_105.out _; (with_reducible repeat (first | refine blk_drewN ?_ _ | refine blk_drew ?_ | refine blk_alloc ?_ _)); exact BK101.out) hg (Kd.R_ne HO_104007.out BK101.out (by decide))); have n1_ := Aside0.mk (blk_grown (g := gb102) (o := .cells #[.int .u32 0, .int .u64 0, .int .u32 0, .int .u32 0, .int .u32 0, .int .u32 0, .int .u32 0, .slice none 0 0] 139 (0, 0)) (by (with_reducible repeat (first | refine blk_drewN ?_ _ | refine blk_drew ?_ | refine blk_alloc ?_ _)); refine blk_far ?_ NB102_105.out _; (with_reducible repeat (first | refine blk_drewN ?_ _ | refine blk_drew ?_ | refine blk_alloc ?_ _)); refine blk_far ?_ NB102_105.out _; (with_reducible repeat (first | refine blk_drewN ?_ _ | refine blk_drew ?_ | refine blk_alloc ?_ _)); exact BK102.out) hg (Kd.R_ne HO_104007.out BK102.out (by decide))); have n2_ := Aside0.mk (blk_grown (g := gb103) (o := .cells #[.int .u32 a0_0, .int .u64 a0_1, .int .u32 a0_2, .int .u32 a0_3, .int .u32 a0_4, .int .u32 a0_5, .int .u32 a0_6, u104007] 139 (0, 0)) (by (with_reducible repeat (first | refine blk_drewN ?_ _ | refine blk_drew ?_ | refine blk_alloc ?_ _)); refine blk_far ?_ NB103_105.out _; (with_reducible repeat (first | refine blk_drewN ?_ _ | refine blk_drew ?_ | refine blk_alloc ?_ _)); refine blk_far ?_ NB103_105.out _; (with_reducible repeat (first | refine blk_drewN ?_ _ | refine blk_drew ?_ | refine blk_alloc ?_ _)); exact BK103.out) hg (Kd.R_ne HO_104007.out BK103.out (by decide))); have n3_ := Aside0.mk (blk_grown (g := gb105) (o := .cells #[.string ((rd_T89 l0_7 x24_1).f0), .string ((rd_T89 l0_7 x24_1).f1)] 89 (0, 0)) (by (with_reducible repeat (first | refine blk_drewN ?_ _ | refine blk_drew ?_ | refine blk_alloc ?_ _)); refine blk_put (cs := #[.string ((rd_T89 l0_7 x24_1).f0), .string (⟨#[]⟩ : ByteArray)]) ?_ 1 _ rfl; (with_reducible repeat (first | refine blk_drewN ?_ _ | refine blk_drew ?_ | refine blk_alloc ?_ _)); refine blk_put (cs := #[.string (⟨#[]⟩ : ByteArray), .string (⟨#[]⟩ : ByteArray)]) ?_ 0 _ rfl; (with_reducible repeat (first | refine blk_drewN ?_ _ | refine blk_drew ?_ | refine blk_alloc ?_ _)); exact BK105.out) hg (Kd.R_ne HO_104007.out BK105.out (by decide))); have n4_ := Aside0.mk (hb); have n5_ := Aside0.mk (ho); clear BK101; clear BK102; clear BK103; clear BK105; clear HB; clear HO_104007; have BK101 := n0_; have BK102 := n1_; have BK103 := n2_; have BK105 := n3_; have HB := n4_; have HO108 := n5_; clear n0_ n1_ n2_ n3_ n4_ n5_; clear ho hb hg hat; obtain ⟨Ao24, co24, eo24⟩ := Kd.R_slice HO108.out; subst eo24; have hcz25_0 : w23.cell? ⟨gb103, 0, none⟩ = some (.int .u32 a0_0) := (blk_cell BK103.out 0).trans rfl; have hcz25_1 : w23.cell? ⟨gb103, 1, none⟩ = some (.int .u64 a0_1) := (blk_cell BK103.out 1).trans rfl; have hcz25_2 : w23.cell? ⟨gb103, 2, none⟩ = some (.int .u32 a0_2) := (blk_cell BK103.out 2).trans rfl; have hcz25_3 : w23.cell? ⟨gb103, 3, none⟩ = some (.int .u32 a0_3) := (blk_cell BK103.out 3).trans rfl; have hcz25_4 : w23.cell? ⟨gb103, 4, none⟩ = some (.int .u32 a0_4) := (blk_cell BK103.out 4).trans rfl; have hcz25_5 : w23.cell? ⟨gb103, 5, none⟩ = some (.int .u32 a0_5) := (blk_cell BK103.out 5).trans rfl; have hcz25_6 : w23.cell? ⟨gb103, 6, none⟩ = some (.int .u32 a0_6) := (blk_cell BK103.out 6).trans rfl; have hcz25_7 : w23.cell? ⟨gb103, 7, none⟩ = some (u104007) := (blk_cell BK103.out 7).trans rfl; have hfz25_0 := blk_frozen BK103.out 0; have hfz25_1 := blk_frozen BK103.out 1; have hfz25_2 := blk_frozen BK103.out 2; have hfz25_3 := blk_frozen BK103.out 3; have hfz25_4 := blk_frozen BK103.out 4; have hfz25_5 := blk_frozen BK103.out 5; have hfz25_6 := blk_frozen BK103.out 6; have hfz25_7 := blk_frozen BK103.out 7))
              go_roundg k1
              case measure => have := HK1.out; omega
              case rel => exact ⟨(wrap64 (x24_1 + 1)), (y106), (.slice Ao24 y106.length co24), (by first | rfl | (simp; done) | (simp [*]; done)), H', ⟨by have := HK1.out; omega⟩, ⟨by (with_reducible repeat (first | apply Kd.R_alloc | apply Kd.R_drewN | apply Kd.R_drew)); exact Kd.R_mono (Kd.R_far (p := ⟨gb103, 7, none⟩) (Kd.R_types HO108.out BK103.out (by decide)) (fun _ hk => hk.2) (.slice Ao24 y106.length co24)) (fun _ hk => trivial)⟩, ⟨by (with_reducible repeat (first | refine blk_drewN ?_ _ | refine blk_drew ?_ | refine blk_alloc ?_ _)); refine blk_far ?_ NB101_103.out _; (with_reducible repeat (first | refine blk_drewN ?_ _ | refine blk_drew ?_ | refine blk_alloc ?_ _)); exact BK101.out⟩, ⟨by (with_reducible repeat (first | refine blk_drewN ?_ _ | refine blk_drew ?_ | refine blk_alloc ?_ _)); refine blk_far ?_ NB102_103.out _; (with_reducible repeat (first | refine blk_drewN ?_ _ | refine blk_drew ?_ | refine blk_alloc ?_ _)); exact BK102.out⟩, ⟨by (with_reducible repeat (first | refine blk_drewN ?_ _ | refine blk_drew ?_ | refine blk_alloc ?_ _)); refine blk_put (cs := #[.int .u32 a0_0, .int .u64 a0_1, .int .u32 a0_2, .int .u32 a0_3, .int .u32 a0_4, .int .u32 a0_5, .int .u32 a0_6, u104007]) ?_ 7 _ rfl; (with_reducible repeat (first | refine blk_drewN ?_ _ | refine blk_drew ?_ | refine blk_alloc ?_ _)); exact BK103.out⟩, ⟨by repeat (first | (with_reducible first | exact HB.out | apply below_alloc | apply pw_below_drewN | apply below_drew1 | refine below_set ?_ GE101.out | refine below_set ?_ GE102.out | refine below_set ?_ GE103.out | refine below_set ?_ GE105.out) | exact HB.out)⟩⟩
            · rw [if_neg c14] at H
              exact absurd H (by simp)
          · rw [if_neg c13] at H
            exact absurd H (by simp)
        · rw [if_neg c12] at H
          exact absurd H (by simp)
      · rw [if_neg c11] at H
        have c11b0 : decide (x24_1 < (l0_7.length : Int)) = false := decide_eq_false c11
        clear c11
        simp only [Option.some.injEq, Prod.mk.injEq] at H
        obtain ⟨rfl, rfl, rfl, rfl, rfl, rfl, rfl, rfl⟩ := H
        have hnb26 := NB103_101.out
        have hnc26 := NB101_103.out
        have hnb27 := NB103_102.out
        have hnc27 := NB102_103.out
        have hcz28_0 : wr.cell? ⟨gb103, 0, none⟩ = some (.int .u32 a0_0) := (blk_cell BK103.out 0).trans rfl
        have hcz28_1 : wr.cell? ⟨gb103, 1, none⟩ = some (.int .u64 a0_1) := (blk_cell BK103.out 1).trans rfl
        have hcz28_2 : wr.cell? ⟨gb103, 2, none⟩ = some (.int .u32 a0_2) := (blk_cell BK103.out 2).trans rfl
        have hcz28_3 : wr.cell? ⟨gb103, 3, none⟩ = some (.int .u32 a0_3) := (blk_cell BK103.out 3).trans rfl
        have hcz28_4 : wr.cell? ⟨gb103, 4, none⟩ = some (.int .u32 a0_4) := (blk_cell BK103.out 4).trans rfl
        have hcz28_5 : wr.cell? ⟨gb103, 5, none⟩ = some (.int .u32 a0_5) := (blk_cell BK103.out 5).trans rfl
        have hcz28_6 : wr.cell? ⟨gb103, 6, none⟩ = some (.int .u32 a0_6) := (blk_cell BK103.out 6).trans rfl
        have hcz28_7 : wr.cell? ⟨gb103, 7, none⟩ = some (u104007) := (blk_cell BK103.out 7).trans rfl
        have hfz28_0 := blk_frozen BK103.out 0
        have hfz28_1 := blk_frozen BK103.out 1
        have hfz28_2 := blk_frozen BK103.out 2
        have hfz28_3 := blk_frozen BK103.out 3
        have hfz28_4 := blk_frozen BK103.out 4
        have hfz28_5 := blk_frozen BK103.out 5
        have hfz28_6 := blk_frozen BK103.out 6
        have hfz28_7 := blk_frozen BK103.out 7
        have hnb29 := NB102_101.out
        have hnc29 := NB101_102.out
        have hcz30_0 : wr.cell? ⟨gb102, 0, none⟩ = some (.int .u32 0) := (blk_cell BK102.out 0).trans rfl
        have hcz30_1 : wr.cell? ⟨gb102, 1, none⟩ = some (.int .u64 0) := (blk_cell BK102.out 1).trans rfl
        have hcz30_2 : wr.cell? ⟨gb102, 2, none⟩ = some (.int .u32 0) := (blk_cell BK102.out 2).trans rfl
        have hcz30_3 : wr.cell? ⟨gb102, 3, none⟩ = some (.int .u32 0) := (blk_cell BK102.out 3).trans rfl
        have hcz30_4 : wr.cell? ⟨gb102, 4, none⟩ = some (.int .u32 0) := (blk_cell BK102.out 4).trans rfl
        have hcz30_5 : wr.cell? ⟨gb102, 5, none⟩ = some (.int .u32 0) := (blk_cell BK102.out 5).trans rfl
        have hcz30_6 : wr.cell? ⟨gb102, 6, none⟩ = some (.int .u32 0) := (blk_cell BK102.out 6).trans rfl
        have hcz30_7 : wr.cell? ⟨gb102, 7, none⟩ = some (.slice none 0 0) := (blk_cell BK102.out 7).trans rfl
        have hfz30_0 := blk_frozen BK102.out 0
        have hfz30_1 := blk_frozen BK102.out 1
        have hfz30_2 := blk_frozen BK102.out 2
        have hfz30_3 := blk_frozen BK102.out 3
        have hfz30_4 := blk_frozen BK102.out 4
        have hfz30_5 := blk_frozen BK102.out 5
        have hfz30_6 := blk_frozen BK102.out 6
        have hfz30_7 := blk_frozen BK102.out 7
        obtain ⟨Ao31, co31, eo31⟩ := Kd.R_slice HO_104007.out
        subst eo31
        go_wp2
        refine bodyPost_ret (results_cell_row rfl _ _ gb102 139 #[.int .u32 a0_0, .int .u64 a0_1, .int .u32 a0_2, .int .u32 a0_3, .int .u32 a0_4, .int .u32 a0_5, .int .u32 a0_6, .slice Ao31 x104007_1.length co31] (0, 0) _ rfl (by (with_reducible repeat (first | refine blk_drewN ?_ _ | refine blk_drew ?_ | refine blk_alloc ?_ _)); refine blk_put (cs := #[.int .u32 a0_0, .int .u64 a0_1, .int .u32 a0_2, .int .u32 a0_3, .int .u32 a0_4, .int .u32 a0_5, .int .u32 a0_6, .slice none 0 0]) ?_ 7 _ rfl; (with_reducible repeat (first | refine blk_drewN ?_ _ | refine blk_drew ?_ | refine blk_alloc ?_ _)); refine blk_put (cs := #[.int .u32 a0_0, .int .u64 a0_1, .int .u32 a0_2, .int .u32 a0_3, .int .u32 a0_4, .int .u32 a0_5, .int .u32 0, .slice none 0 0]) ?_ 6 _ rfl; (with_reducible repeat (first | refine blk_drewN ?_ _ | refine blk_drew ?_ | refine blk_alloc ?_ _)); refine blk_put (cs := #[.int .u32 a0_0, .int .u64 a0_1, .int .u32 a0_2, .int .u32 a0_3, .int .u32 a0_4, .int .u32 0, .int .u32 0, .slice none 0 0]) ?_ 5 _ rfl; (with_reducible repeat (first | refine blk_drewN ?_ _ | refine blk_drew ?_ | refine blk_alloc ?_ _)); refine blk_put (cs := #[.int .u32 a0_0, .int .u64 a0_1, .int .u32 a0_2, .int .u32 a0_3, .int .u32 0, .int .u32 0, .int .u32 0, .slice none 0 0]) ?_ 4 _ rfl; (with_reducible repeat (first | refine blk_drewN ?_ _ | refine blk_drew ?_ | refine blk_alloc ?_ _)); refine blk_put (cs := #[.int .u32 a0_0, .int .u64 a0_1, .int .u32 a0_2, .int .u32 0, .int .u32 0, .int .u32 0, .int .u32 0, .slice none 0 0]) ?_ 3 _ rfl; (with_reducible repeat (first | refine blk_drewN ?_ _ | refine blk_drew ?_ | refine blk_alloc ?_ _)); refine blk_put (cs := #[.int .u32 a0_0, .int .u64 a0_1, .int .u32 0, .int .u32 0, .int .u32 0, .int .u32 0, .int .u32 0, .slice none 0 0]) ?_ 2 _ rfl; (with_reducible repeat (first | refine blk_drewN ?_ _ | refine blk_drew ?_ | refine blk_alloc ?_ _)); refine blk_put (cs := #[.int .u32 a0_0, .int .u64 0, .int .u32 0, .int .u32 0, .int .u32 0, .int .u32 0, .int .u32 0, .slice none 0 0]) ?_ 1 _ rfl; (with_reducible repeat (first | refine blk_drewN ?_ _ | refine blk_drew ?_ | refine blk_alloc ?_ _)); refine blk_put (cs := #[.int .u32 0, .int .u64 0, .int .u32 0, .int .u32 0, .int .u32 0, .int .u32 0, .int .u32 0, .slice none 0 0]) ?_ 0 _ rfl; (with_reducible repeat (first | refine blk_drewN ?_ _ | refine blk_drew ?_ | refine blk_alloc ?_ _)); exact BK102.out) Tryz.underlying139 rfl (by kernel_rfl)) rfl ?_
        exact ⟨_, by first | rfl | (simp [errW_none, errW_some] <;> rfl) | (simp [*, errW_none, errW_some] <;> rfl), by (with_reducible repeat (first | apply Kd.R_alloc | apply Kd.R_drewN | apply Kd.R_drew)); exact Kd.R_mono (Kd.R_far (p := ⟨gb102, 7, none⟩) (Kd.R_far (p := ⟨gb102, 6, none⟩) (Kd.R_far (p := ⟨gb102, 5, none⟩) (Kd.R_far (p := ⟨gb102, 4, none⟩) (Kd.R_far (p := ⟨gb102, 3, none⟩) (Kd.R_far (p := ⟨gb102, 2, none⟩) (Kd.R_far (p := ⟨gb102, 1, none⟩) (Kd.R_far (p := ⟨gb102, 0, none⟩) (Kd.R_types HO_104007.out BK102.out (by decide)) (fun _ hk => hk.2) (.int .u32 a0_0)) (fun _ hk => hk.2) (.int .u64 a0_1)) (fun _ hk => hk.2) (.int .u32 a0_2)) (fun _ hk => hk.2) (.int .u32 a0_3)) (fun _ hk => hk.2) (.int .u32 a0_4)) (fun _ hk => hk.2) (.int .u32 a0_5)) (fun _ hk => hk.2) (.int .u32 a0_6)) (fun _ hk => hk.2) (.slice Ao31 x104007_1.length co31)) (fun _ hk => trivial), by repeat (first | (with_reducible first | exact HB.out | apply below_alloc | apply pw_below_drewN | apply below_drew1 | refine below_set ?_ GE101.out | refine below_set ?_ GE102.out | refine below_set ?_ GE103.out) | exact HB.out)⟩
def impl_told.l0 : Nat → List (S266) → Int → Int → Int → Int → Int → Int → Int → Int → Int → List (S89) → Option (Int × Int × Int × Int × Int × Int × Int × (List (S89)))
  | 0, _, _, _, _, _, _, _, _, _, _, _ => none
  | k + 1, x22, x23, x24, x112000, x112001, x112002, x112003, x112004, x112005, x112006, x112007 => if x24 < x23 then (if 0 ≤ x24 then (if x24 < (x22.length : Int) then (if x112007.length < 4398046511104 then (impl_told.l0 k x22 x23 (wrap64 (x24 + 1)) x112000 x112001 x112002 x112003 x112004 x112005 x112006 (x112007 ++ [(⟨(rd_T266 x22 x24).f0, (rd_T266 x22 x24).f1⟩ : S89)])) else (none)) else (none)) else (none)) else (some (x112000, x112001, x112002, x112003, x112004, x112005, x112006, x112007))
def impl_told.f (k : Nat) (a0_0 : Int) (a0_1 : Int) (a0_2 : Int) (a0_3 : Int) (a0_4 : Int) (a0_5 : Int) (a0_6 : Int) (l0_7 : List (S266)) : Option (Int × Int × Int × Int × Int × Int × Int × (List (S89))) := impl_told.l0 k l0_7 (l0_7.length : Int) 0 a0_0 a0_1 a0_2 a0_3 a0_4 a0_5 a0_6 ([] : List (S89))
theorem impl_told.mono_l : ∀ k, (∀ y0 y1 y2 y3 y4 y5 y6 y7 y8 y9 y10, LeO (impl_told.l0 k y0 y1 y2 y3 y4 y5 y6 y7 y8 y9 y10) (impl_told.l0 (k + 1) y0 y1 y2 y3 y4 y5 y6 y7 y8 y9 y10))
  | 0 => fun _ _ _ _ _ _ _ _ _ _ _ r h => by simp [impl_told.l0] at h
  | k + 1 => by
    have ih0 := impl_told.mono_l k
    · intro y0 y1 y2 y3 y4 y5 y6 y7 y8 y9 y10
      unfold impl_told.l0
      repeat' first
      | (with_reducible exact ih0 _ _ _ _ _ _ _ _ _ _ _)
      | (with_reducible exact LeO.refl _)
      | (with_reducible exact LeO.none _)
      | (with_reducible refine LeO.ite ?_ ?_)
      | (with_reducible refine LeO.bind ?_ (fun _ => ?_))
      | exact ih0 _ _ _ _ _ _ _ _ _ _ _
      | exact LeO.none _
      | refine LeO.ite ?_ ?_
      | refine LeO.bind ?_ (fun _ => ?_)
theorem impl_told.mono : ∀ a0 a1 a2 a3 a4 a5 a6 a7 k, LeO (impl_told.f k a0 a1 a2 a3 a4 a5 a6 a7) (impl_told.f (k + 1) a0 a1 a2 a3 a4 a5 a6 a7) := by
  intro a0 a1 a2 a3 a4 a5 a6 a7 k
  have ih0 := impl_told.mono_l k
  unfold impl_told.f
  repeat' first
      | (with_reducible exact ih0 _ _ _ _ _ _ _ _ _ _ _)
      | (with_reducible exact LeO.refl _)
      | (with_reducible exact LeO.none _)
      | (with_reducible refine LeO.ite ?_ ?_)
      | (with_reducible refine LeO.bind ?_ (fun _ => ?_))
      | exact ih0 _ _ _ _ _ _ _ _ _ _ _
      | exact LeO.none _
      | refine LeO.ite ?_ ?_
      | refine LeO.bind ?_ (fun _ => ?_)
set_option maxHeartbeats 8000000 in
set_option maxRecDepth 100000 in
theorem impl_told.calls (k : Nat) (a0_0 : Int) (a0_1 : Int) (a0_2 : Int) (a0_3 : Int) (a0_4 : Int) (a0_5 : Int) (a0_6 : Int) (A0_7 : Option Addr) (c0_7 : Nat) (l0_7 : List (S266)) (r1 : Int) (r2 : Int) (r3 : Int) (r4 : Int) (r5 : Int) (r6 : Int) (r7 : Int) (r8 : List (S89)) (w : World) (hr0_7 : Kd.C k266 w A0_7 l0_7.length l0_7) (hc0_7 : l0_7.length ≤ c0_7) (h : impl_told.f k a0_0 a0_1 a0_2 a0_3 a0_4 a0_5 a0_6 l0_7 = some (r1, r2, r3, r4, r5, r6, r7, r8)) :
    Calls Tryz.prog 74 #[.agg #[.int .u32 a0_0, .int .u64 a0_1, .int .u32 a0_2, .int .u32 a0_3, .int .u32 a0_4, .int .u32 a0_5, .int .u32 a0_6, .slice A0_7 l0_7.length c0_7]] w fun e w' => ∃ v7_ : Value, e = .returned (.agg #[.int .u32 r1, .int .u64 r2, .int .u32 r3, .int .u32 r4, .int .u32 r5, .int .u32 r6, .int .u32 r7, v7_]) ∧ Kd.R k89 89 w' w.heap.size (fun _ => True) v7_ r8 ∧ Below w.heap.size w w' := by
  have hu139 := Tryz.underlying139
  have hu26 := Tryz.underlying26
  have hu266 := Tryz.underlying266
  have hu89 := Tryz.underlying89
  have HR0_7 := Aside0.mk hr0_7
  have HC0_7 := Aside0.mk hc0_7
  clear hr0_7 hc0_7
  have HB := Aside0.mk (Below.refl w.heap.size w)
  have H : (impl_told.l0 k l0_7 (l0_7.length : Int) 0 a0_0 a0_1 a0_2 a0_3 a0_4 a0_5 a0_6 ([] : List (S89))) = some (r1, r2, r3, r4, r5, r6, r7, r8) := h
  clear h
  have H' := Aside0.mk H
  clear H
  go_enter Tryz.func74, Tryz.ntmps74
  go_wp2_with (first | ((with_reducible refine gate_dst (N := 1) rfl ?_); refine box_event ?hg (N := 1) ?hd (cs := #[.int .u32 a0_0, .int .u64 a0_1, .int .u32 a0_2, .int .u32 a0_3, .int .u32 a0_4, .int .u32 a0_5, .int .u32 a0_6, .slice A0_7 l0_7.length c0_7]) (t := 139) ?hr ?_; (case hd => rfl); (case hg => rfl); (case hr => first | (go_simp; done) | (go_simp; rfl)); intro gb109 hg w2 hbox hb; have n0_ := Aside0.mk (below_step (by repeat (first | (with_reducible first | exact HB.out | apply below_alloc | apply pw_below_drewN | apply below_drew1) | exact HB.out)) hb); have n1_ := Aside0.mk (hbox); have n2_ := Aside0.mk ((by rw [hg]; exact (below_size (by repeat (first | (with_reducible first | exact HB.out | apply below_alloc | apply pw_below_drewN | apply below_drew1) | exact HB.out))) : w.heap.size ≤ gb109)); have n3_ := Aside0.mk ((by rw [hg]; exact (below_size (by repeat (first | (with_reducible first | exact HB.out | apply below_alloc | apply pw_below_drewN | apply below_drew1) | exact HB.out))) : w.heap.size ≤ gb109)); clear HB; have HB := n0_; have BK109 := n1_; have GW109 := n2_; have GE109 := n3_; clear n0_ n1_ n2_ n3_; clear hb hbox hg) | ((with_reducible refine gate_dst (N := 2) rfl ?_); refine box_event ?hg (N := 2) ?hd (cs := #[.int .u32 0, .int .u64 0, .int .u32 0, .int .u32 0, .int .u32 0, .int .u32 0, .int .u32 0, .slice none 0 0]) (t := 26) ?hr ?_; (case hd => rfl); (case hg => rfl); (case hr => first | (go_simp; done) | (go_simp; rfl)); intro gb110 hg w3 hbox hb; have n0_ := Aside0.mk (blk_below (g := gb109) (o := .cells #[.int .u32 a0_0, .int .u64 a0_1, .int .u32 a0_2, .int .u32 a0_3, .int .u32 a0_4, .int .u32 a0_5, .int .u32 a0_6, .slice A0_7 l0_7.length c0_7] 139 (0, 0)) (by (with_reducible repeat (first | refine blk_drewN ?_ _ | refine blk_drew ?_ | refine blk_alloc ?_ _)); exact BK109.out) hb); have n1_ := Aside0.mk (below_step (by repeat (first | (with_reducible first | exact HB.out | apply below_alloc | apply pw_below_drewN | apply below_drew1 | refine below_set ?_ GE109.out) | exact HB.out)) hb); have n2_ := Aside0.mk (hbox); have n3_ := Aside0.mk ((by rw [hg]; exact (below_size (by repeat (first | (with_reducible first | exact HB.out | apply below_alloc | apply pw_below_drewN | apply below_drew1 | refine below_set ?_ GE109.out) | exact HB.out))) : w.heap.size ≤ gb110)); have n4_ := Aside0.mk ((by rw [hg]; exact (below_size (by repeat (first | (with_reducible first | exact HB.out | apply below_alloc | apply pw_below_drewN | apply below_drew1 | refine below_set ?_ GE109.out) | exact HB.out))) : w.heap.size ≤ gb110)); have n5_ := Aside0.mk ((by rw [hg]; exact Nat.ne_of_lt (blk_lt (g := gb109) (o := .cells #[.int .u32 a0_0, .int .u64 a0_1, .int .u32 a0_2, .int .u32 a0_3, .int .u32 a0_4, .int .u32 a0_5, .int .u32 a0_6, .slice A0_7 l0_7.length c0_7] 139 (0, 0)) (by (with_reducible repeat (first | refine blk_drewN ?_ _ | refine blk_drew ?_ | refine blk_alloc ?_ _)); exact BK109.out)) : gb109 ≠ gb110)); have n6_ := Aside0.mk ((by rw [hg]; exact Nat.ne_of_gt (blk_lt (g := gb109) (o := .cells #[.int .u32 a0_0, .int .u64 a0_1, .int .u32 a0_2, .int .u32 a0_3, .int .u32 a0_4, .int .u32 a0_5, .int .u32 a0_6, .slice A0_7 l0_7.length c0_7] 139 (0, 0)) (by (with_reducible repeat (first | refine blk_drewN ?_ _ | refine blk_drew ?_ | refine blk_alloc ?_ _)); exact BK109.out)) : gb110 ≠ gb109)); clear BK109; clear HB; have BK109 := n0_; have HB := n1_; have BK110 := n2_; have GW110 := n3_; have GE110 := n4_; have NB109_110 := n5_; have NB110_109 := n6_; clear n0_ n1_ n2_ n3_ n4_ n5_ n6_; clear hb hbox hg; have hnb4 := NB109_110.out; have hnc4 := NB110_109.out; have hcz5_0 : w3.cell? ⟨gb109, 0, none⟩ = some (.int .u32 a0_0) := (blk_cell BK109.out 0).trans rfl; have hcz5_1 : w3.cell? ⟨gb109, 1, none⟩ = some (.int .u64 a0_1) := (blk_cell BK109.out 1).trans rfl; have hcz5_2 : w3.cell? ⟨gb109, 2, none⟩ = some (.int .u32 a0_2) := (blk_cell BK109.out 2).trans rfl; have hcz5_3 : w3.cell? ⟨gb109, 3, none⟩ = some (.int .u32 a0_3) := (blk_cell BK109.out 3).trans rfl; have hcz5_4 : w3.cell? ⟨gb109, 4, none⟩ = some (.int .u32 a0_4) := (blk_cell BK109.out 4).trans rfl; have hcz5_5 : w3.cell? ⟨gb109, 5, none⟩ = some (.int .u32 a0_5) := (blk_cell BK109.out 5).trans rfl; have hcz5_6 : w3.cell? ⟨gb109, 6, none⟩ = some (.int .u32 a0_6) := (blk_cell BK109.out 6).trans rfl; have hcz5_7 : w3.cell? ⟨gb109, 7, none⟩ = some (.slice A0_7 l0_7.length c0_7) := (blk_cell BK109.out 7).trans rfl; have hfz5_0 := blk_frozen BK109.out 0; have hfz5_1 := blk_frozen BK109.out 1; have hfz5_2 := blk_frozen BK109.out 2; have hfz5_3 := blk_frozen BK109.out 3; have hfz5_4 := blk_frozen BK109.out 4; have hfz5_5 := blk_frozen BK109.out 5; have hfz5_6 := blk_frozen BK109.out 6; have hfz5_7 := blk_frozen BK109.out 7) | ((with_reducible refine gate_dst (N := 3) rfl ?_); refine box_event ?hg (N := 3) ?hd (cs := #[.int .u32 0, .int .u64 0, .int .u32 0, .int .u32 0, .int .u32 0, .int .u32 0, .int .u32 0, .slice none 0 0]) (t := 26) ?hr ?_; (case hd => rfl); (case hg => rfl); (case hr => first | (go_simp; done) | (go_simp; rfl)); intro gb111 hg w6 hbox hb; have n0_ := Aside0.mk (blk_below (g := gb109) (o := .cells #[.int .u32 a0_0, .int .u64 a0_1, .int .u32 a0_2, .int .u32 a0_3, .int .u32 a0_4, .int .u32 a0_5, .int .u32 a0_6, .slice A0_7 l0_7.length c0_7] 139 (0, 0)) (by (with_reducible repeat (first | refine blk_drewN ?_ _ | refine blk_drew ?_ | refine blk_alloc ?_ _)); exact BK109.out) hb); have n1_ := Aside0.mk (blk_below (g := gb110) (o := .cells #[.int .u32 0, .int .u64 0, .int .u32 0, .int .u32 0, .int .u32 0, .int .u32 0, .int .u32 0, .slice none 0 0] 26 (0, 0)) (by (with_reducible repeat (first | refine blk_drewN ?_ _ | refine blk_drew ?_ | refine blk_alloc ?_ _)); exact BK110.out) hb); have n2_ := Aside0.mk (below_step (by repeat (first | (with_reducible first | exact HB.out | apply below_alloc | apply pw_below_drewN | apply below_drew1 | refine below_set ?_ GE109.out | refine below_set ?_ GE110.out) | exact HB.out)) hb); have n3_ := Aside0.mk (hbox); have n4_ := Aside0.mk ((by rw [hg]; exact (below_size (by repeat (first | (with_reducible first | exact HB.out | apply below_alloc | apply pw_below_drewN | apply below_drew1 | refine below_set ?_ GE109.out | refine below_set ?_ GE110.out) | exact HB.out))) : w.heap.size ≤ gb111)); have n5_ := Aside0.mk ((by rw [hg]; exact (below_size (by repeat (first | (with_reducible first | exact HB.out | apply below_alloc | apply pw_below_drewN | apply below_drew1 | refine below_set ?_ GE109.out | refine below_set ?_ GE110.out) | exact HB.out))) : w.heap.size ≤ gb111)); have n6_ := Aside0.mk ((by rw [hg]; exact Nat.ne_of_lt (blk_lt (g := gb109) (o := .cells #[.int .u32 a0_0, .int .u64 a0_1, .int .u32 a0_2, .int .u32 a0_3, .int .u32 a0_4, .int .u32 a0_5, .int .u32 a0_6, .slice A0_7 l0_7.length c0_7] 139 (0, 0)) (by (with_reducible repeat (first | refine blk_drewN ?_ _ | refine blk_drew ?_ | refine blk_alloc ?_ _)); exact BK109.out)) : gb109 ≠ gb111)); have n7_ := Aside0.mk ((by rw [hg]; exact Nat.ne_of_gt (blk_lt (g := gb109) (o := .cells #[.int .u32 a0_0, .int .u64 a0_1, .int .u32 a0_2, .int .u32 a0_3, .int .u32 a0_4, .int .u32 a0_5, .int .u32 a0_6, .slice A0_7 l0_7.length c0_7] 139 (0, 0)) (by (with_reducible repeat (first | refine blk_drewN ?_ _ | refine blk_drew ?_ | refine blk_alloc ?_ _)); exact BK109.out)) : gb111 ≠ gb109)); have n8_ := Aside0.mk ((by rw [hg]; exact Nat.ne_of_lt (blk_lt (g := gb110) (o := .cells #[.int .u32 0, .int .u64 0, .int .u32 0, .int .u32 0, .int .u32 0, .int .u32 0, .int .u32 0, .slice none 0 0] 26 (0, 0)) (by (with_reducible repeat (first | refine blk_drewN ?_ _ | refine blk_drew ?_ | refine blk_alloc ?_ _)); exact BK110.out)) : gb110 ≠ gb111)); have n9_ := Aside0.mk ((by rw [hg]; exact Nat.ne_of_gt (blk_lt (g := gb110) (o := .cells #[.int .u32 0, .int .u64 0, .int .u32 0, .int .u32 0, .int .u32 0, .int .u32 0, .int .u32 0, .slice none 0 0] 26 (0, 0)) (by (with_reducible repeat (first | refine blk_drewN ?_ _ | refine blk_drew ?_ | refine blk_alloc ?_ _)); exact BK110.out)) : gb111 ≠ gb110)); clear BK109; clear BK110; clear HB; have BK109 := n0_; have BK110 := n1_; have HB := n2_; have BK111 := n3_; have GW111 := n4_; have GE111 := n5_; have NB109_111 := n6_; have NB111_109 := n7_; have NB110_111 := n8_; have NB111_110 := n9_; clear n0_ n1_ n2_ n3_ n4_ n5_ n6_ n7_ n8_ n9_; clear hb hbox hg; have hnb7 := NB111_109.out; have hnc7 := NB109_111.out; have hnb8 := NB111_110.out; have hnc8 := NB110_111.out; have hcz9_0 : w6.cell? ⟨gb111, 0, none⟩ = some (.int .u32 0) := (blk_cell BK111.out 0).trans rfl; have hcz9_1 : w6.cell? ⟨gb111, 1, none⟩ = some (.int .u64 0) := (blk_cell BK111.out 1).trans rfl; have hcz9_2 : w6.cell? ⟨gb111, 2, none⟩ = some (.int .u32 0) := (blk_cell BK111.out 2).trans rfl; have hcz9_3 : w6.cell? ⟨gb111, 3, none⟩ = some (.int .u32 0) := (blk_cell BK111.out 3).trans rfl; have hcz9_4 : w6.cell? ⟨gb111, 4, none⟩ = some (.int .u32 0) := (blk_cell BK111.out 4).trans rfl; have hcz9_5 : w6.cell? ⟨gb111, 5, none⟩ = some (.int .u32 0) := (blk_cell BK111.out 5).trans rfl; have hcz9_6 : w6.cell? ⟨gb111, 6, none⟩ = some (.int .u32 0) := (blk_cell BK111.out 6).trans rfl; have hcz9_7 : w6.cell? ⟨gb111, 7, none⟩ = some (.slice none 0 0) := (blk_cell BK111.out 7).trans rfl; have hfz9_0 := blk_frozen BK111.out 0; have hfz9_1 := blk_frozen BK111.out 1; have hfz9_2 := blk_frozen BK111.out 2; have hfz9_3 := blk_frozen BK111.out 3; have hfz9_4 := blk_frozen BK111.out 4; have hfz9_5 := blk_frozen BK111.out 5; have hfz9_6 := blk_frozen BK111.out 6; have hfz9_7 := blk_frozen BK111.out 7; have hcz10_0 : w6.cell? ⟨gb109, 0, none⟩ = some (.int .u32 a0_0) := (blk_cell BK109.out 0).trans rfl; have hcz10_1 : w6.cell? ⟨gb109, 1, none⟩ = some (.int .u64 a0_1) := (blk_cell BK109.out 1).trans rfl; have hcz10_2 : w6.cell? ⟨gb109, 2, none⟩ = some (.int .u32 a0_2) := (blk_cell BK109.out 2).trans rfl; have hcz10_3 : w6.cell? ⟨gb109, 3, none⟩ = some (.int .u32 a0_3) := (blk_cell BK109.out 3).trans rfl; have hcz10_4 : w6.cell? ⟨gb109, 4, none⟩ = some (.int .u32 a0_4) := (blk_cell BK109.out 4).trans rfl; have hcz10_5 : w6.cell? ⟨gb109, 5, none⟩ = some (.int .u32 a0_5) := (blk_cell BK109.out 5).trans rfl; have hcz10_6 : w6.cell? ⟨gb109, 6, none⟩ = some (.int .u32 a0_6) := (blk_cell BK109.out 6).trans rfl; have hcz10_7 : w6.cell? ⟨gb109, 7, none⟩ = some (.slice A0_7 l0_7.length c0_7) := (blk_cell BK109.out 7).trans rfl; have hfz10_0 := blk_frozen BK109.out 0; have hfz10_1 := blk_frozen BK109.out 1; have hfz10_2 := blk_frozen BK109.out 2; have hfz10_3 := blk_frozen BK109.out 3; have hfz10_4 := blk_frozen BK109.out 4; have hfz10_5 := blk_frozen BK109.out 5; have hfz10_6 := blk_frozen BK109.out 6; have hfz10_7 := blk_frozen BK109.out 7))
  go_loopg [24] k (fun kq v24 w' => ∃ (x24_1 : Int) (x112007_1 : List (S89)) (u112007 : Value), v24 = .int .i64 x24_1 ∧ Aside0 (impl_told.l0 kq l0_7 (l0_7.length : Int) x24_1 a0_0 a0_1 a0_2 a0_3 a0_4 a0_5 a0_6 x112007_1 = some (r1, r2, r3, r4, r5, r6, r7, r8)) ∧ Aside0 (kq ≤ k) ∧ Aside0 (Kd.R k89 89 w' w.heap.size (fun _ => True) u112007 x112007_1) ∧ Aside0 (w'.heap[gb109]? = some (.cells #[.int .u32 a0_0, .int .u64 a0_1, .int .u32 a0_2, .int .u32 a0_3, .int .u32 a0_4, .int .u32 a0_5, .int .u32 a0_6, (.slice A0_7 l0_7.length c0_7)] 139 (0, 0))) ∧ Aside0 (w'.heap[gb110]? = some (.cells #[.int .u32 0, .int .u64 0, .int .u32 0, .int .u32 0, .int .u32 0, .int .u32 0, .int .u32 0, (.slice none 0 0)] 26 (0, 0))) ∧ Aside0 (w'.heap[gb111]? = some (.cells #[.int .u32 a0_0, .int .u64 a0_1, .int .u32 a0_2, .int .u32 a0_3, .int .u32 a0_4, .int .u32 a0_5, .int .u32 a0_6, u112007] 26 (0, 0))) ∧ Aside0 (Below w.heap.size w w'))
  case atStart => exact ⟨(0), (([] : List (S89))), (.slice none 0 0), (by first | rfl | (simp; done) | (simp [*]; done)), H', ⟨Nat.le_refl _⟩, ⟨by first | exact Kd.R_nil _ _ _ _ _ | exact Kd.N_nil _ _ _ _ _ | exact Kd.V_nil _ _ _ _ _ | exact Kd.Q_nil _ _ _ _ _ | exact Kd.S_nil _ _ _ _ _⟩, ⟨by (with_reducible repeat (first | refine blk_drewN ?_ _ | refine blk_drew ?_ | refine blk_alloc ?_ _)); refine blk_far ?_ NB109_111.out _; (with_reducible repeat (first | refine blk_drewN ?_ _ | refine blk_drew ?_ | refine blk_alloc ?_ _)); refine blk_far ?_ NB109_111.out _; (with_reducible repeat (first | refine blk_drewN ?_ _ | refine blk_drew ?_ | refine blk_alloc ?_ _)); refine blk_far ?_ NB109_111.out _; (with_reducible repeat (first | refine blk_drewN ?_ _ | refine blk_drew ?_ | refine blk_alloc ?_ _)); refine blk_far ?_ NB109_111.out _; (with_reducible repeat (first | refine blk_drewN ?_ _ | refine blk_drew ?_ | refine blk_alloc ?_ _)); refine blk_far ?_ NB109_111.out _; (with_reducible repeat (first | refine blk_drewN ?_ _ | refine blk_drew ?_ | refine blk_alloc ?_ _)); refine blk_far ?_ NB109_111.out _; (with_reducible repeat (first | refine blk_drewN ?_ _ | refine blk_drew ?_ | refine blk_alloc ?_ _)); refine blk_far ?_ NB109_111.out _; (with_reducible repeat (first | refine blk_drewN ?_ _ | refine blk_drew ?_ | refine blk_alloc ?_ _)); refine blk_far ?_ NB109_111.out _; (with_reducible repeat (first | refine blk_drewN ?_ _ | refine blk_drew ?_ | refine blk_alloc ?_ _)); exact BK109.out⟩, ⟨by (with_reducible repeat (first | refine blk_drewN ?_ _ | refine blk_drew ?_ | refine blk_alloc ?_ _)); refine blk_far ?_ NB110_111.out _; (with_reducible repeat (first | refine blk_drewN ?_ _ | refine blk_drew ?_ | refine blk_alloc ?_ _)); refine blk_far ?_ NB110_111.out _; (with_reducible repeat (first | refine blk_drewN ?_ _ | refine blk_drew ?_ | refine blk_alloc ?_ _)); refine blk_far ?_ NB110_111.out _; (with_reducible repeat (first | refine blk_drewN ?_ _ | refine blk_drew ?_ | refine blk_alloc ?_ _)); refine blk_far ?_ NB110_111.out _; (with_reducible repeat (first | refine blk_drewN ?_ _ | refine blk_drew ?_ | refine blk_alloc ?_ _)); refine blk_far ?_ NB110_111.out _; (with_reducible repeat (first | refine blk_drewN ?_ _ | refine blk_drew ?_ | refine blk_alloc ?_ _)); refine blk_far ?_ NB110_111.out _; (with_reducible repeat (first | refine blk_drewN ?_ _ | refine blk_drew ?_ | refine blk_alloc ?_ _)); refine blk_far ?_ NB110_111.out _; (with_reducible repeat (first | refine blk_drewN ?_ _ | refine blk_drew ?_ | refine blk_alloc ?_ _)); refine blk_far ?_ NB110_111.out _; (with_reducible repeat (first | refine blk_drewN ?_ _ | refine blk_drew ?_ | refine blk_alloc ?_ _)); exact BK110.out⟩, ⟨by (with_reducible repeat (first | refine blk_drewN ?_ _ | refine blk_drew ?_ | refine blk_alloc ?_ _)); refine blk_put (cs := #[.int .u32 a0_0, .int .u64 a0_1, .int .u32 a0_2, .int .u32 a0_3, .int .u32 a0_4, .int .u32 a0_5, .int .u32 a0_6, .slice none 0 0]) ?_ 7 _ rfl; (with_reducible repeat (first | refine blk_drewN ?_ _ | refine blk_drew ?_ | refine blk_alloc ?_ _)); refine blk_put (cs := #[.int .u32 a0_0, .int .u64 a0_1, .int .u32 a0_2, .int .u32 a0_3, .int .u32 a0_4, .int .u32 a0_5, .int .u32 0, .slice none 0 0]) ?_ 6 _ rfl; (with_reducible repeat (first | refine blk_drewN ?_ _ | refine blk_drew ?_ | refine blk_alloc ?_ _)); refine blk_put (cs := #[.int .u32 a0_0, .int .u64 a0_1, .int .u32 a0_2, .int .u32 a0_3, .int .u32 a0_4, .int .u32 0, .int .u32 0, .slice none 0 0]) ?_ 5 _ rfl; (with_reducible repeat (first | refine blk_drewN ?_ _ | refine blk_drew ?_ | refine blk_alloc ?_ _)); refine blk_put (cs := #[.int .u32 a0_0, .int .u64 a0_1, .int .u32 a0_2, .int .u32 a0_3, .int .u32 0, .int .u32 0, .int .u32 0, .slice none 0 0]) ?_ 4 _ rfl; (with_reducible repeat (first | refine blk_drewN ?_ _ | refine blk_drew ?_ | refine blk_alloc ?_ _)); refine blk_put (cs := #[.int .u32 a0_0, .int .u64 a0_1, .int .u32 a0_2, .int .u32 0, .int .u32 0, .int .u32 0, .int .u32 0, .slice none 0 0]) ?_ 3 _ rfl; (with_reducible repeat (first | refine blk_drewN ?_ _ | refine blk_drew ?_ | refine blk_alloc ?_ _)); refine blk_put (cs := #[.int .u32 a0_0, .int .u64 a0_1, .int .u32 0, .int .u32 0, .int .u32 0, .int .u32 0, .int .u32 0, .slice none 0 0]) ?_ 2 _ rfl; (with_reducible repeat (first | refine blk_drewN ?_ _ | refine blk_drew ?_ | refine blk_alloc ?_ _)); refine blk_put (cs := #[.int .u32 a0_0, .int .u64 0, .int .u32 0, .int .u32 0, .int .u32 0, .int .u32 0, .int .u32 0, .slice none 0 0]) ?_ 1 _ rfl; (with_reducible repeat (first | refine blk_drewN ?_ _ | refine blk_drew ?_ | refine blk_alloc ?_ _)); refine blk_put (cs := #[.int .u32 0, .int .u64 0, .int .u32 0, .int .u32 0, .int .u32 0, .int .u32 0, .int .u32 0, .slice none 0 0]) ?_ 0 _ rfl; (with_reducible repeat (first | refine blk_drewN ?_ _ | refine blk_drew ?_ | refine blk_alloc ?_ _)); exact BK111.out⟩, ⟨by repeat (first | (with_reducible first | exact HB.out | apply below_alloc | apply pw_below_drewN | apply below_drew1 | refine below_set ?_ GE109.out | refine below_set ?_ GE110.out | refine below_set ?_ GE111.out) | exact HB.out)⟩⟩
  case round =>
    clear H'
    try clear p2
    try clear c4
    try clear c7
    try clear c8
    try clear hcz10_0
    try clear hcz10_1
    try clear hcz10_2
    try clear hcz10_3
    try clear hcz10_4
    try clear hcz10_5
    try clear hcz10_6
    try clear hcz10_7
    try clear hcz5_0
    try clear hcz5_1
    try clear hcz5_2
    try clear hcz5_3
    try clear hcz5_4
    try clear hcz5_5
    try clear hcz5_6
    try clear hcz5_7
    try clear hcz9_0
    try clear hcz9_1
    try clear hcz9_2
    try clear hcz9_3
    try clear hcz9_4
    try clear hcz9_5
    try clear hcz9_6
    try clear hcz9_7
    try clear hfz10_0
    try clear hfz10_1
    try clear hfz10_2
    try clear hfz10_3
    try clear hfz10_4
    try clear hfz10_5
    try clear hfz10_6
    try clear hfz10_7
    try clear hfz5_0
    try clear hfz5_1
    try clear hfz5_2
    try clear hfz5_3
    try clear hfz5_4
    try clear hfz5_5
    try clear hfz5_6
    try clear hfz5_7
    try clear hfz9_0
    try clear hfz9_1
    try clear hfz9_2
    try clear hfz9_3
    try clear hfz9_4
    try clear hfz9_5
    try clear hfz9_6
    try clear hfz9_7
    obtain ⟨x24_1, x112007_1, u112007, rfl, HA, HK1, HO_112007, BK109, BK110, BK111, HB⟩ := hrel
    cases gk with
    | zero => exact absurd HA.out (by simp [impl_told.l0])
    | succ k1 =>
      have H := HA.out
      clear HA
      simp only [impl_told.l0] at H
      by_cases c11 : x24_1 < (l0_7.length : Int)
      · rw [if_pos c11] at H
        have c11b0 : decide (x24_1 < (l0_7.length : Int)) = true := decide_eq_true c11
        clear c11
        by_cases c12 : 0 ≤ x24_1
        · rw [if_pos c12] at H
          have c12b0 : decide (0 ≤ x24_1) = true := decide_eq_true c12
          clear c12
          by_cases c13 : x24_1 < (l0_7.length : Int)
          · rw [if_pos c13] at H
            have c13b0 : decide (x24_1 < (l0_7.length : Int)) = true := decide_eq_true c13
            clear c13
            by_cases c14 : x112007_1.length < 4398046511104
            · rw [if_pos c14] at H
              have LMc14 := Aside0.mk c14
              clear c14
              obtain ⟨y114, hy114⟩ : ∃ y_ : List (S89), y_ = (x112007_1 ++ [(⟨(rd_T266 l0_7 x24_1).f0, (rd_T266 l0_7 x24_1).f1⟩ : S89)]) := ⟨_, rfl⟩
              replace H : (impl_told.l0 k1 l0_7 (l0_7.length : Int) (wrap64 (x24_1 + 1)) a0_0 a0_1 a0_2 a0_3 a0_4 a0_5 a0_6 y114) = some (r1, r2, r3, r4, r5, r6, r7, r8) := by first | (rw [hy114]; with_reducible exact H) | (have H2_ := (Option.bind_some _ _).symm.trans H; rw [hy114]; with_reducible exact H2_) | (have H2_ := (Option.bind_some _ _).symm.trans H; with_reducible exact H2_) | with_reducible exact H | (rw [hy114]; exact H) | exact H
              have Ny114 := Aside0.mk hy114
              clear hy114
              have H' := Aside0.mk H
              clear H
              have p112 : 0 ≤ (x24_1 : Int) := of_decide_eq_true (by first | (with_reducible assumption) | assumption)
              have q112 : x24_1 < (l0_7.length : Int) := of_decide_eq_true (by first | (with_reducible assumption) | assumption)
              obtain ⟨ad112, e112, hx112_0, hx112_1⟩ := at_T266 HR0_7.out x24_1 p112 q112
              cases e112
              replace hx112_0 := (HB.out.cell (World.block_lt_of_cell? w _ hx112_0)).trans hx112_0
              replace hx112_1 := (HB.out.cell (World.block_lt_of_cell? w _ hx112_1)).trans hx112_1
              replace p112 := eq_true p112
              replace q112 := eq_true q112
              go_wp2_with (first | ((with_reducible refine gate_dst (N := 5) rfl ?_); refine box_event ?hg (N := 5) ?hd (cs := #[.string (⟨#[]⟩ : ByteArray), .string (⟨#[]⟩ : ByteArray)]) (t := 266) ?hr ?_; (case hd => rfl); (case hg => rfl); (case hr => first | (go_simp; done) | (go_simp; rfl)); intro gb113 hg w15 hbox hb; have n0_ := Aside0.mk (Kd.R_below (by (with_reducible repeat (first | apply Kd.R_alloc | apply Kd.R_drewN | apply Kd.R_drew)); exact HO_112007.out) hb); have n1_ := Aside0.mk (blk_below (g := gb109) (o := .cells #[.int .u32 a0_0, .int .u64 a0_1, .int .u32 a0_2, .int .u32 a0_3, .int .u32 a0_4, .int .u32 a0_5, .int .u32 a0_6, .slice (some ad112) l0_7.length c0_7] 139 (0, 0)) (by (with_reducible repeat (first | refine blk_drewN ?_ _ | refine blk_drew ?_ | refine blk_alloc ?_ _)); exact BK109.out) hb); have n2_ := Aside0.mk (blk_below (g := gb110) (o := .cells #[.int .u32 0, .int .u64 0, .int .u32 0, .int .u32 0, .int .u32 0, .int .u32 0, .int .u32 0, .slice none 0 0] 26 (0, 0)) (by (with_reducible repeat (first | refine blk_drewN ?_ _ | refine blk_drew ?_ | refine blk_alloc ?_ _)); exact BK110.out) hb); have n3_ := Aside0.mk (blk_below (g := gb111) (o := .cells #[.int .u32 a0_0, .int .u64 a0_1, .int .u32 a0_2, .int .u32 a0_3, .int .u32 a0_4, .int .u32 a0_5, .int .u32 a0_6, u112007] 26 (0, 0)) (by (with_reducible repeat (first | refine blk_drewN ?_ _ | refine blk_drew ?_ | refine blk_alloc ?_ _)); exact BK111.out) hb); have n4_ := Aside0.mk (below_step (by repeat (first | (with_reducible first | exact HB.out | apply below_alloc | apply pw_below_drewN | apply below_drew1 | refine below_set ?_ GE109.out | refine below_set ?_ GE110.out | refine below_set ?_ GE111.out) | exact HB.out)) hb); have n5_ := Aside0.mk (hbox); have n6_ := Aside0.mk ((by rw [hg]; exact (below_size (by repeat (first | (with_reducible first | exact HB.out | apply below_alloc | apply pw_below_drewN | apply below_drew1 | refine below_set ?_ GE109.out | refine below_set ?_ GE110.out | refine below_set ?_ GE111.out) | exact HB.out))) : w.heap.size ≤ gb113)); have n7_ := Aside0.mk ((by rw [hg]; exact (below_size (by repeat (first | (with_reducible first | exact HB.out | apply below_alloc | apply pw_below_drewN | apply below_drew1 | refine below_set ?_ GE109.out | refine below_set ?_ GE110.out | refine below_set ?_ GE111.out) | exact HB.out))) : w.heap.size ≤ gb113)); have n8_ := Aside0.mk ((by rw [hg]; exact Nat.ne_of_lt (blk_lt (g := gb109) (o := .cells #[.int .u32 a0_0, .int .u64 a0_1, .int .u32 a0_2, .int .u32 a0_3, .int .u32 a0_4, .int .u32 a0_5, .int .u32 a0_6, .slice (some ad112) l0_7.length c0_7] 139 (0, 0)) (by (with_reducible repeat (first | refine blk_drewN ?_ _ | refine blk_drew ?_ | refine blk_alloc ?_ _)); exact BK109.out)) : gb109 ≠ gb113)); have n9_ := Aside0.mk ((by rw [hg]; exact Nat.ne_of_gt (blk_lt (g := gb109) (o := .cells #[.int .u32 a0_0, .int .u64 a0_1, .int .u32 a0_2, .int .u32 a0_3, .int .u32 a0_4, .int .u32 a0_5, .int .u32 a0_6, .slice (some ad112) l0_7.length c0_7] 139 (0, 0)) (by (with_reducible repeat (first | refine blk_drewN ?_ _ | refine blk_drew ?_ | refine blk_alloc ?_ _)); exact BK109.out)) : gb113 ≠ gb109)); have n10_ := Aside0.mk ((by rw [hg]; exact Nat.ne_of_lt (blk_lt (g := gb110) (o := .cells #[.int .u32 0, .int .u64 0, .int .u32 0, .int .u32 0, .int .u32 0, .int .u32 0, .int .u32 0, .slice none 0 0] 26 (0, 0)) (by (with_reducible repeat (first | refine blk_drewN ?_ _ | refine blk_drew ?_ | refine blk_alloc ?_ _)); exact BK110.out)) : gb110 ≠ gb113)); have n11_ := Aside0.mk ((by rw [hg]; exact Nat.ne_of_gt (blk_lt (g := gb110) (o := .cells #[.int .u32 0, .int .u64 0, .int .u32 0, .int .u32 0, .int .u32 0, .int .u32 0, .int .u32 0, .slice none 0 0] 26 (0, 0)) (by (with_reducible repeat (first | refine blk_drewN ?_ _ | refine blk_drew ?_ | refine blk_alloc ?_ _)); exact BK110.out)) : gb113 ≠ gb110)); have n12_ := Aside0.mk ((by rw [hg]; exact Nat.ne_of_lt (blk_lt (g := gb111) (o := .cells #[.int .u32 a0_0, .int .u64 a0_1, .int .u32 a0_2, .int .u32 a0_3, .int .u32 a0_4, .int .u32 a0_5, .int .u32 a0_6, u112007] 26 (0, 0)) (by (with_reducible repeat (first | refine blk_drewN ?_ _ | refine blk_drew ?_ | refine blk_alloc ?_ _)); exact BK111.out)) : gb111 ≠ gb113)); have n13_ := Aside0.mk ((by rw [hg]; exact Nat.ne_of_gt (blk_lt (g := gb111) (o := .cells #[.int .u32 a0_0, .int .u64 a0_1, .int .u32 a0_2, .int .u32 a0_3, .int .u32 a0_4, .int .u32 a0_5, .int .u32 a0_6, u112007] 26 (0, 0)) (by (with_reducible repeat (first | refine blk_drewN ?_ _ | refine blk_drew ?_ | refine blk_alloc ?_ _)); exact BK111.out)) : gb113 ≠ gb111)); clear HO_112007; clear BK109; clear BK110; clear BK111; clear HB; have HO_112007 := n0_; have BK109 := n1_; have BK110 := n2_; have BK111 := n3_; have HB := n4_; have BK113 := n5_; have GW113 := n6_; have GE113 := n7_; have NB109_113 := n8_; have NB113_109 := n9_; have NB110_113 := n10_; have NB113_110 := n11_; have NB111_113 := n12_; have NB113_111 := n13_; clear n0_ n1_ n2_ n3_ n4_ n5_ n6_ n7_ n8_ n9_ n10_ n11_ n12_ n13_; clear hb hbox hg; have hnb16 := NB113_109.out; have hnc16 := NB109_113.out; have hnb17 := NB113_110.out; have hnc17 := NB110_113.out; have hnb18 := NB113_111.out; have hnc18 := NB111_113.out; have hcz19_0 : w15.cell? ⟨gb113, 0, none⟩ = some (.string (⟨#[]⟩ : ByteArray)) := (blk_cell BK113.out 0).trans rfl; have hcz19_1 : w15.cell? ⟨gb113, 1, none⟩ = some (.string (⟨#[]⟩ : ByteArray)) := (blk_cell BK113.out 1).trans rfl; have hfz19_0 := blk_frozen BK113.out 0; have hfz19_1 := blk_frozen BK113.out 1; have hnb20 := NB111_109.out; have hnc20 := NB109_111.out; have hnb21 := NB111_110.out; have hnc21 := NB110_111.out; have hcz22_0 : w15.cell? ⟨gb111, 0, none⟩ = some (.int .u32 a0_0) := (blk_cell BK111.out 0).trans rfl; have hcz22_1 : w15.cell? ⟨gb111, 1, none⟩ = some (.int .u64 a0_1) := (blk_cell BK111.out 1).trans rfl; have hcz22_2 : w15.cell? ⟨gb111, 2, none⟩ = some (.int .u32 a0_2) := (blk_cell BK111.out 2).trans rfl; have hcz22_3 : w15.cell? ⟨gb111, 3, none⟩ = some (.int .u32 a0_3) := (blk_cell BK111.out 3).trans rfl; have hcz22_4 : w15.cell? ⟨gb111, 4, none⟩ = some (.int .u32 a0_4) := (blk_cell BK111.out 4).trans rfl; have hcz22_5 : w15.cell? ⟨gb111, 5, none⟩ = some (.int .u32 a0_5) := (blk_cell BK111.out 5).trans rfl; have hcz22_6 : w15.cell? ⟨gb111, 6, none⟩ = some (.int .u32 a0_6) := (blk_cell BK111.out 6).trans rfl; have hcz22_7 : w15.cell? ⟨gb111, 7, none⟩ = some (u112007) := (blk_cell BK111.out 7).trans rfl; have hfz22_0 := blk_frozen BK111.out 0; have hfz22_1 := blk_frozen BK111.out 1; have hfz22_2 := blk_frozen BK111.out 2; have hfz22_3 := blk_frozen BK111.out 3; have hfz22_4 := blk_frozen BK111.out 4; have hfz22_5 := blk_frozen BK111.out 5; have hfz22_6 := blk_frozen BK111.out 6; have hfz22_7 := blk_frozen BK111.out 7) | ((with_reducible refine gate_builtin (b := .append) (xs := #[.tmp 29, .tmp 35]) rfl ?_); at_builtin; refine Kd.R_append k89 (w0 := w) w.heap.size rfl (.tmp 29) (.tmp 35) 24 89 (.agg #[(.string ⟨#[]⟩), (.string ⟨#[]⟩)]) 32 rfl Tryz.underlying24 info89 rfl (by decide) (by omega) u112007 x112007_1 (⟨(rd_T266 l0_7 x24_1).f0, (rd_T266 l0_7 x24_1).f1⟩ : S89) [.string ((rd_T266 l0_7 x24_1).f0), .string ((rd_T266 l0_7 x24_1).f1)] (fun _ => True) (fun _ => False) rfl (by first | (go_simp; done) | (go_simp; rfl)) ?aP (fun _ hk => hk.elim) ?aF ?aO ?aB ?aS ?aL ?_; (case aP => exact k89_mkM _ _ _ (⟨(rd_T266 l0_7 x24_1).f0, (rd_T266 l0_7 x24_1).f1⟩ : S89)); (case aB => exact (by repeat (first | (with_reducible first | exact HB.out | apply below_alloc | apply pw_below_drewN | apply below_drew1 | refine below_set ?_ GE109.out | refine below_set ?_ GE110.out | refine below_set ?_ GE111.out | refine below_set ?_ GE113.out) | exact HB.out))); (case aF => exact (fun _ _ => trivial)); (case aO => exact (by (with_reducible repeat (first | apply Kd.R_alloc | apply Kd.R_drewN | apply Kd.R_drew)); exact Kd.R_mono (Kd.R_far (p := ⟨gb113, 1, none⟩) (Kd.R_far (p := ⟨gb113, 0, none⟩) (Kd.R_types HO_112007.out BK113.out (by decide)) (fun _ hk => hk.2) (.string ((rd_T266 l0_7 x24_1).f0))) (fun _ hk => hk.2) (.string ((rd_T266 l0_7 x24_1).f1))) (fun _ hk => trivial))); (case aS => exact (below_size (by repeat (first | (with_reducible first | exact HB.out | apply below_alloc | apply pw_below_drewN | apply below_drew1 | refine below_set ?_ GE109.out | refine below_set ?_ GE110.out | refine below_set ?_ GE111.out | refine below_set ?_ GE113.out) | exact HB.out)))); (case aL => have := LMc14.out; omega); intro v115 w23 ho hb hg hat; rw [← Ny114.out] at ho; have n0_ := Aside0.mk (blk_grown (g := gb109) (o := .cells #[.int .u32 a0_0, .int .u64 a0_1, .int .u32 a0_2, .int .u32 a0_3, .int .u32 a0_4, .int .u32 a0_5, .int .u32 a0_6, .slice (some ad112) l0_7.length c0_7] 139 (0, 0)) (by (with_reducible repeat (first | refine blk_drewN ?_ _ | refine blk_drew ?_ | refine blk_alloc ?_ _)); refine blk_far ?_ NB109_113.out _; (with_reducible repeat (first | refine blk_drewN ?_ _ | refine blk_drew ?_ | refine blk_alloc ?_ _)); refine blk_far ?_ NB109_113.out _; (with_reducible repeat (first | refine blk_drewN ?_ _ | refine blk_drew ?_ | refine blk_alloc ?_ _)); exact BK109.out) hg (Kd.R_ne HO_112007.out BK109.out (by decide))); have n1_ := Aside0.mk (blk_grown (g := gb110) (o := .cells #[.int .u32 0, .int .u64 0, .int .u32 0, .int .u32 0, .int .u32 0, .int .u32 0, .int .u32 0, .slice none 0 0] 26 (0, 0)) (by (with_reducible repeat (first | refine blk_drewN ?_ _ | refine blk_drew ?_ | refine blk_alloc ?_ _)); refine blk_far ?_ NB110_113.out _; (with_reducible repeat (first | refine blk_drewN ?_ _ | refine blk_drew ?_ | refine blk_alloc ?_ _)); refine blk_far ?_ NB110_113.out _; (with_reducible repeat (first | refine blk_drewN ?_ _ | refine blk_drew ?_ | refine blk_alloc ?_ _)); exact BK110.out) hg (Kd.R_ne HO_112007.out BK110.out (by decide))); have n2_ := Aside0.mk (blk_grown (g := gb111) (o := .cells #[.int .u32 a0_0, .int .u64 a0_1, .int .u32 a0_2, .int .u32 a0_3, .int .u32 a0_4, .int .u32 a0_5, .int .u32 a0_6, u112007] 26 (0, 0)) (by (with_reducible repeat (first | refine blk_drewN ?_ _ | refine blk_drew ?_ | refine blk_alloc ?_ _)); refine blk_far ?_ NB111_113.out _; (with_reducible repeat (first | refine blk_drewN ?_ _ | refine blk_drew ?_ | refine blk_alloc ?_ _)); refine blk_far ?_ NB111_113.out _; (with_reducible repeat (first | refine blk_drewN ?_ _ | refine blk_drew ?_ | refine blk_alloc ?_ _)); exact BK111.out) hg (Kd.R_ne HO_112007.out BK111.out (by decide))); have n3_ := Aside0.mk (blk_grown (g := gb113) (o := .cells #[.string ((rd_T266 l0_7 x24_1).f0), .string ((rd_T266 l0_7 x24_1).f1)] 266 (0, 0)) (by (with_reducible repeat (first | refine blk_drewN ?_ _ | refine blk_drew ?_ | refine blk_alloc ?_ _)); refine blk_put (cs := #[.string ((rd_T266 l0_7 x24_1).f0), .string (⟨#[]⟩ : ByteArray)]) ?_ 1 _ rfl; (with_reducible repeat (first | refine blk_drewN ?_ _ | refine blk_drew ?_ | refine blk_alloc ?_ _)); refine blk_put (cs := #[.string (⟨#[]⟩ : ByteArray), .string (⟨#[]⟩ : ByteArray)]) ?_ 0 _ rfl; (with_reducible repeat (first | refine blk_drewN ?_ _ | refine blk_drew ?_ | refine blk_alloc ?_ _)); exact BK113.out) hg (Kd.R_ne HO_112007.out BK113.out (by decide))); have n4_ := Aside0.mk (hb); have n5_ := Aside0.mk (ho); clear BK109; clear BK110; clear BK111; clear BK113; clear HB; clear HO_112007; have BK109 := n0_; have BK110 := n1_; have BK111 := n2_; have BK113 := n3_; have HB := n4_; have HO116 := n5_; clear n0_ n1_ n2_ n3_ n4_ n5_; clear ho hb hg hat; obtain ⟨Ao24, co24, eo24⟩ := Kd.R_slice HO116.out; subst eo24; have hcz25_0 : w23.cell? ⟨gb111, 0, none⟩ = some (.int .u32 a0_0) := (blk_cell BK111.out 0).trans rfl; have hcz25_1 : w23.cell? ⟨gb111, 1, none⟩ = some (.int .u64 a0_1) := (blk_cell BK111.out 1).trans rfl; have hcz25_2 : w23.cell? ⟨gb111, 2, none⟩ = some (.int .u32 a0_2) := (blk_cell BK111.out 2).trans rfl; have hcz25_3 : w23.cell? ⟨gb111, 3, none⟩ = some (.int .u32 a0_3) := (blk_cell BK111.out 3).trans rfl; have hcz25_4 : w23.cell? ⟨gb111, 4, none⟩ = some (.int .u32 a0_4) := (blk_cell BK111.out 4).trans rfl; have hcz25_5 : w23.cell? ⟨gb111, 5, none⟩ = some (.int .u32 a0_5) := (blk_cell BK111.out 5).trans rfl; have hcz25_6 : w23.cell? ⟨gb111, 6, none⟩ = some (.int .u32 a0_6) := (blk_cell BK111.out 6).trans rfl; have hcz25_7 : w23.cell? ⟨gb111, 7, none⟩ = some (u112007) := (blk_cell BK111.out 7).trans rfl; have hfz25_0 := blk_frozen BK111.out 0; have hfz25_1 := blk_frozen BK111.out 1; have hfz25_2 := blk_frozen BK111.out 2; have hfz25_3 := blk_frozen BK111.out 3; have hfz25_4 := blk_frozen BK111.out 4; have hfz25_5 := blk_frozen BK111.out 5; have hfz25_6 := blk_frozen BK111.out 6; have hfz25_7 := blk_frozen BK111.out 7))
              go_roundg k1
              case measure => have := HK1.out; omega
              case rel => exact ⟨(wrap64 (x24_1 + 1)), (y114), (.slice Ao24 y114.length co24), (by first | rfl | (simp; done) | (simp [*]; done)), H', ⟨by have := HK1.out; omega⟩, ⟨by (with_reducible repeat (first | apply Kd.R_alloc | apply Kd.R_drewN | apply Kd.R_drew)); exact Kd.R_mono (Kd.R_far (p := ⟨gb111, 7, none⟩) (Kd.R_types HO116.out BK111.out (by decide)) (fun _ hk => hk.2) (.slice Ao24 y114.length co24)) (fun _ hk => trivial)⟩, ⟨by (with_reducible repeat (first | refine blk_drewN ?_ _ | refine blk_drew ?_ | refine blk_alloc ?_ _)); refine blk_far ?_ NB109_111.out _; (with_reducible repeat (first | refine blk_drewN ?_ _ | refine blk_drew ?_ | refine blk_alloc ?_ _)); exact BK109.out⟩, ⟨by (with_reducible repeat (first | refine blk_drewN ?_ _ | refine blk_drew ?_ | refine blk_alloc ?_ _)); refine blk_far ?_ NB110_111.out _; (with_reducible repeat (first | refine blk_drewN ?_ _ | refine blk_drew ?_ | refine blk_alloc ?_ _)); exact BK110.out⟩, ⟨by (with_reducible repeat (first | refine blk_drewN ?_ _ | refine blk_drew ?_ | refine blk_alloc ?_ _)); refine blk_put (cs := #[.int .u32 a0_0, .int .u64 a0_1, .int .u32 a0_2, .int .u32 a0_3, .int .u32 a0_4, .int .u32 a0_5, .int .u32 a0_6, u112007]) ?_ 7 _ rfl; (with_reducible repeat (first | refine blk_drewN ?_ _ | refine blk_drew ?_ | refine blk_alloc ?_ _)); exact BK111.out⟩, ⟨by repeat (first | (with_reducible first | exact HB.out | apply below_alloc | apply pw_below_drewN | apply below_drew1 | refine below_set ?_ GE109.out | refine below_set ?_ GE110.out | refine below_set ?_ GE111.out | refine below_set ?_ GE113.out) | exact HB.out)⟩⟩
            · rw [if_neg c14] at H
              exact absurd H (by simp)
          · rw [if_neg c13] at H
            exact absurd H (by simp)
        · rw [if_neg c12] at H
          exact absurd H (by simp)
      · rw [if_neg c11] at H
        have c11b0 : decide (x24_1 < (l0_7.length : Int)) = false := decide_eq_false c11
        clear c11
        simp only [Option.some.injEq, Prod.mk.injEq] at H
        obtain ⟨rfl, rfl, rfl, rfl, rfl, rfl, rfl, rfl⟩ := H
        have hnb26 := NB111_109.out
        have hnc26 := NB109_111.out
        have hnb27 := NB111_110.out
        have hnc27 := NB110_111.out
        have hcz28_0 : wr.cell? ⟨gb111, 0, none⟩ = some (.int .u32 a0_0) := (blk_cell BK111.out 0).trans rfl
        have hcz28_1 : wr.cell? ⟨gb111, 1, none⟩ = some (.int .u64 a0_1) := (blk_cell BK111.out 1).trans rfl
        have hcz28_2 : wr.cell? ⟨gb111, 2, none⟩ = some (.int .u32 a0_2) := (blk_cell BK111.out 2).trans rfl
        have hcz28_3 : wr.cell? ⟨gb111, 3, none⟩ = some (.int .u32 a0_3) := (blk_cell BK111.out 3).trans rfl
        have hcz28_4 : wr.cell? ⟨gb111, 4, none⟩ = some (.int .u32 a0_4) := (blk_cell BK111.out 4).trans rfl
        have hcz28_5 : wr.cell? ⟨gb111, 5, none⟩ = some (.int .u32 a0_5) := (blk_cell BK111.out 5).trans rfl
        have hcz28_6 : wr.cell? ⟨gb111, 6, none⟩ = some (.int .u32 a0_6) := (blk_cell BK111.out 6).trans rfl
        have hcz28_7 : wr.cell? ⟨gb111, 7, none⟩ = some (u112007) := (blk_cell BK111.out 7).trans rfl
        have hfz28_0 := blk_frozen BK111.out 0
        have hfz28_1 := blk_frozen BK111.out 1
        have hfz28_2 := blk_frozen BK111.out 2
        have hfz28_3 := blk_frozen BK111.out 3
        have hfz28_4 := blk_frozen BK111.out 4
        have hfz28_5 := blk_frozen BK111.out 5
        have hfz28_6 := blk_frozen BK111.out 6
        have hfz28_7 := blk_frozen BK111.out 7
        have hnb29 := NB110_109.out
        have hnc29 := NB109_110.out
        have hcz30_0 : wr.cell? ⟨gb110, 0, none⟩ = some (.int .u32 0) := (blk_cell BK110.out 0).trans rfl
        have hcz30_1 : wr.cell? ⟨gb110, 1, none⟩ = some (.int .u64 0) := (blk_cell BK110.out 1).trans rfl
        have hcz30_2 : wr.cell? ⟨gb110, 2, none⟩ = some (.int .u32 0) := (blk_cell BK110.out 2).trans rfl
        have hcz30_3 : wr.cell? ⟨gb110, 3, none⟩ = some (.int .u32 0) := (blk_cell BK110.out 3).trans rfl
        have hcz30_4 : wr.cell? ⟨gb110, 4, none⟩ = some (.int .u32 0) := (blk_cell BK110.out 4).trans rfl
        have hcz30_5 : wr.cell? ⟨gb110, 5, none⟩ = some (.int .u32 0) := (blk_cell BK110.out 5).trans rfl
        have hcz30_6 : wr.cell? ⟨gb110, 6, none⟩ = some (.int .u32 0) := (blk_cell BK110.out 6).trans rfl
        have hcz30_7 : wr.cell? ⟨gb110, 7, none⟩ = some (.slice none 0 0) := (blk_cell BK110.out 7).trans rfl
        have hfz30_0 := blk_frozen BK110.out 0
        have hfz30_1 := blk_frozen BK110.out 1
        have hfz30_2 := blk_frozen BK110.out 2
        have hfz30_3 := blk_frozen BK110.out 3
        have hfz30_4 := blk_frozen BK110.out 4
        have hfz30_5 := blk_frozen BK110.out 5
        have hfz30_6 := blk_frozen BK110.out 6
        have hfz30_7 := blk_frozen BK110.out 7
        obtain ⟨Ao31, co31, eo31⟩ := Kd.R_slice HO_112007.out
        subst eo31
        go_wp2
        refine bodyPost_ret (results_cell_row rfl _ _ gb110 26 #[.int .u32 a0_0, .int .u64 a0_1, .int .u32 a0_2, .int .u32 a0_3, .int .u32 a0_4, .int .u32 a0_5, .int .u32 a0_6, .slice Ao31 x112007_1.length co31] (0, 0) _ rfl (by (with_reducible repeat (first | refine blk_drewN ?_ _ | refine blk_drew ?_ | refine blk_alloc ?_ _)); refine blk_put (cs := #[.int .u32 a0_0, .int .u64 a0_1, .int .u32 a0_2, .int .u32 a0_3, .int .u32 a0_4, .int .u32 a0_5, .int .u32 a0_6, .slice none 0 0]) ?_ 7 _ rfl; (with_reducible repeat (first | refine blk_drewN ?_ _ | refine blk_drew ?_ | refine blk_alloc ?_ _)); refine blk_put (cs := #[.int .u32 a0_0, .int .u64 a0_1, .int .u32 a0_2, .int .u32 a0_3, .int .u32 a0_4, .int .u32 a0_5, .int .u32 0, .slice none 0 0]) ?_ 6 _ rfl; (with_reducible repeat (first | refine blk_drewN ?_ _ | refine blk_drew ?_ | refine blk_alloc ?_ _)); refine blk_put (cs := #[.int .u32 a0_0, .int .u64 a0_1, .int .u32 a0_2, .int .u32 a0_3, .int .u32 a0_4, .int .u32 0, .int .u32 0, .slice none 0 0]) ?_ 5 _ rfl; (with_reducible repeat (first | refine blk_drewN ?_ _ | refine blk_drew ?_ | refine blk_alloc ?_ _)); refine blk_put (cs := #[.int .u32 a0_0, .int .u64 a0_1, .int .u32 a0_2, .int .u32 a0_3, .int .u32 0, .int .u32 0, .int .u32 0, .slice none 0 0]) ?_ 4 _ rfl; (with_reducible repeat (first | refine blk_drewN ?_ _ | refine blk_drew ?_ | refine blk_alloc ?_ _)); refine blk_put (cs := #[.int .u32 a0_0, .int .u64 a0_1, .int .u32 a0_2, .int .u32 0, .int .u32 0, .int .u32 0, .int .u32 0, .slice none 0 0]) ?_ 3 _ rfl; (with_reducible repeat (first | refine blk_drewN ?_ _ | refine blk_drew ?_ | refine blk_alloc ?_ _)); refine blk_put (cs := #[.int .u32 a0_0, .int .u64 a0_1, .int .u32 0, .int .u32 0, .int .u32 0, .int .u32 0, .int .u32 0, .slice none 0 0]) ?_ 2 _ rfl; (with_reducible repeat (first | refine blk_drewN ?_ _ | refine blk_drew ?_ | refine blk_alloc ?_ _)); refine blk_put (cs := #[.int .u32 a0_0, .int .u64 0, .int .u32 0, .int .u32 0, .int .u32 0, .int .u32 0, .int .u32 0, .slice none 0 0]) ?_ 1 _ rfl; (with_reducible repeat (first | refine blk_drewN ?_ _ | refine blk_drew ?_ | refine blk_alloc ?_ _)); refine blk_put (cs := #[.int .u32 0, .int .u64 0, .int .u32 0, .int .u32 0, .int .u32 0, .int .u32 0, .int .u32 0, .slice none 0 0]) ?_ 0 _ rfl; (with_reducible repeat (first | refine blk_drewN ?_ _ | refine blk_drew ?_ | refine blk_alloc ?_ _)); exact BK110.out) Tryz.underlying26 rfl (by kernel_rfl)) rfl ?_
        exact ⟨_, by first | rfl | (simp [errW_none, errW_some] <;> rfl) | (simp [*, errW_none, errW_some] <;> rfl), by (with_reducible repeat (first | apply Kd.R_alloc | apply Kd.R_drewN | apply Kd.R_drew)); exact Kd.R_mono (Kd.R_far (p := ⟨gb110, 7, none⟩) (Kd.R_far (p := ⟨gb110, 6, none⟩) (Kd.R_far (p := ⟨gb110, 5, none⟩) (Kd.R_far (p := ⟨gb110, 4, none⟩) (Kd.R_far (p := ⟨gb110, 3, none⟩) (Kd.R_far (p := ⟨gb110, 2, none⟩) (Kd.R_far (p := ⟨gb110, 1, none⟩) (Kd.R_far (p := ⟨gb110, 0, none⟩) (Kd.R_types HO_112007.out BK110.out (by decide)) (fun _ hk => hk.2) (.int .u32 a0_0)) (fun _ hk => hk.2) (.int .u64 a0_1)) (fun _ hk => hk.2) (.int .u32 a0_2)) (fun _ hk => hk.2) (.int .u32 a0_3)) (fun _ hk => hk.2) (.int .u32 a0_4)) (fun _ hk => hk.2) (.int .u32 a0_5)) (fun _ hk => hk.2) (.int .u32 a0_6)) (fun _ hk => hk.2) (.slice Ao31 x112007_1.length co31)) (fun _ hk => trivial), by repeat (first | (with_reducible first | exact HB.out | apply below_alloc | apply pw_below_drewN | apply below_drew1 | refine below_set ?_ GE109.out | refine below_set ?_ GE110.out | refine below_set ?_ GE111.out) | exact HB.out)⟩
end Go.Proofs.YtmenkckgpiafiaaGreat.PA
namespace Go.Proofs.YtmenkckgpiafiaaGreat.PS
open Go.Proofs.YtmenkckgpiafiaaGreat.KK Go.RowKit Go.Proofs.YtmenkckgpiafiaaGreatW.PrintWords Go.Proofs.YtmenkckgpiafiaaGreatW.PrintLast Go.Proofs.YtmenkckgpiafiaaGreatW.PrintMore
attribute [local go_sem] max2_int min2_int max_two min_two max_three min_three max_four min_four
set_option linter.unusedVariables false
set_option linter.unusedSimpArgs false
def errW : Option Int → Value
  | none => .nilIface
  | some c => .iface 0 (.int .i64 c)
theorem errW_none : errW none = .nilIface := rfl
theorem errW_some (c : Int) : errW (some c) = .iface 0 (.int .i64 c) := rfl
end Go.Proofs.YtmenkckgpiafiaaGreat.PS
namespace Go.Proofs.YtmenkckgpiafiaaGreat.PS
open Go.Proofs.YtmenkckgpiafiaaGreat.KK Go.RowKit Go.Proofs.YtmenkckgpiafiaaGreatW.PrintWords Go.Proofs.YtmenkckgpiafiaaGreatW.PrintLast Go.Proofs.YtmenkckgpiafiaaGreatW.PrintMore
attribute [local go_sem] max2_int min2_int max_two min_two max_three min_three max_four min_four
set_option linter.unusedVariables false
set_option linter.unusedSimpArgs false
theorem eqA89 (d : Nat) (w : World) (x0 y0 : ByteArray) (x1 y1 : ByteArray) :
    (Op.equalIn (d + 2) 89 (.agg #[.string x0, .string x1]) (.agg #[.string y0, .string y1])).run Tryz.prog w = .ok (x0.toList == y0.toList && (x1.toList == y1.toList)) w := by
  refine eqA_of Tryz.underlying89 (by kernel_rfl) ?_
  refine eqf_cons (by rfl) (by go_simp; rfl) (by go_simp; rfl) (by go_simp) ?_
  exact eqf_last (by rfl) (by go_simp; rfl) (by go_simp; rfl) (by go_simp)
end Go.Proofs.YtmenkckgpiafiaaGreat.PS
namespace Go.Proofs.YtmenkckgpiafiaaGreat.PS
open Go.Proofs.YtmenkckgpiafiaaGreat.KK Go.RowKit Go.Proofs.YtmenkckgpiafiaaGreatW.PrintWords Go.Proofs.YtmenkckgpiafiaaGreatW.PrintLast Go.Proofs.YtmenkckgpiafiaaGreatW.PrintMore
attribute [local go_sem] max2_int min2_int max_two min_two max_three min_three max_four min_four
set_option linter.unusedVariables false
set_option linter.unusedSimpArgs false
attribute [local go_sem high] eqA89
def laws_sameExts.l0 : Nat → List (S89) → List (S89) → Int → Int → Option (Bool)
  | 0, _, _, _, _ => none
  | k + 1, x0, x1, x12, x13 => if x13 < x12 then (if 0 ≤ x13 then (if x13 < (x0.length : Int) then (if x13 < (x1.length : Int) then (if (!((((rd_T89 x0 x13).f0).toList) == (((rd_T89 x1 x13).f0).toList)) || (!((((rd_T89 x0 x13).f1).toList) == (((rd_T89 x1 x13).f1).toList)))) = true then (some false) else (laws_sameExts.l0 k x0 x1 x12 (wrap64 (x13 + 1)))) else (none)) else (none)) else (none)) else (some true)
def laws_sameExts.f (k : Nat) (l0 : List (S89)) (l1 : List (S89)) : Option (Bool) := if (l0.length : Int) = (l1.length : Int) then (laws_sameExts.l0 k l0 l1 (l0.length : Int) 0) else (some false)
theorem laws_sameExts.mono_l : ∀ k, (∀ y0 y1 y2 y3, LeO (laws_sameExts.l0 k y0 y1 y2 y3) (laws_sameExts.l0 (k + 1) y0 y1 y2 y3))
  | 0 => fun _ _ _ _ r h => by simp [laws_sameExts.l0] at h
  | k + 1 => by
    have ih0 := laws_sameExts.mono_l k
    · intro y0 y1 y2 y3
      unfold laws_sameExts.l0
      repeat' first
      | (with_reducible exact ih0 _ _ _ _)
      | (with_reducible exact LeO.refl _)
      | (with_reducible exact LeO.none _)
      | (with_reducible refine LeO.ite ?_ ?_)
      | (with_reducible refine LeO.bind ?_ (fun _ => ?_))
      | exact ih0 _ _ _ _
      | exact LeO.none _
      | refine LeO.ite ?_ ?_
      | refine LeO.bind ?_ (fun _ => ?_)
theorem laws_sameExts.mono : ∀ a0 a1 k, LeO (laws_sameExts.f k a0 a1) (laws_sameExts.f (k + 1) a0 a1) := by
  intro a0 a1 k
  have ih0 := laws_sameExts.mono_l k
  unfold laws_sameExts.f
  repeat' first
      | (with_reducible exact ih0 _ _ _ _)
      | (with_reducible exact LeO.refl _)
      | (with_reducible exact LeO.none _)
      | (with_reducible refine LeO.ite ?_ ?_)
      | (with_reducible refine LeO.bind ?_ (fun _ => ?_))
      | exact ih0 _ _ _ _
      | exact LeO.none _
      | refine LeO.ite ?_ ?_
      | refine LeO.bind ?_ (fun _ => ?_)
set_option maxHeartbeats 8000000 in
set_option maxRecDepth 100000 in
theorem laws_sameExts.calls (k : Nat) (A0 : Option Addr) (c0 : Nat) (l0 : List (S89)) (A1 : Option Addr) (c1 : Nat) (l1 : List (S89)) (r : Bool) (w : World) (hr0 : Kd.C k89 w A0 l0.length l0) (hc0 : l0.length ≤ c0) (hr1 : Kd.C k89 w A1 l1.length l1) (hc1 : l1.length ≤ c1) (h : laws_sameExts.f k l0 l1 = some r) :
    Calls Tryz.prog 62 #[.slice A0 l0.length c0, .slice A1 l1.length c1] w fun e w' => e = .returned (.bool r) ∧ Drawn0 w w' := by
  have hu89 := Tryz.underlying89
  have HR0 := Aside0.mk hr0
  have HC0 := Aside0.mk hc0
  clear hr0 hc0
  have HR1 := Aside0.mk hr1
  have HC1 := Aside0.mk hc1
  clear hr1 hc1
  have H : (if (l0.length : Int) = (l1.length : Int) then (laws_sameExts.l0 k l0 l1 (l0.length : Int) 0) else (some false)) = some r := h
  clear h
  by_cases c3 : (l0.length : Int) = (l1.length : Int)
  · rw [if_pos c3] at H
    have c3b0 : ((l0.length : Int) == (l1.length : Int)) = true := beq_iff_eq.mpr c3
    have c3b1 : ((l0.length : Int) != (l1.length : Int)) = false := bne_eq_false_iff_eq.mpr c3
    have c3b2 : (l0.length == l1.length) = true := by first | simpa using c3 | (simp at c3 ⊢; omega)
    clear c3
    have H' := Aside0.mk H
    clear H
    go_enter Tryz.func62, Tryz.ntmps62
    go_wp2
    repeat (go_quiet (fail); try go_wp2)
    go_loopg [13] k (fun kq v13 w' => ∃ (x13_1 : Int), v13 = .int .i64 x13_1 ∧ Aside0 (laws_sameExts.l0 kq l0 l1 (l0.length : Int) x13_1 = some r) ∧ Aside0 (kq ≤ k) ∧ Drawn0 w w')
    case atStart => exact ⟨(0), (by first | rfl | (simp; done) | (simp [*]; done)), H', ⟨Nat.le_refl _⟩, by repeat (first | exact Drawn0.refl _ | apply Drawn0.step)⟩
    case round =>
      clear H'
      try clear c1
      try clear p2
      try clear c3
      try clear c3b0
      try clear c3b1
      try clear c3b2
      obtain ⟨x13_1, rfl, HA, HK1, ⟨m1, rfl⟩⟩ := hrel
      cases gk with
      | zero => exact absurd HA.out (by simp [laws_sameExts.l0])
      | succ k1 =>
        have H := HA.out
        clear HA
        simp only [laws_sameExts.l0] at H
        by_cases c4 : x13_1 < (l0.length : Int)
        · rw [if_pos c4] at H
          have c4b0 : decide (x13_1 < (l0.length : Int)) = true := decide_eq_true c4
          clear c4
          by_cases c5 : 0 ≤ x13_1
          · rw [if_pos c5] at H
            have c5b0 : decide (0 ≤ x13_1) = true := decide_eq_true c5
            clear c5
            by_cases c6 : x13_1 < (l0.length : Int)
            · rw [if_pos c6] at H
              have c6b0 : decide (x13_1 < (l0.length : Int)) = true := decide_eq_true c6
              clear c6
              by_cases c7 : x13_1 < (l1.length : Int)
              · rw [if_pos c7] at H
                have c7b0 : decide (x13_1 < (l1.length : Int)) = true := decide_eq_true c7
                clear c7
                by_cases c8 : (!((((rd_T89 l0 x13_1).f0).toList) == (((rd_T89 l1 x13_1).f0).toList)) || (!((((rd_T89 l0 x13_1).f1).toList) == (((rd_T89 l1 x13_1).f1).toList)))) = true
                · rw [if_pos c8] at H
                  have c8b0 : (!((((rd_T89 l0 x13_1).f0).toList) == (((rd_T89 l1 x13_1).f0).toList)) || (!((((rd_T89 l0 x13_1).f1).toList) == (((rd_T89 l1 x13_1).f1).toList)))) = true := c8
                  clear c8
                  obtain rfl := Option.some.inj H
                  have p101 : 0 ≤ (x13_1 : Int) := of_decide_eq_true (by first | (with_reducible assumption) | assumption)
                  have q101 : x13_1 < (l0.length : Int) := of_decide_eq_true (by first | (with_reducible assumption) | assumption)
                  obtain ⟨ad101, e101, hx101_0, hx101_1⟩ := at_T89 HR0.out x13_1 p101 q101
                  cases e101
                  replace p101 := eq_true p101
                  replace q101 := eq_true q101
                  have p102 : 0 ≤ (x13_1 : Int) := of_decide_eq_true (by first | (with_reducible assumption) | assumption)
                  have q102 : x13_1 < (l1.length : Int) := of_decide_eq_true (by first | (with_reducible assumption) | assumption)
                  obtain ⟨ad102, e102, hx102_0, hx102_1⟩ := at_T89 HR1.out x13_1 p102 q102
                  cases e102
                  replace p102 := eq_true p102
                  replace q102 := eq_true q102
                  go_wp2
                  repeat (go_quiet (fail); try go_wp2)
                  go_ret
                  exact ⟨by first | rfl | (simp; done) | (simp [*]; done), by repeat (first | exact Drawn0.refl _ | apply Drawn0.step)⟩
                · rw [if_neg c8] at H
                  have c8b0 : (!((((rd_T89 l0 x13_1).f0).toList) == (((rd_T89 l1 x13_1).f0).toList)) || (!((((rd_T89 l0 x13_1).f1).toList) == (((rd_T89 l1 x13_1).f1).toList)))) = false := by simpa using c8
                  clear c8
                  have H' := Aside0.mk H
                  clear H
                  have p101 : 0 ≤ (x13_1 : Int) := of_decide_eq_true (by first | (with_reducible assumption) | assumption)
                  have q101 : x13_1 < (l0.length : Int) := of_decide_eq_true (by first | (with_reducible assumption) | assumption)
                  obtain ⟨ad101, e101, hx101_0, hx101_1⟩ := at_T89 HR0.out x13_1 p101 q101
                  cases e101
                  replace p101 := eq_true p101
                  replace q101 := eq_true q101
                  have p102 : 0 ≤ (x13_1 : Int) := of_decide_eq_true (by first | (with_reducible assumption) | assumption)
                  have q102 : x13_1 < (l1.length : Int) := of_decide_eq_true (by first | (with_reducible assumption) | assumption)
                  obtain ⟨ad102, e102, hx102_0, hx102_1⟩ := at_T89 HR1.out x13_1 p102 q102
                  cases e102
                  replace p102 := eq_true p102
                  replace q102 := eq_true q102
                  go_wp2
                  repeat (go_quiet (fail); try go_wp2)
                  go_roundg k1
                  case measure => have := HK1.out; omega
                  case rel => exact ⟨(wrap64 (x13_1 + 1)), (by first | rfl | (simp; done) | (simp [*]; done)), H', ⟨by have := HK1.out; omega⟩, by repeat (first | exact Drawn0.refl _ | apply Drawn0.step)⟩
              · rw [if_neg c7] at H
                exact absurd H (by simp)
            · rw [if_neg c6] at H
              exact absurd H (by simp)
          · rw [if_neg c5] at H
            exact absurd H (by simp)
        · rw [if_neg c4] at H
          have c4b0 : decide (x13_1 < (l0.length : Int)) = false := decide_eq_false c4
          clear c4
          obtain rfl := Option.some.inj H
          go_wp2
          repeat (go_quiet (fail); try go_wp2)
          go_ret
          exact ⟨by first | rfl | (simp; done) | (simp [*]; done), by repeat (first | exact Drawn0.refl _ | apply Drawn0.step)⟩
  · rw [if_neg c3] at H
    have c3b0 : ((l0.length : Int) == (l1.length : Int)) = false := beq_eq_false_iff_ne.mpr c3
    have c3b1 : ((l0.length : Int) != (l1.length : Int)) = true := bne_iff_ne.mpr c3
    have c3b2 : (l0.length == l1.length) = false := by first | simpa using c3 | (simp at c3 ⊢; omega)
    obtain rfl := Option.some.inj H
    go_enter Tryz.func62, Tryz.ntmps62
    go_wp2
    repeat (go_quiet (fail); try go_wp2)
    go_ret
    exact ⟨by first | rfl | (simp; done) | (simp [*]; done), by repeat (first | exact Drawn0.refl _ | apply Drawn0.step)⟩
def laws_sameAttrs.f (k : Nat) (a0_0 : Int) (a0_1 : Int) (a0_2 : Int) (a0_3 : Int) (a0_4 : Int) (a0_5 : Int) (a0_6 : Int) (l0_7 : List (S89)) (a1_0 : Int) (a1_1 : Int) (a1_2 : Int) (a1_3 : Int) (a1_4 : Int) (a1_5 : Int) (a1_6 : Int) (l1_7 : List (S89)) : Option (Bool) := if a0_0 = a1_0 then (if a0_1 = a1_1 then (if a0_2 = a1_2 then (if a0_3 = a1_3 then (if a0_4 = a1_4 then (if a0_5 = a1_5 then (if a0_6 = a1_6 then ((laws_sameExts.f k l0_7 l1_7).bind fun t105 => (some t105)) else (some false)) else (some false)) else (some false)) else (some false)) else (some false)) else (some false)) else (some false)
theorem laws_sameAttrs.mono : ∀ a0 a1 a2 a3 a4 a5 a6 a7 a8 a9 a10 a11 a12 a13 a14 a15 k, LeO (laws_sameAttrs.f k a0 a1 a2 a3 a4 a5 a6 a7 a8 a9 a10 a11 a12 a13 a14 a15) (laws_sameAttrs.f (k + 1) a0 a1 a2 a3 a4 a5 a6 a7 a8 a9 a10 a11 a12 a13 a14 a15) := by
  intro a0 a1 a2 a3 a4 a5 a6 a7 a8 a9 a10 a11 a12 a13 a14 a15 k
  unfold laws_sameAttrs.f
  repeat' first
      | (with_reducible exact laws_sameExts.mono _ _ _)
      | (with_reducible exact LeO.refl _)
      | (with_reducible exact LeO.none _)
      | (with_reducible refine LeO.ite ?_ ?_)
      | (with_reducible refine LeO.bind ?_ (fun _ => ?_))
      | exact laws_sameExts.mono _ _ _
      | exact LeO.none _
      | refine LeO.ite ?_ ?_
      | refine LeO.bind ?_ (fun _ => ?_)
set_option maxHeartbeats 8000000 in
set_option maxRecDepth 100000 in
theorem laws_sameAttrs.calls (k : Nat) (a0_0 : Int) (a0_1 : Int) (a0_2 : Int) (a0_3 : Int) (a0_4 : Int) (a0_5 : Int) (a0_6 : Int) (A0_7 : Option Addr) (c0_7 : Nat) (l0_7 : List (S89)) (a1_0 : Int) (a1_1 : Int) (a1_2 : Int) (a1_3 : Int) (a1_4 : Int) (a1_5 : Int) (a1_6 : Int) (A1_7 : Option Addr) (c1_7 : Nat) (l1_7 : List (S89)) (r : Bool) (w : World) (hr0_7 : Kd.C k89 w A0_7 l0_7.length l0_7) (hc0_7 : l0_7.length ≤ c0_7) (hr1_7 : Kd.C k89 w A1_7 l1_7.length l1_7) (hc1_7 : l1_7.length ≤ c1_7) (h : laws_sameAttrs.f k a0_0 a0_1 a0_2 a0_3 a0_4 a0_5 a0_6 l0_7 a1_0 a1_1 a1_2 a1_3 a1_4 a1_5 a1_6 l1_7 = some r) :
    Calls Tryz.prog 33 #[.agg #[.int .u32 a0_0, .int .u64 a0_1, .int .u32 a0_2, .int .u32 a0_3, .int .u32 a0_4, .int .u32 a0_5, .int .u32 a0_6, .slice A0_7 l0_7.length c0_7], .agg #[.int .u32 a1_0, .int .u64 a1_1, .int .u32 a1_2, .int .u32 a1_3, .int .u32 a1_4, .int .u32 a1_5, .int .u32 a1_6, .slice A1_7 l1_7.length c1_7]] w fun e w' => e = .returned (.bool r) ∧ Below w.heap.size w w' := by
  have hu26 := Tryz.underlying26
  have HR0_7 := Aside0.mk hr0_7
  have HC0_7 := Aside0.mk hc0_7
  clear hr0_7 hc0_7
  have HR1_7 := Aside0.mk hr1_7
  have HC1_7 := Aside0.mk hc1_7
  clear hr1_7 hc1_7
  have HB := Aside0.mk (Below.refl w.heap.size w)
  have H : (if a0_0 = a1_0 then (if a0_1 = a1_1 then (if a0_2 = a1_2 then (if a0_3 = a1_3 then (if a0_4 = a1_4 then (if a0_5 = a1_5 then (if a0_6 = a1_6 then ((laws_sameExts.f k l0_7 l1_7).bind fun t105 => (some t105)) else (some false)) else (some false)) else (some false)) else (some false)) else (some false)) else (some false)) else (some false)) = some r := h
  clear h
  by_cases c3 : a0_0 = a1_0
  · rw [if_pos c3] at H
    have c3b0 : (a0_0 == a1_0) = true := beq_iff_eq.mpr c3
    have c3b1 : (a0_0 != a1_0) = false := bne_eq_false_iff_eq.mpr c3
    clear c3
    by_cases c4 : a0_1 = a1_1
    · rw [if_pos c4] at H
      have c4b0 : (a0_1 == a1_1) = true := beq_iff_eq.mpr c4
      have c4b1 : (a0_1 != a1_1) = false := bne_eq_false_iff_eq.mpr c4
      clear c4
      by_cases c5 : a0_2 = a1_2
      · rw [if_pos c5] at H
        have c5b0 : (a0_2 == a1_2) = true := beq_iff_eq.mpr c5
        have c5b1 : (a0_2 != a1_2) = false := bne_eq_false_iff_eq.mpr c5
        clear c5
        by_cases c6 : a0_3 = a1_3
        · rw [if_pos c6] at H
          have c6b0 : (a0_3 == a1_3) = true := beq_iff_eq.mpr c6
          have c6b1 : (a0_3 != a1_3) = false := bne_eq_false_iff_eq.mpr c6
          clear c6
          by_cases c7 : a0_4 = a1_4
          · rw [if_pos c7] at H
            have c7b0 : (a0_4 == a1_4) = true := beq_iff_eq.mpr c7
            have c7b1 : (a0_4 != a1_4) = false := bne_eq_false_iff_eq.mpr c7
            clear c7
            by_cases c8 : a0_5 = a1_5
            · rw [if_pos c8] at H
              have c8b0 : (a0_5 == a1_5) = true := beq_iff_eq.mpr c8
              have c8b1 : (a0_5 != a1_5) = false := bne_eq_false_iff_eq.mpr c8
              clear c8
              by_cases c9 : a0_6 = a1_6
              · rw [if_pos c9] at H
                have c9b0 : (a0_6 == a1_6) = true := beq_iff_eq.mpr c9
                have c9b1 : (a0_6 != a1_6) = false := bne_eq_false_iff_eq.mpr c9
                clear c9
                replace H := Option.bind_eq_some_iff.mp H
                obtain ⟨t105, A100, H⟩ := H
                replace H : (some t105) = some r := H
                have A10 := Aside0.mk A100
                clear A100
                obtain rfl := Option.some.inj H
                go_enter Tryz.func33, Tryz.ntmps33
                go_wp2_with (first | ((with_reducible refine gate_dst (N := 2) rfl ?_); refine box_event ?hg (N := 2) ?hd (cs := #[.int .u32 a0_0, .int .u64 a0_1, .int .u32 a0_2, .int .u32 a0_3, .int .u32 a0_4, .int .u32 a0_5, .int .u32 a0_6, .slice A0_7 l0_7.length c0_7]) (t := 26) ?hr ?_; (case hd => rfl); (case hg => rfl); (case hr => first | (go_simp; done) | (go_simp; rfl)); intro gb103 hg w11 hbox hb; have n0_ := Aside0.mk (below_step (by repeat (first | (with_reducible first | exact HB.out | apply below_alloc | apply pw_below_drewN | apply below_drew1) | exact HB.out)) hb); have n1_ := Aside0.mk (hbox); have n2_ := Aside0.mk ((by rw [hg]; exact (below_size (by repeat (first | (with_reducible first | exact HB.out | apply below_alloc | apply pw_below_drewN | apply below_drew1) | exact HB.out))) : w.heap.size ≤ gb103)); have n3_ := Aside0.mk ((by rw [hg]; exact (below_size (by repeat (first | (with_reducible first | exact HB.out | apply below_alloc | apply pw_below_drewN | apply below_drew1) | exact HB.out))) : w.heap.size ≤ gb103)); clear HB; have HB := n0_; have BK103 := n1_; have GW103 := n2_; have GE103 := n3_; clear n0_ n1_ n2_ n3_; clear hb hbox hg) | ((with_reducible refine gate_dst (N := 3) rfl ?_); refine box_event ?hg (N := 3) ?hd (cs := #[.int .u32 a1_0, .int .u64 a1_1, .int .u32 a1_2, .int .u32 a1_3, .int .u32 a1_4, .int .u32 a1_5, .int .u32 a1_6, .slice A1_7 l1_7.length c1_7]) (t := 26) ?hr ?_; (case hd => rfl); (case hg => rfl); (case hr => first | (go_simp; done) | (go_simp; rfl)); intro gb104 hg w12 hbox hb; have n0_ := Aside0.mk (blk_below (g := gb103) (o := .cells #[.int .u32 a0_0, .int .u64 a0_1, .int .u32 a0_2, .int .u32 a0_3, .int .u32 a0_4, .int .u32 a0_5, .int .u32 a0_6, .slice A0_7 l0_7.length c0_7] 26 (0, 0)) (by (with_reducible repeat (first | refine blk_drewN ?_ _ | refine blk_drew ?_ | refine blk_alloc ?_ _)); exact BK103.out) hb); have n1_ := Aside0.mk (below_step (by repeat (first | (with_reducible first | exact HB.out | apply below_alloc | apply pw_below_drewN | apply below_drew1 | refine below_set ?_ GE103.out) | exact HB.out)) hb); have n2_ := Aside0.mk (hbox); have n3_ := Aside0.mk ((by rw [hg]; exact (below_size (by repeat (first | (with_reducible first | exact HB.out | apply below_alloc | apply pw_below_drewN | apply below_drew1 | refine below_set ?_ GE103.out) | exact HB.out))) : w.heap.size ≤ gb104)); have n4_ := Aside0.mk ((by rw [hg]; exact (below_size (by repeat (first | (with_reducible first | exact HB.out | apply below_alloc | apply pw_below_drewN | apply below_drew1 | refine below_set ?_ GE103.out) | exact HB.out))) : w.heap.size ≤ gb104)); have n5_ := Aside0.mk ((by rw [hg]; exact Nat.ne_of_lt (blk_lt (g := gb103) (o := .cells #[.int .u32 a0_0, .int .u64 a0_1, .int .u32 a0_2, .int .u32 a0_3, .int .u32 a0_4, .int .u32 a0_5, .int .u32 a0_6, .slice A0_7 l0_7.length c0_7] 26 (0, 0)) (by (with_reducible repeat (first | refine blk_drewN ?_ _ | refine blk_drew ?_ | refine blk_alloc ?_ _)); exact BK103.out)) : gb103 ≠ gb104)); have n6_ := Aside0.mk ((by rw [hg]; exact Nat.ne_of_gt (blk_lt (g := gb103) (o := .cells #[.int .u32 a0_0, .int .u64 a0_1, .int .u32 a0_2, .int .u32 a0_3, .int .u32 a0_4, .int .u32 a0_5, .int .u32 a0_6, .slice A0_7 l0_7.length c0_7] 26 (0, 0)) (by (with_reducible repeat (first | refine blk_drewN ?_ _ | refine blk_drew ?_ | refine blk_alloc ?_ _)); exact BK103.out)) : gb104 ≠ gb103)); clear BK103; clear HB; have BK103 := n0_; have HB := n1_; have BK104 := n2_; have GW104 := n3_; have GE104 := n4_; have NB103_104 := n5_; have NB104_103 := n6_; clear n0_ n1_ n2_ n3_ n4_ n5_ n6_; clear hb hbox hg; have hnb13 := NB103_104.out; have hnc13 := NB104_103.out; have hcz14_0 : w12.cell? ⟨gb103, 0, none⟩ = some (.int .u32 a0_0) := (blk_cell BK103.out 0).trans rfl; have hcz14_1 : w12.cell? ⟨gb103, 1, none⟩ = some (.int .u64 a0_1) := (blk_cell BK103.out 1).trans rfl; have hcz14_2 : w12.cell? ⟨gb103, 2, none⟩ = some (.int .u32 a0_2) := (blk_cell BK103.out 2).trans rfl; have hcz14_3 : w12.cell? ⟨gb103, 3, none⟩ = some (.int .u32 a0_3) := (blk_cell BK103.out 3).trans rfl; have hcz14_4 : w12.cell? ⟨gb103, 4, none⟩ = some (.int .u32 a0_4) := (blk_cell BK103.out 4).trans rfl; have hcz14_5 : w12.cell? ⟨gb103, 5, none⟩ = some (.int .u32 a0_5) := (blk_cell BK103.out 5).trans rfl; have hcz14_6 : w12.cell? ⟨gb103, 6, none⟩ = some (.int .u32 a0_6) := (blk_cell BK103.out 6).trans rfl; have hcz14_7 : w12.cell? ⟨gb103, 7, none⟩ = some (.slice A0_7 l0_7.length c0_7) := (blk_cell BK103.out 7).trans rfl; have hfz14_0 := blk_frozen BK103.out 0; have hfz14_1 := blk_frozen BK103.out 1; have hfz14_2 := blk_frozen BK103.out 2; have hfz14_3 := blk_frozen BK103.out 3; have hfz14_4 := blk_frozen BK103.out 4; have hfz14_5 := blk_frozen BK103.out 5; have hfz14_6 := blk_frozen BK103.out 6; have hfz14_7 := blk_frozen BK103.out 7; have hcz15_0 : w12.cell? ⟨gb104, 0, none⟩ = some (.int .u32 a1_0) := (blk_cell BK104.out 0).trans rfl; have hcz15_1 : w12.cell? ⟨gb104, 1, none⟩ = some (.int .u64 a1_1) := (blk_cell BK104.out 1).trans rfl; have hcz15_2 : w12.cell? ⟨gb104, 2, none⟩ = some (.int .u32 a1_2) := (blk_cell BK104.out 2).trans rfl; have hcz15_3 : w12.cell? ⟨gb104, 3, none⟩ = some (.int .u32 a1_3) := (blk_cell BK104.out 3).trans rfl; have hcz15_4 : w12.cell? ⟨gb104, 4, none⟩ = some (.int .u32 a1_4) := (blk_cell BK104.out 4).trans rfl; have hcz15_5 : w12.cell? ⟨gb104, 5, none⟩ = some (.int .u32 a1_5) := (blk_cell BK104.out 5).trans rfl; have hcz15_6 : w12.cell? ⟨gb104, 6, none⟩ = some (.int .u32 a1_6) := (blk_cell BK104.out 6).trans rfl; have hcz15_7 : w12.cell? ⟨gb104, 7, none⟩ = some (.slice A1_7 l1_7.length c1_7) := (blk_cell BK104.out 7).trans rfl; have hfz15_0 := blk_frozen BK104.out 0; have hfz15_1 := blk_frozen BK104.out 1; have hfz15_2 := blk_frozen BK104.out 2; have hfz15_3 := blk_frozen BK104.out 3; have hfz15_4 := blk_frozen BK104.out 4; have hfz15_5 := blk_frozen BK104.out 5; have hfz15_6 := blk_frozen BK104.out 6; have hfz15_7 := blk_frozen BK104.out 7) | (go_at_call 62; (with_reducible refine (laws_sameExts.calls k _ _ l0_7 _ _ l1_7 t105 _ ?side1 ?side2 ?side3 ?side4 A10.out).mono ?_); (case side1 => repeat (first | exact (Kd.C_below HR0_7.out HB.out) | (with_reducible refine Kd.C_alloc ?_ _) | (with_reducible refine Kd.C_drewN ?_ _) | (with_reducible refine Kd.C_drew ?_))); (case side2 => exact HC0_7.out); (case side3 => repeat (first | exact (Kd.C_below HR1_7.out HB.out) | (with_reducible refine Kd.C_alloc ?_ _) | (with_reducible refine Kd.C_drewN ?_ _) | (with_reducible refine Kd.C_drew ?_))); (case side4 => exact HC1_7.out); rintro e w' ⟨rfl, ⟨nd, rfl⟩⟩))
                go_ret
                exact ⟨by first | rfl | (simp [errW_none, errW_some] <;> rfl) | (simp [*, errW_none, errW_some] <;> rfl), by repeat (first | (with_reducible first | exact HB.out | apply below_alloc | apply pw_below_drewN | apply below_drew1 | refine below_set ?_ GE103.out | refine below_set ?_ GE104.out) | exact HB.out)⟩
              · rw [if_neg c9] at H
                have c9b0 : (a0_6 == a1_6) = false := beq_eq_false_iff_ne.mpr c9
                have c9b1 : (a0_6 != a1_6) = true := bne_iff_ne.mpr c9
                obtain rfl := Option.some.inj H
                go_enter Tryz.func33, Tryz.ntmps33
                go_wp2_with (first | ((with_reducible refine gate_dst (N := 2) rfl ?_); refine box_event ?hg (N := 2) ?hd (cs := #[.int .u32 a0_0, .int .u64 a0_1, .int .u32 a0_2, .int .u32 a0_3, .int .u32 a0_4, .int .u32 a0_5, .int .u32 a0_6, .slice A0_7 l0_7.length c0_7]) (t := 26) ?hr ?_; (case hd => rfl); (case hg => rfl); (case hr => first | (go_simp; done) | (go_simp; rfl)); intro gb103 hg w16 hbox hb; have n0_ := Aside0.mk (below_step (by repeat (first | (with_reducible first | exact HB.out | apply below_alloc | apply pw_below_drewN | apply below_drew1) | exact HB.out)) hb); have n1_ := Aside0.mk (hbox); have n2_ := Aside0.mk ((by rw [hg]; exact (below_size (by repeat (first | (with_reducible first | exact HB.out | apply below_alloc | apply pw_below_drewN | apply below_drew1) | exact HB.out))) : w.heap.size ≤ gb103)); have n3_ := Aside0.mk ((by rw [hg]; exact (below_size (by repeat (first | (with_reducible first | exact HB.out | apply below_alloc | apply pw_below_drewN | apply below_drew1) | exact HB.out))) : w.heap.size ≤ gb103)); clear HB; have HB := n0_; have BK103 := n1_; have GW103 := n2_; have GE103 := n3_; clear n0_ n1_ n2_ n3_; clear hb hbox hg) | ((with_reducible refine gate_dst (N := 3) rfl ?_); refine box_event ?hg (N := 3) ?hd (cs := #[.int .u32 a1_0, .int .u64 a1_1, .int .u32 a1_2, .int .u32 a1_3, .int .u32 a1_4, .int .u32 a1_5, .int .u32 a1_6, .slice A1_7 l1_7.length c1_7]) (t := 26) ?hr ?_; (case hd => rfl); (case hg => rfl); (case hr => first | (go_simp; done) | (go_simp; rfl)); intro gb104 hg w17 hbox hb; have n0_ := Aside0.mk (blk_below (g := gb103) (o := .cells #[.int .u32 a0_0, .int .u64 a0_1, .int .u32 a0_2, .int .u32 a0_3, .int .u32 a0_4, .int .u32 a0_5, .int .u32 a0_6, .slice A0_7 l0_7.length c0_7] 26 (0, 0)) (by (with_reducible repeat (first | refine blk_drewN ?_ _ | refine blk_drew ?_ | refine blk_alloc ?_ _)); exact BK103.out) hb); have n1_ := Aside0.mk (below_step (by repeat (first | (with_reducible first | exact HB.out | apply below_alloc | apply pw_below_drewN | apply below_drew1 | refine below_set ?_ GE103.out) | exact HB.out)) hb); have n2_ := Aside0.mk (hbox); have n3_ := Aside0.mk ((by rw [hg]; exact (below_size (by repeat (first | (with_reducible first | exact HB.out | apply below_alloc | apply pw_below_drewN | apply below_drew1 | refine below_set ?_ GE103.out) | exact HB.out))) : w.heap.size ≤ gb104)); have n4_ := Aside0.mk ((by rw [hg]; exact (below_size (by repeat (first | (with_reducible first | exact HB.out | apply below_alloc | apply pw_below_drewN | apply below_drew1 | refine below_set ?_ GE103.out) | exact HB.out))) : w.heap.size ≤ gb104)); have n5_ := Aside0.mk ((by rw [hg]; exact Nat.ne_of_lt (blk_lt (g := gb103) (o := .cells #[.int .u32 a0_0, .int .u64 a0_1, .int .u32 a0_2, .int .u32 a0_3, .int .u32 a0_4, .int .u32 a0_5, .int .u32 a0_6, .slice A0_7 l0_7.length c0_7] 26 (0, 0)) (by (with_reducible repeat (first | refine blk_drewN ?_ _ | refine blk_drew ?_ | refine blk_alloc ?_ _)); exact BK103.out)) : gb103 ≠ gb104)); have n6_ := Aside0.mk ((by rw [hg]; exact Nat.ne_of_gt (blk_lt (g := gb103) (o := .cells #[.int .u32 a0_0, .int .u64 a0_1, .int .u32 a0_2, .int .u32 a0_3, .int .u32 a0_4, .int .u32 a0_5, .int .u32 a0_6, .slice A0_7 l0_7.length c0_7] 26 (0, 0)) (by (with_reducible repeat (first | refine blk_drewN ?_ _ | refine blk_drew ?_ | refine blk_alloc ?_ _)); exact BK103.out)) : gb104 ≠ gb103)); clear BK103; clear HB; have BK103 := n0_; have HB := n1_; have BK104 := n2_; have GW104 := n3_; have GE104 := n4_; have NB103_104 := n5_; have NB104_103 := n6_; clear n0_ n1_ n2_ n3_ n4_ n5_ n6_; clear hb hbox hg; have hnb18 := NB103_104.out; have hnc18 := NB104_103.out; have hcz19_0 : w17.cell? ⟨gb103, 0, none⟩ = some (.int .u32 a0_0) := (blk_cell BK103.out 0).trans rfl; have hcz19_1 : w17.cell? ⟨gb103, 1, none⟩ = some (.int .u64 a0_1) := (blk_cell BK103.out 1).trans rfl; have hcz19_2 : w17.cell? ⟨gb103, 2, none⟩ = some (.int .u32 a0_2) := (blk_cell BK103.out 2).trans rfl; have hcz19_3 : w17.cell? ⟨gb103, 3, none⟩ = some (.int .u32 a0_3) := (blk_cell BK103.out 3).trans rfl; have hcz19_4 : w17.cell? ⟨gb103, 4, none⟩ = some (.int .u32 a0_4) := (blk_cell BK103.out 4).trans rfl; have hcz19_5 : w17.cell? ⟨gb103, 5, none⟩ = some (.int .u32 a0_5) := (blk_cell BK103.out 5).trans rfl; have hcz19_6 : w17.cell? ⟨gb103, 6, none⟩ = some (.int .u32 a0_6) := (blk_cell BK103.out 6).trans rfl; have hcz19_7 : w17.cell? ⟨gb103, 7, none⟩ = some (.slice A0_7 l0_7.length c0_7) := (blk_cell BK103.out 7).trans rfl; have hfz19_0 := blk_frozen BK103.out 0; have hfz19_1 := blk_frozen BK103.out 1; have hfz19_2 := blk_frozen BK103.out 2; have hfz19_3 := blk_frozen BK103.out 3; have hfz19_4 := blk_frozen BK103.out 4; have hfz19_5 := blk_frozen BK103.out 5; have hfz19_6 := blk_frozen BK103.out 6; have hfz19_7 := blk_frozen BK103.out 7; have hcz20_0 : w17.cell? ⟨gb104, 0, none⟩ = some (.int .u32 a1_0) := (blk_cell BK104.out 0).trans rfl; have hcz20_1 : w17.cell? ⟨gb104, 1, none⟩ = some (.int .u64 a1_1) := (blk_cell BK104.out 1).trans rfl; have hcz20_2 : w17.cell? ⟨gb104, 2, none⟩ = some (.int .u32 a1_2) := (blk_cell BK104.out 2).trans rfl; have hcz20_3 : w17.cell? ⟨gb104, 3, none⟩ = some (.int .u32 a1_3) := (blk_cell BK104.out 3).trans rfl; have hcz20_4 : w17.cell? ⟨gb104, 4, none⟩ = some (.int .u32 a1_4) := (blk_cell BK104.out 4).trans rfl; have hcz20_5 : w17.cell? ⟨gb104, 5, none⟩ = some (.int .u32 a1_5) := (blk_cell BK104.out 5).trans rfl; have hcz20_6 : w17.cell? ⟨gb104, 6, none⟩ = some (.int .u32 a1_6) := (blk_cell BK104.out 6).trans rfl; have hcz20_7 : w17.cell? ⟨gb104, 7, none⟩ = some (.slice A1_7 l1_7.length c1_7) := (blk_cell BK104.out 7).trans rfl; have hfz20_0 := blk_frozen BK104.out 0; have hfz20_1 := blk_frozen BK104.out 1; have hfz20_2 := blk_frozen BK104.out 2; have hfz20_3 := blk_frozen BK104.out 3; have hfz20_4 := blk_frozen BK104.out 4; have hfz20_5 := blk_frozen BK104.out 5; have hfz20_6 := blk_frozen BK104.out 6; have hfz20_7 := blk_frozen BK104.out 7))
                go_ret
                exact ⟨by first | rfl | (simp [errW_none, errW_some] <;> rfl) | (simp [*, errW_none, errW_some] <;> rfl), by repeat (first | (with_reducible first | exact HB.out | apply below_alloc | apply pw_below_drewN | apply below_drew1 | refine below_set ?_ GE103.out | refine below_set ?_ GE104.out) | exact HB.out)⟩
            · rw [if_neg c8] at H
              have c8b0 : (a0_5 == a1_5) = false := beq_eq_false_iff_ne.mpr c8
              have c8b1 : (a0_5 != a1_5) = true := bne_iff_ne.mpr c8
              obtain rfl := Option.some.inj H
              go_enter Tryz.func33, Tryz.ntmps33
              go_wp2_with (first | ((with_reducible refine gate_dst (N := 2) rfl ?_); refine box_event ?hg (N := 2) ?hd (cs := #[.int .u32 a0_0, .int .u64 a0_1, .int .u32 a0_2, .int .u32 a0_3, .int .u32 a0_4, .int .u32 a0_5, .int .u32 a0_6, .slice A0_7 l0_7.length c0_7]) (t := 26) ?hr ?_; (case hd => rfl); (case hg => rfl); (case hr => first | (go_simp; done) | (go_simp; rfl)); intro gb103 hg w21 hbox hb; have n0_ := Aside0.mk (below_step (by repeat (first | (with_reducible first | exact HB.out | apply below_alloc | apply pw_below_drewN | apply below_drew1) | exact HB.out)) hb); have n1_ := Aside0.mk (hbox); have n2_ := Aside0.mk ((by rw [hg]; exact (below_size (by repeat (first | (with_reducible first | exact HB.out | apply below_alloc | apply pw_below_drewN | apply below_drew1) | exact HB.out))) : w.heap.size ≤ gb103)); have n3_ := Aside0.mk ((by rw [hg]; exact (below_size (by repeat (first | (with_reducible first | exact HB.out | apply below_alloc | apply pw_below_drewN | apply below_drew1) | exact HB.out))) : w.heap.size ≤ gb103)); clear HB; have HB := n0_; have BK103 := n1_; have GW103 := n2_; have GE103 := n3_; clear n0_ n1_ n2_ n3_; clear hb hbox hg) | ((with_reducible refine gate_dst (N := 3) rfl ?_); refine box_event ?hg (N := 3) ?hd (cs := #[.int .u32 a1_0, .int .u64 a1_1, .int .u32 a1_2, .int .u32 a1_3, .int .u32 a1_4, .int .u32 a1_5, .int .u32 a1_6, .slice A1_7 l1_7.length c1_7]) (t := 26) ?hr ?_; (case hd => rfl); (case hg => rfl); (case hr => first | (go_simp; done) | (go_simp; rfl)); intro gb104 hg w22 hbox hb; have n0_ := Aside0.mk (blk_below (g := gb103) (o := .cells #[.int .u32 a0_0, .int .u64 a0_1, .int .u32 a0_2, .int .u32 a0_3, .int .u32 a0_4, .int .u32 a0_5, .int .u32 a0_6, .slice A0_7 l0_7.length c0_7] 26 (0, 0)) (by (with_reducible repeat (first | refine blk_drewN ?_ _ | refine blk_drew ?_ | refine blk_alloc ?_ _)); exact BK103.out) hb); have n1_ := Aside0.mk (below_step (by repeat (first | (with_reducible first | exact HB.out | apply below_alloc | apply pw_below_drewN | apply below_drew1 | refine below_set ?_ GE103.out) | exact HB.out)) hb); have n2_ := Aside0.mk (hbox); have n3_ := Aside0.mk ((by rw [hg]; exact (below_size (by repeat (first | (with_reducible first | exact HB.out | apply below_alloc | apply pw_below_drewN | apply below_drew1 | refine below_set ?_ GE103.out) | exact HB.out))) : w.heap.size ≤ gb104)); have n4_ := Aside0.mk ((by rw [hg]; exact (below_size (by repeat (first | (with_reducible first | exact HB.out | apply below_alloc | apply pw_below_drewN | apply below_drew1 | refine below_set ?_ GE103.out) | exact HB.out))) : w.heap.size ≤ gb104)); have n5_ := Aside0.mk ((by rw [hg]; exact Nat.ne_of_lt (blk_lt (g := gb103) (o := .cells #[.int .u32 a0_0, .int .u64 a0_1, .int .u32 a0_2, .int .u32 a0_3, .int .u32 a0_4, .int .u32 a0_5, .int .u32 a0_6, .slice A0_7 l0_7.length c0_7] 26 (0, 0)) (by (with_reducible repeat (first | refine blk_drewN ?_ _ | refine blk_drew ?_ | refine blk_alloc ?_ _)); exact BK103.out)) : gb103 ≠ gb104)); have n6_ := Aside0.mk ((by rw [hg]; exact Nat.ne_of_gt (blk_lt (g := gb103) (o := .cells #[.int .u32 a0_0, .int .u64 a0_1, .int .u32 a0_2, .int .u32 a0_3, .int .u32 a0_4, .int .u32 a0_5, .int .u32 a0_6, .slice A0_7 l0_7.length c0_7] 26 (0, 0)) (by (with_reducible repeat (first | refine blk_drewN ?_ _ | refine blk_drew ?_ | refine blk_alloc ?_ _)); exact BK103.out)) : gb104 ≠ gb103)); clear BK103; clear HB; have BK103 := n0_; have HB := n1_; have BK104 := n2_; have GW104 := n3_; have GE104 := n4_; have NB103_104 := n5_; have NB104_103 := n6_; clear n0_ n1_ n2_ n3_ n4_ n5_ n6_; clear hb hbox hg; have hnb23 := NB103_104.out; have hnc23 := NB104_103.out; have hcz24_0 : w22.cell? ⟨gb103, 0, none⟩ = some (.int .u32 a0_0) := (blk_cell BK103.out 0).trans rfl; have hcz24_1 : w22.cell? ⟨gb103, 1, none⟩ = some (.int .u64 a0_1) := (blk_cell BK103.out 1).trans rfl; have hcz24_2 : w22.cell? ⟨gb103, 2, none⟩ = some (.int .u32 a0_2) := (blk_cell BK103.out 2).trans rfl; have hcz24_3 : w22.cell? ⟨gb103, 3, none⟩ = some (.int .u32 a0_3) := (blk_cell BK103.out 3).trans rfl; have hcz24_4 : w22.cell? ⟨gb103, 4, none⟩ = some (.int .u32 a0_4) := (blk_cell BK103.out 4).trans rfl; have hcz24_5 : w22.cell? ⟨gb103, 5, none⟩ = some (.int .u32 a0_5) := (blk_cell BK103.out 5).trans rfl; have hcz24_6 : w22.cell? ⟨gb103, 6, none⟩ = some (.int .u32 a0_6) := (blk_cell BK103.out 6).trans rfl; have hcz24_7 : w22.cell? ⟨gb103, 7, none⟩ = some (.slice A0_7 l0_7.length c0_7) := (blk_cell BK103.out 7).trans rfl; have hfz24_0 := blk_frozen BK103.out 0; have hfz24_1 := blk_frozen BK103.out 1; have hfz24_2 := blk_frozen BK103.out 2; have hfz24_3 := blk_frozen BK103.out 3; have hfz24_4 := blk_frozen BK103.out 4; have hfz24_5 := blk_frozen BK103.out 5; have hfz24_6 := blk_frozen BK103.out 6; have hfz24_7 := blk_frozen BK103.out 7; have hcz25_0 : w22.cell? ⟨gb104, 0, none⟩ = some (.int .u32 a1_0) := (blk_cell BK104.out 0).trans rfl; have hcz25_1 : w22.cell? ⟨gb104, 1, none⟩ = some (.int .u64 a1_1) := (blk_cell BK104.out 1).trans rfl; have hcz25_2 : w22.cell? ⟨gb104, 2, none⟩ = some (.int .u32 a1_2) := (blk_cell BK104.out 2).trans rfl; have hcz25_3 : w22.cell? ⟨gb104, 3, none⟩ = some (.int .u32 a1_3) := (blk_cell BK104.out 3).trans rfl; have hcz25_4 : w22.cell? ⟨gb104, 4, none⟩ = some (.int .u32 a1_4) := (blk_cell BK104.out 4).trans rfl; have hcz25_5 : w22.cell? ⟨gb104, 5, none⟩ = some (.int .u32 a1_5) := (blk_cell BK104.out 5).trans rfl; have hcz25_6 : w22.cell? ⟨gb104, 6, none⟩ = some (.int .u32 a1_6) := (blk_cell BK104.out 6).trans rfl; have hcz25_7 : w22.cell? ⟨gb104, 7, none⟩ = some (.slice A1_7 l1_7.length c1_7) := (blk_cell BK104.out 7).trans rfl; have hfz25_0 := blk_frozen BK104.out 0; have hfz25_1 := blk_frozen BK104.out 1; have hfz25_2 := blk_frozen BK104.out 2; have hfz25_3 := blk_frozen BK104.out 3; have hfz25_4 := blk_frozen BK104.out 4; have hfz25_5 := blk_frozen BK104.out 5; have hfz25_6 := blk_frozen BK104.out 6; have hfz25_7 := blk_frozen BK104.out 7))
              go_ret
              exact ⟨by first | rfl | (simp [errW_none, errW_some] <;> rfl) | (simp [*, errW_none, errW_some] <;> rfl), by repeat (first | (with_reducible first | exact HB.out | apply below_alloc | apply pw_below_drewN | apply below_drew1 | refine below_set ?_ GE103.out | refine below_set ?_ GE104.out) | exact HB.out)⟩
          · rw [if_neg c7] at H
            have c7b0 : (a0_4 == a1_4) = false := beq_eq_false_iff_ne.mpr c7
            have c7b1 : (a0_4 != a1_4) = true := bne_iff_ne.mpr c7
            obtain rfl := Option.some.inj H
            go_enter Tryz.func33, Tryz.ntmps33
            go_wp2_with (first | ((with_reducible refine gate_dst (N := 2) rfl ?_); refine box_event ?hg (N := 2) ?hd (cs := #[.int .u32 a0_0, .int .u64 a0_1, .int .u32 a0_2, .int .u32 a0_3, .int .u32 a0_4, .int .u32 a0_5, .int .u32 a0_6, .slice A0_7 l0_7.length c0_7]) (t := 26) ?hr ?_; (case hd => rfl); (case hg => rfl); (case hr => first | (go_simp; done) | (go_simp; rfl)); intro gb103 hg w26 hbox hb; have n0_ := Aside0.mk (below_step (by repeat (first | (with_reducible first | exact HB.out | apply below_alloc | apply pw_below_drewN | apply below_drew1) | exact HB.out)) hb); have n1_ := Aside0.mk (hbox); have n2_ := Aside0.mk ((by rw [hg]; exact (below_size (by repeat (first | (with_reducible first | exact HB.out | apply below_alloc | apply pw_below_drewN | apply below_drew1) | exact HB.out))) : w.heap.size ≤ gb103)); have n3_ := Aside0.mk ((by rw [hg]; exact (below_size (by repeat (first | (with_reducible first | exact HB.out | apply below_alloc | apply pw_below_drewN | apply below_drew1) | exact HB.out))) : w.heap.size ≤ gb103)); clear HB; have HB := n0_; have BK103 := n1_; have GW103 := n2_; have GE103 := n3_; clear n0_ n1_ n2_ n3_; clear hb hbox hg) | ((with_reducible refine gate_dst (N := 3) rfl ?_); refine box_event ?hg (N := 3) ?hd (cs := #[.int .u32 a1_0, .int .u64 a1_1, .int .u32 a1_2, .int .u32 a1_3, .int .u32 a1_4, .int .u32 a1_5, .int .u32 a1_6, .slice A1_7 l1_7.length c1_7]) (t := 26) ?hr ?_; (case hd => rfl); (case hg => rfl); (case hr => first | (go_simp; done) | (go_simp; rfl)); intro gb104 hg w27 hbox hb; have n0_ := Aside0.mk (blk_below (g := gb103) (o := .cells #[.int .u32 a0_0, .int .u64 a0_1, .int .u32 a0_2, .int .u32 a0_3, .int .u32 a0_4, .int .u32 a0_5, .int .u32 a0_6, .slice A0_7 l0_7.length c0_7] 26 (0, 0)) (by (with_reducible repeat (first | refine blk_drewN ?_ _ | refine blk_drew ?_ | refine blk_alloc ?_ _)); exact BK103.out) hb); have n1_ := Aside0.mk (below_step (by repeat (first | (with_reducible first | exact HB.out | apply below_alloc | apply pw_below_drewN | apply below_drew1 | refine below_set ?_ GE103.out) | exact HB.out)) hb); have n2_ := Aside0.mk (hbox); have n3_ := Aside0.mk ((by rw [hg]; exact (below_size (by repeat (first | (with_reducible first | exact HB.out | apply below_alloc | apply pw_below_drewN | apply below_drew1 | refine below_set ?_ GE103.out) | exact HB.out))) : w.heap.size ≤ gb104)); have n4_ := Aside0.mk ((by rw [hg]; exact (below_size (by repeat (first | (with_reducible first | exact HB.out | apply below_alloc | apply pw_below_drewN | apply below_drew1 | refine below_set ?_ GE103.out) | exact HB.out))) : w.heap.size ≤ gb104)); have n5_ := Aside0.mk ((by rw [hg]; exact Nat.ne_of_lt (blk_lt (g := gb103) (o := .cells #[.int .u32 a0_0, .int .u64 a0_1, .int .u32 a0_2, .int .u32 a0_3, .int .u32 a0_4, .int .u32 a0_5, .int .u32 a0_6, .slice A0_7 l0_7.length c0_7] 26 (0, 0)) (by (with_reducible repeat (first | refine blk_drewN ?_ _ | refine blk_drew ?_ | refine blk_alloc ?_ _)); exact BK103.out)) : gb103 ≠ gb104)); have n6_ := Aside0.mk ((by rw [hg]; exact Nat.ne_of_gt (blk_lt (g := gb103) (o := .cells #[.int .u32 a0_0, .int .u64 a0_1, .int .u32 a0_2, .int .u32 a0_3, .int .u32 a0_4, .int .u32 a0_5, .int .u32 a0_6, .slice A0_7 l0_7.length c0_7] 26 (0, 0)) (by (with_reducible repeat (first | refine blk_drewN ?_ _ | refine blk_drew ?_ | refine blk_alloc ?_ _)); exact BK103.out)) : gb104 ≠ gb103)); clear BK103; clear HB; have BK103 := n0_; have HB := n1_; have BK104 := n2_; have GW104 := n3_; have GE104 := n4_; have NB103_104 := n5_; have NB104_103 := n6_; clear n0_ n1_ n2_ n3_ n4_ n5_ n6_; clear hb hbox hg; have hnb28 := NB103_104.out; have hnc28 := NB104_103.out; have hcz29_0 : w27.cell? ⟨gb103, 0, none⟩ = some (.int .u32 a0_0) := (blk_cell BK103.out 0).trans rfl; have hcz29_1 : w27.cell? ⟨gb103, 1, none⟩ = some (.int .u64 a0_1) := (blk_cell BK103.out 1).trans rfl; have hcz29_2 : w27.cell? ⟨gb103, 2, none⟩ = some (.int .u32 a0_2) := (blk_cell BK103.out 2).trans rfl; have hcz29_3 : w27.cell? ⟨gb103, 3, none⟩ = some (.int .u32 a0_3) := (blk_cell BK103.out 3).trans rfl; have hcz29_4 : w27.cell? ⟨gb103, 4, none⟩ = some (.int .u32 a0_4) := (blk_cell BK103.out 4).trans rfl; have hcz29_5 : w27.cell? ⟨gb103, 5, none⟩ = some (.int .u32 a0_5) := (blk_cell BK103.out 5).trans rfl; have hcz29_6 : w27.cell? ⟨gb103, 6, none⟩ = some (.int .u32 a0_6) := (blk_cell BK103.out 6).trans rfl; have hcz29_7 : w27.cell? ⟨gb103, 7, none⟩ = some (.slice A0_7 l0_7.length c0_7) := (blk_cell BK103.out 7).trans rfl; have hfz29_0 := blk_frozen BK103.out 0; have hfz29_1 := blk_frozen BK103.out 1; have hfz29_2 := blk_frozen BK103.out 2; have hfz29_3 := blk_frozen BK103.out 3; have hfz29_4 := blk_frozen BK103.out 4; have hfz29_5 := blk_frozen BK103.out 5; have hfz29_6 := blk_frozen BK103.out 6; have hfz29_7 := blk_frozen BK103.out 7; have hcz30_0 : w27.cell? ⟨gb104, 0, none⟩ = some (.int .u32 a1_0) := (blk_cell BK104.out 0).trans rfl; have hcz30_1 : w27.cell? ⟨gb104, 1, none⟩ = some (.int .u64 a1_1) := (blk_cell BK104.out 1).trans rfl; have hcz30_2 : w27.cell? ⟨gb104, 2, none⟩ = some (.int .u32 a1_2) := (blk_cell BK104.out 2).trans rfl; have hcz30_3 : w27.cell? ⟨gb104, 3, none⟩ = some (.int .u32 a1_3) := (blk_cell BK104.out 3).trans rfl; have hcz30_4 : w27.cell? ⟨gb104, 4, none⟩ = some (.int .u32 a1_4) := (blk_cell BK104.out 4).trans rfl; have hcz30_5 : w27.cell? ⟨gb104, 5, none⟩ = some (.int .u32 a1_5) := (blk_cell BK104.out 5).trans rfl; have hcz30_6 : w27.cell? ⟨gb104, 6, none⟩ = some (.int .u32 a1_6) := (blk_cell BK104.out 6).trans rfl; have hcz30_7 : w27.cell? ⟨gb104, 7, none⟩ = some (.slice A1_7 l1_7.length c1_7) := (blk_cell BK104.out 7).trans rfl; have hfz30_0 := blk_frozen BK104.out 0; have hfz30_1 := blk_frozen BK104.out 1; have hfz30_2 := blk_frozen BK104.out 2; have hfz30_3 := blk_frozen BK104.out 3; have hfz30_4 := blk_frozen BK104.out 4; have hfz30_5 := blk_frozen BK104.out 5; have hfz30_6 := blk_frozen BK104.out 6; have hfz30_7 := blk_frozen BK104.out 7))
            go_ret
            exact ⟨by first | rfl | (simp [errW_none, errW_some] <;> rfl) | (simp [*, errW_none, errW_some] <;> rfl), by repeat (first | (with_reducible first | exact HB.out | apply below_alloc | apply pw_below_drewN | apply below_drew1 | refine below_set ?_ GE103.out | refine below_set ?_ GE104.out) | exact HB.out)⟩
        · rw [if_neg c6] at H
          have c6b0 : (a0_3 == a1_3) = false := beq_eq_false_iff_ne.mpr c6
          have c6b1 : (a0_3 != a1_3) = true := bne_iff_ne.mpr c6
          obtain rfl := Option.some.inj H
          go_enter Tryz.func33, Tryz.ntmps33
          go_wp2_with (first | ((with_reducible refine gate_dst (N := 2) rfl ?_); refine box_event ?hg (N := 2) ?hd (cs := #[.int .u32 a0_0, .int .u64 a0_1, .int .u32 a0_2, .int .u32 a0_3, .int .u32 a0_4, .int .u32 a0_5, .int .u32 a0_6, .slice A0_7 l0_7.length c0_7]) (t := 26) ?hr ?_; (case hd => rfl); (case hg => rfl); (case hr => first | (go_simp; done) | (go_simp; rfl)); intro gb103 hg w31 hbox hb; have n0_ := Aside0.mk (below_step (by repeat (first | (with_reducible first | exact HB.out | apply below_alloc | apply pw_below_drewN | apply below_drew1) | exact HB.out)) hb); have n1_ := Aside0.mk (hbox); have n2_ := Aside0.mk ((by rw [hg]; exact (below_size (by repeat (first | (with_reducible first | exact HB.out | apply below_alloc | apply pw_below_drewN | apply below_drew1) | exact HB.out))) : w.heap.size ≤ gb103)); have n3_ := Aside0.mk ((by rw [hg]; exact (below_size (by repeat (first | (with_reducible first | exact HB.out | apply below_alloc | apply pw_below_drewN | apply below_drew1) | exact HB.out))) : w.heap.size ≤ gb103)); clear HB; have HB := n0_; have BK103 := n1_; have GW103 := n2_; have GE103 := n3_; clear n0_ n1_ n2_ n3_; clear hb hbox hg) | ((with_reducible refine gate_dst (N := 3) rfl ?_); refine box_event ?hg (N := 3) ?hd (cs := #[.int .u32 a1_0, .int .u64 a1_1, .int .u32 a1_2, .int .u32 a1_3, .int .u32 a1_4, .int .u32 a1_5, .int .u32 a1_6, .slice A1_7 l1_7.length c1_7]) (t := 26) ?hr ?_; (case hd => rfl); (case hg => rfl); (case hr => first | (go_simp; done) | (go_simp; rfl)); intro gb104 hg w32 hbox hb; have n0_ := Aside0.mk (blk_below (g := gb103) (o := .cells #[.int .u32 a0_0, .int .u64 a0_1, .int .u32 a0_2, .int .u32 a0_3, .int .u32 a0_4, .int .u32 a0_5, .int .u32 a0_6, .slice A0_7 l0_7.length c0_7] 26 (0, 0)) (by (with_reducible repeat (first | refine blk_drewN ?_ _ | refine blk_drew ?_ | refine blk_alloc ?_ _)); exact BK103.out) hb); have n1_ := Aside0.mk (below_step (by repeat (first | (with_reducible first | exact HB.out | apply below_alloc | apply pw_below_drewN | apply below_drew1 | refine below_set ?_ GE103.out) | exact HB.out)) hb); have n2_ := Aside0.mk (hbox); have n3_ := Aside0.mk ((by rw [hg]; exact (below_size (by repeat (first | (with_reducible first | exact HB.out | apply below_alloc | apply pw_below_drewN | apply below_drew1 | refine below_set ?_ GE103.out) | exact HB.out))) : w.heap.size ≤ gb104)); have n4_ := Aside0.mk ((by rw [hg]; exact (below_size (by repeat (first | (with_reducible first | exact HB.out | apply below_alloc | apply pw_below_drewN | apply below_drew1 | refine below_set ?_ GE103.out) | exact HB.out))) : w.heap.size ≤ gb104)); have n5_ := Aside0.mk ((by rw [hg]; exact Nat.ne_of_lt (blk_lt (g := gb103) (o := .cells #[.int .u32 a0_0, .int .u64 a0_1, .int .u32 a0_2, .int .u32 a0_3, .int .u32 a0_4, .int .u32 a0_5, .int .u32 a0_6, .slice A0_7 l0_7.length c0_7] 26 (0, 0)) (by (with_reducible repeat (first | refine blk_drewN ?_ _ | refine blk_drew ?_ | refine blk_alloc ?_ _)); exact BK103.out)) : gb103 ≠ gb104)); have n6_ := Aside0.mk ((by rw [hg]; exact Nat.ne_of_gt (blk_lt (g := gb103) (o := .cells #[.int .u32 a0_0, .int .u64 a0_1, .int .u32 a0_2, .int .u32 a0_3, .int .u32 a0_4, .int .u32 a0_5, .int .u32 a0_6, .slice A0_7 l0_7.length c0_7] 26 (0, 0)) (by (with_reducible repeat (first | refine blk_drewN ?_ _ | refine blk_drew ?_ | refine blk_alloc ?_ _)); exact BK103.out)) : gb104 ≠ gb103)); clear BK103; clear HB; have BK103 := n0_; have HB := n1_; have BK104 := n2_; have GW104 := n3_; have GE104 := n4_; have NB103_104 := n5_; have NB104_103 := n6_; clear n0_ n1_ n2_ n3_ n4_ n5_ n6_; clear hb hbox hg; have hnb33 := NB103_104.out; have hnc33 := NB104_103.out; have hcz34_0 : w32.cell? ⟨gb103, 0, none⟩ = some (.int .u32 a0_0) := (blk_cell BK103.out 0).trans rfl; have hcz34_1 : w32.cell? ⟨gb103, 1, none⟩ = some (.int .u64 a0_1) := (blk_cell BK103.out 1).trans rfl; have hcz34_2 : w32.cell? ⟨gb103, 2, none⟩ = some (.int .u32 a0_2) := (blk_cell BK103.out 2).trans rfl; have hcz34_3 : w32.cell? ⟨gb103, 3, none⟩ = some (.int .u32 a0_3) := (blk_cell BK103.out 3).trans rfl; have hcz34_4 : w32.cell? ⟨gb103, 4, none⟩ = some (.int .u32 a0_4) := (blk_cell BK103.out 4).trans rfl; have hcz34_5 : w32.cell? ⟨gb103, 5, none⟩ = some (.int .u32 a0_5) := (blk_cell BK103.out 5).trans rfl; have hcz34_6 : w32.cell? ⟨gb103, 6, none⟩ = some (.int .u32 a0_6) := (blk_cell BK103.out 6).trans rfl; have hcz34_7 : w32.cell? ⟨gb103, 7, none⟩ = some (.slice A0_7 l0_7.length c0_7) := (blk_cell BK103.out 7).trans rfl; have hfz34_0 := blk_frozen BK103.out 0; have hfz34_1 := blk_frozen BK103.out 1; have hfz34_2 := blk_frozen BK103.out 2; have hfz34_3 := blk_frozen BK103.out 3; have hfz34_4 := blk_frozen BK103.out 4; have hfz34_5 := blk_frozen BK103.out 5; have hfz34_6 := blk_frozen BK103.out 6; have hfz34_7 := blk_frozen BK103.out 7; have hcz35_0 : w32.cell? ⟨gb104, 0, none⟩ = some (.int .u32 a1_0) := (blk_cell BK104.out 0).trans rfl; have hcz35_1 : w32.cell? ⟨gb104, 1, none⟩ = some (.int .u64 a1_1) := (blk_cell BK104.out 1).trans rfl; have hcz35_2 : w32.cell? ⟨gb104, 2, none⟩ = some (.int .u32 a1_2) := (blk_cell BK104.out 2).trans rfl; have hcz35_3 : w32.cell? ⟨gb104, 3, none⟩ = some (.int .u32 a1_3) := (blk_cell BK104.out 3).trans rfl; have hcz35_4 : w32.cell? ⟨gb104, 4, none⟩ = some (.int .u32 a1_4) := (blk_cell BK104.out 4).trans rfl; have hcz35_5 : w32.cell? ⟨gb104, 5, none⟩ = some (.int .u32 a1_5) := (blk_cell BK104.out 5).trans rfl; have hcz35_6 : w32.cell? ⟨gb104, 6, none⟩ = some (.int .u32 a1_6) := (blk_cell BK104.out 6).trans rfl; have hcz35_7 : w32.cell? ⟨gb104, 7, none⟩ = some (.slice A1_7 l1_7.length c1_7) := (blk_cell BK104.out 7).trans rfl; have hfz35_0 := blk_frozen BK104.out 0; have hfz35_1 := blk_frozen BK104.out 1; have hfz35_2 := blk_frozen BK104.out 2; have hfz35_3 := blk_frozen BK104.out 3; have hfz35_4 := blk_frozen BK104.out 4; have hfz35_5 := blk_frozen BK104.out 5; have hfz35_6 := blk_frozen BK104.out 6; have hfz35_7 := blk_frozen BK104.out 7))
          go_ret
          exact ⟨by first | rfl | (simp [errW_none, errW_some] <;> rfl) | (simp [*, errW_none, errW_some] <;> rfl), by repeat (first | (with_reducible first | exact HB.out | apply below_alloc | apply pw_below_drewN | apply below_drew1 | refine below_set ?_ GE103.out | refine below_set ?_ GE104.out) | exact HB.out)⟩
      · rw [if_neg c5] at H
        have c5b0 : (a0_2 == a1_2) = false := beq_eq_false_iff_ne.mpr c5
        have c5b1 : (a0_2 != a1_2) = true := bne_iff_ne.mpr c5
        obtain rfl := Option.some.inj H
        go_enter Tryz.func33, Tryz.ntmps33
        go_wp2_with (first | ((with_reducible refine gate_dst (N := 2) rfl ?_); refine box_event ?hg (N := 2) ?hd (cs := #[.int .u32 a0_0, .int .u64 a0_1, .int .u32 a0_2, .int .u32 a0_3, .int .u32 a0_4, .int .u32 a0_5, .int .u32 a0_6, .slice A0_7 l0_7.length c0_7]) (t := 26) ?hr ?_; (case hd => rfl); (case hg => rfl); (case hr => first | (go_simp; done) | (go_simp; rfl)); intro gb103 hg w36 hbox hb; have n0_ := Aside0.mk (below_step (by repeat (first | (with_reducible first | exact HB.out | apply below_alloc | apply pw_below_drewN | apply below_drew1) | exact HB.out)) hb); have n1_ := Aside0.mk (hbox); have n2_ := Aside0.mk ((by rw [hg]; exact (below_size (by repeat (first | (with_reducible first | exact HB.out | apply below_alloc | apply pw_below_drewN | apply below_drew1) | exact HB.out))) : w.heap.size ≤ gb103)); have n3_ := Aside0.mk ((by rw [hg]; exact (below_size (by repeat (first | (with_reducible first | exact HB.out | apply below_alloc | apply pw_below_drewN | apply below_drew1) | exact HB.out))) : w.heap.size ≤ gb103)); clear HB; have HB := n0_; have BK103 := n1_; have GW103 := n2_; have GE103 := n3_; clear n0_ n1_ n2_ n3_; clear hb hbox hg) | ((with_reducible refine gate_dst (N := 3) rfl ?_); refine box_event ?hg (N := 3) ?hd (cs := #[.int .u32 a1_0, .int .u64 a1_1, .int .u32 a1_2, .int .u32 a1_3, .int .u32 a1_4, .int .u32 a1_5, .int .u32 a1_6, .slice A1_7 l1_7.length c1_7]) (t := 26) ?hr ?_; (case hd => rfl); (case hg => rfl); (case hr => first | (go_simp; done) | (go_simp; rfl)); intro gb104 hg w37 hbox hb; have n0_ := Aside0.mk (blk_below (g := gb103) (o := .cells #[.int .u32 a0_0, .int .u64 a0_1, .int .u32 a0_2, .int .u32 a0_3, .int .u32 a0_4, .int .u32 a0_5, .int .u32 a0_6, .slice A0_7 l0_7.length c0_7] 26 (0, 0)) (by (with_reducible repeat (first | refine blk_drewN ?_ _ | refine blk_drew ?_ | refine blk_alloc ?_ _)); exact BK103.out) hb); have n1_ := Aside0.mk (below_step (by repeat (first | (with_reducible first | exact HB.out | apply below_alloc | apply pw_below_drewN | apply below_drew1 | refine below_set ?_ GE103.out) | exact HB.out)) hb); have n2_ := Aside0.mk (hbox); have n3_ := Aside0.mk ((by rw [hg]; exact (below_size (by repeat (first | (with_reducible first | exact HB.out | apply below_alloc | apply pw_below_drewN | apply below_drew1 | refine below_set ?_ GE103.out) | exact HB.out))) : w.heap.size ≤ gb104)); have n4_ := Aside0.mk ((by rw [hg]; exact (below_size (by repeat (first | (with_reducible first | exact HB.out | apply below_alloc | apply pw_below_drewN | apply below_drew1 | refine below_set ?_ GE103.out) | exact HB.out))) : w.heap.size ≤ gb104)); have n5_ := Aside0.mk ((by rw [hg]; exact Nat.ne_of_lt (blk_lt (g := gb103) (o := .cells #[.int .u32 a0_0, .int .u64 a0_1, .int .u32 a0_2, .int .u32 a0_3, .int .u32 a0_4, .int .u32 a0_5, .int .u32 a0_6, .slice A0_7 l0_7.length c0_7] 26 (0, 0)) (by (with_reducible repeat (first | refine blk_drewN ?_ _ | refine blk_drew ?_ | refine blk_alloc ?_ _)); exact BK103.out)) : gb103 ≠ gb104)); have n6_ := Aside0.mk ((by rw [hg]; exact Nat.ne_of_gt (blk_lt (g := gb103) (o := .cells #[.int .u32 a0_0, .int .u64 a0_1, .int .u32 a0_2, .int .u32 a0_3, .int .u32 a0_4, .int .u32 a0_5, .int .u32 a0_6, .slice A0_7 l0_7.length c0_7] 26 (0, 0)) (by (with_reducible repeat (first | refine blk_drewN ?_ _ | refine blk_drew ?_ | refine blk_alloc ?_ _)); exact BK103.out)) : gb104 ≠ gb103)); clear BK103; clear HB; have BK103 := n0_; have HB := n1_; have BK104 := n2_; have GW104 := n3_; have GE104 := n4_; have NB103_104 := n5_; have NB104_103 := n6_; clear n0_ n1_ n2_ n3_ n4_ n5_ n6_; clear hb hbox hg; have hnb38 := NB103_104.out; have hnc38 := NB104_103.out; have hcz39_0 : w37.cell? ⟨gb103, 0, none⟩ = some (.int .u32 a0_0) := (blk_cell BK103.out 0).trans rfl; have hcz39_1 : w37.cell? ⟨gb103, 1, none⟩ = some (.int .u64 a0_1) := (blk_cell BK103.out 1).trans rfl; have hcz39_2 : w37.cell? ⟨gb103, 2, none⟩ = some (.int .u32 a0_2) := (blk_cell BK103.out 2).trans rfl; have hcz39_3 : w37.cell? ⟨gb103, 3, none⟩ = some (.int .u32 a0_3) := (blk_cell BK103.out 3).trans rfl; have hcz39_4 : w37.cell? ⟨gb103, 4, none⟩ = some (.int .u32 a0_4) := (blk_cell BK103.out 4).trans rfl; have hcz39_5 : w37.cell? ⟨gb103, 5, none⟩ = some (.int .u32 a0_5) := (blk_cell BK103.out 5).trans rfl; have hcz39_6 : w37.cell? ⟨gb103, 6, none⟩ = some (.int .u32 a0_6) := (blk_cell BK103.out 6).trans rfl; have hcz39_7 : w37.cell? ⟨gb103, 7, none⟩ = some (.slice A0_7 l0_7.length c0_7) := (blk_cell BK103.out 7).trans rfl; have hfz39_0 := blk_frozen BK103.out 0; have hfz39_1 := blk_frozen BK103.out 1; have hfz39_2 := blk_frozen BK103.out 2; have hfz39_3 := blk_frozen BK103.out 3; have hfz39_4 := blk_frozen BK103.out 4; have hfz39_5 := blk_frozen BK103.out 5; have hfz39_6 := blk_frozen BK103.out 6; have hfz39_7 := blk_frozen BK103.out 7; have hcz40_0 : w37.cell? ⟨gb104, 0, none⟩ = some (.int .u32 a1_0) := (blk_cell BK104.out 0).trans rfl; have hcz40_1 : w37.cell? ⟨gb104, 1, none⟩ = some (.int .u64 a1_1) := (blk_cell BK104.out 1).trans rfl; have hcz40_2 : w37.cell? ⟨gb104, 2, none⟩ = some (.int .u32 a1_2) := (blk_cell BK104.out 2).trans rfl; have hcz40_3 : w37.cell? ⟨gb104, 3, none⟩ = some (.int .u32 a1_3) := (blk_cell BK104.out 3).trans rfl; have hcz40_4 : w37.cell? ⟨gb104, 4, none⟩ = some (.int .u32 a1_4) := (blk_cell BK104.out 4).trans rfl; have hcz40_5 : w37.cell? ⟨gb104, 5, none⟩ = some (.int .u32 a1_5) := (blk_cell BK104.out 5).trans rfl; have hcz40_6 : w37.cell? ⟨gb104, 6, none⟩ = some (.int .u32 a1_6) := (blk_cell BK104.out 6).trans rfl; have hcz40_7 : w37.cell? ⟨gb104, 7, none⟩ = some (.slice A1_7 l1_7.length c1_7) := (blk_cell BK104.out 7).trans rfl; have hfz40_0 := blk_frozen BK104.out 0; have hfz40_1 := blk_frozen BK104.out 1; have hfz40_2 := blk_frozen BK104.out 2; have hfz40_3 := blk_frozen BK104.out 3; have hfz40_4 := blk_frozen BK104.out 4; have hfz40_5 := blk_frozen BK104.out 5; have hfz40_6 := blk_frozen BK104.out 6; have hfz40_7 := blk_frozen BK104.out 7))
        go_ret
        exact ⟨by first | rfl | (simp [errW_none, errW_some] <;> rfl) | (simp [*, errW_none, errW_some] <;> rfl), by repeat (first | (with_reducible first | exact HB.out | apply below_alloc | apply pw_below_drewN | apply below_drew1 | refine below_set ?_ GE103.out | refine below_set ?_ GE104.out) | exact HB.out)⟩
    · rw [if_neg c4] at H
      have c4b0 : (a0_1 == a1_1) = false := beq_eq_false_iff_ne.mpr c4
      have c4b1 : (a0_1 != a1_1) = true := bne_iff_ne.mpr c4
      obtain rfl := Option.some.inj H
      go_enter Tryz.func33, Tryz.ntmps33
      go_wp2_with (first | ((with_reducible refine gate_dst (N := 2) rfl ?_); refine box_event ?hg (N := 2) ?hd (cs := #[.int .u32 a0_0, .int .u64 a0_1, .int .u32 a0_2, .int .u32 a0_3, .int .u32 a0_4, .int .u32 a0_5, .int .u32 a0_6, .slice A0_7 l0_7.length c0_7]) (t := 26) ?hr ?_; (case hd => rfl); (case hg => rfl); (case hr => first | (go_simp; done) | (go_simp; rfl)); intro gb103 hg w41 hbox hb; have n0_ := Aside0.mk (below_step (by repeat (first | (with_reducible first | exact HB.out | apply below_alloc | apply pw_below_drewN | apply below_drew1) | exact HB.out)) hb); have n1_ := Aside0.mk (hbox); have n2_ := Aside0.mk ((by rw [hg]; exact (below_size (by repeat (first | (with_reducible first | exact HB.out | apply below_alloc | apply pw_below_drewN | apply below_drew1) | exact HB.out))) : w.heap.size ≤ gb103)); have n3_ := Aside0.mk ((by rw [hg]; exact (below_size (by repeat (first | (with_reducible first | exact HB.out | apply below_alloc | apply pw_below_drewN | apply below_drew1) | exact HB.out))) : w.heap.size ≤ gb103)); clear HB; have HB := n0_; have BK103 := n1_; have GW103 := n2_; have GE103 := n3_; clear n0_ n1_ n2_ n3_; clear hb hbox hg) | ((with_reducible refine gate_dst (N := 3) rfl ?_); refine box_event ?hg (N := 3) ?hd (cs := #[.int .u32 a1_0, .int .u64 a1_1, .int .u32 a1_2, .int .u32 a1_3, .int .u32 a1_4, .int .u32 a1_5, .int .u32 a1_6, .slice A1_7 l1_7.length c1_7]) (t := 26) ?hr ?_; (case hd => rfl); (case hg => rfl); (case hr => first | (go_simp; done) | (go_simp; rfl)); intro gb104 hg w42 hbox hb; have n0_ := Aside0.mk (blk_below (g := gb103) (o := .cells #[.int .u32 a0_0, .int .u64 a0_1, .int .u32 a0_2, .int .u32 a0_3, .int .u32 a0_4, .int .u32 a0_5, .int .u32 a0_6, .slice A0_7 l0_7.length c0_7] 26 (0, 0)) (by (with_reducible repeat (first | refine blk_drewN ?_ _ | refine blk_drew ?_ | refine blk_alloc ?_ _)); exact BK103.out) hb); have n1_ := Aside0.mk (below_step (by repeat (first | (with_reducible first | exact HB.out | apply below_alloc | apply pw_below_drewN | apply below_drew1 | refine below_set ?_ GE103.out) | exact HB.out)) hb); have n2_ := Aside0.mk (hbox); have n3_ := Aside0.mk ((by rw [hg]; exact (below_size (by repeat (first | (with_reducible first | exact HB.out | apply below_alloc | apply pw_below_drewN | apply below_drew1 | refine below_set ?_ GE103.out) | exact HB.out))) : w.heap.size ≤ gb104)); have n4_ := Aside0.mk ((by rw [hg]; exact (below_size (by repeat (first | (with_reducible first | exact HB.out | apply below_alloc | apply pw_below_drewN | apply below_drew1 | refine below_set ?_ GE103.out) | exact HB.out))) : w.heap.size ≤ gb104)); have n5_ := Aside0.mk ((by rw [hg]; exact Nat.ne_of_lt (blk_lt (g := gb103) (o := .cells #[.int .u32 a0_0, .int .u64 a0_1, .int .u32 a0_2, .int .u32 a0_3, .int .u32 a0_4, .int .u32 a0_5, .int .u32 a0_6, .slice A0_7 l0_7.length c0_7] 26 (0, 0)) (by (with_reducible repeat (first | refine blk_drewN ?_ _ | refine blk_drew ?_ | refine blk_alloc ?_ _)); exact BK103.out)) : gb103 ≠ gb104)); have n6_ := Aside0.mk ((by rw [hg]; exact Nat.ne_of_gt (blk_lt (g := gb103) (o := .cells #[.int .u32 a0_0, .int .u64 a0_1, .int .u32 a0_2, .int .u32 a0_3, .int .u32 a0_4, .int .u32 a0_5, .int .u32 a0_6, .slice A0_7 l0_7.length c0_7] 26 (0, 0)) (by (with_reducible repeat (first | refine blk_drewN ?_ _ | refine blk_drew ?_ | refine blk_alloc ?_ _)); exact BK103.out)) : gb104 ≠ gb103)); clear BK103; clear HB; have BK103 := n0_; have HB := n1_; have BK104 := n2_; have GW104 := n3_; have GE104 := n4_; have NB103_104 := n5_; have NB104_103 := n6_; clear n0_ n1_ n2_ n3_ n4_ n5_ n6_; clear hb hbox hg; have hnb43 := NB103_104.out; have hnc43 := NB104_103.out; have hcz44_0 : w42.cell? ⟨gb103, 0, none⟩ = some (.int .u32 a0_0) := (blk_cell BK103.out 0).trans rfl; have hcz44_1 : w42.cell? ⟨gb103, 1, none⟩ = some (.int .u64 a0_1) := (blk_cell BK103.out 1).trans rfl; have hcz44_2 : w42.cell? ⟨gb103, 2, none⟩ = some (.int .u32 a0_2) := (blk_cell BK103.out 2).trans rfl; have hcz44_3 : w42.cell? ⟨gb103, 3, none⟩ = some (.int .u32 a0_3) := (blk_cell BK103.out 3).trans rfl; have hcz44_4 : w42.cell? ⟨gb103, 4, none⟩ = some (.int .u32 a0_4) := (blk_cell BK103.out 4).trans rfl; have hcz44_5 : w42.cell? ⟨gb103, 5, none⟩ = some (.int .u32 a0_5) := (blk_cell BK103.out 5).trans rfl; have hcz44_6 : w42.cell? ⟨gb103, 6, none⟩ = some (.int .u32 a0_6) := (blk_cell BK103.out 6).trans rfl; have hcz44_7 : w42.cell? ⟨gb103, 7, none⟩ = some (.slice A0_7 l0_7.length c0_7) := (blk_cell BK103.out 7).trans rfl; have hfz44_0 := blk_frozen BK103.out 0; have hfz44_1 := blk_frozen BK103.out 1; have hfz44_2 := blk_frozen BK103.out 2; have hfz44_3 := blk_frozen BK103.out 3; have hfz44_4 := blk_frozen BK103.out 4; have hfz44_5 := blk_frozen BK103.out 5; have hfz44_6 := blk_frozen BK103.out 6; have hfz44_7 := blk_frozen BK103.out 7; have hcz45_0 : w42.cell? ⟨gb104, 0, none⟩ = some (.int .u32 a1_0) := (blk_cell BK104.out 0).trans rfl; have hcz45_1 : w42.cell? ⟨gb104, 1, none⟩ = some (.int .u64 a1_1) := (blk_cell BK104.out 1).trans rfl; have hcz45_2 : w42.cell? ⟨gb104, 2, none⟩ = some (.int .u32 a1_2) := (blk_cell BK104.out 2).trans rfl; have hcz45_3 : w42.cell? ⟨gb104, 3, none⟩ = some (.int .u32 a1_3) := (blk_cell BK104.out 3).trans rfl; have hcz45_4 : w42.cell? ⟨gb104, 4, none⟩ = some (.int .u32 a1_4) := (blk_cell BK104.out 4).trans rfl; have hcz45_5 : w42.cell? ⟨gb104, 5, none⟩ = some (.int .u32 a1_5) := (blk_cell BK104.out 5).trans rfl; have hcz45_6 : w42.cell? ⟨gb104, 6, none⟩ = some (.int .u32 a1_6) := (blk_cell BK104.out 6).trans rfl; have hcz45_7 : w42.cell? ⟨gb104, 7, none⟩ = some (.slice A1_7 l1_7.length c1_7) := (blk_cell BK104.out 7).trans rfl; have hfz45_0 := blk_frozen BK104.out 0; have hfz45_1 := blk_frozen BK104.out 1; have hfz45_2 := blk_frozen BK104.out 2; have hfz45_3 := blk_frozen BK104.out 3; have hfz45_4 := blk_frozen BK104.out 4; have hfz45_5 := blk_frozen BK104.out 5; have hfz45_6 := blk_frozen BK104.out 6; have hfz45_7 := blk_frozen BK104.out 7))
      go_ret
      exact ⟨by first | rfl | (simp [errW_none, errW_some] <;> rfl) | (simp [*, errW_none, errW_some] <;> rfl), by repeat (first | (with_reducible first | exact HB.out | apply below_alloc | apply pw_below_drewN | apply below_drew1 | refine below_set ?_ GE103.out | refine below_set ?_ GE104.out) | exact HB.out)⟩
  · rw [if_neg c3] at H
    have c3b0 : (a0_0 == a1_0) = false := beq_eq_false_iff_ne.mpr c3
    have c3b1 : (a0_0 != a1_0) = true := bne_iff_ne.mpr c3
    obtain rfl := Option.some.inj H
    go_enter Tryz.func33, Tryz.ntmps33
    go_wp2_with (first | ((with_reducible refine gate_dst (N := 2) rfl ?_); refine box_event ?hg (N := 2) ?hd (cs := #[.int .u32 a0_0, .int .u64 a0_1, .int .u32 a0_2, .int .u32 a0_3, .int .u32 a0_4, .int .u32 a0_5, .int .u32 a0_6, .slice A0_7 l0_7.length c0_7]) (t := 26) ?hr ?_; (case hd => rfl); (case hg => rfl); (case hr => first | (go_simp; done) | (go_simp; rfl)); intro gb103 hg w46 hbox hb; have n0_ := Aside0.mk (below_step (by repeat (first | (with_reducible first | exact HB.out | apply below_alloc | apply pw_below_drewN | apply below_drew1) | exact HB.out)) hb); have n1_ := Aside0.mk (hbox); have n2_ := Aside0.mk ((by rw [hg]; exact (below_size (by repeat (first | (with_reducible first | exact HB.out | apply below_alloc | apply pw_below_drewN | apply below_drew1) | exact HB.out))) : w.heap.size ≤ gb103)); have n3_ := Aside0.mk ((by rw [hg]; exact (below_size (by repeat (first | (with_reducible first | exact HB.out | apply below_alloc | apply pw_below_drewN | apply below_drew1) | exact HB.out))) : w.heap.size ≤ gb103)); clear HB; have HB := n0_; have BK103 := n1_; have GW103 := n2_; have GE103 := n3_; clear n0_ n1_ n2_ n3_; clear hb hbox hg) | ((with_reducible refine gate_dst (N := 3) rfl ?_); refine box_event ?hg (N := 3) ?hd (cs := #[.int .u32 a1_0, .int .u64 a1_1, .int .u32 a1_2, .int .u32 a1_3, .int .u32 a1_4, .int .u32 a1_5, .int .u32 a1_6, .slice A1_7 l1_7.length c1_7]) (t := 26) ?hr ?_; (case hd => rfl); (case hg => rfl); (case hr => first | (go_simp; done) | (go_simp; rfl)); intro gb104 hg w47 hbox hb; have n0_ := Aside0.mk (blk_below (g := gb103) (o := .cells #[.int .u32 a0_0, .int .u64 a0_1, .int .u32 a0_2, .int .u32 a0_3, .int .u32 a0_4, .int .u32 a0_5, .int .u32 a0_6, .slice A0_7 l0_7.length c0_7] 26 (0, 0)) (by (with_reducible repeat (first | refine blk_drewN ?_ _ | refine blk_drew ?_ | refine blk_alloc ?_ _)); exact BK103.out) hb); have n1_ := Aside0.mk (below_step (by repeat (first | (with_reducible first | exact HB.out | apply below_alloc | apply pw_below_drewN | apply below_drew1 | refine below_set ?_ GE103.out) | exact HB.out)) hb); have n2_ := Aside0.mk (hbox); have n3_ := Aside0.mk ((by rw [hg]; exact (below_size (by repeat (first | (with_reducible first | exact HB.out | apply below_alloc | apply pw_below_drewN | apply below_drew1 | refine below_set ?_ GE103.out) | exact HB.out))) : w.heap.size ≤ gb104)); have n4_ := Aside0.mk ((by rw [hg]; exact (below_size (by repeat (first | (with_reducible first | exact HB.out | apply below_alloc | apply pw_below_drewN | apply below_drew1 | refine below_set ?_ GE103.out) | exact HB.out))) : w.heap.size ≤ gb104)); have n5_ := Aside0.mk ((by rw [hg]; exact Nat.ne_of_lt (blk_lt (g := gb103) (o := .cells #[.int .u32 a0_0, .int .u64 a0_1, .int .u32 a0_2, .int .u32 a0_3, .int .u32 a0_4, .int .u32 a0_5, .int .u32 a0_6, .slice A0_7 l0_7.length c0_7] 26 (0, 0)) (by (with_reducible repeat (first | refine blk_drewN ?_ _ | refine blk_drew ?_ | refine blk_alloc ?_ _)); exact BK103.out)) : gb103 ≠ gb104)); have n6_ := Aside0.mk ((by rw [hg]; exact Nat.ne_of_gt (blk_lt (g := gb103) (o := .cells #[.int .u32 a0_0, .int .u64 a0_1, .int .u32 a0_2, .int .u32 a0_3, .int .u32 a0_4, .int .u32 a0_5, .int .u32 a0_6, .slice A0_7 l0_7.length c0_7] 26 (0, 0)) (by (with_reducible repeat (first | refine blk_drewN ?_ _ | refine blk_drew ?_ | refine blk_alloc ?_ _)); exact BK103.out)) : gb104 ≠ gb103)); clear BK103; clear HB; have BK103 := n0_; have HB := n1_; have BK104 := n2_; have GW104 := n3_; have GE104 := n4_; have NB103_104 := n5_; have NB104_103 := n6_; clear n0_ n1_ n2_ n3_ n4_ n5_ n6_; clear hb hbox hg; have hnb48 := NB103_104.out; have hnc48 := NB104_103.out; have hcz49_0 : w47.cell? ⟨gb103, 0, none⟩ = some (.int .u32 a0_0) := (blk_cell BK103.out 0).trans rfl; have hcz49_1 : w47.cell? ⟨gb103, 1, none⟩ = some (.int .u64 a0_1) := (blk_cell BK103.out 1).trans rfl; have hcz49_2 : w47.cell? ⟨gb103, 2, none⟩ = some (.int .u32 a0_2) := (blk_cell BK103.out 2).trans rfl; have hcz49_3 : w47.cell? ⟨gb103, 3, none⟩ = some (.int .u32 a0_3) := (blk_cell BK103.out 3).trans rfl; have hcz49_4 : w47.cell? ⟨gb103, 4, none⟩ = some (.int .u32 a0_4) := (blk_cell BK103.out 4).trans rfl; have hcz49_5 : w47.cell? ⟨gb103, 5, none⟩ = some (.int .u32 a0_5) := (blk_cell BK103.out 5).trans rfl; have hcz49_6 : w47.cell? ⟨gb103, 6, none⟩ = some (.int .u32 a0_6) := (blk_cell BK103.out 6).trans rfl; have hcz49_7 : w47.cell? ⟨gb103, 7, none⟩ = some (.slice A0_7 l0_7.length c0_7) := (blk_cell BK103.out 7).trans rfl; have hfz49_0 := blk_frozen BK103.out 0; have hfz49_1 := blk_frozen BK103.out 1; have hfz49_2 := blk_frozen BK103.out 2; have hfz49_3 := blk_frozen BK103.out 3; have hfz49_4 := blk_frozen BK103.out 4; have hfz49_5 := blk_frozen BK103.out 5; have hfz49_6 := blk_frozen BK103.out 6; have hfz49_7 := blk_frozen BK103.out 7; have hcz50_0 : w47.cell? ⟨gb104, 0, none⟩ = some (.int .u32 a1_0) := (blk_cell BK104.out 0).trans rfl; have hcz50_1 : w47.cell? ⟨gb104, 1, none⟩ = some (.int .u64 a1_1) := (blk_cell BK104.out 1).trans rfl; have hcz50_2 : w47.cell? ⟨gb104, 2, none⟩ = some (.int .u32 a1_2) := (blk_cell BK104.out 2).trans rfl; have hcz50_3 : w47.cell? ⟨gb104, 3, none⟩ = some (.int .u32 a1_3) := (blk_cell BK104.out 3).trans rfl; have hcz50_4 : w47.cell? ⟨gb104, 4, none⟩ = some (.int .u32 a1_4) := (blk_cell BK104.out 4).trans rfl; have hcz50_5 : w47.cell? ⟨gb104, 5, none⟩ = some (.int .u32 a1_5) := (blk_cell BK104.out 5).trans rfl; have hcz50_6 : w47.cell? ⟨gb104, 6, none⟩ = some (.int .u32 a1_6) := (blk_cell BK104.out 6).trans rfl; have hcz50_7 : w47.cell? ⟨gb104, 7, none⟩ = some (.slice A1_7 l1_7.length c1_7) := (blk_cell BK104.out 7).trans rfl; have hfz50_0 := blk_frozen BK104.out 0; have hfz50_1 := blk_frozen BK104.out 1; have hfz50_2 := blk_frozen BK104.out 2; have hfz50_3 := blk_frozen BK104.out 3; have hfz50_4 := blk_frozen BK104.out 4; have hfz50_5 := blk_frozen BK104.out 5; have hfz50_6 := blk_frozen BK104.out 6; have hfz50_7 := blk_frozen BK104.out 7))
    go_ret
    exact ⟨by first | rfl | (simp [errW_none, errW_some] <;> rfl) | (simp [*, errW_none, errW_some] <;> rfl), by repeat (first | (with_reducible first | exact HB.out | apply below_alloc | apply pw_below_drewN | apply below_drew1 | refine below_set ?_ GE103.out | refine below_set ?_ GE104.out) | exact HB.out)⟩
end Go.Proofs.YtmenkckgpiafiaaGreat.PS
namespace Go.Proofs.YtmenkckgpiafiaaGreat.PF
open Go.Proofs.YtmenkckgpiafiaaGreat.KK Go.RowKit Go.Proofs.YtmenkckgpiafiaaGreatW.PrintWords Go.Proofs.YtmenkckgpiafiaaGreatW.PrintLast Go.Proofs.YtmenkckgpiafiaaGreatW.PrintMore
attribute [local go_sem] max2_int min2_int max_two min_two max_three min_three max_four min_four
set_option linter.unusedVariables false
set_option linter.unusedSimpArgs false
def errW : Option Int → Value
  | none => .nilIface
  | some c => .iface 0 (.int .i64 c)
theorem errW_none : errW none = .nilIface := rfl
theorem errW_some (c : Int) : errW (some c) = .iface 0 (.int .i64 c) := rfl
end Go.Proofs.YtmenkckgpiafiaaGreat.PF
namespace Go.Proofs.YtmenkckgpiafiaaGreat.PF
open Go.Proofs.YtmenkckgpiafiaaGreat.KK Go.RowKit Go.Proofs.YtmenkckgpiafiaaGreatW.PrintWords Go.Proofs.YtmenkckgpiafiaaGreatW.PrintLast Go.Proofs.YtmenkckgpiafiaaGreatW.PrintMore
attribute [local go_sem] max2_int min2_int max_two min_two max_three min_three max_four min_four
set_option linter.unusedVariables false
set_option linter.unusedSimpArgs false
def laws_zzFits7.f (a0_0 : ByteArray) (a0_1 : ByteArray) : Option (Bool) := if (a0_0.size : Int) > 2147483647 then (some false) else (if (a0_1.size : Int) > 2147483647 then (some false) else (some true))
set_option maxHeartbeats 8000000 in
set_option maxRecDepth 100000 in
theorem laws_zzFits7.calls (a0_0 : ByteArray) (a0_1 : ByteArray) (r : Bool) (w : World) (h : laws_zzFits7.f a0_0 a0_1 = some r) :
    Calls Tryz.prog 108 #[.agg #[.string a0_0, .string a0_1]] w fun e w' => e = .returned (.bool r) ∧ Below w.heap.size w w' := by
  have hu89 := Tryz.underlying89
  have HB := Aside0.mk (Below.refl w.heap.size w)
  have H : (if (a0_0.size : Int) > 2147483647 then (some false) else (if (a0_1.size : Int) > 2147483647 then (some false) else (some true))) = some r := h
  clear h
  by_cases c2 : (a0_0.size : Int) > 2147483647
  · rw [if_pos c2] at H
    have c2b0 : decide (2147483647 < (a0_0.size : Int)) = true := decide_eq_true c2
    have c2b1 : decide (2147483647 < a0_0.size) = true := decide_eq_true (by omega)
    clear c2
    obtain rfl := Option.some.inj H
    go_enter Tryz.func108, Tryz.ntmps108
    go_wp2_with (first | ((with_reducible refine gate_dst (N := 1) rfl ?_); refine box_event ?hg (N := 1) ?hd (cs := #[.string a0_0, .string a0_1]) (t := 89) ?hr ?_; (case hd => rfl); (case hg => rfl); (case hr => first | (go_simp; done) | (go_simp; rfl)); intro gb101 hg w3 hbox hb; have n0_ := Aside0.mk (below_step (by repeat (first | (with_reducible first | exact HB.out | apply below_alloc | apply pw_below_drewN | apply below_drew1) | exact HB.out)) hb); have n1_ := Aside0.mk (hbox); have n2_ := Aside0.mk ((by rw [hg]; exact (below_size (by repeat (first | (with_reducible first | exact HB.out | apply below_alloc | apply pw_below_drewN | apply below_drew1) | exact HB.out))) : w.heap.size ≤ gb101)); have n3_ := Aside0.mk ((by rw [hg]; exact (below_size (by repeat (first | (with_reducible first | exact HB.out | apply below_alloc | apply pw_below_drewN | apply below_drew1) | exact HB.out))) : w.heap.size ≤ gb101)); clear HB; have HB := n0_; have BK101 := n1_; have GW101 := n2_; have GE101 := n3_; clear n0_ n1_ n2_ n3_; clear hb hbox hg; have hcz4_0 : w3.cell? ⟨gb101, 0, none⟩ = some (.string a0_0) := (blk_cell BK101.out 0).trans rfl; have hcz4_1 : w3.cell? ⟨gb101, 1, none⟩ = some (.string a0_1) := (blk_cell BK101.out 1).trans rfl; have hfz4_0 := blk_frozen BK101.out 0; have hfz4_1 := blk_frozen BK101.out 1))
    go_ret
    exact ⟨by first | rfl | (simp [errW_none, errW_some] <;> rfl) | (simp [*, errW_none, errW_some] <;> rfl), by repeat (first | (with_reducible first | exact HB.out | apply below_alloc | apply pw_below_drewN | apply below_drew1 | refine below_set ?_ GE101.out) | exact HB.out)⟩
  · rw [if_neg c2] at H
    have c2b0 : decide (2147483647 < (a0_0.size : Int)) = false := decide_eq_false c2
    have c2b1 : decide (2147483647 < a0_0.size) = false := decide_eq_false (by omega)
    clear c2
    by_cases c5 : (a0_1.size : Int) > 2147483647
    · rw [if_pos c5] at H
      have c5b0 : decide (2147483647 < (a0_1.size : Int)) = true := decide_eq_true c5
      have c5b1 : decide (2147483647 < a0_1.size) = true := decide_eq_true (by omega)
      clear c5
      obtain rfl := Option.some.inj H
      go_enter Tryz.func108, Tryz.ntmps108
      go_wp2_with (first | ((with_reducible refine gate_dst (N := 1) rfl ?_); refine box_event ?hg (N := 1) ?hd (cs := #[.string a0_0, .string a0_1]) (t := 89) ?hr ?_; (case hd => rfl); (case hg => rfl); (case hr => first | (go_simp; done) | (go_simp; rfl)); intro gb101 hg w6 hbox hb; have n0_ := Aside0.mk (below_step (by repeat (first | (with_reducible first | exact HB.out | apply below_alloc | apply pw_below_drewN | apply below_drew1) | exact HB.out)) hb); have n1_ := Aside0.mk (hbox); have n2_ := Aside0.mk ((by rw [hg]; exact (below_size (by repeat (first | (with_reducible first | exact HB.out | apply below_alloc | apply pw_below_drewN | apply below_drew1) | exact HB.out))) : w.heap.size ≤ gb101)); have n3_ := Aside0.mk ((by rw [hg]; exact (below_size (by repeat (first | (with_reducible first | exact HB.out | apply below_alloc | apply pw_below_drewN | apply below_drew1) | exact HB.out))) : w.heap.size ≤ gb101)); clear HB; have HB := n0_; have BK101 := n1_; have GW101 := n2_; have GE101 := n3_; clear n0_ n1_ n2_ n3_; clear hb hbox hg; have hcz7_0 : w6.cell? ⟨gb101, 0, none⟩ = some (.string a0_0) := (blk_cell BK101.out 0).trans rfl; have hcz7_1 : w6.cell? ⟨gb101, 1, none⟩ = some (.string a0_1) := (blk_cell BK101.out 1).trans rfl; have hfz7_0 := blk_frozen BK101.out 0; have hfz7_1 := blk_frozen BK101.out 1))
      go_ret
      exact ⟨by first | rfl | (simp [errW_none, errW_some] <;> rfl) | (simp [*, errW_none, errW_some] <;> rfl), by repeat (first | (with_reducible first | exact HB.out | apply below_alloc | apply pw_below_drewN | apply below_drew1 | refine below_set ?_ GE101.out) | exact HB.out)⟩
    · rw [if_neg c5] at H
      have c5b0 : decide (2147483647 < (a0_1.size : Int)) = false := decide_eq_false c5
      have c5b1 : decide (2147483647 < a0_1.size) = false := decide_eq_false (by omega)
      clear c5
      obtain rfl := Option.some.inj H
      go_enter Tryz.func108, Tryz.ntmps108
      go_wp2_with (first | ((with_reducible refine gate_dst (N := 1) rfl ?_); refine box_event ?hg (N := 1) ?hd (cs := #[.string a0_0, .string a0_1]) (t := 89) ?hr ?_; (case hd => rfl); (case hg => rfl); (case hr => first | (go_simp; done) | (go_simp; rfl)); intro gb101 hg w8 hbox hb; have n0_ := Aside0.mk (below_step (by repeat (first | (with_reducible first | exact HB.out | apply below_alloc | apply pw_below_drewN | apply below_drew1) | exact HB.out)) hb); have n1_ := Aside0.mk (hbox); have n2_ := Aside0.mk ((by rw [hg]; exact (below_size (by repeat (first | (with_reducible first | exact HB.out | apply below_alloc | apply pw_below_drewN | apply below_drew1) | exact HB.out))) : w.heap.size ≤ gb101)); have n3_ := Aside0.mk ((by rw [hg]; exact (below_size (by repeat (first | (with_reducible first | exact HB.out | apply below_alloc | apply pw_below_drewN | apply below_drew1) | exact HB.out))) : w.heap.size ≤ gb101)); clear HB; have HB := n0_; have BK101 := n1_; have GW101 := n2_; have GE101 := n3_; clear n0_ n1_ n2_ n3_; clear hb hbox hg; have hcz9_0 : w8.cell? ⟨gb101, 0, none⟩ = some (.string a0_0) := (blk_cell BK101.out 0).trans rfl; have hcz9_1 : w8.cell? ⟨gb101, 1, none⟩ = some (.string a0_1) := (blk_cell BK101.out 1).trans rfl; have hfz9_0 := blk_frozen BK101.out 0; have hfz9_1 := blk_frozen BK101.out 1))
      go_ret
      exact ⟨by first | rfl | (simp [errW_none, errW_some] <;> rfl) | (simp [*, errW_none, errW_some] <;> rfl), by repeat (first | (with_reducible first | exact HB.out | apply below_alloc | apply pw_below_drewN | apply below_drew1 | refine below_set ?_ GE101.out) | exact HB.out)⟩
def laws_zzFits6.l0 : Nat → List (S89) → Int → Int → Option (Bool)
  | 0, _, _, _ => none
  | k + 1, x8, x9, x10 => if x10 < x9 then (if 0 ≤ x10 then (if x10 < (x8.length : Int) then ((laws_zzFits7.f ((rd_T89 x8 x10).f0) ((rd_T89 x8 x10).f1)).bind fun t104 => (if t104 = true then (laws_zzFits6.l0 k x8 x9 (wrap64 (x10 + 1))) else (some false))) else (none)) else (none)) else (some true)
def laws_zzFits6.f (k : Nat) (l0 : List (S89)) : Option (Bool) := if (l0.length : Int) > 2147483647 then (some false) else (laws_zzFits6.l0 k l0 (l0.length : Int) 0)
theorem laws_zzFits6.mono_l : ∀ k, (∀ y0 y1 y2, LeO (laws_zzFits6.l0 k y0 y1 y2) (laws_zzFits6.l0 (k + 1) y0 y1 y2))
  | 0 => fun _ _ _ r h => by simp [laws_zzFits6.l0] at h
  | k + 1 => by
    have ih0 := laws_zzFits6.mono_l k
    · intro y0 y1 y2
      unfold laws_zzFits6.l0
      repeat' first
      | (with_reducible exact ih0 _ _ _)
      | (with_reducible exact LeO.refl _)
      | (with_reducible exact LeO.none _)
      | (with_reducible refine LeO.ite ?_ ?_)
      | (with_reducible refine LeO.bind ?_ (fun _ => ?_))
      | exact ih0 _ _ _
      | exact LeO.none _
      | refine LeO.ite ?_ ?_
      | refine LeO.bind ?_ (fun _ => ?_)
theorem laws_zzFits6.mono : ∀ a0 k, LeO (laws_zzFits6.f k a0) (laws_zzFits6.f (k + 1) a0) := by
  intro a0 k
  have ih0 := laws_zzFits6.mono_l k
  unfold laws_zzFits6.f
  repeat' first
      | (with_reducible exact ih0 _ _ _)
      | (with_reducible exact LeO.refl _)
      | (with_reducible exact LeO.none _)
      | (with_reducible refine LeO.ite ?_ ?_)
      | (with_reducible refine LeO.bind ?_ (fun _ => ?_))
      | exact ih0 _ _ _
      | exact LeO.none _
      | refine LeO.ite ?_ ?_
      | refine LeO.bind ?_ (fun _ => ?_)
set_option maxHeartbeats 8000000 in
set_option maxRecDepth 100000 in
theorem laws_zzFits6.calls (k : Nat) (A0 : Option Addr) (c0 : Nat) (l0 : List (S89)) (r : Bool) (w : World) (hr0 : Kd.C k89 w A0 l0.length l0) (hc0 : l0.length ≤ c0) (h : laws_zzFits6.f k l0 = some r) :
    Calls Tryz.prog 48 #[.slice A0 l0.length c0] w fun e w' => e = .returned (.bool r) ∧ Below w.heap.size w w' := by
  have hu89 := Tryz.underlying89
  have HR0 := Aside0.mk hr0
  have HC0 := Aside0.mk hc0
  clear hr0 hc0
  have HB := Aside0.mk (Below.refl w.heap.size w)
  have H : (if (l0.length : Int) > 2147483647 then (some false) else (laws_zzFits6.l0 k l0 (l0.length : Int) 0)) = some r := h
  clear h
  by_cases c2 : (l0.length : Int) > 2147483647
  · rw [if_pos c2] at H
    have c2b0 : decide (2147483647 < (l0.length : Int)) = true := decide_eq_true c2
    have c2b1 : decide (2147483647 < l0.length) = true := decide_eq_true (by omega)
    clear c2
    obtain rfl := Option.some.inj H
    go_enter Tryz.func48, Tryz.ntmps48
    go_wp2
    go_ret
    exact ⟨by first | rfl | (simp [errW_none, errW_some] <;> rfl) | (simp [*, errW_none, errW_some] <;> rfl), by repeat (first | (with_reducible first | exact HB.out | apply below_alloc | apply pw_below_drewN | apply below_drew1) | exact HB.out)⟩
  · rw [if_neg c2] at H
    have c2b0 : decide (2147483647 < (l0.length : Int)) = false := decide_eq_false c2
    have c2b1 : decide (2147483647 < l0.length) = false := decide_eq_false (by omega)
    clear c2
    have H' := Aside0.mk H
    clear H
    go_enter Tryz.func48, Tryz.ntmps48
    go_wp2
    go_loopg [10] k (fun kq v10 w' => ∃ (x10_1 : Int), v10 = .int .i64 x10_1 ∧ Aside0 (laws_zzFits6.l0 kq l0 (l0.length : Int) x10_1 = some r) ∧ Aside0 (kq ≤ k) ∧ Aside0 (Below w.heap.size w w'))
    case atStart => exact ⟨(0), (by first | rfl | (simp; done) | (simp [*]; done)), H', ⟨Nat.le_refl _⟩, ⟨by repeat (first | (with_reducible first | exact HB.out | apply below_alloc | apply pw_below_drewN | apply below_drew1) | exact HB.out)⟩⟩
    case round =>
      clear H'
      try clear c2
      try clear c2b0
      try clear c2b1
      try clear p2
      obtain ⟨x10_1, rfl, HA, HK1, HB⟩ := hrel
      cases gk with
      | zero => exact absurd HA.out (by simp [laws_zzFits6.l0])
      | succ k1 =>
        have H := HA.out
        clear HA
        simp only [laws_zzFits6.l0] at H
        by_cases c3 : x10_1 < (l0.length : Int)
        · rw [if_pos c3] at H
          have c3b0 : decide (x10_1 < (l0.length : Int)) = true := decide_eq_true c3
          clear c3
          by_cases c4 : 0 ≤ x10_1
          · rw [if_pos c4] at H
            have c4b0 : decide (0 ≤ x10_1) = true := decide_eq_true c4
            clear c4
            by_cases c5 : x10_1 < (l0.length : Int)
            · rw [if_pos c5] at H
              have c5b0 : decide (x10_1 < (l0.length : Int)) = true := decide_eq_true c5
              clear c5
              replace H := Option.bind_eq_some_iff.mp H
              obtain ⟨t104, A60, H⟩ := H
              replace H : (if t104 = true then (laws_zzFits6.l0 k1 l0 (l0.length : Int) (wrap64 (x10_1 + 1))) else (some false)) = some r := H
              have A6 := Aside0.mk A60
              clear A60
              by_cases c7 : t104 = true
              · subst c7
                have H1 : (laws_zzFits6.l0 k1 l0 (l0.length : Int) (wrap64 (x10_1 + 1))) = some r := by rw [if_pos rfl] at H; exact H
                clear H
                have H := H1
                clear H1
                have H' := Aside0.mk H
                clear H
                have p102 : 0 ≤ (x10_1 : Int) := of_decide_eq_true (by first | (with_reducible assumption) | assumption)
                have q102 : x10_1 < (l0.length : Int) := of_decide_eq_true (by first | (with_reducible assumption) | assumption)
                obtain ⟨ad102, e102, hx102_0, hx102_1⟩ := at_T89 HR0.out x10_1 p102 q102
                cases e102
                replace hx102_0 := (HB.out.cell (World.block_lt_of_cell? w _ hx102_0)).trans hx102_0
                replace hx102_1 := (HB.out.cell (World.block_lt_of_cell? w _ hx102_1)).trans hx102_1
                replace p102 := eq_true p102
                replace q102 := eq_true q102
                go_wp2_with (first | ((with_reducible refine gate_dst (N := 4) rfl ?_); refine box_event ?hg (N := 4) ?hd (cs := #[.string (⟨#[]⟩ : ByteArray), .string (⟨#[]⟩ : ByteArray)]) (t := 89) ?hr ?_; (case hd => rfl); (case hg => rfl); (case hr => first | (go_simp; done) | (go_simp; rfl)); intro gb103 hg w8 hbox hb; have n0_ := Aside0.mk (below_step (by repeat (first | (with_reducible first | exact HB.out | apply below_alloc | apply pw_below_drewN | apply below_drew1) | exact HB.out)) hb); have n1_ := Aside0.mk (hbox); have n2_ := Aside0.mk ((by rw [hg]; exact (below_size (by repeat (first | (with_reducible first | exact HB.out | apply below_alloc | apply pw_below_drewN | apply below_drew1) | exact HB.out))) : w.heap.size ≤ gb103)); have n3_ := Aside0.mk ((by rw [hg]; exact (below_size (by repeat (first | (with_reducible first | exact HB.out | apply below_alloc | apply pw_below_drewN | apply below_drew1) | exact HB.out))) : w.heap.size ≤ gb103)); clear HB; have HB := n0_; have BK103 := n1_; have GW103 := n2_; have GE103 := n3_; clear n0_ n1_ n2_ n3_; clear hb hbox hg; have hcz9_0 : w8.cell? ⟨gb103, 0, none⟩ = some (.string (⟨#[]⟩ : ByteArray)) := (blk_cell BK103.out 0).trans rfl; have hcz9_1 : w8.cell? ⟨gb103, 1, none⟩ = some (.string (⟨#[]⟩ : ByteArray)) := (blk_cell BK103.out 1).trans rfl; have hfz9_0 := blk_frozen BK103.out 0; have hfz9_1 := blk_frozen BK103.out 1) | ((with_reducible refine gate_callee (f := 108) rfl ?_); refine goesL_ (some 15) rfl rfl Tryz.func108 (by kernel_rfl) rfl #[.agg #[.string ((rd_T89 l0 x10_1).f0), .string ((rd_T89 l0 x10_1).f1)]] rfl (by (try simp only [List.map_toArray, List.map_cons, List.map_nil]); first | done | rfl | (simp only [List.length_drop, List.length_take]; rfl)) ?_; (with_reducible refine (laws_zzFits7.calls ((rd_T89 l0 x10_1).f0) ((rd_T89 l0 x10_1).f1) true _ A6.out).mono ?_); rintro e w10 ⟨rfl, hb⟩; refine ⟨_, rfl, ?_⟩; have n0_ := Aside0.mk (blk_below (g := gb103) (o := .cells #[.string ((rd_T89 l0 x10_1).f0), .string ((rd_T89 l0 x10_1).f1)] 89 (0, 0)) (by (with_reducible repeat (first | refine blk_drewN ?_ _ | refine blk_drew ?_ | refine blk_alloc ?_ _)); refine blk_put (cs := #[.string ((rd_T89 l0 x10_1).f0), .string (⟨#[]⟩ : ByteArray)]) ?_ 1 _ rfl; (with_reducible repeat (first | refine blk_drewN ?_ _ | refine blk_drew ?_ | refine blk_alloc ?_ _)); refine blk_put (cs := #[.string (⟨#[]⟩ : ByteArray), .string (⟨#[]⟩ : ByteArray)]) ?_ 0 _ rfl; (with_reducible repeat (first | refine blk_drewN ?_ _ | refine blk_drew ?_ | refine blk_alloc ?_ _)); exact BK103.out) hb); have n1_ := Aside0.mk (below_step (by repeat (first | (with_reducible first | exact HB.out | apply below_alloc | apply pw_below_drewN | apply below_drew1 | refine below_set ?_ GE103.out) | exact HB.out)) hb); clear BK103; clear HB; have BK103 := n0_; have HB := n1_; clear n0_ n1_; (try clear hb); (try clear hb2); (try clear hk); (try clear hi)))
                go_roundg k1
                case measure => have := HK1.out; omega
                case rel => exact ⟨(wrap64 (x10_1 + 1)), (by first | rfl | (simp; done) | (simp [*]; done)), H', ⟨by have := HK1.out; omega⟩, ⟨by repeat (first | (with_reducible first | exact HB.out | apply below_alloc | apply pw_below_drewN | apply below_drew1 | refine below_set ?_ GE103.out) | exact HB.out)⟩⟩
              · replace c7 := Bool.eq_false_iff.mpr c7
                subst c7
                have H1 : (some false) = some r := by rw [if_neg (show ¬ (false = true) by decide)] at H; exact H
                clear H
                have H := H1
                clear H1
                obtain rfl := Option.some.inj H
                have p102 : 0 ≤ (x10_1 : Int) := of_decide_eq_true (by first | (with_reducible assumption) | assumption)
                have q102 : x10_1 < (l0.length : Int) := of_decide_eq_true (by first | (with_reducible assumption) | assumption)
                obtain ⟨ad102, e102, hx102_0, hx102_1⟩ := at_T89 HR0.out x10_1 p102 q102
                cases e102
                replace hx102_0 := (HB.out.cell (World.block_lt_of_cell? w _ hx102_0)).trans hx102_0
                replace hx102_1 := (HB.out.cell (World.block_lt_of_cell? w _ hx102_1)).trans hx102_1
                replace p102 := eq_true p102
                replace q102 := eq_true q102
                go_wp2_with (first | ((with_reducible refine gate_dst (N := 4) rfl ?_); refine box_event ?hg (N := 4) ?hd (cs := #[.string (⟨#[]⟩ : ByteArray), .string (⟨#[]⟩ : ByteArray)]) (t := 89) ?hr ?_; (case hd => rfl); (case hg => rfl); (case hr => first | (go_simp; done) | (go_simp; rfl)); intro gb103 hg w11 hbox hb; have n0_ := Aside0.mk (below_step (by repeat (first | (with_reducible first | exact HB.out | apply below_alloc | apply pw_below_drewN | apply below_drew1) | exact HB.out)) hb); have n1_ := Aside0.mk (hbox); have n2_ := Aside0.mk ((by rw [hg]; exact (below_size (by repeat (first | (with_reducible first | exact HB.out | apply below_alloc | apply pw_below_drewN | apply below_drew1) | exact HB.out))) : w.heap.size ≤ gb103)); have n3_ := Aside0.mk ((by rw [hg]; exact (below_size (by repeat (first | (with_reducible first | exact HB.out | apply below_alloc | apply pw_below_drewN | apply below_drew1) | exact HB.out))) : w.heap.size ≤ gb103)); clear HB; have HB := n0_; have BK103 := n1_; have GW103 := n2_; have GE103 := n3_; clear n0_ n1_ n2_ n3_; clear hb hbox hg; have hcz12_0 : w11.cell? ⟨gb103, 0, none⟩ = some (.string (⟨#[]⟩ : ByteArray)) := (blk_cell BK103.out 0).trans rfl; have hcz12_1 : w11.cell? ⟨gb103, 1, none⟩ = some (.string (⟨#[]⟩ : ByteArray)) := (blk_cell BK103.out 1).trans rfl; have hfz12_0 := blk_frozen BK103.out 0; have hfz12_1 := blk_frozen BK103.out 1) | ((with_reducible refine gate_callee (f := 108) rfl ?_); refine goesL_ (some 15) rfl rfl Tryz.func108 (by kernel_rfl) rfl #[.agg #[.string ((rd_T89 l0 x10_1).f0), .string ((rd_T89 l0 x10_1).f1)]] rfl (by (try simp only [List.map_toArray, List.map_cons, List.map_nil]); first | done | rfl | (simp only [List.length_drop, List.length_take]; rfl)) ?_; (with_reducible refine (laws_zzFits7.calls ((rd_T89 l0 x10_1).f0) ((rd_T89 l0 x10_1).f1) false _ A6.out).mono ?_); rintro e w13 ⟨rfl, hb⟩; refine ⟨_, rfl, ?_⟩; have n0_ := Aside0.mk (blk_below (g := gb103) (o := .cells #[.string ((rd_T89 l0 x10_1).f0), .string ((rd_T89 l0 x10_1).f1)] 89 (0, 0)) (by (with_reducible repeat (first | refine blk_drewN ?_ _ | refine blk_drew ?_ | refine blk_alloc ?_ _)); refine blk_put (cs := #[.string ((rd_T89 l0 x10_1).f0), .string (⟨#[]⟩ : ByteArray)]) ?_ 1 _ rfl; (with_reducible repeat (first | refine blk_drewN ?_ _ | refine blk_drew ?_ | refine blk_alloc ?_ _)); refine blk_put (cs := #[.string (⟨#[]⟩ : ByteArray), .string (⟨#[]⟩ : ByteArray)]) ?_ 0 _ rfl; (with_reducible repeat (first | refine blk_drewN ?_ _ | refine blk_drew ?_ | refine blk_alloc ?_ _)); exact BK103.out) hb); have n1_ := Aside0.mk (below_step (by repeat (first | (with_reducible first | exact HB.out | apply below_alloc | apply pw_below_drewN | apply below_drew1 | refine below_set ?_ GE103.out) | exact HB.out)) hb); clear BK103; clear HB; have BK103 := n0_; have HB := n1_; clear n0_ n1_; (try clear hb); (try clear hb2); (try clear hk); (try clear hi)))
                go_ret
                exact ⟨by first | rfl | (simp [errW_none, errW_some] <;> rfl) | (simp [*, errW_none, errW_some] <;> rfl), by repeat (first | (with_reducible first | exact HB.out | apply below_alloc | apply pw_below_drewN | apply below_drew1 | refine below_set ?_ GE103.out) | exact HB.out)⟩
            · rw [if_neg c5] at H
              exact absurd H (by simp)
          · rw [if_neg c4] at H
            exact absurd H (by simp)
        · rw [if_neg c3] at H
          have c3b0 : decide (x10_1 < (l0.length : Int)) = false := decide_eq_false c3
          clear c3
          obtain rfl := Option.some.inj H
          go_wp2
          go_ret
          exact ⟨by first | rfl | (simp [errW_none, errW_some] <;> rfl) | (simp [*, errW_none, errW_some] <;> rfl), by repeat (first | (with_reducible first | exact HB.out | apply below_alloc | apply pw_below_drewN | apply below_drew1) | exact HB.out)⟩
def laws_zzFits5.f (k : Nat) (a0_0 : Int) (a0_1 : Int) (a0_2 : Int) (a0_3 : Int) (a0_4 : Int) (a0_5 : Int) (a0_6 : Int) (l0_7 : List (S89)) : Option (Bool) := (laws_zzFits6.f k l0_7).bind fun t106 => (if t106 = true then (some true) else (some false))
theorem laws_zzFits5.mono : ∀ a0 a1 a2 a3 a4 a5 a6 a7 k, LeO (laws_zzFits5.f k a0 a1 a2 a3 a4 a5 a6 a7) (laws_zzFits5.f (k + 1) a0 a1 a2 a3 a4 a5 a6 a7) := by
  intro a0 a1 a2 a3 a4 a5 a6 a7 k
  unfold laws_zzFits5.f
  repeat' first
      | (with_reducible exact laws_zzFits6.mono _ _)
      | (with_reducible exact LeO.refl _)
      | (with_reducible exact LeO.none _)
      | (with_reducible refine LeO.ite ?_ ?_)
      | (with_reducible refine LeO.bind ?_ (fun _ => ?_))
      | exact laws_zzFits6.mono _ _
      | exact LeO.none _
      | refine LeO.ite ?_ ?_
      | refine LeO.bind ?_ (fun _ => ?_)
set_option maxHeartbeats 8000000 in
set_option maxRecDepth 100000 in
theorem laws_zzFits5.calls (k : Nat) (a0_0 : Int) (a0_1 : Int) (a0_2 : Int) (a0_3 : Int) (a0_4 : Int) (a0_5 : Int) (a0_6 : Int) (A0_7 : Option Addr) (c0_7 : Nat) (l0_7 : List (S89)) (r : Bool) (w : World) (hr0_7 : Kd.C k89 w A0_7 l0_7.length l0_7) (hc0_7 : l0_7.length ≤ c0_7) (h : laws_zzFits5.f k a0_0 a0_1 a0_2 a0_3 a0_4 a0_5 a0_6 l0_7 = some r) :
    Calls Tryz.prog 26 #[.agg #[.int .u32 a0_0, .int .u64 a0_1, .int .u32 a0_2, .int .u32 a0_3, .int .u32 a0_4, .int .u32 a0_5, .int .u32 a0_6, .slice A0_7 l0_7.length c0_7]] w fun e w' => e = .returned (.bool r) ∧ Below w.heap.size w w' := by
  have hu26 := Tryz.underlying26
  have HR0_7 := Aside0.mk hr0_7
  have HC0_7 := Aside0.mk hc0_7
  clear hr0_7 hc0_7
  have HB := Aside0.mk (Below.refl w.heap.size w)
  have H : ((laws_zzFits6.f k l0_7).bind fun t106 => (if t106 = true then (some true) else (some false))) = some r := h
  clear h
  replace H := Option.bind_eq_some_iff.mp H
  obtain ⟨t106, A20, H⟩ := H
  replace H : (if t106 = true then (some true) else (some false)) = some r := H
  have A2 := Aside0.mk A20
  clear A20
  by_cases c3 : t106 = true
  · subst c3
    have H1 : (some true) = some r := by rw [if_pos rfl] at H; exact H
    clear H
    have H := H1
    clear H1
    obtain rfl := Option.some.inj H
    go_enter Tryz.func26, Tryz.ntmps26
    go_wp2_with (first | ((with_reducible refine gate_dst (N := 1) rfl ?_); refine box_event ?hg (N := 1) ?hd (cs := #[.int .u32 a0_0, .int .u64 a0_1, .int .u32 a0_2, .int .u32 a0_3, .int .u32 a0_4, .int .u32 a0_5, .int .u32 a0_6, .slice A0_7 l0_7.length c0_7]) (t := 26) ?hr ?_; (case hd => rfl); (case hg => rfl); (case hr => first | (go_simp; done) | (go_simp; rfl)); intro gb105 hg w4 hbox hb; have n0_ := Aside0.mk (below_step (by repeat (first | (with_reducible first | exact HB.out | apply below_alloc | apply pw_below_drewN | apply below_drew1) | exact HB.out)) hb); have n1_ := Aside0.mk (hbox); have n2_ := Aside0.mk ((by rw [hg]; exact (below_size (by repeat (first | (with_reducible first | exact HB.out | apply below_alloc | apply pw_below_drewN | apply below_drew1) | exact HB.out))) : w.heap.size ≤ gb105)); have n3_ := Aside0.mk ((by rw [hg]; exact (below_size (by repeat (first | (with_reducible first | exact HB.out | apply below_alloc | apply pw_below_drewN | apply below_drew1) | exact HB.out))) : w.heap.size ≤ gb105)); clear HB; have HB := n0_; have BK105 := n1_; have GW105 := n2_; have GE105 := n3_; clear n0_ n1_ n2_ n3_; clear hb hbox hg; have hcz5_0 : w4.cell? ⟨gb105, 0, none⟩ = some (.int .u32 a0_0) := (blk_cell BK105.out 0).trans rfl; have hcz5_1 : w4.cell? ⟨gb105, 1, none⟩ = some (.int .u64 a0_1) := (blk_cell BK105.out 1).trans rfl; have hcz5_2 : w4.cell? ⟨gb105, 2, none⟩ = some (.int .u32 a0_2) := (blk_cell BK105.out 2).trans rfl; have hcz5_3 : w4.cell? ⟨gb105, 3, none⟩ = some (.int .u32 a0_3) := (blk_cell BK105.out 3).trans rfl; have hcz5_4 : w4.cell? ⟨gb105, 4, none⟩ = some (.int .u32 a0_4) := (blk_cell BK105.out 4).trans rfl; have hcz5_5 : w4.cell? ⟨gb105, 5, none⟩ = some (.int .u32 a0_5) := (blk_cell BK105.out 5).trans rfl; have hcz5_6 : w4.cell? ⟨gb105, 6, none⟩ = some (.int .u32 a0_6) := (blk_cell BK105.out 6).trans rfl; have hcz5_7 : w4.cell? ⟨gb105, 7, none⟩ = some (.slice A0_7 l0_7.length c0_7) := (blk_cell BK105.out 7).trans rfl; have hfz5_0 := blk_frozen BK105.out 0; have hfz5_1 := blk_frozen BK105.out 1; have hfz5_2 := blk_frozen BK105.out 2; have hfz5_3 := blk_frozen BK105.out 3; have hfz5_4 := blk_frozen BK105.out 4; have hfz5_5 := blk_frozen BK105.out 5; have hfz5_6 := blk_frozen BK105.out 6; have hfz5_7 := blk_frozen BK105.out 7) | ((with_reducible refine gate_callee (f := 48) rfl ?_); refine goesL_ (some 5) rfl rfl Tryz.func48 (by kernel_rfl) rfl #[.slice A0_7 l0_7.length c0_7] rfl (by (try simp only [List.map_toArray, List.map_cons, List.map_nil]); first | done | rfl | (simp only [List.length_drop, List.length_take]; rfl)) ?_; (with_reducible refine (laws_zzFits6.calls k _ _ l0_7 true _ ?side1 ?side2 A2.out).mono ?_); (case side1 => repeat (first | exact (Kd.C_below HR0_7.out HB.out) | (with_reducible refine Kd.C_alloc ?_ _) | (with_reducible refine Kd.C_drewN ?_ _) | (with_reducible refine Kd.C_drew ?_))); (case side2 => exact HC0_7.out); rintro e w6 ⟨rfl, hb⟩; refine ⟨_, rfl, ?_⟩; have n0_ := Aside0.mk (blk_below (g := gb105) (o := .cells #[.int .u32 a0_0, .int .u64 a0_1, .int .u32 a0_2, .int .u32 a0_3, .int .u32 a0_4, .int .u32 a0_5, .int .u32 a0_6, .slice A0_7 l0_7.length c0_7] 26 (0, 0)) (by (with_reducible repeat (first | refine blk_drewN ?_ _ | refine blk_drew ?_ | refine blk_alloc ?_ _)); exact BK105.out) hb); have n1_ := Aside0.mk (below_step (by repeat (first | (with_reducible first | exact HB.out | apply below_alloc | apply pw_below_drewN | apply below_drew1 | refine below_set ?_ GE105.out) | exact HB.out)) hb); clear BK105; clear HB; have BK105 := n0_; have HB := n1_; clear n0_ n1_; (try clear hb); (try clear hb2); (try clear hk); (try clear hi)))
    go_ret
    exact ⟨by first | rfl | (simp [errW_none, errW_some] <;> rfl) | (simp [*, errW_none, errW_some] <;> rfl), by repeat (first | (with_reducible first | exact HB.out | apply below_alloc | apply pw_below_drewN | apply below_drew1 | refine below_set ?_ GE105.out) | exact HB.out)⟩
  · replace c3 := Bool.eq_false_iff.mpr c3
    subst c3
    have H1 : (some false) = some r := by rw [if_neg (show ¬ (false = true) by decide)] at H; exact H
    clear H
    have H := H1
    clear H1
    obtain rfl := Option.some.inj H
    go_enter Tryz.func26, Tryz.ntmps26
    go_wp2_with (first | ((with_reducible refine gate_dst (N := 1) rfl ?_); refine box_event ?hg (N := 1) ?hd (cs := #[.int .u32 a0_0, .int .u64 a0_1, .int .u32 a0_2, .int .u32 a0_3, .int .u32 a0_4, .int .u32 a0_5, .int .u32 a0_6, .slice A0_7 l0_7.length c0_7]) (t := 26) ?hr ?_; (case hd => rfl); (case hg => rfl); (case hr => first | (go_simp; done) | (go_simp; rfl)); intro gb105 hg w7 hbox hb; have n0_ := Aside0.mk (below_step (by repeat (first | (with_reducible first | exact HB.out | apply below_alloc | apply pw_below_drewN | apply below_drew1) | exact HB.out)) hb); have n1_ := Aside0.mk (hbox); have n2_ := Aside0.mk ((by rw [hg]; exact (below_size (by repeat (first | (with_reducible first | exact HB.out | apply below_alloc | apply pw_below_drewN | apply below_drew1) | exact HB.out))) : w.heap.size ≤ gb105)); have n3_ := Aside0.mk ((by rw [hg]; exact (below_size (by repeat (first | (with_reducible first | exact HB.out | apply below_alloc | apply pw_below_drewN | apply below_drew1) | exact HB.out))) : w.heap.size ≤ gb105)); clear HB; have HB := n0_; have BK105 := n1_; have GW105 := n2_; have GE105 := n3_; clear n0_ n1_ n2_ n3_; clear hb hbox hg; have hcz8_0 : w7.cell? ⟨gb105, 0, none⟩ = some (.int .u32 a0_0) := (blk_cell BK105.out 0).trans rfl; have hcz8_1 : w7.cell? ⟨gb105, 1, none⟩ = some (.int .u64 a0_1) := (blk_cell BK105.out 1).trans rfl; have hcz8_2 : w7.cell? ⟨gb105, 2, none⟩ = some (.int .u32 a0_2) := (blk_cell BK105.out 2).trans rfl; have hcz8_3 : w7.cell? ⟨gb105, 3, none⟩ = some (.int .u32 a0_3) := (blk_cell BK105.out 3).trans rfl; have hcz8_4 : w7.cell? ⟨gb105, 4, none⟩ = some (.int .u32 a0_4) := (blk_cell BK105.out 4).trans rfl; have hcz8_5 : w7.cell? ⟨gb105, 5, none⟩ = some (.int .u32 a0_5) := (blk_cell BK105.out 5).trans rfl; have hcz8_6 : w7.cell? ⟨gb105, 6, none⟩ = some (.int .u32 a0_6) := (blk_cell BK105.out 6).trans rfl; have hcz8_7 : w7.cell? ⟨gb105, 7, none⟩ = some (.slice A0_7 l0_7.length c0_7) := (blk_cell BK105.out 7).trans rfl; have hfz8_0 := blk_frozen BK105.out 0; have hfz8_1 := blk_frozen BK105.out 1; have hfz8_2 := blk_frozen BK105.out 2; have hfz8_3 := blk_frozen BK105.out 3; have hfz8_4 := blk_frozen BK105.out 4; have hfz8_5 := blk_frozen BK105.out 5; have hfz8_6 := blk_frozen BK105.out 6; have hfz8_7 := blk_frozen BK105.out 7) | ((with_reducible refine gate_callee (f := 48) rfl ?_); refine goesL_ (some 5) rfl rfl Tryz.func48 (by kernel_rfl) rfl #[.slice A0_7 l0_7.length c0_7] rfl (by (try simp only [List.map_toArray, List.map_cons, List.map_nil]); first | done | rfl | (simp only [List.length_drop, List.length_take]; rfl)) ?_; (with_reducible refine (laws_zzFits6.calls k _ _ l0_7 false _ ?side1 ?side2 A2.out).mono ?_); (case side1 => repeat (first | exact (Kd.C_below HR0_7.out HB.out) | (with_reducible refine Kd.C_alloc ?_ _) | (with_reducible refine Kd.C_drewN ?_ _) | (with_reducible refine Kd.C_drew ?_))); (case side2 => exact HC0_7.out); rintro e w9 ⟨rfl, hb⟩; refine ⟨_, rfl, ?_⟩; have n0_ := Aside0.mk (blk_below (g := gb105) (o := .cells #[.int .u32 a0_0, .int .u64 a0_1, .int .u32 a0_2, .int .u32 a0_3, .int .u32 a0_4, .int .u32 a0_5, .int .u32 a0_6, .slice A0_7 l0_7.length c0_7] 26 (0, 0)) (by (with_reducible repeat (first | refine blk_drewN ?_ _ | refine blk_drew ?_ | refine blk_alloc ?_ _)); exact BK105.out) hb); have n1_ := Aside0.mk (below_step (by repeat (first | (with_reducible first | exact HB.out | apply below_alloc | apply pw_below_drewN | apply below_drew1 | refine below_set ?_ GE105.out) | exact HB.out)) hb); clear BK105; clear HB; have BK105 := n0_; have HB := n1_; clear n0_ n1_; (try clear hb); (try clear hb2); (try clear hk); (try clear hi)))
    go_ret
    exact ⟨by first | rfl | (simp [errW_none, errW_some] <;> rfl) | (simp [*, errW_none, errW_some] <;> rfl), by repeat (first | (with_reducible first | exact HB.out | apply below_alloc | apply pw_below_drewN | apply below_drew1 | refine below_set ?_ GE105.out) | exact HB.out)⟩
end Go.Proofs.YtmenkckgpiafiaaGreat.PF
namespace Go.Proofs.YtmenkckgpiafiaaGreat.PE
open Go.Proofs.YtmenkckgpiafiaaGreat.KK Go.RowKit Go.Proofs.YtmenkckgpiafiaaGreatW.PrintWords Go.Proofs.YtmenkckgpiafiaaGreatW.PrintLast Go.Proofs.YtmenkckgpiafiaaGreatW.PrintMore
attribute [local go_sem] max2_int min2_int max_two min_two max_three min_three max_four min_four
set_option linter.unusedVariables false
set_option linter.unusedSimpArgs false
def errW : Option Int → Value
  | none => .nilIface
  | some c => .iface 0 (.int .i64 c)
theorem errW_none : errW none = .nilIface := rfl
theorem errW_some (c : Int) : errW (some c) = .iface 0 (.int .i64 c) := rfl
theorem info89 : (Tryz.prog.info? 89).map (fun i => (i.zero, i.size, i.bytes)) = some (some (.agg #[(.string ⟨#[]⟩), (.string ⟨#[]⟩)]), 2, 32) := by kernel_rfl
theorem info147 : (Tryz.prog.info? 147).map (fun i => (i.zero, i.size, i.bytes)) = some (some (.agg #[(.string ⟨#[]⟩), (.string ⟨#[]⟩)]), 2, 32) := by kernel_rfl
end Go.Proofs.YtmenkckgpiafiaaGreat.PE
