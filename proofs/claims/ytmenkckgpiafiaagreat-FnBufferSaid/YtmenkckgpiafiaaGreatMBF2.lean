/-
  Lemmas and contracts, part 2.
-/
import Derived.Test.YtmenkckgpiafiaaGreatProg
import Derived.Below
import Derived.Deep.Draws
import Derived.Deep.AppendLies
import Derived.Maps.AppendAt
import Derived.OwnWalk
import Derived.Laws.BytesArg
import Derived.Laws.MakeOwn
import Derived.Laws.OwnMore
import Derived.Deep.OwnRows
import Derived.Tactics
import Derived.Lib.ConvBytes
import Derived.Laws.Slices
import Derived.WalkKit
import Derived.KernelRfl
import Derived.RowKit3
import Derived.Deep.LoopGhost
import Derived.Deep.QuietTactic
import Derived.BigQuiet
import Derived.WideLaws
import Derived.Deep.DeepCutAuto
import Derived.Deep.CutBlock
import Derived.Deep.RegionHeld3
import Derived.Laws.Rows
import Derived.Lib.AppendStr
import Derived.ArgAppend
import Derived.Laws.IdiomCopy
import Derived.OrdersHeld
import Derived.Laws.BitsLemmas
import Derived.RowKit
import Derived.Laws.StructEq
import Derived.Test.YtmenkckgpiafiaaGreatMBF1
set_option linter.unusedVariables false
set_option linter.unusedSimpArgs false
namespace Go.Proofs.YtmenkckgpiafiaaGreat.PA
open Go.Proofs.YtmenkckgpiafiaaGreat.KK Go.RowKit Go.Proofs.YtmenkckgpiafiaaGreatW.PrintWords Go.Proofs.YtmenkckgpiafiaaGreatW.PrintLast Go.Proofs.YtmenkckgpiafiaaGreatW.PrintMore
attribute [local go_sem] max2_int min2_int max_two min_two max_three min_three max_four min_four
set_option linter.unusedVariables false
set_option linter.unusedSimpArgs false
def errW : Option Int → Value
  | none => .nilIface
  | some c => .iface 0 (.int .i64 c)
theorem errW_none : errW none = .nilIface := rfl
theorem errW_some (c : Int) : errW (some c) = .iface 0 (.int .i64 c) := rfl
theorem info89 : (Tryz.prog.info? 89).map (fun i => (i.zero, i.size, i.bytes)) = some (some (.agg #[(.string ⟨#[]⟩), (.string ⟨#[]⟩)]), 2, 32) := by kernel_rfl
theorem info266 : (Tryz.prog.info? 266).map (fun i => (i.zero, i.size, i.bytes)) = some (some (.agg #[(.string ⟨#[]⟩), (.string ⟨#[]⟩)]), 2, 32) := by kernel_rfl
end Go.Proofs.YtmenkckgpiafiaaGreat.PA
namespace Go.Proofs.YtmenkckgpiafiaaGreat.PA
open Go.Proofs.YtmenkckgpiafiaaGreat.KK Go.RowKit Go.Proofs.YtmenkckgpiafiaaGreatW.PrintWords Go.Proofs.YtmenkckgpiafiaaGreatW.PrintLast Go.Proofs.YtmenkckgpiafiaaGreatW.PrintMore
attribute [local go_sem] max2_int min2_int max_two min_two max_three min_three max_four min_four
set_option linter.unusedVariables false
set_option linter.unusedSimpArgs false
def impl_attrs.l0 : Nat → List (S89) → Int → Int → Int → Int → Int → Int → Int → Int → Int → List (S266) → Option (Int × Int × Int × Int × Int × Int × Int × (List (S266)))
  | 0, _, _, _, _, _, _, _, _, _, _, _ => none
  | k + 1, x22, x23, x24, x104000, x104001, x104002, x104003, x104004, x104005, x104006, x104007 => if x24 < x23 then (if 0 ≤ x24 then (if x24 < (x22.length : Int) then (if x104007.length < 4398046511104 then (impl_attrs.l0 k x22 x23 (wrap64 (x24 + 1)) x104000 x104001 x104002 x104003 x104004 x104005 x104006 (x104007 ++ [(⟨(rd_T89 x22 x24).f0, (rd_T89 x22 x24).f1⟩ : S266)])) else (none)) else (none)) else (none)) else (some (x104000, x104001, x104002, x104003, x104004, x104005, x104006, x104007))
def impl_attrs.f (k : Nat) (a0_0 : Int) (a0_1 : Int) (a0_2 : Int) (a0_3 : Int) (a0_4 : Int) (a0_5 : Int) (a0_6 : Int) (l0_7 : List (S89)) : Option (Int × Int × Int × Int × Int × Int × Int × (List (S266))) := impl_attrs.l0 k l0_7 (l0_7.length : Int) 0 a0_0 a0_1 a0_2 a0_3 a0_4 a0_5 a0_6 ([] : List (S266))
theorem impl_attrs.mono_l : ∀ k, (∀ y0 y1 y2 y3 y4 y5 y6 y7 y8 y9 y10, LeO (impl_attrs.l0 k y0 y1 y2 y3 y4 y5 y6 y7 y8 y9 y10) (impl_attrs.l0 (k + 1) y0 y1 y2 y3 y4 y5 y6 y7 y8 y9 y10))
  | 0 => fun _ _ _ _ _ _ _ _ _ _ _ r h => by simp [impl_attrs.l0] at h
  | k + 1 => by
    have ih0 := impl_attrs.mono_l k
    · intro y0 y1 y2 y3 y4 y5 y6 y7 y8 y9 y10
      unfold impl_attrs.l0
      repeat' first
      | (with_reducible exact ih0 _ _ _ _ _ _ _ _ _ _ _)
      | (with_reducible exact LeO.refl _)
      | (with_reducible exact LeO.none _)
      | (with_reducible refine LeO.ite ?_ ?_)
      | (with_reducible refine LeO.bind ?_ (fun _ => ?_))
      | exact ih0 _ _ _ _ _ _ _ _ _ _ _
      | exact LeO.none _
      | refine LeO.ite ?_ ?_
      | refine LeO.bind ?_ (fun _ => ?_)
theorem impl_attrs.mono : ∀ a0 a1 a2 a3 a4 a5 a6 a7 k, LeO (impl_attrs.f k a0 a1 a2 a3 a4 a5 a6 a7) (impl_attrs.f (k + 1) a0 a1 a2 a3 a4 a5 a6 a7) := by
  intro a0 a1 a2 a3 a4 a5 a6 a7 k
  have ih0 := impl_attrs.mono_l k
  unfold impl_attrs.f
  repeat' first
      | (with_reducible exact ih0 _ _ _ _ _ _ _ _ _ _ _)
      | (with_reducible exact LeO.refl _)
      | (with_reducible exact LeO.none _)
      | (with_reducible refine LeO.ite ?_ ?_)
      | (with_reducible refine LeO.bind ?_ (fun _ => ?_))
      | exact ih0 _ _ _ _ _ _ _ _ _ _ _
      | exact LeO.none _
      | refine LeO.ite ?_ ?_
      | refine LeO.bind ?_ (fun _ => ?_)
set_option maxHeartbeats 8000000 in
set_option maxRecDepth 100000 in
theorem impl_attrs.calls (k : Nat) (a0_0 : Int) (a0_1 : Int) (a0_2 : Int) (a0_3 : Int) (a0_4 : Int) (a0_5 : Int) (a0_6 : Int) (A0_7 : Option Addr) (c0_7 : Nat) (l0_7 : List (S89)) (r1 : Int) (r2 : Int) (r3 : Int) (r4 : Int) (r5 : Int) (r6 : Int) (r7 : Int) (r8 : List (S266)) (w : World) (hr0_7 : Kd.C k89 w A0_7 l0_7.length l0_7) (hc0_7 : l0_7.length ≤ c0_7) (h : impl_attrs.f k a0_0 a0_1 a0_2 a0_3 a0_4 a0_5 a0_6 l0_7 = some (r1, r2, r3, r4, r5, r6, r7, r8)) :
    Calls Tryz.prog 69 #[.agg #[.int .u32 a0_0, .int .u64 a0_1, .int .u32 a0_2, .int .u32 a0_3, .int .u32 a0_4, .int .u32 a0_5, .int .u32 a0_6, .slice A0_7 l0_7.length c0_7]] w fun e w' => ∃ v7_ : Value, e = .returned (.agg #[.int .u32 r1, .int .u64 r2, .int .u32 r3, .int .u32 r4, .int .u32 r5, .int .u32 r6, .int .u32 r7, v7_]) ∧ Kd.R k266 266 w' w.heap.size (fun _ => True) v7_ r8 ∧ Below w.heap.size w w' := by
  have hu26 := Tryz.underlying26
  have hu139 := Tryz.underlying139
  have hu89 := Tryz.underlying89
  have hu266 := Tryz.underlying266
  have HR0_7 := Aside0.mk hr0_7
  have HC0_7 := Aside0.mk hc0_7
  clear hr0_7 hc0_7
  have HB := Aside0.mk (Below.refl w.heap.size w)
  have H : (impl_attrs.l0 k l0_7 (l0_7.length : Int) 0 a0_0 a0_1 a0_2 a0_3 a0_4 a0_5 a0_6 ([] : List (S266))) = some (r1, r2, r3, r4, r5, r6, r7, r8) := h
  clear h
  have H' := Aside0.mk H
  clear H
  go_enter Tryz.func69, Tryz.ntmps69
  go_wp2_with (first | ((with_reducible refine gate_dst (N := 1) rfl ?_); refine box_event ?hg (N := 1) ?hd (cs := #[.int .u32 a0_0, .int .u64 a0_1, .int .u32 a0_2, .int .u32 a0_3, .int .u32 a0_4, .int .u32 a0_5, .int .u32 a0_6, .slice A0_7 l0_7.length c0_7]) (t := 26) ?hr ?_; (case hd => rfl); (case hg => rfl); (case hr => first | (go_simp; done) | (go_simp; rfl)); intro gb101 hg w2 hbox hb; have n0_ := Aside0.mk (below_step (by repeat (first | (with_reducible first | exact HB.out | apply below_alloc | apply pw_below_drewN | apply below_drew1) | exact HB.out)) hb); have n1_ := Aside0.mk (hbox); have n2_ := Aside0.mk ((by rw [hg]; exact (below_size (by repeat (first | (with_reducible first | exact HB.out | apply below_alloc | apply pw_below_drewN | apply below_drew1) | exact HB.out))) : w.heap.size ≤ gb101)); have n3_ := Aside0.mk ((by rw [hg]; exact (below_size (by repeat (first | (with_reducible first | exact HB.out | apply below_alloc | apply pw_below_drewN | apply below_drew1) | exact HB.out))) : w.heap.size ≤ gb101)); clear HB; have HB := n0_; have BK101 := n1_; have GW101 := n2_; have GE101 := n3_; clear n0_ n1_ n2_ n3_; clear hb hbox hg) | ((with_reducible refine gate_dst (N := 2) rfl ?_); refine box_event ?hg (N := 2) ?hd (cs := #[.int .u32 0, .int .u64 0, .int .u32 0, .int .u32 0, .int .u32 0, .int .u32 0, .int .u32 0, .slice none 0 0]) (t := 139) ?hr ?_; (case hd => rfl); (case hg => rfl); (case hr => first | (go_simp; done) | (go_simp; rfl)); intro gb102 hg w3 hbox hb; have n0_ := Aside0.mk (blk_below (g := gb101) (o := .cells #[.int .u32 a0_0, .int .u64 a0_1, .int .u32 a0_2, .int .u32 a0_3, .int .u32 a0_4, .int .u32 a0_5, .int .u32 a0_6, .slice A0_7 l0_7.length c0_7] 26 (0, 0)) (by (with_reducible repeat (first | refine blk_drewN ?_ _ | refine blk_drew ?_ | refine blk_alloc ?_ _)); exact BK101.out) hb); have n1_ := Aside0.mk (below_step (by repeat (first | (with_reducible first | exact HB.out | apply below_alloc | apply pw_below_drewN | apply below_drew1 | refine below_set ?_ GE101.out) | exact HB.out)) hb); have n2_ := Aside0.mk (hbox); have n3_ := Aside0.mk ((by rw [hg]; exact (below_size (by repeat (first | (with_reducible first | exact HB.out | apply below_alloc | apply pw_below_drewN | apply below_drew1 | refine below_set ?_ GE101.out) | exact HB.out))) : w.heap.size ≤ gb102)); have n4_ := Aside0.mk ((by rw [hg]; exact (below_size (by repeat (first | (with_reducible first | exact HB.out | apply below_alloc | apply pw_below_drewN | apply below_drew1 | refine below_set ?_ GE101.out) | exact HB.out))) : w.heap.size ≤ gb102)); have n5_ := Aside0.mk ((by rw [hg]; exact Nat.ne_of_lt (blk_lt (g := gb101) (o := .cells #[.int .u32 a0_0, .int .u64 a0_1, .int .u32 a0_2, .int .u32 a0_3, .int .u32 a0_4, .int .u32 a0_5, .int .u32 a0_6, .slice A0_7 l0_7.length c0_7] 26 (0, 0)) (by (with_reducible repeat (first | refine blk_drewN ?_ _ | refine blk_drew ?_ | refine blk_alloc ?_ _)); exact BK101.out)) : gb101 ≠ gb102)); have n6_ := Aside0.mk ((by rw [hg]; exact Nat.ne_of_gt (blk_lt (g := gb101) (o := .cells #[.int .u32 a0_0, .int .u64 a0_1, .int .u32 a0_2, .int .u32 a0_3, .int .u32 a0_4, .int .u32 a0_5, .int .u32 a0_6, .slice A0_7 l0_7.length c0_7] 26 (0, 0)) (by (with_reducible repeat (first | refine blk_drewN ?_ _ | refine blk_drew ?_ | refine blk_alloc ?_ _)); exact BK101.out)) : gb102 ≠ gb101)); clear BK101; clear HB; have BK101 := n0_; have HB := n1_; have BK102 := n2_; have GW102 := n3_; have GE102 := n4_; have NB101_102 := n5_; have NB102_101 := n6_; clear n0_ n1_ n2_ n3_ n4_ n5_ n6_; clear hb hbox hg; have hnb4 := NB101_102.out; have hnc4 := NB102_101.out; have hcz5_0 : w3.cell? ⟨gb101, 0, none⟩ = some (.int .u32 a0_0) := (blk_cell BK101.out 0).trans rfl; have hcz5_1 : w3.cell? ⟨gb101, 1, none⟩ = some (.int .u64 a0_1) := (blk_cell BK101.out 1).trans rfl; have hcz5_2 : w3.cell? ⟨gb101, 2, none⟩ = some (.int .u32 a0_2) := (blk_cell BK101.out 2).trans rfl; have hcz5_3 : w3.cell? ⟨gb101, 3, none⟩ = some (.int .u32 a0_3) := (blk_cell BK101.out 3).trans rfl; have hcz5_4 : w3.cell? ⟨gb101, 4, none⟩ = some (.int .u32 a0_4) := (blk_cell BK101.out 4).trans rfl; have hcz5_5 : w3.cell? ⟨gb101, 5, none⟩ = some (.int .u32 a0_5) := (blk_cell BK101.out 5).trans rfl; have hcz5_6 : w3.cell? ⟨gb101, 6, none⟩ = some (.int .u32 a0_6) := (blk_cell BK101.out 6).trans rfl; have hcz5_7 : w3.cell? ⟨gb101, 7, none⟩ = some (.slice A0_7 l0_7.length c0_7) := (blk_cell BK101.out 7).trans rfl; have hfz5_0 := blk_frozen BK101.out 0; have hfz5_1 := blk_frozen BK101.out 1; have hfz5_2 := blk_frozen BK101.out 2; have hfz5_3 := blk_frozen BK101.out 3; have hfz5_4 := blk_frozen BK101.out 4; have hfz5_5 := blk_frozen BK101.out 5; have hfz5_6 := blk_frozen BK101.out 6; have hfz5_7 := blk_frozen BK101.out 7) | ((with_reducible refine gate_dst (N := 3) rfl ?_); refine box_event ?hg (N := 3) ?hd (cs := #[.int .u32 0, .int .u64 0, .int .u32 0, .int .u32 0, .int .u32 0, .int .u32 0, .int .u32 0, .slice none 0 0]) (t := 139) ?hr ?_; (case hd => rfl); (case hg => rfl); (case hr => first | (go_simp; done) | (go_simp; rfl)); intro gb103 hg w6 hbox hb; have n0_ := Aside0.mk (blk_below (g := gb101) (o := .cells #[.int .u32 a0_0, .int .u64 a0_1, .int .u32 a0_2, .int .u32 a0_3, .int .u32 a0_4, .int .u32 a0_5, .int .u32 a0_6, .slice A0_7 l0_7.length c0_7] 26 (0, 0)) (by (with_reducible repeat (first | refine blk_drewN ?_ _ | refine blk_drew ?_ | refine blk_alloc ?_ _)); exact BK101.out) hb); have n1_ := Aside0.mk (blk_below (g := gb102) (o := .cells #[.int .u32 0, .int .u64 0, .int .u32 0, .int .u32 0, .int .u32 0, .int .u32 0, .int .u32 0, .slice none 0 0] 139 (0, 0)) (by (with_reducible repeat (first | refine blk_drewN ?_ _ | refine blk_drew ?_ | refine blk_alloc ?_ _)); exact BK102.out) hb); have n2_ := Aside0.mk (below_step (by repeat (first | (with_reducible first | exact HB.out | apply below_alloc | apply pw_below_drewN | apply below_drew1 | refine below_set ?_ GE101.out | refine below_set ?_ GE102.out) | exact HB.out)) hb); have n3_ := Aside0.mk (hbox); have n4_ := Aside0.mk ((by rw [hg]; exact (below_size (by repeat (first | (with_reducible first | exact HB.out | apply below_alloc | apply pw_below_drewN | apply below_drew1 | refine below_set ?_ GE101.out | refine below_set ?_ GE102.out) | exact HB.out))) : w.heap.size ≤ gb103)); have n5_ := Aside0.mk ((by rw [hg]; exact (below_size (by repeat (first | (with_reducible first | exact HB.out | apply below_alloc | apply pw_below_drewN | apply below_drew1 | refine below_set ?_ GE101.out | refine below_set ?_ GE102.out) | exact HB.out))) : w.heap.size ≤ gb103)); have n6_ := Aside0.mk ((by rw [hg]; exact Nat.ne_of_lt (blk_lt (g := gb101) (o := .cells #[.int .u32 a0_0, .int .u64 a0_1, .int .u32 a0_2, .int .u32 a0_3, .int .u32 a0_4, .int .u32 a0_5, .int .u32 a0_6, .slice A0_7 l0_7.length c0_7] 26 (0, 0)) (by (with_reducible repeat (first | refine blk_drewN ?_ _ | refine blk_drew ?_ | refine blk_alloc ?_ _)); exact BK101.out)) : gb101 ≠ gb103)); have n7_ := Aside0.mk ((by rw [hg]; exact Nat.ne_of_gt (blk_lt (g := gb101) (o := .cells #[.int .u32 a0_0, .int .u64 a0_1, .int .u32 a0_2, .int .u32 a0_3, .int .u32 a0_4, .int .u32 a0_5, .int .u32 a0_6, .slice A0_7 l0_7.length c0_7] 26 (0, 0)) (by (with_reducible repeat (first | refine blk_drewN ?_ _ | refine blk_drew ?_ | refine blk_alloc ?_ _)); exact BK101.out)) : gb103 ≠ gb101)); have n8_ := Aside0.mk ((by rw [hg]; exact Nat.ne_of_lt (blk_lt (g := gb102) (o := .cells #[.int .u32 0, .int .u64 0, .int .u32 0, .int .u32 0, .int .u32 0, .int .u32 0, .int .u32 0, .slice none 0 0] 139 (0, 0)) (by (with_reducible repeat (first | refine blk_drewN ?_ _ | refine blk_drew ?_ | refine blk_alloc ?_ _)); exact BK102.out)) : gb102 ≠ gb103)); have n9_ := Aside0.mk ((by rw [hg]; exact Nat.ne_of_gt (blk_lt (g := gb102) (o := .cells #[.int .u32 0, .int .u64 0, .int .u32 0, .int .u32 0, .int .u32 0, .int .u32 0, .int .u32 0, .slice none 0 0] 139 (0, 0)) (by (with_reducible repeat (first | refine blk_drewN ?_ _ | refine blk_drew ?_ | refine blk_alloc ?_ _)); exact BK102.out)) : gb103 ≠ gb102)); clear BK101; clear BK102; clear HB; have BK101 := n0_; have BK102 := n1_; have HB := n2_; have BK103 := n3_; have GW103 := n4_; have GE103 := n5_; have NB101_103 := n6_; have NB103_101 := n7_; have NB102_103 := n8_; have NB103_102 := n9_; clear n0_ n1_ n2_ n3_ n4_ n5_ n6_ n7_ n8_ n9_; clear hb hbox hg; have hnb7 := NB103_101.out; have hnc7 := NB101_103.out; have hnb8 := NB103_102.out; have hnc8 := NB102_103.out; have hcz9_0 : w6.cell? ⟨gb103, 0, none⟩ = some (.int .u32 0) := (blk_cell BK103.out 0).trans rfl; have hcz9_1 : w6.cell? ⟨gb103, 1, none⟩ = some (.int .u64 0) := (blk_cell BK103.out 1).trans rfl; have hcz9_2 : w6.cell? ⟨gb103, 2, none⟩ = some (.int .u32 0) := (blk_cell BK103.out 2).trans rfl; have hcz9_3 : w6.cell? ⟨gb103, 3, none⟩ = some (.int .u32 0) := (blk_cell BK103.out 3).trans rfl; have hcz9_4 : w6.cell? ⟨gb103, 4, none⟩ = some (.int .u32 0) := (blk_cell BK103.out 4).trans rfl; have hcz9_5 : w6.cell? ⟨gb103, 5, none⟩ = some (.int .u32 0) := (blk_cell BK103.out 5).trans rfl; have hcz9_6 : w6.cell? ⟨gb103, 6, none⟩ = some (.int .u32 0) := (blk_cell BK103.out 6).trans rfl; have hcz9_7 : w6.cell? ⟨gb103, 7, none⟩ = some (.slice none 0 0) := (blk_cell BK103.out 7).trans rfl; have hfz9_0 := blk_frozen BK103.out 0; have hfz9_1 := blk_frozen BK103.out 1; have hfz9_2 := blk_frozen BK103.out 2; have hfz9_3 := blk_frozen BK103.out 3; have hfz9_4 := blk_frozen BK103.out 4; have hfz9_5 := blk_frozen BK103.out 5; have hfz9_6 := blk_frozen BK103.out 6; have hfz9_7 := blk_frozen BK103.out 7; have hcz10_0 : w6.cell? ⟨gb101, 0, none⟩ = some (.int .u32 a0_0) := (blk_cell BK101.out 0).trans rfl; have hcz10_1 : w6.cell? ⟨gb101, 1, none⟩ = some (.int .u64 a0_1) := (blk_cell BK101.out 1).trans rfl; have hcz10_2 : w6.cell? ⟨gb101, 2, none⟩ = some (.int .u32 a0_2) := (blk_cell BK101.out 2).trans rfl; have hcz10_3 : w6.cell? ⟨gb101, 3, none⟩ = some (.int .u32 a0_3) := (blk_cell BK101.out 3).trans rfl; have hcz10_4 : w6.cell? ⟨gb101, 4, none⟩ = some (.int .u32 a0_4) := (blk_cell BK101.out 4).trans rfl; have hcz10_5 : w6.cell? ⟨gb101, 5, none⟩ = some (.int .u32 a0_5) := (blk_cell BK101.out 5).trans rfl; have hcz10_6 : w6.cell? ⟨gb101, 6, none⟩ = some (.int .u32 a0_6) := (blk_cell BK101.out 6).trans rfl; have hcz10_7 : w6.cell? ⟨gb101, 7, none⟩ = some (.slice A0_7 l0_7.length c0_7) := (blk_cell BK101.out 7).trans rfl; have hfz10_0 := blk_frozen BK101.out 0; have hfz10_1 := blk_frozen BK101.out 1; have hfz10_2 := blk_frozen BK101.out 2; have hfz10_3 := blk_frozen BK101.out 3; have hfz10_4 := blk_frozen BK101.out 4; have hfz10_5 := blk_frozen BK101.out 5; have hfz10_6 := blk_frozen BK101.out 6; have hfz10_7 := blk_frozen BK101.out 7))
  go_loopg [24] k (fun kq v24 w' => ∃ (x24_1 : Int) (x104007_1 : List (S266)) (u104007 : Value), v24 = .int .i64 x24_1 ∧ Aside0 (impl_attrs.l0 kq l0_7 (l0_7.length : Int) x24_1 a0_0 a0_1 a0_2 a0_3 a0_4 a0_5 a0_6 x104007_1 = some (r1, r2, r3, r4, r5, r6, r7, r8)) ∧ Aside0 (kq ≤ k) ∧ Aside0 (Kd.R k266 266 w' w.heap.size (fun _ => True) u104007 x104007_1) ∧ Aside0 (w'.heap[gb101]? = some (.cells #[.int .u32 a0_0, .int .u64 a0_1, .int .u32 a0_2, .int .u32 a0_3, .int .u32 a0_4, .int .u32 a0_5, .int .u32 a0_6, (.slice A0_7 l0_7.length c0_7)] 26 (0, 0))) ∧ Aside0 (w'.heap[gb102]? = some (.cells #[.int .u32 0, .int .u64 0, .int .u32 0, .int .u32 0, .int .u32 0, .int .u32 0, .int .u32 0, (.slice none 0 0)] 139 (0, 0))) ∧ Aside0 (w'.heap[gb103]? = some (.cells #[.int .u32 a0_0, .int .u64 a0_1, .int .u32 a0_2, .int .u32 a0_3, .int .u32 a0_4, .int .u32 a0_5, .int .u32 a0_6, u104007] 139 (0, 0))) ∧ Aside0 (Below w.heap.size w w'))
  case atStart => exact ⟨(0), (([] : List (S266))), (.slice none 0 0), (by first | rfl | (simp; done) | (simp [*]; done)), H', ⟨Nat.le_refl _⟩, ⟨by first | exact Kd.R_nil _ _ _ _ _ | exact Kd.N_nil _ _ _ _ _ | exact Kd.V_nil _ _ _ _ _ | exact Kd.Q_nil _ _ _ _ _ | exact Kd.S_nil _ _ _ _ _⟩, ⟨by (with_reducible repeat (first | refine blk_drewN ?_ _ | refine blk_drew ?_ | refine blk_alloc ?_ _)); refine blk_far ?_ NB101_103.out _; (with_reducible repeat (first | refine blk_drewN ?_ _ | refine blk_drew ?_ | refine blk_alloc ?_ _)); refine blk_far ?_ NB101_103.out _; (with_reducible repeat (first | refine blk_drewN ?_ _ | refine blk_drew ?_ | refine blk_alloc ?_ _)); refine blk_far ?_ NB101_103.out _; (with_reducible repeat (first | refine blk_drewN ?_ _ | refine blk_drew ?_ | refine blk_alloc ?_ _)); refine blk_far ?_ NB101_103.out _; (with_reducible repeat (first | refine blk_drewN ?_ _ | refine blk_drew ?_ | refine blk_alloc ?_ _)); refine blk_far ?_ NB101_103.out _; (with_reducible repeat (first | refine blk_drewN ?_ _ | refine blk_drew ?_ | refine blk_alloc ?_ _)); refine blk_far ?_ NB101_103.out _; (with_reducible repeat (first | refine blk_drewN ?_ _ | refine blk_drew ?_ | refine blk_alloc ?_ _)); refine blk_far ?_ NB101_103.out _; (with_reducible repeat (first | refine blk_drewN ?_ _ | refine blk_drew ?_ | refine blk_alloc ?_ _)); refine blk_far ?_ NB101_103.out _; (with_reducible repeat (first | refine blk_drewN ?_ _ | refine blk_drew ?_ | refine blk_alloc ?_ _)); exact BK101.out⟩, ⟨by (with_reducible repeat (first | refine blk_drewN ?_ _ | refine blk_drew ?_ | refine blk_alloc ?_ _)); refine blk_far ?_ NB102_103.out _; (with_reducible repeat (first | refine blk_drewN ?_ _ | refine blk_drew ?_ | refine blk_alloc ?_ _)); refine blk_far ?_ NB102_103.out _; (with_reducible repeat (first | refine blk_drewN ?_ _ | refine blk_drew ?_ | refine blk_alloc ?_ _)); refine blk_far ?_ NB102_103.out _; (with_reducible repeat (first | refine blk_drewN ?_ _ | refine blk_drew ?_ | refine blk_alloc ?_ _)); refine blk_far ?_ NB102_103.out _; (with_reducible repeat (first | refine blk_drewN ?_ _ | refine blk_drew ?_ | refine blk_alloc ?_ _)); refine blk_far ?_ NB102_103.out _; (with_reducible repeat (first | refine blk_drewN ?_ _ | refine blk_drew ?_ | refine blk_alloc ?_ _)); refine blk_far ?_ NB102_103.out _; (with_reducible repeat (first | refine blk_drewN ?_ _ | refine blk_drew ?_ | refine blk_alloc ?_ _)); refine blk_far ?_ NB102_103.out _; (with_reducible repeat (first | refine blk_drewN ?_ _ | refine blk_drew ?_ | refine blk_alloc ?_ _)); refine blk_far ?_ NB102_103.out _; (with_reducible repeat (first | refine blk_drewN ?_ _ | refine blk_drew ?_ | refine blk_alloc ?_ _)); exact BK102.out⟩, ⟨by (with_reducible repeat (first | refine blk_drewN ?_ _ | refine blk_drew ?_ | refine blk_alloc ?_ _)); refine blk_put (cs := #[.int .u32 a0_0, .int .u64 a0_1, .int .u32 a0_2, .int .u32 a0_3, .int .u32 a0_4, .int .u32 a0_5, .int .u32 a0_6, .slice none 0 0]) ?_ 7 _ rfl; (with_reducible repeat (first | refine blk_drewN ?_ _ | refine blk_drew ?_ | refine blk_alloc ?_ _)); refine blk_put (cs := #[.int .u32 a0_0, .int .u64 a0_1, .int .u32 a0_2, .int .u32 a0_3, .int .u32 a0_4, .int .u32 a0_5, .int .u32 0, .slice none 0 0]) ?_ 6 _ rfl; (with_reducible repeat (first | refine blk_drewN ?_ _ | refine blk_drew ?_ | refine blk_alloc ?_ _)); refine blk_put (cs := #[.int .u32 a0_0, .int .u64 a0_1, .int .u32 a0_2, .int .u32 a0_3, .int .u32 a0_4, .int .u32 0, .int .u32 0, .slice none 0 0]) ?_ 5 _ rfl; (with_reducible repeat (first | refine blk_drewN ?_ _ | refine blk_drew ?_ | refine blk_alloc ?_ _)); refine blk_put (cs := #[.int .u32 a0_0, .int .u64 a0_1, .int .u32 a0_2, .int .u32 a0_3, .int .u32 0, .int .u32 0, .int .u32 0, .slice none 0 0]) ?_ 4 _ rfl; (with_reducible repeat (first | refine blk_drewN ?_ _ | refine blk_drew ?_ | refine blk_alloc ?_ _)); refine blk_put (cs := #[.int .u32 a0_0, .int .u64 a0_1, .int .u32 a0_2, .int .u32 0, .int .u32 0, .int .u32 0, .int .u32 0, .slice none 0 0]) ?_ 3 _ rfl; (with_reducible repeat (first | refine blk_drewN ?_ _ | refine blk_drew ?_ | refine blk_alloc ?_ _)); refine blk_put (cs := #[.int .u32 a0_0, .int .u64 a0_1, .int .u32 0, .int .u32 0, .int .u32 0, .int .u32 0, .int .u32 0, .slice none 0 0]) ?_ 2 _ rfl; (with_reducible repeat (first | refine blk_drewN ?_ _ | refine blk_drew ?_ | refine blk_alloc ?_ _)); refine blk_put (cs := #[.int .u32 a0_0, .int .u64 0, .int .u32 0, .int .u32 0, .int .u32 0, .int .u32 0, .int .u32 0, .slice none 0 0]) ?_ 1 _ rfl; (with_reducible repeat (first | refine blk_drewN ?_ _ | refine blk_drew ?_ | refine blk_alloc ?_ _)); refine blk_put (cs := #[.int .u32 0, .int .u64 0, .int .u32 0, .int .u32 0, .int .u32 0, .int .u32 0, .int .u32 0, .slice none 0 0]) ?_ 0 _ rfl; (with_reducible repeat (first | refine blk_drewN ?_ _ | refine blk_drew ?_ | refine blk_alloc ?_ _)); exact BK103.out⟩, ⟨by repeat (first | (with_reducible first | exact HB.out | apply below_alloc | apply pw_below_drewN | apply below_drew1 | refine below_set ?_ GE101.out | refine below_set ?_ GE102.out | refine below_set ?_ GE103.out) | exact HB.out)⟩⟩
  case round =>
    clear H'
    try clear p2
    try clear c4
    try clear c6
    try clear c7
    try clear c8
    try clear hcz10_0
    try clear hcz10_1
    try clear hcz10_2
    try clear hcz10_3
    try clear hcz10_4
    try clear hcz10_5
    try clear hcz10_6
    try clear hcz10_7
    try clear hcz5_0
    try clear hcz5_1
    try clear hcz5_2
    try clear hcz5_3
    try clear hcz5_4
    try clear hcz5_5
    try clear hcz5_6
    try clear hcz5_7
    try clear hcz9_0
    try clear hcz9_1
    try clear hcz9_2
    try clear hcz9_3
    try clear hcz9_4
    try clear hcz9_5
    try clear hcz9_6
    try clear hcz9_7
    try clear hfz10_0
    try clear hfz10_1
    try clear hfz10_2
    try clear hfz10_3
    try clear hfz10_4
    try clear hfz10_5
    try clear hfz10_6
    try clear hfz10_7
    try clear hfz5_0
    try clear hfz5_1
    try clear hfz5_2
    try clear hfz5_3
    try clear hfz5_4
    try clear hfz5_5
    try clear hfz5_6
    try clear hfz5_7
    try clear hfz9_0
    try clear hfz9_1
    try clear hfz9_2
    try clear hfz9_3
    try clear hfz9_4
    try clear hfz9_5
    try clear hfz9_6
    try clear hfz9_7
    obtain ⟨x24_1, x104007_1, u104007, rfl, HA, HK1, HO_104007, BK101, BK102, BK103, HB⟩ := hrel
    cases gk with
    | zero => exact absurd HA.out (by simp [impl_attrs.l0])
    | succ k1 =>
      have H := HA.out
      clear HA
      simp only [impl_attrs.l0] at H
      by_cases c11 : x24_1 < (l0_7.length : Int)
      · rw [if_pos c11] at H
        have c11b0 : decide (x24_1 < (l0_7.length : Int)) = true := decide_eq_true c11
        clear c11
        by_cases c12 : 0 ≤ x24_1
        · rw [if_pos c12] at H
          have c12b0 : decide (0 ≤ x24_1) = true := decide_eq_true c12
          clear c12
          by_cases c13 : x24_1 < (l0_7.length : Int)
          · rw [if_pos c13] at H
            have c13b0 : decide (x24_1 < (l0_7.length : Int)) = true := decide_eq_true c13
            clear c13
            by_cases c14 : x104007_1.length < 4398046511104
            · rw [if_pos c14] at H
              have LMc14 := Aside0.mk c14
              clear c14
              obtain ⟨y106, hy106⟩ : ∃ y_ : List (S266), y_ = (x104007_1 ++ [(⟨(rd_T89 l0_7 x24_1).f0, (rd_T89 l0_7 x24_1).f1⟩ : S266)]) := ⟨_, rfl⟩
              replace H : (impl_attrs.l0 k1 l0_7 (l0_7.length : Int) (wrap64 (x24_1 + 1)) a0_0 a0_1 a0_2 a0_3 a0_4 a0_5 a0_6 y106) = some (r1, r2, r3, r4, r5, r6, r7, r8) := by first | (rw [hy106]; with_reducible exact H) | (have H2_ := (Option.bind_some _ _).symm.trans H; rw [hy106]; with_reducible exact H2_) | (have H2_ := (Option.bind_some _ _).symm.trans H; with_reducible exact H2_) | with_reducible exact H | (rw [hy106]; exact H) | exact H
              have Ny106 := Aside0.mk hy106
              clear hy106
              have H' := Aside0.mk H
              clear H
              have p104 : 0 ≤ (x24_1 : Int) := of_decide_eq_true (by first | (with_reducible assumption) | assumption)
              have q104 : x24_1 < (l0_7.length : Int) := of_decide_eq_true (by first | (with_reducible assumption) | assumption)
              obtain ⟨ad104, e104, hx104_0, hx104_1⟩ := at_T89 HR0_7.out x24_1 p104 q104
              cases e104
              replace hx104_0 := (HB.out.cell (World.block_lt_of_cell? w _ hx104_0)).trans hx104_0
              replace hx104_1 := (HB.out.cell (World.block_lt_of_cell? w _ hx104_1)).trans hx104_1
              replace p104 := eq_true p104
              replace q104 := eq_true q104
              go_wp2_with (first | ((with_reducible refine gate_dst (N := 5) rfl ?_); refine box_event ?hg (N := 5) ?hd (cs := #[.string (⟨#[]⟩ : ByteArray), .string (⟨#[]⟩ : ByteArray)]) (t := 89) ?hr ?_; (case hd => rfl); (case hg => rfl); (case hr => first | (go_simp; done) | (go_simp; rfl)); intro gb105 hg w15 hbox hb; have n0_ := Aside0.mk (Kd.R_below (by (with_reducible repeat (first | apply Kd.R_alloc | apply Kd.R_drewN | apply Kd.R_drew)); exact HO_104007.out) hb); have n1_ := Aside0.mk (blk_below (g := gb101) (o := .cells #[.int .u32 a0_0, .int .u64 a0_1, .int .u32 a0_2, .int .u32 a0_3, .int .u32 a0_4, .int .u32 a0_5, .int .u32 a0_6, .slice (some ad104) l0_7.length c0_7] 26 (0, 0)) (by (with_reducible repeat (first | refine blk_drewN ?_ _ | refine blk_drew ?_ | refine blk_alloc ?_ _)); exact BK101.out) hb); have n2_ := Aside0.mk (blk_below (g := gb102) (o := .cells #[.int .u32 0, .int .u64 0, .int .u32 0, .int .u32 0, .int .u32 0, .int .u32 0, .int .u32 0, .slice none 0 0] 139 (0, 0)) (by (with_reducible repeat (first | refine blk_drewN ?_ _ | refine blk_drew ?_ | refine blk_alloc ?_ _)); exact BK102.out) hb); have n3_ := Aside0.mk (blk_below (g := gb103) (o := .cells #[.int .u32 a0_0, .int .u64 a0_1, .int .u32 a0_2, .int .u32 a0_3, .int .u32 a0_4, .int .u32 a0_5, .int .u32 a0_6, u104007] 139 (0, 0)) (by (with_reducible repeat (first | refine blk_drewN ?_ _ | refine blk_drew ?_ | refine blk_alloc ?_ _)); exact BK103.out) hb); have n4_ := Aside0.mk (below_step (by repeat (first | (with_reducible first | exact HB.out | apply below_alloc | apply pw_below_drewN | apply below_drew1 | refine below_set ?_ GE101.out | refine below_set ?_ GE102.out | refine below_set ?_ GE103.out) | exact HB.out)) hb); have n5_ := Aside0.mk (hbox); have n6_ := Aside0.mk ((by rw [hg]; exact (below_size (by repeat (first | (with_reducible first | exact HB.out | apply below_alloc | apply pw_below_drewN | apply below_drew1 | refine below_set ?_ GE101.out | refine below_set ?_ GE102.out | refine below_set ?_ GE103.out) | exact HB.out))) : w.heap.size ≤ gb105)); have n7_ := Aside0.mk ((by rw [hg]; exact (below_size (by repeat (first | (with_reducible first | exact HB.out | apply below_alloc | apply pw_below_drewN | apply below_drew1 | refine below_set ?_ GE101.out | refine below_set ?_ GE102.out | refine below_set ?_ GE103.out) | exact HB.out))) : w.heap.size ≤ gb105)); have n8_ := Aside0.mk ((by rw [hg]; exact Nat.ne_of_lt (blk_lt (g := gb101) (o := .cells #[.int .u32 a0_0, .int .u64 a0_1, .int .u32 a0_2, .int .u32 a0_3, .int .u32 a0_4, .int .u32 a0_5, .int .u32 a0_6, .slice (some ad104) l0_7.length c0_7] 26 (0, 0)) (by (with_reducible repeat (first | refine blk_drewN ?_ _ | refine blk_drew ?_ | refine blk_alloc ?_ _)); exact BK101.out)) : gb101 ≠ gb105)); have n9_ := Aside0.mk ((by rw [hg]; exact Nat.ne_of_gt (blk_lt (g := gb101) (o := .cells #[.int .u32 a0_0, .int .u64 a0_1, .int .u32 a0_2, .int .u32 a0_3, .int .u32 a0_4, .int .u32 a0_5, .int .u32 a0_6, .slice (some ad104) l0_7.length c0_7] 26 (0, 0)) (by (with_reducible repeat (first | refine blk_drewN ?_ _ | refine blk_drew ?_ | refine blk_alloc ?_ _)); exact BK101.out)) : gb105 ≠ gb101)); have n10_ := Aside0.mk ((by rw [hg]; exact Nat.ne_of_lt (blk_lt (g := gb102) (o := .cells #[.int .u32 0, .int .u64 0, .int .u32 0, .int .u32 0, .int .u32 0, .int .u32 0, .int .u32 0, .slice none 0 0] 139 (0, 0)) (by (with_reducible repeat (first | refine blk_drewN ?_ _ | refine blk_drew ?_ | refine blk_alloc ?_ _)); exact BK102.out)) : gb102 ≠ gb105)); have n11_ := Aside0.mk ((by rw [hg]; exact Nat.ne_of_gt (blk_lt (g := gb102) (o := .cells #[.int .u32 0, .int .u64 0, .int .u32 0, .int .u32 0, .int .u32 0, .int .u32 0, .int .u32 0, .slice none 0 0] 139 (0, 0)) (by (with_reducible repeat (first | refine blk_drewN ?_ _ | refine blk_drew ?_ | refine blk_alloc ?_ _)); exact BK102.out)) : gb105 ≠ gb102)); have n12_ := Aside0.mk ((by rw [hg]; exact Nat.ne_of_lt (blk_lt (g := gb103) (o := .cells #[.int .u32 a0_0, .int .u64 a0_1, .int .u32 a0_2, .int .u32 a0_3, .int .u32 a0_4, .int .u32 a0_5, .int .u32 a0_6, u104007] 139 (0, 0)) (by (with_reducible repeat (first | refine blk_drewN ?_ _ | refine blk_drew ?_ | refine blk_alloc ?_ _)); exact BK103.out)) : gb103 ≠ gb105)); have n13_ := Aside0.mk ((by rw [hg]; exact Nat.ne_of_gt (blk_lt (g := gb103) (o := .cells #[.int .u32 a0_0, .int .u64 a0_1, .int .u32 a0_2, .int .u32 a0_3, .int .u32 a0_4, .int .u32 a0_5, .int .u32 a0_6, u104007] 139 (0, 0)) (by (with_reducible repeat (first | refine blk_drewN ?_ _ | refine blk_drew ?_ | refine blk_alloc ?_ _)); exact BK103.out)) : gb105 ≠ gb103)); clear HO_104007; clear BK101; clear BK102; clear BK103; clear HB; have HO_104007 := n0_; have BK101 := n1_; have BK102 := n2_; have BK103 := n3_; have HB := n4_; have BK105 := n5_; have GW105 := n6_; have GE105 := n7_; have NB101_105 := n8_; have NB105_101 := n9_; have NB102_105 := n10_; have NB105_102 := n11_; have NB103_105 := n12_; have NB105_103 := n13_; clear n0_ n1_ n2_ n3_ n4_ n5_ n6_ n7_ n8_ n9_ n10_ n11_ n12_ n13_; clear hb hbox hg; have hnb16 := NB105_101.out; have hnc16 := NB101_105.out; have hnb17 := NB105_102.out; have hnc17 := NB102_105.out; have hnb18 := NB105_103.out; have hnc18 := NB103_105.out; have hcz19_0 : w15.cell? ⟨gb105, 0, none⟩ = some (.string (⟨#[]⟩ : ByteArray)) := (blk_cell BK105.out 0).trans rfl; have hcz19_1 : w15.cell? ⟨gb105, 1, none⟩ = some (.string (⟨#[]⟩ : ByteArray)) := (blk_cell BK105.out 1).trans rfl; have hfz19_0 := blk_frozen BK105.out 0; have hfz19_1 := blk_frozen BK105.out 1; have hnb20 := NB103_101.out; have hnc20 := NB101_103.out; have hnb21 := NB103_102.out; have hnc21 := NB102_103.out; have hcz22_0 : w15.cell? ⟨gb103, 0, none⟩ = some (.int .u32 a0_0) := (blk_cell BK103.out 0).trans rfl; have hcz22_1 : w15.cell? ⟨gb103, 1, none⟩ = some (.int .u64 a0_1) := (blk_cell BK103.out 1).trans rfl; have hcz22_2 : w15.cell? ⟨gb103, 2, none⟩ = some (.int .u32 a0_2) := (blk_cell BK103.out 2).trans rfl; have hcz22_3 : w15.cell? ⟨gb103, 3, none⟩ = some (.int .u32 a0_3) := (blk_cell BK103.out 3).trans rfl; have hcz22_4 : w15.cell? ⟨gb103, 4, none⟩ = some (.int .u32 a0_4) := (blk_cell BK103.out 4).trans rfl; have hcz22_5 : w15.cell? ⟨gb103, 5, none⟩ = some (.int .u32 a0_5) := (blk_cell BK103.out 5).trans rfl; have hcz22_6 : w15.cell? ⟨gb103, 6, none⟩ = some (.int .u32 a0_6) := (blk_cell BK103.out 6).trans rfl; have hcz22_7 : w15.cell? ⟨gb103, 7, none⟩ = some (u104007) := (blk_cell BK103.out 7).trans rfl; have hfz22_0 := blk_frozen BK103.out 0; have hfz22_1 := blk_frozen BK103.out 1; have hfz22_2 := blk_frozen BK103.out 2; have hfz22_3 := blk_frozen BK103.out 3; have hfz22_4 := blk_frozen BK103.out 4; have hfz22_5 := blk_frozen BK103.out 5; have hfz22_6 := blk_frozen BK103.out 6; have hfz22_7 := blk_frozen BK103.out 7) | ((with_reducible refine gate_builtin (b := .append) (xs := #[.tmp 29, .tmp 35]) rfl ?_); at_builtin; refine Kd.R_append k266 (w0 := w) w.heap.size rfl (.tmp 29) (.tmp 35) 137 266 (.agg #[(.string ⟨#[]⟩), (.string ⟨#[]⟩)]) 32 rfl Tryz.underlying137 info266 rfl (by decide) (by omega) u104007 x104007_1 (⟨(rd_T89 l0_7 x24_1).f0, (rd_T89 l0_7 x24_1).f1⟩ : S266) [.string ((rd_T89 l0_7 x24_1).f0), .string ((rd_T89 l0_7 x24_1).f1)] (fun _ => True) (fun _ => False) rfl (by first | (go_simp; done) | (go_simp; rfl)) ?aP (fun _ hk => hk.elim) ?aF ?aO ?aB ?aS ?aL ?_; (case aP => exact k266_mkM _ _ _ (⟨(rd_T89 l0_7 x24_1).f0, (rd_T89 l0_7 x24_1).f1⟩ : S266)); (case aB => exact (by repeat (first | (with_reducible first | exact HB.out | apply below_alloc | apply pw_below_drewN | apply below_drew1 | refine below_set ?_ GE101.out | refine below_set ?_ GE102.out | refine below_set ?_ GE103.out | refine below_set ?_ GE105.out) | exact HB.out))); (case aF => exact (fun _ _ => trivial)); (case aO => exact (by (with_reducible repeat (first | apply Kd.R_alloc | apply Kd.R_drewN | apply Kd.R_drew)); exact Kd.R_mono (Kd.R_far (p := ⟨gb105, 1, none⟩) (Kd.R_far (p := ⟨gb105, 0, none⟩) (Kd.R_types HO_104007.out BK105.out (by decide)) (fun _ hk => hk.2) (.string ((rd_T89 l0_7 x24_1).f0))) (fun _ hk => hk.2) (.string ((rd_T89 l0_7 x24_1).f1))) (fun _ hk => trivial))); (case aS => exact (below_size (by repeat (first | (with_reducible first | exact HB.out | apply below_alloc | apply pw_below_drewN | apply below_drew1 | refine below_set ?_ GE101.out | refine below_set ?_ GE102.out | refine below_set ?_ GE103.out | refine below_set ?_ GE105.out) | exact HB.out)))); (case aL => have := LMc14.out; omega); intro v107 w23 ho hb hg hat; rw [← Ny106.out] at ho; have n0_ := Aside0.mk (blk_grown (g := gb101) (o := .cells #[.int .u32 a0_0, .int .u64 a0_1, .int .u32 a0_2, .int .u32 a0_3, .int .u32 a0_4, .int .u32 a0_5, .int .u32 a0_6, .slice (some ad104) l0_7.length c0_7] 26 (0, 0)) (by (with_reducible repeat (first | refine blk_drewN ?_ _ | refine blk_drew ?_ | refine blk_alloc ?_ _)); refine blk_far ?_ NB101_105.out _; (with_reducible repeat (first | refine blk_drewN ?_ _ | refine blk_drew ?_ | refine blk_alloc ?_ _)); refine blk_far ?_ NB101_105.out _; (with_reducible repeat (first | refine blk_drewN ?_ _ | refine blk_drew ?_ | refine blk_alloc ?_ _)); exact BK101.out) hg (Kd.R_ne HO_104007.out BK101.out (by decide))); have n1_ := Aside0.mk (blk_grown (g := gb102) (o := .cells #[.int .u32 0, .int .u64 0, .int .u32 0, .int .u32 0, .int .u32 0, .int .u32 0, .int .u32 0, .slice none 0 0] 139 (0, 0)) (by (with_reducible repeat (first | refine blk_drewN ?_ _ | refine blk_drew ?_ | refine blk_alloc ?_ _)); refine blk_far ?_ NB102_105.out _; (with_reducible repeat (first | refine blk_drewN ?_ _ | refine blk_drew ?_ | refine blk_alloc ?_ _)); refine blk_far ?_ NB102_105.out _; (with_reducible repeat (first | refine blk_drewN ?_ _ | refine blk_drew ?_ | refine blk_alloc ?_ _)); exact BK102.out) hg (Kd.R_ne HO_104007.out BK102.out (by decide))); have n2_ := Aside0.mk (blk_grown (g := gb103) (o := .cells #[.int .u32 a0_0, .int .u64 a0_1, .int .u32 a0_2, .int .u32 a0_3, .int .u32 a0_4, .int .u32 a0_5, .int .u32 a0_6, u104007] 139 (0, 0)) (by (with_reducible repeat (first | refine blk_drewN ?_ _ | refine blk_drew ?_ | refine blk_alloc ?_ _)); refine blk_far ?_ NB103_105.out _; (with_reducible repeat (first | refine blk_drewN ?_ _ | refine blk_drew ?_ | refine blk_alloc ?_ _)); refine blk_far ?_ NB103_105.out _; (with_reducible repeat (first | refine blk_drewN ?_ _ | refine blk_drew ?_ | refine blk_alloc ?_ _)); exact BK103.out) hg (Kd.R_ne HO_104007.out BK103.out (by decide))); have n3_ := Aside0.mk (blk_grown (g := gb105) (o := .cells #[.string ((rd_T89 l0_7 x24_1).f0), .string ((rd_T89 l0_7 x24_1).f1)] 89 (0, 0)) (by (with_reducible repeat (first | refine blk_drewN ?_ _ | refine blk_drew ?_ | refine blk_alloc ?_ _)); refine blk_put (cs := #[.string ((rd_T89 l0_7 x24_1).f0), .string (⟨#[]⟩ : ByteArray)]) ?_ 1 _ rfl; (with_reducible repeat (first | refine blk_drewN ?_ _ | refine blk_drew ?_ | refine blk_alloc ?_ _)); refine blk_put (cs := #[.string (⟨#[]⟩ : ByteArray), .string (⟨#[]⟩ : ByteArray)]) ?_ 0 _ rfl; (with_reducible repeat (first | refine blk_drewN ?_ _ | refine blk_drew ?_ | refine blk_alloc ?_ _)); exact BK105.out) hg (Kd.R_ne HO_104007.out BK105.out (by decide))); have n4_ := Aside0.mk (hb); have n5_ := Aside0.mk (ho); clear BK101; clear BK102; clear BK103; clear BK105; clear HB; clear HO_104007; have BK101 := n0_; have BK102 := n1_; have BK103 := n2_; have BK105 := n3_; have HB := n4_; have HO108 := n5_; clear n0_ n1_ n2_ n3_ n4_ n5_; clear ho hb hg hat; obtain ⟨Ao24, co24, eo24⟩ := Kd.R_slice HO108.out; subst eo24; have hcz25_0 : w23.cell? ⟨gb103, 0, none⟩ = some (.int .u32 a0_0) := (blk_cell BK103.out 0).trans rfl; have hcz25_1 : w23.cell? ⟨gb103, 1, none⟩ = some (.int .u64 a0_1) := (blk_cell BK103.out 1).trans rfl; have hcz25_2 : w23.cell? ⟨gb103, 2, none⟩ = some (.int .u32 a0_2) := (blk_cell BK103.out 2).trans rfl; have hcz25_3 : w23.cell? ⟨gb103, 3, none⟩ = some (.int .u32 a0_3) := (blk_cell BK103.out 3).trans rfl; have hcz25_4 : w23.cell? ⟨gb103, 4, none⟩ = some (.int .u32 a0_4) := (blk_cell BK103.out 4).trans rfl; have hcz25_5 : w23.cell? ⟨gb103, 5, none⟩ = some (.int .u32 a0_5) := (blk_cell BK103.out 5).trans rfl; have hcz25_6 : w23.cell? ⟨gb103, 6, none⟩ = some (.int .u32 a0_6) := (blk_cell BK103.out 6).trans rfl; have hcz25_7 : w23.cell? ⟨gb103, 7, none⟩ = some (u104007) := (blk_cell BK103.out 7).trans rfl; have hfz25_0 := blk_frozen BK103.out 0; have hfz25_1 := blk_frozen BK103.out 1; have hfz25_2 := blk_frozen BK103.out 2; have hfz25_3 := blk_frozen BK103.out 3; have hfz25_4 := blk_frozen BK103.out 4; have hfz25_5 := blk_frozen BK103.out 5; have hfz25_6 := blk_frozen BK103.out 6; have hfz25_7 := blk_frozen BK103.out 7))
              go_roundg k1
              case measure => have := HK1.out; omega
              case rel => exact ⟨(wrap64 (x24_1 + 1)), (y106), (.slice Ao24 y106.length co24), (by first | rfl | (simp; done) | (simp [*]; done)), H', ⟨by have := HK1.out; omega⟩, ⟨by (with_reducible repeat (first | apply Kd.R_alloc | apply Kd.R_drewN | apply Kd.R_drew)); exact Kd.R_mono (Kd.R_far (p := ⟨gb103, 7, none⟩) (Kd.R_types HO108.out BK103.out (by decide)) (fun _ hk => hk.2) (.slice Ao24 y106.length co24)) (fun _ hk => trivial)⟩, ⟨by (with_reducible repeat (first | refine blk_drewN ?_ _ | refine blk_drew ?_ | refine blk_alloc ?_ _)); refine blk_far ?_ NB101_103.out _; (with_reducible repeat (first | refine blk_drewN ?_ _ | refine blk_drew ?_ | refine blk_alloc ?_ _)); exact BK101.out⟩, ⟨by (with_reducible repeat (first | refine blk_drewN ?_ _ | refine blk_drew ?_ | refine blk_alloc ?_ _)); refine blk_far ?_ NB102_103.out _; (with_reducible repeat (first | refine blk_drewN ?_ _ | refine blk_drew ?_ | refine blk_alloc ?_ _)); exact BK102.out⟩, ⟨by (with_reducible repeat (first | refine blk_drewN ?_ _ | refine blk_drew ?_ | refine blk_alloc ?_ _)); refine blk_put (cs := #[.int .u32 a0_0, .int .u64 a0_1, .int .u32 a0_2, .int .u32 a0_3, .int .u32 a0_4, .int .u32 a0_5, .int .u32 a0_6, u104007]) ?_ 7 _ rfl; (with_reducible repeat (first | refine blk_drewN ?_ _ | refine blk_drew ?_ | refine blk_alloc ?_ _)); exact BK103.out⟩, ⟨by repeat (first | (with_reducible first | exact HB.out | apply below_alloc | apply pw_below_drewN | apply below_drew1 | refine below_set ?_ GE101.out | refine below_set ?_ GE102.out | refine below_set ?_ GE103.out | refine below_set ?_ GE105.out) | exact HB.out)⟩⟩
            · rw [if_neg c14] at H
              exact absurd H (by simp)
          · rw [if_neg c13] at H
            exact absurd H (by simp)
        · rw [if_neg c12] at H
          exact absurd H (by simp)
      · rw [if_neg c11] at H
        have c11b0 : decide (x24_1 < (l0_7.length : Int)) = false := decide_eq_false c11
        clear c11
        simp only [Option.some.injEq, Prod.mk.injEq] at H
        obtain ⟨rfl, rfl, rfl, rfl, rfl, rfl, rfl, rfl⟩ := H
        have hnb26 := NB103_101.out
        have hnc26 := NB101_103.out
        have hnb27 := NB103_102.out
        have hnc27 := NB102_103.out
        have hcz28_0 : wr.cell? ⟨gb103, 0, none⟩ = some (.int .u32 a0_0) := (blk_cell BK103.out 0).trans rfl
        have hcz28_1 : wr.cell? ⟨gb103, 1, none⟩ = some (.int .u64 a0_1) := (blk_cell BK103.out 1).trans rfl
        have hcz28_2 : wr.cell? ⟨gb103, 2, none⟩ = some (.int .u32 a0_2) := (blk_cell BK103.out 2).trans rfl
        have hcz28_3 : wr.cell? ⟨gb103, 3, none⟩ = some (.int .u32 a0_3) := (blk_cell BK103.out 3).trans rfl
        have hcz28_4 : wr.cell? ⟨gb103, 4, none⟩ = some (.int .u32 a0_4) := (blk_cell BK103.out 4).trans rfl
        have hcz28_5 : wr.cell? ⟨gb103, 5, none⟩ = some (.int .u32 a0_5) := (blk_cell BK103.out 5).trans rfl
        have hcz28_6 : wr.cell? ⟨gb103, 6, none⟩ = some (.int .u32 a0_6) := (blk_cell BK103.out 6).trans rfl
        have hcz28_7 : wr.cell? ⟨gb103, 7, none⟩ = some (u104007) := (blk_cell BK103.out 7).trans rfl
        have hfz28_0 := blk_frozen BK103.out 0
        have hfz28_1 := blk_frozen BK103.out 1
        have hfz28_2 := blk_frozen BK103.out 2
        have hfz28_3 := blk_frozen BK103.out 3
        have hfz28_4 := blk_frozen BK103.out 4
        have hfz28_5 := blk_frozen BK103.out 5
        have hfz28_6 := blk_frozen BK103.out 6
        have hfz28_7 := blk_frozen BK103.out 7
        have hnb29 := NB102_101.out
        have hnc29 := NB101_102.out
        have hcz30_0 : wr.cell? ⟨gb102, 0, none⟩ = some (.int .u32 0) := (blk_cell BK102.out 0).trans rfl
        have hcz30_1 : wr.cell? ⟨gb102, 1, none⟩ = some (.int .u64 0) := (blk_cell BK102.out 1).trans rfl
        have hcz30_2 : wr.cell? ⟨gb102, 2, none⟩ = some (.int .u32 0) := (blk_cell BK102.out 2).trans rfl
        have hcz30_3 : wr.cell? ⟨gb102, 3, none⟩ = some (.int .u32 0) := (blk_cell BK102.out 3).trans rfl
        have hcz30_4 : wr.cell? ⟨gb102, 4, none⟩ = some (.int .u32 0) := (blk_cell BK102.out 4).trans rfl
        have hcz30_5 : wr.cell? ⟨gb102, 5, none⟩ = some (.int .u32 0) := (blk_cell BK102.out 5).trans rfl
        have hcz30_6 : wr.cell? ⟨gb102, 6, none⟩ = some (.int .u32 0) := (blk_cell BK102.out 6).trans rfl
        have hcz30_7 : wr.cell? ⟨gb102, 7, none⟩ = some (.slice none 0 0) := (blk_cell BK102.out 7).trans rfl
        have hfz30_0 := blk_frozen BK102.out 0
        have hfz30_1 := blk_frozen BK102.out 1
        have hfz30_2 := blk_frozen BK102.out 2
        have hfz30_3 := blk_frozen BK102.out 3
        have hfz30_4 := blk_frozen BK102.out 4
        have hfz30_5 := blk_frozen BK102.out 5
        have hfz30_6 := blk_frozen BK102.out 6
        have hfz30_7 := blk_frozen BK102.out 7
        obtain ⟨Ao31, co31, eo31⟩ := Kd.R_slice HO_104007.out
        subst eo31
        go_wp2
        refine bodyPost_ret (results_cell_row rfl _ _ gb102 139 #[.int .u32 a0_0, .int .u64 a0_1, .int .u32 a0_2, .int .u32 a0_3, .int .u32 a0_4, .int .u32 a0_5, .int .u32 a0_6, .slice Ao31 x104007_1.length co31] (0, 0) _ rfl (by (with_reducible repeat (first | refine blk_drewN ?_ _ | refine blk_drew ?_ | refine blk_alloc ?_ _)); refine blk_put (cs := #[.int .u32 a0_0, .int .u64 a0_1, .int .u32 a0_2, .int .u32 a0_3, .int .u32 a0_4, .int .u32 a0_5, .int .u32 a0_6, .slice none 0 0]) ?_ 7 _ rfl; (with_reducible repeat (first | refine blk_drewN ?_ _ | refine blk_drew ?_ | refine blk_alloc ?_ _)); refine blk_put (cs := #[.int .u32 a0_0, .int .u64 a0_1, .int .u32 a0_2, .int .u32 a0_3, .int .u32 a0_4, .int .u32 a0_5, .int .u32 0, .slice none 0 0]) ?_ 6 _ rfl; (with_reducible repeat (first | refine blk_drewN ?_ _ | refine blk_drew ?_ | refine blk_alloc ?_ _)); refine blk_put (cs := #[.int .u32 a0_0, .int .u64 a0_1, .int .u32 a0_2, .int .u32 a0_3, .int .u32 a0_4, .int .u32 0, .int .u32 0, .slice none 0 0]) ?_ 5 _ rfl; (with_reducible repeat (first | refine blk_drewN ?_ _ | refine blk_drew ?_ | refine blk_alloc ?_ _)); refine blk_put (cs := #[.int .u32 a0_0, .int .u64 a0_1, .int .u32 a0_2, .int .u32 a0_3, .int .u32 0, .int .u32 0, .int .u32 0, .slice none 0 0]) ?_ 4 _ rfl; (with_reducible repeat (first | refine blk_drewN ?_ _ | refine blk_drew ?_ | refine blk_alloc ?_ _)); refine blk_put (cs := #[.int .u32 a0_0, .int .u64 a0_1, .int .u32 a0_2, .int .u32 0, .int .u32 0, .int .u32 0, .int .u32 0, .slice none 0 0]) ?_ 3 _ rfl; (with_reducible repeat (first | refine blk_drewN ?_ _ | refine blk_drew ?_ | refine blk_alloc ?_ _)); refine blk_put (cs := #[.int .u32 a0_0, .int .u64 a0_1, .int .u32 0, .int .u32 0, .int .u32 0, .int .u32 0, .int .u32 0, .slice none 0 0]) ?_ 2 _ rfl; (with_reducible repeat (first | refine blk_drewN ?_ _ | refine blk_drew ?_ | refine blk_alloc ?_ _)); refine blk_put (cs := #[.int .u32 a0_0, .int .u64 0, .int .u32 0, .int .u32 0, .int .u32 0, .int .u32 0, .int .u32 0, .slice none 0 0]) ?_ 1 _ rfl; (with_reducible repeat (first | refine blk_drewN ?_ _ | refine blk_drew ?_ | refine blk_alloc ?_ _)); refine blk_put (cs := #[.int .u32 0, .int .u64 0, .int .u32 0, .int .u32 0, .int .u32 0, .int .u32 0, .int .u32 0, .slice none 0 0]) ?_ 0 _ rfl; (with_reducible repeat (first | refine blk_drewN ?_ _ | refine blk_drew ?_ | refine blk_alloc ?_ _)); exact BK102.out) Tryz.underlying139 rfl (by kernel_rfl)) rfl ?_
        exact ⟨_, by first | rfl | (simp [errW_none, errW_some] <;> rfl) | (simp [*, errW_none, errW_some] <;> rfl), by (with_reducible repeat (first | apply Kd.R_alloc | apply Kd.R_drewN | apply Kd.R_drew)); exact Kd.R_mono (Kd.R_far (p := ⟨gb102, 7, none⟩) (Kd.R_far (p := ⟨gb102, 6, none⟩) (Kd.R_far (p := ⟨gb102, 5, none⟩) (Kd.R_far (p := ⟨gb102, 4, none⟩) (Kd.R_far (p := ⟨gb102, 3, none⟩) (Kd.R_far (p := ⟨gb102, 2, none⟩) (Kd.R_far (p := ⟨gb102, 1, none⟩) (Kd.R_far (p := ⟨gb102, 0, none⟩) (Kd.R_types HO_104007.out BK102.out (by decide)) (fun _ hk => hk.2) (.int .u32 a0_0)) (fun _ hk => hk.2) (.int .u64 a0_1)) (fun _ hk => hk.2) (.int .u32 a0_2)) (fun _ hk => hk.2) (.int .u32 a0_3)) (fun _ hk => hk.2) (.int .u32 a0_4)) (fun _ hk => hk.2) (.int .u32 a0_5)) (fun _ hk => hk.2) (.int .u32 a0_6)) (fun _ hk => hk.2) (.slice Ao31 x104007_1.length co31)) (fun _ hk => trivial), by repeat (first | (with_reducible first | exact HB.out | apply below_alloc | apply pw_below_drewN | apply below_drew1 | refine below_set ?_ GE101.out | refine below_set ?_ GE102.out | refine below_set ?_ GE103.out) | exact HB.out)⟩
def impl_told.l0 : Nat → List (S266) → Int → Int → Int → Int → Int → Int → Int → Int → Int → List (S89) → Option (Int × Int × Int × Int × Int × Int × Int × (List (S89)))
  | 0, _, _, _, _, _, _, _, _, _, _, _ => none
  | k + 1, x22, x23, x24, x112000, x112001, x112002, x112003, x112004, x112005, x112006, x112007 => if x24 < x23 then (if 0 ≤ x24 then (if x24 < (x22.length : Int) then (if x112007.length < 4398046511104 then (impl_told.l0 k x22 x23 (wrap64 (x24 + 1)) x112000 x112001 x112002 x112003 x112004 x112005 x112006 (x112007 ++ [(⟨(rd_T266 x22 x24).f0, (rd_T266 x22 x24).f1⟩ : S89)])) else (none)) else (none)) else (none)) else (some (x112000, x112001, x112002, x112003, x112004, x112005, x112006, x112007))
def impl_told.f (k : Nat) (a0_0 : Int) (a0_1 : Int) (a0_2 : Int) (a0_3 : Int) (a0_4 : Int) (a0_5 : Int) (a0_6 : Int) (l0_7 : List (S266)) : Option (Int × Int × Int × Int × Int × Int × Int × (List (S89))) := impl_told.l0 k l0_7 (l0_7.length : Int) 0 a0_0 a0_1 a0_2 a0_3 a0_4 a0_5 a0_6 ([] : List (S89))
theorem impl_told.mono_l : ∀ k, (∀ y0 y1 y2 y3 y4 y5 y6 y7 y8 y9 y10, LeO (impl_told.l0 k y0 y1 y2 y3 y4 y5 y6 y7 y8 y9 y10) (impl_told.l0 (k + 1) y0 y1 y2 y3 y4 y5 y6 y7 y8 y9 y10))
  | 0 => fun _ _ _ _ _ _ _ _ _ _ _ r h => by simp [impl_told.l0] at h
  | k + 1 => by
    have ih0 := impl_told.mono_l k
    · intro y0 y1 y2 y3 y4 y5 y6 y7 y8 y9 y10
      unfold impl_told.l0
      repeat' first
      | (with_reducible exact ih0 _ _ _ _ _ _ _ _ _ _ _)
      | (with_reducible exact LeO.refl _)
      | (with_reducible exact LeO.none _)
      | (with_reducible refine LeO.ite ?_ ?_)
      | (with_reducible refine LeO.bind ?_ (fun _ => ?_))
      | exact ih0 _ _ _ _ _ _ _ _ _ _ _
      | exact LeO.none _
      | refine LeO.ite ?_ ?_
      | refine LeO.bind ?_ (fun _ => ?_)
theorem impl_told.mono : ∀ a0 a1 a2 a3 a4 a5 a6 a7 k, LeO (impl_told.f k a0 a1 a2 a3 a4 a5 a6 a7) (impl_told.f (k + 1) a0 a1 a2 a3 a4 a5 a6 a7) := by
  intro a0 a1 a2 a3 a4 a5 a6 a7 k
  have ih0 := impl_told.mono_l k
  unfold impl_told.f
  repeat' first
      | (with_reducible exact ih0 _ _ _ _ _ _ _ _ _ _ _)
      | (with_reducible exact LeO.refl _)
      | (with_reducible exact LeO.none _)
      | (with_reducible refine LeO.ite ?_ ?_)
      | (with_reducible refine LeO.bind ?_ (fun _ => ?_))
      | exact ih0 _ _ _ _ _ _ _ _ _ _ _
      | exact LeO.none _
      | refine LeO.ite ?_ ?_
      | refine LeO.bind ?_ (fun _ => ?_)
set_option maxHeartbeats 8000000 in
set_option maxRecDepth 100000 in
theorem impl_told.calls (k : Nat) (a0_0 : Int) (a0_1 : Int) (a0_2 : Int) (a0_3 : Int) (a0_4 : Int) (a0_5 : Int) (a0_6 : Int) (A0_7 : Option Addr) (c0_7 : Nat) (l0_7 : List (S266)) (r1 : Int) (r2 : Int) (r3 : Int) (r4 : Int) (r5 : Int) (r6 : Int) (r7 : Int) (r8 : List (S89)) (w : World) (hr0_7 : Kd.C k266 w A0_7 l0_7.length l0_7) (hc0_7 : l0_7.length ≤ c0_7) (h : impl_told.f k a0_0 a0_1 a0_2 a0_3 a0_4 a0_5 a0_6 l0_7 = some (r1, r2, r3, r4, r5, r6, r7, r8)) :
    Calls Tryz.prog 74 #[.agg #[.int .u32 a0_0, .int .u64 a0_1, .int .u32 a0_2, .int .u32 a0_3, .int .u32 a0_4, .int .u32 a0_5, .int .u32 a0_6, .slice A0_7 l0_7.length c0_7]] w fun e w' => ∃ v7_ : Value, e = .returned (.agg #[.int .u32 r1, .int .u64 r2, .int .u32 r3, .int .u32 r4, .int .u32 r5, .int .u32 r6, .int .u32 r7, v7_]) ∧ Kd.R k89 89 w' w.heap.size (fun _ => True) v7_ r8 ∧ Below w.heap.size w w' := by
  have hu139 := Tryz.underlying139
  have hu26 := Tryz.underlying26
  have hu266 := Tryz.underlying266
  have hu89 := Tryz.underlying89
  have HR0_7 := Aside0.mk hr0_7
  have HC0_7 := Aside0.mk hc0_7
  clear hr0_7 hc0_7
  have HB := Aside0.mk (Below.refl w.heap.size w)
  have H : (impl_told.l0 k l0_7 (l0_7.length : Int) 0 a0_0 a0_1 a0_2 a0_3 a0_4 a0_5 a0_6 ([] : List (S89))) = some (r1, r2, r3, r4, r5, r6, r7, r8) := h
  clear h
  have H' := Aside0.mk H
  clear H
  go_enter Tryz.func74, Tryz.ntmps74
  go_wp2_with (first | ((with_reducible refine gate_dst (N := 1) rfl ?_); refine box_event ?hg (N := 1) ?hd (cs := #[.int .u32 a0_0, .int .u64 a0_1, .int .u32 a0_2, .int .u32 a0_3, .int .u32 a0_4, .int .u32 a0_5, .int .u32 a0_6, .slice A0_7 l0_7.length c0_7]) (t := 139) ?hr ?_; (case hd => rfl); (case hg => rfl); (case hr => first | (go_simp; done) | (go_simp; rfl)); intro gb109 hg w2 hbox hb; have n0_ := Aside0.mk (below_step (by repeat (first | (with_reducible first | exact HB.out | apply below_alloc | apply pw_below_drewN | apply below_drew1) | exact HB.out)) hb); have n1_ := Aside0.mk (hbox); have n2_ := Aside0.mk ((by rw [hg]; exact (below_size (by repeat (first | (with_reducible first | exact HB.out | apply below_alloc | apply pw_below_drewN | apply below_drew1) | exact HB.out))) : w.heap.size ≤ gb109)); have n3_ := Aside0.mk ((by rw [hg]; exact (below_size (by repeat (first | (with_reducible first | exact HB.out | apply below_alloc | apply pw_below_drewN | apply below_drew1) | exact HB.out))) : w.heap.size ≤ gb109)); clear HB; have HB := n0_; have BK109 := n1_; have GW109 := n2_; have GE109 := n3_; clear n0_ n1_ n2_ n3_; clear hb hbox hg) | ((with_reducible refine gate_dst (N := 2) rfl ?_); refine box_event ?hg (N := 2) ?hd (cs := #[.int .u32 0, .int .u64 0, .int .u32 0, .int .u32 0, .int .u32 0, .int .u32 0, .int .u32 0, .slice none 0 0]) (t := 26) ?hr ?_; (case hd => rfl); (case hg => rfl); (case hr => first | (go_simp; done) | (go_simp; rfl)); intro gb110 hg w3 hbox hb; have n0_ := Aside0.mk (blk_below (g := gb109) (o := .cells #[.int .u32 a0_0, .int .u64 a0_1, .int .u32 a0_2, .int .u32 a0_3, .int .u32 a0_4, .int .u32 a0_5, .int .u32 a0_6, .slice A0_7 l0_7.length c0_7] 139 (0, 0)) (by (with_reducible repeat (first | refine blk_drewN ?_ _ | refine blk_drew ?_ | refine blk_alloc ?_ _)); exact BK109.out) hb); have n1_ := Aside0.mk (below_step (by repeat (first | (with_reducible first | exact HB.out | apply below_alloc | apply pw_below_drewN | apply below_drew1 | refine below_set ?_ GE109.out) | exact HB.out)) hb); have n2_ := Aside0.mk (hbox); have n3_ := Aside0.mk ((by rw [hg]; exact (below_size (by repeat (first | (with_reducible first | exact HB.out | apply below_alloc | apply pw_below_drewN | apply below_drew1 | refine below_set ?_ GE109.out) | exact HB.out))) : w.heap.size ≤ gb110)); have n4_ := Aside0.mk ((by rw [hg]; exact (below_size (by repeat (first | (with_reducible first | exact HB.out | apply below_alloc | apply pw_below_drewN | apply below_drew1 | refine below_set ?_ GE109.out) | exact HB.out))) : w.heap.size ≤ gb110)); have n5_ := Aside0.mk ((by rw [hg]; exact Nat.ne_of_lt (blk_lt (g := gb109) (o := .cells #[.int .u32 a0_0, .int .u64 a0_1, .int .u32 a0_2, .int .u32 a0_3, .int .u32 a0_4, .int .u32 a0_5, .int .u32 a0_6, .slice A0_7 l0_7.length c0_7] 139 (0, 0)) (by (with_reducible repeat (first | refine blk_drewN ?_ _ | refine blk_drew ?_ | refine blk_alloc ?_ _)); exact BK109.out)) : gb109 ≠ gb110)); have n6_ := Aside0.mk ((by rw [hg]; exact Nat.ne_of_gt (blk_lt (g := gb109) (o := .cells #[.int .u32 a0_0, .int .u64 a0_1, .int .u32 a0_2, .int .u32 a0_3, .int .u32 a0_4, .int .u32 a0_5, .int .u32 a0_6, .slice A0_7 l0_7.length c0_7] 139 (0, 0)) (by (with_reducible repeat (first | refine blk_drewN ?_ _ | refine blk_drew ?_ | refine blk_alloc ?_ _)); exact BK109.out)) : gb110 ≠ gb109)); clear BK109; clear HB; have BK109 := n0_; have HB := n1_; have BK110 := n2_; have GW110 := n3_; have GE110 := n4_; have NB109_110 := n5_; have NB110_109 := n6_; clear n0_ n1_ n2_ n3_ n4_ n5_ n6_; clear hb hbox hg; have hnb4 := NB109_110.out; have hnc4 := NB110_109.out; have hcz5_0 : w3.cell? ⟨gb109, 0, none⟩ = some (.int .u32 a0_0) := (blk_cell BK109.out 0).trans rfl; have hcz5_1 : w3.cell? ⟨gb109, 1, none⟩ = some (.int .u64 a0_1) := (blk_cell BK109.out 1).trans rfl; have hcz5_2 : w3.cell? ⟨gb109, 2, none⟩ = some (.int .u32 a0_2) := (blk_cell BK109.out 2).trans rfl; have hcz5_3 : w3.cell? ⟨gb109, 3, none⟩ = some (.int .u32 a0_3) := (blk_cell BK109.out 3).trans rfl; have hcz5_4 : w3.cell? ⟨gb109, 4, none⟩ = some (.int .u32 a0_4) := (blk_cell BK109.out 4).trans rfl; have hcz5_5 : w3.cell? ⟨gb109, 5, none⟩ = some (.int .u32 a0_5) := (blk_cell BK109.out 5).trans rfl; have hcz5_6 : w3.cell? ⟨gb109, 6, none⟩ = some (.int .u32 a0_6) := (blk_cell BK109.out 6).trans rfl; have hcz5_7 : w3.cell? ⟨gb109, 7, none⟩ = some (.slice A0_7 l0_7.length c0_7) := (blk_cell BK109.out 7).trans rfl; have hfz5_0 := blk_frozen BK109.out 0; have hfz5_1 := blk_frozen BK109.out 1; have hfz5_2 := blk_frozen BK109.out 2; have hfz5_3 := blk_frozen BK109.out 3; have hfz5_4 := blk_frozen BK109.out 4; have hfz5_5 := blk_frozen BK109.out 5; have hfz5_6 := blk_frozen BK109.out 6; have hfz5_7 := blk_frozen BK109.out 7) | ((with_reducible refine gate_dst (N := 3) rfl ?_); refine box_event ?hg (N := 3) ?hd (cs := #[.int .u32 0, .int .u64 0, .int .u32 0, .int .u32 0, .int .u32 0, .int .u32 0, .int .u32 0, .slice none 0 0]) (t := 26) ?hr ?_; (case hd => rfl); (case hg => rfl); (case hr => first | (go_simp; done) | (go_simp; rfl)); intro gb111 hg w6 hbox hb; have n0_ := Aside0.mk (blk_below (g := gb109) (o := .cells #[.int .u32 a0_0, .int .u64 a0_1, .int .u32 a0_2, .int .u32 a0_3, .int .u32 a0_4, .int .u32 a0_5, .int .u32 a0_6, .slice A0_7 l0_7.length c0_7] 139 (0, 0)) (by (with_reducible repeat (first | refine blk_drewN ?_ _ | refine blk_drew ?_ | refine blk_alloc ?_ _)); exact BK109.out) hb); have n1_ := Aside0.mk (blk_below (g := gb110) (o := .cells #[.int .u32 0, .int .u64 0, .int .u32 0, .int .u32 0, .int .u32 0, .int .u32 0, .int .u32 0, .slice none 0 0] 26 (0, 0)) (by (with_reducible repeat (first | refine blk_drewN ?_ _ | refine blk_drew ?_ | refine blk_alloc ?_ _)); exact BK110.out) hb); have n2_ := Aside0.mk (below_step (by repeat (first | (with_reducible first | exact HB.out | apply below_alloc | apply pw_below_drewN | apply below_drew1 | refine below_set ?_ GE109.out | refine below_set ?_ GE110.out) | exact HB.out)) hb); have n3_ := Aside0.mk (hbox); have n4_ := Aside0.mk ((by rw [hg]; exact (below_size (by repeat (first | (with_reducible first | exact HB.out | apply below_alloc | apply pw_below_drewN | apply below_drew1 | refine below_set ?_ GE109.out | refine below_set ?_ GE110.out) | exact HB.out))) : w.heap.size ≤ gb111)); have n5_ := Aside0.mk ((by rw [hg]; exact (below_size (by repeat (first | (with_reducible first | exact HB.out | apply below_alloc | apply pw_below_drewN | apply below_drew1 | refine below_set ?_ GE109.out | refine below_set ?_ GE110.out) | exact HB.out))) : w.heap.size ≤ gb111)); have n6_ := Aside0.mk ((by rw [hg]; exact Nat.ne_of_lt (blk_lt (g := gb109) (o := .cells #[.int .u32 a0_0, .int .u64 a0_1, .int .u32 a0_2, .int .u32 a0_3, .int .u32 a0_4, .int .u32 a0_5, .int .u32 a0_6, .slice A0_7 l0_7.length c0_7] 139 (0, 0)) (by (with_reducible repeat (first | refine blk_drewN ?_ _ | refine blk_drew ?_ | refine blk_alloc ?_ _)); exact BK109.out)) : gb109 ≠ gb111)); have n7_ := Aside0.mk ((by rw [hg]; exact Nat.ne_of_gt (blk_lt (g := gb109) (o := .cells #[.int .u32 a0_0, .int .u64 a0_1, .int .u32 a0_2, .int .u32 a0_3, .int .u32 a0_4, .int .u32 a0_5, .int .u32 a0_6, .slice A0_7 l0_7.length c0_7] 139 (0, 0)) (by (with_reducible repeat (first | refine blk_drewN ?_ _ | refine blk_drew ?_ | refine blk_alloc ?_ _)); exact BK109.out)) : gb111 ≠ gb109)); have n8_ := Aside0.mk ((by rw [hg]; exact Nat.ne_of_lt (blk_lt (g := gb110) (o := .cells #[.int .u32 0, .int .u64 0, .int .u32 0, .int .u32 0, .int .u32 0, .int .u32 0, .int .u32 0, .slice none 0 0] 26 (0, 0)) (by (with_reducible repeat (first | refine blk_drewN ?_ _ | refine blk_drew ?_ | refine blk_alloc ?_ _)); exact BK110.out)) : gb110 ≠ gb111)); have n9_ := Aside0.mk ((by rw [hg]; exact Nat.ne_of_gt (blk_lt (g := gb110) (o := .cells #[.int .u32 0, .int .u64 0, .int .u32 0, .int .u32 0, .int .u32 0, .int .u32 0, .int .u32 0, .slice none 0 0] 26 (0, 0)) (by (with_reducible repeat (first | refine blk_drewN ?_ _ | refine blk_drew ?_ | refine blk_alloc ?_ _)); exact BK110.out)) : gb111 ≠ gb110)); clear BK109; clear BK110; clear HB; have BK109 := n0_; have BK110 := n1_; have HB := n2_; have BK111 := n3_; have GW111 := n4_; have GE111 := n5_; have NB109_111 := n6_; have NB111_109 := n7_; have NB110_111 := n8_; have NB111_110 := n9_; clear n0_ n1_ n2_ n3_ n4_ n5_ n6_ n7_ n8_ n9_; clear hb hbox hg; have hnb7 := NB111_109.out; have hnc7 := NB109_111.out; have hnb8 := NB111_110.out; have hnc8 := NB110_111.out; have hcz9_0 : w6.cell? ⟨gb111, 0, none⟩ = some (.int .u32 0) := (blk_cell BK111.out 0).trans rfl; have hcz9_1 : w6.cell? ⟨gb111, 1, none⟩ = some (.int .u64 0) := (blk_cell BK111.out 1).trans rfl; have hcz9_2 : w6.cell? ⟨gb111, 2, none⟩ = some (.int .u32 0) := (blk_cell BK111.out 2).trans rfl; have hcz9_3 : w6.cell? ⟨gb111, 3, none⟩ = some (.int .u32 0) := (blk_cell BK111.out 3).trans rfl; have hcz9_4 : w6.cell? ⟨gb111, 4, none⟩ = some (.int .u32 0) := (blk_cell BK111.out 4).trans rfl; have hcz9_5 : w6.cell? ⟨gb111, 5, none⟩ = some (.int .u32 0) := (blk_cell BK111.out 5).trans rfl; have hcz9_6 : w6.cell? ⟨gb111, 6, none⟩ = some (.int .u32 0) := (blk_cell BK111.out 6).trans rfl; have hcz9_7 : w6.cell? ⟨gb111, 7, none⟩ = some (.slice none 0 0) := (blk_cell BK111.out 7).trans rfl; have hfz9_0 := blk_frozen BK111.out 0; have hfz9_1 := blk_frozen BK111.out 1; have hfz9_2 := blk_frozen BK111.out 2; have hfz9_3 := blk_frozen BK111.out 3; have hfz9_4 := blk_frozen BK111.out 4; have hfz9_5 := blk_frozen BK111.out 5; have hfz9_6 := blk_frozen BK111.out 6; have hfz9_7 := blk_frozen BK111.out 7; have hcz10_0 : w6.cell? ⟨gb109, 0, none⟩ = some (.int .u32 a0_0) := (blk_cell BK109.out 0).trans rfl; have hcz10_1 : w6.cell? ⟨gb109, 1, none⟩ = some (.int .u64 a0_1) := (blk_cell BK109.out 1).trans rfl; have hcz10_2 : w6.cell? ⟨gb109, 2, none⟩ = some (.int .u32 a0_2) := (blk_cell BK109.out 2).trans rfl; have hcz10_3 : w6.cell? ⟨gb109, 3, none⟩ = some (.int .u32 a0_3) := (blk_cell BK109.out 3).trans rfl; have hcz10_4 : w6.cell? ⟨gb109, 4, none⟩ = some (.int .u32 a0_4) := (blk_cell BK109.out 4).trans rfl; have hcz10_5 : w6.cell? ⟨gb109, 5, none⟩ = some (.int .u32 a0_5) := (blk_cell BK109.out 5).trans rfl; have hcz10_6 : w6.cell? ⟨gb109, 6, none⟩ = some (.int .u32 a0_6) := (blk_cell BK109.out 6).trans rfl; have hcz10_7 : w6.cell? ⟨gb109, 7, none⟩ = some (.slice A0_7 l0_7.length c0_7) := (blk_cell BK109.out 7).trans rfl; have hfz10_0 := blk_frozen BK109.out 0; have hfz10_1 := blk_frozen BK109.out 1; have hfz10_2 := blk_frozen BK109.out 2; have hfz10_3 := blk_frozen BK109.out 3; have hfz10_4 := blk_frozen BK109.out 4; have hfz10_5 := blk_frozen BK109.out 5; have hfz10_6 := blk_frozen BK109.out 6; have hfz10_7 := blk_frozen BK109.out 7))
  go_loopg [24] k (fun kq v24 w' => ∃ (x24_1 : Int) (x112007_1 : List (S89)) (u112007 : Value), v24 = .int .i64 x24_1 ∧ Aside0 (impl_told.l0 kq l0_7 (l0_7.length : Int) x24_1 a0_0 a0_1 a0_2 a0_3 a0_4 a0_5 a0_6 x112007_1 = some (r1, r2, r3, r4, r5, r6, r7, r8)) ∧ Aside0 (kq ≤ k) ∧ Aside0 (Kd.R k89 89 w' w.heap.size (fun _ => True) u112007 x112007_1) ∧ Aside0 (w'.heap[gb109]? = some (.cells #[.int .u32 a0_0, .int .u64 a0_1, .int .u32 a0_2, .int .u32 a0_3, .int .u32 a0_4, .int .u32 a0_5, .int .u32 a0_6, (.slice A0_7 l0_7.length c0_7)] 139 (0, 0))) ∧ Aside0 (w'.heap[gb110]? = some (.cells #[.int .u32 0, .int .u64 0, .int .u32 0, .int .u32 0, .int .u32 0, .int .u32 0, .int .u32 0, (.slice none 0 0)] 26 (0, 0))) ∧ Aside0 (w'.heap[gb111]? = some (.cells #[.int .u32 a0_0, .int .u64 a0_1, .int .u32 a0_2, .int .u32 a0_3, .int .u32 a0_4, .int .u32 a0_5, .int .u32 a0_6, u112007] 26 (0, 0))) ∧ Aside0 (Below w.heap.size w w'))
  case atStart => exact ⟨(0), (([] : List (S89))), (.slice none 0 0), (by first | rfl | (simp; done) | (simp [*]; done)), H', ⟨Nat.le_refl _⟩, ⟨by first | exact Kd.R_nil _ _ _ _ _ | exact Kd.N_nil _ _ _ _ _ | exact Kd.V_nil _ _ _ _ _ | exact Kd.Q_nil _ _ _ _ _ | exact Kd.S_nil _ _ _ _ _⟩, ⟨by (with_reducible repeat (first | refine blk_drewN ?_ _ | refine blk_drew ?_ | refine blk_alloc ?_ _)); refine blk_far ?_ NB109_111.out _; (with_reducible repeat (first | refine blk_drewN ?_ _ | refine blk_drew ?_ | refine blk_alloc ?_ _)); refine blk_far ?_ NB109_111.out _; (with_reducible repeat (first | refine blk_drewN ?_ _ | refine blk_drew ?_ | refine blk_alloc ?_ _)); refine blk_far ?_ NB109_111.out _; (with_reducible repeat (first | refine blk_drewN ?_ _ | refine blk_drew ?_ | refine blk_alloc ?_ _)); refine blk_far ?_ NB109_111.out _; (with_reducible repeat (first | refine blk_drewN ?_ _ | refine blk_drew ?_ | refine blk_alloc ?_ _)); refine blk_far ?_ NB109_111.out _; (with_reducible repeat (first | refine blk_drewN ?_ _ | refine blk_drew ?_ | refine blk_alloc ?_ _)); refine blk_far ?_ NB109_111.out _; (with_reducible repeat (first | refine blk_drewN ?_ _ | refine blk_drew ?_ | refine blk_alloc ?_ _)); refine blk_far ?_ NB109_111.out _; (with_reducible repeat (first | refine blk_drewN ?_ _ | refine blk_drew ?_ | refine blk_alloc ?_ _)); refine blk_far ?_ NB109_111.out _; (with_reducible repeat (first | refine blk_drewN ?_ _ | refine blk_drew ?_ | refine blk_alloc ?_ _)); exact BK109.out⟩, ⟨by (with_reducible repeat (first | refine blk_drewN ?_ _ | refine blk_drew ?_ | refine blk_alloc ?_ _)); refine blk_far ?_ NB110_111.out _; (with_reducible repeat (first | refine blk_drewN ?_ _ | refine blk_drew ?_ | refine blk_alloc ?_ _)); refine blk_far ?_ NB110_111.out _; (with_reducible repeat (first | refine blk_drewN ?_ _ | refine blk_drew ?_ | refine blk_alloc ?_ _)); refine blk_far ?_ NB110_111.out _; (with_reducible repeat (first | refine blk_drewN ?_ _ | refine blk_drew ?_ | refine blk_alloc ?_ _)); refine blk_far ?_ NB110_111.out _; (with_reducible repeat (first | refine blk_drewN ?_ _ | refine blk_drew ?_ | refine blk_alloc ?_ _)); refine blk_far ?_ NB110_111.out _; (with_reducible repeat (first | refine blk_drewN ?_ _ | refine blk_drew ?_ | refine blk_alloc ?_ _)); refine blk_far ?_ NB110_111.out _; (with_reducible repeat (first | refine blk_drewN ?_ _ | refine blk_drew ?_ | refine blk_alloc ?_ _)); refine blk_far ?_ NB110_111.out _; (with_reducible repeat (first | refine blk_drewN ?_ _ | refine blk_drew ?_ | refine blk_alloc ?_ _)); refine blk_far ?_ NB110_111.out _; (with_reducible repeat (first | refine blk_drewN ?_ _ | refine blk_drew ?_ | refine blk_alloc ?_ _)); exact BK110.out⟩, ⟨by (with_reducible repeat (first | refine blk_drewN ?_ _ | refine blk_drew ?_ | refine blk_alloc ?_ _)); refine blk_put (cs := #[.int .u32 a0_0, .int .u64 a0_1, .int .u32 a0_2, .int .u32 a0_3, .int .u32 a0_4, .int .u32 a0_5, .int .u32 a0_6, .slice none 0 0]) ?_ 7 _ rfl; (with_reducible repeat (first | refine blk_drewN ?_ _ | refine blk_drew ?_ | refine blk_alloc ?_ _)); refine blk_put (cs := #[.int .u32 a0_0, .int .u64 a0_1, .int .u32 a0_2, .int .u32 a0_3, .int .u32 a0_4, .int .u32 a0_5, .int .u32 0, .slice none 0 0]) ?_ 6 _ rfl; (with_reducible repeat (first | refine blk_drewN ?_ _ | refine blk_drew ?_ | refine blk_alloc ?_ _)); refine blk_put (cs := #[.int .u32 a0_0, .int .u64 a0_1, .int .u32 a0_2, .int .u32 a0_3, .int .u32 a0_4, .int .u32 0, .int .u32 0, .slice none 0 0]) ?_ 5 _ rfl; (with_reducible repeat (first | refine blk_drewN ?_ _ | refine blk_drew ?_ | refine blk_alloc ?_ _)); refine blk_put (cs := #[.int .u32 a0_0, .int .u64 a0_1, .int .u32 a0_2, .int .u32 a0_3, .int .u32 0, .int .u32 0, .int .u32 0, .slice none 0 0]) ?_ 4 _ rfl; (with_reducible repeat (first | refine blk_drewN ?_ _ | refine blk_drew ?_ | refine blk_alloc ?_ _)); refine blk_put (cs := #[.int .u32 a0_0, .int .u64 a0_1, .int .u32 a0_2, .int .u32 0, .int .u32 0, .int .u32 0, .int .u32 0, .slice none 0 0]) ?_ 3 _ rfl; (with_reducible repeat (first | refine blk_drewN ?_ _ | refine blk_drew ?_ | refine blk_alloc ?_ _)); refine blk_put (cs := #[.int .u32 a0_0, .int .u64 a0_1, .int .u32 0, .int .u32 0, .int .u32 0, .int .u32 0, .int .u32 0, .slice none 0 0]) ?_ 2 _ rfl; (with_reducible repeat (first | refine blk_drewN ?_ _ | refine blk_drew ?_ | refine blk_alloc ?_ _)); refine blk_put (cs := #[.int .u32 a0_0, .int .u64 0, .int .u32 0, .int .u32 0, .int .u32 0, .int .u32 0, .int .u32 0, .slice none 0 0]) ?_ 1 _ rfl; (with_reducible repeat (first | refine blk_drewN ?_ _ | refine blk_drew ?_ | refine blk_alloc ?_ _)); refine blk_put (cs := #[.int .u32 0, .int .u64 0, .int .u32 0, .int .u32 0, .int .u32 0, .int .u32 0, .int .u32 0, .slice none 0 0]) ?_ 0 _ rfl; (with_reducible repeat (first | refine blk_drewN ?_ _ | refine blk_drew ?_ | refine blk_alloc ?_ _)); exact BK111.out⟩, ⟨by repeat (first | (with_reducible first | exact HB.out | apply below_alloc | apply pw_below_drewN | apply below_drew1 | refine below_set ?_ GE109.out | refine below_set ?_ GE110.out | refine below_set ?_ GE111.out) | exact HB.out)⟩⟩
  case round =>
    clear H'
    try clear p2
    try clear c4
    try clear c7
    try clear c8
    try clear hcz10_0
    try clear hcz10_1
    try clear hcz10_2
    try clear hcz10_3
    try clear hcz10_4
    try clear hcz10_5
    try clear hcz10_6
    try clear hcz10_7
    try clear hcz5_0
    try clear hcz5_1
    try clear hcz5_2
    try clear hcz5_3
    try clear hcz5_4
    try clear hcz5_5
    try clear hcz5_6
    try clear hcz5_7
    try clear hcz9_0
    try clear hcz9_1
    try clear hcz9_2
    try clear hcz9_3
    try clear hcz9_4
    try clear hcz9_5
    try clear hcz9_6
    try clear hcz9_7
    try clear hfz10_0
    try clear hfz10_1
    try clear hfz10_2
    try clear hfz10_3
    try clear hfz10_4
    try clear hfz10_5
    try clear hfz10_6
    try clear hfz10_7
    try clear hfz5_0
    try clear hfz5_1
    try clear hfz5_2
    try clear hfz5_3
    try clear hfz5_4
    try clear hfz5_5
    try clear hfz5_6
    try clear hfz5_7
    try clear hfz9_0
    try clear hfz9_1
    try clear hfz9_2
    try clear hfz9_3
    try clear hfz9_4
    try clear hfz9_5
    try clear hfz9_6
    try clear hfz9_7
    obtain ⟨x24_1, x112007_1, u112007, rfl, HA, HK1, HO_112007, BK109, BK110, BK111, HB⟩ := hrel
    cases gk with
    | zero => exact absurd HA.out (by simp [impl_told.l0])
    | succ k1 =>
      have H := HA.out
      clear HA
      simp only [impl_told.l0] at H
      by_cases c11 : x24_1 < (l0_7.length : Int)
      · rw [if_pos c11] at H
        have c11b0 : decide (x24_1 < (l0_7.length : Int)) = true := decide_eq_true c11
        clear c11
        by_cases c12 : 0 ≤ x24_1
        · rw [if_pos c12] at H
          have c12b0 : decide (0 ≤ x24_1) = true := decide_eq_true c12
          clear c12
          by_cases c13 : x24_1 < (l0_7.length : Int)
          · rw [if_pos c13] at H
            have c13b0 : decide (x24_1 < (l0_7.length : Int)) = true := decide_eq_true c13
            clear c13
            by_cases c14 : x112007_1.length < 4398046511104
            · rw [if_pos c14] at H
              have LMc14 := Aside0.mk c14
              clear c14
              obtain ⟨y114, hy114⟩ : ∃ y_ : List (S89), y_ = (x112007_1 ++ [(⟨(rd_T266 l0_7 x24_1).f0, (rd_T266 l0_7 x24_1).f1⟩ : S89)]) := ⟨_, rfl⟩
              replace H : (impl_told.l0 k1 l0_7 (l0_7.length : Int) (wrap64 (x24_1 + 1)) a0_0 a0_1 a0_2 a0_3 a0_4 a0_5 a0_6 y114) = some (r1, r2, r3, r4, r5, r6, r7, r8) := by first | (rw [hy114]; with_reducible exact H) | (have H2_ := (Option.bind_some _ _).symm.trans H; rw [hy114]; with_reducible exact H2_) | (have H2_ := (Option.bind_some _ _).symm.trans H; with_reducible exact H2_) | with_reducible exact H | (rw [hy114]; exact H) | exact H
              have Ny114 := Aside0.mk hy114
              clear hy114
              have H' := Aside0.mk H
              clear H
              have p112 : 0 ≤ (x24_1 : Int) := of_decide_eq_true (by first | (with_reducible assumption) | assumption)
              have q112 : x24_1 < (l0_7.length : Int) := of_decide_eq_true (by first | (with_reducible assumption) | assumption)
              obtain ⟨ad112, e112, hx112_0, hx112_1⟩ := at_T266 HR0_7.out x24_1 p112 q112
              cases e112
              replace hx112_0 := (HB.out.cell (World.block_lt_of_cell? w _ hx112_0)).trans hx112_0
              replace hx112_1 := (HB.out.cell (World.block_lt_of_cell? w _ hx112_1)).trans hx112_1
              replace p112 := eq_true p112
              replace q112 := eq_true q112
              go_wp2_with (first | ((with_reducible refine gate_dst (N := 5) rfl ?_); refine box_event ?hg (N := 5) ?hd (cs := #[.string (⟨#[]⟩ : ByteArray), .string (⟨#[]⟩ : ByteArray)]) (t := 266) ?hr ?_; (case hd => rfl); (case hg => rfl); (case hr => first | (go_simp; done) | (go_simp; rfl)); intro gb113 hg w15 hbox hb; have n0_ := Aside0.mk (Kd.R_below (by (with_reducible repeat (first | apply Kd.R_alloc | apply Kd.R_drewN | apply Kd.R_drew)); exact HO_112007.out) hb); have n1_ := Aside0.mk (blk_below (g := gb109) (o := .cells #[.int .u32 a0_0, .int .u64 a0_1, .int .u32 a0_2, .int .u32 a0_3, .int .u32 a0_4, .int .u32 a0_5, .int .u32 a0_6, .slice (some ad112) l0_7.length c0_7] 139 (0, 0)) (by (with_reducible repeat (first | refine blk_drewN ?_ _ | refine blk_drew ?_ | refine blk_alloc ?_ _)); exact BK109.out) hb); have n2_ := Aside0.mk (blk_below (g := gb110) (o := .cells #[.int .u32 0, .int .u64 0, .int .u32 0, .int .u32 0, .int .u32 0, .int .u32 0, .int .u32 0, .slice none 0 0] 26 (0, 0)) (by (with_reducible repeat (first | refine blk_drewN ?_ _ | refine blk_drew ?_ | refine blk_alloc ?_ _)); exact BK110.out) hb); have n3_ := Aside0.mk (blk_below (g := gb111) (o := .cells #[.int .u32 a0_0, .int .u64 a0_1, .int .u32 a0_2, .int .u32 a0_3, .int .u32 a0_4, .int .u32 a0_5, .int .u32 a0_6, u112007] 26 (0, 0)) (by (with_reducible repeat (first | refine blk_drewN ?_ _ | refine blk_drew ?_ | refine blk_alloc ?_ _)); exact BK111.out) hb); have n4_ := Aside0.mk (below_step (by repeat (first | (with_reducible first | exact HB.out | apply below_alloc | apply pw_below_drewN | apply below_drew1 | refine below_set ?_ GE109.out | refine below_set ?_ GE110.out | refine below_set ?_ GE111.out) | exact HB.out)) hb); have n5_ := Aside0.mk (hbox); have n6_ := Aside0.mk ((by rw [hg]; exact (below_size (by repeat (first | (with_reducible first | exact HB.out | apply below_alloc | apply pw_below_drewN | apply below_drew1 | refine below_set ?_ GE109.out | refine below_set ?_ GE110.out | refine below_set ?_ GE111.out) | exact HB.out))) : w.heap.size ≤ gb113)); have n7_ := Aside0.mk ((by rw [hg]; exact (below_size (by repeat (first | (with_reducible first | exact HB.out | apply below_alloc | apply pw_below_drewN | apply below_drew1 | refine below_set ?_ GE109.out | refine below_set ?_ GE110.out | refine below_set ?_ GE111.out) | exact HB.out))) : w.heap.size ≤ gb113)); have n8_ := Aside0.mk ((by rw [hg]; exact Nat.ne_of_lt (blk_lt (g := gb109) (o := .cells #[.int .u32 a0_0, .int .u64 a0_1, .int .u32 a0_2, .int .u32 a0_3, .int .u32 a0_4, .int .u32 a0_5, .int .u32 a0_6, .slice (some ad112) l0_7.length c0_7] 139 (0, 0)) (by (with_reducible repeat (first | refine blk_drewN ?_ _ | refine blk_drew ?_ | refine blk_alloc ?_ _)); exact BK109.out)) : gb109 ≠ gb113)); have n9_ := Aside0.mk ((by rw [hg]; exact Nat.ne_of_gt (blk_lt (g := gb109) (o := .cells #[.int .u32 a0_0, .int .u64 a0_1, .int .u32 a0_2, .int .u32 a0_3, .int .u32 a0_4, .int .u32 a0_5, .int .u32 a0_6, .slice (some ad112) l0_7.length c0_7] 139 (0, 0)) (by (with_reducible repeat (first | refine blk_drewN ?_ _ | refine blk_drew ?_ | refine blk_alloc ?_ _)); exact BK109.out)) : gb113 ≠ gb109)); have n10_ := Aside0.mk ((by rw [hg]; exact Nat.ne_of_lt (blk_lt (g := gb110) (o := .cells #[.int .u32 0, .int .u64 0, .int .u32 0, .int .u32 0, .int .u32 0, .int .u32 0, .int .u32 0, .slice none 0 0] 26 (0, 0)) (by (with_reducible repeat (first | refine blk_drewN ?_ _ | refine blk_drew ?_ | refine blk_alloc ?_ _)); exact BK110.out)) : gb110 ≠ gb113)); have n11_ := Aside0.mk ((by rw [hg]; exact Nat.ne_of_gt (blk_lt (g := gb110) (o := .cells #[.int .u32 0, .int .u64 0, .int .u32 0, .int .u32 0, .int .u32 0, .int .u32 0, .int .u32 0, .slice none 0 0] 26 (0, 0)) (by (with_reducible repeat (first | refine blk_drewN ?_ _ | refine blk_drew ?_ | refine blk_alloc ?_ _)); exact BK110.out)) : gb113 ≠ gb110)); have n12_ := Aside0.mk ((by rw [hg]; exact Nat.ne_of_lt (blk_lt (g := gb111) (o := .cells #[.int .u32 a0_0, .int .u64 a0_1, .int .u32 a0_2, .int .u32 a0_3, .int .u32 a0_4, .int .u32 a0_5, .int .u32 a0_6, u112007] 26 (0, 0)) (by (with_reducible repeat (first | refine blk_drewN ?_ _ | refine blk_drew ?_ | refine blk_alloc ?_ _)); exact BK111.out)) : gb111 ≠ gb113)); have n13_ := Aside0.mk ((by rw [hg]; exact Nat.ne_of_gt (blk_lt (g := gb111) (o := .cells #[.int .u32 a0_0, .int .u64 a0_1, .int .u32 a0_2, .int .u32 a0_3, .int .u32 a0_4, .int .u32 a0_5, .int .u32 a0_6, u112007] 26 (0, 0)) (by (with_reducible repeat (first | refine blk_drewN ?_ _ | refine blk_drew ?_ | refine blk_alloc ?_ _)); exact BK111.out)) : gb113 ≠ gb111)); clear HO_112007; clear BK109; clear BK110; clear BK111; clear HB; have HO_112007 := n0_; have BK109 := n1_; have BK110 := n2_; have BK111 := n3_; have HB := n4_; have BK113 := n5_; have GW113 := n6_; have GE113 := n7_; have NB109_113 := n8_; have NB113_109 := n9_; have NB110_113 := n10_; have NB113_110 := n11_; have NB111_113 := n12_; have NB113_111 := n13_; clear n0_ n1_ n2_ n3_ n4_ n5_ n6_ n7_ n8_ n9_ n10_ n11_ n12_ n13_; clear hb hbox hg; have hnb16 := NB113_109.out; have hnc16 := NB109_113.out; have hnb17 := NB113_110.out; have hnc17 := NB110_113.out; have hnb18 := NB113_111.out; have hnc18 := NB111_113.out; have hcz19_0 : w15.cell? ⟨gb113, 0, none⟩ = some (.string (⟨#[]⟩ : ByteArray)) := (blk_cell BK113.out 0).trans rfl; have hcz19_1 : w15.cell? ⟨gb113, 1, none⟩ = some (.string (⟨#[]⟩ : ByteArray)) := (blk_cell BK113.out 1).trans rfl; have hfz19_0 := blk_frozen BK113.out 0; have hfz19_1 := blk_frozen BK113.out 1; have hnb20 := NB111_109.out; have hnc20 := NB109_111.out; have hnb21 := NB111_110.out; have hnc21 := NB110_111.out; have hcz22_0 : w15.cell? ⟨gb111, 0, none⟩ = some (.int .u32 a0_0) := (blk_cell BK111.out 0).trans rfl; have hcz22_1 : w15.cell? ⟨gb111, 1, none⟩ = some (.int .u64 a0_1) := (blk_cell BK111.out 1).trans rfl; have hcz22_2 : w15.cell? ⟨gb111, 2, none⟩ = some (.int .u32 a0_2) := (blk_cell BK111.out 2).trans rfl; have hcz22_3 : w15.cell? ⟨gb111, 3, none⟩ = some (.int .u32 a0_3) := (blk_cell BK111.out 3).trans rfl; have hcz22_4 : w15.cell? ⟨gb111, 4, none⟩ = some (.int .u32 a0_4) := (blk_cell BK111.out 4).trans rfl; have hcz22_5 : w15.cell? ⟨gb111, 5, none⟩ = some (.int .u32 a0_5) := (blk_cell BK111.out 5).trans rfl; have hcz22_6 : w15.cell? ⟨gb111, 6, none⟩ = some (.int .u32 a0_6) := (blk_cell BK111.out 6).trans rfl; have hcz22_7 : w15.cell? ⟨gb111, 7, none⟩ = some (u112007) := (blk_cell BK111.out 7).trans rfl; have hfz22_0 := blk_frozen BK111.out 0; have hfz22_1 := blk_frozen BK111.out 1; have hfz22_2 := blk_frozen BK111.out 2; have hfz22_3 := blk_frozen BK111.out 3; have hfz22_4 := blk_frozen BK111.out 4; have hfz22_5 := blk_frozen BK111.out 5; have hfz22_6 := blk_frozen BK111.out 6; have hfz22_7 := blk_frozen BK111.out 7) | ((with_reducible refine gate_builtin (b := .append) (xs := #[.tmp 29, .tmp 35]) rfl ?_); at_builtin; refine Kd.R_append k89 (w0 := w) w.heap.size rfl (.tmp 29) (.tmp 35) 24 89 (.agg #[(.string ⟨#[]⟩), (.string ⟨#[]⟩)]) 32 rfl Tryz.underlying24 info89 rfl (by decide) (by omega) u112007 x112007_1 (⟨(rd_T266 l0_7 x24_1).f0, (rd_T266 l0_7 x24_1).f1⟩ : S89) [.string ((rd_T266 l0_7 x24_1).f0), .string ((rd_T266 l0_7 x24_1).f1)] (fun _ => True) (fun _ => False) rfl (by first | (go_simp; done) | (go_simp; rfl)) ?aP (fun _ hk => hk.elim) ?aF ?aO ?aB ?aS ?aL ?_; (case aP => exact k89_mkM _ _ _ (⟨(rd_T266 l0_7 x24_1).f0, (rd_T266 l0_7 x24_1).f1⟩ : S89)); (case aB => exact (by repeat (first | (with_reducible first | exact HB.out | apply below_alloc | apply pw_below_drewN | apply below_drew1 | refine below_set ?_ GE109.out | refine below_set ?_ GE110.out | refine below_set ?_ GE111.out | refine below_set ?_ GE113.out) | exact HB.out))); (case aF => exact (fun _ _ => trivial)); (case aO => exact (by (with_reducible repeat (first | apply Kd.R_alloc | apply Kd.R_drewN | apply Kd.R_drew)); exact Kd.R_mono (Kd.R_far (p := ⟨gb113, 1, none⟩) (Kd.R_far (p := ⟨gb113, 0, none⟩) (Kd.R_types HO_112007.out BK113.out (by decide)) (fun _ hk => hk.2) (.string ((rd_T266 l0_7 x24_1).f0))) (fun _ hk => hk.2) (.string ((rd_T266 l0_7 x24_1).f1))) (fun _ hk => trivial))); (case aS => exact (below_size (by repeat (first | (with_reducible first | exact HB.out | apply below_alloc | apply pw_below_drewN | apply below_drew1 | refine below_set ?_ GE109.out | refine below_set ?_ GE110.out | refine below_set ?_ GE111.out | refine below_set ?_ GE113.out) | exact HB.out)))); (case aL => have := LMc14.out; omega); intro v115 w23 ho hb hg hat; rw [← Ny114.out] at ho; have n0_ := Aside0.mk (blk_grown (g := gb109) (o := .cells #[.int .u32 a0_0, .int .u64 a0_1, .int .u32 a0_2, .int .u32 a0_3, .int .u32 a0_4, .int .u32 a0_5, .int .u32 a0_6, .slice (some ad112) l0_7.length c0_7] 139 (0, 0)) (by (with_reducible repeat (first | refine blk_drewN ?_ _ | refine blk_drew ?_ | refine blk_alloc ?_ _)); refine blk_far ?_ NB109_113.out _; (with_reducible repeat (first | refine blk_drewN ?_ _ | refine blk_drew ?_ | refine blk_alloc ?_ _)); refine blk_far ?_ NB109_113.out _; (with_reducible repeat (first | refine blk_drewN ?_ _ | refine blk_drew ?_ | refine blk_alloc ?_ _)); exact BK109.out) hg (Kd.R_ne HO_112007.out BK109.out (by decide))); have n1_ := Aside0.mk (blk_grown (g := gb110) (o := .cells #[.int .u32 0, .int .u64 0, .int .u32 0, .int .u32 0, .int .u32 0, .int .u32 0, .int .u32 0, .slice none 0 0] 26 (0, 0)) (by (with_reducible repeat (first | refine blk_drewN ?_ _ | refine blk_drew ?_ | refine blk_alloc ?_ _)); refine blk_far ?_ NB110_113.out _; (with_reducible repeat (first | refine blk_drewN ?_ _ | refine blk_drew ?_ | refine blk_alloc ?_ _)); refine blk_far ?_ NB110_113.out _; (with_reducible repeat (first | refine blk_drewN ?_ _ | refine blk_drew ?_ | refine blk_alloc ?_ _)); exact BK110.out) hg (Kd.R_ne HO_112007.out BK110.out (by decide))); have n2_ := Aside0.mk (blk_grown (g := gb111) (o := .cells #[.int .u32 a0_0, .int .u64 a0_1, .int .u32 a0_2, .int .u32 a0_3, .int .u32 a0_4, .int .u32 a0_5, .int .u32 a0_6, u112007] 26 (0, 0)) (by (with_reducible repeat (first | refine blk_drewN ?_ _ | refine blk_drew ?_ | refine blk_alloc ?_ _)); refine blk_far ?_ NB111_113.out _; (with_reducible repeat (first | refine blk_drewN ?_ _ | refine blk_drew ?_ | refine blk_alloc ?_ _)); refine blk_far ?_ NB111_113.out _; (with_reducible repeat (first | refine blk_drewN ?_ _ | refine blk_drew ?_ | refine blk_alloc ?_ _)); exact BK111.out) hg (Kd.R_ne HO_112007.out BK111.out (by decide))); have n3_ := Aside0.mk (blk_grown (g := gb113) (o := .cells #[.string ((rd_T266 l0_7 x24_1).f0), .string ((rd_T266 l0_7 x24_1).f1)] 266 (0, 0)) (by (with_reducible repeat (first | refine blk_drewN ?_ _ | refine blk_drew ?_ | refine blk_alloc ?_ _)); refine blk_put (cs := #[.string ((rd_T266 l0_7 x24_1).f0), .string (⟨#[]⟩ : ByteArray)]) ?_ 1 _ rfl; (with_reducible repeat (first | refine blk_drewN ?_ _ | refine blk_drew ?_ | refine blk_alloc ?_ _)); refine blk_put (cs := #[.string (⟨#[]⟩ : ByteArray), .string (⟨#[]⟩ : ByteArray)]) ?_ 0 _ rfl; (with_reducible repeat (first | refine blk_drewN ?_ _ | refine blk_drew ?_ | refine blk_alloc ?_ _)); exact BK113.out) hg (Kd.R_ne HO_112007.out BK113.out (by decide))); have n4_ := Aside0.mk (hb); have n5_ := Aside0.mk (ho); clear BK109; clear BK110; clear BK111; clear BK113; clear HB; clear HO_112007; have BK109 := n0_; have BK110 := n1_; have BK111 := n2_; have BK113 := n3_; have HB := n4_; have HO116 := n5_; clear n0_ n1_ n2_ n3_ n4_ n5_; clear ho hb hg hat; obtain ⟨Ao24, co24, eo24⟩ := Kd.R_slice HO116.out; subst eo24; have hcz25_0 : w23.cell? ⟨gb111, 0, none⟩ = some (.int .u32 a0_0) := (blk_cell BK111.out 0).trans rfl; have hcz25_1 : w23.cell? ⟨gb111, 1, none⟩ = some (.int .u64 a0_1) := (blk_cell BK111.out 1).trans rfl; have hcz25_2 : w23.cell? ⟨gb111, 2, none⟩ = some (.int .u32 a0_2) := (blk_cell BK111.out 2).trans rfl; have hcz25_3 : w23.cell? ⟨gb111, 3, none⟩ = some (.int .u32 a0_3) := (blk_cell BK111.out 3).trans rfl; have hcz25_4 : w23.cell? ⟨gb111, 4, none⟩ = some (.int .u32 a0_4) := (blk_cell BK111.out 4).trans rfl; have hcz25_5 : w23.cell? ⟨gb111, 5, none⟩ = some (.int .u32 a0_5) := (blk_cell BK111.out 5).trans rfl; have hcz25_6 : w23.cell? ⟨gb111, 6, none⟩ = some (.int .u32 a0_6) := (blk_cell BK111.out 6).trans rfl; have hcz25_7 : w23.cell? ⟨gb111, 7, none⟩ = some (u112007) := (blk_cell BK111.out 7).trans rfl; have hfz25_0 := blk_frozen BK111.out 0; have hfz25_1 := blk_frozen BK111.out 1; have hfz25_2 := blk_frozen BK111.out 2; have hfz25_3 := blk_frozen BK111.out 3; have hfz25_4 := blk_frozen BK111.out 4; have hfz25_5 := blk_frozen BK111.out 5; have hfz25_6 := blk_frozen BK111.out 6; have hfz25_7 := blk_frozen BK111.out 7))
              go_roundg k1
              case measure => have := HK1.out; omega
              case rel => exact ⟨(wrap64 (x24_1 + 1)), (y114), (.slice Ao24 y114.length co24), (by first | rfl | (simp; done) | (simp [*]; done)), H', ⟨by have := HK1.out; omega⟩, ⟨by (with_reducible repeat (first | apply Kd.R_alloc | apply Kd.R_drewN | apply Kd.R_drew)); exact Kd.R_mono (Kd.R_far (p := ⟨gb111, 7, none⟩) (Kd.R_types HO116.out BK111.out (by decide)) (fun _ hk => hk.2) (.slice Ao24 y114.length co24)) (fun _ hk => trivial)⟩, ⟨by (with_reducible repeat (first | refine blk_drewN ?_ _ | refine blk_drew ?_ | refine blk_alloc ?_ _)); refine blk_far ?_ NB109_111.out _; (with_reducible repeat (first | refine blk_drewN ?_ _ | refine blk_drew ?_ | refine blk_alloc ?_ _)); exact BK109.out⟩, ⟨by (with_reducible repeat (first | refine blk_drewN ?_ _ | refine blk_drew ?_ | refine blk_alloc ?_ _)); refine blk_far ?_ NB110_111.out _; (with_reducible repeat (first | refine blk_drewN ?_ _ | refine blk_drew ?_ | refine blk_alloc ?_ _)); exact BK110.out⟩, ⟨by (with_reducible repeat (first | refine blk_drewN ?_ _ | refine blk_drew ?_ | refine blk_alloc ?_ _)); refine blk_put (cs := #[.int .u32 a0_0, .int .u64 a0_1, .int .u32 a0_2, .int .u32 a0_3, .int .u32 a0_4, .int .u32 a0_5, .int .u32 a0_6, u112007]) ?_ 7 _ rfl; (with_reducible repeat (first | refine blk_drewN ?_ _ | refine blk_drew ?_ | refine blk_alloc ?_ _)); exact BK111.out⟩, ⟨by repeat (first | (with_reducible first | exact HB.out | apply below_alloc | apply pw_below_drewN | apply below_drew1 | refine below_set ?_ GE109.out | refine below_set ?_ GE110.out | refine below_set ?_ GE111.out | refine below_set ?_ GE113.out) | exact HB.out)⟩⟩
            · rw [if_neg c14] at H
              exact absurd H (by simp)
          · rw [if_neg c13] at H
            exact absurd H (by simp)
        · rw [if_neg c12] at H
          exact absurd H (by simp)
      · rw [if_neg c11] at H
        have c11b0 : decide (x24_1 < (l0_7.length : Int)) = false := decide_eq_false c11
        clear c11
        simp only [Option.some.injEq, Prod.mk.injEq] at H
        obtain ⟨rfl, rfl, rfl, rfl, rfl, rfl, rfl, rfl⟩ := H
        have hnb26 := NB111_109.out
        have hnc26 := NB109_111.out
        have hnb27 := NB111_110.out
        have hnc27 := NB110_111.out
        have hcz28_0 : wr.cell? ⟨gb111, 0, none⟩ = some (.int .u32 a0_0) := (blk_cell BK111.out 0).trans rfl
        have hcz28_1 : wr.cell? ⟨gb111, 1, none⟩ = some (.int .u64 a0_1) := (blk_cell BK111.out 1).trans rfl
        have hcz28_2 : wr.cell? ⟨gb111, 2, none⟩ = some (.int .u32 a0_2) := (blk_cell BK111.out 2).trans rfl
        have hcz28_3 : wr.cell? ⟨gb111, 3, none⟩ = some (.int .u32 a0_3) := (blk_cell BK111.out 3).trans rfl
        have hcz28_4 : wr.cell? ⟨gb111, 4, none⟩ = some (.int .u32 a0_4) := (blk_cell BK111.out 4).trans rfl
        have hcz28_5 : wr.cell? ⟨gb111, 5, none⟩ = some (.int .u32 a0_5) := (blk_cell BK111.out 5).trans rfl
        have hcz28_6 : wr.cell? ⟨gb111, 6, none⟩ = some (.int .u32 a0_6) := (blk_cell BK111.out 6).trans rfl
        have hcz28_7 : wr.cell? ⟨gb111, 7, none⟩ = some (u112007) := (blk_cell BK111.out 7).trans rfl
        have hfz28_0 := blk_frozen BK111.out 0
        have hfz28_1 := blk_frozen BK111.out 1
        have hfz28_2 := blk_frozen BK111.out 2
        have hfz28_3 := blk_frozen BK111.out 3
        have hfz28_4 := blk_frozen BK111.out 4
        have hfz28_5 := blk_frozen BK111.out 5
        have hfz28_6 := blk_frozen BK111.out 6
        have hfz28_7 := blk_frozen BK111.out 7
        have hnb29 := NB110_109.out
        have hnc29 := NB109_110.out
        have hcz30_0 : wr.cell? ⟨gb110, 0, none⟩ = some (.int .u32 0) := (blk_cell BK110.out 0).trans rfl
        have hcz30_1 : wr.cell? ⟨gb110, 1, none⟩ = some (.int .u64 0) := (blk_cell BK110.out 1).trans rfl
        have hcz30_2 : wr.cell? ⟨gb110, 2, none⟩ = some (.int .u32 0) := (blk_cell BK110.out 2).trans rfl
        have hcz30_3 : wr.cell? ⟨gb110, 3, none⟩ = some (.int .u32 0) := (blk_cell BK110.out 3).trans rfl
        have hcz30_4 : wr.cell? ⟨gb110, 4, none⟩ = some (.int .u32 0) := (blk_cell BK110.out 4).trans rfl
        have hcz30_5 : wr.cell? ⟨gb110, 5, none⟩ = some (.int .u32 0) := (blk_cell BK110.out 5).trans rfl
        have hcz30_6 : wr.cell? ⟨gb110, 6, none⟩ = some (.int .u32 0) := (blk_cell BK110.out 6).trans rfl
        have hcz30_7 : wr.cell? ⟨gb110, 7, none⟩ = some (.slice none 0 0) := (blk_cell BK110.out 7).trans rfl
        have hfz30_0 := blk_frozen BK110.out 0
        have hfz30_1 := blk_frozen BK110.out 1
        have hfz30_2 := blk_frozen BK110.out 2
        have hfz30_3 := blk_frozen BK110.out 3
        have hfz30_4 := blk_frozen BK110.out 4
        have hfz30_5 := blk_frozen BK110.out 5
        have hfz30_6 := blk_frozen BK110.out 6
        have hfz30_7 := blk_frozen BK110.out 7
        obtain ⟨Ao31, co31, eo31⟩ := Kd.R_slice HO_112007.out
        subst eo31
        go_wp2
        refine bodyPost_ret (results_cell_row rfl _ _ gb110 26 #[.int .u32 a0_0, .int .u64 a0_1, .int .u32 a0_2, .int .u32 a0_3, .int .u32 a0_4, .int .u32 a0_5, .int .u32 a0_6, .slice Ao31 x112007_1.length co31] (0, 0) _ rfl (by (with_reducible repeat (first | refine blk_drewN ?_ _ | refine blk_drew ?_ | refine blk_alloc ?_ _)); refine blk_put (cs := #[.int .u32 a0_0, .int .u64 a0_1, .int .u32 a0_2, .int .u32 a0_3, .int .u32 a0_4, .int .u32 a0_5, .int .u32 a0_6, .slice none 0 0]) ?_ 7 _ rfl; (with_reducible repeat (first | refine blk_drewN ?_ _ | refine blk_drew ?_ | refine blk_alloc ?_ _)); refine blk_put (cs := #[.int .u32 a0_0, .int .u64 a0_1, .int .u32 a0_2, .int .u32 a0_3, .int .u32 a0_4, .int .u32 a0_5, .int .u32 0, .slice none 0 0]) ?_ 6 _ rfl; (with_reducible repeat (first | refine blk_drewN ?_ _ | refine blk_drew ?_ | refine blk_alloc ?_ _)); refine blk_put (cs := #[.int .u32 a0_0, .int .u64 a0_1, .int .u32 a0_2, .int .u32 a0_3, .int .u32 a0_4, .int .u32 0, .int .u32 0, .slice none 0 0]) ?_ 5 _ rfl; (with_reducible repeat (first | refine blk_drewN ?_ _ | refine blk_drew ?_ | refine blk_alloc ?_ _)); refine blk_put (cs := #[.int .u32 a0_0, .int .u64 a0_1, .int .u32 a0_2, .int .u32 a0_3, .int .u32 0, .int .u32 0, .int .u32 0, .slice none 0 0]) ?_ 4 _ rfl; (with_reducible repeat (first | refine blk_drewN ?_ _ | refine blk_drew ?_ | refine blk_alloc ?_ _)); refine blk_put (cs := #[.int .u32 a0_0, .int .u64 a0_1, .int .u32 a0_2, .int .u32 0, .int .u32 0, .int .u32 0, .int .u32 0, .slice none 0 0]) ?_ 3 _ rfl; (with_reducible repeat (first | refine blk_drewN ?_ _ | refine blk_drew ?_ | refine blk_alloc ?_ _)); refine blk_put (cs := #[.int .u32 a0_0, .int .u64 a0_1, .int .u32 0, .int .u32 0, .int .u32 0, .int .u32 0, .int .u32 0, .slice none 0 0]) ?_ 2 _ rfl; (with_reducible repeat (first | refine blk_drewN ?_ _ | refine blk_drew ?_ | refine blk_alloc ?_ _)); refine blk_put (cs := #[.int .u32 a0_0, .int .u64 0, .int .u32 0, .int .u32 0, .int .u32 0, .int .u32 0, .int .u32 0, .slice none 0 0]) ?_ 1 _ rfl; (with_reducible repeat (first | refine blk_drewN ?_ _ | refine blk_drew ?_ | refine blk_alloc ?_ _)); refine blk_put (cs := #[.int .u32 0, .int .u64 0, .int .u32 0, .int .u32 0, .int .u32 0, .int .u32 0, .int .u32 0, .slice none 0 0]) ?_ 0 _ rfl; (with_reducible repeat (first | refine blk_drewN ?_ _ | refine blk_drew ?_ | refine blk_alloc ?_ _)); exact BK110.out) Tryz.underlying26 rfl (by kernel_rfl)) rfl ?_
        exact ⟨_, by first | rfl | (simp [errW_none, errW_some] <;> rfl) | (simp [*, errW_none, errW_some] <;> rfl), by (with_reducible repeat (first | apply Kd.R_alloc | apply Kd.R_drewN | apply Kd.R_drew)); exact Kd.R_mono (Kd.R_far (p := ⟨gb110, 7, none⟩) (Kd.R_far (p := ⟨gb110, 6, none⟩) (Kd.R_far (p := ⟨gb110, 5, none⟩) (Kd.R_far (p := ⟨gb110, 4, none⟩) (Kd.R_far (p := ⟨gb110, 3, none⟩) (Kd.R_far (p := ⟨gb110, 2, none⟩) (Kd.R_far (p := ⟨gb110, 1, none⟩) (Kd.R_far (p := ⟨gb110, 0, none⟩) (Kd.R_types HO_112007.out BK110.out (by decide)) (fun _ hk => hk.2) (.int .u32 a0_0)) (fun _ hk => hk.2) (.int .u64 a0_1)) (fun _ hk => hk.2) (.int .u32 a0_2)) (fun _ hk => hk.2) (.int .u32 a0_3)) (fun _ hk => hk.2) (.int .u32 a0_4)) (fun _ hk => hk.2) (.int .u32 a0_5)) (fun _ hk => hk.2) (.int .u32 a0_6)) (fun _ hk => hk.2) (.slice Ao31 x112007_1.length co31)) (fun _ hk => trivial), by repeat (first | (with_reducible first | exact HB.out | apply below_alloc | apply pw_below_drewN | apply below_drew1 | refine below_set ?_ GE109.out | refine below_set ?_ GE110.out | refine below_set ?_ GE111.out) | exact HB.out)⟩
end Go.Proofs.YtmenkckgpiafiaaGreat.PA
namespace Go.Proofs.YtmenkckgpiafiaaGreat.PE
open Go.Proofs.YtmenkckgpiafiaaGreat.KK Go.RowKit Go.Proofs.YtmenkckgpiafiaaGreatW.PrintWords Go.Proofs.YtmenkckgpiafiaaGreatW.PrintLast Go.Proofs.YtmenkckgpiafiaaGreatW.PrintMore
attribute [local go_sem] max2_int min2_int max_two min_two max_three min_three max_four min_four
set_option linter.unusedVariables false
set_option linter.unusedSimpArgs false
def errW : Option Int → Value
  | none => .nilIface
  | some c => .iface 0 (.int .i64 c)
theorem errW_none : errW none = .nilIface := rfl
theorem errW_some (c : Int) : errW (some c) = .iface 0 (.int .i64 c) := rfl
theorem info89 : (Tryz.prog.info? 89).map (fun i => (i.zero, i.size, i.bytes)) = some (some (.agg #[(.string ⟨#[]⟩), (.string ⟨#[]⟩)]), 2, 32) := by kernel_rfl
theorem info147 : (Tryz.prog.info? 147).map (fun i => (i.zero, i.size, i.bytes)) = some (some (.agg #[(.string ⟨#[]⟩), (.string ⟨#[]⟩)]), 2, 32) := by kernel_rfl
end Go.Proofs.YtmenkckgpiafiaaGreat.PE
namespace Go.Proofs.YtmenkckgpiafiaaGreat.PE
open Go.Proofs.YtmenkckgpiafiaaGreat.KK Go.RowKit Go.Proofs.YtmenkckgpiafiaaGreatW.PrintWords Go.Proofs.YtmenkckgpiafiaaGreatW.PrintLast Go.Proofs.YtmenkckgpiafiaaGreatW.PrintMore
attribute [local go_sem] max2_int min2_int max_two min_two max_three min_three max_four min_four
set_option linter.unusedVariables false
set_option linter.unusedSimpArgs false
def spec_extsPlain.l0 : Nat → List (S147) → Int → List (S147) → Int → Int → Option (Bool)
  | 0, _, _, _, _, _ => none
  | k + 1, x0, x3, x6, x7, x8 => if x8 < x7 then (if 0 ≤ x8 then (if x8 < (x6.length : Int) then (spec_extsPlain.l0 k x0 (wrap64 (x3 + (wrap64 ((((rd_T147 x6 x8).f0).size : Int) + (((rd_T147 x6 x8).f1).size : Int))))) x6 x7 (wrap64 (x8 + 1))) else (none)) else (none)) else (if (x0.length : Int) ≤ 1000 then (some (decide (x3 ≤ 30000))) else (some false))
def spec_extsPlain.f (k : Nat) (l0 : List (S147)) : Option (Bool) := spec_extsPlain.l0 k l0 0 l0 (l0.length : Int) 0
theorem spec_extsPlain.mono_l : ∀ k, (∀ y0 y1 y2 y3 y4, LeO (spec_extsPlain.l0 k y0 y1 y2 y3 y4) (spec_extsPlain.l0 (k + 1) y0 y1 y2 y3 y4))
  | 0 => fun _ _ _ _ _ r h => by simp [spec_extsPlain.l0] at h
  | k + 1 => by
    have ih0 := spec_extsPlain.mono_l k
    · intro y0 y1 y2 y3 y4
      unfold spec_extsPlain.l0
      repeat' first
      | (with_reducible exact ih0 _ _ _ _ _)
      | (with_reducible exact LeO.refl _)
      | (with_reducible exact LeO.none _)
      | (with_reducible refine LeO.ite ?_ ?_)
      | (with_reducible refine LeO.bind ?_ (fun _ => ?_))
      | exact ih0 _ _ _ _ _
      | exact LeO.none _
      | refine LeO.ite ?_ ?_
      | refine LeO.bind ?_ (fun _ => ?_)
theorem spec_extsPlain.mono : ∀ a0 k, LeO (spec_extsPlain.f k a0) (spec_extsPlain.f (k + 1) a0) := by
  intro a0 k
  have ih0 := spec_extsPlain.mono_l k
  unfold spec_extsPlain.f
  repeat' first
      | (with_reducible exact ih0 _ _ _ _ _)
      | (with_reducible exact LeO.refl _)
      | (with_reducible exact LeO.none _)
      | (with_reducible refine LeO.ite ?_ ?_)
      | (with_reducible refine LeO.bind ?_ (fun _ => ?_))
      | exact ih0 _ _ _ _ _
      | exact LeO.none _
      | refine LeO.ite ?_ ?_
      | refine LeO.bind ?_ (fun _ => ?_)
set_option maxHeartbeats 8000000 in
set_option maxRecDepth 100000 in
theorem spec_extsPlain.calls (k : Nat) (A0 : Option Addr) (c0 : Nat) (l0 : List (S147)) (r : Bool) (w : World) (hr0 : Kd.C k147 w A0 l0.length l0) (hc0 : l0.length ≤ c0) (h : spec_extsPlain.f k l0 = some r) :
    Calls Tryz.prog 121 #[.slice A0 l0.length c0] w fun e w' => e = .returned (.bool r) ∧ Below w.heap.size w w' := by
  have hu147 := Tryz.underlying147
  have HR0 := Aside0.mk hr0
  have HC0 := Aside0.mk hc0
  clear hr0 hc0
  have HB := Aside0.mk (Below.refl w.heap.size w)
  have H : (spec_extsPlain.l0 k l0 0 l0 (l0.length : Int) 0) = some r := h
  clear h
  have H' := Aside0.mk H
  clear H
  go_enter Tryz.func121, Tryz.ntmps121
  go_wp2
  go_loopg [3, 8] k (fun kq v3 v8 w' => ∃ (x3_1 : Int) (x8_1 : Int), v3 = .int .i64 x3_1 ∧ v8 = .int .i64 x8_1 ∧ Aside0 (spec_extsPlain.l0 kq l0 x3_1 l0 (l0.length : Int) x8_1 = some r) ∧ Aside0 (kq ≤ k) ∧ Aside0 (Below w.heap.size w w'))
  case atStart => exact ⟨(0), (0), (by first | rfl | (simp; done) | (simp [*]; done)), (by first | rfl | (simp; done) | (simp [*]; done)), H', ⟨Nat.le_refl _⟩, ⟨by repeat (first | (with_reducible first | exact HB.out | apply below_alloc | apply pw_below_drewN | apply below_drew1) | exact HB.out)⟩⟩
  case round =>
    clear H'
    try clear c1
    obtain ⟨x3_1, x8_1, rfl, rfl, HA, HK1, HB⟩ := hrel
    cases gk with
    | zero => exact absurd HA.out (by simp [spec_extsPlain.l0])
    | succ k1 =>
      have H := HA.out
      clear HA
      simp only [spec_extsPlain.l0] at H
      by_cases c2 : x8_1 < (l0.length : Int)
      · rw [if_pos c2] at H
        have c2b0 : decide (x8_1 < (l0.length : Int)) = true := decide_eq_true c2
        clear c2
        by_cases c3 : 0 ≤ x8_1
        · rw [if_pos c3] at H
          have c3b0 : decide (0 ≤ x8_1) = true := decide_eq_true c3
          clear c3
          by_cases c4 : x8_1 < (l0.length : Int)
          · rw [if_pos c4] at H
            have c4b0 : decide (x8_1 < (l0.length : Int)) = true := decide_eq_true c4
            clear c4
            have H' := Aside0.mk H
            clear H
            have p101 : 0 ≤ (x8_1 : Int) := of_decide_eq_true (by first | (with_reducible assumption) | assumption)
            have q101 : x8_1 < (l0.length : Int) := of_decide_eq_true (by first | (with_reducible assumption) | assumption)
            obtain ⟨ad101, e101, hx101_0, hx101_1⟩ := at_T147 HR0.out x8_1 p101 q101
            cases e101
            replace hx101_0 := (HB.out.cell (World.block_lt_of_cell? w _ hx101_0)).trans hx101_0
            replace hx101_1 := (HB.out.cell (World.block_lt_of_cell? w _ hx101_1)).trans hx101_1
            replace p101 := eq_true p101
            replace q101 := eq_true q101
            go_wp2_with (first | ((with_reducible refine gate_dst (N := 5) rfl ?_); refine box_event ?hg (N := 5) ?hd (cs := #[.string (⟨#[]⟩ : ByteArray), .string (⟨#[]⟩ : ByteArray)]) (t := 147) ?hr ?_; (case hd => rfl); (case hg => rfl); (case hr => first | (go_simp; done) | (go_simp; rfl)); intro gb102 hg w5 hbox hb; have n0_ := Aside0.mk (below_step (by repeat (first | (with_reducible first | exact HB.out | apply below_alloc | apply pw_below_drewN | apply below_drew1) | exact HB.out)) hb); have n1_ := Aside0.mk (hbox); have n2_ := Aside0.mk ((by rw [hg]; exact (below_size (by repeat (first | (with_reducible first | exact HB.out | apply below_alloc | apply pw_below_drewN | apply below_drew1) | exact HB.out))) : w.heap.size ≤ gb102)); have n3_ := Aside0.mk ((by rw [hg]; exact (below_size (by repeat (first | (with_reducible first | exact HB.out | apply below_alloc | apply pw_below_drewN | apply below_drew1) | exact HB.out))) : w.heap.size ≤ gb102)); clear HB; have HB := n0_; have BK102 := n1_; have GW102 := n2_; have GE102 := n3_; clear n0_ n1_ n2_ n3_; clear hb hbox hg; have hcz6_0 : w5.cell? ⟨gb102, 0, none⟩ = some (.string (⟨#[]⟩ : ByteArray)) := (blk_cell BK102.out 0).trans rfl; have hcz6_1 : w5.cell? ⟨gb102, 1, none⟩ = some (.string (⟨#[]⟩ : ByteArray)) := (blk_cell BK102.out 1).trans rfl; have hfz6_0 := blk_frozen BK102.out 0; have hfz6_1 := blk_frozen BK102.out 1))
            go_roundg k1
            case measure => have := HK1.out; omega
            case rel => exact ⟨(wrap64 (x3_1 + (wrap64 ((((rd_T147 l0 x8_1).f0).size : Int) + (((rd_T147 l0 x8_1).f1).size : Int))))), (wrap64 (x8_1 + 1)), (by first | rfl | (simp; done) | (simp [*]; done)), (by first | rfl | (simp; done) | (simp [*]; done)), H', ⟨by have := HK1.out; omega⟩, ⟨by repeat (first | (with_reducible first | exact HB.out | apply below_alloc | apply pw_below_drewN | apply below_drew1 | refine below_set ?_ GE102.out) | exact HB.out)⟩⟩
          · rw [if_neg c4] at H
            exact absurd H (by simp)
        · rw [if_neg c3] at H
          exact absurd H (by simp)
      · rw [if_neg c2] at H
        have c2b0 : decide (x8_1 < (l0.length : Int)) = false := decide_eq_false c2
        clear c2
        by_cases c7 : (l0.length : Int) ≤ 1000
        · rw [if_pos c7] at H
          have c7b0 : decide ((l0.length : Int) ≤ 1000) = true := decide_eq_true c7
          have c7b1 : decide (l0.length ≤ 1000) = true := decide_eq_true (by omega)
          clear c7
          obtain rfl := Option.some.inj H
          go_wp2
          go_ret
          exact ⟨by first | rfl | (simp [errW_none, errW_some] <;> rfl) | (simp [*, errW_none, errW_some] <;> rfl), by repeat (first | (with_reducible first | exact HB.out | apply below_alloc | apply pw_below_drewN | apply below_drew1) | exact HB.out)⟩
        · rw [if_neg c7] at H
          have c7b0 : decide ((l0.length : Int) ≤ 1000) = false := decide_eq_false c7
          have c7b1 : decide (l0.length ≤ 1000) = false := decide_eq_false (by omega)
          clear c7
          obtain rfl := Option.some.inj H
          go_wp2
          go_ret
          exact ⟨by first | rfl | (simp [errW_none, errW_some] <;> rfl) | (simp [*, errW_none, errW_some] <;> rfl), by repeat (first | (with_reducible first | exact HB.out | apply below_alloc | apply pw_below_drewN | apply below_drew1) | exact HB.out)⟩
def laws_specExts.l0 : Nat → List (S147) → List (S89) → Int → Int → Option ((List (S147)))
  | 0, _, _, _, _ => none
  | k + 1, x3, x6, x7, x8 => if x8 < x7 then (if 0 ≤ x8 then (if x8 < (x6.length : Int) then (if x3.length < 4398046511104 then (laws_specExts.l0 k (x3 ++ [(⟨(rd_T89 x6 x8).f0, (rd_T89 x6 x8).f1⟩ : S147)]) x6 x7 (wrap64 (x8 + 1))) else (none)) else (none)) else (none)) else (some x3)
def laws_specExts.f (k : Nat) (l0 : List (S89)) : Option ((List (S147))) := laws_specExts.l0 k ([] : List (S147)) l0 (l0.length : Int) 0
theorem laws_specExts.mono_l : ∀ k, (∀ y0 y1 y2 y3, LeO (laws_specExts.l0 k y0 y1 y2 y3) (laws_specExts.l0 (k + 1) y0 y1 y2 y3))
  | 0 => fun _ _ _ _ r h => by simp [laws_specExts.l0] at h
  | k + 1 => by
    have ih0 := laws_specExts.mono_l k
    · intro y0 y1 y2 y3
      unfold laws_specExts.l0
      repeat' first
      | (with_reducible exact ih0 _ _ _ _)
      | (with_reducible exact LeO.refl _)
      | (with_reducible exact LeO.none _)
      | (with_reducible refine LeO.ite ?_ ?_)
      | (with_reducible refine LeO.bind ?_ (fun _ => ?_))
      | exact ih0 _ _ _ _
      | exact LeO.none _
      | refine LeO.ite ?_ ?_
      | refine LeO.bind ?_ (fun _ => ?_)
theorem laws_specExts.mono : ∀ a0 k, LeO (laws_specExts.f k a0) (laws_specExts.f (k + 1) a0) := by
  intro a0 k
  have ih0 := laws_specExts.mono_l k
  unfold laws_specExts.f
  repeat' first
      | (with_reducible exact ih0 _ _ _ _)
      | (with_reducible exact LeO.refl _)
      | (with_reducible exact LeO.none _)
      | (with_reducible refine LeO.ite ?_ ?_)
      | (with_reducible refine LeO.bind ?_ (fun _ => ?_))
      | exact ih0 _ _ _ _
      | exact LeO.none _
      | refine LeO.ite ?_ ?_
      | refine LeO.bind ?_ (fun _ => ?_)
set_option maxHeartbeats 8000000 in
set_option maxRecDepth 100000 in
theorem laws_specExts.calls (k : Nat) (A0 : Option Addr) (c0 : Nat) (l0 : List (S89)) (r : List (S147)) (w : World) (hr0 : Kd.C k89 w A0 l0.length l0) (hc0 : l0.length ≤ c0) (h : laws_specExts.f k l0 = some r) :
    Calls Tryz.prog 67 #[.slice A0 l0.length c0] w fun e w' => ∃ v0_ : Value, e = .returned (v0_) ∧ Kd.R k147 147 w' w.heap.size (fun _ => True) v0_ r ∧ Below w.heap.size w w' := by
  have hu89 := Tryz.underlying89
  have HR0 := Aside0.mk hr0
  have HC0 := Aside0.mk hc0
  clear hr0 hc0
  have HB := Aside0.mk (Below.refl w.heap.size w)
  have H : (laws_specExts.l0 k ([] : List (S147)) l0 (l0.length : Int) 0) = some r := h
  clear h
  have H' := Aside0.mk H
  clear H
  go_enter Tryz.func67, Tryz.ntmps67
  go_wp2
  go_loopg [3, 8] k (fun kq v3 v8 w' => ∃ (x3_1 : List (S147)) (x8_1 : Int), v8 = .int .i64 x8_1 ∧ Aside0 (laws_specExts.l0 kq x3_1 l0 (l0.length : Int) x8_1 = some r) ∧ Aside0 (kq ≤ k) ∧ Aside0 (Kd.R k147 147 w' w.heap.size (fun _ => True) v3 x3_1) ∧ Aside0 (Below w.heap.size w w'))
  case atStart => exact ⟨(([] : List (S147))), (0), (by first | rfl | (simp; done) | (simp [*]; done)), H', ⟨Nat.le_refl _⟩, ⟨by first | exact Kd.R_nil _ _ _ _ _ | exact Kd.N_nil _ _ _ _ _ | exact Kd.V_nil _ _ _ _ _ | exact Kd.Q_nil _ _ _ _ _ | exact Kd.S_nil _ _ _ _ _⟩, ⟨by repeat (first | (with_reducible first | exact HB.out | apply below_alloc | apply pw_below_drewN | apply below_drew1) | exact HB.out)⟩⟩
  case round =>
    clear H'
    obtain ⟨x3_1, x8_1, rfl, HA, HK1, HO_3, HB⟩ := hrel
    cases gk with
    | zero => exact absurd HA.out (by simp [laws_specExts.l0])
    | succ k1 =>
      have H := HA.out
      clear HA
      simp only [laws_specExts.l0] at H
      by_cases c2 : x8_1 < (l0.length : Int)
      · rw [if_pos c2] at H
        have c2b0 : decide (x8_1 < (l0.length : Int)) = true := decide_eq_true c2
        clear c2
        by_cases c3 : 0 ≤ x8_1
        · rw [if_pos c3] at H
          have c3b0 : decide (0 ≤ x8_1) = true := decide_eq_true c3
          clear c3
          by_cases c4 : x8_1 < (l0.length : Int)
          · rw [if_pos c4] at H
            have c4b0 : decide (x8_1 < (l0.length : Int)) = true := decide_eq_true c4
            clear c4
            by_cases c5 : x3_1.length < 4398046511104
            · rw [if_pos c5] at H
              have LMc5 := Aside0.mk c5
              clear c5
              obtain ⟨y105, hy105⟩ : ∃ y_ : List (S147), y_ = (x3_1 ++ [(⟨(rd_T89 l0 x8_1).f0, (rd_T89 l0 x8_1).f1⟩ : S147)]) := ⟨_, rfl⟩
              replace H : (laws_specExts.l0 k1 y105 l0 (l0.length : Int) (wrap64 (x8_1 + 1))) = some r := by first | (rw [hy105]; with_reducible exact H) | (have H2_ := (Option.bind_some _ _).symm.trans H; rw [hy105]; with_reducible exact H2_) | (have H2_ := (Option.bind_some _ _).symm.trans H; with_reducible exact H2_) | with_reducible exact H | (rw [hy105]; exact H) | exact H
              have Ny105 := Aside0.mk hy105
              clear hy105
              have H' := Aside0.mk H
              clear H
              have p103 : 0 ≤ (x8_1 : Int) := of_decide_eq_true (by first | (with_reducible assumption) | assumption)
              have q103 : x8_1 < (l0.length : Int) := of_decide_eq_true (by first | (with_reducible assumption) | assumption)
              obtain ⟨ad103, e103, hx103_0, hx103_1⟩ := at_T89 HR0.out x8_1 p103 q103
              cases e103
              replace hx103_0 := (HB.out.cell (World.block_lt_of_cell? w _ hx103_0)).trans hx103_0
              replace hx103_1 := (HB.out.cell (World.block_lt_of_cell? w _ hx103_1)).trans hx103_1
              replace p103 := eq_true p103
              replace q103 := eq_true q103
              go_wp2_with (first | ((with_reducible refine gate_dst (N := 5) rfl ?_); refine box_event ?hg (N := 5) ?hd (cs := #[.string (⟨#[]⟩ : ByteArray), .string (⟨#[]⟩ : ByteArray)]) (t := 89) ?hr ?_; (case hd => rfl); (case hg => rfl); (case hr => first | (go_simp; done) | (go_simp; rfl)); intro gb104 hg w6 hbox hb; have n0_ := Aside0.mk (Kd.R_below (by (with_reducible repeat (first | apply Kd.R_alloc | apply Kd.R_drewN | apply Kd.R_drew)); exact HO_3.out) hb); have n1_ := Aside0.mk (below_step (by repeat (first | (with_reducible first | exact HB.out | apply below_alloc | apply pw_below_drewN | apply below_drew1) | exact HB.out)) hb); have n2_ := Aside0.mk (hbox); have n3_ := Aside0.mk ((by rw [hg]; exact (below_size (by repeat (first | (with_reducible first | exact HB.out | apply below_alloc | apply pw_below_drewN | apply below_drew1) | exact HB.out))) : w.heap.size ≤ gb104)); have n4_ := Aside0.mk ((by rw [hg]; exact (below_size (by repeat (first | (with_reducible first | exact HB.out | apply below_alloc | apply pw_below_drewN | apply below_drew1) | exact HB.out))) : w.heap.size ≤ gb104)); clear HO_3; clear HB; have HO_3 := n0_; have HB := n1_; have BK104 := n2_; have GW104 := n3_; have GE104 := n4_; clear n0_ n1_ n2_ n3_ n4_; clear hb hbox hg; have hcz7_0 : w6.cell? ⟨gb104, 0, none⟩ = some (.string (⟨#[]⟩ : ByteArray)) := (blk_cell BK104.out 0).trans rfl; have hcz7_1 : w6.cell? ⟨gb104, 1, none⟩ = some (.string (⟨#[]⟩ : ByteArray)) := (blk_cell BK104.out 1).trans rfl; have hfz7_0 := blk_frozen BK104.out 0; have hfz7_1 := blk_frozen BK104.out 1) | ((with_reducible refine gate_builtin (b := .append) (xs := #[.tmp 12, .tmp 14]) rfl ?_); at_builtin; refine Kd.R_append k147 (w0 := w) w.heap.size rfl (.tmp 12) (.tmp 14) 38 147 (.agg #[(.string ⟨#[]⟩), (.string ⟨#[]⟩)]) 32 rfl Tryz.underlying38 info147 rfl (by decide) (by omega) u3 x3_1 (⟨(rd_T89 l0 x8_1).f0, (rd_T89 l0 x8_1).f1⟩ : S147) [.string ((rd_T89 l0 x8_1).f0), .string ((rd_T89 l0 x8_1).f1)] (fun _ => True) (fun _ => False) rfl (by first | (go_simp; done) | (go_simp; rfl)) ?aP (fun _ hk => hk.elim) ?aF ?aO ?aB ?aS ?aL ?_; (case aP => exact k147_mkM _ _ _ (⟨(rd_T89 l0 x8_1).f0, (rd_T89 l0 x8_1).f1⟩ : S147)); (case aB => exact (by repeat (first | (with_reducible first | exact HB.out | apply below_alloc | apply pw_below_drewN | apply below_drew1 | refine below_set ?_ GE104.out) | exact HB.out))); (case aF => exact (fun _ _ => trivial)); (case aO => exact (by (with_reducible repeat (first | apply Kd.R_alloc | apply Kd.R_drewN | apply Kd.R_drew)); exact Kd.R_mono (Kd.R_far (p := ⟨gb104, 1, none⟩) (Kd.R_far (p := ⟨gb104, 0, none⟩) (Kd.R_types HO_3.out BK104.out (by decide)) (fun _ hk => hk.2) (.string ((rd_T89 l0 x8_1).f0))) (fun _ hk => hk.2) (.string ((rd_T89 l0 x8_1).f1))) (fun _ hk => trivial))); (case aS => exact (below_size (by repeat (first | (with_reducible first | exact HB.out | apply below_alloc | apply pw_below_drewN | apply below_drew1 | refine below_set ?_ GE104.out) | exact HB.out)))); (case aL => have := LMc5.out; omega); intro v106 w8 ho hb hg hat; rw [← Ny105.out] at ho; have n0_ := Aside0.mk (blk_grown (g := gb104) (o := .cells #[.string ((rd_T89 l0 x8_1).f0), .string ((rd_T89 l0 x8_1).f1)] 89 (0, 0)) (by (with_reducible repeat (first | refine blk_drewN ?_ _ | refine blk_drew ?_ | refine blk_alloc ?_ _)); refine blk_put (cs := #[.string ((rd_T89 l0 x8_1).f0), .string (⟨#[]⟩ : ByteArray)]) ?_ 1 _ rfl; (with_reducible repeat (first | refine blk_drewN ?_ _ | refine blk_drew ?_ | refine blk_alloc ?_ _)); refine blk_put (cs := #[.string (⟨#[]⟩ : ByteArray), .string (⟨#[]⟩ : ByteArray)]) ?_ 0 _ rfl; (with_reducible repeat (first | refine blk_drewN ?_ _ | refine blk_drew ?_ | refine blk_alloc ?_ _)); exact BK104.out) hg (Kd.R_ne HO_3.out BK104.out (by decide))); have n1_ := Aside0.mk (hb); have n2_ := Aside0.mk (ho); clear BK104; clear HB; clear HO_3; have BK104 := n0_; have HB := n1_; have HO107 := n2_; clear n0_ n1_ n2_; clear ho hb hg hat))
              go_roundg k1
              case measure => have := HK1.out; omega
              case rel => exact ⟨(y105), (wrap64 (x8_1 + 1)), (by first | rfl | (simp; done) | (simp [*]; done)), H', ⟨by have := HK1.out; omega⟩, ⟨by (with_reducible repeat (first | apply Kd.R_alloc | apply Kd.R_drewN | apply Kd.R_drew)); exact HO107.out⟩, ⟨by repeat (first | (with_reducible first | exact HB.out | apply below_alloc | apply pw_below_drewN | apply below_drew1 | refine below_set ?_ GE104.out) | exact HB.out)⟩⟩
            · rw [if_neg c5] at H
              exact absurd H (by simp)
          · rw [if_neg c4] at H
            exact absurd H (by simp)
        · rw [if_neg c3] at H
          exact absurd H (by simp)
      · rw [if_neg c2] at H
        have c2b0 : decide (x8_1 < (l0.length : Int)) = false := decide_eq_false c2
        clear c2
        obtain rfl := Option.some.inj H
        go_wp2
        go_ret
        exact ⟨_, by first | rfl | (simp [errW_none, errW_some] <;> rfl) | (simp [*, errW_none, errW_some] <;> rfl), by (with_reducible repeat (first | apply Kd.R_alloc | apply Kd.R_drewN | apply Kd.R_drew)); exact HO_3.out, by repeat (first | (with_reducible first | exact HB.out | apply below_alloc | apply pw_below_drewN | apply below_drew1) | exact HB.out)⟩
def laws_specAttrs.f (k : Nat) (a0_0 : Int) (a0_1 : Int) (a0_2 : Int) (a0_3 : Int) (a0_4 : Int) (a0_5 : Int) (a0_6 : Int) (l0_7 : List (S89)) : Option (Int × Int × Int × Int × Int × Int × Int × (List (S147))) := (laws_specExts.f k l0_7).bind fun t110 => (some (a0_0, a0_1, a0_2, a0_3, a0_4, a0_5, a0_6, t110))
theorem laws_specAttrs.mono : ∀ a0 a1 a2 a3 a4 a5 a6 a7 k, LeO (laws_specAttrs.f k a0 a1 a2 a3 a4 a5 a6 a7) (laws_specAttrs.f (k + 1) a0 a1 a2 a3 a4 a5 a6 a7) := by
  intro a0 a1 a2 a3 a4 a5 a6 a7 k
  unfold laws_specAttrs.f
  repeat' first
      | (with_reducible exact laws_specExts.mono _ _)
      | (with_reducible exact LeO.refl _)
      | (with_reducible exact LeO.none _)
      | (with_reducible refine LeO.ite ?_ ?_)
      | (with_reducible refine LeO.bind ?_ (fun _ => ?_))
      | exact laws_specExts.mono _ _
      | exact LeO.none _
      | refine LeO.ite ?_ ?_
      | refine LeO.bind ?_ (fun _ => ?_)
def laws_specAttrs.T1 : Bool × List (List Nat × List Nat) := (true, [([], []), ([0], [0]), ([], []), ([2], [2]), ([], []), ([4], [4]), ([], []), ([6], [6]), ([], []), ([8], [8]), ([], []), ([10], [10]), ([], []), ([12], [12]), ([], []), ([14], [14]), ([15], [15]), ([1, 3, 5, 7, 9, 11, 13, 16], [1, 3, 5, 7, 9, 11, 13, 16]), ([17, 16, 0, 1, 2, 3, 4, 5, 6, 7, 8, 9, 10, 11, 12, 13, 14, 15, 16, 17], [17])])
def laws_specAttrs.B1 : List Nat := [0, 1, 0, 4, 0, 16, 0, 64, 0, 256, 0, 1024, 0, 4096, 0, 16384, 49152, 131071, 262143]
theorem laws_specAttrs.tab1 : rtab .any (opsOf Tryz.f28 1) = laws_specAttrs.T1 := by kernel_rfl
theorem laws_specAttrs.bits1 : waitsOk laws_specAttrs.T1.2 laws_specAttrs.B1 = true := by kernel_rfl
set_option maxHeartbeats 8000000 in
set_option maxRecDepth 100000 in
theorem laws_specAttrs.calls (k : Nat) (a0_0 : Int) (a0_1 : Int) (a0_2 : Int) (a0_3 : Int) (a0_4 : Int) (a0_5 : Int) (a0_6 : Int) (A0_7 : Option Addr) (c0_7 : Nat) (l0_7 : List (S89)) (r1 : Int) (r2 : Int) (r3 : Int) (r4 : Int) (r5 : Int) (r6 : Int) (r7 : Int) (r8 : List (S147)) (w : World) (hr0_7 : Kd.C k89 w A0_7 l0_7.length l0_7) (hc0_7 : l0_7.length ≤ c0_7) (h : laws_specAttrs.f k a0_0 a0_1 a0_2 a0_3 a0_4 a0_5 a0_6 l0_7 = some (r1, r2, r3, r4, r5, r6, r7, r8)) :
    Calls Tryz.prog 28 #[.agg #[.int .u32 a0_0, .int .u64 a0_1, .int .u32 a0_2, .int .u32 a0_3, .int .u32 a0_4, .int .u32 a0_5, .int .u32 a0_6, .slice A0_7 l0_7.length c0_7]] w fun e w' => ∃ v7_ : Value, e = .returned (.agg #[.int .u32 r1, .int .u64 r2, .int .u32 r3, .int .u32 r4, .int .u32 r5, .int .u32 r6, .int .u32 r7, v7_]) ∧ Kd.R k147 147 w' w.heap.size (fun _ => True) v7_ r8 ∧ Below w.heap.size w w' := by
  have hu26 := Tryz.underlying26
  have hu40 := Tryz.underlying40
  have HR0_7 := Aside0.mk hr0_7
  have HC0_7 := Aside0.mk hc0_7
  clear hr0_7 hc0_7
  have HB := Aside0.mk (Below.refl w.heap.size w)
  have H : ((laws_specExts.f k l0_7).bind fun t110 => (some (a0_0, a0_1, a0_2, a0_3, a0_4, a0_5, a0_6, t110))) = some (r1, r2, r3, r4, r5, r6, r7, r8) := h
  clear h
  replace H := Option.bind_eq_some_iff.mp H
  obtain ⟨t110, A20, H⟩ := H
  replace H : (some (a0_0, a0_1, a0_2, a0_3, a0_4, a0_5, a0_6, t110)) = some (r1, r2, r3, r4, r5, r6, r7, r8) := H
  have A2 := Aside0.mk A20
  clear A20
  simp only [Option.some.injEq, Prod.mk.injEq] at H
  obtain ⟨rfl, rfl, rfl, rfl, rfl, rfl, rfl, rfl⟩ := H
  go_enter Tryz.func28, Tryz.ntmps28
  try go_wp2_with (first | ((with_reducible refine gate_dst (N := 1) rfl ?_); refine box_event ?hg (N := 1) ?hd (cs := #[.int .u32 a0_0, .int .u64 a0_1, .int .u32 a0_2, .int .u32 a0_3, .int .u32 a0_4, .int .u32 a0_5, .int .u32 a0_6, .slice A0_7 l0_7.length c0_7]) (t := 26) ?hr ?_; (case hd => rfl); (case hg => rfl); (case hr => first | (go_simp; done) | (go_simp; rfl)); intro gb108 hg w3 hbox hb; have n0_ := Aside0.mk (below_step (by repeat (first | (with_reducible first | exact HB.out | apply below_alloc | apply pw_below_drewN | apply below_drew1) | exact HB.out)) hb); have n1_ := Aside0.mk (hbox); have n2_ := Aside0.mk ((by rw [hg]; exact (below_size (by repeat (first | (with_reducible first | exact HB.out | apply below_alloc | apply pw_below_drewN | apply below_drew1) | exact HB.out))) : w.heap.size ≤ gb108)); have n3_ := Aside0.mk ((by rw [hg]; exact (below_size (by repeat (first | (with_reducible first | exact HB.out | apply below_alloc | apply pw_below_drewN | apply below_drew1) | exact HB.out))) : w.heap.size ≤ gb108)); clear HB; have HB := n0_; have BK108 := n1_; have GW108 := n2_; have GE108 := n3_; clear n0_ n1_ n2_ n3_; clear hb hbox hg) | ((with_reducible refine gate_dst (N := 2) rfl ?_); refine box_event ?hg (N := 2) ?hd (cs := #[.int .u32 0, .int .u64 0, .int .u32 0, .int .u32 0, .int .u32 0, .int .u32 0, .int .u32 0, .slice none 0 0]) (t := 40) ?hr ?_; (case hd => rfl); (case hg => rfl); (case hr => first | (go_simp; done) | (go_simp; rfl)); intro gb109 hg w4 hbox hb; have n0_ := Aside0.mk (blk_below (g := gb108) (o := .cells #[.int .u32 a0_0, .int .u64 a0_1, .int .u32 a0_2, .int .u32 a0_3, .int .u32 a0_4, .int .u32 a0_5, .int .u32 a0_6, .slice A0_7 l0_7.length c0_7] 26 (0, 0)) (by (with_reducible repeat (first | refine blk_drewN ?_ _ | refine blk_drew ?_ | refine blk_alloc ?_ _)); exact BK108.out) hb); have n1_ := Aside0.mk (below_step (by repeat (first | (with_reducible first | exact HB.out | apply below_alloc | apply pw_below_drewN | apply below_drew1 | refine below_set ?_ GE108.out) | exact HB.out)) hb); have n2_ := Aside0.mk (hbox); have n3_ := Aside0.mk ((by rw [hg]; exact (below_size (by repeat (first | (with_reducible first | exact HB.out | apply below_alloc | apply pw_below_drewN | apply below_drew1 | refine below_set ?_ GE108.out) | exact HB.out))) : w.heap.size ≤ gb109)); have n4_ := Aside0.mk ((by rw [hg]; exact (below_size (by repeat (first | (with_reducible first | exact HB.out | apply below_alloc | apply pw_below_drewN | apply below_drew1 | refine below_set ?_ GE108.out) | exact HB.out))) : w.heap.size ≤ gb109)); have n5_ := Aside0.mk ((by rw [hg]; exact Nat.ne_of_lt (blk_lt (g := gb108) (o := .cells #[.int .u32 a0_0, .int .u64 a0_1, .int .u32 a0_2, .int .u32 a0_3, .int .u32 a0_4, .int .u32 a0_5, .int .u32 a0_6, .slice A0_7 l0_7.length c0_7] 26 (0, 0)) (by (with_reducible repeat (first | refine blk_drewN ?_ _ | refine blk_drew ?_ | refine blk_alloc ?_ _)); exact BK108.out)) : gb108 ≠ gb109)); have n6_ := Aside0.mk ((by rw [hg]; exact Nat.ne_of_gt (blk_lt (g := gb108) (o := .cells #[.int .u32 a0_0, .int .u64 a0_1, .int .u32 a0_2, .int .u32 a0_3, .int .u32 a0_4, .int .u32 a0_5, .int .u32 a0_6, .slice A0_7 l0_7.length c0_7] 26 (0, 0)) (by (with_reducible repeat (first | refine blk_drewN ?_ _ | refine blk_drew ?_ | refine blk_alloc ?_ _)); exact BK108.out)) : gb109 ≠ gb108)); clear BK108; clear HB; have BK108 := n0_; have HB := n1_; have BK109 := n2_; have GW109 := n3_; have GE109 := n4_; have NB108_109 := n5_; have NB109_108 := n6_; clear n0_ n1_ n2_ n3_ n4_ n5_ n6_; clear hb hbox hg))
  have n0_ := Aside0.mk (blk_drew BK108.out)
  have n1_ := Aside0.mk (blk_drew BK109.out)
  have n2_ := Aside0.mk (below_drew1 HB.out)
  clear BK108
  clear BK109
  clear HB
  have BK108 := n0_
  have BK109 := n1_
  have HB := n2_
  clear n0_ n1_ n2_
  refine start_ (n := 19) (S := fun w' => w'.cell? ⟨gb108, 0, none⟩ = some (.int .u32 a0_0) ∧ w'.cell? ⟨gb108, 1, none⟩ = some (.int .u64 a0_1) ∧ w'.cell? ⟨gb108, 2, none⟩ = some (.int .u32 a0_2) ∧ w'.cell? ⟨gb108, 3, none⟩ = some (.int .u32 a0_3) ∧ w'.cell? ⟨gb108, 4, none⟩ = some (.int .u32 a0_4) ∧ w'.cell? ⟨gb108, 5, none⟩ = some (.int .u32 a0_5) ∧ w'.cell? ⟨gb108, 6, none⟩ = some (.int .u32 a0_6) ∧ w'.cell? ⟨gb108, 7, none⟩ = some (.slice A0_7 l0_7.length c0_7)) (ds := []) #[false, false, false, false, false, false, false, false, false, false, false, false, false, false, false, false, false, false, false] (by kernel_rfl) rfl rfl ⟨(blk_cell BK108.out 0).trans rfl, (blk_cell BK108.out 1).trans rfl, (blk_cell BK108.out 2).trans rfl, (blk_cell BK108.out 3).trans rfl, (blk_cell BK108.out 4).trans rfl, (blk_cell BK108.out 5).trans rfl, (blk_cell BK108.out 6).trans rfl, (blk_cell BK108.out 7).trans rfl⟩ (fun hHeld => ?_); refine with_tabW laws_specAttrs.tab1 laws_specAttrs.bits1 (fun HT_ HW_ => ?_)
  generalize w4.drew = w5 at BK108 BK109 HB hHeld ⊢
  refine pure_ (i := 0) (N := some 3) (v := ?_) (a' := ?_) #[true, false, false, false, false, false, false, false, false, false, false, false, false, false, false, false, false, false, false] rfl rfl (any_of HT_.out (by kernel_rfl)) (fun _ _ _ h => h) (Or.inl ⟨by rfl, ?_⟩) ?_ ?_
  rotate_left
  · intro w'
    go_simp
    with_reducible rfl
  rotate_left
  · simp only [Act.put, List.setIfInBounds_toArray, List.set_cons_zero, List.set_cons_succ, i64_w, i32_w]
    rfl
  refine pure_ (i := 2) (N := some 5) (v := ?_) (a' := ?_) #[true, false, true, false, false, false, false, false, false, false, false, false, false, false, false, false, false, false, false] rfl rfl (any_of HT_.out (by kernel_rfl)) (fun _ _ _ h => h) (Or.inl ⟨by rfl, ?_⟩) ?_ ?_
  rotate_left
  · intro w'
    go_simp
    with_reducible rfl
  rotate_left
  · simp only [Act.put, List.setIfInBounds_toArray, List.set_cons_zero, List.set_cons_succ, i64_w, i32_w]
    rfl
  refine pure_ (i := 4) (N := some 7) (v := ?_) (a' := ?_) #[true, false, true, false, true, false, false, false, false, false, false, false, false, false, false, false, false, false, false] rfl rfl (any_of HT_.out (by kernel_rfl)) (fun _ _ _ h => h) (Or.inl ⟨by rfl, ?_⟩) ?_ ?_
  rotate_left
  · intro w'
    go_simp
    with_reducible rfl
  rotate_left
  · simp only [Act.put, List.setIfInBounds_toArray, List.set_cons_zero, List.set_cons_succ, i64_w, i32_w]
    rfl
  refine pure_ (i := 6) (N := some 9) (v := ?_) (a' := ?_) #[true, false, true, false, true, false, true, false, false, false, false, false, false, false, false, false, false, false, false] rfl rfl (any_of HT_.out (by kernel_rfl)) (fun _ _ _ h => h) (Or.inl ⟨by rfl, ?_⟩) ?_ ?_
  rotate_left
  · intro w'
    go_simp
    with_reducible rfl
  rotate_left
  · simp only [Act.put, List.setIfInBounds_toArray, List.set_cons_zero, List.set_cons_succ, i64_w, i32_w]
    rfl
  refine pure_ (i := 8) (N := some 11) (v := ?_) (a' := ?_) #[true, false, true, false, true, false, true, false, true, false, false, false, false, false, false, false, false, false, false] rfl rfl (any_of HT_.out (by kernel_rfl)) (fun _ _ _ h => h) (Or.inl ⟨by rfl, ?_⟩) ?_ ?_
  rotate_left
  · intro w'
    go_simp
    with_reducible rfl
  rotate_left
  · simp only [Act.put, List.setIfInBounds_toArray, List.set_cons_zero, List.set_cons_succ, i64_w, i32_w]
    rfl
  refine pure_ (i := 10) (N := some 13) (v := ?_) (a' := ?_) #[true, false, true, false, true, false, true, false, true, false, true, false, false, false, false, false, false, false, false] rfl rfl (any_of HT_.out (by kernel_rfl)) (fun _ _ _ h => h) (Or.inl ⟨by rfl, ?_⟩) ?_ ?_
  rotate_left
  · intro w'
    go_simp
    with_reducible rfl
  rotate_left
  · simp only [Act.put, List.setIfInBounds_toArray, List.set_cons_zero, List.set_cons_succ, i64_w, i32_w]
    rfl
  refine pure_ (i := 12) (N := some 15) (v := ?_) (a' := ?_) #[true, false, true, false, true, false, true, false, true, false, true, false, true, false, false, false, false, false, false] rfl rfl (any_of HT_.out (by kernel_rfl)) (fun _ _ _ h => h) (Or.inl ⟨by rfl, ?_⟩) ?_ ?_
  rotate_left
  · intro w'
    go_simp
    with_reducible rfl
  rotate_left
  · simp only [Act.put, List.setIfInBounds_toArray, List.set_cons_zero, List.set_cons_succ, i64_w, i32_w]
    rfl
  refine pure_ (i := 14) (N := some 17) (v := ?_) (a' := ?_) #[true, false, true, false, true, false, true, false, true, false, true, false, true, false, true, false, false, false, false] rfl rfl (any_of HT_.out (by kernel_rfl)) (fun _ _ _ h => h) (Or.inl ⟨by rfl, ?_⟩) ?_ ?_
  rotate_left
  · intro w'
    go_simp
    with_reducible rfl
  rotate_left
  · simp only [Act.put, List.setIfInBounds_toArray, List.set_cons_zero, List.set_cons_succ, i64_w, i32_w]
    rfl
  refine take_ (i := 1) (N := some 4) (v := ?_) (a' := ?_) #[true, true, true, false, true, false, true, false, true, false, true, false, true, false, true, false, false, false, false] rfl rfl (take_ofW HT_.out HW_.out (by kernel_rfl)) (fun _ _ _ h => h) (Or.inl ⟨by rfl, ?_⟩) hHeld ?_ ?_
  rotate_left
  · rintro w' ⟨s0, s1, s2, s3, s4, s5, s6, s7⟩
    go_simp
    with_reducible rfl
  rotate_left
  · simp only [Act.put, List.setIfInBounds_toArray, List.set_cons_zero, List.set_cons_succ, i64_w, i32_w]
    rfl
  refine take_ (i := 3) (N := some 6) (v := ?_) (a' := ?_) #[true, true, true, true, true, false, true, false, true, false, true, false, true, false, true, false, false, false, false] rfl rfl (take_ofW HT_.out HW_.out (by kernel_rfl)) (fun _ _ _ h => h) (Or.inl ⟨by rfl, ?_⟩) hHeld ?_ ?_
  rotate_left
  · rintro w' ⟨s0, s1, s2, s3, s4, s5, s6, s7⟩
    go_simp
    with_reducible rfl
  rotate_left
  · simp only [Act.put, List.setIfInBounds_toArray, List.set_cons_zero, List.set_cons_succ, i64_w, i32_w]
    rfl
  refine take_ (i := 5) (N := some 8) (v := ?_) (a' := ?_) #[true, true, true, true, true, true, true, false, true, false, true, false, true, false, true, false, false, false, false] rfl rfl (take_ofW HT_.out HW_.out (by kernel_rfl)) (fun _ _ _ h => h) (Or.inl ⟨by rfl, ?_⟩) hHeld ?_ ?_
  rotate_left
  · rintro w' ⟨s0, s1, s2, s3, s4, s5, s6, s7⟩
    go_simp
    with_reducible rfl
  rotate_left
  · simp only [Act.put, List.setIfInBounds_toArray, List.set_cons_zero, List.set_cons_succ, i64_w, i32_w]
    rfl
  refine take_ (i := 7) (N := some 10) (v := ?_) (a' := ?_) #[true, true, true, true, true, true, true, true, true, false, true, false, true, false, true, false, false, false, false] rfl rfl (take_ofW HT_.out HW_.out (by kernel_rfl)) (fun _ _ _ h => h) (Or.inl ⟨by rfl, ?_⟩) hHeld ?_ ?_
  rotate_left
  · rintro w' ⟨s0, s1, s2, s3, s4, s5, s6, s7⟩
    go_simp
    with_reducible rfl
  rotate_left
  · simp only [Act.put, List.setIfInBounds_toArray, List.set_cons_zero, List.set_cons_succ, i64_w, i32_w]
    rfl
  refine take_ (i := 9) (N := some 12) (v := ?_) (a' := ?_) #[true, true, true, true, true, true, true, true, true, true, true, false, true, false, true, false, false, false, false] rfl rfl (take_ofW HT_.out HW_.out (by kernel_rfl)) (fun _ _ _ h => h) (Or.inl ⟨by rfl, ?_⟩) hHeld ?_ ?_
  rotate_left
  · rintro w' ⟨s0, s1, s2, s3, s4, s5, s6, s7⟩
    go_simp
    with_reducible rfl
  rotate_left
  · simp only [Act.put, List.setIfInBounds_toArray, List.set_cons_zero, List.set_cons_succ, i64_w, i32_w]
    rfl
  refine take_ (i := 11) (N := some 14) (v := ?_) (a' := ?_) #[true, true, true, true, true, true, true, true, true, true, true, true, true, false, true, false, false, false, false] rfl rfl (take_ofW HT_.out HW_.out (by kernel_rfl)) (fun _ _ _ h => h) (Or.inl ⟨by rfl, ?_⟩) hHeld ?_ ?_
  rotate_left
  · rintro w' ⟨s0, s1, s2, s3, s4, s5, s6, s7⟩
    go_simp
    with_reducible rfl
  rotate_left
  · simp only [Act.put, List.setIfInBounds_toArray, List.set_cons_zero, List.set_cons_succ, i64_w, i32_w]
    rfl
  refine take_ (i := 13) (N := some 16) (v := ?_) (a' := ?_) #[true, true, true, true, true, true, true, true, true, true, true, true, true, true, true, false, false, false, false] rfl rfl (take_ofW HT_.out HW_.out (by kernel_rfl)) (fun _ _ _ h => h) (Or.inl ⟨by rfl, ?_⟩) hHeld ?_ ?_
  rotate_left
  · rintro w' ⟨s0, s1, s2, s3, s4, s5, s6, s7⟩
    go_simp
    with_reducible rfl
  rotate_left
  · simp only [Act.put, List.setIfInBounds_toArray, List.set_cons_zero, List.set_cons_succ, i64_w, i32_w]
    rfl
  refine take_ (i := 15) (N := some 18) (v := ?_) (a' := ?_) #[true, true, true, true, true, true, true, true, true, true, true, true, true, true, true, true, false, false, false] rfl rfl (take_ofW HT_.out HW_.out (by kernel_rfl)) (fun _ _ _ h => h) (Or.inl ⟨by rfl, ?_⟩) hHeld ?_ ?_
  rotate_left
  · rintro w' ⟨s0, s1, s2, s3, s4, s5, s6, s7⟩
    go_simp
    with_reducible rfl
  rotate_left
  · simp only [Act.put, List.setIfInBounds_toArray, List.set_cons_zero, List.set_cons_succ, i64_w, i32_w]
    rfl
  refine one_ (i := 16) (N := some 19) #[true, true, true, true, true, true, true, true, true, true, true, true, true, true, true, true, true, false, false] rfl rfl (one_of HT_.out (by kernel_rfl)) (by decide) (fun K hK => ?_)
  refine goes_ Tryz.func67 (by kernel_rfl) rfl #[.slice A0_7 l0_7.length c0_7] (by rfl) rfl rfl (by (try simp only [List.map_toArray, List.map_cons, List.map_nil]); first | done | rfl | (simp only [List.length_drop, List.length_take]; rfl)) ?_
  with_reducible refine (laws_specExts.calls k _ _ l0_7 t110 _ ?side1 ?side2 A2.out).mono ?_
  (case side1 => repeat (first | exact (Kd.C_below HR0_7.out HB.out) | (with_reducible refine Kd.C_alloc ?_ _) | (with_reducible refine Kd.C_drewN ?_ _) | (with_reducible refine Kd.C_drew ?_)))
  (case side2 => exact HC0_7.out)
  rintro e w6 ⟨v111, rfl, ho0, hb⟩
  refine ⟨_, rfl, ?_⟩
  have n0_ := Aside0.mk (Kd.R_lower ho0 (below_size (by repeat (first | (with_reducible first | exact HB.out | apply below_alloc | apply pw_below_drewN | apply below_drew1 | refine below_set ?_ GE108.out | refine below_set ?_ GE109.out) | exact HB.out))))
  have n1_ := Aside0.mk (blk_below (g := gb108) (o := .cells #[.int .u32 a0_0, .int .u64 a0_1, .int .u32 a0_2, .int .u32 a0_3, .int .u32 a0_4, .int .u32 a0_5, .int .u32 a0_6, .slice A0_7 l0_7.length c0_7] 26 (0, 0)) (by (with_reducible repeat (first | refine blk_drewN ?_ _ | refine blk_drew ?_ | refine blk_alloc ?_ _)); exact BK108.out) hb)
  have n2_ := Aside0.mk (blk_below (g := gb109) (o := .cells #[.int .u32 0, .int .u64 0, .int .u32 0, .int .u32 0, .int .u32 0, .int .u32 0, .int .u32 0, .slice none 0 0] 40 (0, 0)) (by (with_reducible repeat (first | refine blk_drewN ?_ _ | refine blk_drew ?_ | refine blk_alloc ?_ _)); exact BK109.out) hb)
  have n3_ := Aside0.mk (below_step (by repeat (first | (with_reducible first | exact HB.out | apply below_alloc | apply pw_below_drewN | apply below_drew1 | refine below_set ?_ GE108.out | refine below_set ?_ GE109.out) | exact HB.out)) hb)
  clear BK108
  clear BK109
  clear HB
  have HO112 := n0_
  have BK108 := n1_
  have BK109 := n2_
  have HB := n3_
  clear n0_ n1_ n2_ n3_
  (try clear hb)
  (try clear hb2)
  (try clear hk)
  (try clear hi)
  (try clear ho0)
  obtain ⟨Ao7, co7, eo7⟩ := Kd.R_slice HO112.out
  (first | subst eo7 | (injection eo7 with f1_ f2_ f3_; have f4_ := f1_.symm; have f5_ := f3_.symm; clear f1_ f2_ f3_; subst f4_; subst f5_))
  refine hK.out _ _ ⟨(blk_cell BK108.out 0).trans rfl, (blk_cell BK108.out 1).trans rfl, (blk_cell BK108.out 2).trans rfl, (blk_cell BK108.out 3).trans rfl, (blk_cell BK108.out 4).trans rfl, (blk_cell BK108.out 5).trans rfl, (blk_cell BK108.out 6).trans rfl, (blk_cell BK108.out 7).trans rfl⟩ (fun hHeld => ?_)
  clear hK K
  refine norm_ (a' := ?_) ?_ ?_
  rotate_left
  · show Act.put _ (some 19) _ = _
    simp only [Act.put, List.setIfInBounds_toArray, List.set_cons_zero, List.set_cons_succ, i64_w, i32_w]
    rfl
  refine pure_ (i := 17) (N := some 20) (v := ?_) (a' := ?_) #[true, true, true, true, true, true, true, true, true, true, true, true, true, true, true, true, true, true, false] rfl rfl (any_of HT_.out (by kernel_rfl)) (fun _ _ _ h => h) (Or.inl ⟨by rfl, ?_⟩) ?_ ?_
  rotate_left
  · intro w'
    go_simp
    with_reducible rfl
  rotate_left
  · simp only [Act.put, List.setIfInBounds_toArray, List.set_cons_zero, List.set_cons_succ, i64_w, i32_w]
    rfl
  refine one_ (i := 18) (N := none) #[true, true, true, true, true, true, true, true, true, true, true, true, true, true, true, true, true, true, true] rfl rfl (one_of HT_.out (by kernel_rfl)) (by decide) (fun K hK => ?_)
  have hs8 : w6.cell? ⟨gb109, 0, none⟩ = some (.int .u32 0) := (blk_cell BK109.out 0).trans rfl
  have hfs8 := blk_frozen BK109.out 0
  have hns8_0 := NB108_109.out
  have hms8_0 := NB109_108.out
  have hs9 : w6.cell? ⟨gb109, 1, none⟩ = some (.int .u64 0) := (blk_cell BK109.out 1).trans rfl
  have hfs9 := blk_frozen BK109.out 1
  have hns9_0 := NB108_109.out
  have hms9_0 := NB109_108.out
  have hs10 : w6.cell? ⟨gb109, 2, none⟩ = some (.int .u32 0) := (blk_cell BK109.out 2).trans rfl
  have hfs10 := blk_frozen BK109.out 2
  have hns10_0 := NB108_109.out
  have hms10_0 := NB109_108.out
  have hs11 : w6.cell? ⟨gb109, 3, none⟩ = some (.int .u32 0) := (blk_cell BK109.out 3).trans rfl
  have hfs11 := blk_frozen BK109.out 3
  have hns11_0 := NB108_109.out
  have hms11_0 := NB109_108.out
  have hs12 : w6.cell? ⟨gb109, 4, none⟩ = some (.int .u32 0) := (blk_cell BK109.out 4).trans rfl
  have hfs12 := blk_frozen BK109.out 4
  have hns12_0 := NB108_109.out
  have hms12_0 := NB109_108.out
  have hs13 : w6.cell? ⟨gb109, 5, none⟩ = some (.int .u32 0) := (blk_cell BK109.out 5).trans rfl
  have hfs13 := blk_frozen BK109.out 5
  have hns13_0 := NB108_109.out
  have hms13_0 := NB109_108.out
  have hs14 : w6.cell? ⟨gb109, 6, none⟩ = some (.int .u32 0) := (blk_cell BK109.out 6).trans rfl
  have hfs14 := blk_frozen BK109.out 6
  have hns14_0 := NB108_109.out
  have hms14_0 := NB109_108.out
  have hs15 : w6.cell? ⟨gb109, 7, none⟩ = some (.slice none 0 0) := (blk_cell BK109.out 7).trans rfl
  have hfs15 := blk_frozen BK109.out 7
  have hns15_0 := NB108_109.out
  have hms15_0 := NB109_108.out
  refine skip_ (w1 := ?_) (by rfl) rfl ?_ ?_
  rotate_left
  · go_simp
    rfl
  refine hK.out _ _ ⟨((cell_far (p := ⟨gb109, _, none⟩) NB108_109.out _).trans (((cell_far (p := ⟨gb109, _, none⟩) NB108_109.out _).trans (((cell_far (p := ⟨gb109, _, none⟩) NB108_109.out _).trans (((cell_far (p := ⟨gb109, _, none⟩) NB108_109.out _).trans (((cell_far (p := ⟨gb109, _, none⟩) NB108_109.out _).trans (((cell_far (p := ⟨gb109, _, none⟩) NB108_109.out _).trans (((cell_far (p := ⟨gb109, _, none⟩) NB108_109.out _).trans (((cell_far (p := ⟨gb109, _, none⟩) NB108_109.out _).trans (hHeld.1)))))))))))))))), ((cell_far (p := ⟨gb109, _, none⟩) NB108_109.out _).trans (((cell_far (p := ⟨gb109, _, none⟩) NB108_109.out _).trans (((cell_far (p := ⟨gb109, _, none⟩) NB108_109.out _).trans (((cell_far (p := ⟨gb109, _, none⟩) NB108_109.out _).trans (((cell_far (p := ⟨gb109, _, none⟩) NB108_109.out _).trans (((cell_far (p := ⟨gb109, _, none⟩) NB108_109.out _).trans (((cell_far (p := ⟨gb109, _, none⟩) NB108_109.out _).trans (((cell_far (p := ⟨gb109, _, none⟩) NB108_109.out _).trans (hHeld.2.1)))))))))))))))), ((cell_far (p := ⟨gb109, _, none⟩) NB108_109.out _).trans (((cell_far (p := ⟨gb109, _, none⟩) NB108_109.out _).trans (((cell_far (p := ⟨gb109, _, none⟩) NB108_109.out _).trans (((cell_far (p := ⟨gb109, _, none⟩) NB108_109.out _).trans (((cell_far (p := ⟨gb109, _, none⟩) NB108_109.out _).trans (((cell_far (p := ⟨gb109, _, none⟩) NB108_109.out _).trans (((cell_far (p := ⟨gb109, _, none⟩) NB108_109.out _).trans (((cell_far (p := ⟨gb109, _, none⟩) NB108_109.out _).trans (hHeld.2.2.1)))))))))))))))), ((cell_far (p := ⟨gb109, _, none⟩) NB108_109.out _).trans (((cell_far (p := ⟨gb109, _, none⟩) NB108_109.out _).trans (((cell_far (p := ⟨gb109, _, none⟩) NB108_109.out _).trans (((cell_far (p := ⟨gb109, _, none⟩) NB108_109.out _).trans (((cell_far (p := ⟨gb109, _, none⟩) NB108_109.out _).trans (((cell_far (p := ⟨gb109, _, none⟩) NB108_109.out _).trans (((cell_far (p := ⟨gb109, _, none⟩) NB108_109.out _).trans (((cell_far (p := ⟨gb109, _, none⟩) NB108_109.out _).trans (hHeld.2.2.2.1)))))))))))))))), ((cell_far (p := ⟨gb109, _, none⟩) NB108_109.out _).trans (((cell_far (p := ⟨gb109, _, none⟩) NB108_109.out _).trans (((cell_far (p := ⟨gb109, _, none⟩) NB108_109.out _).trans (((cell_far (p := ⟨gb109, _, none⟩) NB108_109.out _).trans (((cell_far (p := ⟨gb109, _, none⟩) NB108_109.out _).trans (((cell_far (p := ⟨gb109, _, none⟩) NB108_109.out _).trans (((cell_far (p := ⟨gb109, _, none⟩) NB108_109.out _).trans (((cell_far (p := ⟨gb109, _, none⟩) NB108_109.out _).trans (hHeld.2.2.2.2.1)))))))))))))))), ((cell_far (p := ⟨gb109, _, none⟩) NB108_109.out _).trans (((cell_far (p := ⟨gb109, _, none⟩) NB108_109.out _).trans (((cell_far (p := ⟨gb109, _, none⟩) NB108_109.out _).trans (((cell_far (p := ⟨gb109, _, none⟩) NB108_109.out _).trans (((cell_far (p := ⟨gb109, _, none⟩) NB108_109.out _).trans (((cell_far (p := ⟨gb109, _, none⟩) NB108_109.out _).trans (((cell_far (p := ⟨gb109, _, none⟩) NB108_109.out _).trans (((cell_far (p := ⟨gb109, _, none⟩) NB108_109.out _).trans (hHeld.2.2.2.2.2.1)))))))))))))))), ((cell_far (p := ⟨gb109, _, none⟩) NB108_109.out _).trans (((cell_far (p := ⟨gb109, _, none⟩) NB108_109.out _).trans (((cell_far (p := ⟨gb109, _, none⟩) NB108_109.out _).trans (((cell_far (p := ⟨gb109, _, none⟩) NB108_109.out _).trans (((cell_far (p := ⟨gb109, _, none⟩) NB108_109.out _).trans (((cell_far (p := ⟨gb109, _, none⟩) NB108_109.out _).trans (((cell_far (p := ⟨gb109, _, none⟩) NB108_109.out _).trans (((cell_far (p := ⟨gb109, _, none⟩) NB108_109.out _).trans (hHeld.2.2.2.2.2.2.1)))))))))))))))), ((cell_far (p := ⟨gb109, _, none⟩) NB108_109.out _).trans (((cell_far (p := ⟨gb109, _, none⟩) NB108_109.out _).trans (((cell_far (p := ⟨gb109, _, none⟩) NB108_109.out _).trans (((cell_far (p := ⟨gb109, _, none⟩) NB108_109.out _).trans (((cell_far (p := ⟨gb109, _, none⟩) NB108_109.out _).trans (((cell_far (p := ⟨gb109, _, none⟩) NB108_109.out _).trans (((cell_far (p := ⟨gb109, _, none⟩) NB108_109.out _).trans (((cell_far (p := ⟨gb109, _, none⟩) NB108_109.out _).trans (hHeld.2.2.2.2.2.2.2))))))))))))))))⟩ (fun hHeld => ?_)
  clear hK K
  refine done_ (done_of HT_.out (by kernel_rfl)) ?_
  try go_wp2
  refine bodyPost_ret (results_cell_row rfl _ _ gb109 40 #[.int .u32 a0_0, .int .u64 a0_1, .int .u32 a0_2, .int .u32 a0_3, .int .u32 a0_4, .int .u32 a0_5, .int .u32 a0_6, .slice Ao7 t110.length co7] (0, 0) _ rfl (by (with_reducible repeat (first | refine blk_drewN ?_ _ | refine blk_drew ?_ | refine blk_alloc ?_ _)); refine blk_put (cs := #[.int .u32 a0_0, .int .u64 a0_1, .int .u32 a0_2, .int .u32 a0_3, .int .u32 a0_4, .int .u32 a0_5, .int .u32 a0_6, .slice none 0 0]) ?_ 7 _ rfl; (with_reducible repeat (first | refine blk_drewN ?_ _ | refine blk_drew ?_ | refine blk_alloc ?_ _)); refine blk_put (cs := #[.int .u32 a0_0, .int .u64 a0_1, .int .u32 a0_2, .int .u32 a0_3, .int .u32 a0_4, .int .u32 a0_5, .int .u32 0, .slice none 0 0]) ?_ 6 _ rfl; (with_reducible repeat (first | refine blk_drewN ?_ _ | refine blk_drew ?_ | refine blk_alloc ?_ _)); refine blk_put (cs := #[.int .u32 a0_0, .int .u64 a0_1, .int .u32 a0_2, .int .u32 a0_3, .int .u32 a0_4, .int .u32 0, .int .u32 0, .slice none 0 0]) ?_ 5 _ rfl; (with_reducible repeat (first | refine blk_drewN ?_ _ | refine blk_drew ?_ | refine blk_alloc ?_ _)); refine blk_put (cs := #[.int .u32 a0_0, .int .u64 a0_1, .int .u32 a0_2, .int .u32 a0_3, .int .u32 0, .int .u32 0, .int .u32 0, .slice none 0 0]) ?_ 4 _ rfl; (with_reducible repeat (first | refine blk_drewN ?_ _ | refine blk_drew ?_ | refine blk_alloc ?_ _)); refine blk_put (cs := #[.int .u32 a0_0, .int .u64 a0_1, .int .u32 a0_2, .int .u32 0, .int .u32 0, .int .u32 0, .int .u32 0, .slice none 0 0]) ?_ 3 _ rfl; (with_reducible repeat (first | refine blk_drewN ?_ _ | refine blk_drew ?_ | refine blk_alloc ?_ _)); refine blk_put (cs := #[.int .u32 a0_0, .int .u64 a0_1, .int .u32 0, .int .u32 0, .int .u32 0, .int .u32 0, .int .u32 0, .slice none 0 0]) ?_ 2 _ rfl; (with_reducible repeat (first | refine blk_drewN ?_ _ | refine blk_drew ?_ | refine blk_alloc ?_ _)); refine blk_put (cs := #[.int .u32 a0_0, .int .u64 0, .int .u32 0, .int .u32 0, .int .u32 0, .int .u32 0, .int .u32 0, .slice none 0 0]) ?_ 1 _ rfl; (with_reducible repeat (first | refine blk_drewN ?_ _ | refine blk_drew ?_ | refine blk_alloc ?_ _)); refine blk_put (cs := #[.int .u32 0, .int .u64 0, .int .u32 0, .int .u32 0, .int .u32 0, .int .u32 0, .int .u32 0, .slice none 0 0]) ?_ 0 _ rfl; (with_reducible repeat (first | refine blk_drewN ?_ _ | refine blk_drew ?_ | refine blk_alloc ?_ _)); exact BK109.out) Tryz.underlying40 rfl (by kernel_rfl)) rfl ?_
  exact ⟨_, by first | rfl | (simp [errW_none, errW_some] <;> rfl) | (simp [*, errW_none, errW_some] <;> rfl), by (with_reducible repeat (first | apply Kd.R_alloc | apply Kd.R_drewN | apply Kd.R_drew)); exact Kd.R_mono (Kd.R_far (p := ⟨gb109, 7, none⟩) (Kd.R_far (p := ⟨gb109, 6, none⟩) (Kd.R_far (p := ⟨gb109, 5, none⟩) (Kd.R_far (p := ⟨gb109, 4, none⟩) (Kd.R_far (p := ⟨gb109, 3, none⟩) (Kd.R_far (p := ⟨gb109, 2, none⟩) (Kd.R_far (p := ⟨gb109, 1, none⟩) (Kd.R_far (p := ⟨gb109, 0, none⟩) (Kd.R_types HO112.out BK109.out (by decide)) (fun _ hk => hk.2) (.int .u32 a0_0)) (fun _ hk => hk.2) (.int .u64 a0_1)) (fun _ hk => hk.2) (.int .u32 a0_2)) (fun _ hk => hk.2) (.int .u32 a0_3)) (fun _ hk => hk.2) (.int .u32 a0_4)) (fun _ hk => hk.2) (.int .u32 a0_5)) (fun _ hk => hk.2) (.int .u32 a0_6)) (fun _ hk => hk.2) (.slice Ao7 t110.length co7)) (fun _ hk => trivial), by repeat (first | (with_reducible first | exact HB.out | apply below_alloc | apply pw_below_drewN | apply below_drew1 | refine below_set ?_ GE108.out | refine below_set ?_ GE109.out) | exact HB.out)⟩
def laws_implAttrs.l0 : Nat → List (S147) → Int → Int → Int → Int → Int → Int → Int → Int → Int → List (S89) → Option (Int × Int × Int × Int × Int × Int × Int × (List (S89)))
  | 0, _, _, _, _, _, _, _, _, _, _, _ => none
  | k + 1, x22, x23, x24, x116000, x116001, x116002, x116003, x116004, x116005, x116006, x116007 => if x24 < x23 then (if 0 ≤ x24 then (if x24 < (x22.length : Int) then (if x116007.length < 4398046511104 then (laws_implAttrs.l0 k x22 x23 (wrap64 (x24 + 1)) x116000 x116001 x116002 x116003 x116004 x116005 x116006 (x116007 ++ [(⟨(rd_T147 x22 x24).f0, (rd_T147 x22 x24).f1⟩ : S89)])) else (none)) else (none)) else (none)) else (some (x116000, x116001, x116002, x116003, x116004, x116005, x116006, x116007))
def laws_implAttrs.f (k : Nat) (a0_0 : Int) (a0_1 : Int) (a0_2 : Int) (a0_3 : Int) (a0_4 : Int) (a0_5 : Int) (a0_6 : Int) (l0_7 : List (S147)) : Option (Int × Int × Int × Int × Int × Int × Int × (List (S89))) := laws_implAttrs.l0 k l0_7 (l0_7.length : Int) 0 a0_0 a0_1 a0_2 a0_3 a0_4 a0_5 a0_6 ([] : List (S89))
theorem laws_implAttrs.mono_l : ∀ k, (∀ y0 y1 y2 y3 y4 y5 y6 y7 y8 y9 y10, LeO (laws_implAttrs.l0 k y0 y1 y2 y3 y4 y5 y6 y7 y8 y9 y10) (laws_implAttrs.l0 (k + 1) y0 y1 y2 y3 y4 y5 y6 y7 y8 y9 y10))
  | 0 => fun _ _ _ _ _ _ _ _ _ _ _ r h => by simp [laws_implAttrs.l0] at h
  | k + 1 => by
    have ih0 := laws_implAttrs.mono_l k
    · intro y0 y1 y2 y3 y4 y5 y6 y7 y8 y9 y10
      unfold laws_implAttrs.l0
      repeat' first
      | (with_reducible exact ih0 _ _ _ _ _ _ _ _ _ _ _)
      | (with_reducible exact LeO.refl _)
      | (with_reducible exact LeO.none _)
      | (with_reducible refine LeO.ite ?_ ?_)
      | (with_reducible refine LeO.bind ?_ (fun _ => ?_))
      | exact ih0 _ _ _ _ _ _ _ _ _ _ _
      | exact LeO.none _
      | refine LeO.ite ?_ ?_
      | refine LeO.bind ?_ (fun _ => ?_)
theorem laws_implAttrs.mono : ∀ a0 a1 a2 a3 a4 a5 a6 a7 k, LeO (laws_implAttrs.f k a0 a1 a2 a3 a4 a5 a6 a7) (laws_implAttrs.f (k + 1) a0 a1 a2 a3 a4 a5 a6 a7) := by
  intro a0 a1 a2 a3 a4 a5 a6 a7 k
  have ih0 := laws_implAttrs.mono_l k
  unfold laws_implAttrs.f
  repeat' first
      | (with_reducible exact ih0 _ _ _ _ _ _ _ _ _ _ _)
      | (with_reducible exact LeO.refl _)
      | (with_reducible exact LeO.none _)
      | (with_reducible refine LeO.ite ?_ ?_)
      | (with_reducible refine LeO.bind ?_ (fun _ => ?_))
      | exact ih0 _ _ _ _ _ _ _ _ _ _ _
      | exact LeO.none _
      | refine LeO.ite ?_ ?_
      | refine LeO.bind ?_ (fun _ => ?_)
set_option maxHeartbeats 8000000 in
set_option maxRecDepth 100000 in
theorem laws_implAttrs.calls (k : Nat) (a0_0 : Int) (a0_1 : Int) (a0_2 : Int) (a0_3 : Int) (a0_4 : Int) (a0_5 : Int) (a0_6 : Int) (A0_7 : Option Addr) (c0_7 : Nat) (l0_7 : List (S147)) (r1 : Int) (r2 : Int) (r3 : Int) (r4 : Int) (r5 : Int) (r6 : Int) (r7 : Int) (r8 : List (S89)) (w : World) (hr0_7 : Kd.C k147 w A0_7 l0_7.length l0_7) (hc0_7 : l0_7.length ≤ c0_7) (h : laws_implAttrs.f k a0_0 a0_1 a0_2 a0_3 a0_4 a0_5 a0_6 l0_7 = some (r1, r2, r3, r4, r5, r6, r7, r8)) :
    Calls Tryz.prog 34 #[.agg #[.int .u32 a0_0, .int .u64 a0_1, .int .u32 a0_2, .int .u32 a0_3, .int .u32 a0_4, .int .u32 a0_5, .int .u32 a0_6, .slice A0_7 l0_7.length c0_7]] w fun e w' => ∃ v7_ : Value, e = .returned (.agg #[.int .u32 r1, .int .u64 r2, .int .u32 r3, .int .u32 r4, .int .u32 r5, .int .u32 r6, .int .u32 r7, v7_]) ∧ Kd.R k89 89 w' w.heap.size (fun _ => True) v7_ r8 ∧ Below w.heap.size w w' := by
  have hu40 := Tryz.underlying40
  have hu26 := Tryz.underlying26
  have hu147 := Tryz.underlying147
  have HR0_7 := Aside0.mk hr0_7
  have HC0_7 := Aside0.mk hc0_7
  clear hr0_7 hc0_7
  have HB := Aside0.mk (Below.refl w.heap.size w)
  have H : (laws_implAttrs.l0 k l0_7 (l0_7.length : Int) 0 a0_0 a0_1 a0_2 a0_3 a0_4 a0_5 a0_6 ([] : List (S89))) = some (r1, r2, r3, r4, r5, r6, r7, r8) := h
  clear h
  have H' := Aside0.mk H
  clear H
  go_enter Tryz.func34, Tryz.ntmps34
  go_wp2_with (first | ((with_reducible refine gate_dst (N := 1) rfl ?_); refine box_event ?hg (N := 1) ?hd (cs := #[.int .u32 a0_0, .int .u64 a0_1, .int .u32 a0_2, .int .u32 a0_3, .int .u32 a0_4, .int .u32 a0_5, .int .u32 a0_6, .slice A0_7 l0_7.length c0_7]) (t := 40) ?hr ?_; (case hd => rfl); (case hg => rfl); (case hr => first | (go_simp; done) | (go_simp; rfl)); intro gb113 hg w2 hbox hb; have n0_ := Aside0.mk (below_step (by repeat (first | (with_reducible first | exact HB.out | apply below_alloc | apply pw_below_drewN | apply below_drew1) | exact HB.out)) hb); have n1_ := Aside0.mk (hbox); have n2_ := Aside0.mk ((by rw [hg]; exact (below_size (by repeat (first | (with_reducible first | exact HB.out | apply below_alloc | apply pw_below_drewN | apply below_drew1) | exact HB.out))) : w.heap.size ≤ gb113)); have n3_ := Aside0.mk ((by rw [hg]; exact (below_size (by repeat (first | (with_reducible first | exact HB.out | apply below_alloc | apply pw_below_drewN | apply below_drew1) | exact HB.out))) : w.heap.size ≤ gb113)); clear HB; have HB := n0_; have BK113 := n1_; have GW113 := n2_; have GE113 := n3_; clear n0_ n1_ n2_ n3_; clear hb hbox hg) | ((with_reducible refine gate_dst (N := 2) rfl ?_); refine box_event ?hg (N := 2) ?hd (cs := #[.int .u32 0, .int .u64 0, .int .u32 0, .int .u32 0, .int .u32 0, .int .u32 0, .int .u32 0, .slice none 0 0]) (t := 26) ?hr ?_; (case hd => rfl); (case hg => rfl); (case hr => first | (go_simp; done) | (go_simp; rfl)); intro gb114 hg w3 hbox hb; have n0_ := Aside0.mk (blk_below (g := gb113) (o := .cells #[.int .u32 a0_0, .int .u64 a0_1, .int .u32 a0_2, .int .u32 a0_3, .int .u32 a0_4, .int .u32 a0_5, .int .u32 a0_6, .slice A0_7 l0_7.length c0_7] 40 (0, 0)) (by (with_reducible repeat (first | refine blk_drewN ?_ _ | refine blk_drew ?_ | refine blk_alloc ?_ _)); exact BK113.out) hb); have n1_ := Aside0.mk (below_step (by repeat (first | (with_reducible first | exact HB.out | apply below_alloc | apply pw_below_drewN | apply below_drew1 | refine below_set ?_ GE113.out) | exact HB.out)) hb); have n2_ := Aside0.mk (hbox); have n3_ := Aside0.mk ((by rw [hg]; exact (below_size (by repeat (first | (with_reducible first | exact HB.out | apply below_alloc | apply pw_below_drewN | apply below_drew1 | refine below_set ?_ GE113.out) | exact HB.out))) : w.heap.size ≤ gb114)); have n4_ := Aside0.mk ((by rw [hg]; exact (below_size (by repeat (first | (with_reducible first | exact HB.out | apply below_alloc | apply pw_below_drewN | apply below_drew1 | refine below_set ?_ GE113.out) | exact HB.out))) : w.heap.size ≤ gb114)); have n5_ := Aside0.mk ((by rw [hg]; exact Nat.ne_of_lt (blk_lt (g := gb113) (o := .cells #[.int .u32 a0_0, .int .u64 a0_1, .int .u32 a0_2, .int .u32 a0_3, .int .u32 a0_4, .int .u32 a0_5, .int .u32 a0_6, .slice A0_7 l0_7.length c0_7] 40 (0, 0)) (by (with_reducible repeat (first | refine blk_drewN ?_ _ | refine blk_drew ?_ | refine blk_alloc ?_ _)); exact BK113.out)) : gb113 ≠ gb114)); have n6_ := Aside0.mk ((by rw [hg]; exact Nat.ne_of_gt (blk_lt (g := gb113) (o := .cells #[.int .u32 a0_0, .int .u64 a0_1, .int .u32 a0_2, .int .u32 a0_3, .int .u32 a0_4, .int .u32 a0_5, .int .u32 a0_6, .slice A0_7 l0_7.length c0_7] 40 (0, 0)) (by (with_reducible repeat (first | refine blk_drewN ?_ _ | refine blk_drew ?_ | refine blk_alloc ?_ _)); exact BK113.out)) : gb114 ≠ gb113)); clear BK113; clear HB; have BK113 := n0_; have HB := n1_; have BK114 := n2_; have GW114 := n3_; have GE114 := n4_; have NB113_114 := n5_; have NB114_113 := n6_; clear n0_ n1_ n2_ n3_ n4_ n5_ n6_; clear hb hbox hg; have hnb4 := NB113_114.out; have hnc4 := NB114_113.out; have hcz5_0 : w3.cell? ⟨gb113, 0, none⟩ = some (.int .u32 a0_0) := (blk_cell BK113.out 0).trans rfl; have hcz5_1 : w3.cell? ⟨gb113, 1, none⟩ = some (.int .u64 a0_1) := (blk_cell BK113.out 1).trans rfl; have hcz5_2 : w3.cell? ⟨gb113, 2, none⟩ = some (.int .u32 a0_2) := (blk_cell BK113.out 2).trans rfl; have hcz5_3 : w3.cell? ⟨gb113, 3, none⟩ = some (.int .u32 a0_3) := (blk_cell BK113.out 3).trans rfl; have hcz5_4 : w3.cell? ⟨gb113, 4, none⟩ = some (.int .u32 a0_4) := (blk_cell BK113.out 4).trans rfl; have hcz5_5 : w3.cell? ⟨gb113, 5, none⟩ = some (.int .u32 a0_5) := (blk_cell BK113.out 5).trans rfl; have hcz5_6 : w3.cell? ⟨gb113, 6, none⟩ = some (.int .u32 a0_6) := (blk_cell BK113.out 6).trans rfl; have hcz5_7 : w3.cell? ⟨gb113, 7, none⟩ = some (.slice A0_7 l0_7.length c0_7) := (blk_cell BK113.out 7).trans rfl; have hfz5_0 := blk_frozen BK113.out 0; have hfz5_1 := blk_frozen BK113.out 1; have hfz5_2 := blk_frozen BK113.out 2; have hfz5_3 := blk_frozen BK113.out 3; have hfz5_4 := blk_frozen BK113.out 4; have hfz5_5 := blk_frozen BK113.out 5; have hfz5_6 := blk_frozen BK113.out 6; have hfz5_7 := blk_frozen BK113.out 7) | ((with_reducible refine gate_dst (N := 3) rfl ?_); refine box_event ?hg (N := 3) ?hd (cs := #[.int .u32 0, .int .u64 0, .int .u32 0, .int .u32 0, .int .u32 0, .int .u32 0, .int .u32 0, .slice none 0 0]) (t := 26) ?hr ?_; (case hd => rfl); (case hg => rfl); (case hr => first | (go_simp; done) | (go_simp; rfl)); intro gb115 hg w6 hbox hb; have n0_ := Aside0.mk (blk_below (g := gb113) (o := .cells #[.int .u32 a0_0, .int .u64 a0_1, .int .u32 a0_2, .int .u32 a0_3, .int .u32 a0_4, .int .u32 a0_5, .int .u32 a0_6, .slice A0_7 l0_7.length c0_7] 40 (0, 0)) (by (with_reducible repeat (first | refine blk_drewN ?_ _ | refine blk_drew ?_ | refine blk_alloc ?_ _)); exact BK113.out) hb); have n1_ := Aside0.mk (blk_below (g := gb114) (o := .cells #[.int .u32 0, .int .u64 0, .int .u32 0, .int .u32 0, .int .u32 0, .int .u32 0, .int .u32 0, .slice none 0 0] 26 (0, 0)) (by (with_reducible repeat (first | refine blk_drewN ?_ _ | refine blk_drew ?_ | refine blk_alloc ?_ _)); exact BK114.out) hb); have n2_ := Aside0.mk (below_step (by repeat (first | (with_reducible first | exact HB.out | apply below_alloc | apply pw_below_drewN | apply below_drew1 | refine below_set ?_ GE113.out | refine below_set ?_ GE114.out) | exact HB.out)) hb); have n3_ := Aside0.mk (hbox); have n4_ := Aside0.mk ((by rw [hg]; exact (below_size (by repeat (first | (with_reducible first | exact HB.out | apply below_alloc | apply pw_below_drewN | apply below_drew1 | refine below_set ?_ GE113.out | refine below_set ?_ GE114.out) | exact HB.out))) : w.heap.size ≤ gb115)); have n5_ := Aside0.mk ((by rw [hg]; exact (below_size (by repeat (first | (with_reducible first | exact HB.out | apply below_alloc | apply pw_below_drewN | apply below_drew1 | refine below_set ?_ GE113.out | refine below_set ?_ GE114.out) | exact HB.out))) : w.heap.size ≤ gb115)); have n6_ := Aside0.mk ((by rw [hg]; exact Nat.ne_of_lt (blk_lt (g := gb113) (o := .cells #[.int .u32 a0_0, .int .u64 a0_1, .int .u32 a0_2, .int .u32 a0_3, .int .u32 a0_4, .int .u32 a0_5, .int .u32 a0_6, .slice A0_7 l0_7.length c0_7] 40 (0, 0)) (by (with_reducible repeat (first | refine blk_drewN ?_ _ | refine blk_drew ?_ | refine blk_alloc ?_ _)); exact BK113.out)) : gb113 ≠ gb115)); have n7_ := Aside0.mk ((by rw [hg]; exact Nat.ne_of_gt (blk_lt (g := gb113) (o := .cells #[.int .u32 a0_0, .int .u64 a0_1, .int .u32 a0_2, .int .u32 a0_3, .int .u32 a0_4, .int .u32 a0_5, .int .u32 a0_6, .slice A0_7 l0_7.length c0_7] 40 (0, 0)) (by (with_reducible repeat (first | refine blk_drewN ?_ _ | refine blk_drew ?_ | refine blk_alloc ?_ _)); exact BK113.out)) : gb115 ≠ gb113)); have n8_ := Aside0.mk ((by rw [hg]; exact Nat.ne_of_lt (blk_lt (g := gb114) (o := .cells #[.int .u32 0, .int .u64 0, .int .u32 0, .int .u32 0, .int .u32 0, .int .u32 0, .int .u32 0, .slice none 0 0] 26 (0, 0)) (by (with_reducible repeat (first | refine blk_drewN ?_ _ | refine blk_drew ?_ | refine blk_alloc ?_ _)); exact BK114.out)) : gb114 ≠ gb115)); have n9_ := Aside0.mk ((by rw [hg]; exact Nat.ne_of_gt (blk_lt (g := gb114) (o := .cells #[.int .u32 0, .int .u64 0, .int .u32 0, .int .u32 0, .int .u32 0, .int .u32 0, .int .u32 0, .slice none 0 0] 26 (0, 0)) (by (with_reducible repeat (first | refine blk_drewN ?_ _ | refine blk_drew ?_ | refine blk_alloc ?_ _)); exact BK114.out)) : gb115 ≠ gb114)); clear BK113; clear BK114; clear HB; have BK113 := n0_; have BK114 := n1_; have HB := n2_; have BK115 := n3_; have GW115 := n4_; have GE115 := n5_; have NB113_115 := n6_; have NB115_113 := n7_; have NB114_115 := n8_; have NB115_114 := n9_; clear n0_ n1_ n2_ n3_ n4_ n5_ n6_ n7_ n8_ n9_; clear hb hbox hg; have hnb7 := NB115_113.out; have hnc7 := NB113_115.out; have hnb8 := NB115_114.out; have hnc8 := NB114_115.out; have hcz9_0 : w6.cell? ⟨gb115, 0, none⟩ = some (.int .u32 0) := (blk_cell BK115.out 0).trans rfl; have hcz9_1 : w6.cell? ⟨gb115, 1, none⟩ = some (.int .u64 0) := (blk_cell BK115.out 1).trans rfl; have hcz9_2 : w6.cell? ⟨gb115, 2, none⟩ = some (.int .u32 0) := (blk_cell BK115.out 2).trans rfl; have hcz9_3 : w6.cell? ⟨gb115, 3, none⟩ = some (.int .u32 0) := (blk_cell BK115.out 3).trans rfl; have hcz9_4 : w6.cell? ⟨gb115, 4, none⟩ = some (.int .u32 0) := (blk_cell BK115.out 4).trans rfl; have hcz9_5 : w6.cell? ⟨gb115, 5, none⟩ = some (.int .u32 0) := (blk_cell BK115.out 5).trans rfl; have hcz9_6 : w6.cell? ⟨gb115, 6, none⟩ = some (.int .u32 0) := (blk_cell BK115.out 6).trans rfl; have hcz9_7 : w6.cell? ⟨gb115, 7, none⟩ = some (.slice none 0 0) := (blk_cell BK115.out 7).trans rfl; have hfz9_0 := blk_frozen BK115.out 0; have hfz9_1 := blk_frozen BK115.out 1; have hfz9_2 := blk_frozen BK115.out 2; have hfz9_3 := blk_frozen BK115.out 3; have hfz9_4 := blk_frozen BK115.out 4; have hfz9_5 := blk_frozen BK115.out 5; have hfz9_6 := blk_frozen BK115.out 6; have hfz9_7 := blk_frozen BK115.out 7; have hcz10_0 : w6.cell? ⟨gb113, 0, none⟩ = some (.int .u32 a0_0) := (blk_cell BK113.out 0).trans rfl; have hcz10_1 : w6.cell? ⟨gb113, 1, none⟩ = some (.int .u64 a0_1) := (blk_cell BK113.out 1).trans rfl; have hcz10_2 : w6.cell? ⟨gb113, 2, none⟩ = some (.int .u32 a0_2) := (blk_cell BK113.out 2).trans rfl; have hcz10_3 : w6.cell? ⟨gb113, 3, none⟩ = some (.int .u32 a0_3) := (blk_cell BK113.out 3).trans rfl; have hcz10_4 : w6.cell? ⟨gb113, 4, none⟩ = some (.int .u32 a0_4) := (blk_cell BK113.out 4).trans rfl; have hcz10_5 : w6.cell? ⟨gb113, 5, none⟩ = some (.int .u32 a0_5) := (blk_cell BK113.out 5).trans rfl; have hcz10_6 : w6.cell? ⟨gb113, 6, none⟩ = some (.int .u32 a0_6) := (blk_cell BK113.out 6).trans rfl; have hcz10_7 : w6.cell? ⟨gb113, 7, none⟩ = some (.slice A0_7 l0_7.length c0_7) := (blk_cell BK113.out 7).trans rfl; have hfz10_0 := blk_frozen BK113.out 0; have hfz10_1 := blk_frozen BK113.out 1; have hfz10_2 := blk_frozen BK113.out 2; have hfz10_3 := blk_frozen BK113.out 3; have hfz10_4 := blk_frozen BK113.out 4; have hfz10_5 := blk_frozen BK113.out 5; have hfz10_6 := blk_frozen BK113.out 6; have hfz10_7 := blk_frozen BK113.out 7))
  go_loopg [24] k (fun kq v24 w' => ∃ (x24_1 : Int) (x116007_1 : List (S89)) (u116007 : Value), v24 = .int .i64 x24_1 ∧ Aside0 (laws_implAttrs.l0 kq l0_7 (l0_7.length : Int) x24_1 a0_0 a0_1 a0_2 a0_3 a0_4 a0_5 a0_6 x116007_1 = some (r1, r2, r3, r4, r5, r6, r7, r8)) ∧ Aside0 (kq ≤ k) ∧ Aside0 (Kd.R k89 89 w' w.heap.size (fun _ => True) u116007 x116007_1) ∧ Aside0 (w'.heap[gb113]? = some (.cells #[.int .u32 a0_0, .int .u64 a0_1, .int .u32 a0_2, .int .u32 a0_3, .int .u32 a0_4, .int .u32 a0_5, .int .u32 a0_6, (.slice A0_7 l0_7.length c0_7)] 40 (0, 0))) ∧ Aside0 (w'.heap[gb114]? = some (.cells #[.int .u32 0, .int .u64 0, .int .u32 0, .int .u32 0, .int .u32 0, .int .u32 0, .int .u32 0, (.slice none 0 0)] 26 (0, 0))) ∧ Aside0 (w'.heap[gb115]? = some (.cells #[.int .u32 a0_0, .int .u64 a0_1, .int .u32 a0_2, .int .u32 a0_3, .int .u32 a0_4, .int .u32 a0_5, .int .u32 a0_6, u116007] 26 (0, 0))) ∧ Aside0 (Below w.heap.size w w'))
  case atStart => exact ⟨(0), (([] : List (S89))), (.slice none 0 0), (by first | rfl | (simp; done) | (simp [*]; done)), H', ⟨Nat.le_refl _⟩, ⟨by first | exact Kd.R_nil _ _ _ _ _ | exact Kd.N_nil _ _ _ _ _ | exact Kd.V_nil _ _ _ _ _ | exact Kd.Q_nil _ _ _ _ _ | exact Kd.S_nil _ _ _ _ _⟩, ⟨by (with_reducible repeat (first | refine blk_drewN ?_ _ | refine blk_drew ?_ | refine blk_alloc ?_ _)); refine blk_far ?_ NB113_115.out _; (with_reducible repeat (first | refine blk_drewN ?_ _ | refine blk_drew ?_ | refine blk_alloc ?_ _)); refine blk_far ?_ NB113_115.out _; (with_reducible repeat (first | refine blk_drewN ?_ _ | refine blk_drew ?_ | refine blk_alloc ?_ _)); refine blk_far ?_ NB113_115.out _; (with_reducible repeat (first | refine blk_drewN ?_ _ | refine blk_drew ?_ | refine blk_alloc ?_ _)); refine blk_far ?_ NB113_115.out _; (with_reducible repeat (first | refine blk_drewN ?_ _ | refine blk_drew ?_ | refine blk_alloc ?_ _)); refine blk_far ?_ NB113_115.out _; (with_reducible repeat (first | refine blk_drewN ?_ _ | refine blk_drew ?_ | refine blk_alloc ?_ _)); refine blk_far ?_ NB113_115.out _; (with_reducible repeat (first | refine blk_drewN ?_ _ | refine blk_drew ?_ | refine blk_alloc ?_ _)); refine blk_far ?_ NB113_115.out _; (with_reducible repeat (first | refine blk_drewN ?_ _ | refine blk_drew ?_ | refine blk_alloc ?_ _)); refine blk_far ?_ NB113_115.out _; (with_reducible repeat (first | refine blk_drewN ?_ _ | refine blk_drew ?_ | refine blk_alloc ?_ _)); exact BK113.out⟩, ⟨by (with_reducible repeat (first | refine blk_drewN ?_ _ | refine blk_drew ?_ | refine blk_alloc ?_ _)); refine blk_far ?_ NB114_115.out _; (with_reducible repeat (first | refine blk_drewN ?_ _ | refine blk_drew ?_ | refine blk_alloc ?_ _)); refine blk_far ?_ NB114_115.out _; (with_reducible repeat (first | refine blk_drewN ?_ _ | refine blk_drew ?_ | refine blk_alloc ?_ _)); refine blk_far ?_ NB114_115.out _; (with_reducible repeat (first | refine blk_drewN ?_ _ | refine blk_drew ?_ | refine blk_alloc ?_ _)); refine blk_far ?_ NB114_115.out _; (with_reducible repeat (first | refine blk_drewN ?_ _ | refine blk_drew ?_ | refine blk_alloc ?_ _)); refine blk_far ?_ NB114_115.out _; (with_reducible repeat (first | refine blk_drewN ?_ _ | refine blk_drew ?_ | refine blk_alloc ?_ _)); refine blk_far ?_ NB114_115.out _; (with_reducible repeat (first | refine blk_drewN ?_ _ | refine blk_drew ?_ | refine blk_alloc ?_ _)); refine blk_far ?_ NB114_115.out _; (with_reducible repeat (first | refine blk_drewN ?_ _ | refine blk_drew ?_ | refine blk_alloc ?_ _)); refine blk_far ?_ NB114_115.out _; (with_reducible repeat (first | refine blk_drewN ?_ _ | refine blk_drew ?_ | refine blk_alloc ?_ _)); exact BK114.out⟩, ⟨by (with_reducible repeat (first | refine blk_drewN ?_ _ | refine blk_drew ?_ | refine blk_alloc ?_ _)); refine blk_put (cs := #[.int .u32 a0_0, .int .u64 a0_1, .int .u32 a0_2, .int .u32 a0_3, .int .u32 a0_4, .int .u32 a0_5, .int .u32 a0_6, .slice none 0 0]) ?_ 7 _ rfl; (with_reducible repeat (first | refine blk_drewN ?_ _ | refine blk_drew ?_ | refine blk_alloc ?_ _)); refine blk_put (cs := #[.int .u32 a0_0, .int .u64 a0_1, .int .u32 a0_2, .int .u32 a0_3, .int .u32 a0_4, .int .u32 a0_5, .int .u32 0, .slice none 0 0]) ?_ 6 _ rfl; (with_reducible repeat (first | refine blk_drewN ?_ _ | refine blk_drew ?_ | refine blk_alloc ?_ _)); refine blk_put (cs := #[.int .u32 a0_0, .int .u64 a0_1, .int .u32 a0_2, .int .u32 a0_3, .int .u32 a0_4, .int .u32 0, .int .u32 0, .slice none 0 0]) ?_ 5 _ rfl; (with_reducible repeat (first | refine blk_drewN ?_ _ | refine blk_drew ?_ | refine blk_alloc ?_ _)); refine blk_put (cs := #[.int .u32 a0_0, .int .u64 a0_1, .int .u32 a0_2, .int .u32 a0_3, .int .u32 0, .int .u32 0, .int .u32 0, .slice none 0 0]) ?_ 4 _ rfl; (with_reducible repeat (first | refine blk_drewN ?_ _ | refine blk_drew ?_ | refine blk_alloc ?_ _)); refine blk_put (cs := #[.int .u32 a0_0, .int .u64 a0_1, .int .u32 a0_2, .int .u32 0, .int .u32 0, .int .u32 0, .int .u32 0, .slice none 0 0]) ?_ 3 _ rfl; (with_reducible repeat (first | refine blk_drewN ?_ _ | refine blk_drew ?_ | refine blk_alloc ?_ _)); refine blk_put (cs := #[.int .u32 a0_0, .int .u64 a0_1, .int .u32 0, .int .u32 0, .int .u32 0, .int .u32 0, .int .u32 0, .slice none 0 0]) ?_ 2 _ rfl; (with_reducible repeat (first | refine blk_drewN ?_ _ | refine blk_drew ?_ | refine blk_alloc ?_ _)); refine blk_put (cs := #[.int .u32 a0_0, .int .u64 0, .int .u32 0, .int .u32 0, .int .u32 0, .int .u32 0, .int .u32 0, .slice none 0 0]) ?_ 1 _ rfl; (with_reducible repeat (first | refine blk_drewN ?_ _ | refine blk_drew ?_ | refine blk_alloc ?_ _)); refine blk_put (cs := #[.int .u32 0, .int .u64 0, .int .u32 0, .int .u32 0, .int .u32 0, .int .u32 0, .int .u32 0, .slice none 0 0]) ?_ 0 _ rfl; (with_reducible repeat (first | refine blk_drewN ?_ _ | refine blk_drew ?_ | refine blk_alloc ?_ _)); exact BK115.out⟩, ⟨by repeat (first | (with_reducible first | exact HB.out | apply below_alloc | apply pw_below_drewN | apply below_drew1 | refine below_set ?_ GE113.out | refine below_set ?_ GE114.out | refine below_set ?_ GE115.out) | exact HB.out)⟩⟩
  case round =>
    clear H'
    try clear p2
    try clear c3
    try clear c4
    try clear c7
    try clear c8
    try clear hcz10_0
    try clear hcz10_1
    try clear hcz10_2
    try clear hcz10_3
    try clear hcz10_4
    try clear hcz10_5
    try clear hcz10_6
    try clear hcz10_7
    try clear hcz5_0
    try clear hcz5_1
    try clear hcz5_2
    try clear hcz5_3
    try clear hcz5_4
    try clear hcz5_5
    try clear hcz5_6
    try clear hcz5_7
    try clear hcz9_0
    try clear hcz9_1
    try clear hcz9_2
    try clear hcz9_3
    try clear hcz9_4
    try clear hcz9_5
    try clear hcz9_6
    try clear hcz9_7
    try clear hfz10_0
    try clear hfz10_1
    try clear hfz10_2
    try clear hfz10_3
    try clear hfz10_4
    try clear hfz10_5
    try clear hfz10_6
    try clear hfz10_7
    try clear hfz5_0
    try clear hfz5_1
    try clear hfz5_2
    try clear hfz5_3
    try clear hfz5_4
    try clear hfz5_5
    try clear hfz5_6
    try clear hfz5_7
    try clear hfz9_0
    try clear hfz9_1
    try clear hfz9_2
    try clear hfz9_3
    try clear hfz9_4
    try clear hfz9_5
    try clear hfz9_6
    try clear hfz9_7
    obtain ⟨x24_1, x116007_1, u116007, rfl, HA, HK1, HO_116007, BK113, BK114, BK115, HB⟩ := hrel
    cases gk with
    | zero => exact absurd HA.out (by simp [laws_implAttrs.l0])
    | succ k1 =>
      have H := HA.out
      clear HA
      simp only [laws_implAttrs.l0] at H
      by_cases c11 : x24_1 < (l0_7.length : Int)
      · rw [if_pos c11] at H
        have c11b0 : decide (x24_1 < (l0_7.length : Int)) = true := decide_eq_true c11
        clear c11
        by_cases c12 : 0 ≤ x24_1
        · rw [if_pos c12] at H
          have c12b0 : decide (0 ≤ x24_1) = true := decide_eq_true c12
          clear c12
          by_cases c13 : x24_1 < (l0_7.length : Int)
          · rw [if_pos c13] at H
            have c13b0 : decide (x24_1 < (l0_7.length : Int)) = true := decide_eq_true c13
            clear c13
            by_cases c14 : x116007_1.length < 4398046511104
            · rw [if_pos c14] at H
              have LMc14 := Aside0.mk c14
              clear c14
              obtain ⟨y118, hy118⟩ : ∃ y_ : List (S89), y_ = (x116007_1 ++ [(⟨(rd_T147 l0_7 x24_1).f0, (rd_T147 l0_7 x24_1).f1⟩ : S89)]) := ⟨_, rfl⟩
              replace H : (laws_implAttrs.l0 k1 l0_7 (l0_7.length : Int) (wrap64 (x24_1 + 1)) a0_0 a0_1 a0_2 a0_3 a0_4 a0_5 a0_6 y118) = some (r1, r2, r3, r4, r5, r6, r7, r8) := by first | (rw [hy118]; with_reducible exact H) | (have H2_ := (Option.bind_some _ _).symm.trans H; rw [hy118]; with_reducible exact H2_) | (have H2_ := (Option.bind_some _ _).symm.trans H; with_reducible exact H2_) | with_reducible exact H | (rw [hy118]; exact H) | exact H
              have Ny118 := Aside0.mk hy118
              clear hy118
              have H' := Aside0.mk H
              clear H
              have p116 : 0 ≤ (x24_1 : Int) := of_decide_eq_true (by first | (with_reducible assumption) | assumption)
              have q116 : x24_1 < (l0_7.length : Int) := of_decide_eq_true (by first | (with_reducible assumption) | assumption)
              obtain ⟨ad116, e116, hx116_0, hx116_1⟩ := at_T147 HR0_7.out x24_1 p116 q116
              cases e116
              replace hx116_0 := (HB.out.cell (World.block_lt_of_cell? w _ hx116_0)).trans hx116_0
              replace hx116_1 := (HB.out.cell (World.block_lt_of_cell? w _ hx116_1)).trans hx116_1
              replace p116 := eq_true p116
              replace q116 := eq_true q116
              go_wp2_with (first | ((with_reducible refine gate_dst (N := 5) rfl ?_); refine box_event ?hg (N := 5) ?hd (cs := #[.string (⟨#[]⟩ : ByteArray), .string (⟨#[]⟩ : ByteArray)]) (t := 147) ?hr ?_; (case hd => rfl); (case hg => rfl); (case hr => first | (go_simp; done) | (go_simp; rfl)); intro gb117 hg w15 hbox hb; have n0_ := Aside0.mk (Kd.R_below (by (with_reducible repeat (first | apply Kd.R_alloc | apply Kd.R_drewN | apply Kd.R_drew)); exact HO_116007.out) hb); have n1_ := Aside0.mk (blk_below (g := gb113) (o := .cells #[.int .u32 a0_0, .int .u64 a0_1, .int .u32 a0_2, .int .u32 a0_3, .int .u32 a0_4, .int .u32 a0_5, .int .u32 a0_6, .slice (some ad116) l0_7.length c0_7] 40 (0, 0)) (by (with_reducible repeat (first | refine blk_drewN ?_ _ | refine blk_drew ?_ | refine blk_alloc ?_ _)); exact BK113.out) hb); have n2_ := Aside0.mk (blk_below (g := gb114) (o := .cells #[.int .u32 0, .int .u64 0, .int .u32 0, .int .u32 0, .int .u32 0, .int .u32 0, .int .u32 0, .slice none 0 0] 26 (0, 0)) (by (with_reducible repeat (first | refine blk_drewN ?_ _ | refine blk_drew ?_ | refine blk_alloc ?_ _)); exact BK114.out) hb); have n3_ := Aside0.mk (blk_below (g := gb115) (o := .cells #[.int .u32 a0_0, .int .u64 a0_1, .int .u32 a0_2, .int .u32 a0_3, .int .u32 a0_4, .int .u32 a0_5, .int .u32 a0_6, u116007] 26 (0, 0)) (by (with_reducible repeat (first | refine blk_drewN ?_ _ | refine blk_drew ?_ | refine blk_alloc ?_ _)); exact BK115.out) hb); have n4_ := Aside0.mk (below_step (by repeat (first | (with_reducible first | exact HB.out | apply below_alloc | apply pw_below_drewN | apply below_drew1 | refine below_set ?_ GE113.out | refine below_set ?_ GE114.out | refine below_set ?_ GE115.out) | exact HB.out)) hb); have n5_ := Aside0.mk (hbox); have n6_ := Aside0.mk ((by rw [hg]; exact (below_size (by repeat (first | (with_reducible first | exact HB.out | apply below_alloc | apply pw_below_drewN | apply below_drew1 | refine below_set ?_ GE113.out | refine below_set ?_ GE114.out | refine below_set ?_ GE115.out) | exact HB.out))) : w.heap.size ≤ gb117)); have n7_ := Aside0.mk ((by rw [hg]; exact (below_size (by repeat (first | (with_reducible first | exact HB.out | apply below_alloc | apply pw_below_drewN | apply below_drew1 | refine below_set ?_ GE113.out | refine below_set ?_ GE114.out | refine below_set ?_ GE115.out) | exact HB.out))) : w.heap.size ≤ gb117)); have n8_ := Aside0.mk ((by rw [hg]; exact Nat.ne_of_lt (blk_lt (g := gb113) (o := .cells #[.int .u32 a0_0, .int .u64 a0_1, .int .u32 a0_2, .int .u32 a0_3, .int .u32 a0_4, .int .u32 a0_5, .int .u32 a0_6, .slice (some ad116) l0_7.length c0_7] 40 (0, 0)) (by (with_reducible repeat (first | refine blk_drewN ?_ _ | refine blk_drew ?_ | refine blk_alloc ?_ _)); exact BK113.out)) : gb113 ≠ gb117)); have n9_ := Aside0.mk ((by rw [hg]; exact Nat.ne_of_gt (blk_lt (g := gb113) (o := .cells #[.int .u32 a0_0, .int .u64 a0_1, .int .u32 a0_2, .int .u32 a0_3, .int .u32 a0_4, .int .u32 a0_5, .int .u32 a0_6, .slice (some ad116) l0_7.length c0_7] 40 (0, 0)) (by (with_reducible repeat (first | refine blk_drewN ?_ _ | refine blk_drew ?_ | refine blk_alloc ?_ _)); exact BK113.out)) : gb117 ≠ gb113)); have n10_ := Aside0.mk ((by rw [hg]; exact Nat.ne_of_lt (blk_lt (g := gb114) (o := .cells #[.int .u32 0, .int .u64 0, .int .u32 0, .int .u32 0, .int .u32 0, .int .u32 0, .int .u32 0, .slice none 0 0] 26 (0, 0)) (by (with_reducible repeat (first | refine blk_drewN ?_ _ | refine blk_drew ?_ | refine blk_alloc ?_ _)); exact BK114.out)) : gb114 ≠ gb117)); have n11_ := Aside0.mk ((by rw [hg]; exact Nat.ne_of_gt (blk_lt (g := gb114) (o := .cells #[.int .u32 0, .int .u64 0, .int .u32 0, .int .u32 0, .int .u32 0, .int .u32 0, .int .u32 0, .slice none 0 0] 26 (0, 0)) (by (with_reducible repeat (first | refine blk_drewN ?_ _ | refine blk_drew ?_ | refine blk_alloc ?_ _)); exact BK114.out)) : gb117 ≠ gb114)); have n12_ := Aside0.mk ((by rw [hg]; exact Nat.ne_of_lt (blk_lt (g := gb115) (o := .cells #[.int .u32 a0_0, .int .u64 a0_1, .int .u32 a0_2, .int .u32 a0_3, .int .u32 a0_4, .int .u32 a0_5, .int .u32 a0_6, u116007] 26 (0, 0)) (by (with_reducible repeat (first | refine blk_drewN ?_ _ | refine blk_drew ?_ | refine blk_alloc ?_ _)); exact BK115.out)) : gb115 ≠ gb117)); have n13_ := Aside0.mk ((by rw [hg]; exact Nat.ne_of_gt (blk_lt (g := gb115) (o := .cells #[.int .u32 a0_0, .int .u64 a0_1, .int .u32 a0_2, .int .u32 a0_3, .int .u32 a0_4, .int .u32 a0_5, .int .u32 a0_6, u116007] 26 (0, 0)) (by (with_reducible repeat (first | refine blk_drewN ?_ _ | refine blk_drew ?_ | refine blk_alloc ?_ _)); exact BK115.out)) : gb117 ≠ gb115)); clear HO_116007; clear BK113; clear BK114; clear BK115; clear HB; have HO_116007 := n0_; have BK113 := n1_; have BK114 := n2_; have BK115 := n3_; have HB := n4_; have BK117 := n5_; have GW117 := n6_; have GE117 := n7_; have NB113_117 := n8_; have NB117_113 := n9_; have NB114_117 := n10_; have NB117_114 := n11_; have NB115_117 := n12_; have NB117_115 := n13_; clear n0_ n1_ n2_ n3_ n4_ n5_ n6_ n7_ n8_ n9_ n10_ n11_ n12_ n13_; clear hb hbox hg; have hnb16 := NB117_113.out; have hnc16 := NB113_117.out; have hnb17 := NB117_114.out; have hnc17 := NB114_117.out; have hnb18 := NB117_115.out; have hnc18 := NB115_117.out; have hcz19_0 : w15.cell? ⟨gb117, 0, none⟩ = some (.string (⟨#[]⟩ : ByteArray)) := (blk_cell BK117.out 0).trans rfl; have hcz19_1 : w15.cell? ⟨gb117, 1, none⟩ = some (.string (⟨#[]⟩ : ByteArray)) := (blk_cell BK117.out 1).trans rfl; have hfz19_0 := blk_frozen BK117.out 0; have hfz19_1 := blk_frozen BK117.out 1; have hnb20 := NB115_113.out; have hnc20 := NB113_115.out; have hnb21 := NB115_114.out; have hnc21 := NB114_115.out; have hcz22_0 : w15.cell? ⟨gb115, 0, none⟩ = some (.int .u32 a0_0) := (blk_cell BK115.out 0).trans rfl; have hcz22_1 : w15.cell? ⟨gb115, 1, none⟩ = some (.int .u64 a0_1) := (blk_cell BK115.out 1).trans rfl; have hcz22_2 : w15.cell? ⟨gb115, 2, none⟩ = some (.int .u32 a0_2) := (blk_cell BK115.out 2).trans rfl; have hcz22_3 : w15.cell? ⟨gb115, 3, none⟩ = some (.int .u32 a0_3) := (blk_cell BK115.out 3).trans rfl; have hcz22_4 : w15.cell? ⟨gb115, 4, none⟩ = some (.int .u32 a0_4) := (blk_cell BK115.out 4).trans rfl; have hcz22_5 : w15.cell? ⟨gb115, 5, none⟩ = some (.int .u32 a0_5) := (blk_cell BK115.out 5).trans rfl; have hcz22_6 : w15.cell? ⟨gb115, 6, none⟩ = some (.int .u32 a0_6) := (blk_cell BK115.out 6).trans rfl; have hcz22_7 : w15.cell? ⟨gb115, 7, none⟩ = some (u116007) := (blk_cell BK115.out 7).trans rfl; have hfz22_0 := blk_frozen BK115.out 0; have hfz22_1 := blk_frozen BK115.out 1; have hfz22_2 := blk_frozen BK115.out 2; have hfz22_3 := blk_frozen BK115.out 3; have hfz22_4 := blk_frozen BK115.out 4; have hfz22_5 := blk_frozen BK115.out 5; have hfz22_6 := blk_frozen BK115.out 6; have hfz22_7 := blk_frozen BK115.out 7) | ((with_reducible refine gate_builtin (b := .append) (xs := #[.tmp 29, .tmp 31]) rfl ?_); at_builtin; refine Kd.R_append k89 (w0 := w) w.heap.size rfl (.tmp 29) (.tmp 31) 24 89 (.agg #[(.string ⟨#[]⟩), (.string ⟨#[]⟩)]) 32 rfl Tryz.underlying24 info89 rfl (by decide) (by omega) u116007 x116007_1 (⟨(rd_T147 l0_7 x24_1).f0, (rd_T147 l0_7 x24_1).f1⟩ : S89) [.string ((rd_T147 l0_7 x24_1).f0), .string ((rd_T147 l0_7 x24_1).f1)] (fun _ => True) (fun _ => False) rfl (by first | (go_simp; done) | (go_simp; rfl)) ?aP (fun _ hk => hk.elim) ?aF ?aO ?aB ?aS ?aL ?_; (case aP => exact k89_mkM _ _ _ (⟨(rd_T147 l0_7 x24_1).f0, (rd_T147 l0_7 x24_1).f1⟩ : S89)); (case aB => exact (by repeat (first | (with_reducible first | exact HB.out | apply below_alloc | apply pw_below_drewN | apply below_drew1 | refine below_set ?_ GE113.out | refine below_set ?_ GE114.out | refine below_set ?_ GE115.out | refine below_set ?_ GE117.out) | exact HB.out))); (case aF => exact (fun _ _ => trivial)); (case aO => exact (by (with_reducible repeat (first | apply Kd.R_alloc | apply Kd.R_drewN | apply Kd.R_drew)); exact Kd.R_mono (Kd.R_far (p := ⟨gb117, 1, none⟩) (Kd.R_far (p := ⟨gb117, 0, none⟩) (Kd.R_types HO_116007.out BK117.out (by decide)) (fun _ hk => hk.2) (.string ((rd_T147 l0_7 x24_1).f0))) (fun _ hk => hk.2) (.string ((rd_T147 l0_7 x24_1).f1))) (fun _ hk => trivial))); (case aS => exact (below_size (by repeat (first | (with_reducible first | exact HB.out | apply below_alloc | apply pw_below_drewN | apply below_drew1 | refine below_set ?_ GE113.out | refine below_set ?_ GE114.out | refine below_set ?_ GE115.out | refine below_set ?_ GE117.out) | exact HB.out)))); (case aL => have := LMc14.out; omega); intro v119 w23 ho hb hg hat; rw [← Ny118.out] at ho; have n0_ := Aside0.mk (blk_grown (g := gb113) (o := .cells #[.int .u32 a0_0, .int .u64 a0_1, .int .u32 a0_2, .int .u32 a0_3, .int .u32 a0_4, .int .u32 a0_5, .int .u32 a0_6, .slice (some ad116) l0_7.length c0_7] 40 (0, 0)) (by (with_reducible repeat (first | refine blk_drewN ?_ _ | refine blk_drew ?_ | refine blk_alloc ?_ _)); refine blk_far ?_ NB113_117.out _; (with_reducible repeat (first | refine blk_drewN ?_ _ | refine blk_drew ?_ | refine blk_alloc ?_ _)); refine blk_far ?_ NB113_117.out _; (with_reducible repeat (first | refine blk_drewN ?_ _ | refine blk_drew ?_ | refine blk_alloc ?_ _)); exact BK113.out) hg (Kd.R_ne HO_116007.out BK113.out (by decide))); have n1_ := Aside0.mk (blk_grown (g := gb114) (o := .cells #[.int .u32 0, .int .u64 0, .int .u32 0, .int .u32 0, .int .u32 0, .int .u32 0, .int .u32 0, .slice none 0 0] 26 (0, 0)) (by (with_reducible repeat (first | refine blk_drewN ?_ _ | refine blk_drew ?_ | refine blk_alloc ?_ _)); refine blk_far ?_ NB114_117.out _; (with_reducible repeat (first | refine blk_drewN ?_ _ | refine blk_drew ?_ | refine blk_alloc ?_ _)); refine blk_far ?_ NB114_117.out _; (with_reducible repeat (first | refine blk_drewN ?_ _ | refine blk_drew ?_ | refine blk_alloc ?_ _)); exact BK114.out) hg (Kd.R_ne HO_116007.out BK114.out (by decide))); have n2_ := Aside0.mk (blk_grown (g := gb115) (o := .cells #[.int .u32 a0_0, .int .u64 a0_1, .int .u32 a0_2, .int .u32 a0_3, .int .u32 a0_4, .int .u32 a0_5, .int .u32 a0_6, u116007] 26 (0, 0)) (by (with_reducible repeat (first | refine blk_drewN ?_ _ | refine blk_drew ?_ | refine blk_alloc ?_ _)); refine blk_far ?_ NB115_117.out _; (with_reducible repeat (first | refine blk_drewN ?_ _ | refine blk_drew ?_ | refine blk_alloc ?_ _)); refine blk_far ?_ NB115_117.out _; (with_reducible repeat (first | refine blk_drewN ?_ _ | refine blk_drew ?_ | refine blk_alloc ?_ _)); exact BK115.out) hg (Kd.R_ne HO_116007.out BK115.out (by decide))); have n3_ := Aside0.mk (blk_grown (g := gb117) (o := .cells #[.string ((rd_T147 l0_7 x24_1).f0), .string ((rd_T147 l0_7 x24_1).f1)] 147 (0, 0)) (by (with_reducible repeat (first | refine blk_drewN ?_ _ | refine blk_drew ?_ | refine blk_alloc ?_ _)); refine blk_put (cs := #[.string ((rd_T147 l0_7 x24_1).f0), .string (⟨#[]⟩ : ByteArray)]) ?_ 1 _ rfl; (with_reducible repeat (first | refine blk_drewN ?_ _ | refine blk_drew ?_ | refine blk_alloc ?_ _)); refine blk_put (cs := #[.string (⟨#[]⟩ : ByteArray), .string (⟨#[]⟩ : ByteArray)]) ?_ 0 _ rfl; (with_reducible repeat (first | refine blk_drewN ?_ _ | refine blk_drew ?_ | refine blk_alloc ?_ _)); exact BK117.out) hg (Kd.R_ne HO_116007.out BK117.out (by decide))); have n4_ := Aside0.mk (hb); have n5_ := Aside0.mk (ho); clear BK113; clear BK114; clear BK115; clear BK117; clear HB; clear HO_116007; have BK113 := n0_; have BK114 := n1_; have BK115 := n2_; have BK117 := n3_; have HB := n4_; have HO120 := n5_; clear n0_ n1_ n2_ n3_ n4_ n5_; clear ho hb hg hat; obtain ⟨Ao24, co24, eo24⟩ := Kd.R_slice HO120.out; subst eo24; have hcz25_0 : w23.cell? ⟨gb115, 0, none⟩ = some (.int .u32 a0_0) := (blk_cell BK115.out 0).trans rfl; have hcz25_1 : w23.cell? ⟨gb115, 1, none⟩ = some (.int .u64 a0_1) := (blk_cell BK115.out 1).trans rfl; have hcz25_2 : w23.cell? ⟨gb115, 2, none⟩ = some (.int .u32 a0_2) := (blk_cell BK115.out 2).trans rfl; have hcz25_3 : w23.cell? ⟨gb115, 3, none⟩ = some (.int .u32 a0_3) := (blk_cell BK115.out 3).trans rfl; have hcz25_4 : w23.cell? ⟨gb115, 4, none⟩ = some (.int .u32 a0_4) := (blk_cell BK115.out 4).trans rfl; have hcz25_5 : w23.cell? ⟨gb115, 5, none⟩ = some (.int .u32 a0_5) := (blk_cell BK115.out 5).trans rfl; have hcz25_6 : w23.cell? ⟨gb115, 6, none⟩ = some (.int .u32 a0_6) := (blk_cell BK115.out 6).trans rfl; have hcz25_7 : w23.cell? ⟨gb115, 7, none⟩ = some (u116007) := (blk_cell BK115.out 7).trans rfl; have hfz25_0 := blk_frozen BK115.out 0; have hfz25_1 := blk_frozen BK115.out 1; have hfz25_2 := blk_frozen BK115.out 2; have hfz25_3 := blk_frozen BK115.out 3; have hfz25_4 := blk_frozen BK115.out 4; have hfz25_5 := blk_frozen BK115.out 5; have hfz25_6 := blk_frozen BK115.out 6; have hfz25_7 := blk_frozen BK115.out 7))
              go_roundg k1
              case measure => have := HK1.out; omega
              case rel => exact ⟨(wrap64 (x24_1 + 1)), (y118), (.slice Ao24 y118.length co24), (by first | rfl | (simp; done) | (simp [*]; done)), H', ⟨by have := HK1.out; omega⟩, ⟨by (with_reducible repeat (first | apply Kd.R_alloc | apply Kd.R_drewN | apply Kd.R_drew)); exact Kd.R_mono (Kd.R_far (p := ⟨gb115, 7, none⟩) (Kd.R_types HO120.out BK115.out (by decide)) (fun _ hk => hk.2) (.slice Ao24 y118.length co24)) (fun _ hk => trivial)⟩, ⟨by (with_reducible repeat (first | refine blk_drewN ?_ _ | refine blk_drew ?_ | refine blk_alloc ?_ _)); refine blk_far ?_ NB113_115.out _; (with_reducible repeat (first | refine blk_drewN ?_ _ | refine blk_drew ?_ | refine blk_alloc ?_ _)); exact BK113.out⟩, ⟨by (with_reducible repeat (first | refine blk_drewN ?_ _ | refine blk_drew ?_ | refine blk_alloc ?_ _)); refine blk_far ?_ NB114_115.out _; (with_reducible repeat (first | refine blk_drewN ?_ _ | refine blk_drew ?_ | refine blk_alloc ?_ _)); exact BK114.out⟩, ⟨by (with_reducible repeat (first | refine blk_drewN ?_ _ | refine blk_drew ?_ | refine blk_alloc ?_ _)); refine blk_put (cs := #[.int .u32 a0_0, .int .u64 a0_1, .int .u32 a0_2, .int .u32 a0_3, .int .u32 a0_4, .int .u32 a0_5, .int .u32 a0_6, u116007]) ?_ 7 _ rfl; (with_reducible repeat (first | refine blk_drewN ?_ _ | refine blk_drew ?_ | refine blk_alloc ?_ _)); exact BK115.out⟩, ⟨by repeat (first | (with_reducible first | exact HB.out | apply below_alloc | apply pw_below_drewN | apply below_drew1 | refine below_set ?_ GE113.out | refine below_set ?_ GE114.out | refine below_set ?_ GE115.out | refine below_set ?_ GE117.out) | exact HB.out)⟩⟩
            · rw [if_neg c14] at H
              exact absurd H (by simp)
          · rw [if_neg c13] at H
            exact absurd H (by simp)
        · rw [if_neg c12] at H
          exact absurd H (by simp)
      · rw [if_neg c11] at H
        have c11b0 : decide (x24_1 < (l0_7.length : Int)) = false := decide_eq_false c11
        clear c11
        simp only [Option.some.injEq, Prod.mk.injEq] at H
        obtain ⟨rfl, rfl, rfl, rfl, rfl, rfl, rfl, rfl⟩ := H
        have hnb26 := NB115_113.out
        have hnc26 := NB113_115.out
        have hnb27 := NB115_114.out
        have hnc27 := NB114_115.out
        have hcz28_0 : wr.cell? ⟨gb115, 0, none⟩ = some (.int .u32 a0_0) := (blk_cell BK115.out 0).trans rfl
        have hcz28_1 : wr.cell? ⟨gb115, 1, none⟩ = some (.int .u64 a0_1) := (blk_cell BK115.out 1).trans rfl
        have hcz28_2 : wr.cell? ⟨gb115, 2, none⟩ = some (.int .u32 a0_2) := (blk_cell BK115.out 2).trans rfl
        have hcz28_3 : wr.cell? ⟨gb115, 3, none⟩ = some (.int .u32 a0_3) := (blk_cell BK115.out 3).trans rfl
        have hcz28_4 : wr.cell? ⟨gb115, 4, none⟩ = some (.int .u32 a0_4) := (blk_cell BK115.out 4).trans rfl
        have hcz28_5 : wr.cell? ⟨gb115, 5, none⟩ = some (.int .u32 a0_5) := (blk_cell BK115.out 5).trans rfl
        have hcz28_6 : wr.cell? ⟨gb115, 6, none⟩ = some (.int .u32 a0_6) := (blk_cell BK115.out 6).trans rfl
        have hcz28_7 : wr.cell? ⟨gb115, 7, none⟩ = some (u116007) := (blk_cell BK115.out 7).trans rfl
        have hfz28_0 := blk_frozen BK115.out 0
        have hfz28_1 := blk_frozen BK115.out 1
        have hfz28_2 := blk_frozen BK115.out 2
        have hfz28_3 := blk_frozen BK115.out 3
        have hfz28_4 := blk_frozen BK115.out 4
        have hfz28_5 := blk_frozen BK115.out 5
        have hfz28_6 := blk_frozen BK115.out 6
        have hfz28_7 := blk_frozen BK115.out 7
        have hnb29 := NB114_113.out
        have hnc29 := NB113_114.out
        have hcz30_0 : wr.cell? ⟨gb114, 0, none⟩ = some (.int .u32 0) := (blk_cell BK114.out 0).trans rfl
        have hcz30_1 : wr.cell? ⟨gb114, 1, none⟩ = some (.int .u64 0) := (blk_cell BK114.out 1).trans rfl
        have hcz30_2 : wr.cell? ⟨gb114, 2, none⟩ = some (.int .u32 0) := (blk_cell BK114.out 2).trans rfl
        have hcz30_3 : wr.cell? ⟨gb114, 3, none⟩ = some (.int .u32 0) := (blk_cell BK114.out 3).trans rfl
        have hcz30_4 : wr.cell? ⟨gb114, 4, none⟩ = some (.int .u32 0) := (blk_cell BK114.out 4).trans rfl
        have hcz30_5 : wr.cell? ⟨gb114, 5, none⟩ = some (.int .u32 0) := (blk_cell BK114.out 5).trans rfl
        have hcz30_6 : wr.cell? ⟨gb114, 6, none⟩ = some (.int .u32 0) := (blk_cell BK114.out 6).trans rfl
        have hcz30_7 : wr.cell? ⟨gb114, 7, none⟩ = some (.slice none 0 0) := (blk_cell BK114.out 7).trans rfl
        have hfz30_0 := blk_frozen BK114.out 0
        have hfz30_1 := blk_frozen BK114.out 1
        have hfz30_2 := blk_frozen BK114.out 2
        have hfz30_3 := blk_frozen BK114.out 3
        have hfz30_4 := blk_frozen BK114.out 4
        have hfz30_5 := blk_frozen BK114.out 5
        have hfz30_6 := blk_frozen BK114.out 6
        have hfz30_7 := blk_frozen BK114.out 7
        obtain ⟨Ao31, co31, eo31⟩ := Kd.R_slice HO_116007.out
        subst eo31
        go_wp2
        refine bodyPost_ret (results_cell_row rfl _ _ gb114 26 #[.int .u32 a0_0, .int .u64 a0_1, .int .u32 a0_2, .int .u32 a0_3, .int .u32 a0_4, .int .u32 a0_5, .int .u32 a0_6, .slice Ao31 x116007_1.length co31] (0, 0) _ rfl (by (with_reducible repeat (first | refine blk_drewN ?_ _ | refine blk_drew ?_ | refine blk_alloc ?_ _)); refine blk_put (cs := #[.int .u32 a0_0, .int .u64 a0_1, .int .u32 a0_2, .int .u32 a0_3, .int .u32 a0_4, .int .u32 a0_5, .int .u32 a0_6, .slice none 0 0]) ?_ 7 _ rfl; (with_reducible repeat (first | refine blk_drewN ?_ _ | refine blk_drew ?_ | refine blk_alloc ?_ _)); refine blk_put (cs := #[.int .u32 a0_0, .int .u64 a0_1, .int .u32 a0_2, .int .u32 a0_3, .int .u32 a0_4, .int .u32 a0_5, .int .u32 0, .slice none 0 0]) ?_ 6 _ rfl; (with_reducible repeat (first | refine blk_drewN ?_ _ | refine blk_drew ?_ | refine blk_alloc ?_ _)); refine blk_put (cs := #[.int .u32 a0_0, .int .u64 a0_1, .int .u32 a0_2, .int .u32 a0_3, .int .u32 a0_4, .int .u32 0, .int .u32 0, .slice none 0 0]) ?_ 5 _ rfl; (with_reducible repeat (first | refine blk_drewN ?_ _ | refine blk_drew ?_ | refine blk_alloc ?_ _)); refine blk_put (cs := #[.int .u32 a0_0, .int .u64 a0_1, .int .u32 a0_2, .int .u32 a0_3, .int .u32 0, .int .u32 0, .int .u32 0, .slice none 0 0]) ?_ 4 _ rfl; (with_reducible repeat (first | refine blk_drewN ?_ _ | refine blk_drew ?_ | refine blk_alloc ?_ _)); refine blk_put (cs := #[.int .u32 a0_0, .int .u64 a0_1, .int .u32 a0_2, .int .u32 0, .int .u32 0, .int .u32 0, .int .u32 0, .slice none 0 0]) ?_ 3 _ rfl; (with_reducible repeat (first | refine blk_drewN ?_ _ | refine blk_drew ?_ | refine blk_alloc ?_ _)); refine blk_put (cs := #[.int .u32 a0_0, .int .u64 a0_1, .int .u32 0, .int .u32 0, .int .u32 0, .int .u32 0, .int .u32 0, .slice none 0 0]) ?_ 2 _ rfl; (with_reducible repeat (first | refine blk_drewN ?_ _ | refine blk_drew ?_ | refine blk_alloc ?_ _)); refine blk_put (cs := #[.int .u32 a0_0, .int .u64 0, .int .u32 0, .int .u32 0, .int .u32 0, .int .u32 0, .int .u32 0, .slice none 0 0]) ?_ 1 _ rfl; (with_reducible repeat (first | refine blk_drewN ?_ _ | refine blk_drew ?_ | refine blk_alloc ?_ _)); refine blk_put (cs := #[.int .u32 0, .int .u64 0, .int .u32 0, .int .u32 0, .int .u32 0, .int .u32 0, .int .u32 0, .slice none 0 0]) ?_ 0 _ rfl; (with_reducible repeat (first | refine blk_drewN ?_ _ | refine blk_drew ?_ | refine blk_alloc ?_ _)); exact BK114.out) Tryz.underlying26 rfl (by kernel_rfl)) rfl ?_
        exact ⟨_, by first | rfl | (simp [errW_none, errW_some] <;> rfl) | (simp [*, errW_none, errW_some] <;> rfl), by (with_reducible repeat (first | apply Kd.R_alloc | apply Kd.R_drewN | apply Kd.R_drew)); exact Kd.R_mono (Kd.R_far (p := ⟨gb114, 7, none⟩) (Kd.R_far (p := ⟨gb114, 6, none⟩) (Kd.R_far (p := ⟨gb114, 5, none⟩) (Kd.R_far (p := ⟨gb114, 4, none⟩) (Kd.R_far (p := ⟨gb114, 3, none⟩) (Kd.R_far (p := ⟨gb114, 2, none⟩) (Kd.R_far (p := ⟨gb114, 1, none⟩) (Kd.R_far (p := ⟨gb114, 0, none⟩) (Kd.R_types HO_116007.out BK114.out (by decide)) (fun _ hk => hk.2) (.int .u32 a0_0)) (fun _ hk => hk.2) (.int .u64 a0_1)) (fun _ hk => hk.2) (.int .u32 a0_2)) (fun _ hk => hk.2) (.int .u32 a0_3)) (fun _ hk => hk.2) (.int .u32 a0_4)) (fun _ hk => hk.2) (.int .u32 a0_5)) (fun _ hk => hk.2) (.int .u32 a0_6)) (fun _ hk => hk.2) (.slice Ao31 x116007_1.length co31)) (fun _ hk => trivial), by repeat (first | (with_reducible first | exact HB.out | apply below_alloc | apply pw_below_drewN | apply below_drew1 | refine below_set ?_ GE113.out | refine below_set ?_ GE114.out | refine below_set ?_ GE115.out) | exact HB.out)⟩
end Go.Proofs.YtmenkckgpiafiaaGreat.PE
namespace Go.Proofs.YtmenkckgpiafiaaGreat.PF
open Go.Proofs.YtmenkckgpiafiaaGreat.KK Go.RowKit Go.Proofs.YtmenkckgpiafiaaGreatW.PrintWords Go.Proofs.YtmenkckgpiafiaaGreatW.PrintLast Go.Proofs.YtmenkckgpiafiaaGreatW.PrintMore
attribute [local go_sem] max2_int min2_int max_two min_two max_three min_three max_four min_four
set_option linter.unusedVariables false
set_option linter.unusedSimpArgs false
def errW : Option Int → Value
  | none => .nilIface
  | some c => .iface 0 (.int .i64 c)
theorem errW_none : errW none = .nilIface := rfl
theorem errW_some (c : Int) : errW (some c) = .iface 0 (.int .i64 c) := rfl
end Go.Proofs.YtmenkckgpiafiaaGreat.PF
