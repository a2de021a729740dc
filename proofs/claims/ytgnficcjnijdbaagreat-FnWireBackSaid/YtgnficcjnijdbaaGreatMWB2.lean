/-
  Lemmas and contracts, part 2.
-/
import Derived.Test.YtgnficcjnijdbaaGreatProg
import Derived.Below
import Derived.Deep.Draws
import Derived.Deep.AppendLies
import Derived.Maps.AppendAt
import Derived.OwnWalk
import Derived.Laws.BytesArg
import Derived.Laws.MakeOwn
import Derived.Laws.OwnMore
import Derived.Deep.OwnRows
import Derived.Tactics
import Derived.Lib.ConvBytes
import Derived.Laws.Slices
import Derived.WalkKit
import Derived.KernelRfl
import Derived.RowKit3
import Derived.Deep.LoopGhost
import Derived.Deep.QuietTactic
import Derived.BigQuiet
import Derived.WideLaws
import Derived.Deep.DeepCutAuto
import Derived.Deep.CutBlock
import Derived.Deep.RegionHeld3
import Derived.Laws.Rows
import Derived.Lib.AppendStr
import Derived.ArgAppend
import Derived.Laws.IdiomCopy
import Derived.OrdersHeld
import Derived.Laws.BitsLemmas
import Derived.RowKit
import Derived.Test.YtgnficcjnijdbaaGreatMWB1
set_option linter.unusedVariables false
set_option linter.unusedSimpArgs false
set_option maxHeartbeats 20000000
set_option maxRecDepth 5000
namespace Go.Proofs.YtgnficcjnijdbaaGreat.PA
open Go.Proofs.YtgnficcjnijdbaaGreat.KK Go.RowKit Go.Proofs.YtgnficcjnijdbaaGreatW.PrintWords Go.Proofs.YtgnficcjnijdbaaGreatW.PrintLast Go.Proofs.YtgnficcjnijdbaaGreatW.PrintMore
attribute [local go_sem] zCH zCI zCf zCg zBn zBo zCJ zCK
set_option linter.unusedVariables false
set_option linter.unusedSimpArgs false
def errW : Option Int → Value
 | none => .nilIface
 | some c => .iface 0 (.int .i64 c)
theorem errW_none : errW none = .nilIface := rfl
theorem errW_some (c : Int) : errW (some c) = .iface 0 (.int .i64 c) := rfl
theorem zNJ : (Tryz.prog.info? 52).map (fun i => (i.zero, i.size, i.bytes)) = some (some (.agg #[(.string ⟨#[]⟩), (.string ⟨#[]⟩)]), 2, 32) := by kernel_rfl
theorem zMK : (Tryz.prog.info? 206).map (fun i => (i.zero, i.size, i.bytes)) = some (some (.agg #[(.string ⟨#[]⟩), (.string ⟨#[]⟩)]), 2, 32) := by kernel_rfl
end Go.Proofs.YtgnficcjnijdbaaGreat.PA
namespace Go.Proofs.YtgnficcjnijdbaaGreat.PA
open Go.Proofs.YtgnficcjnijdbaaGreat.KK Go.RowKit Go.Proofs.YtgnficcjnijdbaaGreatW.PrintWords Go.Proofs.YtgnficcjnijdbaaGreatW.PrintLast Go.Proofs.YtgnficcjnijdbaaGreatW.PrintMore
attribute [local go_sem] zCH zCI zCf zCg zBn zBo zCJ zCK
set_option linter.unusedVariables false
set_option linter.unusedSimpArgs false
theorem zDV {w : World} {g : Nat} {t : TypeId} {v0 v1 v2 v3 v4 v5 v6 v7 : Value} (h : w.heap[g]? = some (.cells #[v0, v1, v2, v3, v4, v5, v6, v7] t (0, 0))) :
  w.cell? ⟨g, 0, none⟩ = some v0 ∧ w.cell? ⟨g, 1, none⟩ = some v1 ∧ w.cell? ⟨g, 2, none⟩ = some v2 ∧ w.cell? ⟨g, 3, none⟩ = some v3 ∧ w.cell? ⟨g, 4, none⟩ = some v4 ∧ w.cell? ⟨g, 5, none⟩ = some v5 ∧ w.cell? ⟨g, 6, none⟩ = some v6 ∧ w.cell? ⟨g, 7, none⟩ = some v7 ∧ w.frozen? ⟨g, 0, none⟩ = false ∧ w.frozen? ⟨g, 1, none⟩ = false ∧ w.frozen? ⟨g, 2, none⟩ = false ∧ w.frozen? ⟨g, 3, none⟩ = false ∧ w.frozen? ⟨g, 4, none⟩ = false ∧ w.frozen? ⟨g, 5, none⟩ = false ∧ w.frozen? ⟨g, 6, none⟩ = false ∧ w.frozen? ⟨g, 7, none⟩ = false :=
 ⟨(zAR h 0).trans rfl, (zAR h 1).trans rfl, (zAR h 2).trans rfl, (zAR h 3).trans rfl, (zAR h 4).trans rfl, (zAR h 5).trans rfl, (zAR h 6).trans rfl, (zAR h 7).trans rfl, zAN h 0, zAN h 1, zAN h 2, zAN h 3, zAN h 4, zAN h 5, zAN h 6, zAN h 7⟩
def impl_attrs.l0 : Nat → List (S52) → Int → Int → Int → Int → Int → Int → Int → Int → Int → List (zAu) → Option (Int × Int × Int × Int × Int × Int × Int × (List (zAu)))
 | 0, _, _, _, _, _, _, _, _, _, _, _ => none
 | k + 1, x22, x23, x24, x104000, x104001, x104002, x104003, x104004, x104005, x104006, x104007 => if x24 < x23 then (if 0 ≤ x24 then (if x24 < (x22.length : Int) then (if x104007.length < 4398046511104 then (impl_attrs.l0 k x22 x23 (wrap64 (x24 + 1)) x104000 x104001 x104002 x104003 x104004 x104005 x104006 (x104007 ++ [(⟨(zA7 x22 x24).f0, (zA7 x22 x24).f1⟩ : zAu)])) else (none)) else (none)) else (none)) else (some (x104000, x104001, x104002, x104003, x104004, x104005, x104006, x104007))
def impl_attrs.f (k : Nat) (a0_0 : Int) (a0_1 : Int) (a0_2 : Int) (a0_3 : Int) (a0_4 : Int) (a0_5 : Int) (a0_6 : Int) (l0_7 : List (S52)) : Option (Int × Int × Int × Int × Int × Int × Int × (List (zAu))) := impl_attrs.l0 k l0_7 (l0_7.length : Int) 0 a0_0 a0_1 a0_2 a0_3 a0_4 a0_5 a0_6 ([] : List (zAu))
set_option maxRecDepth 100000 in
theorem impl_attrs.calls (k : Nat) (a0_0 : Int) (a0_1 : Int) (a0_2 : Int) (a0_3 : Int) (a0_4 : Int) (a0_5 : Int) (a0_6 : Int) (A0_7 : Option Addr) (c0_7 : Nat) (l0_7 : List (S52)) (r1 : Int) (r2 : Int) (r3 : Int) (r4 : Int) (r5 : Int) (r6 : Int) (r7 : Int) (r8 : List (zAu)) (w : World) (hr0_7 : Kd.C k52 w A0_7 l0_7.length l0_7) (hc0_7 : l0_7.length ≤ c0_7) (h : impl_attrs.f k a0_0 a0_1 a0_2 a0_3 a0_4 a0_5 a0_6 l0_7 = some (r1, r2, r3, r4, r5, r6, r7, r8)) :
  Calls Tryz.prog 52 #[.agg #[.int .u32 a0_0, .int .u64 a0_1, .int .u32 a0_2, .int .u32 a0_3, .int .u32 a0_4, .int .u32 a0_5, .int .u32 a0_6, .slice A0_7 l0_7.length c0_7]] w fun e w' => ∃ v7_ : Value, e = .returned (.agg #[.int .u32 r1, .int .u64 r2, .int .u32 r3, .int .u32 r4, .int .u32 r5, .int .u32 r6, .int .u32 r7, v7_]) ∧ Kd.R k206 206 w' w.heap.size (fun _ => True) v7_ r8 ∧ Below w.heap.size w w' := by
 have hu26 := Tryz.underlying26
 have hu116 := Tryz.underlying116
 have hu52 := Tryz.underlying52
 have hu206 := Tryz.underlying206
 have HR0_7 := Aside0.mk hr0_7
 have HC0_7 := Aside0.mk hc0_7
 clear hr0_7 hc0_7
 have HB := Aside0.mk (Below.refl w.heap.size w)
 have H : (impl_attrs.l0 k l0_7 (l0_7.length : Int) 0 a0_0 a0_1 a0_2 a0_3 a0_4 a0_5 a0_6 ([] : List (zAu))) = some (r1, r2, r3, r4, r5, r6, r7, r8) := h
 clear h
 have H' := Aside0.mk H
 clear H
 go_enter Tryz.func52, Tryz.ntmps52
 go_wp2_with (first | ((with_reducible refine zAb (N := 1) rfl ?_); refine zA6 ?hg (N := 1) ?hd (cs := #[.int .u32 a0_0, .int .u64 a0_1, .int .u32 a0_2, .int .u32 a0_3, .int .u32 a0_4, .int .u32 a0_5, .int .u32 a0_6, .slice A0_7 l0_7.length c0_7]) (t := 26) ?hr ?_; (case hd => rfl); (case hg => rfl); (case hr => first | (go_simp; done) | (go_simp; rfl)); intro gb101 hg w2 hbox hb; have n0_ := Aside0.mk (zAX (by repeat (first | (with_reducible first | exact HB.out | apply below_alloc | apply zAC | apply zAD) | exact HB.out)) hb); have n1_ := Aside0.mk (hbox); have n2_ := Aside0.mk ((by rw [hg]; exact (zAO (by repeat (first | (with_reducible first | exact HB.out | apply below_alloc | apply zAC | apply zAD) | exact HB.out))) : w.heap.size ≤ gb101)); have n3_ := Aside0.mk ((by rw [hg]; exact (zAO (by repeat (first | (with_reducible first | exact HB.out | apply below_alloc | apply zAC | apply zAD) | exact HB.out))) : w.heap.size ≤ gb101)); clear HB; have HB := n0_; have BK101 := n1_; have GW101 := n2_; have GE101 := n3_; clear n0_ n1_ n2_ n3_; clear hb hbox hg) | ((with_reducible refine zAb (N := 2) rfl ?_); refine zA6 ?hg (N := 2) ?hd (cs := #[.int .u32 0, .int .u64 0, .int .u32 0, .int .u32 0, .int .u32 0, .int .u32 0, .int .u32 0, .slice none 0 0]) (t := 116) ?hr ?_; (case hd => rfl); (case hg => rfl); (case hr => first | (go_simp; done) | (go_simp; rfl)); intro gb102 hg w3 hbox hb; have n0_ := Aside0.mk (blk_below (g := gb101) (o := .cells #[.int .u32 a0_0, .int .u64 a0_1, .int .u32 a0_2, .int .u32 a0_3, .int .u32 a0_4, .int .u32 a0_5, .int .u32 a0_6, .slice A0_7 l0_7.length c0_7] 26 (0, 0)) (by (with_reducible repeat (first | refine zAF ?_ _ | refine zAG ?_ | refine zAE ?_ _)); exact BK101.out) hb); have n1_ := Aside0.mk (zAX (by repeat (first | (with_reducible first | exact HB.out | apply below_alloc | apply zAC | apply zAD | refine zAI ?_ GE101.out) | exact HB.out)) hb); have n2_ := Aside0.mk (hbox); have n3_ := Aside0.mk ((by rw [hg]; exact (zAO (by repeat (first | (with_reducible first | exact HB.out | apply below_alloc | apply zAC | apply zAD | refine zAI ?_ GE101.out) | exact HB.out))) : w.heap.size ≤ gb102)); have n4_ := Aside0.mk ((by rw [hg]; exact (zAO (by repeat (first | (with_reducible first | exact HB.out | apply below_alloc | apply zAC | apply zAD | refine zAI ?_ GE101.out) | exact HB.out))) : w.heap.size ≤ gb102)); have n5_ := Aside0.mk ((by rw [hg]; exact Nat.ne_of_lt (zAp (g := gb101) (o := .cells #[.int .u32 a0_0, .int .u64 a0_1, .int .u32 a0_2, .int .u32 a0_3, .int .u32 a0_4, .int .u32 a0_5, .int .u32 a0_6, .slice A0_7 l0_7.length c0_7] 26 (0, 0)) (by (with_reducible repeat (first | refine zAF ?_ _ | refine zAG ?_ | refine zAE ?_ _)); exact BK101.out)) : gb101 ≠ gb102)); have n6_ := Aside0.mk ((by rw [hg]; exact Nat.ne_of_gt (zAp (g := gb101) (o := .cells #[.int .u32 a0_0, .int .u64 a0_1, .int .u32 a0_2, .int .u32 a0_3, .int .u32 a0_4, .int .u32 a0_5, .int .u32 a0_6, .slice A0_7 l0_7.length c0_7] 26 (0, 0)) (by (with_reducible repeat (first | refine zAF ?_ _ | refine zAG ?_ | refine zAE ?_ _)); exact BK101.out)) : gb102 ≠ gb101)); clear BK101; clear HB; have BK101 := n0_; have HB := n1_; have BK102 := n2_; have GW102 := n3_; have GE102 := n4_; have NB101_102 := n5_; have NB102_101 := n6_; clear n0_ n1_ n2_ n3_ n4_ n5_ n6_; clear hb hbox hg; have hnb4 := NB101_102.out; have hnc4 := NB102_101.out; obtain ⟨hcz5_0, hcz5_1, hcz5_2, hcz5_3, hcz5_4, hcz5_5, hcz5_6, hcz5_7, hfz5_0, hfz5_1, hfz5_2, hfz5_3, hfz5_4, hfz5_5, hfz5_6, hfz5_7⟩ := zDV BK101.out) | ((with_reducible refine zAb (N := 3) rfl ?_); refine zA6 ?hg (N := 3) ?hd (cs := #[.int .u32 0, .int .u64 0, .int .u32 0, .int .u32 0, .int .u32 0, .int .u32 0, .int .u32 0, .slice none 0 0]) (t := 116) ?hr ?_; (case hd => rfl); (case hg => rfl); (case hr => first | (go_simp; done) | (go_simp; rfl)); intro gb103 hg w6 hbox hb; have n0_ := Aside0.mk (blk_below (g := gb101) (o := .cells #[.int .u32 a0_0, .int .u64 a0_1, .int .u32 a0_2, .int .u32 a0_3, .int .u32 a0_4, .int .u32 a0_5, .int .u32 a0_6, .slice A0_7 l0_7.length c0_7] 26 (0, 0)) (by (with_reducible repeat (first | refine zAF ?_ _ | refine zAG ?_ | refine zAE ?_ _)); exact BK101.out) hb); have n1_ := Aside0.mk (blk_below (g := gb102) (o := .cells #[.int .u32 0, .int .u64 0, .int .u32 0, .int .u32 0, .int .u32 0, .int .u32 0, .int .u32 0, .slice none 0 0] 116 (0, 0)) (by (with_reducible repeat (first | refine zAF ?_ _ | refine zAG ?_ | refine zAE ?_ _)); exact BK102.out) hb); have n2_ := Aside0.mk (zAX (by repeat (first | (with_reducible first | exact HB.out | apply below_alloc | apply zAC | apply zAD | refine zAI ?_ GE101.out | refine zAI ?_ GE102.out) | exact HB.out)) hb); have n3_ := Aside0.mk (hbox); have n4_ := Aside0.mk ((by rw [hg]; exact (zAO (by repeat (first | (with_reducible first | exact HB.out | apply below_alloc | apply zAC | apply zAD | refine zAI ?_ GE101.out | refine zAI ?_ GE102.out) | exact HB.out))) : w.heap.size ≤ gb103)); have n5_ := Aside0.mk ((by rw [hg]; exact (zAO (by repeat (first | (with_reducible first | exact HB.out | apply below_alloc | apply zAC | apply zAD | refine zAI ?_ GE101.out | refine zAI ?_ GE102.out) | exact HB.out))) : w.heap.size ≤ gb103)); have n6_ := Aside0.mk ((by rw [hg]; exact Nat.ne_of_lt (zAp (g := gb101) (o := .cells #[.int .u32 a0_0, .int .u64 a0_1, .int .u32 a0_2, .int .u32 a0_3, .int .u32 a0_4, .int .u32 a0_5, .int .u32 a0_6, .slice A0_7 l0_7.length c0_7] 26 (0, 0)) (by (with_reducible repeat (first | refine zAF ?_ _ | refine zAG ?_ | refine zAE ?_ _)); exact BK101.out)) : gb101 ≠ gb103)); have n7_ := Aside0.mk ((by rw [hg]; exact Nat.ne_of_gt (zAp (g := gb101) (o := .cells #[.int .u32 a0_0, .int .u64 a0_1, .int .u32 a0_2, .int .u32 a0_3, .int .u32 a0_4, .int .u32 a0_5, .int .u32 a0_6, .slice A0_7 l0_7.length c0_7] 26 (0, 0)) (by (with_reducible repeat (first | refine zAF ?_ _ | refine zAG ?_ | refine zAE ?_ _)); exact BK101.out)) : gb103 ≠ gb101)); have n8_ := Aside0.mk ((by rw [hg]; exact Nat.ne_of_lt (zAp (g := gb102) (o := .cells #[.int .u32 0, .int .u64 0, .int .u32 0, .int .u32 0, .int .u32 0, .int .u32 0, .int .u32 0, .slice none 0 0] 116 (0, 0)) (by (with_reducible repeat (first | refine zAF ?_ _ | refine zAG ?_ | refine zAE ?_ _)); exact BK102.out)) : gb102 ≠ gb103)); have n9_ := Aside0.mk ((by rw [hg]; exact Nat.ne_of_gt (zAp (g := gb102) (o := .cells #[.int .u32 0, .int .u64 0, .int .u32 0, .int .u32 0, .int .u32 0, .int .u32 0, .int .u32 0, .slice none 0 0] 116 (0, 0)) (by (with_reducible repeat (first | refine zAF ?_ _ | refine zAG ?_ | refine zAE ?_ _)); exact BK102.out)) : gb103 ≠ gb102)); clear BK101; clear BK102; clear HB; have BK101 := n0_; have BK102 := n1_; have HB := n2_; have BK103 := n3_; have GW103 := n4_; have GE103 := n5_; have NB101_103 := n6_; have NB103_101 := n7_; have NB102_103 := n8_; have NB103_102 := n9_; clear n0_ n1_ n2_ n3_ n4_ n5_ n6_ n7_ n8_ n9_; clear hb hbox hg; have hnb7 := NB103_101.out; have hnc7 := NB101_103.out; have hnb8 := NB103_102.out; have hnc8 := NB102_103.out; obtain ⟨hcz9_0, hcz9_1, hcz9_2, hcz9_3, hcz9_4, hcz9_5, hcz9_6, hcz9_7, hfz9_0, hfz9_1, hfz9_2, hfz9_3, hfz9_4, hfz9_5, hfz9_6, hfz9_7⟩ := zDV BK103.out; obtain ⟨hcz10_0, hcz10_1, hcz10_2, hcz10_3, hcz10_4, hcz10_5, hcz10_6, hcz10_7, hfz10_0, hfz10_1, hfz10_2, hfz10_3, hfz10_4, hfz10_5, hfz10_6, hfz10_7⟩ := zDV BK101.out))
 go_loopg [24] k (fun kq v24 w' => ∃ (x24_1 : Int) (x104007_1 : List (zAu)) (u104007 : Value), v24 = .int .i64 x24_1 ∧ Aside0 (impl_attrs.l0 kq l0_7 (l0_7.length : Int) x24_1 a0_0 a0_1 a0_2 a0_3 a0_4 a0_5 a0_6 x104007_1 = some (r1, r2, r3, r4, r5, r6, r7, r8)) ∧ Aside0 (kq ≤ k) ∧ Aside0 (Kd.R k206 206 w' w.heap.size (fun _ => True) u104007 x104007_1) ∧ Aside0 (w'.heap[gb101]? = some (.cells #[.int .u32 a0_0, .int .u64 a0_1, .int .u32 a0_2, .int .u32 a0_3, .int .u32 a0_4, .int .u32 a0_5, .int .u32 a0_6, (.slice A0_7 l0_7.length c0_7)] 26 (0, 0))) ∧ Aside0 (w'.heap[gb102]? = some (.cells #[.int .u32 0, .int .u64 0, .int .u32 0, .int .u32 0, .int .u32 0, .int .u32 0, .int .u32 0, (.slice none 0 0)] 116 (0, 0))) ∧ Aside0 (w'.heap[gb103]? = some (.cells #[.int .u32 a0_0, .int .u64 a0_1, .int .u32 a0_2, .int .u32 a0_3, .int .u32 a0_4, .int .u32 a0_5, .int .u32 a0_6, u104007] 116 (0, 0))) ∧ Aside0 (Below w.heap.size w w'))
 case atStart => exact ⟨(0), (([] : List (zAu))), (.slice none 0 0), (by first | rfl | (simp; done) | (simp [*]; done)), H', ⟨Nat.le_refl _⟩, ⟨by first | exact Kd.R_nil _ _ _ _ _ | exact Kd.N_nil _ _ _ _ _ | exact Kd.V_nil _ _ _ _ _ | exact Kd.Q_nil _ _ _ _ _ | exact Kd.S_nil _ _ _ _ _⟩, ⟨by (with_reducible repeat (first | refine zAF ?_ _ | refine zAG ?_ | refine zAE ?_ _)); refine zA9 ?_ NB101_103.out _; (with_reducible repeat (first | refine zAF ?_ _ | refine zAG ?_ | refine zAE ?_ _)); refine zA9 ?_ NB101_103.out _; (with_reducible repeat (first | refine zAF ?_ _ | refine zAG ?_ | refine zAE ?_ _)); refine zA9 ?_ NB101_103.out _; (with_reducible repeat (first | refine zAF ?_ _ | refine zAG ?_ | refine zAE ?_ _)); refine zA9 ?_ NB101_103.out _; (with_reducible repeat (first | refine zAF ?_ _ | refine zAG ?_ | refine zAE ?_ _)); refine zA9 ?_ NB101_103.out _; (with_reducible repeat (first | refine zAF ?_ _ | refine zAG ?_ | refine zAE ?_ _)); refine zA9 ?_ NB101_103.out _; (with_reducible repeat (first | refine zAF ?_ _ | refine zAG ?_ | refine zAE ?_ _)); refine zA9 ?_ NB101_103.out _; (with_reducible repeat (first | refine zAF ?_ _ | refine zAG ?_ | refine zAE ?_ _)); refine zA9 ?_ NB101_103.out _; (with_reducible repeat (first | refine zAF ?_ _ | refine zAG ?_ | refine zAE ?_ _)); exact BK101.out⟩, ⟨by (with_reducible repeat (first | refine zAF ?_ _ | refine zAG ?_ | refine zAE ?_ _)); refine zA9 ?_ NB102_103.out _; (with_reducible repeat (first | refine zAF ?_ _ | refine zAG ?_ | refine zAE ?_ _)); refine zA9 ?_ NB102_103.out _; (with_reducible repeat (first | refine zAF ?_ _ | refine zAG ?_ | refine zAE ?_ _)); refine zA9 ?_ NB102_103.out _; (with_reducible repeat (first | refine zAF ?_ _ | refine zAG ?_ | refine zAE ?_ _)); refine zA9 ?_ NB102_103.out _; (with_reducible repeat (first | refine zAF ?_ _ | refine zAG ?_ | refine zAE ?_ _)); refine zA9 ?_ NB102_103.out _; (with_reducible repeat (first | refine zAF ?_ _ | refine zAG ?_ | refine zAE ?_ _)); refine zA9 ?_ NB102_103.out _; (with_reducible repeat (first | refine zAF ?_ _ | refine zAG ?_ | refine zAE ?_ _)); refine zA9 ?_ NB102_103.out _; (with_reducible repeat (first | refine zAF ?_ _ | refine zAG ?_ | refine zAE ?_ _)); refine zA9 ?_ NB102_103.out _; (with_reducible repeat (first | refine zAF ?_ _ | refine zAG ?_ | refine zAE ?_ _)); exact BK102.out⟩, ⟨by (with_reducible repeat (first | refine zAF ?_ _ | refine zAG ?_ | refine zAE ?_ _)); refine zA0 (cs := #[.int .u32 a0_0, .int .u64 a0_1, .int .u32 a0_2, .int .u32 a0_3, .int .u32 a0_4, .int .u32 a0_5, .int .u32 a0_6, .slice none 0 0]) ?_ 7 _ rfl; (with_reducible repeat (first | refine zAF ?_ _ | refine zAG ?_ | refine zAE ?_ _)); refine zA0 (cs := #[.int .u32 a0_0, .int .u64 a0_1, .int .u32 a0_2, .int .u32 a0_3, .int .u32 a0_4, .int .u32 a0_5, .int .u32 0, .slice none 0 0]) ?_ 6 _ rfl; (with_reducible repeat (first | refine zAF ?_ _ | refine zAG ?_ | refine zAE ?_ _)); refine zA0 (cs := #[.int .u32 a0_0, .int .u64 a0_1, .int .u32 a0_2, .int .u32 a0_3, .int .u32 a0_4, .int .u32 0, .int .u32 0, .slice none 0 0]) ?_ 5 _ rfl; (with_reducible repeat (first | refine zAF ?_ _ | refine zAG ?_ | refine zAE ?_ _)); refine zA0 (cs := #[.int .u32 a0_0, .int .u64 a0_1, .int .u32 a0_2, .int .u32 a0_3, .int .u32 0, .int .u32 0, .int .u32 0, .slice none 0 0]) ?_ 4 _ rfl; (with_reducible repeat (first | refine zAF ?_ _ | refine zAG ?_ | refine zAE ?_ _)); refine zA0 (cs := #[.int .u32 a0_0, .int .u64 a0_1, .int .u32 a0_2, .int .u32 0, .int .u32 0, .int .u32 0, .int .u32 0, .slice none 0 0]) ?_ 3 _ rfl; (with_reducible repeat (first | refine zAF ?_ _ | refine zAG ?_ | refine zAE ?_ _)); refine zA0 (cs := #[.int .u32 a0_0, .int .u64 a0_1, .int .u32 0, .int .u32 0, .int .u32 0, .int .u32 0, .int .u32 0, .slice none 0 0]) ?_ 2 _ rfl; (with_reducible repeat (first | refine zAF ?_ _ | refine zAG ?_ | refine zAE ?_ _)); refine zA0 (cs := #[.int .u32 a0_0, .int .u64 0, .int .u32 0, .int .u32 0, .int .u32 0, .int .u32 0, .int .u32 0, .slice none 0 0]) ?_ 1 _ rfl; (with_reducible repeat (first | refine zAF ?_ _ | refine zAG ?_ | refine zAE ?_ _)); refine zA0 (cs := #[.int .u32 0, .int .u64 0, .int .u32 0, .int .u32 0, .int .u32 0, .int .u32 0, .int .u32 0, .slice none 0 0]) ?_ 0 _ rfl; (with_reducible repeat (first | refine zAF ?_ _ | refine zAG ?_ | refine zAE ?_ _)); exact BK103.out⟩, ⟨by repeat (first | (with_reducible first | exact HB.out | apply below_alloc | apply zAC | apply zAD | refine zAI ?_ GE101.out | refine zAI ?_ GE102.out | refine zAI ?_ GE103.out) | exact HB.out)⟩⟩
 case round =>
  clear H'
  try clear p2
  try clear c4
  try clear c5
  try clear c7
  try clear c8
  try clear hcz10_0
  try clear hcz10_1
  try clear hcz10_2
  try clear hcz10_3
  try clear hcz10_4
  try clear hcz10_5
  try clear hcz10_6
  try clear hcz10_7
  try clear hcz5_0
  try clear hcz5_1
  try clear hcz5_2
  try clear hcz5_3
  try clear hcz5_4
  try clear hcz5_5
  try clear hcz5_6
  try clear hcz5_7
  try clear hcz9_0
  try clear hcz9_1
  try clear hcz9_2
  try clear hcz9_3
  try clear hcz9_4
  try clear hcz9_5
  try clear hcz9_6
  try clear hcz9_7
  try clear hfz10_0
  try clear hfz10_1
  try clear hfz10_2
  try clear hfz10_3
  try clear hfz10_4
  try clear hfz10_5
  try clear hfz10_6
  try clear hfz10_7
  try clear hfz5_0
  try clear hfz5_1
  try clear hfz5_2
  try clear hfz5_3
  try clear hfz5_4
  try clear hfz5_5
  try clear hfz5_6
  try clear hfz5_7
  try clear hfz9_0
  try clear hfz9_1
  try clear hfz9_2
  try clear hfz9_3
  try clear hfz9_4
  try clear hfz9_5
  try clear hfz9_6
  try clear hfz9_7
  obtain ⟨x24_1, x104007_1, u104007, rfl, HA, HK1, HO_104007, BK101, BK102, BK103, HB⟩ := hrel
  cases gk with
  | zero => exact absurd HA.out (by simp [impl_attrs.l0])
  | succ k1 =>
   have H := HA.out
   clear HA
   simp only [impl_attrs.l0] at H
   by_cases c11 : x24_1 < (l0_7.length : Int)
   ·rw [if_pos c11] at H
    have c11b0 : decide (x24_1 < (l0_7.length : Int)) = true := decide_eq_true c11
    clear c11
    by_cases c12 : 0 ≤ x24_1
    ·rw [if_pos c12] at H
     have c12b0 : decide (0 ≤ x24_1) = true := decide_eq_true c12
     clear c12
     by_cases c13 : x24_1 < (l0_7.length : Int)
     ·rw [if_pos c13] at H
      have c13b0 : decide (x24_1 < (l0_7.length : Int)) = true := decide_eq_true c13
      clear c13
      by_cases c14 : x104007_1.length < 4398046511104
      ·rw [if_pos c14] at H
       have LMc14 := Aside0.mk c14
       clear c14
       obtain ⟨y106, hy106⟩ : ∃ y_ : List (zAu), y_ = (x104007_1 ++ [(⟨(zA7 l0_7 x24_1).f0, (zA7 l0_7 x24_1).f1⟩ : zAu)]) := ⟨_, rfl⟩
       replace H : (impl_attrs.l0 k1 l0_7 (l0_7.length : Int) (wrap64 (x24_1 + 1)) a0_0 a0_1 a0_2 a0_3 a0_4 a0_5 a0_6 y106) = some (r1, r2, r3, r4, r5, r6, r7, r8) := by first | (rw [hy106]; with_reducible exact H) | (have H2_ := (Option.bind_some _ _).symm.trans H; rw [hy106]; with_reducible exact H2_) | (have H2_ := (Option.bind_some _ _).symm.trans H; with_reducible exact H2_) | with_reducible exact H | (rw [hy106]; exact H) | exact H
       have Ny106 := Aside0.mk hy106
       clear hy106
       have H' := Aside0.mk H
       clear H
       have p104 : 0 ≤ (x24_1 : Int) := of_decide_eq_true (by first | (with_reducible assumption) | assumption)
       have q104 : x24_1 < (l0_7.length : Int) := of_decide_eq_true (by first | (with_reducible assumption) | assumption)
       obtain ⟨ad104, e104, hx104_0, hx104_1⟩ := zCL HR0_7.out x24_1 p104 q104
       cases e104
       replace hx104_0 := (HB.out.cell (World.block_lt_of_cell? w _ hx104_0)).trans hx104_0
       replace hx104_1 := (HB.out.cell (World.block_lt_of_cell? w _ hx104_1)).trans hx104_1
       replace p104 := eq_true p104
       replace q104 := eq_true q104
       go_wp2_with (first | ((with_reducible refine zAb (N := 5) rfl ?_); refine zA6 ?hg (N := 5) ?hd (cs := #[.string (⟨#[]⟩ : ByteArray), .string (⟨#[]⟩ : ByteArray)]) (t := 52) ?hr ?_; (case hd => rfl); (case hg => rfl); (case hr => first | (go_simp; done) | (go_simp; rfl)); intro gb105 hg w15 hbox hb; have n0_ := Aside0.mk (Kd.R_below (by (with_reducible repeat (first | apply Kd.R_alloc | apply Kd.R_drewN | apply Kd.R_drew)); exact HO_104007.out) hb); have n1_ := Aside0.mk (blk_below (g := gb101) (o := .cells #[.int .u32 a0_0, .int .u64 a0_1, .int .u32 a0_2, .int .u32 a0_3, .int .u32 a0_4, .int .u32 a0_5, .int .u32 a0_6, .slice (some ad104) l0_7.length c0_7] 26 (0, 0)) (by (with_reducible repeat (first | refine zAF ?_ _ | refine zAG ?_ | refine zAE ?_ _)); exact BK101.out) hb); have n2_ := Aside0.mk (blk_below (g := gb102) (o := .cells #[.int .u32 0, .int .u64 0, .int .u32 0, .int .u32 0, .int .u32 0, .int .u32 0, .int .u32 0, .slice none 0 0] 116 (0, 0)) (by (with_reducible repeat (first | refine zAF ?_ _ | refine zAG ?_ | refine zAE ?_ _)); exact BK102.out) hb); have n3_ := Aside0.mk (blk_below (g := gb103) (o := .cells #[.int .u32 a0_0, .int .u64 a0_1, .int .u32 a0_2, .int .u32 a0_3, .int .u32 a0_4, .int .u32 a0_5, .int .u32 a0_6, u104007] 116 (0, 0)) (by (with_reducible repeat (first | refine zAF ?_ _ | refine zAG ?_ | refine zAE ?_ _)); exact BK103.out) hb); have n4_ := Aside0.mk (zAX (by repeat (first | (with_reducible first | exact HB.out | apply below_alloc | apply zAC | apply zAD | refine zAI ?_ GE101.out | refine zAI ?_ GE102.out | refine zAI ?_ GE103.out) | exact HB.out)) hb); have n5_ := Aside0.mk (hbox); have n6_ := Aside0.mk ((by rw [hg]; exact (zAO (by repeat (first | (with_reducible first | exact HB.out | apply below_alloc | apply zAC | apply zAD | refine zAI ?_ GE101.out | refine zAI ?_ GE102.out | refine zAI ?_ GE103.out) | exact HB.out))) : w.heap.size ≤ gb105)); have n7_ := Aside0.mk ((by rw [hg]; exact (zAO (by repeat (first | (with_reducible first | exact HB.out | apply below_alloc | apply zAC | apply zAD | refine zAI ?_ GE101.out | refine zAI ?_ GE102.out | refine zAI ?_ GE103.out) | exact HB.out))) : w.heap.size ≤ gb105)); have n8_ := Aside0.mk ((by rw [hg]; exact Nat.ne_of_lt (zAp (g := gb101) (o := .cells #[.int .u32 a0_0, .int .u64 a0_1, .int .u32 a0_2, .int .u32 a0_3, .int .u32 a0_4, .int .u32 a0_5, .int .u32 a0_6, .slice (some ad104) l0_7.length c0_7] 26 (0, 0)) (by (with_reducible repeat (first | refine zAF ?_ _ | refine zAG ?_ | refine zAE ?_ _)); exact BK101.out)) : gb101 ≠ gb105)); have n9_ := Aside0.mk ((by rw [hg]; exact Nat.ne_of_gt (zAp (g := gb101) (o := .cells #[.int .u32 a0_0, .int .u64 a0_1, .int .u32 a0_2, .int .u32 a0_3, .int .u32 a0_4, .int .u32 a0_5, .int .u32 a0_6, .slice (some ad104) l0_7.length c0_7] 26 (0, 0)) (by (with_reducible repeat (first | refine zAF ?_ _ | refine zAG ?_ | refine zAE ?_ _)); exact BK101.out)) : gb105 ≠ gb101)); have n10_ := Aside0.mk ((by rw [hg]; exact Nat.ne_of_lt (zAp (g := gb102) (o := .cells #[.int .u32 0, .int .u64 0, .int .u32 0, .int .u32 0, .int .u32 0, .int .u32 0, .int .u32 0, .slice none 0 0] 116 (0, 0)) (by (with_reducible repeat (first | refine zAF ?_ _ | refine zAG ?_ | refine zAE ?_ _)); exact BK102.out)) : gb102 ≠ gb105)); have n11_ := Aside0.mk ((by rw [hg]; exact Nat.ne_of_gt (zAp (g := gb102) (o := .cells #[.int .u32 0, .int .u64 0, .int .u32 0, .int .u32 0, .int .u32 0, .int .u32 0, .int .u32 0, .slice none 0 0] 116 (0, 0)) (by (with_reducible repeat (first | refine zAF ?_ _ | refine zAG ?_ | refine zAE ?_ _)); exact BK102.out)) : gb105 ≠ gb102)); have n12_ := Aside0.mk ((by rw [hg]; exact Nat.ne_of_lt (zAp (g := gb103) (o := .cells #[.int .u32 a0_0, .int .u64 a0_1, .int .u32 a0_2, .int .u32 a0_3, .int .u32 a0_4, .int .u32 a0_5, .int .u32 a0_6, u104007] 116 (0, 0)) (by (with_reducible repeat (first | refine zAF ?_ _ | refine zAG ?_ | refine zAE ?_ _)); exact BK103.out)) : gb103 ≠ gb105)); have n13_ := Aside0.mk ((by rw [hg]; exact Nat.ne_of_gt (zAp (g := gb103) (o := .cells #[.int .u32 a0_0, .int .u64 a0_1, .int .u32 a0_2, .int .u32 a0_3, .int .u32 a0_4, .int .u32 a0_5, .int .u32 a0_6, u104007] 116 (0, 0)) (by (with_reducible repeat (first | refine zAF ?_ _ | refine zAG ?_ | refine zAE ?_ _)); exact BK103.out)) : gb105 ≠ gb103)); clear HO_104007; clear BK101; clear BK102; clear BK103; clear HB; have HO_104007 := n0_; have BK101 := n1_; have BK102 := n2_; have BK103 := n3_; have HB := n4_; have BK105 := n5_; have GW105 := n6_; have GE105 := n7_; have NB101_105 := n8_; have NB105_101 := n9_; have NB102_105 := n10_; have NB105_102 := n11_; have NB103_105 := n12_; have NB105_103 := n13_; clear n0_ n1_ n2_ n3_ n4_ n5_ n6_ n7_ n8_ n9_ n10_ n11_ n12_ n13_; clear hb hbox hg; have hnb16 := NB105_101.out; have hnc16 := NB101_105.out; have hnb17 := NB105_102.out; have hnc17 := NB102_105.out; have hnb18 := NB105_103.out; have hnc18 := NB103_105.out; have hcz19_0 : w15.cell? ⟨gb105, 0, none⟩ = some (.string (⟨#[]⟩ : ByteArray)) := (zAR BK105.out 0).trans rfl; have hcz19_1 : w15.cell? ⟨gb105, 1, none⟩ = some (.string (⟨#[]⟩ : ByteArray)) := (zAR BK105.out 1).trans rfl; have hfz19_0 := zAN BK105.out 0; have hfz19_1 := zAN BK105.out 1; have hnb20 := NB103_101.out; have hnc20 := NB101_103.out; have hnb21 := NB103_102.out; have hnc21 := NB102_103.out; obtain ⟨hcz22_0, hcz22_1, hcz22_2, hcz22_3, hcz22_4, hcz22_5, hcz22_6, hcz22_7, hfz22_0, hfz22_1, hfz22_2, hfz22_3, hfz22_4, hfz22_5, hfz22_6, hfz22_7⟩ := zDV BK103.out) | ((with_reducible refine zDa (b := .append) (xs := #[.tmp 29, .tmp 35]) rfl ?_); at_builtin; refine Kd.R_append k206 (w0 := w) w.heap.size rfl (.tmp 29) (.tmp 35) 114 206 (.agg #[(.string ⟨#[]⟩), (.string ⟨#[]⟩)]) 32 rfl Tryz.underlying114 zMK rfl (by decide) (by omega) u104007 x104007_1 (⟨(zA7 l0_7 x24_1).f0, (zA7 l0_7 x24_1).f1⟩ : zAu) [.string ((zA7 l0_7 x24_1).f0), .string ((zA7 l0_7 x24_1).f1)] (fun _ => True) (fun _ => False) rfl (by first | (go_simp; done) | (go_simp; rfl)) ?aP (fun _ hk => hk.elim) ?aF ?aO ?aB ?aS ?aL ?_; (case aP => exact zKr _ _ _ (⟨(zA7 l0_7 x24_1).f0, (zA7 l0_7 x24_1).f1⟩ : zAu)); (case aB => exact (by repeat (first | (with_reducible first | exact HB.out | apply below_alloc | apply zAC | apply zAD | refine zAI ?_ GE101.out | refine zAI ?_ GE102.out | refine zAI ?_ GE103.out | refine zAI ?_ GE105.out) | exact HB.out))); (case aF => exact (fun _ _ => trivial)); (case aO => exact (by (with_reducible repeat (first | apply Kd.R_alloc | apply Kd.R_drewN | apply Kd.R_drew)); exact Kd.R_mono (Kd.R_far (p := ⟨gb105, 1, none⟩) (Kd.R_far (p := ⟨gb105, 0, none⟩) (Kd.R_types HO_104007.out BK105.out (by decide)) (fun _ hk => hk.2) (.string ((zA7 l0_7 x24_1).f0))) (fun _ hk => hk.2) (.string ((zA7 l0_7 x24_1).f1))) (fun _ hk => trivial))); (case aS => exact (zAO (by repeat (first | (with_reducible first | exact HB.out | apply below_alloc | apply zAC | apply zAD | refine zAI ?_ GE101.out | refine zAI ?_ GE102.out | refine zAI ?_ GE103.out | refine zAI ?_ GE105.out) | exact HB.out)))); (case aL => have := LMc14.out; omega); intro v107 w23 ho hb hg hat; rw [← Ny106.out] at ho; have n0_ := Aside0.mk (zBg (g := gb101) (o := .cells #[.int .u32 a0_0, .int .u64 a0_1, .int .u32 a0_2, .int .u32 a0_3, .int .u32 a0_4, .int .u32 a0_5, .int .u32 a0_6, .slice (some ad104) l0_7.length c0_7] 26 (0, 0)) (by (with_reducible repeat (first | refine zAF ?_ _ | refine zAG ?_ | refine zAE ?_ _)); refine zA9 ?_ NB101_105.out _; (with_reducible repeat (first | refine zAF ?_ _ | refine zAG ?_ | refine zAE ?_ _)); refine zA9 ?_ NB101_105.out _; (with_reducible repeat (first | refine zAF ?_ _ | refine zAG ?_ | refine zAE ?_ _)); exact BK101.out) hg (Kd.R_ne HO_104007.out BK101.out (by decide))); have n1_ := Aside0.mk (zBg (g := gb102) (o := .cells #[.int .u32 0, .int .u64 0, .int .u32 0, .int .u32 0, .int .u32 0, .int .u32 0, .int .u32 0, .slice none 0 0] 116 (0, 0)) (by (with_reducible repeat (first | refine zAF ?_ _ | refine zAG ?_ | refine zAE ?_ _)); refine zA9 ?_ NB102_105.out _; (with_reducible repeat (first | refine zAF ?_ _ | refine zAG ?_ | refine zAE ?_ _)); refine zA9 ?_ NB102_105.out _; (with_reducible repeat (first | refine zAF ?_ _ | refine zAG ?_ | refine zAE ?_ _)); exact BK102.out) hg (Kd.R_ne HO_104007.out BK102.out (by decide))); have n2_ := Aside0.mk (zBg (g := gb103) (o := .cells #[.int .u32 a0_0, .int .u64 a0_1, .int .u32 a0_2, .int .u32 a0_3, .int .u32 a0_4, .int .u32 a0_5, .int .u32 a0_6, u104007] 116 (0, 0)) (by (with_reducible repeat (first | refine zAF ?_ _ | refine zAG ?_ | refine zAE ?_ _)); refine zA9 ?_ NB103_105.out _; (with_reducible repeat (first | refine zAF ?_ _ | refine zAG ?_ | refine zAE ?_ _)); refine zA9 ?_ NB103_105.out _; (with_reducible repeat (first | refine zAF ?_ _ | refine zAG ?_ | refine zAE ?_ _)); exact BK103.out) hg (Kd.R_ne HO_104007.out BK103.out (by decide))); have n3_ := Aside0.mk (zBg (g := gb105) (o := .cells #[.string ((zA7 l0_7 x24_1).f0), .string ((zA7 l0_7 x24_1).f1)] 52 (0, 0)) (by (with_reducible repeat (first | refine zAF ?_ _ | refine zAG ?_ | refine zAE ?_ _)); refine zA0 (cs := #[.string ((zA7 l0_7 x24_1).f0), .string (⟨#[]⟩ : ByteArray)]) ?_ 1 _ rfl; (with_reducible repeat (first | refine zAF ?_ _ | refine zAG ?_ | refine zAE ?_ _)); refine zA0 (cs := #[.string (⟨#[]⟩ : ByteArray), .string (⟨#[]⟩ : ByteArray)]) ?_ 0 _ rfl; (with_reducible repeat (first | refine zAF ?_ _ | refine zAG ?_ | refine zAE ?_ _)); exact BK105.out) hg (Kd.R_ne HO_104007.out BK105.out (by decide))); have n4_ := Aside0.mk (hb); have n5_ := Aside0.mk (ho); clear BK101; clear BK102; clear BK103; clear BK105; clear HB; clear HO_104007; have BK101 := n0_; have BK102 := n1_; have BK103 := n2_; have BK105 := n3_; have HB := n4_; have HO108 := n5_; clear n0_ n1_ n2_ n3_ n4_ n5_; clear ho hb hg hat; obtain ⟨Ao24, co24, eo24⟩ := Kd.R_slice HO108.out; subst eo24; obtain ⟨hcz25_0, hcz25_1, hcz25_2, hcz25_3, hcz25_4, hcz25_5, hcz25_6, hcz25_7, hfz25_0, hfz25_1, hfz25_2, hfz25_3, hfz25_4, hfz25_5, hfz25_6, hfz25_7⟩ := zDV BK103.out))
       go_roundg k1
       case measure => have := HK1.out; omega
       case rel => exact ⟨(wrap64 (x24_1 + 1)), (y106), (.slice Ao24 y106.length co24), (by first | rfl | (simp; done) | (simp [*]; done)), H', ⟨by have := HK1.out; omega⟩, ⟨by (with_reducible repeat (first | apply Kd.R_alloc | apply Kd.R_drewN | apply Kd.R_drew)); exact Kd.R_mono (Kd.R_far (p := ⟨gb103, 7, none⟩) (Kd.R_types HO108.out BK103.out (by decide)) (fun _ hk => hk.2) (.slice Ao24 y106.length co24)) (fun _ hk => trivial)⟩, ⟨by (with_reducible repeat (first | refine zAF ?_ _ | refine zAG ?_ | refine zAE ?_ _)); refine zA9 ?_ NB101_103.out _; (with_reducible repeat (first | refine zAF ?_ _ | refine zAG ?_ | refine zAE ?_ _)); exact BK101.out⟩, ⟨by (with_reducible repeat (first | refine zAF ?_ _ | refine zAG ?_ | refine zAE ?_ _)); refine zA9 ?_ NB102_103.out _; (with_reducible repeat (first | refine zAF ?_ _ | refine zAG ?_ | refine zAE ?_ _)); exact BK102.out⟩, ⟨by (with_reducible repeat (first | refine zAF ?_ _ | refine zAG ?_ | refine zAE ?_ _)); refine zA0 (cs := #[.int .u32 a0_0, .int .u64 a0_1, .int .u32 a0_2, .int .u32 a0_3, .int .u32 a0_4, .int .u32 a0_5, .int .u32 a0_6, u104007]) ?_ 7 _ rfl; (with_reducible repeat (first | refine zAF ?_ _ | refine zAG ?_ | refine zAE ?_ _)); exact BK103.out⟩, ⟨by repeat (first | (with_reducible first | exact HB.out | apply below_alloc | apply zAC | apply zAD | refine zAI ?_ GE101.out | refine zAI ?_ GE102.out | refine zAI ?_ GE103.out | refine zAI ?_ GE105.out) | exact HB.out)⟩⟩
      ·rw [if_neg c14] at H
       exact absurd H (by simp)
     ·rw [if_neg c13] at H
      exact absurd H (by simp)
    ·rw [if_neg c12] at H
     exact absurd H (by simp)
   ·rw [if_neg c11] at H
    have c11b0 : decide (x24_1 < (l0_7.length : Int)) = false := decide_eq_false c11
    clear c11
    simp only [Option.some.injEq, Prod.mk.injEq] at H
    obtain ⟨rfl, rfl, rfl, rfl, rfl, rfl, rfl, rfl⟩ := H
    have hnb26 := NB103_101.out
    have hnc26 := NB101_103.out
    have hnb27 := NB103_102.out
    have hnc27 := NB102_103.out
    have hcz28_0 : wr.cell? ⟨gb103, 0, none⟩ = some (.int .u32 a0_0) := (zAR BK103.out 0).trans rfl
    have hcz28_1 : wr.cell? ⟨gb103, 1, none⟩ = some (.int .u64 a0_1) := (zAR BK103.out 1).trans rfl
    have hcz28_2 : wr.cell? ⟨gb103, 2, none⟩ = some (.int .u32 a0_2) := (zAR BK103.out 2).trans rfl
    have hcz28_3 : wr.cell? ⟨gb103, 3, none⟩ = some (.int .u32 a0_3) := (zAR BK103.out 3).trans rfl
    have hcz28_4 : wr.cell? ⟨gb103, 4, none⟩ = some (.int .u32 a0_4) := (zAR BK103.out 4).trans rfl
    have hcz28_5 : wr.cell? ⟨gb103, 5, none⟩ = some (.int .u32 a0_5) := (zAR BK103.out 5).trans rfl
    have hcz28_6 : wr.cell? ⟨gb103, 6, none⟩ = some (.int .u32 a0_6) := (zAR BK103.out 6).trans rfl
    have hcz28_7 : wr.cell? ⟨gb103, 7, none⟩ = some (u104007) := (zAR BK103.out 7).trans rfl
    have hfz28_0 := zAN BK103.out 0
    have hfz28_1 := zAN BK103.out 1
    have hfz28_2 := zAN BK103.out 2
    have hfz28_3 := zAN BK103.out 3
    have hfz28_4 := zAN BK103.out 4
    have hfz28_5 := zAN BK103.out 5
    have hfz28_6 := zAN BK103.out 6
    have hfz28_7 := zAN BK103.out 7
    have hnb29 := NB102_101.out
    have hnc29 := NB101_102.out
    have hcz30_0 : wr.cell? ⟨gb102, 0, none⟩ = some (.int .u32 0) := (zAR BK102.out 0).trans rfl
    have hcz30_1 : wr.cell? ⟨gb102, 1, none⟩ = some (.int .u64 0) := (zAR BK102.out 1).trans rfl
    have hcz30_2 : wr.cell? ⟨gb102, 2, none⟩ = some (.int .u32 0) := (zAR BK102.out 2).trans rfl
    have hcz30_3 : wr.cell? ⟨gb102, 3, none⟩ = some (.int .u32 0) := (zAR BK102.out 3).trans rfl
    have hcz30_4 : wr.cell? ⟨gb102, 4, none⟩ = some (.int .u32 0) := (zAR BK102.out 4).trans rfl
    have hcz30_5 : wr.cell? ⟨gb102, 5, none⟩ = some (.int .u32 0) := (zAR BK102.out 5).trans rfl
    have hcz30_6 : wr.cell? ⟨gb102, 6, none⟩ = some (.int .u32 0) := (zAR BK102.out 6).trans rfl
    have hcz30_7 : wr.cell? ⟨gb102, 7, none⟩ = some (.slice none 0 0) := (zAR BK102.out 7).trans rfl
    have hfz30_0 := zAN BK102.out 0
    have hfz30_1 := zAN BK102.out 1
    have hfz30_2 := zAN BK102.out 2
    have hfz30_3 := zAN BK102.out 3
    have hfz30_4 := zAN BK102.out 4
    have hfz30_5 := zAN BK102.out 5
    have hfz30_6 := zAN BK102.out 6
    have hfz30_7 := zAN BK102.out 7
    obtain ⟨Ao31, co31, eo31⟩ := Kd.R_slice HO_104007.out
    subst eo31
    go_wp2
    refine bodyPost_ret (results_cell_row rfl _ _ gb102 116 #[.int .u32 a0_0, .int .u64 a0_1, .int .u32 a0_2, .int .u32 a0_3, .int .u32 a0_4, .int .u32 a0_5, .int .u32 a0_6, .slice Ao31 x104007_1.length co31] (0, 0) _ rfl (by (with_reducible repeat (first | refine zAF ?_ _ | refine zAG ?_ | refine zAE ?_ _)); refine zA0 (cs := #[.int .u32 a0_0, .int .u64 a0_1, .int .u32 a0_2, .int .u32 a0_3, .int .u32 a0_4, .int .u32 a0_5, .int .u32 a0_6, .slice none 0 0]) ?_ 7 _ rfl; (with_reducible repeat (first | refine zAF ?_ _ | refine zAG ?_ | refine zAE ?_ _)); refine zA0 (cs := #[.int .u32 a0_0, .int .u64 a0_1, .int .u32 a0_2, .int .u32 a0_3, .int .u32 a0_4, .int .u32 a0_5, .int .u32 0, .slice none 0 0]) ?_ 6 _ rfl; (with_reducible repeat (first | refine zAF ?_ _ | refine zAG ?_ | refine zAE ?_ _)); refine zA0 (cs := #[.int .u32 a0_0, .int .u64 a0_1, .int .u32 a0_2, .int .u32 a0_3, .int .u32 a0_4, .int .u32 0, .int .u32 0, .slice none 0 0]) ?_ 5 _ rfl; (with_reducible repeat (first | refine zAF ?_ _ | refine zAG ?_ | refine zAE ?_ _)); refine zA0 (cs := #[.int .u32 a0_0, .int .u64 a0_1, .int .u32 a0_2, .int .u32 a0_3, .int .u32 0, .int .u32 0, .int .u32 0, .slice none 0 0]) ?_ 4 _ rfl; (with_reducible repeat (first | refine zAF ?_ _ | refine zAG ?_ | refine zAE ?_ _)); refine zA0 (cs := #[.int .u32 a0_0, .int .u64 a0_1, .int .u32 a0_2, .int .u32 0, .int .u32 0, .int .u32 0, .int .u32 0, .slice none 0 0]) ?_ 3 _ rfl; (with_reducible repeat (first | refine zAF ?_ _ | refine zAG ?_ | refine zAE ?_ _)); refine zA0 (cs := #[.int .u32 a0_0, .int .u64 a0_1, .int .u32 0, .int .u32 0, .int .u32 0, .int .u32 0, .int .u32 0, .slice none 0 0]) ?_ 2 _ rfl; (with_reducible repeat (first | refine zAF ?_ _ | refine zAG ?_ | refine zAE ?_ _)); refine zA0 (cs := #[.int .u32 a0_0, .int .u64 0, .int .u32 0, .int .u32 0, .int .u32 0, .int .u32 0, .int .u32 0, .slice none 0 0]) ?_ 1 _ rfl; (with_reducible repeat (first | refine zAF ?_ _ | refine zAG ?_ | refine zAE ?_ _)); refine zA0 (cs := #[.int .u32 0, .int .u64 0, .int .u32 0, .int .u32 0, .int .u32 0, .int .u32 0, .int .u32 0, .slice none 0 0]) ?_ 0 _ rfl; (with_reducible repeat (first | refine zAF ?_ _ | refine zAG ?_ | refine zAE ?_ _)); exact BK102.out) Tryz.underlying116 rfl (by kernel_rfl)) rfl ?_
    exact ⟨_, by first | rfl | (simp [errW_none, errW_some] <;> rfl) | (simp [*, errW_none, errW_some] <;> rfl), by (with_reducible repeat (first | apply Kd.R_alloc | apply Kd.R_drewN | apply Kd.R_drew)); exact Kd.R_mono (Kd.R_far (p := ⟨gb102, 7, none⟩) (Kd.R_far (p := ⟨gb102, 6, none⟩) (Kd.R_far (p := ⟨gb102, 5, none⟩) (Kd.R_far (p := ⟨gb102, 4, none⟩) (Kd.R_far (p := ⟨gb102, 3, none⟩) (Kd.R_far (p := ⟨gb102, 2, none⟩) (Kd.R_far (p := ⟨gb102, 1, none⟩) (Kd.R_far (p := ⟨gb102, 0, none⟩) (Kd.R_types HO_104007.out BK102.out (by decide)) (fun _ hk => hk.2) (.int .u32 a0_0)) (fun _ hk => hk.2) (.int .u64 a0_1)) (fun _ hk => hk.2) (.int .u32 a0_2)) (fun _ hk => hk.2) (.int .u32 a0_3)) (fun _ hk => hk.2) (.int .u32 a0_4)) (fun _ hk => hk.2) (.int .u32 a0_5)) (fun _ hk => hk.2) (.int .u32 a0_6)) (fun _ hk => hk.2) (.slice Ao31 x104007_1.length co31)) (fun _ hk => trivial), by repeat (first | (with_reducible first | exact HB.out | apply below_alloc | apply zAC | apply zAD | refine zAI ?_ GE101.out | refine zAI ?_ GE102.out | refine zAI ?_ GE103.out) | exact HB.out)⟩
def impl_told.l0 : Nat → List (zAu) → Int → Int → Int → Int → Int → Int → Int → Int → Int → List (S52) → Option (Int × Int × Int × Int × Int × Int × Int × (List (S52)))
 | 0, _, _, _, _, _, _, _, _, _, _, _ => none
 | k + 1, x22, x23, x24, x112000, x112001, x112002, x112003, x112004, x112005, x112006, x112007 => if x24 < x23 then (if 0 ≤ x24 then (if x24 < (x22.length : Int) then (if x112007.length < 4398046511104 then (impl_told.l0 k x22 x23 (wrap64 (x24 + 1)) x112000 x112001 x112002 x112003 x112004 x112005 x112006 (x112007 ++ [(⟨(zBG x22 x24).f0, (zBG x22 x24).f1⟩ : S52)])) else (none)) else (none)) else (none)) else (some (x112000, x112001, x112002, x112003, x112004, x112005, x112006, x112007))
def impl_told.f (k : Nat) (a0_0 : Int) (a0_1 : Int) (a0_2 : Int) (a0_3 : Int) (a0_4 : Int) (a0_5 : Int) (a0_6 : Int) (l0_7 : List (zAu)) : Option (Int × Int × Int × Int × Int × Int × Int × (List (S52))) := impl_told.l0 k l0_7 (l0_7.length : Int) 0 a0_0 a0_1 a0_2 a0_3 a0_4 a0_5 a0_6 ([] : List (S52))
set_option maxRecDepth 100000 in
theorem impl_told.calls (k : Nat) (a0_0 : Int) (a0_1 : Int) (a0_2 : Int) (a0_3 : Int) (a0_4 : Int) (a0_5 : Int) (a0_6 : Int) (A0_7 : Option Addr) (c0_7 : Nat) (l0_7 : List (zAu)) (r1 : Int) (r2 : Int) (r3 : Int) (r4 : Int) (r5 : Int) (r6 : Int) (r7 : Int) (r8 : List (S52)) (w : World) (hr0_7 : Kd.C k206 w A0_7 l0_7.length l0_7) (hc0_7 : l0_7.length ≤ c0_7) (h : impl_told.f k a0_0 a0_1 a0_2 a0_3 a0_4 a0_5 a0_6 l0_7 = some (r1, r2, r3, r4, r5, r6, r7, r8)) :
  Calls Tryz.prog 61 #[.agg #[.int .u32 a0_0, .int .u64 a0_1, .int .u32 a0_2, .int .u32 a0_3, .int .u32 a0_4, .int .u32 a0_5, .int .u32 a0_6, .slice A0_7 l0_7.length c0_7]] w fun e w' => ∃ v7_ : Value, e = .returned (.agg #[.int .u32 r1, .int .u64 r2, .int .u32 r3, .int .u32 r4, .int .u32 r5, .int .u32 r6, .int .u32 r7, v7_]) ∧ Kd.R k52 52 w' w.heap.size (fun _ => True) v7_ r8 ∧ Below w.heap.size w w' := by
 have hu116 := Tryz.underlying116
 have hu26 := Tryz.underlying26
 have hu206 := Tryz.underlying206
 have hu52 := Tryz.underlying52
 have HR0_7 := Aside0.mk hr0_7
 have HC0_7 := Aside0.mk hc0_7
 clear hr0_7 hc0_7
 have HB := Aside0.mk (Below.refl w.heap.size w)
 have H : (impl_told.l0 k l0_7 (l0_7.length : Int) 0 a0_0 a0_1 a0_2 a0_3 a0_4 a0_5 a0_6 ([] : List (S52))) = some (r1, r2, r3, r4, r5, r6, r7, r8) := h
 clear h
 have H' := Aside0.mk H
 clear H
 go_enter Tryz.func61, Tryz.ntmps61
 go_wp2_with (first | ((with_reducible refine zAb (N := 1) rfl ?_); refine zA6 ?hg (N := 1) ?hd (cs := #[.int .u32 a0_0, .int .u64 a0_1, .int .u32 a0_2, .int .u32 a0_3, .int .u32 a0_4, .int .u32 a0_5, .int .u32 a0_6, .slice A0_7 l0_7.length c0_7]) (t := 116) ?hr ?_; (case hd => rfl); (case hg => rfl); (case hr => first | (go_simp; done) | (go_simp; rfl)); intro gb109 hg w2 hbox hb; have n0_ := Aside0.mk (zAX (by repeat (first | (with_reducible first | exact HB.out | apply below_alloc | apply zAC | apply zAD) | exact HB.out)) hb); have n1_ := Aside0.mk (hbox); have n2_ := Aside0.mk ((by rw [hg]; exact (zAO (by repeat (first | (with_reducible first | exact HB.out | apply below_alloc | apply zAC | apply zAD) | exact HB.out))) : w.heap.size ≤ gb109)); have n3_ := Aside0.mk ((by rw [hg]; exact (zAO (by repeat (first | (with_reducible first | exact HB.out | apply below_alloc | apply zAC | apply zAD) | exact HB.out))) : w.heap.size ≤ gb109)); clear HB; have HB := n0_; have BK109 := n1_; have GW109 := n2_; have GE109 := n3_; clear n0_ n1_ n2_ n3_; clear hb hbox hg) | ((with_reducible refine zAb (N := 2) rfl ?_); refine zA6 ?hg (N := 2) ?hd (cs := #[.int .u32 0, .int .u64 0, .int .u32 0, .int .u32 0, .int .u32 0, .int .u32 0, .int .u32 0, .slice none 0 0]) (t := 26) ?hr ?_; (case hd => rfl); (case hg => rfl); (case hr => first | (go_simp; done) | (go_simp; rfl)); intro gb110 hg w3 hbox hb; have n0_ := Aside0.mk (blk_below (g := gb109) (o := .cells #[.int .u32 a0_0, .int .u64 a0_1, .int .u32 a0_2, .int .u32 a0_3, .int .u32 a0_4, .int .u32 a0_5, .int .u32 a0_6, .slice A0_7 l0_7.length c0_7] 116 (0, 0)) (by (with_reducible repeat (first | refine zAF ?_ _ | refine zAG ?_ | refine zAE ?_ _)); exact BK109.out) hb); have n1_ := Aside0.mk (zAX (by repeat (first | (with_reducible first | exact HB.out | apply below_alloc | apply zAC | apply zAD | refine zAI ?_ GE109.out) | exact HB.out)) hb); have n2_ := Aside0.mk (hbox); have n3_ := Aside0.mk ((by rw [hg]; exact (zAO (by repeat (first | (with_reducible first | exact HB.out | apply below_alloc | apply zAC | apply zAD | refine zAI ?_ GE109.out) | exact HB.out))) : w.heap.size ≤ gb110)); have n4_ := Aside0.mk ((by rw [hg]; exact (zAO (by repeat (first | (with_reducible first | exact HB.out | apply below_alloc | apply zAC | apply zAD | refine zAI ?_ GE109.out) | exact HB.out))) : w.heap.size ≤ gb110)); have n5_ := Aside0.mk ((by rw [hg]; exact Nat.ne_of_lt (zAp (g := gb109) (o := .cells #[.int .u32 a0_0, .int .u64 a0_1, .int .u32 a0_2, .int .u32 a0_3, .int .u32 a0_4, .int .u32 a0_5, .int .u32 a0_6, .slice A0_7 l0_7.length c0_7] 116 (0, 0)) (by (with_reducible repeat (first | refine zAF ?_ _ | refine zAG ?_ | refine zAE ?_ _)); exact BK109.out)) : gb109 ≠ gb110)); have n6_ := Aside0.mk ((by rw [hg]; exact Nat.ne_of_gt (zAp (g := gb109) (o := .cells #[.int .u32 a0_0, .int .u64 a0_1, .int .u32 a0_2, .int .u32 a0_3, .int .u32 a0_4, .int .u32 a0_5, .int .u32 a0_6, .slice A0_7 l0_7.length c0_7] 116 (0, 0)) (by (with_reducible repeat (first | refine zAF ?_ _ | refine zAG ?_ | refine zAE ?_ _)); exact BK109.out)) : gb110 ≠ gb109)); clear BK109; clear HB; have BK109 := n0_; have HB := n1_; have BK110 := n2_; have GW110 := n3_; have GE110 := n4_; have NB109_110 := n5_; have NB110_109 := n6_; clear n0_ n1_ n2_ n3_ n4_ n5_ n6_; clear hb hbox hg; have hnb4 := NB109_110.out; have hnc4 := NB110_109.out; obtain ⟨hcz5_0, hcz5_1, hcz5_2, hcz5_3, hcz5_4, hcz5_5, hcz5_6, hcz5_7, hfz5_0, hfz5_1, hfz5_2, hfz5_3, hfz5_4, hfz5_5, hfz5_6, hfz5_7⟩ := zDV BK109.out) | ((with_reducible refine zAb (N := 3) rfl ?_); refine zA6 ?hg (N := 3) ?hd (cs := #[.int .u32 0, .int .u64 0, .int .u32 0, .int .u32 0, .int .u32 0, .int .u32 0, .int .u32 0, .slice none 0 0]) (t := 26) ?hr ?_; (case hd => rfl); (case hg => rfl); (case hr => first | (go_simp; done) | (go_simp; rfl)); intro gb111 hg w6 hbox hb; have n0_ := Aside0.mk (blk_below (g := gb109) (o := .cells #[.int .u32 a0_0, .int .u64 a0_1, .int .u32 a0_2, .int .u32 a0_3, .int .u32 a0_4, .int .u32 a0_5, .int .u32 a0_6, .slice A0_7 l0_7.length c0_7] 116 (0, 0)) (by (with_reducible repeat (first | refine zAF ?_ _ | refine zAG ?_ | refine zAE ?_ _)); exact BK109.out) hb); have n1_ := Aside0.mk (blk_below (g := gb110) (o := .cells #[.int .u32 0, .int .u64 0, .int .u32 0, .int .u32 0, .int .u32 0, .int .u32 0, .int .u32 0, .slice none 0 0] 26 (0, 0)) (by (with_reducible repeat (first | refine zAF ?_ _ | refine zAG ?_ | refine zAE ?_ _)); exact BK110.out) hb); have n2_ := Aside0.mk (zAX (by repeat (first | (with_reducible first | exact HB.out | apply below_alloc | apply zAC | apply zAD | refine zAI ?_ GE109.out | refine zAI ?_ GE110.out) | exact HB.out)) hb); have n3_ := Aside0.mk (hbox); have n4_ := Aside0.mk ((by rw [hg]; exact (zAO (by repeat (first | (with_reducible first | exact HB.out | apply below_alloc | apply zAC | apply zAD | refine zAI ?_ GE109.out | refine zAI ?_ GE110.out) | exact HB.out))) : w.heap.size ≤ gb111)); have n5_ := Aside0.mk ((by rw [hg]; exact (zAO (by repeat (first | (with_reducible first | exact HB.out | apply below_alloc | apply zAC | apply zAD | refine zAI ?_ GE109.out | refine zAI ?_ GE110.out) | exact HB.out))) : w.heap.size ≤ gb111)); have n6_ := Aside0.mk ((by rw [hg]; exact Nat.ne_of_lt (zAp (g := gb109) (o := .cells #[.int .u32 a0_0, .int .u64 a0_1, .int .u32 a0_2, .int .u32 a0_3, .int .u32 a0_4, .int .u32 a0_5, .int .u32 a0_6, .slice A0_7 l0_7.length c0_7] 116 (0, 0)) (by (with_reducible repeat (first | refine zAF ?_ _ | refine zAG ?_ | refine zAE ?_ _)); exact BK109.out)) : gb109 ≠ gb111)); have n7_ := Aside0.mk ((by rw [hg]; exact Nat.ne_of_gt (zAp (g := gb109) (o := .cells #[.int .u32 a0_0, .int .u64 a0_1, .int .u32 a0_2, .int .u32 a0_3, .int .u32 a0_4, .int .u32 a0_5, .int .u32 a0_6, .slice A0_7 l0_7.length c0_7] 116 (0, 0)) (by (with_reducible repeat (first | refine zAF ?_ _ | refine zAG ?_ | refine zAE ?_ _)); exact BK109.out)) : gb111 ≠ gb109)); have n8_ := Aside0.mk ((by rw [hg]; exact Nat.ne_of_lt (zAp (g := gb110) (o := .cells #[.int .u32 0, .int .u64 0, .int .u32 0, .int .u32 0, .int .u32 0, .int .u32 0, .int .u32 0, .slice none 0 0] 26 (0, 0)) (by (with_reducible repeat (first | refine zAF ?_ _ | refine zAG ?_ | refine zAE ?_ _)); exact BK110.out)) : gb110 ≠ gb111)); have n9_ := Aside0.mk ((by rw [hg]; exact Nat.ne_of_gt (zAp (g := gb110) (o := .cells #[.int .u32 0, .int .u64 0, .int .u32 0, .int .u32 0, .int .u32 0, .int .u32 0, .int .u32 0, .slice none 0 0] 26 (0, 0)) (by (with_reducible repeat (first | refine zAF ?_ _ | refine zAG ?_ | refine zAE ?_ _)); exact BK110.out)) : gb111 ≠ gb110)); clear BK109; clear BK110; clear HB; have BK109 := n0_; have BK110 := n1_; have HB := n2_; have BK111 := n3_; have GW111 := n4_; have GE111 := n5_; have NB109_111 := n6_; have NB111_109 := n7_; have NB110_111 := n8_; have NB111_110 := n9_; clear n0_ n1_ n2_ n3_ n4_ n5_ n6_ n7_ n8_ n9_; clear hb hbox hg; have hnb7 := NB111_109.out; have hnc7 := NB109_111.out; have hnb8 := NB111_110.out; have hnc8 := NB110_111.out; obtain ⟨hcz9_0, hcz9_1, hcz9_2, hcz9_3, hcz9_4, hcz9_5, hcz9_6, hcz9_7, hfz9_0, hfz9_1, hfz9_2, hfz9_3, hfz9_4, hfz9_5, hfz9_6, hfz9_7⟩ := zDV BK111.out; obtain ⟨hcz10_0, hcz10_1, hcz10_2, hcz10_3, hcz10_4, hcz10_5, hcz10_6, hcz10_7, hfz10_0, hfz10_1, hfz10_2, hfz10_3, hfz10_4, hfz10_5, hfz10_6, hfz10_7⟩ := zDV BK109.out))
 go_loopg [24] k (fun kq v24 w' => ∃ (x24_1 : Int) (x112007_1 : List (S52)) (u112007 : Value), v24 = .int .i64 x24_1 ∧ Aside0 (impl_told.l0 kq l0_7 (l0_7.length : Int) x24_1 a0_0 a0_1 a0_2 a0_3 a0_4 a0_5 a0_6 x112007_1 = some (r1, r2, r3, r4, r5, r6, r7, r8)) ∧ Aside0 (kq ≤ k) ∧ Aside0 (Kd.R k52 52 w' w.heap.size (fun _ => True) u112007 x112007_1) ∧ Aside0 (w'.heap[gb109]? = some (.cells #[.int .u32 a0_0, .int .u64 a0_1, .int .u32 a0_2, .int .u32 a0_3, .int .u32 a0_4, .int .u32 a0_5, .int .u32 a0_6, (.slice A0_7 l0_7.length c0_7)] 116 (0, 0))) ∧ Aside0 (w'.heap[gb110]? = some (.cells #[.int .u32 0, .int .u64 0, .int .u32 0, .int .u32 0, .int .u32 0, .int .u32 0, .int .u32 0, (.slice none 0 0)] 26 (0, 0))) ∧ Aside0 (w'.heap[gb111]? = some (.cells #[.int .u32 a0_0, .int .u64 a0_1, .int .u32 a0_2, .int .u32 a0_3, .int .u32 a0_4, .int .u32 a0_5, .int .u32 a0_6, u112007] 26 (0, 0))) ∧ Aside0 (Below w.heap.size w w'))
 case atStart => exact ⟨(0), (([] : List (S52))), (.slice none 0 0), (by first | rfl | (simp; done) | (simp [*]; done)), H', ⟨Nat.le_refl _⟩, ⟨by first | exact Kd.R_nil _ _ _ _ _ | exact Kd.N_nil _ _ _ _ _ | exact Kd.V_nil _ _ _ _ _ | exact Kd.Q_nil _ _ _ _ _ | exact Kd.S_nil _ _ _ _ _⟩, ⟨by (with_reducible repeat (first | refine zAF ?_ _ | refine zAG ?_ | refine zAE ?_ _)); refine zA9 ?_ NB109_111.out _; (with_reducible repeat (first | refine zAF ?_ _ | refine zAG ?_ | refine zAE ?_ _)); refine zA9 ?_ NB109_111.out _; (with_reducible repeat (first | refine zAF ?_ _ | refine zAG ?_ | refine zAE ?_ _)); refine zA9 ?_ NB109_111.out _; (with_reducible repeat (first | refine zAF ?_ _ | refine zAG ?_ | refine zAE ?_ _)); refine zA9 ?_ NB109_111.out _; (with_reducible repeat (first | refine zAF ?_ _ | refine zAG ?_ | refine zAE ?_ _)); refine zA9 ?_ NB109_111.out _; (with_reducible repeat (first | refine zAF ?_ _ | refine zAG ?_ | refine zAE ?_ _)); refine zA9 ?_ NB109_111.out _; (with_reducible repeat (first | refine zAF ?_ _ | refine zAG ?_ | refine zAE ?_ _)); refine zA9 ?_ NB109_111.out _; (with_reducible repeat (first | refine zAF ?_ _ | refine zAG ?_ | refine zAE ?_ _)); refine zA9 ?_ NB109_111.out _; (with_reducible repeat (first | refine zAF ?_ _ | refine zAG ?_ | refine zAE ?_ _)); exact BK109.out⟩, ⟨by (with_reducible repeat (first | refine zAF ?_ _ | refine zAG ?_ | refine zAE ?_ _)); refine zA9 ?_ NB110_111.out _; (with_reducible repeat (first | refine zAF ?_ _ | refine zAG ?_ | refine zAE ?_ _)); refine zA9 ?_ NB110_111.out _; (with_reducible repeat (first | refine zAF ?_ _ | refine zAG ?_ | refine zAE ?_ _)); refine zA9 ?_ NB110_111.out _; (with_reducible repeat (first | refine zAF ?_ _ | refine zAG ?_ | refine zAE ?_ _)); refine zA9 ?_ NB110_111.out _; (with_reducible repeat (first | refine zAF ?_ _ | refine zAG ?_ | refine zAE ?_ _)); refine zA9 ?_ NB110_111.out _; (with_reducible repeat (first | refine zAF ?_ _ | refine zAG ?_ | refine zAE ?_ _)); refine zA9 ?_ NB110_111.out _; (with_reducible repeat (first | refine zAF ?_ _ | refine zAG ?_ | refine zAE ?_ _)); refine zA9 ?_ NB110_111.out _; (with_reducible repeat (first | refine zAF ?_ _ | refine zAG ?_ | refine zAE ?_ _)); refine zA9 ?_ NB110_111.out _; (with_reducible repeat (first | refine zAF ?_ _ | refine zAG ?_ | refine zAE ?_ _)); exact BK110.out⟩, ⟨by (with_reducible repeat (first | refine zAF ?_ _ | refine zAG ?_ | refine zAE ?_ _)); refine zA0 (cs := #[.int .u32 a0_0, .int .u64 a0_1, .int .u32 a0_2, .int .u32 a0_3, .int .u32 a0_4, .int .u32 a0_5, .int .u32 a0_6, .slice none 0 0]) ?_ 7 _ rfl; (with_reducible repeat (first | refine zAF ?_ _ | refine zAG ?_ | refine zAE ?_ _)); refine zA0 (cs := #[.int .u32 a0_0, .int .u64 a0_1, .int .u32 a0_2, .int .u32 a0_3, .int .u32 a0_4, .int .u32 a0_5, .int .u32 0, .slice none 0 0]) ?_ 6 _ rfl; (with_reducible repeat (first | refine zAF ?_ _ | refine zAG ?_ | refine zAE ?_ _)); refine zA0 (cs := #[.int .u32 a0_0, .int .u64 a0_1, .int .u32 a0_2, .int .u32 a0_3, .int .u32 a0_4, .int .u32 0, .int .u32 0, .slice none 0 0]) ?_ 5 _ rfl; (with_reducible repeat (first | refine zAF ?_ _ | refine zAG ?_ | refine zAE ?_ _)); refine zA0 (cs := #[.int .u32 a0_0, .int .u64 a0_1, .int .u32 a0_2, .int .u32 a0_3, .int .u32 0, .int .u32 0, .int .u32 0, .slice none 0 0]) ?_ 4 _ rfl; (with_reducible repeat (first | refine zAF ?_ _ | refine zAG ?_ | refine zAE ?_ _)); refine zA0 (cs := #[.int .u32 a0_0, .int .u64 a0_1, .int .u32 a0_2, .int .u32 0, .int .u32 0, .int .u32 0, .int .u32 0, .slice none 0 0]) ?_ 3 _ rfl; (with_reducible repeat (first | refine zAF ?_ _ | refine zAG ?_ | refine zAE ?_ _)); refine zA0 (cs := #[.int .u32 a0_0, .int .u64 a0_1, .int .u32 0, .int .u32 0, .int .u32 0, .int .u32 0, .int .u32 0, .slice none 0 0]) ?_ 2 _ rfl; (with_reducible repeat (first | refine zAF ?_ _ | refine zAG ?_ | refine zAE ?_ _)); refine zA0 (cs := #[.int .u32 a0_0, .int .u64 0, .int .u32 0, .int .u32 0, .int .u32 0, .int .u32 0, .int .u32 0, .slice none 0 0]) ?_ 1 _ rfl; (with_reducible repeat (first | refine zAF ?_ _ | refine zAG ?_ | refine zAE ?_ _)); refine zA0 (cs := #[.int .u32 0, .int .u64 0, .int .u32 0, .int .u32 0, .int .u32 0, .int .u32 0, .int .u32 0, .slice none 0 0]) ?_ 0 _ rfl; (with_reducible repeat (first | refine zAF ?_ _ | refine zAG ?_ | refine zAE ?_ _)); exact BK111.out⟩, ⟨by repeat (first | (with_reducible first | exact HB.out | apply below_alloc | apply zAC | apply zAD | refine zAI ?_ GE109.out | refine zAI ?_ GE110.out | refine zAI ?_ GE111.out) | exact HB.out)⟩⟩
 case round =>
  clear H'
  try clear p2
  try clear c4
  try clear c6
  try clear c7
  try clear c8
  try clear hcz10_0
  try clear hcz10_1
  try clear hcz10_2
  try clear hcz10_3
  try clear hcz10_4
  try clear hcz10_5
  try clear hcz10_6
  try clear hcz10_7
  try clear hcz5_0
  try clear hcz5_1
  try clear hcz5_2
  try clear hcz5_3
  try clear hcz5_4
  try clear hcz5_5
  try clear hcz5_6
  try clear hcz5_7
  try clear hcz9_0
  try clear hcz9_1
  try clear hcz9_2
  try clear hcz9_3
  try clear hcz9_4
  try clear hcz9_5
  try clear hcz9_6
  try clear hcz9_7
  try clear hfz10_0
  try clear hfz10_1
  try clear hfz10_2
  try clear hfz10_3
  try clear hfz10_4
  try clear hfz10_5
  try clear hfz10_6
  try clear hfz10_7
  try clear hfz5_0
  try clear hfz5_1
  try clear hfz5_2
  try clear hfz5_3
  try clear hfz5_4
  try clear hfz5_5
  try clear hfz5_6
  try clear hfz5_7
  try clear hfz9_0
  try clear hfz9_1
  try clear hfz9_2
  try clear hfz9_3
  try clear hfz9_4
  try clear hfz9_5
  try clear hfz9_6
  try clear hfz9_7
  obtain ⟨x24_1, x112007_1, u112007, rfl, HA, HK1, HO_112007, BK109, BK110, BK111, HB⟩ := hrel
  cases gk with
  | zero => exact absurd HA.out (by simp [impl_told.l0])
  | succ k1 =>
   have H := HA.out
   clear HA
   simp only [impl_told.l0] at H
   by_cases c11 : x24_1 < (l0_7.length : Int)
   ·rw [if_pos c11] at H
    have c11b0 : decide (x24_1 < (l0_7.length : Int)) = true := decide_eq_true c11
    clear c11
    by_cases c12 : 0 ≤ x24_1
    ·rw [if_pos c12] at H
     have c12b0 : decide (0 ≤ x24_1) = true := decide_eq_true c12
     clear c12
     by_cases c13 : x24_1 < (l0_7.length : Int)
     ·rw [if_pos c13] at H
      have c13b0 : decide (x24_1 < (l0_7.length : Int)) = true := decide_eq_true c13
      clear c13
      by_cases c14 : x112007_1.length < 4398046511104
      ·rw [if_pos c14] at H
       have LMc14 := Aside0.mk c14
       clear c14
       obtain ⟨y114, hy114⟩ : ∃ y_ : List (S52), y_ = (x112007_1 ++ [(⟨(zBG l0_7 x24_1).f0, (zBG l0_7 x24_1).f1⟩ : S52)]) := ⟨_, rfl⟩
       replace H : (impl_told.l0 k1 l0_7 (l0_7.length : Int) (wrap64 (x24_1 + 1)) a0_0 a0_1 a0_2 a0_3 a0_4 a0_5 a0_6 y114) = some (r1, r2, r3, r4, r5, r6, r7, r8) := by first | (rw [hy114]; with_reducible exact H) | (have H2_ := (Option.bind_some _ _).symm.trans H; rw [hy114]; with_reducible exact H2_) | (have H2_ := (Option.bind_some _ _).symm.trans H; with_reducible exact H2_) | with_reducible exact H | (rw [hy114]; exact H) | exact H
       have Ny114 := Aside0.mk hy114
       clear hy114
       have H' := Aside0.mk H
       clear H
       have p112 : 0 ≤ (x24_1 : Int) := of_decide_eq_true (by first | (with_reducible assumption) | assumption)
       have q112 : x24_1 < (l0_7.length : Int) := of_decide_eq_true (by first | (with_reducible assumption) | assumption)
       obtain ⟨ad112, e112, hx112_0, hx112_1⟩ := zFz HR0_7.out x24_1 p112 q112
       cases e112
       replace hx112_0 := (HB.out.cell (World.block_lt_of_cell? w _ hx112_0)).trans hx112_0
       replace hx112_1 := (HB.out.cell (World.block_lt_of_cell? w _ hx112_1)).trans hx112_1
       replace p112 := eq_true p112
       replace q112 := eq_true q112
       go_wp2_with (first | ((with_reducible refine zAb (N := 5) rfl ?_); refine zA6 ?hg (N := 5) ?hd (cs := #[.string (⟨#[]⟩ : ByteArray), .string (⟨#[]⟩ : ByteArray)]) (t := 206) ?hr ?_; (case hd => rfl); (case hg => rfl); (case hr => first | (go_simp; done) | (go_simp; rfl)); intro gb113 hg w15 hbox hb; have n0_ := Aside0.mk (Kd.R_below (by (with_reducible repeat (first | apply Kd.R_alloc | apply Kd.R_drewN | apply Kd.R_drew)); exact HO_112007.out) hb); have n1_ := Aside0.mk (blk_below (g := gb109) (o := .cells #[.int .u32 a0_0, .int .u64 a0_1, .int .u32 a0_2, .int .u32 a0_3, .int .u32 a0_4, .int .u32 a0_5, .int .u32 a0_6, .slice (some ad112) l0_7.length c0_7] 116 (0, 0)) (by (with_reducible repeat (first | refine zAF ?_ _ | refine zAG ?_ | refine zAE ?_ _)); exact BK109.out) hb); have n2_ := Aside0.mk (blk_below (g := gb110) (o := .cells #[.int .u32 0, .int .u64 0, .int .u32 0, .int .u32 0, .int .u32 0, .int .u32 0, .int .u32 0, .slice none 0 0] 26 (0, 0)) (by (with_reducible repeat (first | refine zAF ?_ _ | refine zAG ?_ | refine zAE ?_ _)); exact BK110.out) hb); have n3_ := Aside0.mk (blk_below (g := gb111) (o := .cells #[.int .u32 a0_0, .int .u64 a0_1, .int .u32 a0_2, .int .u32 a0_3, .int .u32 a0_4, .int .u32 a0_5, .int .u32 a0_6, u112007] 26 (0, 0)) (by (with_reducible repeat (first | refine zAF ?_ _ | refine zAG ?_ | refine zAE ?_ _)); exact BK111.out) hb); have n4_ := Aside0.mk (zAX (by repeat (first | (with_reducible first | exact HB.out | apply below_alloc | apply zAC | apply zAD | refine zAI ?_ GE109.out | refine zAI ?_ GE110.out | refine zAI ?_ GE111.out) | exact HB.out)) hb); have n5_ := Aside0.mk (hbox); have n6_ := Aside0.mk ((by rw [hg]; exact (zAO (by repeat (first | (with_reducible first | exact HB.out | apply below_alloc | apply zAC | apply zAD | refine zAI ?_ GE109.out | refine zAI ?_ GE110.out | refine zAI ?_ GE111.out) | exact HB.out))) : w.heap.size ≤ gb113)); have n7_ := Aside0.mk ((by rw [hg]; exact (zAO (by repeat (first | (with_reducible first | exact HB.out | apply below_alloc | apply zAC | apply zAD | refine zAI ?_ GE109.out | refine zAI ?_ GE110.out | refine zAI ?_ GE111.out) | exact HB.out))) : w.heap.size ≤ gb113)); have n8_ := Aside0.mk ((by rw [hg]; exact Nat.ne_of_lt (zAp (g := gb109) (o := .cells #[.int .u32 a0_0, .int .u64 a0_1, .int .u32 a0_2, .int .u32 a0_3, .int .u32 a0_4, .int .u32 a0_5, .int .u32 a0_6, .slice (some ad112) l0_7.length c0_7] 116 (0, 0)) (by (with_reducible repeat (first | refine zAF ?_ _ | refine zAG ?_ | refine zAE ?_ _)); exact BK109.out)) : gb109 ≠ gb113)); have n9_ := Aside0.mk ((by rw [hg]; exact Nat.ne_of_gt (zAp (g := gb109) (o := .cells #[.int .u32 a0_0, .int .u64 a0_1, .int .u32 a0_2, .int .u32 a0_3, .int .u32 a0_4, .int .u32 a0_5, .int .u32 a0_6, .slice (some ad112) l0_7.length c0_7] 116 (0, 0)) (by (with_reducible repeat (first | refine zAF ?_ _ | refine zAG ?_ | refine zAE ?_ _)); exact BK109.out)) : gb113 ≠ gb109)); have n10_ := Aside0.mk ((by rw [hg]; exact Nat.ne_of_lt (zAp (g := gb110) (o := .cells #[.int .u32 0, .int .u64 0, .int .u32 0, .int .u32 0, .int .u32 0, .int .u32 0, .int .u32 0, .slice none 0 0] 26 (0, 0)) (by (with_reducible repeat (first | refine zAF ?_ _ | refine zAG ?_ | refine zAE ?_ _)); exact BK110.out)) : gb110 ≠ gb113)); have n11_ := Aside0.mk ((by rw [hg]; exact Nat.ne_of_gt (zAp (g := gb110) (o := .cells #[.int .u32 0, .int .u64 0, .int .u32 0, .int .u32 0, .int .u32 0, .int .u32 0, .int .u32 0, .slice none 0 0] 26 (0, 0)) (by (with_reducible repeat (first | refine zAF ?_ _ | refine zAG ?_ | refine zAE ?_ _)); exact BK110.out)) : gb113 ≠ gb110)); have n12_ := Aside0.mk ((by rw [hg]; exact Nat.ne_of_lt (zAp (g := gb111) (o := .cells #[.int .u32 a0_0, .int .u64 a0_1, .int .u32 a0_2, .int .u32 a0_3, .int .u32 a0_4, .int .u32 a0_5, .int .u32 a0_6, u112007] 26 (0, 0)) (by (with_reducible repeat (first | refine zAF ?_ _ | refine zAG ?_ | refine zAE ?_ _)); exact BK111.out)) : gb111 ≠ gb113)); have n13_ := Aside0.mk ((by rw [hg]; exact Nat.ne_of_gt (zAp (g := gb111) (o := .cells #[.int .u32 a0_0, .int .u64 a0_1, .int .u32 a0_2, .int .u32 a0_3, .int .u32 a0_4, .int .u32 a0_5, .int .u32 a0_6, u112007] 26 (0, 0)) (by (with_reducible repeat (first | refine zAF ?_ _ | refine zAG ?_ | refine zAE ?_ _)); exact BK111.out)) : gb113 ≠ gb111)); clear HO_112007; clear BK109; clear BK110; clear BK111; clear HB; have HO_112007 := n0_; have BK109 := n1_; have BK110 := n2_; have BK111 := n3_; have HB := n4_; have BK113 := n5_; have GW113 := n6_; have GE113 := n7_; have NB109_113 := n8_; have NB113_109 := n9_; have NB110_113 := n10_; have NB113_110 := n11_; have NB111_113 := n12_; have NB113_111 := n13_; clear n0_ n1_ n2_ n3_ n4_ n5_ n6_ n7_ n8_ n9_ n10_ n11_ n12_ n13_; clear hb hbox hg; have hnb16 := NB113_109.out; have hnc16 := NB109_113.out; have hnb17 := NB113_110.out; have hnc17 := NB110_113.out; have hnb18 := NB113_111.out; have hnc18 := NB111_113.out; have hcz19_0 : w15.cell? ⟨gb113, 0, none⟩ = some (.string (⟨#[]⟩ : ByteArray)) := (zAR BK113.out 0).trans rfl; have hcz19_1 : w15.cell? ⟨gb113, 1, none⟩ = some (.string (⟨#[]⟩ : ByteArray)) := (zAR BK113.out 1).trans rfl; have hfz19_0 := zAN BK113.out 0; have hfz19_1 := zAN BK113.out 1; have hnb20 := NB111_109.out; have hnc20 := NB109_111.out; have hnb21 := NB111_110.out; have hnc21 := NB110_111.out; obtain ⟨hcz22_0, hcz22_1, hcz22_2, hcz22_3, hcz22_4, hcz22_5, hcz22_6, hcz22_7, hfz22_0, hfz22_1, hfz22_2, hfz22_3, hfz22_4, hfz22_5, hfz22_6, hfz22_7⟩ := zDV BK111.out) | ((with_reducible refine zDa (b := .append) (xs := #[.tmp 29, .tmp 35]) rfl ?_); at_builtin; refine Kd.R_append k52 (w0 := w) w.heap.size rfl (.tmp 29) (.tmp 35) 24 52 (.agg #[(.string ⟨#[]⟩), (.string ⟨#[]⟩)]) 32 rfl Tryz.underlying24 zNJ rfl (by decide) (by omega) u112007 x112007_1 (⟨(zBG l0_7 x24_1).f0, (zBG l0_7 x24_1).f1⟩ : S52) [.string ((zBG l0_7 x24_1).f0), .string ((zBG l0_7 x24_1).f1)] (fun _ => True) (fun _ => False) rfl (by first | (go_simp; done) | (go_simp; rfl)) ?aP (fun _ hk => hk.elim) ?aF ?aO ?aB ?aS ?aL ?_; (case aP => exact zJM _ _ _ (⟨(zBG l0_7 x24_1).f0, (zBG l0_7 x24_1).f1⟩ : S52)); (case aB => exact (by repeat (first | (with_reducible first | exact HB.out | apply below_alloc | apply zAC | apply zAD | refine zAI ?_ GE109.out | refine zAI ?_ GE110.out | refine zAI ?_ GE111.out | refine zAI ?_ GE113.out) | exact HB.out))); (case aF => exact (fun _ _ => trivial)); (case aO => exact (by (with_reducible repeat (first | apply Kd.R_alloc | apply Kd.R_drewN | apply Kd.R_drew)); exact Kd.R_mono (Kd.R_far (p := ⟨gb113, 1, none⟩) (Kd.R_far (p := ⟨gb113, 0, none⟩) (Kd.R_types HO_112007.out BK113.out (by decide)) (fun _ hk => hk.2) (.string ((zBG l0_7 x24_1).f0))) (fun _ hk => hk.2) (.string ((zBG l0_7 x24_1).f1))) (fun _ hk => trivial))); (case aS => exact (zAO (by repeat (first | (with_reducible first | exact HB.out | apply below_alloc | apply zAC | apply zAD | refine zAI ?_ GE109.out | refine zAI ?_ GE110.out | refine zAI ?_ GE111.out | refine zAI ?_ GE113.out) | exact HB.out)))); (case aL => have := LMc14.out; omega); intro v115 w23 ho hb hg hat; rw [← Ny114.out] at ho; have n0_ := Aside0.mk (zBg (g := gb109) (o := .cells #[.int .u32 a0_0, .int .u64 a0_1, .int .u32 a0_2, .int .u32 a0_3, .int .u32 a0_4, .int .u32 a0_5, .int .u32 a0_6, .slice (some ad112) l0_7.length c0_7] 116 (0, 0)) (by (with_reducible repeat (first | refine zAF ?_ _ | refine zAG ?_ | refine zAE ?_ _)); refine zA9 ?_ NB109_113.out _; (with_reducible repeat (first | refine zAF ?_ _ | refine zAG ?_ | refine zAE ?_ _)); refine zA9 ?_ NB109_113.out _; (with_reducible repeat (first | refine zAF ?_ _ | refine zAG ?_ | refine zAE ?_ _)); exact BK109.out) hg (Kd.R_ne HO_112007.out BK109.out (by decide))); have n1_ := Aside0.mk (zBg (g := gb110) (o := .cells #[.int .u32 0, .int .u64 0, .int .u32 0, .int .u32 0, .int .u32 0, .int .u32 0, .int .u32 0, .slice none 0 0] 26 (0, 0)) (by (with_reducible repeat (first | refine zAF ?_ _ | refine zAG ?_ | refine zAE ?_ _)); refine zA9 ?_ NB110_113.out _; (with_reducible repeat (first | refine zAF ?_ _ | refine zAG ?_ | refine zAE ?_ _)); refine zA9 ?_ NB110_113.out _; (with_reducible repeat (first | refine zAF ?_ _ | refine zAG ?_ | refine zAE ?_ _)); exact BK110.out) hg (Kd.R_ne HO_112007.out BK110.out (by decide))); have n2_ := Aside0.mk (zBg (g := gb111) (o := .cells #[.int .u32 a0_0, .int .u64 a0_1, .int .u32 a0_2, .int .u32 a0_3, .int .u32 a0_4, .int .u32 a0_5, .int .u32 a0_6, u112007] 26 (0, 0)) (by (with_reducible repeat (first | refine zAF ?_ _ | refine zAG ?_ | refine zAE ?_ _)); refine zA9 ?_ NB111_113.out _; (with_reducible repeat (first | refine zAF ?_ _ | refine zAG ?_ | refine zAE ?_ _)); refine zA9 ?_ NB111_113.out _; (with_reducible repeat (first | refine zAF ?_ _ | refine zAG ?_ | refine zAE ?_ _)); exact BK111.out) hg (Kd.R_ne HO_112007.out BK111.out (by decide))); have n3_ := Aside0.mk (zBg (g := gb113) (o := .cells #[.string ((zBG l0_7 x24_1).f0), .string ((zBG l0_7 x24_1).f1)] 206 (0, 0)) (by (with_reducible repeat (first | refine zAF ?_ _ | refine zAG ?_ | refine zAE ?_ _)); refine zA0 (cs := #[.string ((zBG l0_7 x24_1).f0), .string (⟨#[]⟩ : ByteArray)]) ?_ 1 _ rfl; (with_reducible repeat (first | refine zAF ?_ _ | refine zAG ?_ | refine zAE ?_ _)); refine zA0 (cs := #[.string (⟨#[]⟩ : ByteArray), .string (⟨#[]⟩ : ByteArray)]) ?_ 0 _ rfl; (with_reducible repeat (first | refine zAF ?_ _ | refine zAG ?_ | refine zAE ?_ _)); exact BK113.out) hg (Kd.R_ne HO_112007.out BK113.out (by decide))); have n4_ := Aside0.mk (hb); have n5_ := Aside0.mk (ho); clear BK109; clear BK110; clear BK111; clear BK113; clear HB; clear HO_112007; have BK109 := n0_; have BK110 := n1_; have BK111 := n2_; have BK113 := n3_; have HB := n4_; have HO116 := n5_; clear n0_ n1_ n2_ n3_ n4_ n5_; clear ho hb hg hat; obtain ⟨Ao24, co24, eo24⟩ := Kd.R_slice HO116.out; subst eo24; obtain ⟨hcz25_0, hcz25_1, hcz25_2, hcz25_3, hcz25_4, hcz25_5, hcz25_6, hcz25_7, hfz25_0, hfz25_1, hfz25_2, hfz25_3, hfz25_4, hfz25_5, hfz25_6, hfz25_7⟩ := zDV BK111.out))
       go_roundg k1
       case measure => have := HK1.out; omega
       case rel => exact ⟨(wrap64 (x24_1 + 1)), (y114), (.slice Ao24 y114.length co24), (by first | rfl | (simp; done) | (simp [*]; done)), H', ⟨by have := HK1.out; omega⟩, ⟨by (with_reducible repeat (first | apply Kd.R_alloc | apply Kd.R_drewN | apply Kd.R_drew)); exact Kd.R_mono (Kd.R_far (p := ⟨gb111, 7, none⟩) (Kd.R_types HO116.out BK111.out (by decide)) (fun _ hk => hk.2) (.slice Ao24 y114.length co24)) (fun _ hk => trivial)⟩, ⟨by (with_reducible repeat (first | refine zAF ?_ _ | refine zAG ?_ | refine zAE ?_ _)); refine zA9 ?_ NB109_111.out _; (with_reducible repeat (first | refine zAF ?_ _ | refine zAG ?_ | refine zAE ?_ _)); exact BK109.out⟩, ⟨by (with_reducible repeat (first | refine zAF ?_ _ | refine zAG ?_ | refine zAE ?_ _)); refine zA9 ?_ NB110_111.out _; (with_reducible repeat (first | refine zAF ?_ _ | refine zAG ?_ | refine zAE ?_ _)); exact BK110.out⟩, ⟨by (with_reducible repeat (first | refine zAF ?_ _ | refine zAG ?_ | refine zAE ?_ _)); refine zA0 (cs := #[.int .u32 a0_0, .int .u64 a0_1, .int .u32 a0_2, .int .u32 a0_3, .int .u32 a0_4, .int .u32 a0_5, .int .u32 a0_6, u112007]) ?_ 7 _ rfl; (with_reducible repeat (first | refine zAF ?_ _ | refine zAG ?_ | refine zAE ?_ _)); exact BK111.out⟩, ⟨by repeat (first | (with_reducible first | exact HB.out | apply below_alloc | apply zAC | apply zAD | refine zAI ?_ GE109.out | refine zAI ?_ GE110.out | refine zAI ?_ GE111.out | refine zAI ?_ GE113.out) | exact HB.out)⟩⟩
      ·rw [if_neg c14] at H
       exact absurd H (by simp)
     ·rw [if_neg c13] at H
      exact absurd H (by simp)
    ·rw [if_neg c12] at H
     exact absurd H (by simp)
   ·rw [if_neg c11] at H
    have c11b0 : decide (x24_1 < (l0_7.length : Int)) = false := decide_eq_false c11
    clear c11
    simp only [Option.some.injEq, Prod.mk.injEq] at H
    obtain ⟨rfl, rfl, rfl, rfl, rfl, rfl, rfl, rfl⟩ := H
    have hnb26 := NB111_109.out
    have hnc26 := NB109_111.out
    have hnb27 := NB111_110.out
    have hnc27 := NB110_111.out
    have hcz28_0 : wr.cell? ⟨gb111, 0, none⟩ = some (.int .u32 a0_0) := (zAR BK111.out 0).trans rfl
    have hcz28_1 : wr.cell? ⟨gb111, 1, none⟩ = some (.int .u64 a0_1) := (zAR BK111.out 1).trans rfl
    have hcz28_2 : wr.cell? ⟨gb111, 2, none⟩ = some (.int .u32 a0_2) := (zAR BK111.out 2).trans rfl
    have hcz28_3 : wr.cell? ⟨gb111, 3, none⟩ = some (.int .u32 a0_3) := (zAR BK111.out 3).trans rfl
    have hcz28_4 : wr.cell? ⟨gb111, 4, none⟩ = some (.int .u32 a0_4) := (zAR BK111.out 4).trans rfl
    have hcz28_5 : wr.cell? ⟨gb111, 5, none⟩ = some (.int .u32 a0_5) := (zAR BK111.out 5).trans rfl
    have hcz28_6 : wr.cell? ⟨gb111, 6, none⟩ = some (.int .u32 a0_6) := (zAR BK111.out 6).trans rfl
    have hcz28_7 : wr.cell? ⟨gb111, 7, none⟩ = some (u112007) := (zAR BK111.out 7).trans rfl
    have hfz28_0 := zAN BK111.out 0
    have hfz28_1 := zAN BK111.out 1
    have hfz28_2 := zAN BK111.out 2
    have hfz28_3 := zAN BK111.out 3
    have hfz28_4 := zAN BK111.out 4
    have hfz28_5 := zAN BK111.out 5
    have hfz28_6 := zAN BK111.out 6
    have hfz28_7 := zAN BK111.out 7
    have hnb29 := NB110_109.out
    have hnc29 := NB109_110.out
    have hcz30_0 : wr.cell? ⟨gb110, 0, none⟩ = some (.int .u32 0) := (zAR BK110.out 0).trans rfl
    have hcz30_1 : wr.cell? ⟨gb110, 1, none⟩ = some (.int .u64 0) := (zAR BK110.out 1).trans rfl
    have hcz30_2 : wr.cell? ⟨gb110, 2, none⟩ = some (.int .u32 0) := (zAR BK110.out 2).trans rfl
    have hcz30_3 : wr.cell? ⟨gb110, 3, none⟩ = some (.int .u32 0) := (zAR BK110.out 3).trans rfl
    have hcz30_4 : wr.cell? ⟨gb110, 4, none⟩ = some (.int .u32 0) := (zAR BK110.out 4).trans rfl
    have hcz30_5 : wr.cell? ⟨gb110, 5, none⟩ = some (.int .u32 0) := (zAR BK110.out 5).trans rfl
    have hcz30_6 : wr.cell? ⟨gb110, 6, none⟩ = some (.int .u32 0) := (zAR BK110.out 6).trans rfl
    have hcz30_7 : wr.cell? ⟨gb110, 7, none⟩ = some (.slice none 0 0) := (zAR BK110.out 7).trans rfl
    have hfz30_0 := zAN BK110.out 0
    have hfz30_1 := zAN BK110.out 1
    have hfz30_2 := zAN BK110.out 2
    have hfz30_3 := zAN BK110.out 3
    have hfz30_4 := zAN BK110.out 4
    have hfz30_5 := zAN BK110.out 5
    have hfz30_6 := zAN BK110.out 6
    have hfz30_7 := zAN BK110.out 7
    obtain ⟨Ao31, co31, eo31⟩ := Kd.R_slice HO_112007.out
    subst eo31
    go_wp2
    refine bodyPost_ret (results_cell_row rfl _ _ gb110 26 #[.int .u32 a0_0, .int .u64 a0_1, .int .u32 a0_2, .int .u32 a0_3, .int .u32 a0_4, .int .u32 a0_5, .int .u32 a0_6, .slice Ao31 x112007_1.length co31] (0, 0) _ rfl (by (with_reducible repeat (first | refine zAF ?_ _ | refine zAG ?_ | refine zAE ?_ _)); refine zA0 (cs := #[.int .u32 a0_0, .int .u64 a0_1, .int .u32 a0_2, .int .u32 a0_3, .int .u32 a0_4, .int .u32 a0_5, .int .u32 a0_6, .slice none 0 0]) ?_ 7 _ rfl; (with_reducible repeat (first | refine zAF ?_ _ | refine zAG ?_ | refine zAE ?_ _)); refine zA0 (cs := #[.int .u32 a0_0, .int .u64 a0_1, .int .u32 a0_2, .int .u32 a0_3, .int .u32 a0_4, .int .u32 a0_5, .int .u32 0, .slice none 0 0]) ?_ 6 _ rfl; (with_reducible repeat (first | refine zAF ?_ _ | refine zAG ?_ | refine zAE ?_ _)); refine zA0 (cs := #[.int .u32 a0_0, .int .u64 a0_1, .int .u32 a0_2, .int .u32 a0_3, .int .u32 a0_4, .int .u32 0, .int .u32 0, .slice none 0 0]) ?_ 5 _ rfl; (with_reducible repeat (first | refine zAF ?_ _ | refine zAG ?_ | refine zAE ?_ _)); refine zA0 (cs := #[.int .u32 a0_0, .int .u64 a0_1, .int .u32 a0_2, .int .u32 a0_3, .int .u32 0, .int .u32 0, .int .u32 0, .slice none 0 0]) ?_ 4 _ rfl; (with_reducible repeat (first | refine zAF ?_ _ | refine zAG ?_ | refine zAE ?_ _)); refine zA0 (cs := #[.int .u32 a0_0, .int .u64 a0_1, .int .u32 a0_2, .int .u32 0, .int .u32 0, .int .u32 0, .int .u32 0, .slice none 0 0]) ?_ 3 _ rfl; (with_reducible repeat (first | refine zAF ?_ _ | refine zAG ?_ | refine zAE ?_ _)); refine zA0 (cs := #[.int .u32 a0_0, .int .u64 a0_1, .int .u32 0, .int .u32 0, .int .u32 0, .int .u32 0, .int .u32 0, .slice none 0 0]) ?_ 2 _ rfl; (with_reducible repeat (first | refine zAF ?_ _ | refine zAG ?_ | refine zAE ?_ _)); refine zA0 (cs := #[.int .u32 a0_0, .int .u64 0, .int .u32 0, .int .u32 0, .int .u32 0, .int .u32 0, .int .u32 0, .slice none 0 0]) ?_ 1 _ rfl; (with_reducible repeat (first | refine zAF ?_ _ | refine zAG ?_ | refine zAE ?_ _)); refine zA0 (cs := #[.int .u32 0, .int .u64 0, .int .u32 0, .int .u32 0, .int .u32 0, .int .u32 0, .int .u32 0, .slice none 0 0]) ?_ 0 _ rfl; (with_reducible repeat (first | refine zAF ?_ _ | refine zAG ?_ | refine zAE ?_ _)); exact BK110.out) Tryz.underlying26 rfl (by kernel_rfl)) rfl ?_
    exact ⟨_, by first | rfl | (simp [errW_none, errW_some] <;> rfl) | (simp [*, errW_none, errW_some] <;> rfl), by (with_reducible repeat (first | apply Kd.R_alloc | apply Kd.R_drewN | apply Kd.R_drew)); exact Kd.R_mono (Kd.R_far (p := ⟨gb110, 7, none⟩) (Kd.R_far (p := ⟨gb110, 6, none⟩) (Kd.R_far (p := ⟨gb110, 5, none⟩) (Kd.R_far (p := ⟨gb110, 4, none⟩) (Kd.R_far (p := ⟨gb110, 3, none⟩) (Kd.R_far (p := ⟨gb110, 2, none⟩) (Kd.R_far (p := ⟨gb110, 1, none⟩) (Kd.R_far (p := ⟨gb110, 0, none⟩) (Kd.R_types HO_112007.out BK110.out (by decide)) (fun _ hk => hk.2) (.int .u32 a0_0)) (fun _ hk => hk.2) (.int .u64 a0_1)) (fun _ hk => hk.2) (.int .u32 a0_2)) (fun _ hk => hk.2) (.int .u32 a0_3)) (fun _ hk => hk.2) (.int .u32 a0_4)) (fun _ hk => hk.2) (.int .u32 a0_5)) (fun _ hk => hk.2) (.int .u32 a0_6)) (fun _ hk => hk.2) (.slice Ao31 x112007_1.length co31)) (fun _ hk => trivial), by repeat (first | (with_reducible first | exact HB.out | apply below_alloc | apply zAC | apply zAD | refine zAI ?_ GE109.out | refine zAI ?_ GE110.out | refine zAI ?_ GE111.out) | exact HB.out)⟩
end Go.Proofs.YtgnficcjnijdbaaGreat.PA
namespace Go.Proofs.YtgnficcjnijdbaaGreat.PS
open Go.Proofs.YtgnficcjnijdbaaGreat.KK Go.RowKit Go.Proofs.YtgnficcjnijdbaaGreatW.PrintWords Go.Proofs.YtgnficcjnijdbaaGreatW.PrintLast Go.Proofs.YtgnficcjnijdbaaGreatW.PrintMore
attribute [local go_sem] zCH zCI zCf zCg zBn zBo zCJ zCK
set_option linter.unusedVariables false
set_option linter.unusedSimpArgs false
def errW : Option Int → Value
 | none => .nilIface
 | some c => .iface 0 (.int .i64 c)
theorem errW_none : errW none = .nilIface := rfl
theorem errW_some (c : Int) : errW (some c) = .iface 0 (.int .i64 c) := rfl
end Go.Proofs.YtgnficcjnijdbaaGreat.PS
namespace Go.Proofs.YtgnficcjnijdbaaGreat.PS
open Go.Proofs.YtgnficcjnijdbaaGreat.KK Go.RowKit Go.Proofs.YtgnficcjnijdbaaGreatW.PrintWords Go.Proofs.YtgnficcjnijdbaaGreatW.PrintLast Go.Proofs.YtgnficcjnijdbaaGreatW.PrintMore
attribute [local go_sem] zCH zCI zCf zCg zBn zBo zCJ zCK
set_option linter.unusedVariables false
set_option linter.unusedSimpArgs false
theorem zNx (d : Nat) (w : World) (x0 y0 : ByteArray) (x1 y1 : ByteArray) :
  (Op.equalIn (d + 2) 52 (.agg #[.string x0, .string x1]) (.agg #[.string y0, .string y1])).run Tryz.prog w = .ok (x0.toList == y0.toList && (x1.toList == y1.toList)) w := by
 refine zNI Tryz.underlying52 (by kernel_rfl) ?_
 refine zKn (by rfl) (by go_simp; rfl) (by go_simp; rfl) (by go_simp) ?_
 exact zKm (by rfl) (by go_simp; rfl) (by go_simp; rfl) (by go_simp)
end Go.Proofs.YtgnficcjnijdbaaGreat.PS
namespace Go.Proofs.YtgnficcjnijdbaaGreat.PS
open Go.Proofs.YtgnficcjnijdbaaGreat.KK Go.RowKit Go.Proofs.YtgnficcjnijdbaaGreatW.PrintWords Go.Proofs.YtgnficcjnijdbaaGreatW.PrintLast Go.Proofs.YtgnficcjnijdbaaGreatW.PrintMore
attribute [local go_sem] zCH zCI zCf zCg zBn zBo zCJ zCK
set_option linter.unusedVariables false
set_option linter.unusedSimpArgs false
attribute [local go_sem high] zNx
theorem zCE {w : World} {g : Nat} {t : TypeId} {v0 v1 v2 v3 v4 v5 v6 v7 : Value} (h : w.heap[g]? = some (.cells #[v0, v1, v2, v3, v4, v5, v6, v7] t (0, 0))) :
  w.cell? ⟨g, 0, none⟩ = some v0 ∧ w.cell? ⟨g, 1, none⟩ = some v1 ∧ w.cell? ⟨g, 2, none⟩ = some v2 ∧ w.cell? ⟨g, 3, none⟩ = some v3 ∧ w.cell? ⟨g, 4, none⟩ = some v4 ∧ w.cell? ⟨g, 5, none⟩ = some v5 ∧ w.cell? ⟨g, 6, none⟩ = some v6 ∧ w.cell? ⟨g, 7, none⟩ = some v7 ∧ w.frozen? ⟨g, 0, none⟩ = false ∧ w.frozen? ⟨g, 1, none⟩ = false ∧ w.frozen? ⟨g, 2, none⟩ = false ∧ w.frozen? ⟨g, 3, none⟩ = false ∧ w.frozen? ⟨g, 4, none⟩ = false ∧ w.frozen? ⟨g, 5, none⟩ = false ∧ w.frozen? ⟨g, 6, none⟩ = false ∧ w.frozen? ⟨g, 7, none⟩ = false :=
 ⟨(zAR h 0).trans rfl, (zAR h 1).trans rfl, (zAR h 2).trans rfl, (zAR h 3).trans rfl, (zAR h 4).trans rfl, (zAR h 5).trans rfl, (zAR h 6).trans rfl, (zAR h 7).trans rfl, zAN h 0, zAN h 1, zAN h 2, zAN h 3, zAN h 4, zAN h 5, zAN h 6, zAN h 7⟩
def laws_sameExts.l0 : Nat → List (S52) → List (S52) → Int → Int → Option (Bool)
 | 0, _, _, _, _ => none
 | k + 1, x0, x1, x12, x13 => if x13 < x12 then (if 0 ≤ x13 then (if x13 < (x0.length : Int) then (if x13 < (x1.length : Int) then (if (!((((zA7 x0 x13).f0).toList) == (((zA7 x1 x13).f0).toList)) || (!((((zA7 x0 x13).f1).toList) == (((zA7 x1 x13).f1).toList)))) = true then (some false) else (laws_sameExts.l0 k x0 x1 x12 (wrap64 (x13 + 1)))) else (none)) else (none)) else (none)) else (some true)
def laws_sameExts.f (k : Nat) (l0 : List (S52)) (l1 : List (S52)) : Option (Bool) := if (l0.length : Int) = (l1.length : Int) then (laws_sameExts.l0 k l0 l1 (l0.length : Int) 0) else (some false)
set_option maxRecDepth 100000 in
theorem laws_sameExts.calls (k : Nat) (A0 : Option Addr) (c0 : Nat) (l0 : List (S52)) (A1 : Option Addr) (c1 : Nat) (l1 : List (S52)) (r : Bool) (w : World) (hr0 : Kd.C k52 w A0 l0.length l0) (hc0 : l0.length ≤ c0) (hr1 : Kd.C k52 w A1 l1.length l1) (hc1 : l1.length ≤ c1) (h : laws_sameExts.f k l0 l1 = some r) :
  Calls Tryz.prog 35 #[.slice A0 l0.length c0, .slice A1 l1.length c1] w fun e w' => e = .returned (.bool r) ∧ Drawn0 w w' := by
 have hu52 := Tryz.underlying52
 have HR0 := Aside0.mk hr0
 have HC0 := Aside0.mk hc0
 clear hr0 hc0
 have HR1 := Aside0.mk hr1
 have HC1 := Aside0.mk hc1
 clear hr1 hc1
 have H : (if (l0.length : Int) = (l1.length : Int) then (laws_sameExts.l0 k l0 l1 (l0.length : Int) 0) else (some false)) = some r := h
 clear h
 by_cases c3 : (l0.length : Int) = (l1.length : Int)
 ·rw [if_pos c3] at H
  have c3b0 : ((l0.length : Int) == (l1.length : Int)) = true := beq_iff_eq.mpr c3
  have c3b1 : ((l0.length : Int) != (l1.length : Int)) = false := bne_eq_false_iff_eq.mpr c3
  have c3b2 : (l0.length == l1.length) = true := by first | simpa using c3 | (simp at c3 ⊢; omega)
  clear c3
  have H' := Aside0.mk H
  clear H
  go_enter Tryz.func35, Tryz.ntmps35
  go_wp2
  repeat (go_quiet (fail); try go_wp2)
  go_loopg [13] k (fun kq v13 w' => ∃ (x13_1 : Int), v13 = .int .i64 x13_1 ∧ Aside0 (laws_sameExts.l0 kq l0 l1 (l0.length : Int) x13_1 = some r) ∧ Aside0 (kq ≤ k) ∧ Drawn0 w w')
  case atStart => exact ⟨(0), (by first | rfl | (simp; done) | (simp [*]; done)), H', ⟨Nat.le_refl _⟩, by repeat (first | exact Drawn0.refl _ | apply Drawn0.step)⟩
  case round =>
   clear H'
   try clear c1
   try clear p2
   try clear c3
   try clear c3b0
   try clear c3b1
   try clear c3b2
   obtain ⟨x13_1, rfl, HA, HK1, ⟨m1, rfl⟩⟩ := hrel
   cases gk with
   | zero => exact absurd HA.out (by simp [laws_sameExts.l0])
   | succ k1 =>
    have H := HA.out
    clear HA
    simp only [laws_sameExts.l0] at H
    by_cases c4 : x13_1 < (l0.length : Int)
    ·rw [if_pos c4] at H
     have c4b0 : decide (x13_1 < (l0.length : Int)) = true := decide_eq_true c4
     clear c4
     by_cases c5 : 0 ≤ x13_1
     ·rw [if_pos c5] at H
      have c5b0 : decide (0 ≤ x13_1) = true := decide_eq_true c5
      clear c5
      by_cases c6 : x13_1 < (l0.length : Int)
      ·rw [if_pos c6] at H
       have c6b0 : decide (x13_1 < (l0.length : Int)) = true := decide_eq_true c6
       clear c6
       by_cases c7 : x13_1 < (l1.length : Int)
       ·rw [if_pos c7] at H
        have c7b0 : decide (x13_1 < (l1.length : Int)) = true := decide_eq_true c7
        clear c7
        by_cases c8 : (!((((zA7 l0 x13_1).f0).toList) == (((zA7 l1 x13_1).f0).toList)) || (!((((zA7 l0 x13_1).f1).toList) == (((zA7 l1 x13_1).f1).toList)))) = true
        ·rw [if_pos c8] at H
         have c8b0 : (!((((zA7 l0 x13_1).f0).toList) == (((zA7 l1 x13_1).f0).toList)) || (!((((zA7 l0 x13_1).f1).toList) == (((zA7 l1 x13_1).f1).toList)))) = true := c8
         clear c8
         obtain rfl := Option.some.inj H
         have p101 : 0 ≤ (x13_1 : Int) := of_decide_eq_true (by first | (with_reducible assumption) | assumption)
         have q101 : x13_1 < (l0.length : Int) := of_decide_eq_true (by first | (with_reducible assumption) | assumption)
         obtain ⟨ad101, e101, hx101_0, hx101_1⟩ := zCL HR0.out x13_1 p101 q101
         cases e101
         replace p101 := eq_true p101
         replace q101 := eq_true q101
         have p102 : 0 ≤ (x13_1 : Int) := of_decide_eq_true (by first | (with_reducible assumption) | assumption)
         have q102 : x13_1 < (l1.length : Int) := of_decide_eq_true (by first | (with_reducible assumption) | assumption)
         obtain ⟨ad102, e102, hx102_0, hx102_1⟩ := zCL HR1.out x13_1 p102 q102
         cases e102
         replace p102 := eq_true p102
         replace q102 := eq_true q102
         go_wp2
         repeat (go_quiet (fail); try go_wp2)
         go_ret
         exact ⟨by first | rfl | (simp; done) | (simp [*]; done), by repeat (first | exact Drawn0.refl _ | apply Drawn0.step)⟩
        ·rw [if_neg c8] at H
         have c8b0 : (!((((zA7 l0 x13_1).f0).toList) == (((zA7 l1 x13_1).f0).toList)) || (!((((zA7 l0 x13_1).f1).toList) == (((zA7 l1 x13_1).f1).toList)))) = false := by simpa using c8
         clear c8
         have H' := Aside0.mk H
         clear H
         have p101 : 0 ≤ (x13_1 : Int) := of_decide_eq_true (by first | (with_reducible assumption) | assumption)
         have q101 : x13_1 < (l0.length : Int) := of_decide_eq_true (by first | (with_reducible assumption) | assumption)
         obtain ⟨ad101, e101, hx101_0, hx101_1⟩ := zCL HR0.out x13_1 p101 q101
         cases e101
         replace p101 := eq_true p101
         replace q101 := eq_true q101
         have p102 : 0 ≤ (x13_1 : Int) := of_decide_eq_true (by first | (with_reducible assumption) | assumption)
         have q102 : x13_1 < (l1.length : Int) := of_decide_eq_true (by first | (with_reducible assumption) | assumption)
         obtain ⟨ad102, e102, hx102_0, hx102_1⟩ := zCL HR1.out x13_1 p102 q102
         cases e102
         replace p102 := eq_true p102
         replace q102 := eq_true q102
         go_wp2
         repeat (go_quiet (fail); try go_wp2)
         go_roundg k1
         case measure => have := HK1.out; omega
         case rel => exact ⟨(wrap64 (x13_1 + 1)), (by first | rfl | (simp; done) | (simp [*]; done)), H', ⟨by have := HK1.out; omega⟩, by repeat (first | exact Drawn0.refl _ | apply Drawn0.step)⟩
       ·rw [if_neg c7] at H
        exact absurd H (by simp)
      ·rw [if_neg c6] at H
       exact absurd H (by simp)
     ·rw [if_neg c5] at H
      exact absurd H (by simp)
    ·rw [if_neg c4] at H
     have c4b0 : decide (x13_1 < (l0.length : Int)) = false := decide_eq_false c4
     clear c4
     obtain rfl := Option.some.inj H
     go_wp2
     repeat (go_quiet (fail); try go_wp2)
     go_ret
     exact ⟨by first | rfl | (simp; done) | (simp [*]; done), by repeat (first | exact Drawn0.refl _ | apply Drawn0.step)⟩
 ·rw [if_neg c3] at H
  have c3b0 : ((l0.length : Int) == (l1.length : Int)) = false := beq_eq_false_iff_ne.mpr c3
  have c3b1 : ((l0.length : Int) != (l1.length : Int)) = true := bne_iff_ne.mpr c3
  have c3b2 : (l0.length == l1.length) = false := by first | simpa using c3 | (simp at c3 ⊢; omega)
  obtain rfl := Option.some.inj H
  go_enter Tryz.func35, Tryz.ntmps35
  go_wp2
  repeat (go_quiet (fail); try go_wp2)
  go_ret
  exact ⟨by first | rfl | (simp; done) | (simp [*]; done), by repeat (first | exact Drawn0.refl _ | apply Drawn0.step)⟩
def laws_sameAttrs.f (k : Nat) (a0_0 : Int) (a0_1 : Int) (a0_2 : Int) (a0_3 : Int) (a0_4 : Int) (a0_5 : Int) (a0_6 : Int) (l0_7 : List (S52)) (a1_0 : Int) (a1_1 : Int) (a1_2 : Int) (a1_3 : Int) (a1_4 : Int) (a1_5 : Int) (a1_6 : Int) (l1_7 : List (S52)) : Option (Bool) := if a0_0 = a1_0 then (if a0_1 = a1_1 then (if a0_2 = a1_2 then (if a0_3 = a1_3 then (if a0_4 = a1_4 then (if a0_5 = a1_5 then (if a0_6 = a1_6 then ((laws_sameExts.f k l0_7 l1_7).bind fun t105 => (some t105)) else (some false)) else (some false)) else (some false)) else (some false)) else (some false)) else (some false)) else (some false)
set_option maxRecDepth 100000 in
theorem laws_sameAttrs.calls (k : Nat) (a0_0 : Int) (a0_1 : Int) (a0_2 : Int) (a0_3 : Int) (a0_4 : Int) (a0_5 : Int) (a0_6 : Int) (A0_7 : Option Addr) (c0_7 : Nat) (l0_7 : List (S52)) (a1_0 : Int) (a1_1 : Int) (a1_2 : Int) (a1_3 : Int) (a1_4 : Int) (a1_5 : Int) (a1_6 : Int) (A1_7 : Option Addr) (c1_7 : Nat) (l1_7 : List (S52)) (r : Bool) (w : World) (hr0_7 : Kd.C k52 w A0_7 l0_7.length l0_7) (hc0_7 : l0_7.length ≤ c0_7) (hr1_7 : Kd.C k52 w A1_7 l1_7.length l1_7) (hc1_7 : l1_7.length ≤ c1_7) (h : laws_sameAttrs.f k a0_0 a0_1 a0_2 a0_3 a0_4 a0_5 a0_6 l0_7 a1_0 a1_1 a1_2 a1_3 a1_4 a1_5 a1_6 l1_7 = some r) :
  Calls Tryz.prog 34 #[.agg #[.int .u32 a0_0, .int .u64 a0_1, .int .u32 a0_2, .int .u32 a0_3, .int .u32 a0_4, .int .u32 a0_5, .int .u32 a0_6, .slice A0_7 l0_7.length c0_7], .agg #[.int .u32 a1_0, .int .u64 a1_1, .int .u32 a1_2, .int .u32 a1_3, .int .u32 a1_4, .int .u32 a1_5, .int .u32 a1_6, .slice A1_7 l1_7.length c1_7]] w fun e w' => e = .returned (.bool r) ∧ Below w.heap.size w w' := by
 have hu26 := Tryz.underlying26
 have HR0_7 := Aside0.mk hr0_7
 have HC0_7 := Aside0.mk hc0_7
 clear hr0_7 hc0_7
 have HR1_7 := Aside0.mk hr1_7
 have HC1_7 := Aside0.mk hc1_7
 clear hr1_7 hc1_7
 have HB := Aside0.mk (Below.refl w.heap.size w)
 have H : (if a0_0 = a1_0 then (if a0_1 = a1_1 then (if a0_2 = a1_2 then (if a0_3 = a1_3 then (if a0_4 = a1_4 then (if a0_5 = a1_5 then (if a0_6 = a1_6 then ((laws_sameExts.f k l0_7 l1_7).bind fun t105 => (some t105)) else (some false)) else (some false)) else (some false)) else (some false)) else (some false)) else (some false)) else (some false)) = some r := h
 clear h
 by_cases c3 : a0_0 = a1_0
 ·rw [if_pos c3] at H
  have c3b0 : (a0_0 == a1_0) = true := beq_iff_eq.mpr c3
  have c3b1 : (a0_0 != a1_0) = false := bne_eq_false_iff_eq.mpr c3
  clear c3
  by_cases c4 : a0_1 = a1_1
  ·rw [if_pos c4] at H
   have c4b0 : (a0_1 == a1_1) = true := beq_iff_eq.mpr c4
   have c4b1 : (a0_1 != a1_1) = false := bne_eq_false_iff_eq.mpr c4
   clear c4
   by_cases c5 : a0_2 = a1_2
   ·rw [if_pos c5] at H
    have c5b0 : (a0_2 == a1_2) = true := beq_iff_eq.mpr c5
    have c5b1 : (a0_2 != a1_2) = false := bne_eq_false_iff_eq.mpr c5
    clear c5
    by_cases c6 : a0_3 = a1_3
    ·rw [if_pos c6] at H
     have c6b0 : (a0_3 == a1_3) = true := beq_iff_eq.mpr c6
     have c6b1 : (a0_3 != a1_3) = false := bne_eq_false_iff_eq.mpr c6
     clear c6
     by_cases c7 : a0_4 = a1_4
     ·rw [if_pos c7] at H
      have c7b0 : (a0_4 == a1_4) = true := beq_iff_eq.mpr c7
      have c7b1 : (a0_4 != a1_4) = false := bne_eq_false_iff_eq.mpr c7
      clear c7
      by_cases c8 : a0_5 = a1_5
      ·rw [if_pos c8] at H
       have c8b0 : (a0_5 == a1_5) = true := beq_iff_eq.mpr c8
       have c8b1 : (a0_5 != a1_5) = false := bne_eq_false_iff_eq.mpr c8
       clear c8
       by_cases c9 : a0_6 = a1_6
       ·rw [if_pos c9] at H
        have c9b0 : (a0_6 == a1_6) = true := beq_iff_eq.mpr c9
        have c9b1 : (a0_6 != a1_6) = false := bne_eq_false_iff_eq.mpr c9
        clear c9
        replace H := Option.bind_eq_some_iff.mp H
        obtain ⟨t105, A100, H⟩ := H
        replace H : (some t105) = some r := H
        have A10 := Aside0.mk A100
        clear A100
        obtain rfl := Option.some.inj H
        go_enter Tryz.func34, Tryz.ntmps34
        go_wp2_with (first | ((with_reducible refine zAb (N := 2) rfl ?_); refine zA6 ?hg (N := 2) ?hd (cs := #[.int .u32 a0_0, .int .u64 a0_1, .int .u32 a0_2, .int .u32 a0_3, .int .u32 a0_4, .int .u32 a0_5, .int .u32 a0_6, .slice A0_7 l0_7.length c0_7]) (t := 26) ?hr ?_; (case hd => rfl); (case hg => rfl); (case hr => first | (go_simp; done) | (go_simp; rfl)); intro gb103 hg w11 hbox hb; have n0_ := Aside0.mk (zAX (by repeat (first | (with_reducible first | exact HB.out | apply below_alloc | apply zAC | apply zAD) | exact HB.out)) hb); have n1_ := Aside0.mk (hbox); have n2_ := Aside0.mk ((by rw [hg]; exact (zAO (by repeat (first | (with_reducible first | exact HB.out | apply below_alloc | apply zAC | apply zAD) | exact HB.out))) : w.heap.size ≤ gb103)); have n3_ := Aside0.mk ((by rw [hg]; exact (zAO (by repeat (first | (with_reducible first | exact HB.out | apply below_alloc | apply zAC | apply zAD) | exact HB.out))) : w.heap.size ≤ gb103)); clear HB; have HB := n0_; have BK103 := n1_; have GW103 := n2_; have GE103 := n3_; clear n0_ n1_ n2_ n3_; clear hb hbox hg) | ((with_reducible refine zAb (N := 3) rfl ?_); refine zA6 ?hg (N := 3) ?hd (cs := #[.int .u32 a1_0, .int .u64 a1_1, .int .u32 a1_2, .int .u32 a1_3, .int .u32 a1_4, .int .u32 a1_5, .int .u32 a1_6, .slice A1_7 l1_7.length c1_7]) (t := 26) ?hr ?_; (case hd => rfl); (case hg => rfl); (case hr => first | (go_simp; done) | (go_simp; rfl)); intro gb104 hg w12 hbox hb; have n0_ := Aside0.mk (blk_below (g := gb103) (o := .cells #[.int .u32 a0_0, .int .u64 a0_1, .int .u32 a0_2, .int .u32 a0_3, .int .u32 a0_4, .int .u32 a0_5, .int .u32 a0_6, .slice A0_7 l0_7.length c0_7] 26 (0, 0)) (by (with_reducible repeat (first | refine zAF ?_ _ | refine zAG ?_ | refine zAE ?_ _)); exact BK103.out) hb); have n1_ := Aside0.mk (zAX (by repeat (first | (with_reducible first | exact HB.out | apply below_alloc | apply zAC | apply zAD | refine zAI ?_ GE103.out) | exact HB.out)) hb); have n2_ := Aside0.mk (hbox); have n3_ := Aside0.mk ((by rw [hg]; exact (zAO (by repeat (first | (with_reducible first | exact HB.out | apply below_alloc | apply zAC | apply zAD | refine zAI ?_ GE103.out) | exact HB.out))) : w.heap.size ≤ gb104)); have n4_ := Aside0.mk ((by rw [hg]; exact (zAO (by repeat (first | (with_reducible first | exact HB.out | apply below_alloc | apply zAC | apply zAD | refine zAI ?_ GE103.out) | exact HB.out))) : w.heap.size ≤ gb104)); have n5_ := Aside0.mk ((by rw [hg]; exact Nat.ne_of_lt (zAp (g := gb103) (o := .cells #[.int .u32 a0_0, .int .u64 a0_1, .int .u32 a0_2, .int .u32 a0_3, .int .u32 a0_4, .int .u32 a0_5, .int .u32 a0_6, .slice A0_7 l0_7.length c0_7] 26 (0, 0)) (by (with_reducible repeat (first | refine zAF ?_ _ | refine zAG ?_ | refine zAE ?_ _)); exact BK103.out)) : gb103 ≠ gb104)); have n6_ := Aside0.mk ((by rw [hg]; exact Nat.ne_of_gt (zAp (g := gb103) (o := .cells #[.int .u32 a0_0, .int .u64 a0_1, .int .u32 a0_2, .int .u32 a0_3, .int .u32 a0_4, .int .u32 a0_5, .int .u32 a0_6, .slice A0_7 l0_7.length c0_7] 26 (0, 0)) (by (with_reducible repeat (first | refine zAF ?_ _ | refine zAG ?_ | refine zAE ?_ _)); exact BK103.out)) : gb104 ≠ gb103)); clear BK103; clear HB; have BK103 := n0_; have HB := n1_; have BK104 := n2_; have GW104 := n3_; have GE104 := n4_; have NB103_104 := n5_; have NB104_103 := n6_; clear n0_ n1_ n2_ n3_ n4_ n5_ n6_; clear hb hbox hg; have hnb13 := NB103_104.out; have hnc13 := NB104_103.out; obtain ⟨hcz14_0, hcz14_1, hcz14_2, hcz14_3, hcz14_4, hcz14_5, hcz14_6, hcz14_7, hfz14_0, hfz14_1, hfz14_2, hfz14_3, hfz14_4, hfz14_5, hfz14_6, hfz14_7⟩ := zCE BK103.out; obtain ⟨hcz15_0, hcz15_1, hcz15_2, hcz15_3, hcz15_4, hcz15_5, hcz15_6, hcz15_7, hfz15_0, hfz15_1, hfz15_2, hfz15_3, hfz15_4, hfz15_5, hfz15_6, hfz15_7⟩ := zCE BK104.out) | (go_at_call 35; (with_reducible refine (laws_sameExts.calls k _ _ l0_7 _ _ l1_7 t105 _ ?side1 ?side2 ?side3 ?side4 A10.out).mono ?_); (case side1 => repeat (first | exact (Kd.C_below HR0_7.out HB.out) | (with_reducible refine Kd.C_alloc ?_ _) | (with_reducible refine Kd.C_drewN ?_ _) | (with_reducible refine Kd.C_drew ?_))); (case side2 => exact HC0_7.out); (case side3 => repeat (first | exact (Kd.C_below HR1_7.out HB.out) | (with_reducible refine Kd.C_alloc ?_ _) | (with_reducible refine Kd.C_drewN ?_ _) | (with_reducible refine Kd.C_drew ?_))); (case side4 => exact HC1_7.out); rintro e w' ⟨rfl, ⟨nd, rfl⟩⟩))
        go_ret
        exact ⟨by first | rfl | (simp [errW_none, errW_some] <;> rfl) | (simp [*, errW_none, errW_some] <;> rfl), by repeat (first | (with_reducible first | exact HB.out | apply below_alloc | apply zAC | apply zAD | refine zAI ?_ GE103.out | refine zAI ?_ GE104.out) | exact HB.out)⟩
       ·rw [if_neg c9] at H
        have c9b0 : (a0_6 == a1_6) = false := beq_eq_false_iff_ne.mpr c9
        have c9b1 : (a0_6 != a1_6) = true := bne_iff_ne.mpr c9
        obtain rfl := Option.some.inj H
        go_enter Tryz.func34, Tryz.ntmps34
        go_wp2_with (first | ((with_reducible refine zAb (N := 2) rfl ?_); refine zA6 ?hg (N := 2) ?hd (cs := #[.int .u32 a0_0, .int .u64 a0_1, .int .u32 a0_2, .int .u32 a0_3, .int .u32 a0_4, .int .u32 a0_5, .int .u32 a0_6, .slice A0_7 l0_7.length c0_7]) (t := 26) ?hr ?_; (case hd => rfl); (case hg => rfl); (case hr => first | (go_simp; done) | (go_simp; rfl)); intro gb103 hg w16 hbox hb; have n0_ := Aside0.mk (zAX (by repeat (first | (with_reducible first | exact HB.out | apply below_alloc | apply zAC | apply zAD) | exact HB.out)) hb); have n1_ := Aside0.mk (hbox); have n2_ := Aside0.mk ((by rw [hg]; exact (zAO (by repeat (first | (with_reducible first | exact HB.out | apply below_alloc | apply zAC | apply zAD) | exact HB.out))) : w.heap.size ≤ gb103)); have n3_ := Aside0.mk ((by rw [hg]; exact (zAO (by repeat (first | (with_reducible first | exact HB.out | apply below_alloc | apply zAC | apply zAD) | exact HB.out))) : w.heap.size ≤ gb103)); clear HB; have HB := n0_; have BK103 := n1_; have GW103 := n2_; have GE103 := n3_; clear n0_ n1_ n2_ n3_; clear hb hbox hg) | ((with_reducible refine zAb (N := 3) rfl ?_); refine zA6 ?hg (N := 3) ?hd (cs := #[.int .u32 a1_0, .int .u64 a1_1, .int .u32 a1_2, .int .u32 a1_3, .int .u32 a1_4, .int .u32 a1_5, .int .u32 a1_6, .slice A1_7 l1_7.length c1_7]) (t := 26) ?hr ?_; (case hd => rfl); (case hg => rfl); (case hr => first | (go_simp; done) | (go_simp; rfl)); intro gb104 hg w17 hbox hb; have n0_ := Aside0.mk (blk_below (g := gb103) (o := .cells #[.int .u32 a0_0, .int .u64 a0_1, .int .u32 a0_2, .int .u32 a0_3, .int .u32 a0_4, .int .u32 a0_5, .int .u32 a0_6, .slice A0_7 l0_7.length c0_7] 26 (0, 0)) (by (with_reducible repeat (first | refine zAF ?_ _ | refine zAG ?_ | refine zAE ?_ _)); exact BK103.out) hb); have n1_ := Aside0.mk (zAX (by repeat (first | (with_reducible first | exact HB.out | apply below_alloc | apply zAC | apply zAD | refine zAI ?_ GE103.out) | exact HB.out)) hb); have n2_ := Aside0.mk (hbox); have n3_ := Aside0.mk ((by rw [hg]; exact (zAO (by repeat (first | (with_reducible first | exact HB.out | apply below_alloc | apply zAC | apply zAD | refine zAI ?_ GE103.out) | exact HB.out))) : w.heap.size ≤ gb104)); have n4_ := Aside0.mk ((by rw [hg]; exact (zAO (by repeat (first | (with_reducible first | exact HB.out | apply below_alloc | apply zAC | apply zAD | refine zAI ?_ GE103.out) | exact HB.out))) : w.heap.size ≤ gb104)); have n5_ := Aside0.mk ((by rw [hg]; exact Nat.ne_of_lt (zAp (g := gb103) (o := .cells #[.int .u32 a0_0, .int .u64 a0_1, .int .u32 a0_2, .int .u32 a0_3, .int .u32 a0_4, .int .u32 a0_5, .int .u32 a0_6, .slice A0_7 l0_7.length c0_7] 26 (0, 0)) (by (with_reducible repeat (first | refine zAF ?_ _ | refine zAG ?_ | refine zAE ?_ _)); exact BK103.out)) : gb103 ≠ gb104)); have n6_ := Aside0.mk ((by rw [hg]; exact Nat.ne_of_gt (zAp (g := gb103) (o := .cells #[.int .u32 a0_0, .int .u64 a0_1, .int .u32 a0_2, .int .u32 a0_3, .int .u32 a0_4, .int .u32 a0_5, .int .u32 a0_6, .slice A0_7 l0_7.length c0_7] 26 (0, 0)) (by (with_reducible repeat (first | refine zAF ?_ _ | refine zAG ?_ | refine zAE ?_ _)); exact BK103.out)) : gb104 ≠ gb103)); clear BK103; clear HB; have BK103 := n0_; have HB := n1_; have BK104 := n2_; have GW104 := n3_; have GE104 := n4_; have NB103_104 := n5_; have NB104_103 := n6_; clear n0_ n1_ n2_ n3_ n4_ n5_ n6_; clear hb hbox hg; have hnb18 := NB103_104.out; have hnc18 := NB104_103.out; obtain ⟨hcz19_0, hcz19_1, hcz19_2, hcz19_3, hcz19_4, hcz19_5, hcz19_6, hcz19_7, hfz19_0, hfz19_1, hfz19_2, hfz19_3, hfz19_4, hfz19_5, hfz19_6, hfz19_7⟩ := zCE BK103.out; obtain ⟨hcz20_0, hcz20_1, hcz20_2, hcz20_3, hcz20_4, hcz20_5, hcz20_6, hcz20_7, hfz20_0, hfz20_1, hfz20_2, hfz20_3, hfz20_4, hfz20_5, hfz20_6, hfz20_7⟩ := zCE BK104.out))
        go_ret
        exact ⟨by first | rfl | (simp [errW_none, errW_some] <;> rfl) | (simp [*, errW_none, errW_some] <;> rfl), by repeat (first | (with_reducible first | exact HB.out | apply below_alloc | apply zAC | apply zAD | refine zAI ?_ GE103.out | refine zAI ?_ GE104.out) | exact HB.out)⟩
      ·rw [if_neg c8] at H
       have c8b0 : (a0_5 == a1_5) = false := beq_eq_false_iff_ne.mpr c8
       have c8b1 : (a0_5 != a1_5) = true := bne_iff_ne.mpr c8
       obtain rfl := Option.some.inj H
       go_enter Tryz.func34, Tryz.ntmps34
       go_wp2_with (first | ((with_reducible refine zAb (N := 2) rfl ?_); refine zA6 ?hg (N := 2) ?hd (cs := #[.int .u32 a0_0, .int .u64 a0_1, .int .u32 a0_2, .int .u32 a0_3, .int .u32 a0_4, .int .u32 a0_5, .int .u32 a0_6, .slice A0_7 l0_7.length c0_7]) (t := 26) ?hr ?_; (case hd => rfl); (case hg => rfl); (case hr => first | (go_simp; done) | (go_simp; rfl)); intro gb103 hg w21 hbox hb; have n0_ := Aside0.mk (zAX (by repeat (first | (with_reducible first | exact HB.out | apply below_alloc | apply zAC | apply zAD) | exact HB.out)) hb); have n1_ := Aside0.mk (hbox); have n2_ := Aside0.mk ((by rw [hg]; exact (zAO (by repeat (first | (with_reducible first | exact HB.out | apply below_alloc | apply zAC | apply zAD) | exact HB.out))) : w.heap.size ≤ gb103)); have n3_ := Aside0.mk ((by rw [hg]; exact (zAO (by repeat (first | (with_reducible first | exact HB.out | apply below_alloc | apply zAC | apply zAD) | exact HB.out))) : w.heap.size ≤ gb103)); clear HB; have HB := n0_; have BK103 := n1_; have GW103 := n2_; have GE103 := n3_; clear n0_ n1_ n2_ n3_; clear hb hbox hg) | ((with_reducible refine zAb (N := 3) rfl ?_); refine zA6 ?hg (N := 3) ?hd (cs := #[.int .u32 a1_0, .int .u64 a1_1, .int .u32 a1_2, .int .u32 a1_3, .int .u32 a1_4, .int .u32 a1_5, .int .u32 a1_6, .slice A1_7 l1_7.length c1_7]) (t := 26) ?hr ?_; (case hd => rfl); (case hg => rfl); (case hr => first | (go_simp; done) | (go_simp; rfl)); intro gb104 hg w22 hbox hb; have n0_ := Aside0.mk (blk_below (g := gb103) (o := .cells #[.int .u32 a0_0, .int .u64 a0_1, .int .u32 a0_2, .int .u32 a0_3, .int .u32 a0_4, .int .u32 a0_5, .int .u32 a0_6, .slice A0_7 l0_7.length c0_7] 26 (0, 0)) (by (with_reducible repeat (first | refine zAF ?_ _ | refine zAG ?_ | refine zAE ?_ _)); exact BK103.out) hb); have n1_ := Aside0.mk (zAX (by repeat (first | (with_reducible first | exact HB.out | apply below_alloc | apply zAC | apply zAD | refine zAI ?_ GE103.out) | exact HB.out)) hb); have n2_ := Aside0.mk (hbox); have n3_ := Aside0.mk ((by rw [hg]; exact (zAO (by repeat (first | (with_reducible first | exact HB.out | apply below_alloc | apply zAC | apply zAD | refine zAI ?_ GE103.out) | exact HB.out))) : w.heap.size ≤ gb104)); have n4_ := Aside0.mk ((by rw [hg]; exact (zAO (by repeat (first | (with_reducible first | exact HB.out | apply below_alloc | apply zAC | apply zAD | refine zAI ?_ GE103.out) | exact HB.out))) : w.heap.size ≤ gb104)); have n5_ := Aside0.mk ((by rw [hg]; exact Nat.ne_of_lt (zAp (g := gb103) (o := .cells #[.int .u32 a0_0, .int .u64 a0_1, .int .u32 a0_2, .int .u32 a0_3, .int .u32 a0_4, .int .u32 a0_5, .int .u32 a0_6, .slice A0_7 l0_7.length c0_7] 26 (0, 0)) (by (with_reducible repeat (first | refine zAF ?_ _ | refine zAG ?_ | refine zAE ?_ _)); exact BK103.out)) : gb103 ≠ gb104)); have n6_ := Aside0.mk ((by rw [hg]; exact Nat.ne_of_gt (zAp (g := gb103) (o := .cells #[.int .u32 a0_0, .int .u64 a0_1, .int .u32 a0_2, .int .u32 a0_3, .int .u32 a0_4, .int .u32 a0_5, .int .u32 a0_6, .slice A0_7 l0_7.length c0_7] 26 (0, 0)) (by (with_reducible repeat (first | refine zAF ?_ _ | refine zAG ?_ | refine zAE ?_ _)); exact BK103.out)) : gb104 ≠ gb103)); clear BK103; clear HB; have BK103 := n0_; have HB := n1_; have BK104 := n2_; have GW104 := n3_; have GE104 := n4_; have NB103_104 := n5_; have NB104_103 := n6_; clear n0_ n1_ n2_ n3_ n4_ n5_ n6_; clear hb hbox hg; have hnb23 := NB103_104.out; have hnc23 := NB104_103.out; obtain ⟨hcz24_0, hcz24_1, hcz24_2, hcz24_3, hcz24_4, hcz24_5, hcz24_6, hcz24_7, hfz24_0, hfz24_1, hfz24_2, hfz24_3, hfz24_4, hfz24_5, hfz24_6, hfz24_7⟩ := zCE BK103.out; obtain ⟨hcz25_0, hcz25_1, hcz25_2, hcz25_3, hcz25_4, hcz25_5, hcz25_6, hcz25_7, hfz25_0, hfz25_1, hfz25_2, hfz25_3, hfz25_4, hfz25_5, hfz25_6, hfz25_7⟩ := zCE BK104.out))
       go_ret
       exact ⟨by first | rfl | (simp [errW_none, errW_some] <;> rfl) | (simp [*, errW_none, errW_some] <;> rfl), by repeat (first | (with_reducible first | exact HB.out | apply below_alloc | apply zAC | apply zAD | refine zAI ?_ GE103.out | refine zAI ?_ GE104.out) | exact HB.out)⟩
     ·rw [if_neg c7] at H
      have c7b0 : (a0_4 == a1_4) = false := beq_eq_false_iff_ne.mpr c7
      have c7b1 : (a0_4 != a1_4) = true := bne_iff_ne.mpr c7
      obtain rfl := Option.some.inj H
      go_enter Tryz.func34, Tryz.ntmps34
      go_wp2_with (first | ((with_reducible refine zAb (N := 2) rfl ?_); refine zA6 ?hg (N := 2) ?hd (cs := #[.int .u32 a0_0, .int .u64 a0_1, .int .u32 a0_2, .int .u32 a0_3, .int .u32 a0_4, .int .u32 a0_5, .int .u32 a0_6, .slice A0_7 l0_7.length c0_7]) (t := 26) ?hr ?_; (case hd => rfl); (case hg => rfl); (case hr => first | (go_simp; done) | (go_simp; rfl)); intro gb103 hg w26 hbox hb; have n0_ := Aside0.mk (zAX (by repeat (first | (with_reducible first | exact HB.out | apply below_alloc | apply zAC | apply zAD) | exact HB.out)) hb); have n1_ := Aside0.mk (hbox); have n2_ := Aside0.mk ((by rw [hg]; exact (zAO (by repeat (first | (with_reducible first | exact HB.out | apply below_alloc | apply zAC | apply zAD) | exact HB.out))) : w.heap.size ≤ gb103)); have n3_ := Aside0.mk ((by rw [hg]; exact (zAO (by repeat (first | (with_reducible first | exact HB.out | apply below_alloc | apply zAC | apply zAD) | exact HB.out))) : w.heap.size ≤ gb103)); clear HB; have HB := n0_; have BK103 := n1_; have GW103 := n2_; have GE103 := n3_; clear n0_ n1_ n2_ n3_; clear hb hbox hg) | ((with_reducible refine zAb (N := 3) rfl ?_); refine zA6 ?hg (N := 3) ?hd (cs := #[.int .u32 a1_0, .int .u64 a1_1, .int .u32 a1_2, .int .u32 a1_3, .int .u32 a1_4, .int .u32 a1_5, .int .u32 a1_6, .slice A1_7 l1_7.length c1_7]) (t := 26) ?hr ?_; (case hd => rfl); (case hg => rfl); (case hr => first | (go_simp; done) | (go_simp; rfl)); intro gb104 hg w27 hbox hb; have n0_ := Aside0.mk (blk_below (g := gb103) (o := .cells #[.int .u32 a0_0, .int .u64 a0_1, .int .u32 a0_2, .int .u32 a0_3, .int .u32 a0_4, .int .u32 a0_5, .int .u32 a0_6, .slice A0_7 l0_7.length c0_7] 26 (0, 0)) (by (with_reducible repeat (first | refine zAF ?_ _ | refine zAG ?_ | refine zAE ?_ _)); exact BK103.out) hb); have n1_ := Aside0.mk (zAX (by repeat (first | (with_reducible first | exact HB.out | apply below_alloc | apply zAC | apply zAD | refine zAI ?_ GE103.out) | exact HB.out)) hb); have n2_ := Aside0.mk (hbox); have n3_ := Aside0.mk ((by rw [hg]; exact (zAO (by repeat (first | (with_reducible first | exact HB.out | apply below_alloc | apply zAC | apply zAD | refine zAI ?_ GE103.out) | exact HB.out))) : w.heap.size ≤ gb104)); have n4_ := Aside0.mk ((by rw [hg]; exact (zAO (by repeat (first | (with_reducible first | exact HB.out | apply below_alloc | apply zAC | apply zAD | refine zAI ?_ GE103.out) | exact HB.out))) : w.heap.size ≤ gb104)); have n5_ := Aside0.mk ((by rw [hg]; exact Nat.ne_of_lt (zAp (g := gb103) (o := .cells #[.int .u32 a0_0, .int .u64 a0_1, .int .u32 a0_2, .int .u32 a0_3, .int .u32 a0_4, .int .u32 a0_5, .int .u32 a0_6, .slice A0_7 l0_7.length c0_7] 26 (0, 0)) (by (with_reducible repeat (first | refine zAF ?_ _ | refine zAG ?_ | refine zAE ?_ _)); exact BK103.out)) : gb103 ≠ gb104)); have n6_ := Aside0.mk ((by rw [hg]; exact Nat.ne_of_gt (zAp (g := gb103) (o := .cells #[.int .u32 a0_0, .int .u64 a0_1, .int .u32 a0_2, .int .u32 a0_3, .int .u32 a0_4, .int .u32 a0_5, .int .u32 a0_6, .slice A0_7 l0_7.length c0_7] 26 (0, 0)) (by (with_reducible repeat (first | refine zAF ?_ _ | refine zAG ?_ | refine zAE ?_ _)); exact BK103.out)) : gb104 ≠ gb103)); clear BK103; clear HB; have BK103 := n0_; have HB := n1_; have BK104 := n2_; have GW104 := n3_; have GE104 := n4_; have NB103_104 := n5_; have NB104_103 := n6_; clear n0_ n1_ n2_ n3_ n4_ n5_ n6_; clear hb hbox hg; have hnb28 := NB103_104.out; have hnc28 := NB104_103.out; obtain ⟨hcz29_0, hcz29_1, hcz29_2, hcz29_3, hcz29_4, hcz29_5, hcz29_6, hcz29_7, hfz29_0, hfz29_1, hfz29_2, hfz29_3, hfz29_4, hfz29_5, hfz29_6, hfz29_7⟩ := zCE BK103.out; obtain ⟨hcz30_0, hcz30_1, hcz30_2, hcz30_3, hcz30_4, hcz30_5, hcz30_6, hcz30_7, hfz30_0, hfz30_1, hfz30_2, hfz30_3, hfz30_4, hfz30_5, hfz30_6, hfz30_7⟩ := zCE BK104.out))
      go_ret
      exact ⟨by first | rfl | (simp [errW_none, errW_some] <;> rfl) | (simp [*, errW_none, errW_some] <;> rfl), by repeat (first | (with_reducible first | exact HB.out | apply below_alloc | apply zAC | apply zAD | refine zAI ?_ GE103.out | refine zAI ?_ GE104.out) | exact HB.out)⟩
    ·rw [if_neg c6] at H
     have c6b0 : (a0_3 == a1_3) = false := beq_eq_false_iff_ne.mpr c6
     have c6b1 : (a0_3 != a1_3) = true := bne_iff_ne.mpr c6
     obtain rfl := Option.some.inj H
     go_enter Tryz.func34, Tryz.ntmps34
     go_wp2_with (first | ((with_reducible refine zAb (N := 2) rfl ?_); refine zA6 ?hg (N := 2) ?hd (cs := #[.int .u32 a0_0, .int .u64 a0_1, .int .u32 a0_2, .int .u32 a0_3, .int .u32 a0_4, .int .u32 a0_5, .int .u32 a0_6, .slice A0_7 l0_7.length c0_7]) (t := 26) ?hr ?_; (case hd => rfl); (case hg => rfl); (case hr => first | (go_simp; done) | (go_simp; rfl)); intro gb103 hg w31 hbox hb; have n0_ := Aside0.mk (zAX (by repeat (first | (with_reducible first | exact HB.out | apply below_alloc | apply zAC | apply zAD) | exact HB.out)) hb); have n1_ := Aside0.mk (hbox); have n2_ := Aside0.mk ((by rw [hg]; exact (zAO (by repeat (first | (with_reducible first | exact HB.out | apply below_alloc | apply zAC | apply zAD) | exact HB.out))) : w.heap.size ≤ gb103)); have n3_ := Aside0.mk ((by rw [hg]; exact (zAO (by repeat (first | (with_reducible first | exact HB.out | apply below_alloc | apply zAC | apply zAD) | exact HB.out))) : w.heap.size ≤ gb103)); clear HB; have HB := n0_; have BK103 := n1_; have GW103 := n2_; have GE103 := n3_; clear n0_ n1_ n2_ n3_; clear hb hbox hg) | ((with_reducible refine zAb (N := 3) rfl ?_); refine zA6 ?hg (N := 3) ?hd (cs := #[.int .u32 a1_0, .int .u64 a1_1, .int .u32 a1_2, .int .u32 a1_3, .int .u32 a1_4, .int .u32 a1_5, .int .u32 a1_6, .slice A1_7 l1_7.length c1_7]) (t := 26) ?hr ?_; (case hd => rfl); (case hg => rfl); (case hr => first | (go_simp; done) | (go_simp; rfl)); intro gb104 hg w32 hbox hb; have n0_ := Aside0.mk (blk_below (g := gb103) (o := .cells #[.int .u32 a0_0, .int .u64 a0_1, .int .u32 a0_2, .int .u32 a0_3, .int .u32 a0_4, .int .u32 a0_5, .int .u32 a0_6, .slice A0_7 l0_7.length c0_7] 26 (0, 0)) (by (with_reducible repeat (first | refine zAF ?_ _ | refine zAG ?_ | refine zAE ?_ _)); exact BK103.out) hb); have n1_ := Aside0.mk (zAX (by repeat (first | (with_reducible first | exact HB.out | apply below_alloc | apply zAC | apply zAD | refine zAI ?_ GE103.out) | exact HB.out)) hb); have n2_ := Aside0.mk (hbox); have n3_ := Aside0.mk ((by rw [hg]; exact (zAO (by repeat (first | (with_reducible first | exact HB.out | apply below_alloc | apply zAC | apply zAD | refine zAI ?_ GE103.out) | exact HB.out))) : w.heap.size ≤ gb104)); have n4_ := Aside0.mk ((by rw [hg]; exact (zAO (by repeat (first | (with_reducible first | exact HB.out | apply below_alloc | apply zAC | apply zAD | refine zAI ?_ GE103.out) | exact HB.out))) : w.heap.size ≤ gb104)); have n5_ := Aside0.mk ((by rw [hg]; exact Nat.ne_of_lt (zAp (g := gb103) (o := .cells #[.int .u32 a0_0, .int .u64 a0_1, .int .u32 a0_2, .int .u32 a0_3, .int .u32 a0_4, .int .u32 a0_5, .int .u32 a0_6, .slice A0_7 l0_7.length c0_7] 26 (0, 0)) (by (with_reducible repeat (first | refine zAF ?_ _ | refine zAG ?_ | refine zAE ?_ _)); exact BK103.out)) : gb103 ≠ gb104)); have n6_ := Aside0.mk ((by rw [hg]; exact Nat.ne_of_gt (zAp (g := gb103) (o := .cells #[.int .u32 a0_0, .int .u64 a0_1, .int .u32 a0_2, .int .u32 a0_3, .int .u32 a0_4, .int .u32 a0_5, .int .u32 a0_6, .slice A0_7 l0_7.length c0_7] 26 (0, 0)) (by (with_reducible repeat (first | refine zAF ?_ _ | refine zAG ?_ | refine zAE ?_ _)); exact BK103.out)) : gb104 ≠ gb103)); clear BK103; clear HB; have BK103 := n0_; have HB := n1_; have BK104 := n2_; have GW104 := n3_; have GE104 := n4_; have NB103_104 := n5_; have NB104_103 := n6_; clear n0_ n1_ n2_ n3_ n4_ n5_ n6_; clear hb hbox hg; have hnb33 := NB103_104.out; have hnc33 := NB104_103.out; obtain ⟨hcz34_0, hcz34_1, hcz34_2, hcz34_3, hcz34_4, hcz34_5, hcz34_6, hcz34_7, hfz34_0, hfz34_1, hfz34_2, hfz34_3, hfz34_4, hfz34_5, hfz34_6, hfz34_7⟩ := zCE BK103.out; obtain ⟨hcz35_0, hcz35_1, hcz35_2, hcz35_3, hcz35_4, hcz35_5, hcz35_6, hcz35_7, hfz35_0, hfz35_1, hfz35_2, hfz35_3, hfz35_4, hfz35_5, hfz35_6, hfz35_7⟩ := zCE BK104.out))
     go_ret
     exact ⟨by first | rfl | (simp [errW_none, errW_some] <;> rfl) | (simp [*, errW_none, errW_some] <;> rfl), by repeat (first | (with_reducible first | exact HB.out | apply below_alloc | apply zAC | apply zAD | refine zAI ?_ GE103.out | refine zAI ?_ GE104.out) | exact HB.out)⟩
   ·rw [if_neg c5] at H
    have c5b0 : (a0_2 == a1_2) = false := beq_eq_false_iff_ne.mpr c5
    have c5b1 : (a0_2 != a1_2) = true := bne_iff_ne.mpr c5
    obtain rfl := Option.some.inj H
    go_enter Tryz.func34, Tryz.ntmps34
    go_wp2_with (first | ((with_reducible refine zAb (N := 2) rfl ?_); refine zA6 ?hg (N := 2) ?hd (cs := #[.int .u32 a0_0, .int .u64 a0_1, .int .u32 a0_2, .int .u32 a0_3, .int .u32 a0_4, .int .u32 a0_5, .int .u32 a0_6, .slice A0_7 l0_7.length c0_7]) (t := 26) ?hr ?_; (case hd => rfl); (case hg => rfl); (case hr => first | (go_simp; done) | (go_simp; rfl)); intro gb103 hg w36 hbox hb; have n0_ := Aside0.mk (zAX (by repeat (first | (with_reducible first | exact HB.out | apply below_alloc | apply zAC | apply zAD) | exact HB.out)) hb); have n1_ := Aside0.mk (hbox); have n2_ := Aside0.mk ((by rw [hg]; exact (zAO (by repeat (first | (with_reducible first | exact HB.out | apply below_alloc | apply zAC | apply zAD) | exact HB.out))) : w.heap.size ≤ gb103)); have n3_ := Aside0.mk ((by rw [hg]; exact (zAO (by repeat (first | (with_reducible first | exact HB.out | apply below_alloc | apply zAC | apply zAD) | exact HB.out))) : w.heap.size ≤ gb103)); clear HB; have HB := n0_; have BK103 := n1_; have GW103 := n2_; have GE103 := n3_; clear n0_ n1_ n2_ n3_; clear hb hbox hg) | ((with_reducible refine zAb (N := 3) rfl ?_); refine zA6 ?hg (N := 3) ?hd (cs := #[.int .u32 a1_0, .int .u64 a1_1, .int .u32 a1_2, .int .u32 a1_3, .int .u32 a1_4, .int .u32 a1_5, .int .u32 a1_6, .slice A1_7 l1_7.length c1_7]) (t := 26) ?hr ?_; (case hd => rfl); (case hg => rfl); (case hr => first | (go_simp; done) | (go_simp; rfl)); intro gb104 hg w37 hbox hb; have n0_ := Aside0.mk (blk_below (g := gb103) (o := .cells #[.int .u32 a0_0, .int .u64 a0_1, .int .u32 a0_2, .int .u32 a0_3, .int .u32 a0_4, .int .u32 a0_5, .int .u32 a0_6, .slice A0_7 l0_7.length c0_7] 26 (0, 0)) (by (with_reducible repeat (first | refine zAF ?_ _ | refine zAG ?_ | refine zAE ?_ _)); exact BK103.out) hb); have n1_ := Aside0.mk (zAX (by repeat (first | (with_reducible first | exact HB.out | apply below_alloc | apply zAC | apply zAD | refine zAI ?_ GE103.out) | exact HB.out)) hb); have n2_ := Aside0.mk (hbox); have n3_ := Aside0.mk ((by rw [hg]; exact (zAO (by repeat (first | (with_reducible first | exact HB.out | apply below_alloc | apply zAC | apply zAD | refine zAI ?_ GE103.out) | exact HB.out))) : w.heap.size ≤ gb104)); have n4_ := Aside0.mk ((by rw [hg]; exact (zAO (by repeat (first | (with_reducible first | exact HB.out | apply below_alloc | apply zAC | apply zAD | refine zAI ?_ GE103.out) | exact HB.out))) : w.heap.size ≤ gb104)); have n5_ := Aside0.mk ((by rw [hg]; exact Nat.ne_of_lt (zAp (g := gb103) (o := .cells #[.int .u32 a0_0, .int .u64 a0_1, .int .u32 a0_2, .int .u32 a0_3, .int .u32 a0_4, .int .u32 a0_5, .int .u32 a0_6, .slice A0_7 l0_7.length c0_7] 26 (0, 0)) (by (with_reducible repeat (first | refine zAF ?_ _ | refine zAG ?_ | refine zAE ?_ _)); exact BK103.out)) : gb103 ≠ gb104)); have n6_ := Aside0.mk ((by rw [hg]; exact Nat.ne_of_gt (zAp (g := gb103) (o := .cells #[.int .u32 a0_0, .int .u64 a0_1, .int .u32 a0_2, .int .u32 a0_3, .int .u32 a0_4, .int .u32 a0_5, .int .u32 a0_6, .slice A0_7 l0_7.length c0_7] 26 (0, 0)) (by (with_reducible repeat (first | refine zAF ?_ _ | refine zAG ?_ | refine zAE ?_ _)); exact BK103.out)) : gb104 ≠ gb103)); clear BK103; clear HB; have BK103 := n0_; have HB := n1_; have BK104 := n2_; have GW104 := n3_; have GE104 := n4_; have NB103_104 := n5_; have NB104_103 := n6_; clear n0_ n1_ n2_ n3_ n4_ n5_ n6_; clear hb hbox hg; have hnb38 := NB103_104.out; have hnc38 := NB104_103.out; obtain ⟨hcz39_0, hcz39_1, hcz39_2, hcz39_3, hcz39_4, hcz39_5, hcz39_6, hcz39_7, hfz39_0, hfz39_1, hfz39_2, hfz39_3, hfz39_4, hfz39_5, hfz39_6, hfz39_7⟩ := zCE BK103.out; obtain ⟨hcz40_0, hcz40_1, hcz40_2, hcz40_3, hcz40_4, hcz40_5, hcz40_6, hcz40_7, hfz40_0, hfz40_1, hfz40_2, hfz40_3, hfz40_4, hfz40_5, hfz40_6, hfz40_7⟩ := zCE BK104.out))
    go_ret
    exact ⟨by first | rfl | (simp [errW_none, errW_some] <;> rfl) | (simp [*, errW_none, errW_some] <;> rfl), by repeat (first | (with_reducible first | exact HB.out | apply below_alloc | apply zAC | apply zAD | refine zAI ?_ GE103.out | refine zAI ?_ GE104.out) | exact HB.out)⟩
  ·rw [if_neg c4] at H
   have c4b0 : (a0_1 == a1_1) = false := beq_eq_false_iff_ne.mpr c4
   have c4b1 : (a0_1 != a1_1) = true := bne_iff_ne.mpr c4
   obtain rfl := Option.some.inj H
   go_enter Tryz.func34, Tryz.ntmps34
   go_wp2_with (first | ((with_reducible refine zAb (N := 2) rfl ?_); refine zA6 ?hg (N := 2) ?hd (cs := #[.int .u32 a0_0, .int .u64 a0_1, .int .u32 a0_2, .int .u32 a0_3, .int .u32 a0_4, .int .u32 a0_5, .int .u32 a0_6, .slice A0_7 l0_7.length c0_7]) (t := 26) ?hr ?_; (case hd => rfl); (case hg => rfl); (case hr => first | (go_simp; done) | (go_simp; rfl)); intro gb103 hg w41 hbox hb; have n0_ := Aside0.mk (zAX (by repeat (first | (with_reducible first | exact HB.out | apply below_alloc | apply zAC | apply zAD) | exact HB.out)) hb); have n1_ := Aside0.mk (hbox); have n2_ := Aside0.mk ((by rw [hg]; exact (zAO (by repeat (first | (with_reducible first | exact HB.out | apply below_alloc | apply zAC | apply zAD) | exact HB.out))) : w.heap.size ≤ gb103)); have n3_ := Aside0.mk ((by rw [hg]; exact (zAO (by repeat (first | (with_reducible first | exact HB.out | apply below_alloc | apply zAC | apply zAD) | exact HB.out))) : w.heap.size ≤ gb103)); clear HB; have HB := n0_; have BK103 := n1_; have GW103 := n2_; have GE103 := n3_; clear n0_ n1_ n2_ n3_; clear hb hbox hg) | ((with_reducible refine zAb (N := 3) rfl ?_); refine zA6 ?hg (N := 3) ?hd (cs := #[.int .u32 a1_0, .int .u64 a1_1, .int .u32 a1_2, .int .u32 a1_3, .int .u32 a1_4, .int .u32 a1_5, .int .u32 a1_6, .slice A1_7 l1_7.length c1_7]) (t := 26) ?hr ?_; (case hd => rfl); (case hg => rfl); (case hr => first | (go_simp; done) | (go_simp; rfl)); intro gb104 hg w42 hbox hb; have n0_ := Aside0.mk (blk_below (g := gb103) (o := .cells #[.int .u32 a0_0, .int .u64 a0_1, .int .u32 a0_2, .int .u32 a0_3, .int .u32 a0_4, .int .u32 a0_5, .int .u32 a0_6, .slice A0_7 l0_7.length c0_7] 26 (0, 0)) (by (with_reducible repeat (first | refine zAF ?_ _ | refine zAG ?_ | refine zAE ?_ _)); exact BK103.out) hb); have n1_ := Aside0.mk (zAX (by repeat (first | (with_reducible first | exact HB.out | apply below_alloc | apply zAC | apply zAD | refine zAI ?_ GE103.out) | exact HB.out)) hb); have n2_ := Aside0.mk (hbox); have n3_ := Aside0.mk ((by rw [hg]; exact (zAO (by repeat (first | (with_reducible first | exact HB.out | apply below_alloc | apply zAC | apply zAD | refine zAI ?_ GE103.out) | exact HB.out))) : w.heap.size ≤ gb104)); have n4_ := Aside0.mk ((by rw [hg]; exact (zAO (by repeat (first | (with_reducible first | exact HB.out | apply below_alloc | apply zAC | apply zAD | refine zAI ?_ GE103.out) | exact HB.out))) : w.heap.size ≤ gb104)); have n5_ := Aside0.mk ((by rw [hg]; exact Nat.ne_of_lt (zAp (g := gb103) (o := .cells #[.int .u32 a0_0, .int .u64 a0_1, .int .u32 a0_2, .int .u32 a0_3, .int .u32 a0_4, .int .u32 a0_5, .int .u32 a0_6, .slice A0_7 l0_7.length c0_7] 26 (0, 0)) (by (with_reducible repeat (first | refine zAF ?_ _ | refine zAG ?_ | refine zAE ?_ _)); exact BK103.out)) : gb103 ≠ gb104)); have n6_ := Aside0.mk ((by rw [hg]; exact Nat.ne_of_gt (zAp (g := gb103) (o := .cells #[.int .u32 a0_0, .int .u64 a0_1, .int .u32 a0_2, .int .u32 a0_3, .int .u32 a0_4, .int .u32 a0_5, .int .u32 a0_6, .slice A0_7 l0_7.length c0_7] 26 (0, 0)) (by (with_reducible repeat (first | refine zAF ?_ _ | refine zAG ?_ | refine zAE ?_ _)); exact BK103.out)) : gb104 ≠ gb103)); clear BK103; clear HB; have BK103 := n0_; have HB := n1_; have BK104 := n2_; have GW104 := n3_; have GE104 := n4_; have NB103_104 := n5_; have NB104_103 := n6_; clear n0_ n1_ n2_ n3_ n4_ n5_ n6_; clear hb hbox hg; have hnb43 := NB103_104.out; have hnc43 := NB104_103.out; obtain ⟨hcz44_0, hcz44_1, hcz44_2, hcz44_3, hcz44_4, hcz44_5, hcz44_6, hcz44_7, hfz44_0, hfz44_1, hfz44_2, hfz44_3, hfz44_4, hfz44_5, hfz44_6, hfz44_7⟩ := zCE BK103.out; obtain ⟨hcz45_0, hcz45_1, hcz45_2, hcz45_3, hcz45_4, hcz45_5, hcz45_6, hcz45_7, hfz45_0, hfz45_1, hfz45_2, hfz45_3, hfz45_4, hfz45_5, hfz45_6, hfz45_7⟩ := zCE BK104.out))
   go_ret
   exact ⟨by first | rfl | (simp [errW_none, errW_some] <;> rfl) | (simp [*, errW_none, errW_some] <;> rfl), by repeat (first | (with_reducible first | exact HB.out | apply below_alloc | apply zAC | apply zAD | refine zAI ?_ GE103.out | refine zAI ?_ GE104.out) | exact HB.out)⟩
 ·rw [if_neg c3] at H
  have c3b0 : (a0_0 == a1_0) = false := beq_eq_false_iff_ne.mpr c3
  have c3b1 : (a0_0 != a1_0) = true := bne_iff_ne.mpr c3
  obtain rfl := Option.some.inj H
  go_enter Tryz.func34, Tryz.ntmps34
  go_wp2_with (first | ((with_reducible refine zAb (N := 2) rfl ?_); refine zA6 ?hg (N := 2) ?hd (cs := #[.int .u32 a0_0, .int .u64 a0_1, .int .u32 a0_2, .int .u32 a0_3, .int .u32 a0_4, .int .u32 a0_5, .int .u32 a0_6, .slice A0_7 l0_7.length c0_7]) (t := 26) ?hr ?_; (case hd => rfl); (case hg => rfl); (case hr => first | (go_simp; done) | (go_simp; rfl)); intro gb103 hg w46 hbox hb; have n0_ := Aside0.mk (zAX (by repeat (first | (with_reducible first | exact HB.out | apply below_alloc | apply zAC | apply zAD) | exact HB.out)) hb); have n1_ := Aside0.mk (hbox); have n2_ := Aside0.mk ((by rw [hg]; exact (zAO (by repeat (first | (with_reducible first | exact HB.out | apply below_alloc | apply zAC | apply zAD) | exact HB.out))) : w.heap.size ≤ gb103)); have n3_ := Aside0.mk ((by rw [hg]; exact (zAO (by repeat (first | (with_reducible first | exact HB.out | apply below_alloc | apply zAC | apply zAD) | exact HB.out))) : w.heap.size ≤ gb103)); clear HB; have HB := n0_; have BK103 := n1_; have GW103 := n2_; have GE103 := n3_; clear n0_ n1_ n2_ n3_; clear hb hbox hg) | ((with_reducible refine zAb (N := 3) rfl ?_); refine zA6 ?hg (N := 3) ?hd (cs := #[.int .u32 a1_0, .int .u64 a1_1, .int .u32 a1_2, .int .u32 a1_3, .int .u32 a1_4, .int .u32 a1_5, .int .u32 a1_6, .slice A1_7 l1_7.length c1_7]) (t := 26) ?hr ?_; (case hd => rfl); (case hg => rfl); (case hr => first | (go_simp; done) | (go_simp; rfl)); intro gb104 hg w47 hbox hb; have n0_ := Aside0.mk (blk_below (g := gb103) (o := .cells #[.int .u32 a0_0, .int .u64 a0_1, .int .u32 a0_2, .int .u32 a0_3, .int .u32 a0_4, .int .u32 a0_5, .int .u32 a0_6, .slice A0_7 l0_7.length c0_7] 26 (0, 0)) (by (with_reducible repeat (first | refine zAF ?_ _ | refine zAG ?_ | refine zAE ?_ _)); exact BK103.out) hb); have n1_ := Aside0.mk (zAX (by repeat (first | (with_reducible first | exact HB.out | apply below_alloc | apply zAC | apply zAD | refine zAI ?_ GE103.out) | exact HB.out)) hb); have n2_ := Aside0.mk (hbox); have n3_ := Aside0.mk ((by rw [hg]; exact (zAO (by repeat (first | (with_reducible first | exact HB.out | apply below_alloc | apply zAC | apply zAD | refine zAI ?_ GE103.out) | exact HB.out))) : w.heap.size ≤ gb104)); have n4_ := Aside0.mk ((by rw [hg]; exact (zAO (by repeat (first | (with_reducible first | exact HB.out | apply below_alloc | apply zAC | apply zAD | refine zAI ?_ GE103.out) | exact HB.out))) : w.heap.size ≤ gb104)); have n5_ := Aside0.mk ((by rw [hg]; exact Nat.ne_of_lt (zAp (g := gb103) (o := .cells #[.int .u32 a0_0, .int .u64 a0_1, .int .u32 a0_2, .int .u32 a0_3, .int .u32 a0_4, .int .u32 a0_5, .int .u32 a0_6, .slice A0_7 l0_7.length c0_7] 26 (0, 0)) (by (with_reducible repeat (first | refine zAF ?_ _ | refine zAG ?_ | refine zAE ?_ _)); exact BK103.out)) : gb103 ≠ gb104)); have n6_ := Aside0.mk ((by rw [hg]; exact Nat.ne_of_gt (zAp (g := gb103) (o := .cells #[.int .u32 a0_0, .int .u64 a0_1, .int .u32 a0_2, .int .u32 a0_3, .int .u32 a0_4, .int .u32 a0_5, .int .u32 a0_6, .slice A0_7 l0_7.length c0_7] 26 (0, 0)) (by (with_reducible repeat (first | refine zAF ?_ _ | refine zAG ?_ | refine zAE ?_ _)); exact BK103.out)) : gb104 ≠ gb103)); clear BK103; clear HB; have BK103 := n0_; have HB := n1_; have BK104 := n2_; have GW104 := n3_; have GE104 := n4_; have NB103_104 := n5_; have NB104_103 := n6_; clear n0_ n1_ n2_ n3_ n4_ n5_ n6_; clear hb hbox hg; have hnb48 := NB103_104.out; have hnc48 := NB104_103.out; obtain ⟨hcz49_0, hcz49_1, hcz49_2, hcz49_3, hcz49_4, hcz49_5, hcz49_6, hcz49_7, hfz49_0, hfz49_1, hfz49_2, hfz49_3, hfz49_4, hfz49_5, hfz49_6, hfz49_7⟩ := zCE BK103.out; obtain ⟨hcz50_0, hcz50_1, hcz50_2, hcz50_3, hcz50_4, hcz50_5, hcz50_6, hcz50_7, hfz50_0, hfz50_1, hfz50_2, hfz50_3, hfz50_4, hfz50_5, hfz50_6, hfz50_7⟩ := zCE BK104.out))
  go_ret
  exact ⟨by first | rfl | (simp [errW_none, errW_some] <;> rfl) | (simp [*, errW_none, errW_some] <;> rfl), by repeat (first | (with_reducible first | exact HB.out | apply below_alloc | apply zAC | apply zAD | refine zAI ?_ GE103.out | refine zAI ?_ GE104.out) | exact HB.out)⟩
end Go.Proofs.YtgnficcjnijdbaaGreat.PS
namespace Go.Proofs.YtgnficcjnijdbaaGreat.PF
open Go.Proofs.YtgnficcjnijdbaaGreat.KK Go.RowKit Go.Proofs.YtgnficcjnijdbaaGreatW.PrintWords Go.Proofs.YtgnficcjnijdbaaGreatW.PrintLast Go.Proofs.YtgnficcjnijdbaaGreatW.PrintMore
attribute [local go_sem] zCH zCI zCf zCg zBn zBo zCJ zCK
set_option linter.unusedVariables false
set_option linter.unusedSimpArgs false
def errW : Option Int → Value
 | none => .nilIface
 | some c => .iface 0 (.int .i64 c)
theorem errW_none : errW none = .nilIface := rfl
theorem errW_some (c : Int) : errW (some c) = .iface 0 (.int .i64 c) := rfl
end Go.Proofs.YtgnficcjnijdbaaGreat.PF
namespace Go.Proofs.YtgnficcjnijdbaaGreat.PF
open Go.Proofs.YtgnficcjnijdbaaGreat.KK Go.RowKit Go.Proofs.YtgnficcjnijdbaaGreatW.PrintWords Go.Proofs.YtgnficcjnijdbaaGreatW.PrintLast Go.Proofs.YtgnficcjnijdbaaGreatW.PrintMore
attribute [local go_sem] zCH zCI zCf zCg zBn zBo zCJ zCK
set_option linter.unusedVariables false
set_option linter.unusedSimpArgs false
theorem zMn {w : World} {g : Nat} {t : TypeId} {v0 v1 v2 v3 v4 v5 v6 v7 : Value} (h : w.heap[g]? = some (.cells #[v0, v1, v2, v3, v4, v5, v6, v7] t (0, 0))) :
  w.cell? ⟨g, 0, none⟩ = some v0 ∧ w.cell? ⟨g, 1, none⟩ = some v1 ∧ w.cell? ⟨g, 2, none⟩ = some v2 ∧ w.cell? ⟨g, 3, none⟩ = some v3 ∧ w.cell? ⟨g, 4, none⟩ = some v4 ∧ w.cell? ⟨g, 5, none⟩ = some v5 ∧ w.cell? ⟨g, 6, none⟩ = some v6 ∧ w.cell? ⟨g, 7, none⟩ = some v7 ∧ w.frozen? ⟨g, 0, none⟩ = false ∧ w.frozen? ⟨g, 1, none⟩ = false ∧ w.frozen? ⟨g, 2, none⟩ = false ∧ w.frozen? ⟨g, 3, none⟩ = false ∧ w.frozen? ⟨g, 4, none⟩ = false ∧ w.frozen? ⟨g, 5, none⟩ = false ∧ w.frozen? ⟨g, 6, none⟩ = false ∧ w.frozen? ⟨g, 7, none⟩ = false :=
 ⟨(zAR h 0).trans rfl, (zAR h 1).trans rfl, (zAR h 2).trans rfl, (zAR h 3).trans rfl, (zAR h 4).trans rfl, (zAR h 5).trans rfl, (zAR h 6).trans rfl, (zAR h 7).trans rfl, zAN h 0, zAN h 1, zAN h 2, zAN h 3, zAN h 4, zAN h 5, zAN h 6, zAN h 7⟩
theorem zDx {w : World} {g : Nat} {t : TypeId} {v0 v1 v2 v3 v4 v5 v6 v7 v8 v9 : Value} (h : w.heap[g]? = some (.cells #[v0, v1, v2, v3, v4, v5, v6, v7, v8, v9] t (0, 0))) :
  w.cell? ⟨g, 0, none⟩ = some v0 ∧ w.cell? ⟨g, 1, none⟩ = some v1 ∧ w.cell? ⟨g, 2, none⟩ = some v2 ∧ w.cell? ⟨g, 3, none⟩ = some v3 ∧ w.cell? ⟨g, 4, none⟩ = some v4 ∧ w.cell? ⟨g, 5, none⟩ = some v5 ∧ w.cell? ⟨g, 6, none⟩ = some v6 ∧ w.cell? ⟨g, 7, none⟩ = some v7 ∧ w.cell? ⟨g, 8, none⟩ = some v8 ∧ w.cell? ⟨g, 9, none⟩ = some v9 ∧ w.frozen? ⟨g, 0, none⟩ = false ∧ w.frozen? ⟨g, 1, none⟩ = false ∧ w.frozen? ⟨g, 2, none⟩ = false ∧ w.frozen? ⟨g, 3, none⟩ = false ∧ w.frozen? ⟨g, 4, none⟩ = false ∧ w.frozen? ⟨g, 5, none⟩ = false ∧ w.frozen? ⟨g, 6, none⟩ = false ∧ w.frozen? ⟨g, 7, none⟩ = false ∧ w.frozen? ⟨g, 8, none⟩ = false ∧ w.frozen? ⟨g, 9, none⟩ = false :=
 ⟨(zAR h 0).trans rfl, (zAR h 1).trans rfl, (zAR h 2).trans rfl, (zAR h 3).trans rfl, (zAR h 4).trans rfl, (zAR h 5).trans rfl, (zAR h 6).trans rfl, (zAR h 7).trans rfl, (zAR h 8).trans rfl, (zAR h 9).trans rfl, zAN h 0, zAN h 1, zAN h 2, zAN h 3, zAN h 4, zAN h 5, zAN h 6, zAN h 7, zAN h 8, zAN h 9⟩
def laws_zzFits7.f (a0_0 : ByteArray) (a0_1 : ByteArray) : Option (Bool) := if (a0_0.size : Int) > 2147483647 then (some false) else (if (a0_1.size : Int) > 2147483647 then (some false) else (some true))
set_option maxRecDepth 100000 in
theorem laws_zzFits7.calls (a0_0 : ByteArray) (a0_1 : ByteArray) (r : Bool) (w : World) (h : laws_zzFits7.f a0_0 a0_1 = some r) :
  Calls Tryz.prog 44 #[.agg #[.string a0_0, .string a0_1]] w fun e w' => e = .returned (.bool r) ∧ Below w.heap.size w w' := by
 have hu52 := Tryz.underlying52
 have HB := Aside0.mk (Below.refl w.heap.size w)
 have H : (if (a0_0.size : Int) > 2147483647 then (some false) else (if (a0_1.size : Int) > 2147483647 then (some false) else (some true))) = some r := h
 clear h
 by_cases c2 : (a0_0.size : Int) > 2147483647
 ·rw [if_pos c2] at H
  have c2b0 : decide (2147483647 < (a0_0.size : Int)) = true := decide_eq_true c2
  have c2b1 : decide (2147483647 < a0_0.size) = true := decide_eq_true (by omega)
  clear c2
  obtain rfl := Option.some.inj H
  go_enter Tryz.func44, Tryz.ntmps44
  go_wp2_with (first | ((with_reducible refine zAb (N := 1) rfl ?_); refine zA6 ?hg (N := 1) ?hd (cs := #[.string a0_0, .string a0_1]) (t := 52) ?hr ?_; (case hd => rfl); (case hg => rfl); (case hr => first | (go_simp; done) | (go_simp; rfl)); intro gb101 hg w3 hbox hb; have n0_ := Aside0.mk (zAX (by repeat (first | (with_reducible first | exact HB.out | apply below_alloc | apply zAC | apply zAD) | exact HB.out)) hb); have n1_ := Aside0.mk (hbox); have n2_ := Aside0.mk ((by rw [hg]; exact (zAO (by repeat (first | (with_reducible first | exact HB.out | apply below_alloc | apply zAC | apply zAD) | exact HB.out))) : w.heap.size ≤ gb101)); have n3_ := Aside0.mk ((by rw [hg]; exact (zAO (by repeat (first | (with_reducible first | exact HB.out | apply below_alloc | apply zAC | apply zAD) | exact HB.out))) : w.heap.size ≤ gb101)); clear HB; have HB := n0_; have BK101 := n1_; have GW101 := n2_; have GE101 := n3_; clear n0_ n1_ n2_ n3_; clear hb hbox hg; have hcz4_0 : w3.cell? ⟨gb101, 0, none⟩ = some (.string a0_0) := (zAR BK101.out 0).trans rfl; have hcz4_1 : w3.cell? ⟨gb101, 1, none⟩ = some (.string a0_1) := (zAR BK101.out 1).trans rfl; have hfz4_0 := zAN BK101.out 0; have hfz4_1 := zAN BK101.out 1))
  go_ret
  exact ⟨by first | rfl | (simp [errW_none, errW_some] <;> rfl) | (simp [*, errW_none, errW_some] <;> rfl), by repeat (first | (with_reducible first | exact HB.out | apply below_alloc | apply zAC | apply zAD | refine zAI ?_ GE101.out) | exact HB.out)⟩
 ·rw [if_neg c2] at H
  have c2b0 : decide (2147483647 < (a0_0.size : Int)) = false := decide_eq_false c2
  have c2b1 : decide (2147483647 < a0_0.size) = false := decide_eq_false (by omega)
  clear c2
  by_cases c5 : (a0_1.size : Int) > 2147483647
  ·rw [if_pos c5] at H
   have c5b0 : decide (2147483647 < (a0_1.size : Int)) = true := decide_eq_true c5
   have c5b1 : decide (2147483647 < a0_1.size) = true := decide_eq_true (by omega)
   clear c5
   obtain rfl := Option.some.inj H
   go_enter Tryz.func44, Tryz.ntmps44
   go_wp2_with (first | ((with_reducible refine zAb (N := 1) rfl ?_); refine zA6 ?hg (N := 1) ?hd (cs := #[.string a0_0, .string a0_1]) (t := 52) ?hr ?_; (case hd => rfl); (case hg => rfl); (case hr => first | (go_simp; done) | (go_simp; rfl)); intro gb101 hg w6 hbox hb; have n0_ := Aside0.mk (zAX (by repeat (first | (with_reducible first | exact HB.out | apply below_alloc | apply zAC | apply zAD) | exact HB.out)) hb); have n1_ := Aside0.mk (hbox); have n2_ := Aside0.mk ((by rw [hg]; exact (zAO (by repeat (first | (with_reducible first | exact HB.out | apply below_alloc | apply zAC | apply zAD) | exact HB.out))) : w.heap.size ≤ gb101)); have n3_ := Aside0.mk ((by rw [hg]; exact (zAO (by repeat (first | (with_reducible first | exact HB.out | apply below_alloc | apply zAC | apply zAD) | exact HB.out))) : w.heap.size ≤ gb101)); clear HB; have HB := n0_; have BK101 := n1_; have GW101 := n2_; have GE101 := n3_; clear n0_ n1_ n2_ n3_; clear hb hbox hg; have hcz7_0 : w6.cell? ⟨gb101, 0, none⟩ = some (.string a0_0) := (zAR BK101.out 0).trans rfl; have hcz7_1 : w6.cell? ⟨gb101, 1, none⟩ = some (.string a0_1) := (zAR BK101.out 1).trans rfl; have hfz7_0 := zAN BK101.out 0; have hfz7_1 := zAN BK101.out 1))
   go_ret
   exact ⟨by first | rfl | (simp [errW_none, errW_some] <;> rfl) | (simp [*, errW_none, errW_some] <;> rfl), by repeat (first | (with_reducible first | exact HB.out | apply below_alloc | apply zAC | apply zAD | refine zAI ?_ GE101.out) | exact HB.out)⟩
  ·rw [if_neg c5] at H
   have c5b0 : decide (2147483647 < (a0_1.size : Int)) = false := decide_eq_false c5
   have c5b1 : decide (2147483647 < a0_1.size) = false := decide_eq_false (by omega)
   clear c5
   obtain rfl := Option.some.inj H
   go_enter Tryz.func44, Tryz.ntmps44
   go_wp2_with (first | ((with_reducible refine zAb (N := 1) rfl ?_); refine zA6 ?hg (N := 1) ?hd (cs := #[.string a0_0, .string a0_1]) (t := 52) ?hr ?_; (case hd => rfl); (case hg => rfl); (case hr => first | (go_simp; done) | (go_simp; rfl)); intro gb101 hg w8 hbox hb; have n0_ := Aside0.mk (zAX (by repeat (first | (with_reducible first | exact HB.out | apply below_alloc | apply zAC | apply zAD) | exact HB.out)) hb); have n1_ := Aside0.mk (hbox); have n2_ := Aside0.mk ((by rw [hg]; exact (zAO (by repeat (first | (with_reducible first | exact HB.out | apply below_alloc | apply zAC | apply zAD) | exact HB.out))) : w.heap.size ≤ gb101)); have n3_ := Aside0.mk ((by rw [hg]; exact (zAO (by repeat (first | (with_reducible first | exact HB.out | apply below_alloc | apply zAC | apply zAD) | exact HB.out))) : w.heap.size ≤ gb101)); clear HB; have HB := n0_; have BK101 := n1_; have GW101 := n2_; have GE101 := n3_; clear n0_ n1_ n2_ n3_; clear hb hbox hg; have hcz9_0 : w8.cell? ⟨gb101, 0, none⟩ = some (.string a0_0) := (zAR BK101.out 0).trans rfl; have hcz9_1 : w8.cell? ⟨gb101, 1, none⟩ = some (.string a0_1) := (zAR BK101.out 1).trans rfl; have hfz9_0 := zAN BK101.out 0; have hfz9_1 := zAN BK101.out 1))
   go_ret
   exact ⟨by first | rfl | (simp [errW_none, errW_some] <;> rfl) | (simp [*, errW_none, errW_some] <;> rfl), by repeat (first | (with_reducible first | exact HB.out | apply below_alloc | apply zAC | apply zAD | refine zAI ?_ GE101.out) | exact HB.out)⟩
def laws_zzFits6.l0 : Nat → List (S52) → Int → Int → Option (Bool)
 | 0, _, _, _ => none
 | k + 1, x8, x9, x10 => if x10 < x9 then (if 0 ≤ x10 then (if x10 < (x8.length : Int) then ((laws_zzFits7.f ((zA7 x8 x10).f0) ((zA7 x8 x10).f1)).bind fun t104 => (if t104 = true then (laws_zzFits6.l0 k x8 x9 (wrap64 (x10 + 1))) else (some false))) else (none)) else (none)) else (some true)
def laws_zzFits6.f (k : Nat) (l0 : List (S52)) : Option (Bool) := if (l0.length : Int) > 2147483647 then (some false) else (laws_zzFits6.l0 k l0 (l0.length : Int) 0)
set_option maxRecDepth 100000 in
theorem laws_zzFits6.calls (k : Nat) (A0 : Option Addr) (c0 : Nat) (l0 : List (S52)) (r : Bool) (w : World) (hr0 : Kd.C k52 w A0 l0.length l0) (hc0 : l0.length ≤ c0) (h : laws_zzFits6.f k l0 = some r) :
  Calls Tryz.prog 19 #[.slice A0 l0.length c0] w fun e w' => e = .returned (.bool r) ∧ Below w.heap.size w w' := by
 have hu52 := Tryz.underlying52
 have HR0 := Aside0.mk hr0
 have HC0 := Aside0.mk hc0
 clear hr0 hc0
 have HB := Aside0.mk (Below.refl w.heap.size w)
 have H : (if (l0.length : Int) > 2147483647 then (some false) else (laws_zzFits6.l0 k l0 (l0.length : Int) 0)) = some r := h
 clear h
 by_cases c2 : (l0.length : Int) > 2147483647
 ·rw [if_pos c2] at H
  have c2b0 : decide (2147483647 < (l0.length : Int)) = true := decide_eq_true c2
  have c2b1 : decide (2147483647 < l0.length) = true := decide_eq_true (by omega)
  clear c2
  obtain rfl := Option.some.inj H
  go_enter Tryz.func19, Tryz.ntmps19
  go_wp2
  go_ret
  exact ⟨by first | rfl | (simp [errW_none, errW_some] <;> rfl) | (simp [*, errW_none, errW_some] <;> rfl), by repeat (first | (with_reducible first | exact HB.out | apply below_alloc | apply zAC | apply zAD) | exact HB.out)⟩
 ·rw [if_neg c2] at H
  have c2b0 : decide (2147483647 < (l0.length : Int)) = false := decide_eq_false c2
  have c2b1 : decide (2147483647 < l0.length) = false := decide_eq_false (by omega)
  clear c2
  have H' := Aside0.mk H
  clear H
  go_enter Tryz.func19, Tryz.ntmps19
  go_wp2
  go_loopg [10] k (fun kq v10 w' => ∃ (x10_1 : Int), v10 = .int .i64 x10_1 ∧ Aside0 (laws_zzFits6.l0 kq l0 (l0.length : Int) x10_1 = some r) ∧ Aside0 (kq ≤ k) ∧ Aside0 (Below w.heap.size w w'))
  case atStart => exact ⟨(0), (by first | rfl | (simp; done) | (simp [*]; done)), H', ⟨Nat.le_refl _⟩, ⟨by repeat (first | (with_reducible first | exact HB.out | apply below_alloc | apply zAC | apply zAD) | exact HB.out)⟩⟩
  case round =>
   clear H'
   try clear c1
   try clear c2
   try clear c2b0
   try clear c2b1
   try clear p2
   obtain ⟨x10_1, rfl, HA, HK1, HB⟩ := hrel
   cases gk with
   | zero => exact absurd HA.out (by simp [laws_zzFits6.l0])
   | succ k1 =>
    have H := HA.out
    clear HA
    simp only [laws_zzFits6.l0] at H
    by_cases c3 : x10_1 < (l0.length : Int)
    ·rw [if_pos c3] at H
     have c3b0 : decide (x10_1 < (l0.length : Int)) = true := decide_eq_true c3
     clear c3
     by_cases c4 : 0 ≤ x10_1
     ·rw [if_pos c4] at H
      have c4b0 : decide (0 ≤ x10_1) = true := decide_eq_true c4
      clear c4
      by_cases c5 : x10_1 < (l0.length : Int)
      ·rw [if_pos c5] at H
       have c5b0 : decide (x10_1 < (l0.length : Int)) = true := decide_eq_true c5
       clear c5
       replace H := Option.bind_eq_some_iff.mp H
       obtain ⟨t104, A60, H⟩ := H
       replace H : (if t104 = true then (laws_zzFits6.l0 k1 l0 (l0.length : Int) (wrap64 (x10_1 + 1))) else (some false)) = some r := H
       have A6 := Aside0.mk A60
       clear A60
       by_cases c7 : t104 = true
       ·subst c7
        have H1 : (laws_zzFits6.l0 k1 l0 (l0.length : Int) (wrap64 (x10_1 + 1))) = some r := by rw [if_pos rfl] at H; exact H
        clear H
        have H := H1
        clear H1
        have H' := Aside0.mk H
        clear H
        have p102 : 0 ≤ (x10_1 : Int) := of_decide_eq_true (by first | (with_reducible assumption) | assumption)
        have q102 : x10_1 < (l0.length : Int) := of_decide_eq_true (by first | (with_reducible assumption) | assumption)
        obtain ⟨ad102, e102, hx102_0, hx102_1⟩ := zCL HR0.out x10_1 p102 q102
        cases e102
        replace hx102_0 := (HB.out.cell (World.block_lt_of_cell? w _ hx102_0)).trans hx102_0
        replace hx102_1 := (HB.out.cell (World.block_lt_of_cell? w _ hx102_1)).trans hx102_1
        replace p102 := eq_true p102
        replace q102 := eq_true q102
        go_wp2_with (first | ((with_reducible refine zAb (N := 4) rfl ?_); refine zA6 ?hg (N := 4) ?hd (cs := #[.string (⟨#[]⟩ : ByteArray), .string (⟨#[]⟩ : ByteArray)]) (t := 52) ?hr ?_; (case hd => rfl); (case hg => rfl); (case hr => first | (go_simp; done) | (go_simp; rfl)); intro gb103 hg w8 hbox hb; have n0_ := Aside0.mk (zAX (by repeat (first | (with_reducible first | exact HB.out | apply below_alloc | apply zAC | apply zAD) | exact HB.out)) hb); have n1_ := Aside0.mk (hbox); have n2_ := Aside0.mk ((by rw [hg]; exact (zAO (by repeat (first | (with_reducible first | exact HB.out | apply below_alloc | apply zAC | apply zAD) | exact HB.out))) : w.heap.size ≤ gb103)); have n3_ := Aside0.mk ((by rw [hg]; exact (zAO (by repeat (first | (with_reducible first | exact HB.out | apply below_alloc | apply zAC | apply zAD) | exact HB.out))) : w.heap.size ≤ gb103)); clear HB; have HB := n0_; have BK103 := n1_; have GW103 := n2_; have GE103 := n3_; clear n0_ n1_ n2_ n3_; clear hb hbox hg; have hcz9_0 : w8.cell? ⟨gb103, 0, none⟩ = some (.string (⟨#[]⟩ : ByteArray)) := (zAR BK103.out 0).trans rfl; have hcz9_1 : w8.cell? ⟨gb103, 1, none⟩ = some (.string (⟨#[]⟩ : ByteArray)) := (zAR BK103.out 1).trans rfl; have hfz9_0 := zAN BK103.out 0; have hfz9_1 := zAN BK103.out 1) | ((with_reducible refine zBZ (f := 44) rfl ?_); refine zCu (some 15) rfl rfl Tryz.func44 (by kernel_rfl) rfl #[.agg #[.string ((zA7 l0 x10_1).f0), .string ((zA7 l0 x10_1).f1)]] rfl (by (try simp only [List.map_toArray, List.map_cons, List.map_nil]); first | done | rfl | (simp only [List.length_drop, List.length_take]; rfl)) ?_; (with_reducible refine (laws_zzFits7.calls ((zA7 l0 x10_1).f0) ((zA7 l0 x10_1).f1) true _ A6.out).mono ?_); rintro e w10 ⟨rfl, hb⟩; refine ⟨_, rfl, ?_⟩; have n0_ := Aside0.mk (blk_below (g := gb103) (o := .cells #[.string ((zA7 l0 x10_1).f0), .string ((zA7 l0 x10_1).f1)] 52 (0, 0)) (by (with_reducible repeat (first | refine zAF ?_ _ | refine zAG ?_ | refine zAE ?_ _)); refine zA0 (cs := #[.string ((zA7 l0 x10_1).f0), .string (⟨#[]⟩ : ByteArray)]) ?_ 1 _ rfl; (with_reducible repeat (first | refine zAF ?_ _ | refine zAG ?_ | refine zAE ?_ _)); refine zA0 (cs := #[.string (⟨#[]⟩ : ByteArray), .string (⟨#[]⟩ : ByteArray)]) ?_ 0 _ rfl; (with_reducible repeat (first | refine zAF ?_ _ | refine zAG ?_ | refine zAE ?_ _)); exact BK103.out) hb); have n1_ := Aside0.mk (zAX (by repeat (first | (with_reducible first | exact HB.out | apply below_alloc | apply zAC | apply zAD | refine zAI ?_ GE103.out) | exact HB.out)) hb); clear BK103; clear HB; have BK103 := n0_; have HB := n1_; clear n0_ n1_; (try clear hb); (try clear hb2); (try clear hk); (try clear hi)))
        go_roundg k1
        case measure => have := HK1.out; omega
        case rel => exact ⟨(wrap64 (x10_1 + 1)), (by first | rfl | (simp; done) | (simp [*]; done)), H', ⟨by have := HK1.out; omega⟩, ⟨by repeat (first | (with_reducible first | exact HB.out | apply below_alloc | apply zAC | apply zAD | refine zAI ?_ GE103.out) | exact HB.out)⟩⟩
       ·replace c7 := Bool.eq_false_iff.mpr c7
        subst c7
        have H1 : (some false) = some r := by rw [if_neg (show ¬ (false = true) by decide)] at H; exact H
        clear H
        have H := H1
        clear H1
        obtain rfl := Option.some.inj H
        have p102 : 0 ≤ (x10_1 : Int) := of_decide_eq_true (by first | (with_reducible assumption) | assumption)
        have q102 : x10_1 < (l0.length : Int) := of_decide_eq_true (by first | (with_reducible assumption) | assumption)
        obtain ⟨ad102, e102, hx102_0, hx102_1⟩ := zCL HR0.out x10_1 p102 q102
        cases e102
        replace hx102_0 := (HB.out.cell (World.block_lt_of_cell? w _ hx102_0)).trans hx102_0
        replace hx102_1 := (HB.out.cell (World.block_lt_of_cell? w _ hx102_1)).trans hx102_1
        replace p102 := eq_true p102
        replace q102 := eq_true q102
        go_wp2_with (first | ((with_reducible refine zAb (N := 4) rfl ?_); refine zA6 ?hg (N := 4) ?hd (cs := #[.string (⟨#[]⟩ : ByteArray), .string (⟨#[]⟩ : ByteArray)]) (t := 52) ?hr ?_; (case hd => rfl); (case hg => rfl); (case hr => first | (go_simp; done) | (go_simp; rfl)); intro gb103 hg w11 hbox hb; have n0_ := Aside0.mk (zAX (by repeat (first | (with_reducible first | exact HB.out | apply below_alloc | apply zAC | apply zAD) | exact HB.out)) hb); have n1_ := Aside0.mk (hbox); have n2_ := Aside0.mk ((by rw [hg]; exact (zAO (by repeat (first | (with_reducible first | exact HB.out | apply below_alloc | apply zAC | apply zAD) | exact HB.out))) : w.heap.size ≤ gb103)); have n3_ := Aside0.mk ((by rw [hg]; exact (zAO (by repeat (first | (with_reducible first | exact HB.out | apply below_alloc | apply zAC | apply zAD) | exact HB.out))) : w.heap.size ≤ gb103)); clear HB; have HB := n0_; have BK103 := n1_; have GW103 := n2_; have GE103 := n3_; clear n0_ n1_ n2_ n3_; clear hb hbox hg; have hcz12_0 : w11.cell? ⟨gb103, 0, none⟩ = some (.string (⟨#[]⟩ : ByteArray)) := (zAR BK103.out 0).trans rfl; have hcz12_1 : w11.cell? ⟨gb103, 1, none⟩ = some (.string (⟨#[]⟩ : ByteArray)) := (zAR BK103.out 1).trans rfl; have hfz12_0 := zAN BK103.out 0; have hfz12_1 := zAN BK103.out 1) | ((with_reducible refine zBZ (f := 44) rfl ?_); refine zCu (some 15) rfl rfl Tryz.func44 (by kernel_rfl) rfl #[.agg #[.string ((zA7 l0 x10_1).f0), .string ((zA7 l0 x10_1).f1)]] rfl (by (try simp only [List.map_toArray, List.map_cons, List.map_nil]); first | done | rfl | (simp only [List.length_drop, List.length_take]; rfl)) ?_; (with_reducible refine (laws_zzFits7.calls ((zA7 l0 x10_1).f0) ((zA7 l0 x10_1).f1) false _ A6.out).mono ?_); rintro e w13 ⟨rfl, hb⟩; refine ⟨_, rfl, ?_⟩; have n0_ := Aside0.mk (blk_below (g := gb103) (o := .cells #[.string ((zA7 l0 x10_1).f0), .string ((zA7 l0 x10_1).f1)] 52 (0, 0)) (by (with_reducible repeat (first | refine zAF ?_ _ | refine zAG ?_ | refine zAE ?_ _)); refine zA0 (cs := #[.string ((zA7 l0 x10_1).f0), .string (⟨#[]⟩ : ByteArray)]) ?_ 1 _ rfl; (with_reducible repeat (first | refine zAF ?_ _ | refine zAG ?_ | refine zAE ?_ _)); refine zA0 (cs := #[.string (⟨#[]⟩ : ByteArray), .string (⟨#[]⟩ : ByteArray)]) ?_ 0 _ rfl; (with_reducible repeat (first | refine zAF ?_ _ | refine zAG ?_ | refine zAE ?_ _)); exact BK103.out) hb); have n1_ := Aside0.mk (zAX (by repeat (first | (with_reducible first | exact HB.out | apply below_alloc | apply zAC | apply zAD | refine zAI ?_ GE103.out) | exact HB.out)) hb); clear BK103; clear HB; have BK103 := n0_; have HB := n1_; clear n0_ n1_; (try clear hb); (try clear hb2); (try clear hk); (try clear hi)))
        go_ret
        exact ⟨by first | rfl | (simp [errW_none, errW_some] <;> rfl) | (simp [*, errW_none, errW_some] <;> rfl), by repeat (first | (with_reducible first | exact HB.out | apply below_alloc | apply zAC | apply zAD | refine zAI ?_ GE103.out) | exact HB.out)⟩
      ·rw [if_neg c5] at H
       exact absurd H (by simp)
     ·rw [if_neg c4] at H
      exact absurd H (by simp)
    ·rw [if_neg c3] at H
     have c3b0 : decide (x10_1 < (l0.length : Int)) = false := decide_eq_false c3
     clear c3
     obtain rfl := Option.some.inj H
     go_wp2
     go_ret
     exact ⟨by first | rfl | (simp [errW_none, errW_some] <;> rfl) | (simp [*, errW_none, errW_some] <;> rfl), by repeat (first | (with_reducible first | exact HB.out | apply below_alloc | apply zAC | apply zAD) | exact HB.out)⟩
def laws_zzFits5.f (k : Nat) (a0_0 : Int) (a0_1 : Int) (a0_2 : Int) (a0_3 : Int) (a0_4 : Int) (a0_5 : Int) (a0_6 : Int) (l0_7 : List (S52)) : Option (Bool) := (laws_zzFits6.f k l0_7).bind fun t106 => (if t106 = true then (some true) else (some false))
set_option maxRecDepth 100000 in
theorem laws_zzFits5.calls (k : Nat) (a0_0 : Int) (a0_1 : Int) (a0_2 : Int) (a0_3 : Int) (a0_4 : Int) (a0_5 : Int) (a0_6 : Int) (A0_7 : Option Addr) (c0_7 : Nat) (l0_7 : List (S52)) (r : Bool) (w : World) (hr0_7 : Kd.C k52 w A0_7 l0_7.length l0_7) (hc0_7 : l0_7.length ≤ c0_7) (h : laws_zzFits5.f k a0_0 a0_1 a0_2 a0_3 a0_4 a0_5 a0_6 l0_7 = some r) :
  Calls Tryz.prog 17 #[.agg #[.int .u32 a0_0, .int .u64 a0_1, .int .u32 a0_2, .int .u32 a0_3, .int .u32 a0_4, .int .u32 a0_5, .int .u32 a0_6, .slice A0_7 l0_7.length c0_7]] w fun e w' => e = .returned (.bool r) ∧ Below w.heap.size w w' := by
 have hu26 := Tryz.underlying26
 have HR0_7 := Aside0.mk hr0_7
 have HC0_7 := Aside0.mk hc0_7
 clear hr0_7 hc0_7
 have HB := Aside0.mk (Below.refl w.heap.size w)
 have H : ((laws_zzFits6.f k l0_7).bind fun t106 => (if t106 = true then (some true) else (some false))) = some r := h
 clear h
 replace H := Option.bind_eq_some_iff.mp H
 obtain ⟨t106, A20, H⟩ := H
 replace H : (if t106 = true then (some true) else (some false)) = some r := H
 have A2 := Aside0.mk A20
 clear A20
 by_cases c3 : t106 = true
 ·subst c3
  have H1 : (some true) = some r := by rw [if_pos rfl] at H; exact H
  clear H
  have H := H1
  clear H1
  obtain rfl := Option.some.inj H
  go_enter Tryz.func17, Tryz.ntmps17
  go_wp2_with (first | ((with_reducible refine zAb (N := 1) rfl ?_); refine zA6 ?hg (N := 1) ?hd (cs := #[.int .u32 a0_0, .int .u64 a0_1, .int .u32 a0_2, .int .u32 a0_3, .int .u32 a0_4, .int .u32 a0_5, .int .u32 a0_6, .slice A0_7 l0_7.length c0_7]) (t := 26) ?hr ?_; (case hd => rfl); (case hg => rfl); (case hr => first | (go_simp; done) | (go_simp; rfl)); intro gb105 hg w4 hbox hb; have n0_ := Aside0.mk (zAX (by repeat (first | (with_reducible first | exact HB.out | apply below_alloc | apply zAC | apply zAD) | exact HB.out)) hb); have n1_ := Aside0.mk (hbox); have n2_ := Aside0.mk ((by rw [hg]; exact (zAO (by repeat (first | (with_reducible first | exact HB.out | apply below_alloc | apply zAC | apply zAD) | exact HB.out))) : w.heap.size ≤ gb105)); have n3_ := Aside0.mk ((by rw [hg]; exact (zAO (by repeat (first | (with_reducible first | exact HB.out | apply below_alloc | apply zAC | apply zAD) | exact HB.out))) : w.heap.size ≤ gb105)); clear HB; have HB := n0_; have BK105 := n1_; have GW105 := n2_; have GE105 := n3_; clear n0_ n1_ n2_ n3_; clear hb hbox hg; obtain ⟨hcz5_0, hcz5_1, hcz5_2, hcz5_3, hcz5_4, hcz5_5, hcz5_6, hcz5_7, hfz5_0, hfz5_1, hfz5_2, hfz5_3, hfz5_4, hfz5_5, hfz5_6, hfz5_7⟩ := zMn BK105.out) | ((with_reducible refine zBZ (f := 19) rfl ?_); refine zCu (some 5) rfl rfl Tryz.func19 (by kernel_rfl) rfl #[.slice A0_7 l0_7.length c0_7] rfl (by (try simp only [List.map_toArray, List.map_cons, List.map_nil]); first | done | rfl | (simp only [List.length_drop, List.length_take]; rfl)) ?_; (with_reducible refine (laws_zzFits6.calls k _ _ l0_7 true _ ?side1 ?side2 A2.out).mono ?_); (case side1 => repeat (first | exact (Kd.C_below HR0_7.out HB.out) | (with_reducible refine Kd.C_alloc ?_ _) | (with_reducible refine Kd.C_drewN ?_ _) | (with_reducible refine Kd.C_drew ?_))); (case side2 => exact HC0_7.out); rintro e w6 ⟨rfl, hb⟩; refine ⟨_, rfl, ?_⟩; have n0_ := Aside0.mk (blk_below (g := gb105) (o := .cells #[.int .u32 a0_0, .int .u64 a0_1, .int .u32 a0_2, .int .u32 a0_3, .int .u32 a0_4, .int .u32 a0_5, .int .u32 a0_6, .slice A0_7 l0_7.length c0_7] 26 (0, 0)) (by (with_reducible repeat (first | refine zAF ?_ _ | refine zAG ?_ | refine zAE ?_ _)); exact BK105.out) hb); have n1_ := Aside0.mk (zAX (by repeat (first | (with_reducible first | exact HB.out | apply below_alloc | apply zAC | apply zAD | refine zAI ?_ GE105.out) | exact HB.out)) hb); clear BK105; clear HB; have BK105 := n0_; have HB := n1_; clear n0_ n1_; (try clear hb); (try clear hb2); (try clear hk); (try clear hi)))
  go_ret
  exact ⟨by first | rfl | (simp [errW_none, errW_some] <;> rfl) | (simp [*, errW_none, errW_some] <;> rfl), by repeat (first | (with_reducible first | exact HB.out | apply below_alloc | apply zAC | apply zAD | refine zAI ?_ GE105.out) | exact HB.out)⟩
 ·replace c3 := Bool.eq_false_iff.mpr c3
  subst c3
  have H1 : (some false) = some r := by rw [if_neg (show ¬ (false = true) by decide)] at H; exact H
  clear H
  have H := H1
  clear H1
  obtain rfl := Option.some.inj H
  go_enter Tryz.func17, Tryz.ntmps17
  go_wp2_with (first | ((with_reducible refine zAb (N := 1) rfl ?_); refine zA6 ?hg (N := 1) ?hd (cs := #[.int .u32 a0_0, .int .u64 a0_1, .int .u32 a0_2, .int .u32 a0_3, .int .u32 a0_4, .int .u32 a0_5, .int .u32 a0_6, .slice A0_7 l0_7.length c0_7]) (t := 26) ?hr ?_; (case hd => rfl); (case hg => rfl); (case hr => first | (go_simp; done) | (go_simp; rfl)); intro gb105 hg w7 hbox hb; have n0_ := Aside0.mk (zAX (by repeat (first | (with_reducible first | exact HB.out | apply below_alloc | apply zAC | apply zAD) | exact HB.out)) hb); have n1_ := Aside0.mk (hbox); have n2_ := Aside0.mk ((by rw [hg]; exact (zAO (by repeat (first | (with_reducible first | exact HB.out | apply below_alloc | apply zAC | apply zAD) | exact HB.out))) : w.heap.size ≤ gb105)); have n3_ := Aside0.mk ((by rw [hg]; exact (zAO (by repeat (first | (with_reducible first | exact HB.out | apply below_alloc | apply zAC | apply zAD) | exact HB.out))) : w.heap.size ≤ gb105)); clear HB; have HB := n0_; have BK105 := n1_; have GW105 := n2_; have GE105 := n3_; clear n0_ n1_ n2_ n3_; clear hb hbox hg; obtain ⟨hcz8_0, hcz8_1, hcz8_2, hcz8_3, hcz8_4, hcz8_5, hcz8_6, hcz8_7, hfz8_0, hfz8_1, hfz8_2, hfz8_3, hfz8_4, hfz8_5, hfz8_6, hfz8_7⟩ := zMn BK105.out) | ((with_reducible refine zBZ (f := 19) rfl ?_); refine zCu (some 5) rfl rfl Tryz.func19 (by kernel_rfl) rfl #[.slice A0_7 l0_7.length c0_7] rfl (by (try simp only [List.map_toArray, List.map_cons, List.map_nil]); first | done | rfl | (simp only [List.length_drop, List.length_take]; rfl)) ?_; (with_reducible refine (laws_zzFits6.calls k _ _ l0_7 false _ ?side1 ?side2 A2.out).mono ?_); (case side1 => repeat (first | exact (Kd.C_below HR0_7.out HB.out) | (with_reducible refine Kd.C_alloc ?_ _) | (with_reducible refine Kd.C_drewN ?_ _) | (with_reducible refine Kd.C_drew ?_))); (case side2 => exact HC0_7.out); rintro e w9 ⟨rfl, hb⟩; refine ⟨_, rfl, ?_⟩; have n0_ := Aside0.mk (blk_below (g := gb105) (o := .cells #[.int .u32 a0_0, .int .u64 a0_1, .int .u32 a0_2, .int .u32 a0_3, .int .u32 a0_4, .int .u32 a0_5, .int .u32 a0_6, .slice A0_7 l0_7.length c0_7] 26 (0, 0)) (by (with_reducible repeat (first | refine zAF ?_ _ | refine zAG ?_ | refine zAE ?_ _)); exact BK105.out) hb); have n1_ := Aside0.mk (zAX (by repeat (first | (with_reducible first | exact HB.out | apply below_alloc | apply zAC | apply zAD | refine zAI ?_ GE105.out) | exact HB.out)) hb); clear BK105; clear HB; have BK105 := n0_; have HB := n1_; clear n0_ n1_; (try clear hb); (try clear hb2); (try clear hk); (try clear hi)))
  go_ret
  exact ⟨by first | rfl | (simp [errW_none, errW_some] <;> rfl) | (simp [*, errW_none, errW_some] <;> rfl), by repeat (first | (with_reducible first | exact HB.out | apply below_alloc | apply zAC | apply zAD | refine zAI ?_ GE105.out) | exact HB.out)⟩
def laws_zzFits9.f (k : Nat) (a0_0 : ByteArray) (a0_1 : ByteArray) (a0_2 : Int) (a0_3 : Int) (a0_4 : Int) (a0_5 : Int) (a0_6 : Int) (a0_7 : Int) (a0_8 : Int) (l0_9 : List (S52)) : Option (Bool) := if (a0_0.size : Int) > 2147483647 then (some false) else (if (a0_1.size : Int) > 2147483647 then (some false) else ((laws_zzFits5.f k a0_2 a0_3 a0_4 a0_5 a0_6 a0_7 a0_8 l0_9).bind fun t108 => (if t108 = true then (some true) else (some false))))
set_option maxRecDepth 100000 in
theorem laws_zzFits9.calls (k : Nat) (a0_0 : ByteArray) (a0_1 : ByteArray) (a0_2 : Int) (a0_3 : Int) (a0_4 : Int) (a0_5 : Int) (a0_6 : Int) (a0_7 : Int) (a0_8 : Int) (A0_9 : Option Addr) (c0_9 : Nat) (l0_9 : List (S52)) (r : Bool) (w : World) (hr0_9 : Kd.C k52 w A0_9 l0_9.length l0_9) (hc0_9 : l0_9.length ≤ c0_9) (h : laws_zzFits9.f k a0_0 a0_1 a0_2 a0_3 a0_4 a0_5 a0_6 a0_7 a0_8 l0_9 = some r) :
  Calls Tryz.prog 43 #[.agg #[.string a0_0, .string a0_1, .int .u32 a0_2, .int .u64 a0_3, .int .u32 a0_4, .int .u32 a0_5, .int .u32 a0_6, .int .u32 a0_7, .int .u32 a0_8, .slice A0_9 l0_9.length c0_9]] w fun e w' => e = .returned (.bool r) ∧ Below w.heap.size w w' := by
 have hu54 := Tryz.underlying54
 have hu26 := Tryz.underlying26
 have HR0_9 := Aside0.mk hr0_9
 have HC0_9 := Aside0.mk hc0_9
 clear hr0_9 hc0_9
 have HB := Aside0.mk (Below.refl w.heap.size w)
 have H : (if (a0_0.size : Int) > 2147483647 then (some false) else (if (a0_1.size : Int) > 2147483647 then (some false) else ((laws_zzFits5.f k a0_2 a0_3 a0_4 a0_5 a0_6 a0_7 a0_8 l0_9).bind fun t108 => (if t108 = true then (some true) else (some false))))) = some r := h
 clear h
 by_cases c2 : (a0_0.size : Int) > 2147483647
 ·rw [if_pos c2] at H
  have c2b0 : decide (2147483647 < (a0_0.size : Int)) = true := decide_eq_true c2
  have c2b1 : decide (2147483647 < a0_0.size) = true := decide_eq_true (by omega)
  clear c2
  obtain rfl := Option.some.inj H
  go_enter Tryz.func43, Tryz.ntmps43
  go_wp2_with (first | ((with_reducible refine zAb (N := 1) rfl ?_); refine zA6 ?hg (N := 1) ?hd (cs := #[.string a0_0, .string a0_1, .int .u32 a0_2, .int .u64 a0_3, .int .u32 a0_4, .int .u32 a0_5, .int .u32 a0_6, .int .u32 a0_7, .int .u32 a0_8, .slice A0_9 l0_9.length c0_9]) (t := 54) ?hr ?_; (case hd => rfl); (case hg => rfl); (case hr => first | (go_simp; done) | (go_simp; rfl)); intro gb107 hg w3 hbox hb; have n0_ := Aside0.mk (zAX (by repeat (first | (with_reducible first | exact HB.out | apply below_alloc | apply zAC | apply zAD) | exact HB.out)) hb); have n1_ := Aside0.mk (hbox); have n2_ := Aside0.mk ((by rw [hg]; exact (zAO (by repeat (first | (with_reducible first | exact HB.out | apply below_alloc | apply zAC | apply zAD) | exact HB.out))) : w.heap.size ≤ gb107)); have n3_ := Aside0.mk ((by rw [hg]; exact (zAO (by repeat (first | (with_reducible first | exact HB.out | apply below_alloc | apply zAC | apply zAD) | exact HB.out))) : w.heap.size ≤ gb107)); clear HB; have HB := n0_; have BK107 := n1_; have GW107 := n2_; have GE107 := n3_; clear n0_ n1_ n2_ n3_; clear hb hbox hg; obtain ⟨hcz4_0, hcz4_1, hcz4_2, hcz4_3, hcz4_4, hcz4_5, hcz4_6, hcz4_7, hcz4_8, hcz4_9, hfz4_0, hfz4_1, hfz4_2, hfz4_3, hfz4_4, hfz4_5, hfz4_6, hfz4_7, hfz4_8, hfz4_9⟩ := zDx BK107.out))
  go_ret
  exact ⟨by first | rfl | (simp [errW_none, errW_some] <;> rfl) | (simp [*, errW_none, errW_some] <;> rfl), by repeat (first | (with_reducible first | exact HB.out | apply below_alloc | apply zAC | apply zAD | refine zAI ?_ GE107.out) | exact HB.out)⟩
 ·rw [if_neg c2] at H
  have c2b0 : decide (2147483647 < (a0_0.size : Int)) = false := decide_eq_false c2
  have c2b1 : decide (2147483647 < a0_0.size) = false := decide_eq_false (by omega)
  clear c2
  by_cases c5 : (a0_1.size : Int) > 2147483647
  ·rw [if_pos c5] at H
   have c5b0 : decide (2147483647 < (a0_1.size : Int)) = true := decide_eq_true c5
   have c5b1 : decide (2147483647 < a0_1.size) = true := decide_eq_true (by omega)
   clear c5
   obtain rfl := Option.some.inj H
   go_enter Tryz.func43, Tryz.ntmps43
   go_wp2_with (first | ((with_reducible refine zAb (N := 1) rfl ?_); refine zA6 ?hg (N := 1) ?hd (cs := #[.string a0_0, .string a0_1, .int .u32 a0_2, .int .u64 a0_3, .int .u32 a0_4, .int .u32 a0_5, .int .u32 a0_6, .int .u32 a0_7, .int .u32 a0_8, .slice A0_9 l0_9.length c0_9]) (t := 54) ?hr ?_; (case hd => rfl); (case hg => rfl); (case hr => first | (go_simp; done) | (go_simp; rfl)); intro gb107 hg w6 hbox hb; have n0_ := Aside0.mk (zAX (by repeat (first | (with_reducible first | exact HB.out | apply below_alloc | apply zAC | apply zAD) | exact HB.out)) hb); have n1_ := Aside0.mk (hbox); have n2_ := Aside0.mk ((by rw [hg]; exact (zAO (by repeat (first | (with_reducible first | exact HB.out | apply below_alloc | apply zAC | apply zAD) | exact HB.out))) : w.heap.size ≤ gb107)); have n3_ := Aside0.mk ((by rw [hg]; exact (zAO (by repeat (first | (with_reducible first | exact HB.out | apply below_alloc | apply zAC | apply zAD) | exact HB.out))) : w.heap.size ≤ gb107)); clear HB; have HB := n0_; have BK107 := n1_; have GW107 := n2_; have GE107 := n3_; clear n0_ n1_ n2_ n3_; clear hb hbox hg; obtain ⟨hcz7_0, hcz7_1, hcz7_2, hcz7_3, hcz7_4, hcz7_5, hcz7_6, hcz7_7, hcz7_8, hcz7_9, hfz7_0, hfz7_1, hfz7_2, hfz7_3, hfz7_4, hfz7_5, hfz7_6, hfz7_7, hfz7_8, hfz7_9⟩ := zDx BK107.out))
   go_ret
   exact ⟨by first | rfl | (simp [errW_none, errW_some] <;> rfl) | (simp [*, errW_none, errW_some] <;> rfl), by repeat (first | (with_reducible first | exact HB.out | apply below_alloc | apply zAC | apply zAD | refine zAI ?_ GE107.out) | exact HB.out)⟩
  ·rw [if_neg c5] at H
   have c5b0 : decide (2147483647 < (a0_1.size : Int)) = false := decide_eq_false c5
   have c5b1 : decide (2147483647 < a0_1.size) = false := decide_eq_false (by omega)
   clear c5
   replace H := Option.bind_eq_some_iff.mp H
   obtain ⟨t108, A80, H⟩ := H
   replace H : (if t108 = true then (some true) else (some false)) = some r := H
   have A8 := Aside0.mk A80
   clear A80
   by_cases c9 : t108 = true
   ·subst c9
    have H1 : (some true) = some r := by rw [if_pos rfl] at H; exact H
    clear H
    have H := H1
    clear H1
    obtain rfl := Option.some.inj H
    go_enter Tryz.func43, Tryz.ntmps43
    go_wp2_with (first | ((with_reducible refine zAb (N := 1) rfl ?_); refine zA6 ?hg (N := 1) ?hd (cs := #[.string a0_0, .string a0_1, .int .u32 a0_2, .int .u64 a0_3, .int .u32 a0_4, .int .u32 a0_5, .int .u32 a0_6, .int .u32 a0_7, .int .u32 a0_8, .slice A0_9 l0_9.length c0_9]) (t := 54) ?hr ?_; (case hd => rfl); (case hg => rfl); (case hr => first | (go_simp; done) | (go_simp; rfl)); intro gb107 hg w10 hbox hb; have n0_ := Aside0.mk (zAX (by repeat (first | (with_reducible first | exact HB.out | apply below_alloc | apply zAC | apply zAD) | exact HB.out)) hb); have n1_ := Aside0.mk (hbox); have n2_ := Aside0.mk ((by rw [hg]; exact (zAO (by repeat (first | (with_reducible first | exact HB.out | apply below_alloc | apply zAC | apply zAD) | exact HB.out))) : w.heap.size ≤ gb107)); have n3_ := Aside0.mk ((by rw [hg]; exact (zAO (by repeat (first | (with_reducible first | exact HB.out | apply below_alloc | apply zAC | apply zAD) | exact HB.out))) : w.heap.size ≤ gb107)); clear HB; have HB := n0_; have BK107 := n1_; have GW107 := n2_; have GE107 := n3_; clear n0_ n1_ n2_ n3_; clear hb hbox hg; obtain ⟨hcz11_0, hcz11_1, hcz11_2, hcz11_3, hcz11_4, hcz11_5, hcz11_6, hcz11_7, hcz11_8, hcz11_9, hfz11_0, hfz11_1, hfz11_2, hfz11_3, hfz11_4, hfz11_5, hfz11_6, hfz11_7, hfz11_8, hfz11_9⟩ := zDx BK107.out) | ((with_reducible refine zBZ (f := 17) rfl ?_); refine zCu (some 13) rfl rfl Tryz.func17 (by kernel_rfl) rfl #[.agg #[.int .u32 a0_2, .int .u64 a0_3, .int .u32 a0_4, .int .u32 a0_5, .int .u32 a0_6, .int .u32 a0_7, .int .u32 a0_8, .slice A0_9 l0_9.length c0_9]] rfl (by (try simp only [List.map_toArray, List.map_cons, List.map_nil]); first | done | rfl | (simp only [List.length_drop, List.length_take]; rfl)) ?_; (with_reducible refine (laws_zzFits5.calls k a0_2 a0_3 a0_4 a0_5 a0_6 a0_7 a0_8 _ _ l0_9 true _ ?side1 ?side2 A8.out).mono ?_); (case side1 => repeat (first | exact (Kd.C_below HR0_9.out HB.out) | (with_reducible refine Kd.C_alloc ?_ _) | (with_reducible refine Kd.C_drewN ?_ _) | (with_reducible refine Kd.C_drew ?_))); (case side2 => exact HC0_9.out); rintro e w12 ⟨rfl, hb⟩; refine ⟨_, rfl, ?_⟩; have n0_ := Aside0.mk (blk_below (g := gb107) (o := .cells #[.string a0_0, .string a0_1, .int .u32 a0_2, .int .u64 a0_3, .int .u32 a0_4, .int .u32 a0_5, .int .u32 a0_6, .int .u32 a0_7, .int .u32 a0_8, .slice A0_9 l0_9.length c0_9] 54 (0, 0)) (by (with_reducible repeat (first | refine zAF ?_ _ | refine zAG ?_ | refine zAE ?_ _)); exact BK107.out) hb); have n1_ := Aside0.mk (zAX (by repeat (first | (with_reducible first | exact HB.out | apply below_alloc | apply zAC | apply zAD | refine zAI ?_ GE107.out) | exact HB.out)) hb); clear BK107; clear HB; have BK107 := n0_; have HB := n1_; clear n0_ n1_; (try clear hb); (try clear hb2); (try clear hk); (try clear hi)))
    go_ret
    exact ⟨by first | rfl | (simp [errW_none, errW_some] <;> rfl) | (simp [*, errW_none, errW_some] <;> rfl), by repeat (first | (with_reducible first | exact HB.out | apply below_alloc | apply zAC | apply zAD | refine zAI ?_ GE107.out) | exact HB.out)⟩
   ·replace c9 := Bool.eq_false_iff.mpr c9
    subst c9
    have H1 : (some false) = some r := by rw [if_neg (show ¬ (false = true) by decide)] at H; exact H
    clear H
    have H := H1
    clear H1
    obtain rfl := Option.some.inj H
    go_enter Tryz.func43, Tryz.ntmps43
    go_wp2_with (first | ((with_reducible refine zAb (N := 1) rfl ?_); refine zA6 ?hg (N := 1) ?hd (cs := #[.string a0_0, .string a0_1, .int .u32 a0_2, .int .u64 a0_3, .int .u32 a0_4, .int .u32 a0_5, .int .u32 a0_6, .int .u32 a0_7, .int .u32 a0_8, .slice A0_9 l0_9.length c0_9]) (t := 54) ?hr ?_; (case hd => rfl); (case hg => rfl); (case hr => first | (go_simp; done) | (go_simp; rfl)); intro gb107 hg w13 hbox hb; have n0_ := Aside0.mk (zAX (by repeat (first | (with_reducible first | exact HB.out | apply below_alloc | apply zAC | apply zAD) | exact HB.out)) hb); have n1_ := Aside0.mk (hbox); have n2_ := Aside0.mk ((by rw [hg]; exact (zAO (by repeat (first | (with_reducible first | exact HB.out | apply below_alloc | apply zAC | apply zAD) | exact HB.out))) : w.heap.size ≤ gb107)); have n3_ := Aside0.mk ((by rw [hg]; exact (zAO (by repeat (first | (with_reducible first | exact HB.out | apply below_alloc | apply zAC | apply zAD) | exact HB.out))) : w.heap.size ≤ gb107)); clear HB; have HB := n0_; have BK107 := n1_; have GW107 := n2_; have GE107 := n3_; clear n0_ n1_ n2_ n3_; clear hb hbox hg; obtain ⟨hcz14_0, hcz14_1, hcz14_2, hcz14_3, hcz14_4, hcz14_5, hcz14_6, hcz14_7, hcz14_8, hcz14_9, hfz14_0, hfz14_1, hfz14_2, hfz14_3, hfz14_4, hfz14_5, hfz14_6, hfz14_7, hfz14_8, hfz14_9⟩ := zDx BK107.out) | ((with_reducible refine zBZ (f := 17) rfl ?_); refine zCu (some 13) rfl rfl Tryz.func17 (by kernel_rfl) rfl #[.agg #[.int .u32 a0_2, .int .u64 a0_3, .int .u32 a0_4, .int .u32 a0_5, .int .u32 a0_6, .int .u32 a0_7, .int .u32 a0_8, .slice A0_9 l0_9.length c0_9]] rfl (by (try simp only [List.map_toArray, List.map_cons, List.map_nil]); first | done | rfl | (simp only [List.length_drop, List.length_take]; rfl)) ?_; (with_reducible refine (laws_zzFits5.calls k a0_2 a0_3 a0_4 a0_5 a0_6 a0_7 a0_8 _ _ l0_9 false _ ?side1 ?side2 A8.out).mono ?_); (case side1 => repeat (first | exact (Kd.C_below HR0_9.out HB.out) | (with_reducible refine Kd.C_alloc ?_ _) | (with_reducible refine Kd.C_drewN ?_ _) | (with_reducible refine Kd.C_drew ?_))); (case side2 => exact HC0_9.out); rintro e w15 ⟨rfl, hb⟩; refine ⟨_, rfl, ?_⟩; have n0_ := Aside0.mk (blk_below (g := gb107) (o := .cells #[.string a0_0, .string a0_1, .int .u32 a0_2, .int .u64 a0_3, .int .u32 a0_4, .int .u32 a0_5, .int .u32 a0_6, .int .u32 a0_7, .int .u32 a0_8, .slice A0_9 l0_9.length c0_9] 54 (0, 0)) (by (with_reducible repeat (first | refine zAF ?_ _ | refine zAG ?_ | refine zAE ?_ _)); exact BK107.out) hb); have n1_ := Aside0.mk (zAX (by repeat (first | (with_reducible first | exact HB.out | apply below_alloc | apply zAC | apply zAD | refine zAI ?_ GE107.out) | exact HB.out)) hb); clear BK107; clear HB; have BK107 := n0_; have HB := n1_; clear n0_ n1_; (try clear hb); (try clear hb2); (try clear hk); (try clear hi)))
    go_ret
    exact ⟨by first | rfl | (simp [errW_none, errW_some] <;> rfl) | (simp [*, errW_none, errW_some] <;> rfl), by repeat (first | (with_reducible first | exact HB.out | apply below_alloc | apply zAC | apply zAD | refine zAI ?_ GE107.out) | exact HB.out)⟩
def laws_zzFits8.l0 : Nat → List (S54) → Int → Int → Option (Bool)
 | 0, _, _, _ => none
 | k + 1, x8, x9, x10 => if x10 < x9 then (if 0 ≤ x10 then (if x10 < (x8.length : Int) then ((laws_zzFits9.f k ((zAL x8 x10).f0) ((zAL x8 x10).f1) ((zAL x8 x10).f2.f0) ((zAL x8 x10).f2.f1) ((zAL x8 x10).f2.f2) ((zAL x8 x10).f2.f3) ((zAL x8 x10).f2.f4) ((zAL x8 x10).f2.f5) ((zAL x8 x10).f2.f6) ((zAL x8 x10).f2.f7)).bind fun t111 => (if t111 = true then (laws_zzFits8.l0 k x8 x9 (wrap64 (x10 + 1))) else (some false))) else (none)) else (none)) else (some true)
def laws_zzFits8.f (k : Nat) (l0 : List (S54)) : Option (Bool) := if (l0.length : Int) > 2147483647 then (some false) else (laws_zzFits8.l0 k l0 (l0.length : Int) 0)
set_option maxRecDepth 100000 in
theorem laws_zzFits8.calls (k : Nat) (A0 : Option Addr) (c0 : Nat) (l0 : List (S54)) (r : Bool) (w : World) (hr0 : Kd.C k54 w A0 l0.length l0) (hc0 : l0.length ≤ c0) (h : laws_zzFits8.f k l0 = some r) :
  Calls Tryz.prog 18 #[.slice A0 l0.length c0] w fun e w' => e = .returned (.bool r) ∧ Below w.heap.size w w' := by
 have hu54 := Tryz.underlying54
 have HR0 := Aside0.mk hr0
 have HC0 := Aside0.mk hc0
 clear hr0 hc0
 have HB := Aside0.mk (Below.refl w.heap.size w)
 have H : (if (l0.length : Int) > 2147483647 then (some false) else (laws_zzFits8.l0 k l0 (l0.length : Int) 0)) = some r := h
 clear h
 by_cases c2 : (l0.length : Int) > 2147483647
 ·rw [if_pos c2] at H
  have c2b0 : decide (2147483647 < (l0.length : Int)) = true := decide_eq_true c2
  have c2b1 : decide (2147483647 < l0.length) = true := decide_eq_true (by omega)
  clear c2
  obtain rfl := Option.some.inj H
  go_enter Tryz.func18, Tryz.ntmps18
  go_wp2
  go_ret
  exact ⟨by first | rfl | (simp [errW_none, errW_some] <;> rfl) | (simp [*, errW_none, errW_some] <;> rfl), by repeat (first | (with_reducible first | exact HB.out | apply below_alloc | apply zAC | apply zAD) | exact HB.out)⟩
 ·rw [if_neg c2] at H
  have c2b0 : decide (2147483647 < (l0.length : Int)) = false := decide_eq_false c2
  have c2b1 : decide (2147483647 < l0.length) = false := decide_eq_false (by omega)
  clear c2
  have H' := Aside0.mk H
  clear H
  go_enter Tryz.func18, Tryz.ntmps18
  go_wp2
  go_loopg [10] k (fun kq v10 w' => ∃ (x10_1 : Int), v10 = .int .i64 x10_1 ∧ Aside0 (laws_zzFits8.l0 kq l0 (l0.length : Int) x10_1 = some r) ∧ Aside0 (kq ≤ k) ∧ Aside0 (Below w.heap.size w w'))
  case atStart => exact ⟨(0), (by first | rfl | (simp; done) | (simp [*]; done)), H', ⟨Nat.le_refl _⟩, ⟨by repeat (first | (with_reducible first | exact HB.out | apply below_alloc | apply zAC | apply zAD) | exact HB.out)⟩⟩
  case round =>
   clear H'
   try clear c1
   try clear c2
   try clear c2b0
   try clear c2b1
   try clear p2
   obtain ⟨x10_1, rfl, HA, HK1, HB⟩ := hrel
   cases gk with
   | zero => exact absurd HA.out (by simp [laws_zzFits8.l0])
   | succ k1 =>
    have H := HA.out
    clear HA
    simp only [laws_zzFits8.l0] at H
    by_cases c3 : x10_1 < (l0.length : Int)
    ·rw [if_pos c3] at H
     have c3b0 : decide (x10_1 < (l0.length : Int)) = true := decide_eq_true c3
     clear c3
     by_cases c4 : 0 ≤ x10_1
     ·rw [if_pos c4] at H
      have c4b0 : decide (0 ≤ x10_1) = true := decide_eq_true c4
      clear c4
      by_cases c5 : x10_1 < (l0.length : Int)
      ·rw [if_pos c5] at H
       have c5b0 : decide (x10_1 < (l0.length : Int)) = true := decide_eq_true c5
       clear c5
       replace H := Option.bind_eq_some_iff.mp H
       obtain ⟨t111, A60, H⟩ := H
       replace H : (if t111 = true then (laws_zzFits8.l0 k1 l0 (l0.length : Int) (wrap64 (x10_1 + 1))) else (some false)) = some r := H
       have A6 := Aside0.mk A60
       clear A60
       by_cases c7 : t111 = true
       ·subst c7
        have H1 : (laws_zzFits8.l0 k1 l0 (l0.length : Int) (wrap64 (x10_1 + 1))) = some r := by rw [if_pos rfl] at H; exact H
        clear H
        have H := H1
        clear H1
        have H' := Aside0.mk H
        clear H
        have p109 : 0 ≤ (x10_1 : Int) := of_decide_eq_true (by first | (with_reducible assumption) | assumption)
        have q109 : x10_1 < (l0.length : Int) := of_decide_eq_true (by first | (with_reducible assumption) | assumption)
        obtain ⟨ad109, A109_9, c109_9, e109, hx109_0, hx109_1, hx109_2, hx109_3, hx109_4, hx109_5, hx109_6, hx109_7, hx109_8, hx109_9, hl109_9, hi109_9⟩ := zKp HR0.out x10_1 p109 q109
        cases e109
        replace hx109_0 := (HB.out.cell (World.block_lt_of_cell? w _ hx109_0)).trans hx109_0
        replace hx109_1 := (HB.out.cell (World.block_lt_of_cell? w _ hx109_1)).trans hx109_1
        replace hx109_2 := (HB.out.cell (World.block_lt_of_cell? w _ hx109_2)).trans hx109_2
        replace hx109_3 := (HB.out.cell (World.block_lt_of_cell? w _ hx109_3)).trans hx109_3
        replace hx109_4 := (HB.out.cell (World.block_lt_of_cell? w _ hx109_4)).trans hx109_4
        replace hx109_5 := (HB.out.cell (World.block_lt_of_cell? w _ hx109_5)).trans hx109_5
        replace hx109_6 := (HB.out.cell (World.block_lt_of_cell? w _ hx109_6)).trans hx109_6
        replace hx109_7 := (HB.out.cell (World.block_lt_of_cell? w _ hx109_7)).trans hx109_7
        replace hx109_8 := (HB.out.cell (World.block_lt_of_cell? w _ hx109_8)).trans hx109_8
        replace hx109_9 := (HB.out.cell (World.block_lt_of_cell? w _ hx109_9)).trans hx109_9
        have HR109_9 := Aside0.mk hi109_9
        have HC109_9 := Aside0.mk hl109_9
        clear hi109_9 hl109_9
        replace p109 := eq_true p109
        replace q109 := eq_true q109
        go_wp2_with (first | ((with_reducible refine zAb (N := 4) rfl ?_); refine zA6 ?hg (N := 4) ?hd (cs := #[.string (⟨#[]⟩ : ByteArray), .string (⟨#[]⟩ : ByteArray), .int .u32 0, .int .u64 0, .int .u32 0, .int .u32 0, .int .u32 0, .int .u32 0, .int .u32 0, .slice none 0 0]) (t := 54) ?hr ?_; (case hd => rfl); (case hg => rfl); (case hr => first | (go_simp; done) | (go_simp; rfl)); intro gb110 hg w8 hbox hb; have n0_ := Aside0.mk (zAX (by repeat (first | (with_reducible first | exact HB.out | apply below_alloc | apply zAC | apply zAD) | exact HB.out)) hb); have n1_ := Aside0.mk (hbox); have n2_ := Aside0.mk ((by rw [hg]; exact (zAO (by repeat (first | (with_reducible first | exact HB.out | apply below_alloc | apply zAC | apply zAD) | exact HB.out))) : w.heap.size ≤ gb110)); have n3_ := Aside0.mk ((by rw [hg]; exact (zAO (by repeat (first | (with_reducible first | exact HB.out | apply below_alloc | apply zAC | apply zAD) | exact HB.out))) : w.heap.size ≤ gb110)); clear HB; have HB := n0_; have BK110 := n1_; have GW110 := n2_; have GE110 := n3_; clear n0_ n1_ n2_ n3_; clear hb hbox hg; obtain ⟨hcz9_0, hcz9_1, hcz9_2, hcz9_3, hcz9_4, hcz9_5, hcz9_6, hcz9_7, hcz9_8, hcz9_9, hfz9_0, hfz9_1, hfz9_2, hfz9_3, hfz9_4, hfz9_5, hfz9_6, hfz9_7, hfz9_8, hfz9_9⟩ := zDx BK110.out) | ((with_reducible refine zBZ (f := 43) rfl ?_); refine zCu (some 15) rfl rfl Tryz.func43 (by kernel_rfl) rfl #[.agg #[.string ((zAL l0 x10_1).f0), .string ((zAL l0 x10_1).f1), .int .u32 ((zAL l0 x10_1).f2.f0), .int .u64 ((zAL l0 x10_1).f2.f1), .int .u32 ((zAL l0 x10_1).f2.f2), .int .u32 ((zAL l0 x10_1).f2.f3), .int .u32 ((zAL l0 x10_1).f2.f4), .int .u32 ((zAL l0 x10_1).f2.f5), .int .u32 ((zAL l0 x10_1).f2.f6), .slice A109_9 ((zAL l0 x10_1).f2.f7).length c109_9]] rfl (by (try simp only [List.map_toArray, List.map_cons, List.map_nil]); first | done | rfl | (simp only [List.length_drop, List.length_take]; rfl)) ?_; (with_reducible refine (laws_zzFits9.calls k1 ((zAL l0 x10_1).f0) ((zAL l0 x10_1).f1) ((zAL l0 x10_1).f2.f0) ((zAL l0 x10_1).f2.f1) ((zAL l0 x10_1).f2.f2) ((zAL l0 x10_1).f2.f3) ((zAL l0 x10_1).f2.f4) ((zAL l0 x10_1).f2.f5) ((zAL l0 x10_1).f2.f6) _ _ ((zAL l0 x10_1).f2.f7) true _ ?side1 ?side2 A6.out).mono ?_); (case side1 => exact Kd.C_below HR109_9.out (by repeat (first | (with_reducible first | exact HB.out | apply below_alloc | apply zAC | apply zAD | refine zAI ?_ GE110.out) | exact HB.out))); (case side2 => exact HC109_9.out); rintro e w10 ⟨rfl, hb⟩; refine ⟨_, rfl, ?_⟩; have n0_ := Aside0.mk (blk_below (g := gb110) (o := .cells #[.string ((zAL l0 x10_1).f0), .string ((zAL l0 x10_1).f1), .int .u32 ((zAL l0 x10_1).f2.f0), .int .u64 ((zAL l0 x10_1).f2.f1), .int .u32 ((zAL l0 x10_1).f2.f2), .int .u32 ((zAL l0 x10_1).f2.f3), .int .u32 ((zAL l0 x10_1).f2.f4), .int .u32 ((zAL l0 x10_1).f2.f5), .int .u32 ((zAL l0 x10_1).f2.f6), .slice A109_9 ((zAL l0 x10_1).f2.f7).length c109_9] 54 (0, 0)) (by (with_reducible repeat (first | refine zAF ?_ _ | refine zAG ?_ | refine zAE ?_ _)); refine zA0 (cs := #[.string ((zAL l0 x10_1).f0), .string ((zAL l0 x10_1).f1), .int .u32 ((zAL l0 x10_1).f2.f0), .int .u64 ((zAL l0 x10_1).f2.f1), .int .u32 ((zAL l0 x10_1).f2.f2), .int .u32 ((zAL l0 x10_1).f2.f3), .int .u32 ((zAL l0 x10_1).f2.f4), .int .u32 ((zAL l0 x10_1).f2.f5), .int .u32 ((zAL l0 x10_1).f2.f6), .slice none 0 0]) ?_ 9 _ rfl; (with_reducible repeat (first | refine zAF ?_ _ | refine zAG ?_ | refine zAE ?_ _)); refine zA0 (cs := #[.string ((zAL l0 x10_1).f0), .string ((zAL l0 x10_1).f1), .int .u32 ((zAL l0 x10_1).f2.f0), .int .u64 ((zAL l0 x10_1).f2.f1), .int .u32 ((zAL l0 x10_1).f2.f2), .int .u32 ((zAL l0 x10_1).f2.f3), .int .u32 ((zAL l0 x10_1).f2.f4), .int .u32 ((zAL l0 x10_1).f2.f5), .int .u32 0, .slice none 0 0]) ?_ 8 _ rfl; (with_reducible repeat (first | refine zAF ?_ _ | refine zAG ?_ | refine zAE ?_ _)); refine zA0 (cs := #[.string ((zAL l0 x10_1).f0), .string ((zAL l0 x10_1).f1), .int .u32 ((zAL l0 x10_1).f2.f0), .int .u64 ((zAL l0 x10_1).f2.f1), .int .u32 ((zAL l0 x10_1).f2.f2), .int .u32 ((zAL l0 x10_1).f2.f3), .int .u32 ((zAL l0 x10_1).f2.f4), .int .u32 0, .int .u32 0, .slice none 0 0]) ?_ 7 _ rfl; (with_reducible repeat (first | refine zAF ?_ _ | refine zAG ?_ | refine zAE ?_ _)); refine zA0 (cs := #[.string ((zAL l0 x10_1).f0), .string ((zAL l0 x10_1).f1), .int .u32 ((zAL l0 x10_1).f2.f0), .int .u64 ((zAL l0 x10_1).f2.f1), .int .u32 ((zAL l0 x10_1).f2.f2), .int .u32 ((zAL l0 x10_1).f2.f3), .int .u32 0, .int .u32 0, .int .u32 0, .slice none 0 0]) ?_ 6 _ rfl; (with_reducible repeat (first | refine zAF ?_ _ | refine zAG ?_ | refine zAE ?_ _)); refine zA0 (cs := #[.string ((zAL l0 x10_1).f0), .string ((zAL l0 x10_1).f1), .int .u32 ((zAL l0 x10_1).f2.f0), .int .u64 ((zAL l0 x10_1).f2.f1), .int .u32 ((zAL l0 x10_1).f2.f2), .int .u32 0, .int .u32 0, .int .u32 0, .int .u32 0, .slice none 0 0]) ?_ 5 _ rfl; (with_reducible repeat (first | refine zAF ?_ _ | refine zAG ?_ | refine zAE ?_ _)); refine zA0 (cs := #[.string ((zAL l0 x10_1).f0), .string ((zAL l0 x10_1).f1), .int .u32 ((zAL l0 x10_1).f2.f0), .int .u64 ((zAL l0 x10_1).f2.f1), .int .u32 0, .int .u32 0, .int .u32 0, .int .u32 0, .int .u32 0, .slice none 0 0]) ?_ 4 _ rfl; (with_reducible repeat (first | refine zAF ?_ _ | refine zAG ?_ | refine zAE ?_ _)); refine zA0 (cs := #[.string ((zAL l0 x10_1).f0), .string ((zAL l0 x10_1).f1), .int .u32 ((zAL l0 x10_1).f2.f0), .int .u64 0, .int .u32 0, .int .u32 0, .int .u32 0, .int .u32 0, .int .u32 0, .slice none 0 0]) ?_ 3 _ rfl; (with_reducible repeat (first | refine zAF ?_ _ | refine zAG ?_ | refine zAE ?_ _)); refine zA0 (cs := #[.string ((zAL l0 x10_1).f0), .string ((zAL l0 x10_1).f1), .int .u32 0, .int .u64 0, .int .u32 0, .int .u32 0, .int .u32 0, .int .u32 0, .int .u32 0, .slice none 0 0]) ?_ 2 _ rfl; (with_reducible repeat (first | refine zAF ?_ _ | refine zAG ?_ | refine zAE ?_ _)); refine zA0 (cs := #[.string ((zAL l0 x10_1).f0), .string (⟨#[]⟩ : ByteArray), .int .u32 0, .int .u64 0, .int .u32 0, .int .u32 0, .int .u32 0, .int .u32 0, .int .u32 0, .slice none 0 0]) ?_ 1 _ rfl; (with_reducible repeat (first | refine zAF ?_ _ | refine zAG ?_ | refine zAE ?_ _)); refine zA0 (cs := #[.string (⟨#[]⟩ : ByteArray), .string (⟨#[]⟩ : ByteArray), .int .u32 0, .int .u64 0, .int .u32 0, .int .u32 0, .int .u32 0, .int .u32 0, .int .u32 0, .slice none 0 0]) ?_ 0 _ rfl; (with_reducible repeat (first | refine zAF ?_ _ | refine zAG ?_ | refine zAE ?_ _)); exact BK110.out) hb); have n1_ := Aside0.mk (zAX (by repeat (first | (with_reducible first | exact HB.out | apply below_alloc | apply zAC | apply zAD | refine zAI ?_ GE110.out) | exact HB.out)) hb); clear BK110; clear HB; have BK110 := n0_; have HB := n1_; clear n0_ n1_; (try clear hb); (try clear hb2); (try clear hk); (try clear hi)))
        go_roundg k1
        case measure => have := HK1.out; omega
        case rel => exact ⟨(wrap64 (x10_1 + 1)), (by first | rfl | (simp; done) | (simp [*]; done)), H', ⟨by have := HK1.out; omega⟩, ⟨by repeat (first | (with_reducible first | exact HB.out | apply below_alloc | apply zAC | apply zAD | refine zAI ?_ GE110.out) | exact HB.out)⟩⟩
       ·replace c7 := Bool.eq_false_iff.mpr c7
        subst c7
        have H1 : (some false) = some r := by rw [if_neg (show ¬ (false = true) by decide)] at H; exact H
        clear H
        have H := H1
        clear H1
        obtain rfl := Option.some.inj H
        have p109 : 0 ≤ (x10_1 : Int) := of_decide_eq_true (by first | (with_reducible assumption) | assumption)
        have q109 : x10_1 < (l0.length : Int) := of_decide_eq_true (by first | (with_reducible assumption) | assumption)
        obtain ⟨ad109, A109_9, c109_9, e109, hx109_0, hx109_1, hx109_2, hx109_3, hx109_4, hx109_5, hx109_6, hx109_7, hx109_8, hx109_9, hl109_9, hi109_9⟩ := zKp HR0.out x10_1 p109 q109
        cases e109
        replace hx109_0 := (HB.out.cell (World.block_lt_of_cell? w _ hx109_0)).trans hx109_0
        replace hx109_1 := (HB.out.cell (World.block_lt_of_cell? w _ hx109_1)).trans hx109_1
        replace hx109_2 := (HB.out.cell (World.block_lt_of_cell? w _ hx109_2)).trans hx109_2
        replace hx109_3 := (HB.out.cell (World.block_lt_of_cell? w _ hx109_3)).trans hx109_3
        replace hx109_4 := (HB.out.cell (World.block_lt_of_cell? w _ hx109_4)).trans hx109_4
        replace hx109_5 := (HB.out.cell (World.block_lt_of_cell? w _ hx109_5)).trans hx109_5
        replace hx109_6 := (HB.out.cell (World.block_lt_of_cell? w _ hx109_6)).trans hx109_6
        replace hx109_7 := (HB.out.cell (World.block_lt_of_cell? w _ hx109_7)).trans hx109_7
        replace hx109_8 := (HB.out.cell (World.block_lt_of_cell? w _ hx109_8)).trans hx109_8
        replace hx109_9 := (HB.out.cell (World.block_lt_of_cell? w _ hx109_9)).trans hx109_9
        have HR109_9 := Aside0.mk hi109_9
        have HC109_9 := Aside0.mk hl109_9
        clear hi109_9 hl109_9
        replace p109 := eq_true p109
        replace q109 := eq_true q109
        go_wp2_with (first | ((with_reducible refine zAb (N := 4) rfl ?_); refine zA6 ?hg (N := 4) ?hd (cs := #[.string (⟨#[]⟩ : ByteArray), .string (⟨#[]⟩ : ByteArray), .int .u32 0, .int .u64 0, .int .u32 0, .int .u32 0, .int .u32 0, .int .u32 0, .int .u32 0, .slice none 0 0]) (t := 54) ?hr ?_; (case hd => rfl); (case hg => rfl); (case hr => first | (go_simp; done) | (go_simp; rfl)); intro gb110 hg w11 hbox hb; have n0_ := Aside0.mk (zAX (by repeat (first | (with_reducible first | exact HB.out | apply below_alloc | apply zAC | apply zAD) | exact HB.out)) hb); have n1_ := Aside0.mk (hbox); have n2_ := Aside0.mk ((by rw [hg]; exact (zAO (by repeat (first | (with_reducible first | exact HB.out | apply below_alloc | apply zAC | apply zAD) | exact HB.out))) : w.heap.size ≤ gb110)); have n3_ := Aside0.mk ((by rw [hg]; exact (zAO (by repeat (first | (with_reducible first | exact HB.out | apply below_alloc | apply zAC | apply zAD) | exact HB.out))) : w.heap.size ≤ gb110)); clear HB; have HB := n0_; have BK110 := n1_; have GW110 := n2_; have GE110 := n3_; clear n0_ n1_ n2_ n3_; clear hb hbox hg; obtain ⟨hcz12_0, hcz12_1, hcz12_2, hcz12_3, hcz12_4, hcz12_5, hcz12_6, hcz12_7, hcz12_8, hcz12_9, hfz12_0, hfz12_1, hfz12_2, hfz12_3, hfz12_4, hfz12_5, hfz12_6, hfz12_7, hfz12_8, hfz12_9⟩ := zDx BK110.out) | ((with_reducible refine zBZ (f := 43) rfl ?_); refine zCu (some 15) rfl rfl Tryz.func43 (by kernel_rfl) rfl #[.agg #[.string ((zAL l0 x10_1).f0), .string ((zAL l0 x10_1).f1), .int .u32 ((zAL l0 x10_1).f2.f0), .int .u64 ((zAL l0 x10_1).f2.f1), .int .u32 ((zAL l0 x10_1).f2.f2), .int .u32 ((zAL l0 x10_1).f2.f3), .int .u32 ((zAL l0 x10_1).f2.f4), .int .u32 ((zAL l0 x10_1).f2.f5), .int .u32 ((zAL l0 x10_1).f2.f6), .slice A109_9 ((zAL l0 x10_1).f2.f7).length c109_9]] rfl (by (try simp only [List.map_toArray, List.map_cons, List.map_nil]); first | done | rfl | (simp only [List.length_drop, List.length_take]; rfl)) ?_; (with_reducible refine (laws_zzFits9.calls k1 ((zAL l0 x10_1).f0) ((zAL l0 x10_1).f1) ((zAL l0 x10_1).f2.f0) ((zAL l0 x10_1).f2.f1) ((zAL l0 x10_1).f2.f2) ((zAL l0 x10_1).f2.f3) ((zAL l0 x10_1).f2.f4) ((zAL l0 x10_1).f2.f5) ((zAL l0 x10_1).f2.f6) _ _ ((zAL l0 x10_1).f2.f7) false _ ?side1 ?side2 A6.out).mono ?_); (case side1 => exact Kd.C_below HR109_9.out (by repeat (first | (with_reducible first | exact HB.out | apply below_alloc | apply zAC | apply zAD | refine zAI ?_ GE110.out) | exact HB.out))); (case side2 => exact HC109_9.out); rintro e w13 ⟨rfl, hb⟩; refine ⟨_, rfl, ?_⟩; have n0_ := Aside0.mk (blk_below (g := gb110) (o := .cells #[.string ((zAL l0 x10_1).f0), .string ((zAL l0 x10_1).f1), .int .u32 ((zAL l0 x10_1).f2.f0), .int .u64 ((zAL l0 x10_1).f2.f1), .int .u32 ((zAL l0 x10_1).f2.f2), .int .u32 ((zAL l0 x10_1).f2.f3), .int .u32 ((zAL l0 x10_1).f2.f4), .int .u32 ((zAL l0 x10_1).f2.f5), .int .u32 ((zAL l0 x10_1).f2.f6), .slice A109_9 ((zAL l0 x10_1).f2.f7).length c109_9] 54 (0, 0)) (by (with_reducible repeat (first | refine zAF ?_ _ | refine zAG ?_ | refine zAE ?_ _)); refine zA0 (cs := #[.string ((zAL l0 x10_1).f0), .string ((zAL l0 x10_1).f1), .int .u32 ((zAL l0 x10_1).f2.f0), .int .u64 ((zAL l0 x10_1).f2.f1), .int .u32 ((zAL l0 x10_1).f2.f2), .int .u32 ((zAL l0 x10_1).f2.f3), .int .u32 ((zAL l0 x10_1).f2.f4), .int .u32 ((zAL l0 x10_1).f2.f5), .int .u32 ((zAL l0 x10_1).f2.f6), .slice none 0 0]) ?_ 9 _ rfl; (with_reducible repeat (first | refine zAF ?_ _ | refine zAG ?_ | refine zAE ?_ _)); refine zA0 (cs := #[.string ((zAL l0 x10_1).f0), .string ((zAL l0 x10_1).f1), .int .u32 ((zAL l0 x10_1).f2.f0), .int .u64 ((zAL l0 x10_1).f2.f1), .int .u32 ((zAL l0 x10_1).f2.f2), .int .u32 ((zAL l0 x10_1).f2.f3), .int .u32 ((zAL l0 x10_1).f2.f4), .int .u32 ((zAL l0 x10_1).f2.f5), .int .u32 0, .slice none 0 0]) ?_ 8 _ rfl; (with_reducible repeat (first | refine zAF ?_ _ | refine zAG ?_ | refine zAE ?_ _)); refine zA0 (cs := #[.string ((zAL l0 x10_1).f0), .string ((zAL l0 x10_1).f1), .int .u32 ((zAL l0 x10_1).f2.f0), .int .u64 ((zAL l0 x10_1).f2.f1), .int .u32 ((zAL l0 x10_1).f2.f2), .int .u32 ((zAL l0 x10_1).f2.f3), .int .u32 ((zAL l0 x10_1).f2.f4), .int .u32 0, .int .u32 0, .slice none 0 0]) ?_ 7 _ rfl; (with_reducible repeat (first | refine zAF ?_ _ | refine zAG ?_ | refine zAE ?_ _)); refine zA0 (cs := #[.string ((zAL l0 x10_1).f0), .string ((zAL l0 x10_1).f1), .int .u32 ((zAL l0 x10_1).f2.f0), .int .u64 ((zAL l0 x10_1).f2.f1), .int .u32 ((zAL l0 x10_1).f2.f2), .int .u32 ((zAL l0 x10_1).f2.f3), .int .u32 0, .int .u32 0, .int .u32 0, .slice none 0 0]) ?_ 6 _ rfl; (with_reducible repeat (first | refine zAF ?_ _ | refine zAG ?_ | refine zAE ?_ _)); refine zA0 (cs := #[.string ((zAL l0 x10_1).f0), .string ((zAL l0 x10_1).f1), .int .u32 ((zAL l0 x10_1).f2.f0), .int .u64 ((zAL l0 x10_1).f2.f1), .int .u32 ((zAL l0 x10_1).f2.f2), .int .u32 0, .int .u32 0, .int .u32 0, .int .u32 0, .slice none 0 0]) ?_ 5 _ rfl; (with_reducible repeat (first | refine zAF ?_ _ | refine zAG ?_ | refine zAE ?_ _)); refine zA0 (cs := #[.string ((zAL l0 x10_1).f0), .string ((zAL l0 x10_1).f1), .int .u32 ((zAL l0 x10_1).f2.f0), .int .u64 ((zAL l0 x10_1).f2.f1), .int .u32 0, .int .u32 0, .int .u32 0, .int .u32 0, .int .u32 0, .slice none 0 0]) ?_ 4 _ rfl; (with_reducible repeat (first | refine zAF ?_ _ | refine zAG ?_ | refine zAE ?_ _)); refine zA0 (cs := #[.string ((zAL l0 x10_1).f0), .string ((zAL l0 x10_1).f1), .int .u32 ((zAL l0 x10_1).f2.f0), .int .u64 0, .int .u32 0, .int .u32 0, .int .u32 0, .int .u32 0, .int .u32 0, .slice none 0 0]) ?_ 3 _ rfl; (with_reducible repeat (first | refine zAF ?_ _ | refine zAG ?_ | refine zAE ?_ _)); refine zA0 (cs := #[.string ((zAL l0 x10_1).f0), .string ((zAL l0 x10_1).f1), .int .u32 0, .int .u64 0, .int .u32 0, .int .u32 0, .int .u32 0, .int .u32 0, .int .u32 0, .slice none 0 0]) ?_ 2 _ rfl; (with_reducible repeat (first | refine zAF ?_ _ | refine zAG ?_ | refine zAE ?_ _)); refine zA0 (cs := #[.string ((zAL l0 x10_1).f0), .string (⟨#[]⟩ : ByteArray), .int .u32 0, .int .u64 0, .int .u32 0, .int .u32 0, .int .u32 0, .int .u32 0, .int .u32 0, .slice none 0 0]) ?_ 1 _ rfl; (with_reducible repeat (first | refine zAF ?_ _ | refine zAG ?_ | refine zAE ?_ _)); refine zA0 (cs := #[.string (⟨#[]⟩ : ByteArray), .string (⟨#[]⟩ : ByteArray), .int .u32 0, .int .u64 0, .int .u32 0, .int .u32 0, .int .u32 0, .int .u32 0, .int .u32 0, .slice none 0 0]) ?_ 0 _ rfl; (with_reducible repeat (first | refine zAF ?_ _ | refine zAG ?_ | refine zAE ?_ _)); exact BK110.out) hb); have n1_ := Aside0.mk (zAX (by repeat (first | (with_reducible first | exact HB.out | apply below_alloc | apply zAC | apply zAD | refine zAI ?_ GE110.out) | exact HB.out)) hb); clear BK110; clear HB; have BK110 := n0_; have HB := n1_; clear n0_ n1_; (try clear hb); (try clear hb2); (try clear hk); (try clear hi)))
        go_ret
        exact ⟨by first | rfl | (simp [errW_none, errW_some] <;> rfl) | (simp [*, errW_none, errW_some] <;> rfl), by repeat (first | (with_reducible first | exact HB.out | apply below_alloc | apply zAC | apply zAD | refine zAI ?_ GE110.out) | exact HB.out)⟩
      ·rw [if_neg c5] at H
       exact absurd H (by simp)
     ·rw [if_neg c4] at H
      exact absurd H (by simp)
    ·rw [if_neg c3] at H
     have c3b0 : decide (x10_1 < (l0.length : Int)) = false := decide_eq_false c3
     clear c3
     obtain rfl := Option.some.inj H
     go_wp2
     go_ret
     exact ⟨by first | rfl | (simp [errW_none, errW_some] <;> rfl) | (simp [*, errW_none, errW_some] <;> rfl), by repeat (first | (with_reducible first | exact HB.out | apply below_alloc | apply zAC | apply zAD) | exact HB.out)⟩
end Go.Proofs.YtgnficcjnijdbaaGreat.PF
