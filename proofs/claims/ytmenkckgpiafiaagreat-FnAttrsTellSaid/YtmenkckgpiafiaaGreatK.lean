/-
  Contracts of a request packet's reader.
-/
import Derived.Test.YtmenkckgpiafiaaGreatJ
import Derived.Handy
namespace Go.Proofs.YtmenkckgpiafiaaGreat
open Go.RowKit

set_option maxHeartbeats 400000 in
theorem newPktClose (w : World) :
    Calls Tryz.prog 145 #[.int .u8 4] w fun e w' => e = .returned (.tuple #[.iface 187 (.pointer (some ⟨w.heap.size, 0, none⟩)), .nilIface]) ∧ w.alloc (.cells #[.string ⟨#[]⟩] 189) = w' := by
  go_enter Tryz.func145, Tryz.ntmps145
  go_wp2
  go_ret2
  exact ⟨rfl, rfl⟩

/-- What RequestPacket.UnmarshalFrom leaves. -/
def Req (q : Nat) (tp t : TypeId) (id : Int) (cs : Array Value) (r : Option (List UInt8)) (g : Nat) (w : World) (e : Ending) (w' : World) : Prop :=
  ∃ v b, e = .returned v ∧ errOf r v ∧ w'.heap[q]? = some (.cells #[.int .u32 id, .iface tp (.pointer (some ⟨b, 0, none⟩))] 116 (0, 0)) ∧ w'.heap[b]? = some (.cells cs t (0, 0)) ∧ w.heap.size ≤ b ∧ UpdB (fun k => k = g ∨ k = q) w w'

set_option maxRecDepth 5000 in
set_option maxHeartbeats 1600000 in
theorem reqClose (q g o s : Nat) (u0 u1 : Value) (l : List UInt8) (w : World) (hq : w.heap[q]? = some (.cells #[u0, u1] 116 (0, 0))) (hqg : q ≠ g) (hqs : q ≠ s) (hb : RBuf w g o s (some (4 :: l))) :
    Calls Tryz.prog 118 #[.pointer (some ⟨q, 0, none⟩), .pointer (some ⟨g, o, none⟩)] w (Req q 187 189 (c32 (some l)).1 #[.string (bs (cB (c32 (some l)).2).1)] (cB (c32 (some l)).2).2 g w) := by
  have hlt := hb.lt
  have hql := lt_of_blk hq
  have HQ := Lib.hid hq
  clear hq
  go_enter Tryz.func118, Tryz.ntmps118
  go_wp2_with fail
  refine (consume8 g o s _ _ hb).mono ?_
  rintro e w1 ⟨rfl, hb1, hu1⟩
  have e8 : c8 (some (4 :: l)) = (4, some l) := rfl
  rw [e8] at hb1 ⊢
  obtain ⟨v, cv, hv⟩ := hb1.err
  have hv' : v = .nilIface := hv
  subst hv'
  have hq1 : w1.heap[q]? = some (.cells #[u0, u1] 116 (0, 0)) := by rw [hu1.block q hql hqg]; exact HQ.out
  go_wp2_with fail
  refine (newPktClose w1).mono ?_
  rintro e w2 ⟨rfl, hw2⟩
  have hbel : Below w1.heap.size w1 w2 := hw2 ▸ (Below.refl _ _).alloc (Nat.le_refl _) _
  have hs2 : w2.heap.size = w1.heap.size + 1 := by rw [← hw2]; simp
  have hk2 : w2.heap[w1.heap.size]? = some (.cells #[.string ⟨#[]⟩] 189 (0, 0)) := by rw [← hw2]; exact heap_alloc_new _ _
  have l1 := hb1.lt
  have z1 := hu1.size
  have hb2 : RBuf w2 g o s (some l) := hb1.kept (hbel.block _ l1.1) (hbel.block _ l1.2) hbel.size
  have hq2 : w2.heap[q]? = some (.cells #[u0, u1] 116 (0, 0)) := by rw [hbel.block _ (by omega)]; exact hq1
  have hU2 : UpdB (fun k => k = g ∨ k = q) w w2 := (hu1.updB (.inl rfl)).trans ⟨hbel.os, hbel.tape, hbel.output, hbel.size, fun k hk _ => hbel.block k hk⟩
  have hbg : g < w2.heap.size := by omega
  have hbs : s < w2.heap.size := by omega
  have hqb : q ≠ w1.heap.size := by omega
  have hgb : w1.heap.size ≠ g := by omega
  have hsb : w1.heap.size ≠ s := by omega
  have hwb : w.heap.size ≤ w1.heap.size := by omega
  have hbb : w1.heap.size < w2.heap.size := by omega
  clear hw2 hb1 hu1 hq1 hbel hs2 l1 cv hv
  generalize w1.heap.size = b at *
  have B2 := Lib.hid hb2
  have Q2 := Lib.hid hq2
  have K2 := Lib.hid hk2
  have U2 := Lib.hid hU2
  clear hq2 hk2 hU2 hb2
  go_wp2_with fail
  refine (consume32 g o s _ w2 B2.out).mono ?_
  rintro e w3 ⟨rfl, hb3, hu3⟩
  have hq3 : w3.heap[q]? = some (.cells #[u0, u1] 116 (0, 0)) := by rw [hu3.block q (by omega) hqg]; exact Q2.out
  have hk3 : w3.heap[b]? = some (.cells #[.string ⟨#[]⟩] 189 (0, 0)) := by rw [hu3.block b hbb hgb]; exact K2.out
  have cq0 : w3.cell? ⟨q, 0, none⟩ = some u0 := by rw [cell_of_blk hq3]; rfl
  have cq1 : w3.cell? ⟨q, 1, none⟩ = some u1 := by rw [cell_of_blk hq3]; rfl
  have fq : ∀ i, w3.frozen? ⟨q, i, none⟩ = false := frozen_of_blk hq3
  have fq0 := fq 0
  have fq1 := fq 1
  have U3 := Lib.hid (U2.out.trans (hu3.updB (.inl rfl)))
  have B3 := Lib.hid hb3
  have Q3 := Lib.hid hq3
  have K3 := Lib.hid hk3
  clear hb3 hu3 hq3 hk3 fq
  go_wp2_with fail
  have hne : ∀ j, j ≠ q → ((w3.setCell ⟨q, 0, none⟩ (.int .u32 (c32 (some l)).1)).setCell ⟨q, 1, none⟩ (.iface 187 (.pointer (some ⟨b, 0, none⟩)))).heap[j]? = w3.heap[j]? := fun j hj => by rw [Below.heap_setCell _ _ _ _ hj, Below.heap_setCell _ _ _ _ hj]
  have hqq : ((w3.setCell ⟨q, 0, none⟩ (.int .u32 (c32 (some l)).1)).setCell ⟨q, 1, none⟩ (.iface 187 (.pointer (some ⟨b, 0, none⟩)))).heap[q]? = some (.cells #[.int .u32 (c32 (some l)).1, .iface 187 (.pointer (some ⟨b, 0, none⟩))] 116 (0, 0)) := setCell_blk (setCell_blk Q3.out _) _
  have hzz : ((w3.setCell ⟨q, 0, none⟩ (.int .u32 (c32 (some l)).1)).setCell ⟨q, 1, none⟩ (.iface 187 (.pointer (some ⟨b, 0, none⟩)))).heap.size = w3.heap.size := by simp [World.setCell]
  have huu : UpdB (fun k => k = g ∨ k = q) w ((w3.setCell ⟨q, 0, none⟩ (.int .u32 (c32 (some l)).1)).setCell ⟨q, 1, none⟩ (.iface 187 (.pointer (some ⟨b, 0, none⟩)))) := (U3.out.setCell (.inr rfl) _).setCell (.inr rfl) _
  generalize (w3.setCell ⟨q, 0, none⟩ (.int .u32 (c32 (some l)).1)).setCell ⟨q, 1, none⟩ (.iface 187 (.pointer (some ⟨b, 0, none⟩))) = W at *
  have hbW : RBuf W g o s (c32 (some l)).2 := B3.out.kept (hne g (Ne.symm hqg)) (hne s (Ne.symm hqs)) (by omega)
  have hkW := (hne b (Ne.symm hqb)).trans K3.out
  have E := unmClose b g o s _ _ W hkW hgb hsb hbW
  have QW := Lib.hid hqq
  have UW := Lib.hid huu
  clear hne hqq hzz huu hbW hkW B3 K3 Q3 U3
  refine E.mono ?_
  rintro e w4 ⟨v, rfl, hv, hk4, hb4, hu4⟩
  have F := Lib.hid (show Req q 187 189 (c32 (some l)).1 #[.string (bs (cB (c32 (some l)).2).1)] (cB (c32 (some l)).2).2 g w (.returned v) w4 from by
    refine ⟨v, b, rfl, hv, (hu4.block q (lt_of_blk QW.out) (by omega)).trans QW.out, hk4, hwb, ?_⟩
    have hu := UW.out
    exact ⟨hu4.os.trans hu.os, hu4.tape.trans hu.tape, hu4.output.trans hu.output, Nat.le_trans hu.size hu4.size, fun k hk e => (hu4.block k (by have := hu.size; omega) (by omega)).trans (hu.block k hk e)⟩)
  clear hv hk4 hb4 hu4 E
  go_wp2_with fail
  go_ret
  exact F.out
end Go.Proofs.YtmenkckgpiafiaaGreat
