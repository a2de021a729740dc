/-
  A packet's body is read: one text.
-/
import Derived.Test.YtmenkckgpiafiaaGreatG
namespace Go.Proofs.YtmenkckgpiafiaaGreat
open Go.RowKit

/-- Outside some blocks the world is as it was. -/
structure UpdB (ks : Nat → Prop) (w w' : World) : Prop where
  os : w'.os = w.os
  tape : w'.tape = w.tape
  output : w'.output = w.output
  size : w.heap.size ≤ w'.heap.size
  block : ∀ k, k < w.heap.size → ¬ ks k → w'.heap[k]? = w.heap[k]?
theorem UpdB.trans {ks : Nat → Prop} {w w1 w2 : World} (h1 : UpdB ks w w1) (h2 : UpdB ks w1 w2) : UpdB ks w w2 :=
  ⟨h2.os.trans h1.os, h2.tape.trans h1.tape, h2.output.trans h1.output, Nat.le_trans h1.size h2.size, fun k hk e => (h2.block k (by have := h1.size; omega) e).trans (h1.block k hk e)⟩
theorem UpdB.refl (ks : Nat → Prop) (w : World) : UpdB ks w w := ⟨rfl, rfl, rfl, Nat.le_refl _, fun _ _ _ => rfl⟩
theorem UpdR.updB {g o : Nat} {w w1 : World} (h : UpdR g o w w1) {ks : Nat → Prop} (hg : ks g) : UpdB ks w w1 := ⟨h.os, h.tape, h.output, h.size, fun k hk e => h.block k hk (fun e2 => e (e2 ▸ hg))⟩
theorem UpdB.setCell {ks : Nat → Prop} {w w1 : World} (h : UpdB ks w w1) {a : Addr} (ha : ks a.block) (v : Value) : UpdB ks w (w1.setCell a v) :=
  h.trans ⟨rfl, rfl, rfl, by simp [World.setCell], fun k _ e => Below.heap_setCell _ _ _ _ (fun e2 => e (e2 ▸ ha))⟩
theorem UpdB.below {ks : Nat → Prop} {w w1 : World} (h : UpdB ks w w1) {B : Nat} (hB : B ≤ w.heap.size) (hk : ∀ k, ks k → B ≤ k) : Below B w w1 := ⟨h.os, h.tape, h.output, h.size, fun k hk' => h.block k (by omega) (fun e => by have := hk k e; omega)⟩
theorem UpdB.mono {ks ks' : Nat → Prop} {w w1 : World} (h : UpdB ks w w1) (hk : ∀ k, ks k → ks' k) : UpdB ks' w w1 := ⟨h.os, h.tape, h.output, h.size, fun k hk' e => h.block k hk' (fun e2 => e (hk k e2))⟩
theorem cell_kept {w w1 : World} {q i : Nat} (h : w1.heap[q]? = w.heap[q]?) : w1.cell? ⟨q, i, none⟩ = w.cell? ⟨q, i, none⟩ := World.cell?_of_block (w := w) h
/-- A reading buffer outlives what turns neither its block nor its bytes'. -/
theorem RBuf.kept {w w1 : World} {g o s : Nat} {r : Option (List UInt8)} (h : RBuf w g o s r) (hg : w1.heap[g]? = w.heap[g]?) (hs : w1.heap[s]? = w.heap[s]?) (hz : w.heap.size ≤ w1.heap.size) : RBuf w1 g o s r := by
  obtain ⟨p, n, c, off, h0, h1, hsg, hon, hnc, hn, hr⟩ := h.ex
  refine ⟨⟨p, n, c, off, by rw [cell_kept hg]; exact h0, by rw [cell_kept hg]; exact h1, ⟨hsg.1, by omega⟩, hon, hnc, hn, ?_⟩, fun i => by rw [World.frozen?_of_block (w := w) hg]; exact h.frz i⟩
  cases r with
  | some l => exact ⟨by rw [cell_kept hg]; exact hr.1, hr.2.1, hr.2.2.kept hs⟩
  | none =>
    obtain ⟨t, v, h2⟩ := hr
    exact ⟨t, v, by rw [cell_kept hg]; exact h2⟩
theorem RBuf.lt {w : World} {g o s : Nat} {r : Option (List UInt8)} (h : RBuf w g o s r) : g < w.heap.size ∧ s < w.heap.size := by
  obtain ⟨p, n, c, off, h0, h1, hsg, _⟩ := h.ex
  exact ⟨World.block_lt_of_cell? w _ h0, hsg.2⟩

/-- What a packet's UnmarshalPacketBody leaves: an error as the buffer's, the packet's block with its cells. -/
def Unm (q : Nat) (t : TypeId) (g o s : Nat) (cs : Array Value) (r : Option (List UInt8)) (w : World) (e : Ending) (w' : World) : Prop :=
  ∃ v, e = .returned v ∧ errOf r v ∧ w'.heap[q]? = some (.cells cs t (0, 0)) ∧ RBuf w' g o s r ∧ UpdB (fun k => k = g ∨ k = q) w w'

set_option maxHeartbeats 800000 in
theorem unmClose (q g o s : Nat) (v0 : Value) (r : Option (List UInt8)) (w : World) (hq : w.heap[q]? = some (.cells #[v0] 189 (0, 0))) (hqg : q ≠ g) (hqs : q ≠ s) (hb : RBuf w g o s r) :
    Calls Tryz.prog 186 #[.pointer (some ⟨q, 0, none⟩), .pointer (some ⟨g, o, none⟩)] w (Unm q 189 g o s #[.string (bs (cB r).1)] (cB r).2 w) := by
  have hlt := hb.lt
  have hql := lt_of_blk hq
  have HQ := Lib.hid hq
  clear hq
  go_enter Tryz.func186, Tryz.ntmps186
  go_wp2_with fail
  refine (consumeString g o s r _ hb).mono ?_
  rintro e w1 ⟨rfl, hb1, hu1⟩
  have hq1 : w1.heap[q]? = some (.cells #[v0] 189 (0, 0)) := by rw [hu1.block q hql hqg]; exact HQ.out
  have cq : w1.cell? ⟨q, 0, none⟩ = some v0 := by rw [cell_of_blk hq1]; rfl
  have fq : w1.frozen? ⟨q, 0, none⟩ = false := frozen_of_blk hq1 0
  generalize hW : w1.setCell ⟨q, 0, none⟩ (.string (bs (cB r).1)) = W
  have hbW : RBuf W g o s (cB r).2 := by
    rw [← hW]
    exact hb1.kept (Below.heap_setCell _ _ _ _ (Ne.symm hqg)) (Below.heap_setCell _ _ _ _ (Ne.symm hqs)) (by simp [World.setCell])
  obtain ⟨v, cv, hv⟩ := hbW.err
  have hqW : W.heap[q]? = some (.cells #[.string (bs (cB r).1)] 189 (0, 0)) := by rw [← hW]; exact setCell_blk hq1 _
  have hfin : UpdB (fun k => k = g ∨ k = q) w W := by rw [← hW]; exact (hu1.updB (.inl rfl)).setCell (.inr rfl) _
  have HB := Lib.hid hbW
  have HQW := Lib.hid hqW
  have HF := Lib.hid hfin
  have HV := Lib.hid hv
  clear hbW hqW hfin hv hb1 hu1 hq1
  go_wp2_with fail
  go_ret
  exact ⟨v, rfl, HV.out, HQW.out, HB.out, HF.out⟩
end Go.Proofs.YtmenkckgpiafiaaGreat
