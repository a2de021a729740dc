/-
  Contracts of RequestPacket.ReadFrom.
-/
import Derived.Test.YtmenkckgpiafiaaGreatK
namespace Go.Proofs.YtmenkckgpiafiaaGreat
open Go.RowKit

/-- A buffer newly made over bytes that lie in memory. -/
theorem RBuf.new {w : World} {h c : Nat} {l : List UInt8} (hl : Lies w h 0 l) (hh : h < w.heap.size) (hc : l.length ≤ c) (hn : l.length ≤ 1000000000) :
    RBuf (w.alloc (.cells #[.slice (some ⟨h, 0, none⟩) l.length c, .int .i64 0, .nilIface] 120)) w.heap.size 0 h (some l) := by
  have hb := heap_alloc_new w (.cells #[.slice (some ⟨h, 0, none⟩) l.length c, .int .i64 0, .nilIface] 120 (0, 0))
  refine ⟨⟨0, l.length, c, 0, by rw [cell_of_blk hb]; rfl, by rw [cell_of_blk hb]; rfl, ⟨by omega, by simp; omega⟩, by omega, hc, hn, by rw [cell_of_blk hb]; rfl, by omega, ?_⟩, frozen_of_blk hb⟩
  exact hl.kept (((Below.refl w.heap.size w).alloc (Nat.le_refl _) _).block h hh)
theorem gotP_len {M : Int} {L l : List UInt8} (h : gotP M L = some l) : l.length ≤ L.length := by
  unfold gotP at h
  split at h <;> try cases h
  split at h <;> try cases h
  split at h <;> try cases h
  split at h <;> try cases h
  simp
  omega

set_option maxRecDepth 5000 in
set_option maxHeartbeats 1600000 in
theorem reqReadNone (q rr s : Nat) (L : List UInt8) (M : Int) (w : World) (hr : Rd w rr s L) (hL : L.length ≤ 1000000000) (hM0 : 0 ≤ M) (hM : M ≤ 1000000000) (hrs : rr ≠ s) (hg : gotP M L = none) :
    Calls Tryz.prog 59 #[.pointer (some ⟨q, 0, none⟩), .pointer (some ⟨rr, 0, none⟩), .slice none 0 0, .int .u32 M] w fun e w' => (∃ t x, e = .returned (.iface t x)) ∧ UpdB (fun k => k = rr) w w' := by
  have C := Lib.hid (readPacket rr s L M w hr hL hM0 hM hrs)
  clear hr hL hM0 hM
  go_enter Tryz.func59, Tryz.ntmps59
  go_wp2_with fail
  refine C.out.mono ?_
  rw [hg]
  rintro e w1 ⟨hu, v, t, x, rfl⟩
  have U := Lib.hid hu
  clear hu C
  go_wp2_with fail
  go_ret
  exact ⟨⟨t, x, rfl⟩, U.out⟩

/-- What RequestPacket.ReadFrom leaves. -/
def ReqR (q : Nat) (tp t : TypeId) (id : Int) (cs : Array Value) (r : Option (List UInt8)) (rr : Nat) (w : World) (e : Ending) (w' : World) : Prop :=
  ∃ v b, e = .returned v ∧ errOf r v ∧ w'.heap[q]? = some (.cells #[.int .u32 id, .iface tp (.pointer (some ⟨b, 0, none⟩))] 116 (0, 0)) ∧ w'.heap[b]? = some (.cells cs t (0, 0)) ∧ w.heap.size ≤ b ∧ UpdB (fun k => k = rr ∨ k = q) w w'

set_option maxRecDepth 5000 in
set_option maxHeartbeats 1600000 in
theorem reqReadSome (tp t : TypeId) (id : Int) (cs : Array Value) (r : Option (List UInt8)) (q rr s : Nat) (u0 u1 : Value) (L l : List UInt8) (M : Int) (w : World) (hq : w.heap[q]? = some (.cells #[u0, u1] 116 (0, 0))) (hr : Rd w rr s L) (hL : L.length ≤ 1000000000) (hM0 : 0 ≤ M) (hM : M ≤ 1000000000) (hrs : rr ≠ s) (hqr : q ≠ rr) (hg : gotP M L = some l)
    (C2 : ∀ (g s : Nat) (W : World), W.heap[q]? = some (.cells #[u0, u1] 116 (0, 0)) → q ≠ g → q ≠ s → RBuf W g 0 s (some l) → Calls Tryz.prog 118 #[.pointer (some ⟨q, 0, none⟩), .pointer (some ⟨g, 0, none⟩)] W (Req q tp t id cs r g W)) :
    Calls Tryz.prog 59 #[.pointer (some ⟨q, 0, none⟩), .pointer (some ⟨rr, 0, none⟩), .slice none 0 0, .int .u32 M] w (ReqR q tp t id cs r rr w) := by
  have C := Lib.hid (readPacket rr s L M w hr hL hM0 hM hrs)
  have D := Lib.hid C2
  have hql := lt_of_blk hq
  have Q := Lib.hid hq
  have hll : l.length ≤ 1000000000 := Nat.le_trans (gotP_len hg) hL
  clear hr hL hM0 hM C2 hq
  go_enter Tryz.func59, Tryz.ntmps59
  go_wp2_with fail
  refine C.out.mono ?_
  rw [hg]
  rintro e w1 ⟨hu, h, c, rfl, hc, hwh, hhw, hl⟩
  have hq1 := (hu.block q hql hqr).trans Q.out
  have U := Lib.hid hu
  have LI := Lib.hid hl
  have Q1 := Lib.hid hq1
  have z1 := hu.size
  clear hu C hl hq1 Q
  go_wp2_with fail
  refine (newBuffer _ _ _ _).mono ?_
  rintro e w2 ⟨rfl, hw2⟩
  have hb2 := RBuf.new LI.out hhw hc hll
  have hbel := (Below.refl w1.heap.size w1).alloc (Nat.le_refl _) (.cells #[.slice (some ⟨h, 0, none⟩) l.length c, .int .i64 0, .nilIface] 120)
  rw [hw2] at hb2 hbel
  have hq2 := (hbel.block q (by omega)).trans Q1.out
  have E := Lib.hid (D.out _ _ w2 hq2 (by omega) (by omega) hb2)
  have U2 : UpdB (fun k => k = rr ∨ k = q) w w2 := (U.out.mono (fun k e => .inl e)).trans ⟨hbel.os, hbel.tape, hbel.output, hbel.size, fun k hk _ => hbel.block k hk⟩
  have V2 := Lib.hid U2
  clear hw2 hb2 hbel hq2 U2 D Q1 LI U
  go_wp2_with fail
  refine E.out.mono ?_
  rintro e w3 ⟨v, b, rfl, hv, hq3, hb3, hwb, hu3⟩
  have F := Lib.hid (show ReqR q tp t id cs r rr w (.returned v) w3 from by
    have hu := V2.out
    have hz := hu.size
    exact ⟨v, b, rfl, hv, hq3, hb3, by omega, ⟨hu3.os.trans hu.os, hu3.tape.trans hu.tape, hu3.output.trans hu.output, Nat.le_trans hu.size hu3.size, fun k hk e => (hu3.block k (by omega) (by omega)).trans (hu.block k hk e)⟩⟩)
  clear hv hq3 hb3 hu3 E V2
  go_wp2_with fail
  go_ret
  exact F.out
end Go.Proofs.YtmenkckgpiafiaaGreat
