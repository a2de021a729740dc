/-
  impl.plain at a close packet.
-/
import Derived.Test.YtmenkckgpiafiaaGreatQ
namespace Go.Proofs.YtmenkckgpiafiaaGreat
open Go.RowKit Go.Great

section
variable {P : Program}
/-- A struct in a variable and a slot, as results. -/
theorem results_ct {fn : Func} {p r : Tmp} {ty : TypeId} (h : fn.results = #[.cell p ty, .tmp r]) (tmps : Array Value) (w : World) (g : Nat) (t : TypeId) (cs : Array Value) (fr : Nat × Nat) (d : TypeDesc) (v : Value)
    (hp : tmps.getD p undef = .pointer (some ⟨g, 0, none⟩)) (hr : tmps.getD r undef = v) (hg : w.heap[g]? = some (.cells cs t fr))
    (hu : P.underlying ty = some d) (hd : (match d with | .struct _ | .array _ _ => true | _ => false) = true) (hi : (P.info? ty).map (·.size) = some cs.size) :
    (results fn tmps).run P w = .ok (.tuple #[.agg cs, v]) w := by
  have hp' : tmps[p]?.getD undef = .pointer (some ⟨g, 0, none⟩) := by simpa using hp
  have hr' : tmps[r]?.getD undef = v := by simpa using hr
  simp [results, h, hp', hr', asAddr, run_loadVar_row w g t ty cs fr d hg hu hd hi]
/-- A struct in a variable and an integer in a variable, as results. -/
theorem results_cc {fn : Func} {p r : Tmp} {ty tn : TypeId} (h : fn.results = #[.cell p ty, .cell r tn]) (tmps : Array Value) (w : World) (g g2 : Nat) (t : TypeId) (cs : Array Value) (fr : Nat × Nat) (d : TypeDesc) (v : Value)
    (hp : tmps.getD p undef = .pointer (some ⟨g, 0, none⟩)) (hr : tmps.getD r undef = .pointer (some ⟨g2, 0, none⟩)) (hg : w.heap[g]? = some (.cells cs t fr))
    (hu : P.underlying ty = some d) (hd : (match d with | .struct _ | .array _ _ => true | _ => false) = true) (hi : (P.info? ty).map (·.size) = some cs.size)
    (hl : (loadVar tn ⟨g2, 0, none⟩).run P w = .ok v w) :
    (results fn tmps).run P w = .ok (.tuple #[.agg cs, v]) w := by
  have hp' : tmps[p]?.getD undef = .pointer (some ⟨g, 0, none⟩) := by simpa using hp
  have hr' : tmps[r]?.getD undef = .pointer (some ⟨g2, 0, none⟩) := by simpa using hr
  simp [results, h, hp', hr', asAddr, run_loadVar_row w g t ty cs fr d hg hu hd hi, hl]
end

theorem typeClose (q : Value) (w : World) : Calls Tryz.prog 185 #[q] w fun e w' => e = .returned (.int .u8 4) ∧ w = w' := by
  go_enter Tryz.func185, Tryz.ntmps185
  go_wp2
  go_ret
  exact ⟨rfl, rfl⟩
theorem setRow_blk {w : World} {g : Nat} {cs cs' : Array Value} {t : TypeId} {f : Nat × Nat} (h : w.heap[g]? = some (.cells cs t f)) : (w.setRow g cs').heap[g]? = some (.cells cs' t f) := setRow_heap w g _ cs' t f h
theorem pinfoZ : (Tryz.prog.info? 29).map (·.size) = some pZero.size := pinfo
theorem allOneC (id : Int) (h : ByteArray) : (pClose id h).all (·.oneCell') = true := by kernel_rfl

set_option maxRecDepth 5000 in
set_option maxHeartbeats 1600000 in
theorem plainClose (id : Int) (h : ByteArray) (b : Nat) (w : World) (hb : w.heap[b]? = some (.cells #[.string h] 189 (0, 0))) :
    Calls Tryz.prog 61 #[.int .u32 id, .iface 187 (.pointer (some ⟨b, 0, none⟩))] w fun e w' => e = .returned (.tuple #[.agg (pClose id h), .bool true]) ∧ Below w.heap.size w w' := by
  have hbl := lt_of_blk hb
  have cb : w.cell? ⟨b, 0, none⟩ = some (.string h) := by rw [cell_of_blk hb]; rfl
  have HB := Lib.hid hb
  clear hb
  have ta : ∀ (v : Value) (w : World), (Instr.typeAssert (.iface 187 v) 106 184 true).run Tryz.prog w = .ok (.tuple #[.pointer none, .bool false]) w := fun _ _ => by kernel_rfl
  have tc : ∀ (v : Value) (w : World), (Instr.typeAssert (.iface 187 v) 106 187 true).run Tryz.prog w = .ok (.tuple #[v, .bool true]) w := fun _ _ => by kernel_rfl
  -- the worlds
  obtain ⟨W0, hW0⟩ : ∃ W, w.alloc (.cells pZero 29) = W := ⟨_, rfl⟩
  obtain ⟨W1, hW1⟩ : ∃ W, W0.alloc (.cells pZero 29) = W := ⟨_, rfl⟩
  obtain ⟨W2, hW2⟩ : ∃ W, W1.setRow W0.heap.size (pClose id ⟨#[]⟩) = W := ⟨_, rfl⟩
  have s0 : W0.heap.size = w.heap.size + 1 := by rw [← hW0]; simp
  have s1 : W1.heap.size = w.heap.size + 2 := by rw [← hW1]; simp; omega
  have k1 : W1.heap[W0.heap.size]? = some (.cells pZero 29 (0, 0)) := by rw [← hW1]; exact heap_alloc_new _ _
  have k2 : W2.heap[W0.heap.size]? = some (.cells (pClose id ⟨#[]⟩) 29 (0, 0)) := by rw [← hW2]; exact setRow_blk k1
  have j0 : W0.heap[w.heap.size]? = some (.cells pZero 29 (0, 0)) := by rw [← hW0]; exact heap_alloc_new _ _
  have j1 : W1.heap[w.heap.size]? = some (.cells pZero 29 (0, 0)) := by rw [← hW1, heap_alloc_old _ _ (by omega)]; exact j0
  have j2 : W2.heap[w.heap.size]? = some (.cells pZero 29 (0, 0)) := by rw [← hW2, setRow_other _ _ _ _ (by omega)]; exact j1
  have hbel : Below w.heap.size w W2 := by
    rw [← hW2]
    refine ⟨?_, ?_, ?_, by rw [setRow_size]; omega, fun k hk => ?_⟩
    · rw [← hW1, ← hW0]; rfl
    · rw [← hW1, ← hW0]; rfl
    · rw [← hW1, ← hW0]; rfl
    · rw [setRow_other _ _ _ _ (by omega), ← hW1, heap_alloc_old _ _ (by omega), ← hW0, heap_alloc_old _ _ (by omega)]
  have cb2 : W2.cell? ⟨b, 0, none⟩ = some (.string h) := by rw [cell_kept (hbel.block b hbl)]; exact cb
  have c4 : W2.cell? ⟨W0.heap.size, 4, none⟩ = some (.string ⟨#[]⟩) := by rw [cell_of_blk k2]; rfl
  have f4 : W2.frozen? ⟨W0.heap.size, 4, none⟩ = false := frozen_of_blk k2 4
  obtain ⟨W3, hW3⟩ : ∃ W, W2.setCell ⟨W0.heap.size, 4, none⟩ (.string h) = W := ⟨_, rfl⟩
  have k3 : W3.heap[W0.heap.size]? = some (.cells (pClose id h) 29 (0, 0)) := by rw [← hW3]; exact setCell_blk k2 _
  have j3 : W3.heap[w.heap.size]? = some (.cells pZero 29 (0, 0)) := by rw [← hW3, Below.heap_setCell _ _ _ _ (by show w.heap.size ≠ W0.heap.size; omega)]; exact j2
  have b3 : Below w.heap.size w W3 := by rw [← hW3]; exact hbel.setCell (by show w.heap.size ≤ W0.heap.size; omega) _
  have j4 : (W3.setRow w.heap.size (pClose id h)).heap[w.heap.size]? = some (.cells (pClose id h) 29 (0, 0)) := setRow_blk j3
  have b4 : Below w.heap.size w (W3.setRow w.heap.size (pClose id h)) := ⟨b3.os, b3.tape, b3.output, by rw [setRow_size]; exact b3.size, fun k hk => by rw [setRow_other _ _ _ _ (by omega)]; exact b3.block k hk⟩
  have X0 := Lib.hid hW0
  have X1 := Lib.hid hW1
  have X2 := Lib.hid hW2
  have X3 := Lib.hid hW3
  have K1 := Lib.hid k1
  have K3 := Lib.hid k3
  have J3 := Lib.hid j3
  have J4 := Lib.hid j4
  have B4 := Lib.hid b4
  clear hW0 hW1 hW2 hW3 k1 k2 k3 j0 j1 j2 j3 j4 b3 b4 hbel s0 s1 cb
  go_enter Tryz.func61, Tryz.ntmps61
  go_wp2_with (first
    | (refine wpList_allocTo rfl (some 4) rfl (.pointer (some ⟨w.heap.size, 0, none⟩)) (.cells pZero 29) (by as_aux_lemma => kernel_rfl) ?_; rw [X0.out])
    | (refine wpList_allocTo rfl (some 6) rfl (.pointer (some ⟨W0.heap.size, 0, none⟩)) (.cells pZero 29) (by as_aux_lemma => kernel_rfl) ?_; rw [X1.out])
    | refine wpList_buildTo rfl 29 _ rfl (some 41) rfl (pClose id ⟨#[]⟩) (by as_aux_lemma => kernel_rfl) ?_
    | (refine wpList_store_row rfl 29 _ _ rfl W0.heap.size (pClose id ⟨#[]⟩) rfl rfl 29 pZero K1.out (pinfoC id ⟨#[]⟩) rfl (allOneC id ⟨#[]⟩) ?_; rw [X2.out])
    | (refine at_dst 349 rfl ?_; rw [X3.out])
    | refine wpList_load_row rfl 29 _ rfl W0.heap.size rfl 29 (pClose id h) (0, 0) _ K3.out Tryz.underlying29 rfl (pinfoC id h) ?_
    | refine wpList_store_row rfl 29 _ _ rfl w.heap.size (pClose id h) rfl rfl 29 pZero J3.out (pinfoC id h) rfl (allOneC id h) ?_
    | (go_at_call 185; refine (typeClose _ _).mono ?_; rintro e w' ⟨rfl, rfl⟩))
  refine bodyPost_ret (results_ct Tryz.results61 _ _ w.heap.size 29 (pClose id h) (0, 0) _ _ rfl rfl J4.out Tryz.underlying29 rfl (pinfoC id h)) rfl ?_
  exact ⟨rfl, B4.out⟩
end Go.Proofs.YtmenkckgpiafiaaGreat
