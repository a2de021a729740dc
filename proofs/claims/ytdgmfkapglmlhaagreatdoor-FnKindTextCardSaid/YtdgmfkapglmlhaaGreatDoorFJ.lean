/-
  Contracts of impl.entry and impl.List over a contract of ParseLine.
-/
import Derived.Test.YtdgmfkapglmlhaaGreatDoorFI
import Derived.StillTailTactics
import Derived.Defers
import Derived.Recover
import Derived.Great.Walk
import Derived.Laws.Rows
namespace Go.Proofs.YtdgmfkapglmlhaaGreatDoor
open Go.RowKit Go.Great

section
variable {P : Program}
/-- A struct in a variable, as a result. -/
theorem results_c {fn : Func} {p : Tmp} {ty : TypeId} (h : fn.results = #[.cell p ty]) (tmps : Array Value) (w : World) (g : Nat) (t : TypeId) (cs : Array Value) (fr : Nat × Nat) (d : TypeDesc)
    (hp : tmps.getD p undef = .pointer (some ⟨g, 0, none⟩)) (hg : w.heap[g]? = some (.cells cs t fr))
    (hu : P.underlying ty = some d) (hd : (match d with | .struct _ | .array _ _ => true | _ => false) = true) (hi : (P.info? ty).map (·.size) = some cs.size) :
    (results fn tmps).run P w = .ok (.agg cs) w := by
  have hp' : tmps[p]?.getD undef = .pointer (some ⟨g, 0, none⟩) := by simpa using hp
  simp [results, h, hp', asAddr, run_loadVar_row w g t ty cs fr d hg hu hd hi]
/-- A struct in a variable and an integer in a variable, as results. -/
theorem results_cc {fn : Func} {p r : Tmp} {ty tn : TypeId} (h : fn.results = #[.cell p ty, .cell r tn]) (tmps : Array Value) (w : World) (g g2 : Nat) (t : TypeId) (cs : Array Value) (fr : Nat × Nat) (d : TypeDesc) (v : Value)
    (hp : tmps.getD p undef = .pointer (some ⟨g, 0, none⟩)) (hr : tmps.getD r undef = .pointer (some ⟨g2, 0, none⟩)) (hg : w.heap[g]? = some (.cells cs t fr))
    (hu : P.underlying ty = some d) (hd : (match d with | .struct _ | .array _ _ => true | _ => false) = true) (hi : (P.info? ty).map (·.size) = some cs.size)
    (hl : (loadVar tn ⟨g2, 0, none⟩).run P w = .ok v w) :
    (results fn tmps).run P w = .ok (.tuple #[.agg cs, v]) w := by
  have hp' : tmps[p]?.getD undef = .pointer (some ⟨g, 0, none⟩) := by simpa using hp
  have hr' : tmps[r]?.getD undef = .pointer (some ⟨g2, 0, none⟩) := by simpa using hr
  simp [results, h, hp', hr', asAddr, run_loadVar_row w g t ty cs fr d hg hu hd hi, hl]
end
theorem sc_same {w : World} {a : Addr} {v u : Value} (h : w.cell? a = some u) : (w.setCell a v).cell? a = some v := World.cell?_setCell_same (w := w) (a := a) (v := v) h
section
variable {P : Program} {ops : Array Oper} {rest : List Oper} {o : Oper} {a : Act} {Q : Exit → Act → World → Prop} {w : World}
/-- At one operation, told by its slot: the walk may be stopped there to write its world anew. -/
theorem at_dst (n : Nat) (_hd : o.dst = some n) (h : wpList P ops Q (o :: rest) a w) : wpList P ops Q (o :: rest) a w := h
end
theorem einfo (nm tg : ByteArray) (ty sz tm : Int) : (Tryz.prog.info? 24).map (·.size) = some (ent nm tg ty sz tm).size := by kernel_rfl
theorem eone (nm tg : ByteArray) (ty sz tm : Int) : (ent nm tg ty sz tm).all (·.oneCell') = true := by kernel_rfl
theorem setRow_blk {w : World} {g : Nat} {cs cs' : Array Value} {t : TypeId} {f : Nat × Nat} (h : w.heap[g]? = some (.cells cs t f)) : (w.setRow g cs').heap[g]? = some (.cells cs' t f) := setRow_heap w g _ cs' t f h

theorem unix_any (t : Int) (w : World) (h0 : -10000000000000 ≤ t) (h1 : t ≤ 10000000000000) : Calls Tryz.prog 41 #[.int .i64 t] w fun e w' => e = .returned (.int .i64 (t - 62135596800)) ∧ w = w' := by
  go_enter Tryz.func41, Tryz.ntmps41
  go_wp2
  go_ret
  exact ⟨rfl, rfl⟩
theorem unixTime_any (t : Int) (w : World) (h0 : -10000000000000 ≤ t) (h1 : t ≤ 10000000000000) : Calls Tryz.prog 26 #[.int .i64 t] w fun e w' => e = .returned (.int .i64 (t + 62135596800)) ∧ w = w' := by
  go_enter Tryz.func26, Tryz.ntmps26
  go_wp2
  go_ret
  exact ⟨rfl, rfl⟩

def ent0 : Array Value := ent ⟨#[]⟩ ⟨#[]⟩ 0 0 0
set_option maxRecDepth 5000 in
set_option maxHeartbeats 1600000 in
theorem entry_any (x : Nat) (nm tg : ByteArray) (ty sz tm : Int) (w : World) (hx : w.heap[x]? = some (.cells (ent nm tg ty sz tm) 74 (0, 0))) (h0 : -10000000000000 ≤ tm) (h1 : tm ≤ 10000000000000) :
    Calls Tryz.prog 27 #[.pointer (some ⟨x, 0, none⟩)] w fun e w' => e = .returned (.agg (ent nm tg ty sz (tm - 62135596800))) ∧ Below w.heap.size w w' := by
  obtain ⟨W0, hW0⟩ : ∃ W, w.alloc (.cells ent0 24) = W := ⟨_, rfl⟩
  have hb0 : Below w.heap.size w W0 := by rw [← hW0]; exact (Below.refl _ _).alloc (Nat.le_refl _) _
  have k0 : W0.heap[w.heap.size]? = some (.cells ent0 24 (0, 0)) := by rw [← hW0]; exact heap_alloc_new _ _
  have x0 := (hb0.block x (lt_of_blk hx)).trans hx
  have c0 : W0.cell? ⟨x, 0, none⟩ = some (.string nm) := by rw [cell_of_blk x0]; rfl
  have c1 : W0.cell? ⟨x, 1, none⟩ = some (.string tg) := by rw [cell_of_blk x0]; rfl
  have c2 : W0.cell? ⟨x, 2, none⟩ = some (.int .i64 ty) := by rw [cell_of_blk x0]; rfl
  have c3 : W0.cell? ⟨x, 3, none⟩ = some (.int .u64 sz) := by rw [cell_of_blk x0]; rfl
  have c4 : W0.cell? ⟨x, 4, none⟩ = some (.int .i64 tm) := by rw [cell_of_blk x0]; rfl
  have X0 := Lib.hid hW0
  have B0 := Lib.hid hb0
  have K0 := Lib.hid k0
  clear hW0 hb0 k0 x0 hx
  go_enter Tryz.func27, Tryz.ntmps27
  go_wp2_with (refine wpList_allocTo rfl (some 2) rfl (.pointer (some ⟨w.heap.size, 0, none⟩)) (.cells ent0 24) (by as_aux_lemma => kernel_rfl) ?_; rw [X0.out])
  have U := (unix_any tm W0.drew h0 h1).mono fun e w' (h : e = .returned (.int .i64 (tm - 62135596800)) ∧ W0.drew = w') => (⟨h.1, h.2.symm⟩ : e = .returned (.int .i64 (tm - 62135596800)) ∧ w' = W0.drew)
  obtain ⟨W1, hW1⟩ : ∃ W, W0.drew.setRow w.heap.size (ent nm tg ty sz (tm - 62135596800)) = W := ⟨_, rfl⟩
  have k1 : W1.heap[w.heap.size]? = some (.cells (ent nm tg ty sz (tm - 62135596800)) 24 (0, 0)) := by rw [← hW1]; exact setRow_blk (w := W0.drew) K0.out
  have b1 : Below w.heap.size w W1 := by
    rw [← hW1]
    exact ⟨B0.out.os, B0.out.tape, B0.out.output, by rw [setRow_size]; exact (show w.heap.size ≤ W0.drew.heap.size from B0.out.size), fun k hk => by rw [setRow_other _ _ _ _ (by omega)]; exact (show W0.drew.heap[k]? = w.heap[k]? from B0.out.block k hk)⟩
  have k0d : W0.drew.heap[w.heap.size]? = some (.cells ent0 24 (0, 0)) := K0.out
  have K0D := Lib.hid k0d
  have K1 := Lib.hid k1
  have B1 := Lib.hid b1
  have X1 := Lib.hid hW1
  clear k1 b1 hW1 k0d
  go_still_tail 21, (by kernel_rfl)
  still_call U
  refine wpStill_nil ?_
  go_wp2_with (refine wpList_store_row rfl 24 _ _ rfl w.heap.size (ent nm tg ty sz (tm - 62135596800)) rfl rfl 24 ent0 K0D.out (einfo _ _ _ _ _) rfl (eone _ _ _ _ _) ?_; rw [X1.out])
  refine bodyPost_ret (results_c Tryz.results27 _ _ w.heap.size 24 (ent nm tg ty sz (tm - 62135596800)) (0, 0) _ rfl K1.out Tryz.underlying24 rfl (einfo _ _ _ _ _)) rfl ?_
  exact ⟨rfl, B1.out⟩

theorem listIdle (p q : Addr) (w : World) :
    CallsD Tryz.prog 24 #[.pointer (some p), .pointer (some q)] .returning w fun e u' w' => e = .returned (.tuple #[]) ∧ u' = .returning ∧ w' = w := by
  refine callsD_of_wpS Tryz.func24 rfl fun c₀ cs hu => ?_
  apply wpS_seq
  apply wpS_region
  simp [wpOpsS, go_sem, recoverD, hu, Tryz.ntmps24, Exit.thenS]
  refine wpS_cond (t := false) (by simp [Act.eval, Array.replicate]) ?_
  simp only [Bool.false_eq_true, if_false]
  refine wpS_of_wp (wp_skip ?_)
  cases c₀
  simp_all [bodyPostS, results, Tryz.results24]

/-- What ParseLine answers where a line is read. -/
def Parsed (nm tg : ByteArray) (ty sz tm : Int) (w : World) (e : Ending) (w' : World) : Prop :=
  (∃ x, e = .returned (.tuple #[.pointer (some ⟨x, 0, none⟩), .nilIface]) ∧ w'.heap[x]? = some (.cells (ent nm tg ty sz tm) 74 (0, 0))) ∧ Below w.heap.size w w'

set_option maxRecDepth 5000 in
set_option maxHeartbeats 1600000 in
theorem list_ok (kind : Int) (s : ByteArray) (now : Int) (nm tg : ByteArray) (ty sz tm : Int) (w : World) (n0 : -10000000000 ≤ now) (n1 : now ≤ 10000000000) (h0 : -10000000000000 ≤ tm) (h1 : tm ≤ 10000000000000)
    (C : ∀ W, Calls Tryz.prog 25 #[.int .i64 kind, .string s, .int .i64 (now + 62135596800)] W (Parsed nm tg ty sz tm W)) :
    Calls Tryz.prog 10 #[.int .i64 kind, .string s, .int .i64 now] w fun e w' => e = .returned (.tuple #[.agg (ent nm tg ty sz (tm - 62135596800)), .int .i64 0]) ∧ Below w.heap.size w w' := by
  have hmf : ∀ (fn : Fn) (first cap : Array Value) (w : World), (Instr.makeFunc fn first cap).run Tryz.prog w = .ok (.func fn first cap) w := fun _ _ _ _ => rfl
  obtain ⟨W0, hW0⟩ : ∃ W, (w.alloc (.cells ent0 24)).alloc (.cells #[.int .i64 0] 3) = W := ⟨_, rfl⟩
  have s0 : W0.heap.size = w.heap.size + 1 + 1 := by rw [← hW0]; simp
  have b0 : Below w.heap.size w W0 := by rw [← hW0]; exact ((Below.refl _ _).alloc (Nat.le_refl _) _).alloc (by simp) _
  have k0 : W0.heap[w.heap.size]? = some (.cells ent0 24 (0, 0)) := by rw [← hW0, heap_alloc_old _ _ (by simp)]; exact heap_alloc_new _ _
  have k1 : W0.heap[w.heap.size + 1]? = some (.cells #[.int .i64 0] 3 (0, 0)) := by
    rw [← hW0]
    have := heap_alloc_new (w.alloc (.cells ent0 24)) (.cells #[.int .i64 0] 3 (0, 0))
    rwa [show (w.alloc (.cells ent0 24)).heap.size = w.heap.size + 1 from by simp] at this
  have X0 := Lib.hid hW0
  have S0 := Lib.hid s0
  have B0 := Lib.hid b0
  have K0 := Lib.hid k0
  have K1 := Lib.hid k1
  have HC := Lib.hid C
  clear hW0 s0 b0 k0 k1 C
  go_enter_defers Tryz.func10, Tryz.ntmps10
  go_wp2_with (first
    | (refine wpList_allocTo rfl (some 6) rfl (.pointer (some ⟨w.heap.size, 0, none⟩)) (.cells ent0 24) (by as_aux_lemma => kernel_rfl) ?_)
    | (refine at_dst 10 rfl ?_; rw [X0.out])
    | (go_at_call 26; refine (unixTime_any _ _ (by omega) (by omega)).mono ?_; rintro e w' ⟨rfl, rfl⟩))
  refine (HC.out W0).mono ?_
  rintro e w1 ⟨⟨x, rfl, hx⟩, hb1⟩
  have z0 := S0.out
  have y0 := (hb1.block w.heap.size (by omega)).trans K0.out
  have y1 := (hb1.block (w.heap.size + 1) (by omega)).trans K1.out
  have yb : Below w.heap.size w w1 := B0.out.trans (hb1.mono (by omega))
  have z1 := hb1.size
  have E := Lib.hid (entry_any x nm tg ty sz tm w1 hx h0 h1)
  have Y0 := Lib.hid y0
  have Y1 := Lib.hid y1
  have YB := Lib.hid yb
  clear y0 y1 yb hx hb1 HC X0 S0 B0 K0 K1
  go_wp2_with fail
  refine E.out.mono ?_
  rintro e w2 ⟨rfl, hb2⟩
  have y0 := (hb2.block w.heap.size (by omega)).trans Y0.out
  have y1 := (hb2.block (w.heap.size + 1) (by omega)).trans Y1.out
  have yb : Below w.heap.size w w2 := YB.out.trans (hb2.mono (by omega))
  obtain ⟨W5, hW5⟩ : ∃ W, w2.setRow w.heap.size (ent nm tg ty sz (tm - 62135596800)) = W := ⟨_, rfl⟩
  have a5 : W5.heap[w.heap.size]? = some (.cells (ent nm tg ty sz (tm - 62135596800)) 24 (0, 0)) := by rw [← hW5]; exact setRow_blk y0
  have b5 : W5.heap[w.heap.size + 1]? = some (.cells #[.int .i64 0] 3 (0, 0)) := by rw [← hW5, setRow_other _ _ _ _ (by omega)]; exact y1
  have t5 : Below w.heap.size w W5 := by rw [← hW5]; exact ⟨yb.os, yb.tape, yb.output, by rw [setRow_size]; exact yb.size, fun k hk => by rw [setRow_other _ _ _ _ (by omega)]; exact yb.block k hk⟩
  have c5 : W5.cell? ⟨w.heap.size + 1, 0, none⟩ = some (.int .i64 0) := by rw [cell_of_blk b5]; rfl
  have f5 : W5.frozen? ⟨w.heap.size + 1, 0, none⟩ = false := frozen_of_blk b5 0
  have V0 := Lib.hid y0
  have X5 := Lib.hid hW5
  have A5 := Lib.hid a5
  have T5 := Lib.hid t5
  clear y0 y1 yb hW5 a5 b5 t5 hb2 E Y0 Y1 YB z0 z1
  go_wp2_with (first
    | (refine wpList_store_row rfl 24 _ _ rfl w.heap.size (ent nm tg ty sz (tm - 62135596800)) rfl rfl 24 ent0 V0.out (einfo _ _ _ _ _) rfl (eone _ _ _ _ _) ?_; rw [X5.out]))
  refine leaves_cons (f := 24) (args := #[.pointer (some ⟨w.heap.size, 0, none⟩), .pointer (some ⟨w.heap.size + 1, 0, none⟩)]) (by simp) (by simp [go_sem]) ?_
  refine (listIdle _ _ _).mono ?_
  rintro e u' w'' ⟨rfl, rfl, rfl⟩
  have r1 : (W5.setCell ⟨w.heap.size + 1, 0, none⟩ (.int .i64 0)).heap[w.heap.size]? = some (.cells (ent nm tg ty sz (tm - 62135596800)) 24 (0, 0)) := by rw [Below.heap_setCell _ _ _ _ (by show w.heap.size ≠ w.heap.size + 1; omega)]; exact A5.out
  have r2 : (W5.setCell ⟨w.heap.size + 1, 0, none⟩ (.int .i64 0)).cell? ⟨w.heap.size + 1, 0, none⟩ = some (.int .i64 0) := sc_same c5
  have hfin : Below w.heap.size w (W5.setCell ⟨w.heap.size + 1, 0, none⟩ (.int .i64 0)) := T5.out.setCell (by simp) _
  generalize W5.setCell ⟨w.heap.size + 1, 0, none⟩ (.int .i64 0) = W7 at *
  have hl : (loadVar 3 ⟨w.heap.size + 1, 0, none⟩).run Tryz.prog W7 = .ok (.int .i64 0) W7 := by simp [go_sem, r2]
  exact ⟨_, results_cc Tryz.results10 _ _ w.heap.size (w.heap.size + 1) 24 (ent nm tg ty sz (tm - 62135596800)) (0, 0) _ _ rfl rfl r1 Tryz.underlying24 rfl (einfo _ _ _ _ _) hl, rfl, hfin⟩
end Go.Proofs.YtdgmfkapglmlhaaGreatDoor
