/-
  The laws' own awake().
-/
import Derived.Test.YtmenkckgpiafiaaGreatU
namespace Go.Proofs.YtmenkckgpiafiaaGreat
open Go.RowKit Go.Great

section
variable {P : Program} {ops : Array Oper} {rest : List Oper} {o : Oper} {a : Act} {Q : Exit → Act → World → Prop} {w : World}
theorem load_row_g (hw : Region.wanted o (yielded ops a.tmps) = true) (ty : TypeId) (x : Operand) (ho : o.op = .load ty x)
    (g : Nat) (hx : a.eval x = .pointer (some ⟨g, 0, none⟩)) (t : TypeId) (cs : Array Value) (fr : Nat × Nat) (d : TypeDesc) (hg : w.heap[g]? = some (.cells cs t fr))
    (hu : P.underlying ty = some d) (hd : (match d with | .struct _ | .array _ _ => true | _ => false) = true) (hi : (P.info? ty).map (·.size) = some cs.size)
    (h : wpList P ops Q rest (a.put o.dst (.agg cs)) w) : wpList P ops Q (o :: rest) a w :=
  wpList_step fun _ hK => by rw [if_pos hw]; exact wp_load_row ty x ho g hx t cs fr d hg hu hd hi (hK _ _ h)
end

theorem below_allocRow {B : Nat} {w W : World} (h : Below B w W) (hB : B ≤ W.heap.size) (c c' : Array Value) (t : TypeId) : Below B w ((W.alloc (.cells c t)).setRow W.heap.size c') := by
  have h1 := h.alloc hB (.cells c t)
  exact ⟨h1.os, h1.tape, h1.output, by rw [setRow_size]; exact h1.size, fun k hk => by rw [setRow_other _ _ _ _ (by omega)]; exact h1.block k hk⟩

def abS : ByteArray := ⟨#[97, 98]⟩
def sA : ByteArray := ⟨#[0, 0, 0, 11, 4, 0, 0, 0, 7, 0, 0, 0, 2, 97, 98]⟩
def sB : ByteArray := ⟨#[0, 0, 0, 11, 4]⟩
theorem packA : bs (pack 4 7 (str (tl abS))) = sA := by kernel_rfl
theorem gotA : gotP 1048576 (tl sA) = some (4 :: [0, 0, 0, 7, 0, 0, 0, 2, 97, 98]) := by kernel_rfl
theorem gotB : gotP 1048576 (tl sB) = none := by kernel_rfl
theorem c32A : (c32 (some [0, 0, 0, 7, 0, 0, 0, 2, 97, 98])).1 = 7 := by kernel_rfl
theorem cBA : bs (cB (c32 (some [0, 0, 0, 7, 0, 0, 0, 2, 97, 98])).2).1 = abS := by kernel_rfl
theorem cBA2 : (cB (c32 (some [0, 0, 0, 7, 0, 0, 0, 2, 97, 98])).2).2 = some [] := by kernel_rfl
theorem readA (w : World) : Calls Tryz.prog 21 #[.string sA, .int .u32 1048576] w fun e w' => e = .returned (.tuple #[.agg (pClose 7 abS), .int .i64 0]) ∧ Below w.heap.size w w' := by
  have h := readClose sA 1048576 _ _ w (fun _ => by kernel_rfl) (by decide) (by decide) (by omega) (by omega) gotA cBA2
  rw [c32A, cBA] at h
  exact h
theorem readB (w : World) : Calls Tryz.prog 21 #[.string sB, .int .u32 1048576] w fun e w' => e = .returned (.tuple #[.agg pZero, .int .i64 1]) ∧ Below w.heap.size w w' :=
  readNone sB 1048576 w (fun _ => by kernel_rfl) (by decide) (by decide) (by omega) (by omega) gotB

set_option maxRecDepth 5000 in
set_option maxHeartbeats 3200000 in
theorem awake (w : World) : Calls Tryz.prog 23 #[] w fun e w' => e = .returned (.bool true) ∧ Below w.heap.size w w' := by
  obtain ⟨W0, hW0⟩ : ∃ W, w.alloc (.cells pZero 29) = W := ⟨_, rfl⟩
  obtain ⟨W1, hW1⟩ : ∃ W, W0.setRow w.heap.size (pClose 7 abS) = W := ⟨_, rfl⟩
  have k0 : W0.heap[w.heap.size]? = some (.cells pZero 29 (0, 0)) := by rw [← hW0]; exact heap_alloc_new _ _
  have k1 : W1.heap[w.heap.size]? = some (.cells (pClose 7 abS) 29 (0, 0)) := by rw [← hW1]; exact setRow_blk k0
  have hB1 : Below w.heap.size w W1 := by rw [← hW1, ← hW0]; exact below_allocRow (Below.refl _ _) (Nat.le_refl _) _ _ _
  have BB1 := Lib.hid hB1
  have X0 := Lib.hid hW0
  have X1 := Lib.hid hW1
  have K0 := Lib.hid k0
  have K1 := Lib.hid k1
  clear hW0 hW1 k0 k1 hB1
  go_enter Tryz.func23, Tryz.ntmps23
  go_wp2_with (first
    | refine wpList_buildTo rfl 29 _ rfl (some 8) rfl (pClose 7 abS) (by as_aux_lemma => kernel_rfl) ?_
    | (refine wpList_allocTo rfl (some 1) rfl (.pointer (some ⟨w.heap.size, 0, none⟩)) (.cells pZero 29) (by as_aux_lemma => kernel_rfl) ?_; rw [X0.out])
    | (refine wpList_store_row rfl 29 _ _ rfl w.heap.size (pClose 7 abS) rfl rfl 29 pZero K0.out pinfoZ rfl (allOneC 7 abS) ?_; rw [X1.out])
    | refine wpList_load_row rfl 29 _ rfl w.heap.size rfl 29 (pClose 7 abS) (0, 0) _ K1.out Tryz.underlying29 rfl (pinfoC 7 abS) ?_)
  refine (writeClose 7 abS W1 (by decide) (by omega) (by omega)).mono ?_
  rintro e w2 ⟨rfl, hb2⟩
  rw [packA]
  have k2 : w2.heap[w.heap.size]? = some (.cells (pClose 7 abS) 29 (0, 0)) := by rw [hb2.block _ (lt_of_blk K1.out)]; exact K1.out
  have K2 := Lib.hid k2
  have BB2 := Lib.hid (BB1.out.trans (hb2.mono BB1.out.size))
  clear k2 hb2 BB1 K0 X0 X1 K1
  go_wp2_with fail
  refine (readA w2).mono ?_
  rintro e w3 ⟨rfl, hb3⟩
  have k3 : w3.heap[w.heap.size]? = some (.cells (pClose 7 abS) 29 (0, 0)) := by rw [hb3.block _ (lt_of_blk K2.out)]; exact K2.out
  obtain ⟨W4, hW4⟩ : ∃ W, w3.alloc (.cells pZero 29) = W := ⟨_, rfl⟩
  obtain ⟨W5, hW5⟩ : ∃ W, W4.setRow w3.heap.size (pClose 7 abS) = W := ⟨_, rfl⟩
  have l3 := lt_of_blk k3
  have k4 : W4.heap[w3.heap.size]? = some (.cells pZero 29 (0, 0)) := by rw [← hW4]; exact heap_alloc_new _ _
  have k5 : W5.heap[w3.heap.size]? = some (.cells (pClose 7 abS) 29 (0, 0)) := by rw [← hW5]; exact setRow_blk k4
  have j5 : W5.heap[w.heap.size]? = some (.cells (pClose 7 abS) 29 (0, 0)) := by rw [← hW5, setRow_other _ _ _ _ (by omega), ← hW4, heap_alloc_old _ _ l3]; exact k3
  have hB3 := BB2.out.trans (hb3.mono BB2.out.size)
  have hB5 : Below w.heap.size w W5 := by rw [← hW5, ← hW4]; exact below_allocRow hB3 hB3.size _ _ _
  have BB5 := Lib.hid hB5
  have X4 := Lib.hid hW4
  have X5 := Lib.hid hW5
  have K4 := Lib.hid k4
  have K5 := Lib.hid k5
  have J5 := Lib.hid j5
  clear hW4 hW5 k4 k5 j5 k3 hb3 K2 l3 hB3 hB5 BB2
  go_wp2_with (first
    | (refine wpList_allocTo rfl (some 4) rfl (.pointer (some ⟨w3.heap.size, 0, none⟩)) (.cells pZero 29) (by as_aux_lemma => kernel_rfl) ?_; rw [X4.out])
    | (refine wpList_store_row rfl 29 _ _ rfl w3.heap.size (pClose 7 abS) rfl rfl 29 pZero K4.out pinfoZ rfl (allOneC 7 abS) ?_; rw [X5.out]))
  rw [show sA.extract 0 (min (sA.size : Int) 5).toNat = sB from by kernel_rfl]
  refine (readB W5).mono ?_
  rintro e w6 ⟨rfl, hb6⟩
  have k6 := (hb6.block _ (lt_of_blk K5.out)).trans K5.out
  have j6 := (hb6.block _ (lt_of_blk J5.out)).trans J5.out
  obtain ⟨W7, hW7⟩ : ∃ W, w6.alloc (.cells pZero 29) = W := ⟨_, rfl⟩
  obtain ⟨W8, hW8⟩ : ∃ W, W7.setRow w6.heap.size pZero = W := ⟨_, rfl⟩
  have l6 := lt_of_blk k6
  have m6 := lt_of_blk j6
  have k7 : W7.heap[w6.heap.size]? = some (.cells pZero 29 (0, 0)) := by rw [← hW7]; exact heap_alloc_new _ _
  have k8 : W8.heap[w3.heap.size]? = some (.cells (pClose 7 abS) 29 (0, 0)) := by rw [← hW8, setRow_other _ _ _ _ (by omega), ← hW7, heap_alloc_old _ _ l6]; exact k6
  have j8 : W8.heap[w.heap.size]? = some (.cells (pClose 7 abS) 29 (0, 0)) := by rw [← hW8, setRow_other _ _ _ _ (by omega), ← hW7, heap_alloc_old _ _ m6]; exact j6
  have hB6 := BB5.out.trans (hb6.mono BB5.out.size)
  have hB8 : Below w.heap.size w W8 := by rw [← hW8, ← hW7]; exact below_allocRow hB6 hB6.size _ _ _
  have BB8 := Lib.hid hB8
  have X7 := Lib.hid hW7
  have X8 := Lib.hid hW8
  have K7 := Lib.hid k7
  have K8 := Lib.hid k8
  have J8 := Lib.hid j8
  clear hW7 hW8 k7 k8 j8 k6 j6 hb6 l6 m6 X4 X5 K4 K5 J5 hB6 hB8 BB5
  rw [show sA = ⟨#[0, 0, 0, 11, 4, 0, 0, 0, 7, 0, 0, 0, 2, 97, 98]⟩ from rfl]
  go_wp2_with (first
    | (refine wpList_allocTo rfl (some 6) rfl (.pointer (some ⟨w6.heap.size, 0, none⟩)) (.cells pZero 29) (by as_aux_lemma => kernel_rfl) ?_; rw [X7.out])
    | (refine wpList_store_row rfl 29 _ _ rfl w6.heap.size pZero rfl rfl 29 pZero K7.out pinfoZ rfl allOneZ ?_; rw [X8.out])
    | refine load_row_g (by rfl) 29 _ rfl w.heap.size rfl 29 (pClose 7 abS) (0, 0) _ J8.out Tryz.underlying29 rfl (pinfoC 7 abS) ?_
    | refine load_row_g (by rfl) 29 _ rfl w3.heap.size rfl 29 (pClose 7 abS) (0, 0) _ K8.out Tryz.underlying29 rfl (pinfoC 7 abS) ?_
    | (go_at_call 22; refine (same0 _).mono ?_; rintro e w' ⟨rfl, hb9⟩))
  go_ret
  exact ⟨rfl, BB8.out.trans (hb9.mono BB8.out.size)⟩
end Go.Proofs.YtmenkckgpiafiaaGreat
