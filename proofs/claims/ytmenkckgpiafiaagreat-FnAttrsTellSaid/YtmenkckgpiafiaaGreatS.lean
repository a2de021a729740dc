/-
  impl.Read at a close packet's bytes.
-/
import Derived.Test.YtmenkckgpiafiaaGreatR
namespace Go.Proofs.YtmenkckgpiafiaaGreat
open Go.RowKit Go.Great

theorem resp4 (w : World) : Calls Tryz.prog 58 #[.int .i64 4] w fun e w' => e = .returned .nilIface ∧ w = w' := by
  go_enter Tryz.func58, Tryz.ntmps58
  go_wp2
  go_ret
  exact ⟨rfl, rfl⟩

/-- A reader newly made over a string's bytes. -/
theorem Rd.new (W : World) (s : ByteArray) : Rd ((Lib.bytesWorld W 5 s).alloc (.cells #[.slice (some ⟨W.heap.size, 0, none⟩) s.size (grownCap W s.size 0 5)] 113)) (Lib.bytesWorld W 5 s).heap.size W.heap.size (tl s) := by
  have hz : (Lib.bytesWorld W 5 s).heap.size = W.heap.size + 1 := Lib.bytesWorld_size W _ s
  have hb := heap_alloc_new (Lib.bytesWorld W 5 s) (.cells #[.slice (some ⟨W.heap.size, 0, none⟩) s.size (grownCap W s.size 0 5)] 113 (0, 0))
  refine ⟨0, grownCap W s.size 0 5, by rw [tl_length]; exact hb, by rw [tl_length]; exact grownCap_ge _ _ _ _, ?_, by simp; omega⟩
  intro j b hj
  rw [cell_kept (heap_alloc_old _ _ (by omega))]
  exact bytes_src W _ s j b hj

/-- The world in which Read calls: two results, the bytes, the reader. -/
def readW (w W0 : World) (s : ByteArray) : World := (Lib.bytesWorld W0 5 s).alloc (.cells #[.slice (some ⟨w.heap.size + 1 + 1, 0, none⟩) s.size (grownCap W0 s.size 0 5)] 113)
theorem readW_facts (w W0 : World) (s : ByteArray) (hW0 : (w.alloc (.cells pZero 29)).alloc (.cells #[.int .i64 0] 3) = W0) :
    Rd (readW w W0 s) (w.heap.size + 1 + 1 + 1) (w.heap.size + 1 + 1) (tl s) ∧ (readW w W0 s).heap[w.heap.size]? = some (.cells pZero 29 (0, 0)) ∧ (readW w W0 s).heap[w.heap.size + 1]? = some (.cells #[.int .i64 0] 3 (0, 0)) ∧ Below w.heap.size w (readW w W0 s) ∧ (readW w W0 s).heap.size = w.heap.size + 1 + 1 + 1 + 1 := by
  have s0 : W0.heap.size = w.heap.size + 1 + 1 := by rw [← hW0]; simp
  have hR := Rd.new W0 s
  have hrr : (Lib.bytesWorld W0 5 s).heap.size = w.heap.size + 1 + 1 + 1 := by rw [Lib.bytesWorld_size, s0]
  rw [hrr, s0] at hR
  have hold : ∀ k, k < w.heap.size + 1 + 1 → (readW w W0 s).heap[k]? = W0.heap[k]? := fun k hk => by
    rw [readW, heap_alloc_old _ _ (by omega), Lib.bytesWorld_at_old _ _ _ _ (by rw [s0]; omega)]
  refine ⟨hR, ?_, ?_, ⟨?_, ?_, ?_, ?_, fun k hk => ?_⟩, ?_⟩
  · rw [hold _ (by omega), ← hW0, heap_alloc_old _ _ (by simp)]; exact heap_alloc_new _ _
  · rw [hold _ (by omega), ← hW0]
    have := heap_alloc_new (w.alloc (.cells pZero 29)) (.cells #[.int .i64 0] 3 (0, 0))
    rwa [show (w.alloc (.cells pZero 29)).heap.size = w.heap.size + 1 from by simp] at this
  · rw [← hW0]; rfl
  · rw [← hW0]; rfl
  · rw [← hW0]; rfl
  · simp [readW, hrr]; omega
  · rw [hold _ (by omega), ← hW0, heap_alloc_old _ _ (by simp; omega), heap_alloc_old _ _ hk]
  · simp [readW, hrr]

set_option maxRecDepth 5000 in
set_option maxHeartbeats 3200000 in
theorem readClose (s : ByteArray) (M : Int) (l r : List UInt8) (w : World) (hi : ∀ w : World, (Instr.index 9 (.string s) (.int .i64 4)).run Tryz.prog w = .ok (.int .u8 4) w) (h4 : 4 < s.size) (hs : s.size ≤ 1000000000) (hM0 : 0 ≤ M) (hM : M ≤ 1000000000)
    (hg : gotP M (tl s) = some (4 :: l)) (hr : (cB (c32 (some l)).2).2 = some r) :
    Calls Tryz.prog 21 #[.string s, .int .u32 M] w fun e w' => e = .returned (.tuple #[.agg (pClose (c32 (some l)).1 (bs (cB (c32 (some l)).2).1)), .int .i64 0]) ∧ Below w.heap.size w w' := by
  have hmf : ∀ (fn : Fn) (first cap : Array Value) (w : World), (Instr.makeFunc fn first cap).run Tryz.prog w = .ok (.func fn first cap) w := fun _ _ _ _ => rfl
  have kb := fun W => Lib.run_convert_string_bytes (P := Tryz.prog) W 9 93 5 s Tryz.underlying9 Tryz.underlying93 Tryz.underlying5
  have i4 : (4 : Int) < (s.size : Int) := by omega
  obtain ⟨W0, hW0⟩ : ∃ W, (w.alloc (.cells pZero 29)).alloc (.cells #[.int .i64 0] 3) = W := ⟨_, rfl⟩
  have s0 : W0.heap.size = w.heap.size + 1 + 1 := by rw [← hW0]; simp
  have X0 := Lib.hid hW0
  have S0 := Lib.hid s0
  clear hW0 s0
  go_enter_defers Tryz.func21, Tryz.ntmps21
  go_wp2_with (first
    | (refine wpList_allocTo rfl (some 4) rfl (.pointer (some ⟨w.heap.size, 0, none⟩)) (.cells pZero 29) (by as_aux_lemma => kernel_rfl) ?_)
    | (refine at_dst 12 rfl ?_; rw [X0.out]))
  refine (resp4 _).mono ?_
  rintro e w' ⟨rfl, rfl⟩
  have hrr : (Lib.bytesWorld W0 5 s).heap.size = w.heap.size + 1 + 1 + 1 := by rw [Lib.bytesWorld_size, S0.out]
  obtain ⟨hR, hz0, hz1, hbe, hsz⟩ := readW_facts w W0 s X0.out
  rw [hrr, S0.out]
  unfold readW at hR hz0 hz1 hbe hsz
  clear hrr
  generalize (Lib.bytesWorld W0 5 s).alloc (.cells #[.slice (some ⟨w.heap.size + 1 + 1, 0, none⟩) s.size (grownCap W0 s.size 0 5)] 113) = W1 at hR hz0 hz1 hbe hsz ⊢
  have R1 := Lib.hid hR
  have Z0 := Lib.hid hz0
  have Z1 := Lib.hid hz1
  have B1 := Lib.hid hbe
  have S1 := Lib.hid hsz
  clear hR hz0 hz1 hbe hsz kb X0 S0
  obtain ⟨W2, hW2⟩ : ∃ W, W1.alloc (.cells #[.int .u32 0, .nilIface] 116) = W := ⟨_, rfl⟩
  have X2 := Lib.hid hW2
  clear hW2
  go_wp2_with fail
  rw [X2.out]
  have hz2 : W2.heap.size = W1.heap.size + 1 := by rw [← X2.out]; simp
  have hb2 : Below W1.heap.size W1 W2 := by rw [← X2.out]; exact (Below.refl _ _).alloc (Nat.le_refl _) _
  have hq2 : W2.heap[W1.heap.size]? = some (.cells #[.int .u32 0, .nilIface] 116 (0, 0)) := by rw [← X2.out]; exact heap_alloc_new _ _
  have e1 := S1.out
  have hR2 : Rd W2 (w.heap.size + 1 + 1 + 1) (w.heap.size + 1 + 1) (tl s) := R1.out.kept (hb2.block _ (by omega)) (hb2.block _ (by omega)) hb2.size
  refine (reqReadSome 187 189 (c32 (some l)).1 #[.string (bs (cB (c32 (some l)).2).1)] (cB (c32 (some l)).2).2 W1.heap.size (w.heap.size + 1 + 1 + 1) (w.heap.size + 1 + 1) _ _ (tl s) (4 :: l) M W2 hq2 hR2 (by rw [tl_length]; exact hs) hM0 hM (by omega) (by omega) hg (fun g s' W h1 h2 h3 h4 => reqClose W1.heap.size g 0 s' _ _ l W h1 h2 h3 h4)).mono ?_
  rintro e w3 ⟨v, b, rfl, hv, hq3, hb3, hwb, hu3⟩
  rw [hr] at hv
  have hv' : v = .nilIface := hv
  subst hv'
  have z3 := hu3.size
  have y0 : w3.heap[w.heap.size]? = some (.cells pZero 29 (0, 0)) := by rw [hu3.block _ (by omega) (by omega), hb2.block _ (by omega)]; exact Z0.out
  have y1 : w3.heap[w.heap.size + 1]? = some (.cells #[.int .i64 0] 3 (0, 0)) := by rw [hu3.block _ (by omega) (by omega), hb2.block _ (by omega)]; exact Z1.out
  have yb : Below w.heap.size w w3 := (B1.out.trans (hb2.mono (by omega))).trans ⟨hu3.os, hu3.tape, hu3.output, hu3.size, fun k hk => hu3.block k (by omega) (by omega)⟩
  have q0 : w3.cell? ⟨W1.heap.size, 0, none⟩ = some (.int .u32 (c32 (some l)).1) := by rw [cell_of_blk hq3]; rfl
  have q1 : w3.cell? ⟨W1.heap.size, 1, none⟩ = some (.iface 187 (.pointer (some ⟨b, 0, none⟩))) := by rw [cell_of_blk hq3]; rfl
  have C3 := Lib.hid (fun k => plainClose (c32 (some l)).1 (bs (cB (c32 (some l)).2).1) b (w3.drewN k) hb3)
  have Y0 := Lib.hid y0
  have Y1 := Lib.hid y1
  have YB := Lib.hid yb
  clear y0 y1 yb hq3 hb3 hu3 hR2 hq2 hb2 R1 Z0 Z1 B1 X2 hv
  have zz := Lib.hid (show w.heap.size + 1 < w3.heap.size by omega)
  clear hz2 e1 z3 hwb S1
  generalize W1.heap.size = q at *
  go_wp2_with fail
  generalize hid0 : (c32 (some l)).1 = id at *
  generalize hhh0 : bs (cB (c32 (some l)).2).1 = h at *
  have hid := Lib.hid hid0
  have hhh := Lib.hid hhh0
  clear hid0 hhh0
  go_quiet (fail)
  go_wp2_with fail
  refine (C3.out _).mono ?_
  rintro e w4 ⟨rfl, hb4⟩
  have zz := zz.out
  have z4 := hb4.size
  have z4' : w3.heap.size ≤ w4.heap.size := z4
  have y0 : w4.heap[w.heap.size]? = some (.cells pZero 29 (0, 0)) := by rw [hb4.block _ (by show w.heap.size < w3.heap.size; omega)]; exact Y0.out
  have y1 : w4.heap[w.heap.size + 1]? = some (.cells #[.int .i64 0] 3 (0, 0)) := by rw [hb4.block _ (by show w.heap.size + 1 < w3.heap.size; omega)]; exact Y1.out
  have yb : Below w.heap.size w w4 := (⟨YB.out.os, YB.out.tape, YB.out.output, YB.out.size, YB.out.block⟩ : Below w.heap.size w (w3.drewN nq)).trans (hb4.mono (by show w.heap.size ≤ w3.heap.size; omega))
  obtain ⟨W5, hW5⟩ : ∃ W, w4.setRow w.heap.size (pClose id h) = W := ⟨_, rfl⟩
  obtain ⟨W6, hW6⟩ : ∃ W, W5.setRow w.heap.size (pClose id h) = W := ⟨_, rfl⟩
  have a5 : W5.heap[w.heap.size]? = some (.cells (pClose id h) 29 (0, 0)) := by rw [← hW5]; exact setRow_blk y0
  have b5 : W5.heap[w.heap.size + 1]? = some (.cells #[.int .i64 0] 3 (0, 0)) := by rw [← hW5, setRow_other _ _ _ _ (by omega)]; exact y1
  have t5 : Below w.heap.size w W5 := by rw [← hW5]; exact ⟨yb.os, yb.tape, yb.output, by rw [setRow_size]; exact yb.size, fun k hk => by rw [setRow_other _ _ _ _ (by omega)]; exact yb.block k hk⟩
  have a6 : W6.heap[w.heap.size]? = some (.cells (pClose id h) 29 (0, 0)) := by rw [← hW6]; exact setRow_blk a5
  have b6 : W6.heap[w.heap.size + 1]? = some (.cells #[.int .i64 0] 3 (0, 0)) := by rw [← hW6, setRow_other _ _ _ _ (by omega)]; exact b5
  have t6 : Below w.heap.size w W6 := by rw [← hW6]; exact ⟨t5.os, t5.tape, t5.output, by rw [setRow_size]; exact t5.size, fun k hk => by rw [setRow_other _ _ _ _ (by omega)]; exact t5.block k hk⟩
  have c6 : W6.cell? ⟨w.heap.size + 1, 0, none⟩ = some (.int .i64 0) := by rw [cell_of_blk b6]; rfl
  have f6 : W6.frozen? ⟨w.heap.size + 1, 0, none⟩ = false := frozen_of_blk b6 0
  have V0 := Lib.hid y0
  have X5 := Lib.hid hW5
  have X6 := Lib.hid hW6
  have A5 := Lib.hid a5
  have A6 := Lib.hid a6
  have T6 := Lib.hid t6
  clear y0 y1 yb a5 b5 t5 a6 b6 t6 hW5 hW6 hb4 C3 Y0 Y1 YB q0 q1
  go_wp2_with (first
    | (refine wpList_store_row rfl 29 _ _ rfl w.heap.size (pClose id h) rfl rfl 29 pZero V0.out (pinfoC id h) rfl (allOneC id h) ?_; rw [X5.out])
    | (refine wpList_load_row rfl 29 _ rfl w.heap.size rfl 29 (pClose id h) (0, 0) _ A5.out Tryz.underlying29 rfl (pinfoC id h) ?_)
    | (refine wpList_store_row rfl 29 _ _ rfl w.heap.size (pClose id h) rfl rfl 29 (pClose id h) A5.out (pinfoC id h) rfl (allOneC id h) ?_; rw [X6.out]))
  refine leaves_cons (f := 56) (args := #[.pointer (some ⟨w.heap.size, 0, none⟩), .pointer (some ⟨w.heap.size + 1, 0, none⟩)]) (by simp) (by simp [go_sem]) ?_
  refine (readIdle _ _ _).mono ?_
  rintro e u' w'' ⟨rfl, rfl, rfl⟩
  have r1 : (W6.setCell ⟨w.heap.size + 1, 0, none⟩ (.int .i64 0)).heap[w.heap.size]? = some (.cells (pClose id h) 29 (0, 0)) := by rw [Below.heap_setCell _ _ _ _ (by show w.heap.size ≠ w.heap.size + 1; omega)]; exact A6.out
  have r2 : (W6.setCell ⟨w.heap.size + 1, 0, none⟩ (.int .i64 0)).cell? ⟨w.heap.size + 1, 0, none⟩ = some (.int .i64 0) := sc_same c6
  have hfin : Below w.heap.size w (W6.setCell ⟨w.heap.size + 1, 0, none⟩ (.int .i64 0)) := T6.out.setCell (by simp) _
  generalize W6.setCell ⟨w.heap.size + 1, 0, none⟩ (.int .i64 0) = W7 at *
  have hl : (loadVar 3 ⟨w.heap.size + 1, 0, none⟩).run Tryz.prog W7 = .ok (.int .i64 0) W7 := by simp [go_sem, r2]
  exact ⟨_, results_cc Tryz.results21 _ _ w.heap.size (w.heap.size + 1) 29 (pClose id h) (0, 0) _ _ rfl rfl r1 Tryz.underlying29 rfl (pinfoC id h) hl, by rw [hid.out, hhh.out], hfin⟩
end Go.Proofs.YtmenkckgpiafiaaGreat
