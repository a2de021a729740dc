/-
  impl.Read at bytes that are no whole packet.
-/
import Derived.Test.YtmenkckgpiafiaaGreatS
namespace Go.Proofs.YtmenkckgpiafiaaGreat
open Go.RowKit Go.Great

theorem allOneZ : pZero.all (·.oneCell') = true := by kernel_rfl

set_option maxRecDepth 5000 in
set_option maxHeartbeats 3200000 in
theorem readNone (s : ByteArray) (M : Int) (w : World) (hi : ∀ w : World, (Instr.index 9 (.string s) (.int .i64 4)).run Tryz.prog w = .ok (.int .u8 4) w) (h4 : 4 < s.size) (hs : s.size ≤ 1000000000) (hM0 : 0 ≤ M) (hM : M ≤ 1000000000)
    (hg : gotP M (tl s) = none) :
    Calls Tryz.prog 21 #[.string s, .int .u32 M] w fun e w' => e = .returned (.tuple #[.agg pZero, .int .i64 1]) ∧ Below w.heap.size w w' := by
  have hmf : ∀ (fn : Fn) (first cap : Array Value) (w : World), (Instr.makeFunc fn first cap).run Tryz.prog w = .ok (.func fn first cap) w := fun _ _ _ _ => rfl
  have kb := fun W => Lib.run_convert_string_bytes (P := Tryz.prog) W 9 93 5 s Tryz.underlying9 Tryz.underlying93 Tryz.underlying5
  have i4 : (4 : Int) < (s.size : Int) := by omega
  obtain ⟨W0, hW0⟩ : ∃ W, (w.alloc (.cells pZero 29)).alloc (.cells #[.int .i64 0] 3) = W := ⟨_, rfl⟩
  have s0 : W0.heap.size = w.heap.size + 1 + 1 := by rw [← hW0]; simp
  have X0 := Lib.hid hW0
  have S0 := Lib.hid s0
  clear hW0 s0
  go_enter_defers Tryz.func21, Tryz.ntmps21
  go_wp2_with (first
    | (refine wpList_allocTo rfl (some 4) rfl (.pointer (some ⟨w.heap.size, 0, none⟩)) (.cells pZero 29) (by as_aux_lemma => kernel_rfl) ?_)
    | (refine at_dst 12 rfl ?_; rw [X0.out]))
  refine (resp4 _).mono ?_
  rintro e w' ⟨rfl, rfl⟩
  have hrr : (Lib.bytesWorld W0 5 s).heap.size = w.heap.size + 1 + 1 + 1 := by rw [Lib.bytesWorld_size, S0.out]
  obtain ⟨hR, hz0, hz1, hbe, hsz⟩ := readW_facts w W0 s X0.out
  rw [hrr, S0.out]
  unfold readW at hR hz0 hz1 hbe hsz
  clear hrr
  generalize (Lib.bytesWorld W0 5 s).alloc (.cells #[.slice (some ⟨w.heap.size + 1 + 1, 0, none⟩) s.size (grownCap W0 s.size 0 5)] 113) = W1 at hR hz0 hz1 hbe hsz ⊢
  have R1 := Lib.hid hR
  have Z0 := Lib.hid hz0
  have Z1 := Lib.hid hz1
  have B1 := Lib.hid hbe
  have S1 := Lib.hid hsz
  clear hR hz0 hz1 hbe hsz kb X0 S0
  obtain ⟨W2, hW2⟩ : ∃ W, W1.alloc (.cells #[.int .u32 0, .nilIface] 116) = W := ⟨_, rfl⟩
  have X2 := Lib.hid hW2
  clear hW2
  go_wp2_with fail
  rw [X2.out]
  have hz2 : W2.heap.size = W1.heap.size + 1 := by rw [← X2.out]; simp
  have hb2 : Below W1.heap.size W1 W2 := by rw [← X2.out]; exact (Below.refl _ _).alloc (Nat.le_refl _) _
  have hq2 : W2.heap[W1.heap.size]? = some (.cells #[.int .u32 0, .nilIface] 116 (0, 0)) := by rw [← X2.out]; exact heap_alloc_new _ _
  have e1 := S1.out
  have hR2 : Rd W2 (w.heap.size + 1 + 1 + 1) (w.heap.size + 1 + 1) (tl s) := R1.out.kept (hb2.block _ (by omega)) (hb2.block _ (by omega)) hb2.size
  refine (reqReadNone W1.heap.size (w.heap.size + 1 + 1 + 1) (w.heap.size + 1 + 1) (tl s) M W2 hR2 (by rw [tl_length]; exact hs) hM0 hM (by omega) hg).mono ?_
  rintro e w4 ⟨⟨t, x, rfl⟩, hu3⟩
  have z4 := hu3.size
  have y0 : w4.heap[w.heap.size]? = some (.cells pZero 29 (0, 0)) := by rw [hu3.block _ (by omega) (by omega), hb2.block _ (by omega)]; exact Z0.out
  have y1 : w4.heap[w.heap.size + 1]? = some (.cells #[.int .i64 0] 3 (0, 0)) := by rw [hu3.block _ (by omega) (by omega), hb2.block _ (by omega)]; exact Z1.out
  have yb : Below w.heap.size w w4 := (B1.out.trans (hb2.mono (by omega))).trans ⟨hu3.os, hu3.tape, hu3.output, hu3.size, fun k hk => hu3.block k (by omega) (by omega)⟩
  obtain ⟨W6, hW6⟩ : ∃ W, w4.setRow w.heap.size pZero = W := ⟨_, rfl⟩
  have a6 : W6.heap[w.heap.size]? = some (.cells pZero 29 (0, 0)) := by rw [← hW6]; exact setRow_blk y0
  have b6 : W6.heap[w.heap.size + 1]? = some (.cells #[.int .i64 0] 3 (0, 0)) := by rw [← hW6, setRow_other _ _ _ _ (by omega)]; exact y1
  have t6 : Below w.heap.size w W6 := by rw [← hW6]; exact ⟨yb.os, yb.tape, yb.output, by rw [setRow_size]; exact yb.size, fun k hk => by rw [setRow_other _ _ _ _ (by omega)]; exact yb.block k hk⟩
  have c6 : W6.cell? ⟨w.heap.size + 1, 0, none⟩ = some (.int .i64 0) := by rw [cell_of_blk b6]; rfl
  have f6 : W6.frozen? ⟨w.heap.size + 1, 0, none⟩ = false := frozen_of_blk b6 0
  have V0 := Lib.hid y0
  have X6 := Lib.hid hW6
  have A6 := Lib.hid a6
  have T6 := Lib.hid t6
  clear y0 y1 yb a6 b6 t6 hW6 Z0 Z1 B1 S1 e1 hu3 hb2 hq2 hR2 hz2 z4 R1 X2
  generalize W1.heap.size = q at *
  go_wp2_with (first
    | refine wpList_buildTo rfl 29 _ rfl (some 48) rfl pZero (by as_aux_lemma => kernel_rfl) ?_
    | (refine wpList_store_row rfl 29 _ _ rfl w.heap.size pZero rfl rfl 29 pZero V0.out pinfoZ rfl allOneZ ?_; rw [X6.out]))
  refine leaves_cons (f := 56) (args := #[.pointer (some ⟨w.heap.size, 0, none⟩), .pointer (some ⟨w.heap.size + 1, 0, none⟩)]) (by simp) (by simp [go_sem]) ?_
  refine (readIdle _ _ _).mono ?_
  rintro e u' w'' ⟨rfl, rfl, rfl⟩
  have r1 : (W6.setCell ⟨w.heap.size + 1, 0, none⟩ (.int .i64 1)).heap[w.heap.size]? = some (.cells pZero 29 (0, 0)) := by rw [Below.heap_setCell _ _ _ _ (by show w.heap.size ≠ w.heap.size + 1; omega)]; exact A6.out
  have r2 : (W6.setCell ⟨w.heap.size + 1, 0, none⟩ (.int .i64 1)).cell? ⟨w.heap.size + 1, 0, none⟩ = some (.int .i64 1) := sc_same c6
  have hfin : Below w.heap.size w (W6.setCell ⟨w.heap.size + 1, 0, none⟩ (.int .i64 1)) := T6.out.setCell (by simp) _
  generalize W6.setCell ⟨w.heap.size + 1, 0, none⟩ (.int .i64 1) = W7 at *
  have hl : (loadVar 3 ⟨w.heap.size + 1, 0, none⟩).run Tryz.prog W7 = .ok (.int .i64 1) W7 := by simp [go_sem, r2]
  exact ⟨_, results_cc Tryz.results21 _ _ w.heap.size (w.heap.size + 1) 29 pZero (0, 0) _ _ rfl rfl r1 Tryz.underlying29 rfl pinfoZ hl, rfl, hfin⟩
end Go.Proofs.YtmenkckgpiafiaaGreat
