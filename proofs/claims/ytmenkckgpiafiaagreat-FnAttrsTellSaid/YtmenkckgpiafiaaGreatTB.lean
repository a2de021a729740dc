/-
  Attributes tell what their flags say: impl.AttrsTell.
-/
import Derived.Test.YtmenkckgpiafiaaGreatTA
import Derived.Test.YtmenkckgpiafiaaGreatL
import Derived.Deep.QuietTactic
import Derived.BigQuiet
import Derived.OneCell
namespace Go.Proofs.YtmenkckgpiafiaaGreat
open Go.RowKit Go.Great Go.Proofs.YtmenkckgpiafiaaGreatW.PrintWords Go.Proofs.YtmenkckgpiafiaaGreatW.PrintLast Go.Proofs.YtmenkckgpiafiaaGreatW.PrintMore Go.Proofs.YtmenkckgpiafiaaGreat.KK

/-- Is a flag set? -/
def flg (f : Int) (k : Int) : Bool := bits .and .u32 f k != 0
theorem getSize (q : Nat) (f x : Int) (w : World) (h0 : w.cell? ⟨q, 0, none⟩ = some (.int .u32 f)) (h1 : w.cell? ⟨q, 1, none⟩ = some (.int .u64 x)) :
    Calls Tryz.prog 81 #[.pointer (some ⟨q, 0, none⟩)] w fun e w' => e = .returned (.tuple #[.int .u64 x, .bool (flg f 1)]) ∧ ∃ k, w' = w.drewN k := by
  go_enter Tryz.func81, Tryz.ntmps81
  go_wp2
  go_quiet (fail)
  go_wp2
  go_ret2
  exact ⟨rfl, _, rfl⟩
theorem getIDs (q : Nat) (f x y : Int) (w : World) (h0 : w.cell? ⟨q, 0, none⟩ = some (.int .u32 f)) (h1 : w.cell? ⟨q, 2, none⟩ = some (.int .u32 x)) (h2 : w.cell? ⟨q, 3, none⟩ = some (.int .u32 y)) :
    Calls Tryz.prog 82 #[.pointer (some ⟨q, 0, none⟩)] w fun e w' => e = .returned (.tuple #[.int .u32 x, .int .u32 y, .bool (flg f 2)]) ∧ ∃ k, w' = w.drewN k := by
  go_enter Tryz.func82, Tryz.ntmps82
  go_wp2
  go_quiet (fail)
  go_wp2
  go_ret3
  exact ⟨rfl, _, rfl⟩
theorem getMode (q : Nat) (f x : Int) (w : World) (h0 : w.cell? ⟨q, 0, none⟩ = some (.int .u32 f)) (h1 : w.cell? ⟨q, 4, none⟩ = some (.int .u32 x)) :
    Calls Tryz.prog 83 #[.pointer (some ⟨q, 0, none⟩)] w fun e w' => e = .returned (.tuple #[.int .u32 x, .bool (flg f 4)]) ∧ ∃ k, w' = w.drewN k := by
  go_enter Tryz.func83, Tryz.ntmps83
  go_wp2
  go_quiet (fail)
  go_wp2
  go_ret2
  exact ⟨rfl, _, rfl⟩
theorem getTimes (q : Nat) (f x y : Int) (w : World) (h0 : w.cell? ⟨q, 0, none⟩ = some (.int .u32 f)) (h1 : w.cell? ⟨q, 5, none⟩ = some (.int .u32 x)) (h2 : w.cell? ⟨q, 6, none⟩ = some (.int .u32 y)) :
    Calls Tryz.prog 84 #[.pointer (some ⟨q, 0, none⟩)] w fun e w' => e = .returned (.tuple #[.int .u32 x, .int .u32 y, .bool (flg f 8)]) ∧ ∃ k, w' = w.drewN k := by
  go_enter Tryz.func84, Tryz.ntmps84
  go_wp2
  go_quiet (fail)
  go_wp2
  go_ret3
  exact ⟨rfl, _, rfl⟩

theorem results_t10 {fn : Func} {a b c d e f g h i j : Tmp} (hr : fn.results = #[.tmp a, .tmp b, .tmp c, .tmp d, .tmp e, .tmp f, .tmp g, .tmp h, .tmp i, .tmp j]) {P : Program} (tmps : Array Value) (w : World) :
    (results fn tmps).run P w = .ok (.tuple #[tmps.getD a undef, tmps.getD b undef, tmps.getD c undef, tmps.getD d undef, tmps.getD e undef, tmps.getD f undef, tmps.getD g undef, tmps.getD h undef, tmps.getD i undef, tmps.getD j undef]) w := by
  simp [results, hr]
theorem ainfo : (Tryz.prog.info? 26).map (·.size) = some 8 := by kernel_rfl
theorem sinfo : (Tryz.prog.info? 139).map (·.size) = some 8 := by kernel_rfl
theorem ainfo8 (a b c d e f g : Int) (v : Value) : (Tryz.prog.info? 26).map (·.size) = some (at8 a b c d e f g v).size := ainfo
theorem sinfo8 (a b c d e f g : Int) (v : Value) : (Tryz.prog.info? 139).map (·.size) = some (at8 a b c d e f g v).size := sinfo
theorem one8 (a b c d e f g : Int) (A : Option Addr) (n c' : Nat) : (at8 a b c d e f g (.slice A n c')).all (·.oneCell') = true := by kernel_rfl
/-- Attributes of zeros. -/
def z8 : Array Value := at8 0 0 0 0 0 0 0 (.slice none 0 0)

/-- Nine numbers and flags as told. -/
def tellsV (a b c d e f g : Int) : Value := .tuple #[.int .u64 b, .bool (flg a 1), .int .u32 c, .int .u32 d, .bool (flg a 2), .int .u32 e, .bool (flg a 4), .int .u32 f, .int .u32 g, .bool (flg a 8)]
set_option maxRecDepth 5000 in
set_option maxHeartbeats 1600000 in
theorem attrsTell (a b c d e f g : Int) (A : Option Addr) (n cap : Nat) (l : List S89) (w : World) (hn : n = l.length) (hl : l.length ≤ 4398046511103) (hr : Kd.C k89 w A l.length l) (hc : l.length ≤ cap) :
    Calls Tryz.prog 38 #[.agg (at8 a b c d e f g (.slice A n cap))] w fun r w' => r = .returned (tellsV a b c d e f g) ∧ Below w.heap.size w w' := by
  subst hn
  obtain ⟨W0, hW0⟩ : ∃ W, w.alloc (.cells (at8 a b c d e f g (.slice A l.length cap)) 26) = W := ⟨_, rfl⟩
  have hb0 : Below w.heap.size w W0 := by rw [← hW0]; exact (Below.refl _ _).alloc (Nat.le_refl _) _
  have k0 : W0.heap[w.heap.size]? = some (.cells (at8 a b c d e f g (.slice A l.length cap)) 26 (0, 0)) := by rw [← hW0]; exact heap_alloc_new _ _
  have C := Lib.hid (attrsC a b c d e f g A l.length cap l W0 rfl hl (Kd.C_below hr hb0) hc)
  have X0 := Lib.hid hW0
  have B0 := Lib.hid hb0
  have K0 := Lib.hid k0
  clear hW0 hb0 k0 hr
  go_enter Tryz.func38, Tryz.ntmps38
  go_wp2_with (first
    | (refine wpList_boxTo rfl 26 _ rfl (some 1) rfl w.heap.size rfl (at8 a b c d e f g (.slice A l.length cap)) rfl ?_; rw [X0.out])
    | refine wpList_load_row rfl 26 _ rfl w.heap.size rfl 26 (at8 a b c d e f g (.slice A l.length cap)) (0, 0) _ K0.out Tryz.underlying26 rfl (ainfo8 _ _ _ _ _ _ _ _) ?_)
  refine C.out.mono ?_
  rintro r w1 ⟨v, rfl, hv, hb1⟩
  obtain ⟨A', c', rfl⟩ := Kd.R_slice hv
  generalize (l.map exOf).length = n' at *
  have hB1 : Below w.heap.size w w1 := B0.out.trans (hb1.mono B0.out.size)
  have z1 := hB1.size
  obtain ⟨W1, hW1⟩ : ∃ W, w1.alloc (.cells z8 139) = W := ⟨_, rfl⟩
  obtain ⟨W2, hW2⟩ : ∃ W, W1.setRow w1.heap.size (at8 a b c d e f g (.slice A' n' c')) = W := ⟨_, rfl⟩
  have k1 : W1.heap[w1.heap.size]? = some (.cells z8 139 (0, 0)) := by rw [← hW1]; exact heap_alloc_new _ _
  have k2 : W2.heap[w1.heap.size]? = some (.cells (at8 a b c d e f g (.slice A' n' c')) 139 (0, 0)) := by rw [← hW2]; exact setRow_heap _ _ _ _ _ _ k1
  have hB2 : Below w.heap.size w W2 := by
    have h1 := hB1.alloc z1 (.cells z8 139)
    rw [hW1] at h1
    rw [← hW2]
    exact ⟨h1.os, h1.tape, h1.output, by rw [setRow_size]; exact h1.size, fun k hk => by rw [setRow_other _ _ _ _ (by omega)]; exact h1.block k hk⟩
  have c0 : W2.cell? ⟨w1.heap.size, 0, none⟩ = some (.int .u32 a) := by rw [cell_of_blk k2]; rfl
  have c1 : W2.cell? ⟨w1.heap.size, 1, none⟩ = some (.int .u64 b) := by rw [cell_of_blk k2]; rfl
  have c2 : W2.cell? ⟨w1.heap.size, 2, none⟩ = some (.int .u32 c) := by rw [cell_of_blk k2]; rfl
  have c3 : W2.cell? ⟨w1.heap.size, 3, none⟩ = some (.int .u32 d) := by rw [cell_of_blk k2]; rfl
  have c4 : W2.cell? ⟨w1.heap.size, 4, none⟩ = some (.int .u32 e) := by rw [cell_of_blk k2]; rfl
  have c5 : W2.cell? ⟨w1.heap.size, 5, none⟩ = some (.int .u32 f) := by rw [cell_of_blk k2]; rfl
  have c6 : W2.cell? ⟨w1.heap.size, 6, none⟩ = some (.int .u32 g) := by rw [cell_of_blk k2]; rfl
  have X1 := Lib.hid hW1
  have X2 := Lib.hid hW2
  have K1 := Lib.hid k1
  have B2 := Lib.hid hB2
  clear hW1 hW2 k1 k2 hv hb1 hB1 hB2 z1 C B0 K0 X0
  go_wp2_with (first
    | (refine wpList_allocTo rfl (some 12) rfl (.pointer (some ⟨w1.heap.size, 0, none⟩)) (.cells z8 139) (by as_aux_lemma => kernel_rfl) ?_; rw [X1.out])
    | (refine wpList_store_row rfl 139 _ _ rfl w1.heap.size (at8 a b c d e f g (.slice A' n' c')) rfl rfl 139 z8 K1.out (sinfo8 _ _ _ _ _ _ _ _) rfl (one8 _ _ _ _ _ _ _ _ _ _) ?_; rw [X2.out]))
  refine (getSize _ _ _ _ c0 c1).mono ?_
  rintro r w3 ⟨rfl, j3, hw3⟩
  generalize hq : w1.heap.size = q at *
  have HQ := Lib.hid hq
  clear hq
  have S := Lib.hid (show ∀ m, Below w.heap.size w (W2.drewN m) from fun m => ⟨B2.out.os, B2.out.tape, B2.out.output, B2.out.size, B2.out.block⟩)
  have I := Lib.hid (fun m => getIDs q a c d (W2.drewN m) c0 c2 c3)
  have M := Lib.hid (fun m => getMode q a e (W2.drewN m) c0 c4)
  have T := Lib.hid (fun m => getTimes q a f g (W2.drewN m) c0 c5 c6)
  subst hw3
  clear c0 c1 c2 c3 c4 c5 c6 X1 X2 K1 B2 HQ
  go_wp2_with fail
  refine (I.out j3).mono ?_
  rintro r w4 ⟨rfl, j4, hw4⟩
  rw [World.drewN_drewN] at hw4
  subst hw4
  go_wp2_with fail
  refine (M.out _).mono ?_
  rintro r w5 ⟨rfl, j5, hw5⟩
  rw [World.drewN_drewN] at hw5
  subst hw5
  go_wp2_with fail
  refine (T.out _).mono ?_
  rintro r w6 ⟨rfl, j6, hw6⟩
  rw [World.drewN_drewN] at hw6
  subst hw6
  go_wp2_with fail
  refine bodyPost_ret (results_t10 Tryz.results38 _ _) rfl ?_
  exact ⟨rfl, S.out _⟩
end Go.Proofs.YtmenkckgpiafiaaGreat
