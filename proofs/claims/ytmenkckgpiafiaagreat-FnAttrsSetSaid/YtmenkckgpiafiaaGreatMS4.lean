/-
  laws.FnAttrsSet answers true for every input, and the input reads as it did. No conditions.
-/
import Derived.Outline
import Derived.Lib.Hide
import Derived.Great.Walk
import Derived.Deep.QuietTactic
import Derived.BigQuiet
import Derived.OneCell
import Derived.Deep.DeepCutAuto
import Derived.Deep.RegionHeld3
import Derived.Deep.Slices
import Derived.Deep.Fields
import Derived.ChangeSame
import Derived.ChangeArms
import Derived.WideShapes
import Derived.Test.YtmenkckgpiafiaaGreatProg
import Derived.KernelRfl
import Derived.Test.YtmenkckgpiafiaaGreatRows
import Derived.ChangeSlices
import Derived.ShutString
import Derived.Test.YtmenkckgpiafiaaGreatMS1
import Derived.Test.YtmenkckgpiafiaaGreatMS2
import Derived.Test.YtmenkckgpiafiaaGreatMS3
namespace Go.Proofs.YtmenkckgpiafiaaGreat
open Go.RowKit Go.Great Go.Proofs.YtmenkckgpiafiaaGreatW.PrintWords Go.Proofs.YtmenkckgpiafiaaGreatW.PrintLast Go.Proofs.YtmenkckgpiafiaaGreatW.PrintMore Go.Proofs.YtmenkckgpiafiaaGreat.KK
/-- An extension of the program's. -/
def exOf (e : S89) : S266 := ⟨e.f0, e.f1⟩
def exTo (e : S266) : S89 := ⟨e.f0, e.f1⟩
theorem wrap_succ {i : Int} {n : Nat} (h0 : 0 ≤ i) (h : i < (n : Int)) (hn : n ≤ 4398046511104) : wrap64 (i + 1) = i + 1 := by
  unfold wrap64
  omega
theorem attrs_l0 (l : List S89) (hl : l.length ≤ 4398046511103) (a b c d e f g : Int) : ∀ (m : Nat) (k : Nat) (i : Nat) (acc : List S266), i + m = l.length → m < k → acc.length = i →
    PA.impl_attrs.l0 k l (l.length : Int) (i : Int) a b c d e f g acc = some (a, b, c, d, e, f, g, acc ++ (l.drop i).map exOf) := by
  intro m
  induction m with
  | zero =>
    intro k i acc hi hk ha
    obtain ⟨k, rfl⟩ : ∃ j, k = j + 1 := ⟨k - 1, by omega⟩
    simp only [PA.impl_attrs.l0]
    rw [if_neg (by omega), List.drop_of_length_le (by omega)]
    simp
  | succ m ih =>
    intro k i acc hi hk ha
    obtain ⟨k, rfl⟩ : ∃ j, k = j + 1 := ⟨k - 1, by omega⟩
    simp only [PA.impl_attrs.l0]
    rw [if_pos (by omega), if_pos (by omega), if_pos (by omega), if_pos (by omega), wrap_succ (by omega) (show (i : Int) < (l.length : Int) by omega) (by omega)]
    have hlt : i < l.length := by omega
    rw [show ((i : Int) + 1) = ((i + 1 : Nat) : Int) from by omega, ih k (i + 1) _ (by omega) (by omega) (by simp [ha])]
    rw [List.drop_eq_getElem_cons hlt, List.map_cons, List.append_assoc, List.singleton_append, show rd_T89 l (i : Int) = l[i] from by simp [rd_T89, List.getD_eq_getElem?_getD, List.getElem?_eq_getElem hlt]]
    rfl
theorem attrs_f (l : List S89) (hl : l.length ≤ 4398046511103) (a b c d e f g : Int) : PA.impl_attrs.f (l.length + 1) a b c d e f g l = some (a, b, c, d, e, f, g, l.map exOf) := by
  unfold PA.impl_attrs.f
  have h := attrs_l0 l hl a b c d e f g l.length (l.length + 1) 0 [] (by omega) (by omega) rfl
  simpa using h
theorem told_l0 (l : List S266) (hl : l.length ≤ 4398046511103) (a b c d e f g : Int) : ∀ (m : Nat) (k : Nat) (i : Nat) (acc : List S89), i + m = l.length → m < k → acc.length = i →
    PA.impl_told.l0 k l (l.length : Int) (i : Int) a b c d e f g acc = some (a, b, c, d, e, f, g, acc ++ (l.drop i).map exTo) := by
  intro m
  induction m with
  | zero =>
    intro k i acc hi hk ha
    obtain ⟨k, rfl⟩ : ∃ j, k = j + 1 := ⟨k - 1, by omega⟩
    simp only [PA.impl_told.l0]
    rw [if_neg (by omega), List.drop_of_length_le (by omega)]
    simp
  | succ m ih =>
    intro k i acc hi hk ha
    obtain ⟨k, rfl⟩ : ∃ j, k = j + 1 := ⟨k - 1, by omega⟩
    simp only [PA.impl_told.l0]
    rw [if_pos (by omega), if_pos (by omega), if_pos (by omega), if_pos (by omega), wrap_succ (by omega) (show (i : Int) < (l.length : Int) by omega) (by omega)]
    have hlt : i < l.length := by omega
    rw [show ((i : Int) + 1) = ((i + 1 : Nat) : Int) from by omega, ih k (i + 1) _ (by omega) (by omega) (by simp [ha])]
    rw [List.drop_eq_getElem_cons hlt, List.map_cons, List.append_assoc, List.singleton_append, show rd_T266 l (i : Int) = l[i] from by simp [rd_T266, List.getD_eq_getElem?_getD, List.getElem?_eq_getElem hlt]]
    rfl
theorem told_f (l : List S266) (hl : l.length ≤ 4398046511103) (a b c d e f g : Int) : PA.impl_told.f (l.length + 1) a b c d e f g l = some (a, b, c, d, e, f, g, l.map exTo) := by
  unfold PA.impl_told.f
  have h := told_l0 l hl a b c d e f g l.length (l.length + 1) 0 [] (by omega) (by omega) rfl
  simpa using h
/-- Eight cells: attributes whose extensions lie where a slice says. -/
def at8 (a b c d e f g : Int) (v : Value) : Array Value := #[.int .u32 a, .int .u64 b, .int .u32 c, .int .u32 d, .int .u32 e, .int .u32 f, .int .u32 g, v]
theorem attrsC (a b c d e f g : Int) (A : Option Addr) (n cap : Nat) (l : List S89) (w : World) (hn : n = l.length) (hl : l.length ≤ 4398046511103) (hr : Kd.C k89 w A l.length l) (hc : l.length ≤ cap) :
    Calls Tryz.prog 69 #[.agg (at8 a b c d e f g (.slice A n cap))] w fun r w' => ∃ v, r = .returned (.agg (at8 a b c d e f g v)) ∧ Kd.R k266 266 w' w.heap.size (fun _ => True) v (l.map exOf) ∧ Below w.heap.size w w' := by
  subst hn
  exact PA.impl_attrs.calls (l.length + 1) a b c d e f g A cap l a b c d e f g (l.map exOf) w hr hc (attrs_f l hl a b c d e f g)
theorem toldC (a b c d e f g : Int) (A : Option Addr) (n cap : Nat) (l : List S266) (w : World) (hn : n = l.length) (hl : l.length ≤ 4398046511103) (hr : Kd.C k266 w A l.length l) (hc : l.length ≤ cap) :
    Calls Tryz.prog 74 #[.agg (at8 a b c d e f g (.slice A n cap))] w fun r w' => ∃ v, r = .returned (.agg (at8 a b c d e f g v)) ∧ Kd.R k89 89 w' w.heap.size (fun _ => True) v (l.map exTo) ∧ Below w.heap.size w w' := by
  subst hn
  exact PA.impl_told.calls (l.length + 1) a b c d e f g A cap l a b c d e f g (l.map exTo) w hr hc (told_f l hl a b c d e f g)
end Go.Proofs.YtmenkckgpiafiaaGreat
namespace Go.Proofs.YtmenkckgpiafiaaGreat
open Go.RowKit Go.Great Go.Proofs.YtmenkckgpiafiaaGreatW.PrintWords Go.Proofs.YtmenkckgpiafiaaGreatW.PrintLast Go.Proofs.YtmenkckgpiafiaaGreatW.PrintMore Go.Proofs.YtmenkckgpiafiaaGreat.KK
/-- Is a flag set? -/
def flg (f : Int) (k : Int) : Bool := bits .and .u32 f k != 0
theorem ainfo : (Tryz.prog.info? 26).map (·.size) = some 8 := by kernel_rfl
theorem sinfo : (Tryz.prog.info? 139).map (·.size) = some 8 := by kernel_rfl
theorem ainfo8 (a b c d e f g : Int) (v : Value) : (Tryz.prog.info? 26).map (·.size) = some (at8 a b c d e f g v).size := ainfo
theorem sinfo8 (a b c d e f g : Int) (v : Value) : (Tryz.prog.info? 139).map (·.size) = some (at8 a b c d e f g v).size := sinfo
theorem one8 (a b c d e f g : Int) (A : Option Addr) (n c' : Nat) : (at8 a b c d e f g (.slice A n c')).all (·.oneCell') = true := by kernel_rfl
/-- Attributes of zeros. -/
def z8 : Array Value := at8 0 0 0 0 0 0 0 (.slice none 0 0)
end Go.Proofs.YtmenkckgpiafiaaGreat
namespace Go.Proofs.YtmenkckgpiafiaaGreat
open Go.RowKit Go.Great Go.Proofs.YtmenkckgpiafiaaGreatW.PrintWords Go.Proofs.YtmenkckgpiafiaaGreatW.PrintLast Go.Proofs.YtmenkckgpiafiaaGreatW.PrintMore Go.Proofs.YtmenkckgpiafiaaGreat.KK
theorem results_c1 {P : Program} {fn : Func} {p : Tmp} {ty : TypeId} (h : fn.results = #[.cell p ty]) (tmps : Array Value) (w : World) (g : Nat) (t : TypeId) (cs : Array Value) (fr : Nat × Nat) (d : TypeDesc)
    (hp : tmps.getD p undef = .pointer (some ⟨g, 0, none⟩)) (hg : w.heap[g]? = some (.cells cs t fr))
    (hu : P.underlying ty = some d) (hd : (match d with | .struct _ | .array _ _ => true | _ => false) = true) (hi : (P.info? ty).map (·.size) = some cs.size) :
    (results fn tmps).run P w = .ok (.agg cs) w := by
  have hp' : tmps[p]?.getD undef = .pointer (some ⟨g, 0, none⟩) := by simpa using hp
  simp [results, h, hp', asAddr, run_loadVar_row w g t ty cs fr d hg hu hd hi]
theorem setSize (q : Nat) (a b c d e f g x : Int) (v : Value) (w : World) (h : w.heap[q]? = some (.cells (at8 a b c d e f g v) 139 (0, 0))) :
    Calls Tryz.prog 86 #[.pointer (some ⟨q, 0, none⟩), .int .u64 x] w fun r w' => r = .returned (.tuple #[]) ∧ w'.heap[q]? = some (.cells (at8 (bits .or .u32 a 1) x c d e f g v) 139 (0, 0)) ∧ ∀ B, B ≤ q → Below B w w' := by
  have c0 : w.cell? ⟨q, 0, none⟩ = some (.int .u32 a) := by rw [cell_of_blk h]; rfl
  have f0 := frozen_of_blk h 0
  have c1 : w.cell? ⟨q, 1, none⟩ = some (.int .u64 b) := by rw [cell_of_blk h]; rfl
  have f1 := frozen_of_blk h 1
  have H := Lib.hid h
  clear h
  go_enter Tryz.func86, Tryz.ntmps86
  go_wp2
  go_end0
  exact ⟨rfl, (setCell_blk (i := 1) (setCell_blk (i := 0) H.out (.int .u32 (bits .or .u32 a 1))) (.int .u64 x)).trans rfl, fun B hB => ((Below.refl B w).setCell hB _).setCell hB _⟩
theorem setIDs (q : Nat) (a b c d e f g x y : Int) (v : Value) (w : World) (h : w.heap[q]? = some (.cells (at8 a b c d e f g v) 139 (0, 0))) :
    Calls Tryz.prog 87 #[.pointer (some ⟨q, 0, none⟩), .int .u32 x, .int .u32 y] w fun r w' => r = .returned (.tuple #[]) ∧ w'.heap[q]? = some (.cells (at8 (bits .or .u32 a 2) b x y e f g v) 139 (0, 0)) ∧ ∀ B, B ≤ q → Below B w w' := by
  have c0 : w.cell? ⟨q, 0, none⟩ = some (.int .u32 a) := by rw [cell_of_blk h]; rfl
  have f0 := frozen_of_blk h 0
  have c2 : w.cell? ⟨q, 2, none⟩ = some (.int .u32 c) := by rw [cell_of_blk h]; rfl
  have f2 := frozen_of_blk h 2
  have c3 : w.cell? ⟨q, 3, none⟩ = some (.int .u32 d) := by rw [cell_of_blk h]; rfl
  have f3 := frozen_of_blk h 3
  have H := Lib.hid h
  clear h
  go_enter Tryz.func87, Tryz.ntmps87
  go_wp2
  go_end0
  exact ⟨rfl, (setCell_blk (i := 3) (setCell_blk (i := 2) (setCell_blk (i := 0) H.out (.int .u32 (bits .or .u32 a 2))) (.int .u32 x)) (.int .u32 y)).trans rfl, fun B hB => (((Below.refl B w).setCell hB _).setCell hB _).setCell hB _⟩
theorem setMode (q : Nat) (a b c d e f g x : Int) (v : Value) (w : World) (h : w.heap[q]? = some (.cells (at8 a b c d e f g v) 139 (0, 0))) :
    Calls Tryz.prog 88 #[.pointer (some ⟨q, 0, none⟩), .int .u32 x] w fun r w' => r = .returned (.tuple #[]) ∧ w'.heap[q]? = some (.cells (at8 (bits .or .u32 a 4) b c d x f g v) 139 (0, 0)) ∧ ∀ B, B ≤ q → Below B w w' := by
  have c0 : w.cell? ⟨q, 0, none⟩ = some (.int .u32 a) := by rw [cell_of_blk h]; rfl
  have f0 := frozen_of_blk h 0
  have c4 : w.cell? ⟨q, 4, none⟩ = some (.int .u32 e) := by rw [cell_of_blk h]; rfl
  have f4 := frozen_of_blk h 4
  have H := Lib.hid h
  clear h
  go_enter Tryz.func88, Tryz.ntmps88
  go_wp2
  go_end0
  exact ⟨rfl, (setCell_blk (i := 4) (setCell_blk (i := 0) H.out (.int .u32 (bits .or .u32 a 4))) (.int .u32 x)).trans rfl, fun B hB => ((Below.refl B w).setCell hB _).setCell hB _⟩
theorem setTimes (q : Nat) (a b c d e f g x y : Int) (v : Value) (w : World) (h : w.heap[q]? = some (.cells (at8 a b c d e f g v) 139 (0, 0))) :
    Calls Tryz.prog 89 #[.pointer (some ⟨q, 0, none⟩), .int .u32 x, .int .u32 y] w fun r w' => r = .returned (.tuple #[]) ∧ w'.heap[q]? = some (.cells (at8 (bits .or .u32 a 8) b c d e x y v) 139 (0, 0)) ∧ ∀ B, B ≤ q → Below B w w' := by
  have c0 : w.cell? ⟨q, 0, none⟩ = some (.int .u32 a) := by rw [cell_of_blk h]; rfl
  have f0 := frozen_of_blk h 0
  have c5 : w.cell? ⟨q, 5, none⟩ = some (.int .u32 f) := by rw [cell_of_blk h]; rfl
  have f5 := frozen_of_blk h 5
  have c6 : w.cell? ⟨q, 6, none⟩ = some (.int .u32 g) := by rw [cell_of_blk h]; rfl
  have f6 := frozen_of_blk h 6
  have H := Lib.hid h
  clear h
  go_enter Tryz.func89, Tryz.ntmps89
  go_wp2
  go_end0
  exact ⟨rfl, (setCell_blk (i := 6) (setCell_blk (i := 5) (setCell_blk (i := 0) H.out (.int .u32 (bits .or .u32 a 8))) (.int .u32 x)) (.int .u32 y)).trans rfl, fun B hB => (((Below.refl B w).setCell hB _).setCell hB _).setCell hB _⟩
set_option maxRecDepth 5000 in
set_option maxHeartbeats 1600000 in
theorem attrsSet0 (a b c d e f g x y : Int) (A : Option Addr) (cap : Nat) (w : World) (x0 : 0 ≤ x) (x1 : x ≤ 18446744073709551615) :
    Calls Tryz.prog 41 #[.agg (at8 a b c d e f g (.slice A 0 cap)), .int .i64 0, .int .u64 x, .int .u64 y] w fun r w' => (∃ A' c', r = .returned (.agg (at8 (bits .or .u32 a 1) x c d e f g (.slice A' 0 c')))) ∧ Below w.heap.size w w' := by
  obtain ⟨W0, hW0⟩ : ∃ W, w.alloc (.cells (at8 a b c d e f g (.slice A 0 cap)) 26) = W := ⟨_, rfl⟩
  obtain ⟨Wr, hWr⟩ : ∃ W, W0.alloc (.cells z8 26) = W := ⟨_, rfl⟩
  have s0 : W0.heap.size = w.heap.size + 1 := by rw [← hW0]; simp
  have sr : Wr.heap.size = w.heap.size + 1 + 1 := by rw [← hWr, ← hW0]; simp
  have hb0 : Below w.heap.size w Wr := by rw [← hWr, ← hW0]; exact ((Below.refl _ _).alloc (Nat.le_refl _) _).alloc (by simp) _
  have k0 : Wr.heap[w.heap.size]? = some (.cells (at8 a b c d e f g (.slice A 0 cap)) 26 (0, 0)) := by rw [← hWr, heap_alloc_old _ _ (by omega), ← hW0]; exact heap_alloc_new _ _
  have kr : Wr.heap[w.heap.size + 1]? = some (.cells z8 26 (0, 0)) := by rw [← hWr, ← s0]; exact heap_alloc_new _ _
  have hC0 : Kd.C k89 Wr A ([] : List S89).length [] := ⟨rfl, by simp, fun h => by simp at h⟩
  have C := Lib.hid (attrsC a b c d e f g A 0 cap [] Wr rfl (by simp) hC0 (by simp))
  have X0 := Lib.hid hW0
  have Xr := Lib.hid hWr
  have B0 := Lib.hid hb0
  have K0 := Lib.hid k0
  have KR := Lib.hid kr
  have S0 := Lib.hid s0
  have SR := Lib.hid sr
  clear hW0 hWr hb0 k0 kr s0 sr hC0
  go_enter Tryz.func41, Tryz.ntmps41
  go_wp2_with (first
    | (refine wpList_boxTo rfl 26 _ rfl (some 4) rfl w.heap.size rfl (at8 a b c d e f g (.slice A 0 cap)) rfl ?_; rw [X0.out])
    | (refine wpList_allocTo rfl (some 8) rfl (.pointer (some ⟨w.heap.size + 1, 0, none⟩)) (.cells z8 26) (by rw [← S0.out]; (as_aux_lemma => kernel_rfl)) ?_; rw [Xr.out])
    | refine wpList_load_row rfl 26 _ rfl w.heap.size rfl 26 (at8 a b c d e f g (.slice A 0 cap)) (0, 0) _ K0.out Tryz.underlying26 rfl (ainfo8 _ _ _ _ _ _ _ _) ?_)
  refine C.out.mono ?_
  rintro r w1 ⟨v, rfl, hv, hb1⟩
  obtain ⟨A', c', rfl⟩ := Kd.R_slice hv
  have hB1 : Below w.heap.size w w1 := B0.out.trans (hb1.mono B0.out.size)
  have z1 := hB1.size
  have y1 := hb1.size
  rw [SR.out] at y1
  have kr1 := (hb1.block _ (lt_of_blk KR.out)).trans KR.out
  obtain ⟨W1, hW1⟩ : ∃ W, w1.alloc (.cells z8 139) = W := ⟨_, rfl⟩
  obtain ⟨W2, hW2⟩ : ∃ W, W1.setRow w1.heap.size (at8 a b c d e f g (.slice A' 0 c')) = W := ⟨_, rfl⟩
  have k1 : W1.heap[w1.heap.size]? = some (.cells z8 139 (0, 0)) := by rw [← hW1]; exact heap_alloc_new _ _
  have k2 : W2.heap[w1.heap.size]? = some (.cells (at8 a b c d e f g (.slice A' 0 c')) 139 (0, 0)) := by rw [← hW2]; exact setRow_heap _ _ _ _ _ _ k1
  have kr2 : W2.heap[w.heap.size + 1]? = some (.cells z8 26 (0, 0)) := by rw [← hW2, setRow_other _ _ _ _ (by omega), ← hW1, heap_alloc_old _ _ (by omega)]; exact kr1
  have hB2 : Below w.heap.size w W2 := by
    have h1 := hB1.alloc z1 (.cells z8 139)
    rw [hW1] at h1
    rw [← hW2]
    exact ⟨h1.os, h1.tape, h1.output, by rw [setRow_size]; exact h1.size, fun k hk => by rw [setRow_other _ _ _ _ (by omega)]; exact h1.block k hk⟩
  have hne : w.heap.size + 1 ≠ w1.heap.size := by omega
  have hle : w.heap.size ≤ w1.heap.size := by omega
  have hlt : w.heap.size + 1 < w1.heap.size := by omega
  have X1 := Lib.hid hW1
  have X2 := Lib.hid hW2
  have K1 := Lib.hid k1
  have K2 := Lib.hid k2
  have KR2 := Lib.hid kr2
  have B2 := Lib.hid hB2
  clear hW1 hW2 k1 k2 hv hb1 hB1 hB2 z1 y1 C B0 K0 X0 Xr KR S0 SR kr1 kr2
  go_wp2_with (first
    | (refine wpList_allocTo rfl (some 9) rfl (.pointer (some ⟨w1.heap.size, 0, none⟩)) (.cells z8 139) (by as_aux_lemma => kernel_rfl) ?_; rw [X1.out])
    | (refine wpList_store_row rfl 139 _ _ rfl w1.heap.size (at8 a b c d e f g (.slice A' 0 c')) rfl rfl 139 z8 K1.out (sinfo8 _ _ _ _ _ _ _ _) rfl (one8 _ _ _ _ _ _ _ _ _ _) ?_; rw [X2.out]))
  refine (setSize _ a b c d e f g x _ _ K2.out).mono ?_
  rintro r w3 ⟨rfl, k3, hb3⟩
  have kr3 := ((hb3 _ (Nat.le_refl _)).block _ (by omega)).trans KR2.out
  have hB3 : Below w.heap.size w w3 := B2.out.trans (hb3 _ hle)
  have hC3 : Kd.C k266 w3 A' ([] : List S266).length [] := ⟨rfl, by simp, fun h => by simp at h⟩
  have T3 := Lib.hid (toldC (bits .or .u32 a 1) x c d e f g A' 0 c' [] w3 rfl (by simp) hC3 (by simp))
  have K3 := Lib.hid k3
  have KR3 := Lib.hid kr3
  have B3 := Lib.hid hB3
  clear k3 kr3 hB3 hC3 hb3 X1 X2 K1 K2 KR2 B2
  go_wp2_with (refine wpList_load_row rfl 139 _ rfl w1.heap.size rfl 139 (at8 (bits .or .u32 a 1) x c d e f g (.slice A' 0 c')) (0, 0) _ K3.out Tryz.underlying139 rfl (sinfo8 _ _ _ _ _ _ _ _) ?_)
  refine T3.out.mono ?_
  rintro r w4 ⟨v4, rfl, hv4, hb4⟩
  obtain ⟨A4, c4, rfl⟩ := Kd.R_slice hv4
  have kr4 := (hb4.block _ (lt_of_blk KR3.out)).trans KR3.out
  have hB4 : Below w.heap.size w w4 := B3.out.trans (hb4.mono B3.out.size)
  obtain ⟨W5, hW5⟩ : ∃ W, w4.setRow (w.heap.size + 1) (at8 (bits .or .u32 a 1) x c d e f g (.slice A4 0 c4)) = W := ⟨_, rfl⟩
  have kr5 : W5.heap[w.heap.size + 1]? = some (.cells (at8 (bits .or .u32 a 1) x c d e f g (.slice A4 0 c4)) 26 (0, 0)) := by rw [← hW5]; exact setRow_heap _ _ _ _ _ _ kr4
  have hB5 : Below w.heap.size w W5 := by
    rw [← hW5]
    exact ⟨hB4.os, hB4.tape, hB4.output, by rw [setRow_size]; exact hB4.size, fun k hk => by rw [setRow_other _ _ _ _ (by omega)]; exact hB4.block k hk⟩
  have KR4 := Lib.hid kr4
  have KR5 := Lib.hid kr5
  have B5 := Lib.hid hB5
  have X5 := Lib.hid hW5
  clear kr4 kr5 hB4 hB5 hb4 hv4 hW5 T3 K3 KR3 B3
  go_wp2_with (refine wpList_store_row rfl 26 _ _ rfl (w.heap.size + 1) (at8 (bits .or .u32 a 1) x c d e f g (.slice A4 0 c4)) rfl rfl 26 z8 KR4.out (ainfo8 _ _ _ _ _ _ _ _) rfl (one8 _ _ _ _ _ _ _ _ _ _) ?_; rw [X5.out])
  refine bodyPost_ret (results_c1 Tryz.results41 _ _ (w.heap.size + 1) 26 (at8 (bits .or .u32 a 1) x c d e f g (.slice A4 0 c4)) (0, 0) _ rfl KR5.out Tryz.underlying26 rfl (ainfo8 _ _ _ _ _ _ _ _)) rfl ?_
  exact ⟨⟨A4, c4, rfl⟩, B5.out⟩
set_option maxRecDepth 5000 in
set_option maxHeartbeats 1600000 in
theorem attrsSet1 (a b c d e f g x y : Int) (A : Option Addr) (cap : Nat) (w : World) (x0 : 0 ≤ x) (x1 : x ≤ 4294967295) (y0 : 0 ≤ y) (y1 : y ≤ 4294967295) :
    Calls Tryz.prog 41 #[.agg (at8 a b c d e f g (.slice A 0 cap)), .int .i64 1, .int .u64 x, .int .u64 y] w fun r w' => (∃ A' c', r = .returned (.agg (at8 (bits .or .u32 a 2) b x y e f g (.slice A' 0 c')))) ∧ Below w.heap.size w w' := by
  obtain ⟨W0, hW0⟩ : ∃ W, w.alloc (.cells (at8 a b c d e f g (.slice A 0 cap)) 26) = W := ⟨_, rfl⟩
  obtain ⟨Wr, hWr⟩ : ∃ W, W0.alloc (.cells z8 26) = W := ⟨_, rfl⟩
  have s0 : W0.heap.size = w.heap.size + 1 := by rw [← hW0]; simp
  have sr : Wr.heap.size = w.heap.size + 1 + 1 := by rw [← hWr, ← hW0]; simp
  have hb0 : Below w.heap.size w Wr := by rw [← hWr, ← hW0]; exact ((Below.refl _ _).alloc (Nat.le_refl _) _).alloc (by simp) _
  have k0 : Wr.heap[w.heap.size]? = some (.cells (at8 a b c d e f g (.slice A 0 cap)) 26 (0, 0)) := by rw [← hWr, heap_alloc_old _ _ (by omega), ← hW0]; exact heap_alloc_new _ _
  have kr : Wr.heap[w.heap.size + 1]? = some (.cells z8 26 (0, 0)) := by rw [← hWr, ← s0]; exact heap_alloc_new _ _
  have hC0 : Kd.C k89 Wr A ([] : List S89).length [] := ⟨rfl, by simp, fun h => by simp at h⟩
  have C := Lib.hid (attrsC a b c d e f g A 0 cap [] Wr rfl (by simp) hC0 (by simp))
  have X0 := Lib.hid hW0
  have Xr := Lib.hid hWr
  have B0 := Lib.hid hb0
  have K0 := Lib.hid k0
  have KR := Lib.hid kr
  have S0 := Lib.hid s0
  have SR := Lib.hid sr
  clear hW0 hWr hb0 k0 kr s0 sr hC0
  go_enter Tryz.func41, Tryz.ntmps41
  go_wp2_with (first
    | (refine wpList_boxTo rfl 26 _ rfl (some 4) rfl w.heap.size rfl (at8 a b c d e f g (.slice A 0 cap)) rfl ?_; rw [X0.out])
    | (refine wpList_allocTo rfl (some 8) rfl (.pointer (some ⟨w.heap.size + 1, 0, none⟩)) (.cells z8 26) (by rw [← S0.out]; (as_aux_lemma => kernel_rfl)) ?_; rw [Xr.out])
    | refine wpList_load_row rfl 26 _ rfl w.heap.size rfl 26 (at8 a b c d e f g (.slice A 0 cap)) (0, 0) _ K0.out Tryz.underlying26 rfl (ainfo8 _ _ _ _ _ _ _ _) ?_)
  refine C.out.mono ?_
  rintro r w1 ⟨v, rfl, hv, hb1⟩
  obtain ⟨A', c', rfl⟩ := Kd.R_slice hv
  have hB1 : Below w.heap.size w w1 := B0.out.trans (hb1.mono B0.out.size)
  have z1 := hB1.size
  have y1 := hb1.size
  rw [SR.out] at y1
  have kr1 := (hb1.block _ (lt_of_blk KR.out)).trans KR.out
  obtain ⟨W1, hW1⟩ : ∃ W, w1.alloc (.cells z8 139) = W := ⟨_, rfl⟩
  obtain ⟨W2, hW2⟩ : ∃ W, W1.setRow w1.heap.size (at8 a b c d e f g (.slice A' 0 c')) = W := ⟨_, rfl⟩
  have k1 : W1.heap[w1.heap.size]? = some (.cells z8 139 (0, 0)) := by rw [← hW1]; exact heap_alloc_new _ _
  have k2 : W2.heap[w1.heap.size]? = some (.cells (at8 a b c d e f g (.slice A' 0 c')) 139 (0, 0)) := by rw [← hW2]; exact setRow_heap _ _ _ _ _ _ k1
  have kr2 : W2.heap[w.heap.size + 1]? = some (.cells z8 26 (0, 0)) := by rw [← hW2, setRow_other _ _ _ _ (by omega), ← hW1, heap_alloc_old _ _ (by omega)]; exact kr1
  have hB2 : Below w.heap.size w W2 := by
    have h1 := hB1.alloc z1 (.cells z8 139)
    rw [hW1] at h1
    rw [← hW2]
    exact ⟨h1.os, h1.tape, h1.output, by rw [setRow_size]; exact h1.size, fun k hk => by rw [setRow_other _ _ _ _ (by omega)]; exact h1.block k hk⟩
  have hne : w.heap.size + 1 ≠ w1.heap.size := by omega
  have hle : w.heap.size ≤ w1.heap.size := by omega
  have hlt : w.heap.size + 1 < w1.heap.size := by omega
  have X1 := Lib.hid hW1
  have X2 := Lib.hid hW2
  have K1 := Lib.hid k1
  have K2 := Lib.hid k2
  have KR2 := Lib.hid kr2
  have B2 := Lib.hid hB2
  clear hW1 hW2 k1 k2 hv hb1 hB1 hB2 z1 y1 C B0 K0 X0 Xr KR S0 SR kr1 kr2
  go_wp2_with (first
    | (refine wpList_allocTo rfl (some 9) rfl (.pointer (some ⟨w1.heap.size, 0, none⟩)) (.cells z8 139) (by as_aux_lemma => kernel_rfl) ?_; rw [X1.out])
    | (refine wpList_store_row rfl 139 _ _ rfl w1.heap.size (at8 a b c d e f g (.slice A' 0 c')) rfl rfl 139 z8 K1.out (sinfo8 _ _ _ _ _ _ _ _) rfl (one8 _ _ _ _ _ _ _ _ _ _) ?_; rw [X2.out]))
  refine (setIDs _ a b c d e f g x y _ _ K2.out).mono ?_
  rintro r w3 ⟨rfl, k3, hb3⟩
  have kr3 := ((hb3 _ (Nat.le_refl _)).block _ (by omega)).trans KR2.out
  have hB3 : Below w.heap.size w w3 := B2.out.trans (hb3 _ hle)
  have hC3 : Kd.C k266 w3 A' ([] : List S266).length [] := ⟨rfl, by simp, fun h => by simp at h⟩
  have T3 := Lib.hid (toldC (bits .or .u32 a 2) b x y e f g A' 0 c' [] w3 rfl (by simp) hC3 (by simp))
  have K3 := Lib.hid k3
  have KR3 := Lib.hid kr3
  have B3 := Lib.hid hB3
  clear k3 kr3 hB3 hC3 hb3 X1 X2 K1 K2 KR2 B2
  go_wp2_with (refine wpList_load_row rfl 139 _ rfl w1.heap.size rfl 139 (at8 (bits .or .u32 a 2) b x y e f g (.slice A' 0 c')) (0, 0) _ K3.out Tryz.underlying139 rfl (sinfo8 _ _ _ _ _ _ _ _) ?_)
  refine T3.out.mono ?_
  rintro r w4 ⟨v4, rfl, hv4, hb4⟩
  obtain ⟨A4, c4, rfl⟩ := Kd.R_slice hv4
  have kr4 := (hb4.block _ (lt_of_blk KR3.out)).trans KR3.out
  have hB4 : Below w.heap.size w w4 := B3.out.trans (hb4.mono B3.out.size)
  obtain ⟨W5, hW5⟩ : ∃ W, w4.setRow (w.heap.size + 1) (at8 (bits .or .u32 a 2) b x y e f g (.slice A4 0 c4)) = W := ⟨_, rfl⟩
  have kr5 : W5.heap[w.heap.size + 1]? = some (.cells (at8 (bits .or .u32 a 2) b x y e f g (.slice A4 0 c4)) 26 (0, 0)) := by rw [← hW5]; exact setRow_heap _ _ _ _ _ _ kr4
  have hB5 : Below w.heap.size w W5 := by
    rw [← hW5]
    exact ⟨hB4.os, hB4.tape, hB4.output, by rw [setRow_size]; exact hB4.size, fun k hk => by rw [setRow_other _ _ _ _ (by omega)]; exact hB4.block k hk⟩
  have KR4 := Lib.hid kr4
  have KR5 := Lib.hid kr5
  have B5 := Lib.hid hB5
  have X5 := Lib.hid hW5
  clear kr4 kr5 hB4 hB5 hb4 hv4 hW5 T3 K3 KR3 B3
  go_wp2_with (refine wpList_store_row rfl 26 _ _ rfl (w.heap.size + 1) (at8 (bits .or .u32 a 2) b x y e f g (.slice A4 0 c4)) rfl rfl 26 z8 KR4.out (ainfo8 _ _ _ _ _ _ _ _) rfl (one8 _ _ _ _ _ _ _ _ _ _) ?_; rw [X5.out])
  refine bodyPost_ret (results_c1 Tryz.results41 _ _ (w.heap.size + 1) 26 (at8 (bits .or .u32 a 2) b x y e f g (.slice A4 0 c4)) (0, 0) _ rfl KR5.out Tryz.underlying26 rfl (ainfo8 _ _ _ _ _ _ _ _)) rfl ?_
  exact ⟨⟨A4, c4, rfl⟩, B5.out⟩
set_option maxRecDepth 5000 in
set_option maxHeartbeats 1600000 in
theorem attrsSet2 (a b c d e f g x y : Int) (A : Option Addr) (cap : Nat) (w : World) (x0 : 0 ≤ x) (x1 : x ≤ 4294967295) :
    Calls Tryz.prog 41 #[.agg (at8 a b c d e f g (.slice A 0 cap)), .int .i64 2, .int .u64 x, .int .u64 y] w fun r w' => (∃ A' c', r = .returned (.agg (at8 (bits .or .u32 a 4) b c d x f g (.slice A' 0 c')))) ∧ Below w.heap.size w w' := by
  obtain ⟨W0, hW0⟩ : ∃ W, w.alloc (.cells (at8 a b c d e f g (.slice A 0 cap)) 26) = W := ⟨_, rfl⟩
  obtain ⟨Wr, hWr⟩ : ∃ W, W0.alloc (.cells z8 26) = W := ⟨_, rfl⟩
  have s0 : W0.heap.size = w.heap.size + 1 := by rw [← hW0]; simp
  have sr : Wr.heap.size = w.heap.size + 1 + 1 := by rw [← hWr, ← hW0]; simp
  have hb0 : Below w.heap.size w Wr := by rw [← hWr, ← hW0]; exact ((Below.refl _ _).alloc (Nat.le_refl _) _).alloc (by simp) _
  have k0 : Wr.heap[w.heap.size]? = some (.cells (at8 a b c d e f g (.slice A 0 cap)) 26 (0, 0)) := by rw [← hWr, heap_alloc_old _ _ (by omega), ← hW0]; exact heap_alloc_new _ _
  have kr : Wr.heap[w.heap.size + 1]? = some (.cells z8 26 (0, 0)) := by rw [← hWr, ← s0]; exact heap_alloc_new _ _
  have hC0 : Kd.C k89 Wr A ([] : List S89).length [] := ⟨rfl, by simp, fun h => by simp at h⟩
  have C := Lib.hid (attrsC a b c d e f g A 0 cap [] Wr rfl (by simp) hC0 (by simp))
  have X0 := Lib.hid hW0
  have Xr := Lib.hid hWr
  have B0 := Lib.hid hb0
  have K0 := Lib.hid k0
  have KR := Lib.hid kr
  have S0 := Lib.hid s0
  have SR := Lib.hid sr
  clear hW0 hWr hb0 k0 kr s0 sr hC0
  go_enter Tryz.func41, Tryz.ntmps41
  go_wp2_with (first
    | (refine wpList_boxTo rfl 26 _ rfl (some 4) rfl w.heap.size rfl (at8 a b c d e f g (.slice A 0 cap)) rfl ?_; rw [X0.out])
    | (refine wpList_allocTo rfl (some 8) rfl (.pointer (some ⟨w.heap.size + 1, 0, none⟩)) (.cells z8 26) (by rw [← S0.out]; (as_aux_lemma => kernel_rfl)) ?_; rw [Xr.out])
    | refine wpList_load_row rfl 26 _ rfl w.heap.size rfl 26 (at8 a b c d e f g (.slice A 0 cap)) (0, 0) _ K0.out Tryz.underlying26 rfl (ainfo8 _ _ _ _ _ _ _ _) ?_)
  refine C.out.mono ?_
  rintro r w1 ⟨v, rfl, hv, hb1⟩
  obtain ⟨A', c', rfl⟩ := Kd.R_slice hv
  have hB1 : Below w.heap.size w w1 := B0.out.trans (hb1.mono B0.out.size)
  have z1 := hB1.size
  have y1 := hb1.size
  rw [SR.out] at y1
  have kr1 := (hb1.block _ (lt_of_blk KR.out)).trans KR.out
  obtain ⟨W1, hW1⟩ : ∃ W, w1.alloc (.cells z8 139) = W := ⟨_, rfl⟩
  obtain ⟨W2, hW2⟩ : ∃ W, W1.setRow w1.heap.size (at8 a b c d e f g (.slice A' 0 c')) = W := ⟨_, rfl⟩
  have k1 : W1.heap[w1.heap.size]? = some (.cells z8 139 (0, 0)) := by rw [← hW1]; exact heap_alloc_new _ _
  have k2 : W2.heap[w1.heap.size]? = some (.cells (at8 a b c d e f g (.slice A' 0 c')) 139 (0, 0)) := by rw [← hW2]; exact setRow_heap _ _ _ _ _ _ k1
  have kr2 : W2.heap[w.heap.size + 1]? = some (.cells z8 26 (0, 0)) := by rw [← hW2, setRow_other _ _ _ _ (by omega), ← hW1, heap_alloc_old _ _ (by omega)]; exact kr1
  have hB2 : Below w.heap.size w W2 := by
    have h1 := hB1.alloc z1 (.cells z8 139)
    rw [hW1] at h1
    rw [← hW2]
    exact ⟨h1.os, h1.tape, h1.output, by rw [setRow_size]; exact h1.size, fun k hk => by rw [setRow_other _ _ _ _ (by omega)]; exact h1.block k hk⟩
  have hne : w.heap.size + 1 ≠ w1.heap.size := by omega
  have hle : w.heap.size ≤ w1.heap.size := by omega
  have hlt : w.heap.size + 1 < w1.heap.size := by omega
  have X1 := Lib.hid hW1
  have X2 := Lib.hid hW2
  have K1 := Lib.hid k1
  have K2 := Lib.hid k2
  have KR2 := Lib.hid kr2
  have B2 := Lib.hid hB2
  clear hW1 hW2 k1 k2 hv hb1 hB1 hB2 z1 y1 C B0 K0 X0 Xr KR S0 SR kr1 kr2
  go_wp2_with (first
    | (refine wpList_allocTo rfl (some 9) rfl (.pointer (some ⟨w1.heap.size, 0, none⟩)) (.cells z8 139) (by as_aux_lemma => kernel_rfl) ?_; rw [X1.out])
    | (refine wpList_store_row rfl 139 _ _ rfl w1.heap.size (at8 a b c d e f g (.slice A' 0 c')) rfl rfl 139 z8 K1.out (sinfo8 _ _ _ _ _ _ _ _) rfl (one8 _ _ _ _ _ _ _ _ _ _) ?_; rw [X2.out]))
  refine (setMode _ a b c d e f g x _ _ K2.out).mono ?_
  rintro r w3 ⟨rfl, k3, hb3⟩
  have kr3 := ((hb3 _ (Nat.le_refl _)).block _ (by omega)).trans KR2.out
  have hB3 : Below w.heap.size w w3 := B2.out.trans (hb3 _ hle)
  have hC3 : Kd.C k266 w3 A' ([] : List S266).length [] := ⟨rfl, by simp, fun h => by simp at h⟩
  have T3 := Lib.hid (toldC (bits .or .u32 a 4) b c d x f g A' 0 c' [] w3 rfl (by simp) hC3 (by simp))
  have K3 := Lib.hid k3
  have KR3 := Lib.hid kr3
  have B3 := Lib.hid hB3
  clear k3 kr3 hB3 hC3 hb3 X1 X2 K1 K2 KR2 B2
  go_wp2_with (refine wpList_load_row rfl 139 _ rfl w1.heap.size rfl 139 (at8 (bits .or .u32 a 4) b c d x f g (.slice A' 0 c')) (0, 0) _ K3.out Tryz.underlying139 rfl (sinfo8 _ _ _ _ _ _ _ _) ?_)
  refine T3.out.mono ?_
  rintro r w4 ⟨v4, rfl, hv4, hb4⟩
  obtain ⟨A4, c4, rfl⟩ := Kd.R_slice hv4
  have kr4 := (hb4.block _ (lt_of_blk KR3.out)).trans KR3.out
  have hB4 : Below w.heap.size w w4 := B3.out.trans (hb4.mono B3.out.size)
  obtain ⟨W5, hW5⟩ : ∃ W, w4.setRow (w.heap.size + 1) (at8 (bits .or .u32 a 4) b c d x f g (.slice A4 0 c4)) = W := ⟨_, rfl⟩
  have kr5 : W5.heap[w.heap.size + 1]? = some (.cells (at8 (bits .or .u32 a 4) b c d x f g (.slice A4 0 c4)) 26 (0, 0)) := by rw [← hW5]; exact setRow_heap _ _ _ _ _ _ kr4
  have hB5 : Below w.heap.size w W5 := by
    rw [← hW5]
    exact ⟨hB4.os, hB4.tape, hB4.output, by rw [setRow_size]; exact hB4.size, fun k hk => by rw [setRow_other _ _ _ _ (by omega)]; exact hB4.block k hk⟩
  have KR4 := Lib.hid kr4
  have KR5 := Lib.hid kr5
  have B5 := Lib.hid hB5
  have X5 := Lib.hid hW5
  clear kr4 kr5 hB4 hB5 hb4 hv4 hW5 T3 K3 KR3 B3
  go_wp2_with (refine wpList_store_row rfl 26 _ _ rfl (w.heap.size + 1) (at8 (bits .or .u32 a 4) b c d x f g (.slice A4 0 c4)) rfl rfl 26 z8 KR4.out (ainfo8 _ _ _ _ _ _ _ _) rfl (one8 _ _ _ _ _ _ _ _ _ _) ?_; rw [X5.out])
  refine bodyPost_ret (results_c1 Tryz.results41 _ _ (w.heap.size + 1) 26 (at8 (bits .or .u32 a 4) b c d x f g (.slice A4 0 c4)) (0, 0) _ rfl KR5.out Tryz.underlying26 rfl (ainfo8 _ _ _ _ _ _ _ _)) rfl ?_
  exact ⟨⟨A4, c4, rfl⟩, B5.out⟩
set_option maxRecDepth 5000 in
set_option maxHeartbeats 1600000 in
theorem attrsSet3 (a b c d e f g x y : Int) (A : Option Addr) (cap : Nat) (w : World) (x0 : 0 ≤ x) (x1 : x ≤ 4294967295) (y0 : 0 ≤ y) (y1 : y ≤ 4294967295) :
    Calls Tryz.prog 41 #[.agg (at8 a b c d e f g (.slice A 0 cap)), .int .i64 3, .int .u64 x, .int .u64 y] w fun r w' => (∃ A' c', r = .returned (.agg (at8 (bits .or .u32 a 8) b c d e x y (.slice A' 0 c')))) ∧ Below w.heap.size w w' := by
  obtain ⟨W0, hW0⟩ : ∃ W, w.alloc (.cells (at8 a b c d e f g (.slice A 0 cap)) 26) = W := ⟨_, rfl⟩
  obtain ⟨Wr, hWr⟩ : ∃ W, W0.alloc (.cells z8 26) = W := ⟨_, rfl⟩
  have s0 : W0.heap.size = w.heap.size + 1 := by rw [← hW0]; simp
  have sr : Wr.heap.size = w.heap.size + 1 + 1 := by rw [← hWr, ← hW0]; simp
  have hb0 : Below w.heap.size w Wr := by rw [← hWr, ← hW0]; exact ((Below.refl _ _).alloc (Nat.le_refl _) _).alloc (by simp) _
  have k0 : Wr.heap[w.heap.size]? = some (.cells (at8 a b c d e f g (.slice A 0 cap)) 26 (0, 0)) := by rw [← hWr, heap_alloc_old _ _ (by omega), ← hW0]; exact heap_alloc_new _ _
  have kr : Wr.heap[w.heap.size + 1]? = some (.cells z8 26 (0, 0)) := by rw [← hWr, ← s0]; exact heap_alloc_new _ _
  have hC0 : Kd.C k89 Wr A ([] : List S89).length [] := ⟨rfl, by simp, fun h => by simp at h⟩
  have C := Lib.hid (attrsC a b c d e f g A 0 cap [] Wr rfl (by simp) hC0 (by simp))
  have X0 := Lib.hid hW0
  have Xr := Lib.hid hWr
  have B0 := Lib.hid hb0
  have K0 := Lib.hid k0
  have KR := Lib.hid kr
  have S0 := Lib.hid s0
  have SR := Lib.hid sr
  clear hW0 hWr hb0 k0 kr s0 sr hC0
  go_enter Tryz.func41, Tryz.ntmps41
  go_wp2_with (first
    | (refine wpList_boxTo rfl 26 _ rfl (some 4) rfl w.heap.size rfl (at8 a b c d e f g (.slice A 0 cap)) rfl ?_; rw [X0.out])
    | (refine wpList_allocTo rfl (some 8) rfl (.pointer (some ⟨w.heap.size + 1, 0, none⟩)) (.cells z8 26) (by rw [← S0.out]; (as_aux_lemma => kernel_rfl)) ?_; rw [Xr.out])
    | refine wpList_load_row rfl 26 _ rfl w.heap.size rfl 26 (at8 a b c d e f g (.slice A 0 cap)) (0, 0) _ K0.out Tryz.underlying26 rfl (ainfo8 _ _ _ _ _ _ _ _) ?_)
  refine C.out.mono ?_
  rintro r w1 ⟨v, rfl, hv, hb1⟩
  obtain ⟨A', c', rfl⟩ := Kd.R_slice hv
  have hB1 : Below w.heap.size w w1 := B0.out.trans (hb1.mono B0.out.size)
  have z1 := hB1.size
  have y1 := hb1.size
  rw [SR.out] at y1
  have kr1 := (hb1.block _ (lt_of_blk KR.out)).trans KR.out
  obtain ⟨W1, hW1⟩ : ∃ W, w1.alloc (.cells z8 139) = W := ⟨_, rfl⟩
  obtain ⟨W2, hW2⟩ : ∃ W, W1.setRow w1.heap.size (at8 a b c d e f g (.slice A' 0 c')) = W := ⟨_, rfl⟩
  have k1 : W1.heap[w1.heap.size]? = some (.cells z8 139 (0, 0)) := by rw [← hW1]; exact heap_alloc_new _ _
  have k2 : W2.heap[w1.heap.size]? = some (.cells (at8 a b c d e f g (.slice A' 0 c')) 139 (0, 0)) := by rw [← hW2]; exact setRow_heap _ _ _ _ _ _ k1
  have kr2 : W2.heap[w.heap.size + 1]? = some (.cells z8 26 (0, 0)) := by rw [← hW2, setRow_other _ _ _ _ (by omega), ← hW1, heap_alloc_old _ _ (by omega)]; exact kr1
  have hB2 : Below w.heap.size w W2 := by
    have h1 := hB1.alloc z1 (.cells z8 139)
    rw [hW1] at h1
    rw [← hW2]
    exact ⟨h1.os, h1.tape, h1.output, by rw [setRow_size]; exact h1.size, fun k hk => by rw [setRow_other _ _ _ _ (by omega)]; exact h1.block k hk⟩
  have hne : w.heap.size + 1 ≠ w1.heap.size := by omega
  have hle : w.heap.size ≤ w1.heap.size := by omega
  have hlt : w.heap.size + 1 < w1.heap.size := by omega
  have X1 := Lib.hid hW1
  have X2 := Lib.hid hW2
  have K1 := Lib.hid k1
  have K2 := Lib.hid k2
  have KR2 := Lib.hid kr2
  have B2 := Lib.hid hB2
  clear hW1 hW2 k1 k2 hv hb1 hB1 hB2 z1 y1 C B0 K0 X0 Xr KR S0 SR kr1 kr2
  go_wp2_with (first
    | (refine wpList_allocTo rfl (some 9) rfl (.pointer (some ⟨w1.heap.size, 0, none⟩)) (.cells z8 139) (by as_aux_lemma => kernel_rfl) ?_; rw [X1.out])
    | (refine wpList_store_row rfl 139 _ _ rfl w1.heap.size (at8 a b c d e f g (.slice A' 0 c')) rfl rfl 139 z8 K1.out (sinfo8 _ _ _ _ _ _ _ _) rfl (one8 _ _ _ _ _ _ _ _ _ _) ?_; rw [X2.out]))
  refine (setTimes _ a b c d e f g x y _ _ K2.out).mono ?_
  rintro r w3 ⟨rfl, k3, hb3⟩
  have kr3 := ((hb3 _ (Nat.le_refl _)).block _ (by omega)).trans KR2.out
  have hB3 : Below w.heap.size w w3 := B2.out.trans (hb3 _ hle)
  have hC3 : Kd.C k266 w3 A' ([] : List S266).length [] := ⟨rfl, by simp, fun h => by simp at h⟩
  have T3 := Lib.hid (toldC (bits .or .u32 a 8) b c d e x y A' 0 c' [] w3 rfl (by simp) hC3 (by simp))
  have K3 := Lib.hid k3
  have KR3 := Lib.hid kr3
  have B3 := Lib.hid hB3
  clear k3 kr3 hB3 hC3 hb3 X1 X2 K1 K2 KR2 B2
  go_wp2_with (refine wpList_load_row rfl 139 _ rfl w1.heap.size rfl 139 (at8 (bits .or .u32 a 8) b c d e x y (.slice A' 0 c')) (0, 0) _ K3.out Tryz.underlying139 rfl (sinfo8 _ _ _ _ _ _ _ _) ?_)
  refine T3.out.mono ?_
  rintro r w4 ⟨v4, rfl, hv4, hb4⟩
  obtain ⟨A4, c4, rfl⟩ := Kd.R_slice hv4
  have kr4 := (hb4.block _ (lt_of_blk KR3.out)).trans KR3.out
  have hB4 : Below w.heap.size w w4 := B3.out.trans (hb4.mono B3.out.size)
  obtain ⟨W5, hW5⟩ : ∃ W, w4.setRow (w.heap.size + 1) (at8 (bits .or .u32 a 8) b c d e x y (.slice A4 0 c4)) = W := ⟨_, rfl⟩
  have kr5 : W5.heap[w.heap.size + 1]? = some (.cells (at8 (bits .or .u32 a 8) b c d e x y (.slice A4 0 c4)) 26 (0, 0)) := by rw [← hW5]; exact setRow_heap _ _ _ _ _ _ kr4
  have hB5 : Below w.heap.size w W5 := by
    rw [← hW5]
    exact ⟨hB4.os, hB4.tape, hB4.output, by rw [setRow_size]; exact hB4.size, fun k hk => by rw [setRow_other _ _ _ _ (by omega)]; exact hB4.block k hk⟩
  have KR4 := Lib.hid kr4
  have KR5 := Lib.hid kr5
  have B5 := Lib.hid hB5
  have X5 := Lib.hid hW5
  clear kr4 kr5 hB4 hB5 hb4 hv4 hW5 T3 K3 KR3 B3
  go_wp2_with (refine wpList_store_row rfl 26 _ _ rfl (w.heap.size + 1) (at8 (bits .or .u32 a 8) b c d e x y (.slice A4 0 c4)) rfl rfl 26 z8 KR4.out (ainfo8 _ _ _ _ _ _ _ _) rfl (one8 _ _ _ _ _ _ _ _ _ _) ?_; rw [X5.out])
  refine bodyPost_ret (results_c1 Tryz.results41 _ _ (w.heap.size + 1) 26 (at8 (bits .or .u32 a 8) b c d e x y (.slice A4 0 c4)) (0, 0) _ rfl KR5.out Tryz.underlying26 rfl (ainfo8 _ _ _ _ _ _ _ _)) rfl ?_
  exact ⟨⟨A4, c4, rfl⟩, B5.out⟩
end Go.Proofs.YtmenkckgpiafiaaGreat
namespace Go.Proofs.YtmenkckgpiafiaaGreat
open Go.RowKit Go.Great Go.Proofs.YtmenkckgpiafiaaGreatW.PrintWords Go.Proofs.YtmenkckgpiafiaaGreatW.PrintLast Go.Proofs.YtmenkckgpiafiaaGreatW.PrintMore Go.Proofs.YtmenkckgpiafiaaGreat.KK
/-- Attributes of so many extensions have nothing but what their flags tell. -/
def toldB (a b c d e f g : Int) (n : Nat) : Bool :=
  (bits .andNot .u32 a 2147483663 == 0) && !decide (8 < n) && ((((flg a 1 || b == 0) && (flg a 2 || (c == 0 && d == 0))) && (flg a 4 || e == 0)) && (flg a 8 || (f == 0 && g == 0))) && (flg a 2147483648 || n == 0)
def toldS21 (q : Nat) (W0 : World) (x : Bool) (a' : Act) (w' : World) : Prop := W0 = w' ∧ ∃ (x0 x2 x3 x4 x5 x6 x7 x8 x9 x10 x11 x12 x13 x14 x15 x16 x17 x18 x19 x20 x22 x23 x24 x25 x26 x27 x28 x29 x30 x31 x32 x33 x34 x35 x36 x37 x38 x39 x40 x41 x42 x43 x44 x45 x46 x47 x48 x49 x50 x51 x52 x53 x54 x55 x56 x57 x58 x59 x60 x61 x62 x63 x64 x65 x66 x67 x68 x69 x70 x71 x72 x73 x74 x75 x76 : Value) (u : Bool), u = x ∧ a' = ⟨#[x0, (.pointer (some ⟨q, 0, none⟩)), x2, x3, x4, x5, x6, x7, x8, x9, x10, x11, x12, x13, x14, x15, x16, x17, x18, x19, x20, (.bool u), x22, x23, x24, x25, x26, x27, x28, x29, x30, x31, x32, x33, x34, x35, x36, x37, x38, x39, x40, x41, x42, x43, x44, x45, x46, x47, x48, x49, x50, x51, x52, x53, x54, x55, x56, x57, x58, x59, x60, x61, x62, x63, x64, x65, x66, x67, x68, x69, x70, x71, x72, x73, x74, x75, x76], []⟩
def toldS37 (q : Nat) (W0 : World) (x : Bool) (a' : Act) (w' : World) : Prop := W0 = w' ∧ ∃ (x0 x2 x3 x4 x5 x6 x7 x8 x9 x10 x11 x12 x13 x14 x15 x16 x17 x18 x19 x20 x21 x22 x23 x24 x25 x26 x27 x28 x29 x30 x31 x32 x33 x34 x35 x36 x38 x39 x40 x41 x42 x43 x44 x45 x46 x47 x48 x49 x50 x51 x52 x53 x54 x55 x56 x57 x58 x59 x60 x61 x62 x63 x64 x65 x66 x67 x68 x69 x70 x71 x72 x73 x74 x75 x76 : Value) (u : Bool), u = x ∧ a' = ⟨#[x0, (.pointer (some ⟨q, 0, none⟩)), x2, x3, x4, x5, x6, x7, x8, x9, x10, x11, x12, x13, x14, x15, x16, x17, x18, x19, x20, x21, x22, x23, x24, x25, x26, x27, x28, x29, x30, x31, x32, x33, x34, x35, x36, (.bool u), x38, x39, x40, x41, x42, x43, x44, x45, x46, x47, x48, x49, x50, x51, x52, x53, x54, x55, x56, x57, x58, x59, x60, x61, x62, x63, x64, x65, x66, x67, x68, x69, x70, x71, x72, x73, x74, x75, x76], []⟩
def toldS48 (q : Nat) (W0 : World) (x : Bool) (a' : Act) (w' : World) : Prop := W0 = w' ∧ ∃ (x0 x2 x3 x4 x5 x6 x7 x8 x9 x10 x11 x12 x13 x14 x15 x16 x17 x18 x19 x20 x21 x22 x23 x24 x25 x26 x27 x28 x29 x30 x31 x32 x33 x34 x35 x36 x37 x38 x39 x40 x41 x42 x43 x44 x45 x46 x47 x49 x50 x51 x52 x53 x54 x55 x56 x57 x58 x59 x60 x61 x62 x63 x64 x65 x66 x67 x68 x69 x70 x71 x72 x73 x74 x75 x76 : Value) (u : Bool), u = x ∧ a' = ⟨#[x0, (.pointer (some ⟨q, 0, none⟩)), x2, x3, x4, x5, x6, x7, x8, x9, x10, x11, x12, x13, x14, x15, x16, x17, x18, x19, x20, x21, x22, x23, x24, x25, x26, x27, x28, x29, x30, x31, x32, x33, x34, x35, x36, x37, x38, x39, x40, x41, x42, x43, x44, x45, x46, x47, (.bool u), x49, x50, x51, x52, x53, x54, x55, x56, x57, x58, x59, x60, x61, x62, x63, x64, x65, x66, x67, x68, x69, x70, x71, x72, x73, x74, x75, x76], []⟩
def toldS64 (q : Nat) (W0 : World) (x : Bool) (a' : Act) (w' : World) : Prop := W0 = w' ∧ ∃ (x0 x2 x3 x4 x5 x6 x7 x8 x9 x10 x11 x12 x13 x14 x15 x16 x17 x18 x19 x20 x21 x22 x23 x24 x25 x26 x27 x28 x29 x30 x31 x32 x33 x34 x35 x36 x37 x38 x39 x40 x41 x42 x43 x44 x45 x46 x47 x48 x49 x50 x51 x52 x53 x54 x55 x56 x57 x58 x59 x60 x61 x62 x63 x65 x66 x67 x68 x69 x70 x71 x72 x73 x74 x75 x76 : Value) (u : Bool), u = x ∧ a' = ⟨#[x0, (.pointer (some ⟨q, 0, none⟩)), x2, x3, x4, x5, x6, x7, x8, x9, x10, x11, x12, x13, x14, x15, x16, x17, x18, x19, x20, x21, x22, x23, x24, x25, x26, x27, x28, x29, x30, x31, x32, x33, x34, x35, x36, x37, x38, x39, x40, x41, x42, x43, x44, x45, x46, x47, x48, x49, x50, x51, x52, x53, x54, x55, x56, x57, x58, x59, x60, x61, x62, x63, (.bool u), x65, x66, x67, x68, x69, x70, x71, x72, x73, x74, x75, x76], []⟩
set_option maxRecDepth 5000 in
set_option maxHeartbeats 6400000 in
theorem toldC2 (a b c d e f g : Int) (A : Option Addr) (n cap : Nat) (w : World) :
    Calls Tryz.prog 40 #[.agg (at8 a b c d e f g (.slice A n cap))] w fun r w' => r = .returned (.bool (toldB a b c d e f g n)) ∧ Below w.heap.size w w' := by
  obtain ⟨W0, hW0⟩ : ∃ W, w.alloc (.cells (at8 a b c d e f g (.slice A n cap)) 26) = W := ⟨_, rfl⟩
  have hb0 : Below w.heap.size w W0 := by rw [← hW0]; exact (Below.refl _ _).alloc (Nat.le_refl _) _
  have k0 : W0.heap[w.heap.size]? = some (.cells (at8 a b c d e f g (.slice A n cap)) 26 (0, 0)) := by rw [← hW0]; exact heap_alloc_new _ _
  obtain ⟨q, hq⟩ : ∃ q, q = w.heap.size := ⟨_, rfl⟩
  rw [← hq] at k0
  have c0 : W0.cell? ⟨q, 0, none⟩ = some (.int .u32 a) := by rw [cell_of_blk k0]; rfl
  have c1 : W0.cell? ⟨q, 1, none⟩ = some (.int .u64 b) := by rw [cell_of_blk k0]; rfl
  have c2 : W0.cell? ⟨q, 2, none⟩ = some (.int .u32 c) := by rw [cell_of_blk k0]; rfl
  have c3 : W0.cell? ⟨q, 3, none⟩ = some (.int .u32 d) := by rw [cell_of_blk k0]; rfl
  have c4 : W0.cell? ⟨q, 4, none⟩ = some (.int .u32 e) := by rw [cell_of_blk k0]; rfl
  have c5 : W0.cell? ⟨q, 5, none⟩ = some (.int .u32 f) := by rw [cell_of_blk k0]; rfl
  have c6 : W0.cell? ⟨q, 6, none⟩ = some (.int .u32 g) := by rw [cell_of_blk k0]; rfl
  have c7 : W0.cell? ⟨q, 7, none⟩ = some (.slice A n cap) := by rw [cell_of_blk k0]; rfl
  have X0 := Lib.hid hW0
  have B0 := Lib.hid hb0
  have Q0 := Lib.hid hq
  clear hW0 hb0 k0 hq
  by_cases hz : (bits .andNot .u32 a 2147483663 == 0) = true
  case neg =>
    have hz' : (bits .andNot .u32 a 2147483663 != 0) = true := by simpa using hz
    have e0 : toldB a b c d e f g n = false := by simp [toldB, hz]
    rw [e0]
    clear hz e0
    go_enter Tryz.func40, Tryz.ntmps40
    go_wp2_with (refine wpList_boxTo rfl 26 _ rfl (some 1) rfl w.heap.size rfl (at8 a b c d e f g (.slice A n cap)) rfl ?_; rw [X0.out]; rw [← Q0.out])
    go_ret
    exact ⟨rfl, B0.out⟩
  case pos =>
  have hz' : (bits .andNot .u32 a 2147483663 != 0) = false := by simpa using hz
  by_cases hn : 8 < n
  · have e0 : toldB a b c d e f g n = false := by simp [toldB, hn]
    have d0 : decide ((n : Int) > 8) = true := by simp; omega
    have d1 : (8 : Int) < (n : Int) := by omega
    rw [e0]
    clear hz e0
    go_enter Tryz.func40, Tryz.ntmps40
    go_wp2_with (refine wpList_boxTo rfl 26 _ rfl (some 1) rfl w.heap.size rfl (at8 a b c d e f g (.slice A n cap)) rfl ?_; rw [X0.out]; rw [← Q0.out])
    go_ret
    exact ⟨rfl, B0.out⟩
  have d0 : decide ((n : Int) > 8) = false := by simp; omega
  have d1 : ¬ (8 : Int) < (n : Int) := by omega
  have e0 : toldB a b c d e f g n = (((((flg a 1 || b == 0) && (flg a 2 || (c == 0 && d == 0))) && (flg a 4 || e == 0)) && (flg a 8 || (f == 0 && g == 0))) && (flg a 2147483648 || n == 0)) := by simp [toldB, hz, hn]
  rw [e0]
  clear hz e0 hn
  go_enter Tryz.func40, Tryz.ntmps40
  go_upto_region 3 with (refine wpList_boxTo rfl 26 _ rfl (some 1) rfl w.heap.size rfl (at8 a b c d e f g (.slice A n cap)) rfl ?_; rw [X0.out]; rw [← Q0.out])
  clear hz' d0 d1
  refine wp_region_lit ?_
  refine wpList_cut 9 (toldS21 q W0 (flg a 1 || b == 0)) ?_ ?_
  · simp only [List.append_eq, List.cons_append, List.nil_append, List.take_succ_cons, List.take_zero]
    by_cases h1 : flg a 1 = true
    · have f1 : (bits .and .u32 a 1 != 0) = true := h1
      go_wp2_with fail
      exact ⟨rfl, _, _, _, _, _, _, _, _, _, _, _, _, _, _, _, _, _, _, _, _, _, _, _, _, _, _, _, _, _, _, _, _, _, _, _, _, _, _, _, _, _, _, _, _, _, _, _, _, _, _, _, _, _, _, _, _, _, _, _, _, _, _, _, _, _, _, _, _, _, _, _, _, _, _, _, true, by simp [h1], rfl⟩
    · have f1 : (bits .and .u32 a 1 != 0) = false := by simpa [flg] using h1
      by_cases h2 : b = 0
      · have g_b : (b == 0) = true := by simp [h2]
        go_wp2_with fail
        exact ⟨rfl, _, _, _, _, _, _, _, _, _, _, _, _, _, _, _, _, _, _, _, _, _, _, _, _, _, _, _, _, _, _, _, _, _, _, _, _, _, _, _, _, _, _, _, _, _, _, _, _, _, _, _, _, _, _, _, _, _, _, _, _, _, _, _, _, _, _, _, _, _, _, _, _, _, _, _, true, by simp [h2], rfl⟩
      · have g_b : (b == 0) = false := by simp [h2]
        go_wp2_with fail
        exact ⟨rfl, _, _, _, _, _, _, _, _, _, _, _, _, _, _, _, _, _, _, _, _, _, _, _, _, _, _, _, _, _, _, _, _, _, _, _, _, _, _, _, _, _, _, _, _, _, _, _, _, _, _, _, _, _, _, _, _, _, _, _, _, _, _, _, _, _, _, _, _, _, _, _, _, _, _, _, false, by simp [h1, h2], rfl⟩
  rintro a' w' ⟨rfl, x0, x2, x3, x4, x5, x6, x7, x8, x9, x10, x11, x12, x13, x14, x15, x16, x17, x18, x19, x20, x22, x23, x24, x25, x26, x27, x28, x29, x30, x31, x32, x33, x34, x35, x36, x37, x38, x39, x40, x41, x42, x43, x44, x45, x46, x47, x48, x49, x50, x51, x52, x53, x54, x55, x56, x57, x58, x59, x60, x61, x62, x63, x64, x65, x66, x67, x68, x69, x70, x71, x72, x73, x74, x75, x76, u, hu, rfl⟩
  simp only [List.append_eq, List.cons_append, List.nil_append, List.drop_succ_cons, List.drop_zero]
  have HU21 := Lib.hid hu
  clear hu
  cases u
  · go_wp2_with fail
    go_ret
    refine ⟨?_, B0.out⟩
    simp [← HU21.out]
  refine wpList_cut 16 (toldS37 q W0 (flg a 2 || (c == 0 && d == 0))) ?_ ?_
  · simp only [List.append_eq, List.cons_append, List.nil_append, List.take_succ_cons, List.take_zero]
    by_cases h1 : flg a 2 = true
    · have f1 : (bits .and .u32 a 2 != 0) = true := h1
      go_wp2_with fail
      exact ⟨rfl, _, _, _, _, _, _, _, _, _, _, _, _, _, _, _, _, _, _, _, _, _, _, _, _, _, _, _, _, _, _, _, _, _, _, _, _, _, _, _, _, _, _, _, _, _, _, _, _, _, _, _, _, _, _, _, _, _, _, _, _, _, _, _, _, _, _, _, _, _, _, _, _, _, _, _, true, by simp [h1], rfl⟩
    · have f1 : (bits .and .u32 a 2 != 0) = false := by simpa [flg] using h1
      by_cases h2 : c = 0
      · have g_c : (c == 0) = true := by simp [h2]
        by_cases h3 : d = 0
        · have g_d : (d == 0) = true := by simp [h3]
          go_wp2_with fail
          exact ⟨rfl, _, _, _, _, _, _, _, _, _, _, _, _, _, _, _, _, _, _, _, _, _, _, _, _, _, _, _, _, _, _, _, _, _, _, _, _, _, _, _, _, _, _, _, _, _, _, _, _, _, _, _, _, _, _, _, _, _, _, _, _, _, _, _, _, _, _, _, _, _, _, _, _, _, _, _, true, by simp [h2, h3], rfl⟩
        · have g_d : (d == 0) = false := by simp [h3]
          go_wp2_with fail
          exact ⟨rfl, _, _, _, _, _, _, _, _, _, _, _, _, _, _, _, _, _, _, _, _, _, _, _, _, _, _, _, _, _, _, _, _, _, _, _, _, _, _, _, _, _, _, _, _, _, _, _, _, _, _, _, _, _, _, _, _, _, _, _, _, _, _, _, _, _, _, _, _, _, _, _, _, _, _, _, false, by simp [h1, h2, h3], rfl⟩
      · have g_c : (c == 0) = false := by simp [h2]
        go_wp2_with fail
        exact ⟨rfl, _, _, _, _, _, _, _, _, _, _, _, _, _, _, _, _, _, _, _, _, _, _, _, _, _, _, _, _, _, _, _, _, _, _, _, _, _, _, _, _, _, _, _, _, _, _, _, _, _, _, _, _, _, _, _, _, _, _, _, _, _, _, _, _, _, _, _, _, _, _, _, _, _, _, _, false, by simp [h1, h2], rfl⟩
  rintro a' w' ⟨rfl, x0, x2, x3, x4, x5, x6, x7, x8, x9, x10, x11, x12, x13, x14, x15, x16, x17, x18, x19, x20, x21, x22, x23, x24, x25, x26, x27, x28, x29, x30, x31, x32, x33, x34, x35, x36, x38, x39, x40, x41, x42, x43, x44, x45, x46, x47, x48, x49, x50, x51, x52, x53, x54, x55, x56, x57, x58, x59, x60, x61, x62, x63, x64, x65, x66, x67, x68, x69, x70, x71, x72, x73, x74, x75, x76, u, hu, rfl⟩
  simp only [List.append_eq, List.cons_append, List.nil_append, List.drop_succ_cons, List.drop_zero]
  have HU37 := Lib.hid hu
  clear hu
  cases u
  · go_wp2_with fail
    go_ret
    refine ⟨?_, B0.out⟩
    simp [← HU21.out, ← HU37.out]
  refine wpList_cut 11 (toldS48 q W0 (flg a 4 || e == 0)) ?_ ?_
  · simp only [List.append_eq, List.cons_append, List.nil_append, List.take_succ_cons, List.take_zero]
    by_cases h1 : flg a 4 = true
    · have f1 : (bits .and .u32 a 4 != 0) = true := h1
      go_wp2_with fail
      exact ⟨rfl, _, _, _, _, _, _, _, _, _, _, _, _, _, _, _, _, _, _, _, _, _, _, _, _, _, _, _, _, _, _, _, _, _, _, _, _, _, _, _, _, _, _, _, _, _, _, _, _, _, _, _, _, _, _, _, _, _, _, _, _, _, _, _, _, _, _, _, _, _, _, _, _, _, _, _, true, by simp [h1], rfl⟩
    · have f1 : (bits .and .u32 a 4 != 0) = false := by simpa [flg] using h1
      by_cases h2 : e = 0
      · have g_e : (e == 0) = true := by simp [h2]
        go_wp2_with fail
        exact ⟨rfl, _, _, _, _, _, _, _, _, _, _, _, _, _, _, _, _, _, _, _, _, _, _, _, _, _, _, _, _, _, _, _, _, _, _, _, _, _, _, _, _, _, _, _, _, _, _, _, _, _, _, _, _, _, _, _, _, _, _, _, _, _, _, _, _, _, _, _, _, _, _, _, _, _, _, _, true, by simp [h2], rfl⟩
      · have g_e : (e == 0) = false := by simp [h2]
        go_wp2_with fail
        exact ⟨rfl, _, _, _, _, _, _, _, _, _, _, _, _, _, _, _, _, _, _, _, _, _, _, _, _, _, _, _, _, _, _, _, _, _, _, _, _, _, _, _, _, _, _, _, _, _, _, _, _, _, _, _, _, _, _, _, _, _, _, _, _, _, _, _, _, _, _, _, _, _, _, _, _, _, _, _, false, by simp [h1, h2], rfl⟩
  rintro a' w' ⟨rfl, x0, x2, x3, x4, x5, x6, x7, x8, x9, x10, x11, x12, x13, x14, x15, x16, x17, x18, x19, x20, x21, x22, x23, x24, x25, x26, x27, x28, x29, x30, x31, x32, x33, x34, x35, x36, x37, x38, x39, x40, x41, x42, x43, x44, x45, x46, x47, x49, x50, x51, x52, x53, x54, x55, x56, x57, x58, x59, x60, x61, x62, x63, x64, x65, x66, x67, x68, x69, x70, x71, x72, x73, x74, x75, x76, u, hu, rfl⟩
  simp only [List.append_eq, List.cons_append, List.nil_append, List.drop_succ_cons, List.drop_zero]
  have HU48 := Lib.hid hu
  clear hu
  cases u
  · go_wp2_with fail
    go_ret
    refine ⟨?_, B0.out⟩
    simp [← HU21.out, ← HU37.out, ← HU48.out]
  refine wpList_cut 16 (toldS64 q W0 (flg a 8 || (f == 0 && g == 0))) ?_ ?_
  · simp only [List.append_eq, List.cons_append, List.nil_append, List.take_succ_cons, List.take_zero]
    by_cases h1 : flg a 8 = true
    · have f1 : (bits .and .u32 a 8 != 0) = true := h1
      go_wp2_with fail
      exact ⟨rfl, _, _, _, _, _, _, _, _, _, _, _, _, _, _, _, _, _, _, _, _, _, _, _, _, _, _, _, _, _, _, _, _, _, _, _, _, _, _, _, _, _, _, _, _, _, _, _, _, _, _, _, _, _, _, _, _, _, _, _, _, _, _, _, _, _, _, _, _, _, _, _, _, _, _, _, true, by simp [h1], rfl⟩
    · have f1 : (bits .and .u32 a 8 != 0) = false := by simpa [flg] using h1
      by_cases h2 : f = 0
      · have g_f : (f == 0) = true := by simp [h2]
        by_cases h3 : g = 0
        · have g_g : (g == 0) = true := by simp [h3]
          go_wp2_with fail
          exact ⟨rfl, _, _, _, _, _, _, _, _, _, _, _, _, _, _, _, _, _, _, _, _, _, _, _, _, _, _, _, _, _, _, _, _, _, _, _, _, _, _, _, _, _, _, _, _, _, _, _, _, _, _, _, _, _, _, _, _, _, _, _, _, _, _, _, _, _, _, _, _, _, _, _, _, _, _, _, true, by simp [h2, h3], rfl⟩
        · have g_g : (g == 0) = false := by simp [h3]
          go_wp2_with fail
          exact ⟨rfl, _, _, _, _, _, _, _, _, _, _, _, _, _, _, _, _, _, _, _, _, _, _, _, _, _, _, _, _, _, _, _, _, _, _, _, _, _, _, _, _, _, _, _, _, _, _, _, _, _, _, _, _, _, _, _, _, _, _, _, _, _, _, _, _, _, _, _, _, _, _, _, _, _, _, _, false, by simp [h1, h2, h3], rfl⟩
      · have g_f : (f == 0) = false := by simp [h2]
        go_wp2_with fail
        exact ⟨rfl, _, _, _, _, _, _, _, _, _, _, _, _, _, _, _, _, _, _, _, _, _, _, _, _, _, _, _, _, _, _, _, _, _, _, _, _, _, _, _, _, _, _, _, _, _, _, _, _, _, _, _, _, _, _, _, _, _, _, _, _, _, _, _, _, _, _, _, _, _, _, _, _, _, _, _, false, by simp [h1, h2], rfl⟩
  rintro a' w' ⟨rfl, x0, x2, x3, x4, x5, x6, x7, x8, x9, x10, x11, x12, x13, x14, x15, x16, x17, x18, x19, x20, x21, x22, x23, x24, x25, x26, x27, x28, x29, x30, x31, x32, x33, x34, x35, x36, x37, x38, x39, x40, x41, x42, x43, x44, x45, x46, x47, x48, x49, x50, x51, x52, x53, x54, x55, x56, x57, x58, x59, x60, x61, x62, x63, x65, x66, x67, x68, x69, x70, x71, x72, x73, x74, x75, x76, u, hu, rfl⟩
  simp only [List.append_eq, List.cons_append, List.nil_append, List.drop_succ_cons, List.drop_zero]
  have HU64 := Lib.hid hu
  clear hu
  cases u
  · go_wp2_with fail
    go_ret
    refine ⟨?_, B0.out⟩
    simp [← HU21.out, ← HU37.out, ← HU48.out, ← HU64.out]
  by_cases h1 : flg a 2147483648 = true
  · have f1 : (bits .and .u32 a 2147483648 != 0) = true := h1
    go_wp2_with fail
    go_ret
    refine ⟨?_, B0.out⟩
    simp [h1, ← HU21.out, ← HU37.out, ← HU48.out, ← HU64.out]
  · have f1 : (bits .and .u32 a 2147483648 != 0) = false := by simpa [flg] using h1
    have h2 : flg a 2147483648 = false := by simpa using h1
    go_wp2_with fail
    go_ret
    refine ⟨?_, B0.out⟩
    simp [h2, ← HU21.out, ← HU37.out, ← HU48.out, ← HU64.out]
    rw [Bool.eq_iff_iff]
    simp
end Go.Proofs.YtmenkckgpiafiaaGreat
namespace Go.Proofs.YtmenkckgpiafiaaGreat
open Go.RowKit Go.Great Go.Proofs.YtmenkckgpiafiaaGreatW.PrintWords Go.Proofs.YtmenkckgpiafiaaGreatW.PrintLast Go.Proofs.YtmenkckgpiafiaaGreatW.PrintMore Go.Proofs.YtmenkckgpiafiaaGreat.KK
theorem fits7_f (a b : ByteArray) : ∃ r, PF.laws_zzFits7.f a b = some r := by
  unfold PF.laws_zzFits7.f
  (repeat' split) <;> exact ⟨_, rfl⟩
theorem fits6_l0 (l : List S89) (hl : l.length ≤ 2147483647) : ∀ (m : Nat) (k : Nat) (i : Nat), i + m = l.length → m < k → ∃ r, PF.laws_zzFits6.l0 k l (l.length : Int) (i : Int) = some r := by
  intro m
  induction m with
  | zero =>
    intro k i hi hk
    obtain ⟨k, rfl⟩ : ∃ j, k = j + 1 := ⟨k - 1, by omega⟩
    simp only [PF.laws_zzFits6.l0]
    rw [if_neg (by omega)]
    exact ⟨_, rfl⟩
  | succ m ih =>
    intro k i hi hk
    obtain ⟨k, rfl⟩ : ∃ j, k = j + 1 := ⟨k - 1, by omega⟩
    simp only [PF.laws_zzFits6.l0]
    rw [if_pos (by omega), if_pos (by omega), if_pos (by omega), wrap_succ (by omega) (show (i : Int) < (l.length : Int) by omega) (by omega)]
    obtain ⟨r, hr⟩ := fits7_f (rd_T89 l (i : Int)).f0 (rd_T89 l (i : Int)).f1
    rw [hr]
    simp only [Option.bind_some]
    split
    · rw [show ((i : Int) + 1) = ((i + 1 : Nat) : Int) from by omega]
      exact ih k (i + 1) (by omega) (by omega)
    · exact ⟨_, rfl⟩
theorem fits5_f (a b c d e f g : Int) (l : List S89) : ∃ k r, PF.laws_zzFits5.f k a b c d e f g l = some r ∧ (r = true → l.length ≤ 2147483647) := by
  by_cases hl : l.length ≤ 2147483647
  · obtain ⟨r, hr⟩ := fits6_l0 l hl l.length (l.length + 1) 0 (by omega) (by omega)
    refine ⟨l.length + 1, r, ?_, fun _ => hl⟩
    have h6 : PF.laws_zzFits6.f (l.length + 1) l = some r := by
      unfold PF.laws_zzFits6.f
      rw [if_neg (by omega)]
      exact hr
    unfold PF.laws_zzFits5.f
    rw [h6]
    cases r <;> rfl
  · refine ⟨1, false, ?_, fun h => by cases h⟩
    have h6 : PF.laws_zzFits6.f 1 l = some false := by
      unfold PF.laws_zzFits6.f
      rw [if_pos (by omega)]
    unfold PF.laws_zzFits5.f
    rw [h6]
    rfl
theorem fits5C (a b c d e f g : Int) (A : Option Addr) (cap : Nat) (l : List S89) (w : World) (hr : Kd.C k89 w A l.length l) (hc : l.length ≤ cap) :
    ∃ r, (r = true → l.length ≤ 2147483647) ∧ Calls Tryz.prog 26 #[.agg (at8 a b c d e f g (.slice A l.length cap))] w fun e w' => e = .returned (.bool r) ∧ Below w.heap.size w w' := by
  obtain ⟨k, r, h, hr2⟩ := fits5_f a b c d e f g l
  exact ⟨r, hr2, PF.laws_zzFits5.calls k a b c d e f g A cap l r w hr hc h⟩
end Go.Proofs.YtmenkckgpiafiaaGreat
namespace Go.Proofs.YtmenkckgpiafiaaGreat
open Go.RowKit Go.Great Go.Proofs.YtmenkckgpiafiaaGreatW.PrintWords Go.Proofs.YtmenkckgpiafiaaGreatW.PrintLast Go.Proofs.YtmenkckgpiafiaaGreatW.PrintMore Go.Proofs.YtmenkckgpiafiaaGreat.KK
theorem sameExts_nil : PS.laws_sameExts.f 1 [] [] = some true := by
  unfold PS.laws_sameExts.f
  rw [if_pos rfl]
  simp [PS.laws_sameExts.l0]
theorem sameA (a b c d e f g : Int) (A A' : Option Addr) (m m' : Nat) (w : World) :
    Calls Tryz.prog 33 #[.agg (at8 a b c d e f g (.slice A 0 m)), .agg (at8 a b c d e f g (.slice A' 0 m'))] w fun r w' => r = .returned (.bool true) ∧ Below w.heap.size w w' := by
  have hC : ∀ B, Kd.C k89 w B ([] : List S89).length [] := fun B => ⟨rfl, by simp, fun h => by simp at h⟩
  refine PS.laws_sameAttrs.calls 1 a b c d e f g A m [] a b c d e f g A' m' [] true w (hC A) (by simp) (hC A') (by simp) ?_
  unfold PS.laws_sameAttrs.f
  simp only [if_true, sameExts_nil]
  rfl
set_option maxRecDepth 5000 in
set_option maxHeartbeats 3200000 in
theorem setLaw0 (a b c d e f g t x y : Int) (A : Option Addr) (cap : Nat) (w : World) (t0 : 0 ≤ t) (t1 : t ≤ 255) (hm : t % 4 = 0) (x0 : 0 ≤ x) (x1 : x ≤ 4294967295) (y0 : 0 ≤ y) (y1 : y ≤ 4294967295) (hfit : ∀ w : World, Calls Tryz.prog 26 #[.agg (at8 a b c d e f g (.slice A 0 cap))] w fun e w' => e = .returned (.bool true) ∧ Below w.heap.size w w') (htold : toldB a b c d e f g 0 = true) :
    Calls Tryz.prog 15 #[.agg (at8 a b c d e f g (.slice A 0 cap)), .int .u8 t, .int .u32 x, .int .u32 y] w fun r w' => r = .returned (.bool true) ∧ Below w.heap.size w w' := by
  obtain ⟨W0, hW0⟩ : ∃ W, w.alloc (.cells (at8 a b c d e f g (.slice A 0 cap)) 26) = W := ⟨_, rfl⟩
  have hb0 : Below w.heap.size w W0 := by rw [← hW0]; exact (Below.refl _ _).alloc (Nat.le_refl _) _
  have k0 : W0.heap[w.heap.size]? = some (.cells (at8 a b c d e f g (.slice A 0 cap)) 26 (0, 0)) := by rw [← hW0]; exact heap_alloc_new _ _
  have TC := Lib.hid (fun w => toldC2 a b c d e f g A 0 cap w)
  have TV := Lib.hid htold
  have FC := Lib.hid hfit
  have X0 := Lib.hid hW0
  have B0 := Lib.hid hb0
  have K0 := Lib.hid k0
  have M := Lib.hid hm
  clear hW0 hb0 k0 hm htold hfit
  go_enter Tryz.func15, Tryz.ntmps15
  go_wp2_with (first
    | (refine wpList_boxTo rfl 26 _ rfl (some 4) rfl w.heap.size rfl (at8 a b c d e f g (.slice A 0 cap)) rfl ?_; rw [X0.out])
    | refine wpList_load_row rfl 26 _ rfl w.heap.size rfl 26 (at8 a b c d e f g (.slice A 0 cap)) (0, 0) _ K0.out Tryz.underlying26 rfl (ainfo8 _ _ _ _ _ _ _ _) ?_)
  refine (FC.out W0).mono ?_
  rintro r wz ⟨rfl, hbz⟩
  have kz := (hbz.block _ (lt_of_blk K0.out)).trans K0.out
  have hBz : Below w.heap.size w wz := B0.out.trans (hbz.mono B0.out.size)
  have cz : wz.cell? ⟨w.heap.size, 7, none⟩ = some (.slice A 0 cap) := by rw [cell_of_blk kz]; rfl
  have KZ := Lib.hid kz
  have BZ := Lib.hid hBz
  clear kz hBz hbz FC X0 B0 K0
  go_wp2_with (refine load_row_g (by rfl) 26 _ rfl w.heap.size rfl 26 (at8 a b c d e f g (.slice A 0 cap)) (0, 0) _ KZ.out Tryz.underlying26 rfl (ainfo8 _ _ _ _ _ _ _ _) ?_)
  refine (TC.out wz).mono ?_
  rw [TV.out]
  rintro r w1 ⟨rfl, hb1⟩
  have k1 := (hb1.block _ (lt_of_blk KZ.out)).trans KZ.out
  have hB1 : Below w.heap.size w w1 := BZ.out.trans (hb1.mono BZ.out.size)
  have z1 := hB1.size
  have l1 := lt_of_blk k1
  obtain ⟨W2, hW2⟩ : ∃ W, w1.alloc (.cells z8 26) = W := ⟨_, rfl⟩
  obtain ⟨W4, hW4⟩ : ∃ W, W2.setRow w1.heap.size (at8 a b c d e f g (.slice A 0 cap)) = W := ⟨_, rfl⟩
  have k2 : W2.heap[w1.heap.size]? = some (.cells z8 26 (0, 0)) := by rw [← hW2]; exact heap_alloc_new _ _
  have k4 : W4.heap[w1.heap.size]? = some (.cells (at8 a b c d e f g (.slice A 0 cap)) 26 (0, 0)) := by rw [← hW4]; exact setRow_heap _ _ _ _ _ _ k2
  have j4 : W4.heap[w.heap.size]? = some (.cells (at8 a b c d e f g (.slice A 0 cap)) 26 (0, 0)) := by rw [← hW4, setRow_other _ _ _ _ (by omega), ← hW2, heap_alloc_old _ _ l1]; exact k1
  have hB4 : Below w.heap.size w W4 := by
    have h1 := hB1.alloc z1 (.cells z8 26)
    rw [hW2] at h1
    rw [← hW4]
    exact ⟨h1.os, h1.tape, h1.output, by rw [setRow_size]; exact h1.size, fun k hk => by rw [setRow_other _ _ _ _ (by omega)]; exact h1.block k hk⟩
  have hqp : w.heap.size ≤ w1.heap.size := z1
  have hqn : w.heap.size ≠ w1.heap.size := by omega
  have d0 : W4.cell? ⟨w.heap.size, 0, none⟩ = some (.int .u32 a) := by rw [cell_of_blk j4]; rfl
  have X2 := Lib.hid hW2
  have X4 := Lib.hid hW4
  have K1 := Lib.hid k1
  have K2 := Lib.hid k2
  have K4 := Lib.hid k4
  have J4 := Lib.hid j4
  have B4 := Lib.hid hB4
  have fz := frozen_of_blk k4
  have f0 := fz 0
  have v0 : W4.cell? ⟨w1.heap.size, 0, none⟩ = some (.int .u32 a) := by rw [cell_of_blk K4.out]; rfl
  have f1 := fz 1
  have v1 : W4.cell? ⟨w1.heap.size, 1, none⟩ = some (.int .u64 b) := by rw [cell_of_blk K4.out]; rfl
  clear hW2 hW4 k2 k4 j4 hb1 hB1 hB4 z1 l1 TC TV cz KZ BZ fz k1
  have tm : Int.tmod t 4 = 0 := by rw [Int.tmod_eq_emod_of_nonneg t0]; exact M.out
  have hz : 4 = (4 : Int) := rfl
  go_upto_region 15 with (first
    | refine wpList_load_row rfl 26 _ rfl w.heap.size rfl 26 (at8 a b c d e f g (.slice A 0 cap)) (0, 0) _ K1.out Tryz.underlying26 rfl (ainfo8 _ _ _ _ _ _ _ _) ?_
    | (refine wpList_allocTo rfl (some 9) rfl (.pointer (some ⟨w1.heap.size, 0, none⟩)) (.cells z8 26) (by as_aux_lemma => kernel_rfl) ?_; rw [X2.out])
    | (refine wpList_store_row rfl 26 _ _ rfl w1.heap.size (at8 a b c d e f g (.slice A 0 cap)) rfl rfl 26 z8 K2.out (ainfo8 _ _ _ _ _ _ _ _) rfl (one8 _ _ _ _ _ _ _ _ _ _) ?_; rw [X4.out]))
  have k5 : ((W4.setCell ⟨w1.heap.size, 0, none⟩ (.int .u32 (bits .or .u32 a 1))).setCell ⟨w1.heap.size, 1, none⟩ (.int .u64 x)).heap[w1.heap.size]? = some (.cells (at8 (bits .or .u32 a 1) x c d e f g (.slice A 0 cap)) 26 (0, 0)) := (setCell_blk (i := 1) (setCell_blk (i := 0) K4.out (.int .u32 (bits .or .u32 a 1))) (.int .u64 x)).trans rfl
  have j5 : ((W4.setCell ⟨w1.heap.size, 0, none⟩ (.int .u32 (bits .or .u32 a 1))).setCell ⟨w1.heap.size, 1, none⟩ (.int .u64 x)).heap[w.heap.size]? = some (.cells (at8 a b c d e f g (.slice A 0 cap)) 26 (0, 0)) := by
    repeat rw [Below.heap_setCell _ _ _ _ hqn]
    exact J4.out
  have hB5 : Below w.heap.size w ((W4.setCell ⟨w1.heap.size, 0, none⟩ (.int .u32 (bits .or .u32 a 1))).setCell ⟨w1.heap.size, 1, none⟩ (.int .u64 x)) := ((B4.out.setCell hqp _).setCell hqp _)
  generalize ((W4.setCell ⟨w1.heap.size, 0, none⟩ (.int .u32 (bits .or .u32 a 1))).setCell ⟨w1.heap.size, 1, none⟩ (.int .u64 x)) = W at *
  generalize w1.heap.size = p at *
  generalize hq : w.heap.size = q at *
  have HQ := Lib.hid hq
  have s0 : W.cell? ⟨q, 0, none⟩ = some (.int .u32 a) := by rw [cell_of_blk j5]; rfl
  have r0 : W.cell? ⟨p, 0, none⟩ = some (.int .u32 (bits .or .u32 a 1)) := by rw [cell_of_blk k5]; rfl
  have s1 : W.cell? ⟨q, 1, none⟩ = some (.int .u64 b) := by rw [cell_of_blk j5]; rfl
  have r1 : W.cell? ⟨p, 1, none⟩ = some (.int .u64 x) := by rw [cell_of_blk k5]; rfl
  have s2 : W.cell? ⟨q, 2, none⟩ = some (.int .u32 c) := by rw [cell_of_blk j5]; rfl
  have r2 : W.cell? ⟨p, 2, none⟩ = some (.int .u32 c) := by rw [cell_of_blk k5]; rfl
  have s3 : W.cell? ⟨q, 3, none⟩ = some (.int .u32 d) := by rw [cell_of_blk j5]; rfl
  have r3 : W.cell? ⟨p, 3, none⟩ = some (.int .u32 d) := by rw [cell_of_blk k5]; rfl
  have s4 : W.cell? ⟨q, 4, none⟩ = some (.int .u32 e) := by rw [cell_of_blk j5]; rfl
  have r4 : W.cell? ⟨p, 4, none⟩ = some (.int .u32 e) := by rw [cell_of_blk k5]; rfl
  have s5 : W.cell? ⟨q, 5, none⟩ = some (.int .u32 f) := by rw [cell_of_blk j5]; rfl
  have r5 : W.cell? ⟨p, 5, none⟩ = some (.int .u32 f) := by rw [cell_of_blk k5]; rfl
  have s6 : W.cell? ⟨q, 6, none⟩ = some (.int .u32 g) := by rw [cell_of_blk j5]; rfl
  have r6 : W.cell? ⟨p, 6, none⟩ = some (.int .u32 g) := by rw [cell_of_blk k5]; rfl
  have s7 : W.cell? ⟨q, 7, none⟩ = some (.slice A 0 cap) := by rw [cell_of_blk j5]; rfl
  have r7 : W.cell? ⟨p, 7, none⟩ = some (.slice A 0 cap) := by rw [cell_of_blk k5]; rfl
  have zB : q ≤ W.heap.size := by rw [← hq]; exact hB5.size
  have ux : IntKind.u64.wrap x = x := by unfold IntKind.wrap; simp [IntKind.signed, IntKind.bits]; omega
  have uy : IntKind.u64.wrap y = y := by unfold IntKind.wrap; simp [IntKind.signed, IntKind.bits]; omega
  clear k5 j5 hq d0 v0 f0 v1 f1 X2 X4 K1 K2 K4 J4 B4 hqp hqn
  go_region_held3 (fun w' => w'.cell? ⟨q, 0, none⟩ = some (.int .u32 a) ∧ w'.cell? ⟨q, 1, none⟩ = some (.int .u64 b) ∧ w'.cell? ⟨q, 2, none⟩ = some (.int .u32 c) ∧ w'.cell? ⟨q, 3, none⟩ = some (.int .u32 d) ∧ w'.cell? ⟨q, 4, none⟩ = some (.int .u32 e) ∧ w'.cell? ⟨q, 5, none⟩ = some (.int .u32 f) ∧ w'.cell? ⟨q, 6, none⟩ = some (.int .u32 g) ∧ w'.cell? ⟨q, 7, none⟩ = some (.slice A 0 cap) ∧ w'.cell? ⟨p, 0, none⟩ = some (.int .u32 (bits .or .u32 a 1)) ∧ w'.cell? ⟨p, 1, none⟩ = some (.int .u64 x) ∧ w'.cell? ⟨p, 2, none⟩ = some (.int .u32 c) ∧ w'.cell? ⟨p, 3, none⟩ = some (.int .u32 d) ∧ w'.cell? ⟨p, 4, none⟩ = some (.int .u32 e) ∧ w'.cell? ⟨p, 5, none⟩ = some (.int .u32 f) ∧ w'.cell? ⟨p, 6, none⟩ = some (.int .u32 g) ∧ w'.cell? ⟨p, 7, none⟩ = some (.slice A 0 cap) ∧ Below q w w' ∧ q ≤ w'.heap.size)
    (((first | (go_split_ands) | skip); refine ⟨?_, ?_, ?_, ?_, ?_, ?_, ?_, ?_, ?_, ?_, ?_, ?_, ?_, ?_, ?_, ?_, ?_, ?_⟩ <;> first | assumption | exact pw_cell_below hb (by assumption) | (simp; assumption) | exact below_drew (by assumption) | exact Below.trans (by assumption) (hb.mono (by assumption)) | exact Nat.le_trans (by assumption) hb.size))
    (first
      | (go_at_call 41; refine (attrsSet0 a b c d e f g x y A cap _ x0 (by omega)).mono ?_; rintro r w' ⟨⟨A', c', rfl⟩, hb⟩)
      | (go_at_call 33; refine (sameA _ _ _ _ _ _ _ _ _ _ _ _).mono ?_; rintro r w' ⟨rfl, hb⟩)
      | (go_at_call 23; refine (awake _).mono ?_; rintro r w' ⟨rfl, hb⟩))
  all_goals
    go_wp2
    go_ret
    refine ⟨rfl, ?_⟩
    rename_i hS
    rw [HQ.out]
    exact hS.2.2.2.2.2.2.2.2.2.2.2.2.2.2.2.2.1
set_option maxRecDepth 5000 in
set_option maxHeartbeats 3200000 in
theorem setLaw1 (a b c d e f g t x y : Int) (A : Option Addr) (cap : Nat) (w : World) (t0 : 0 ≤ t) (t1 : t ≤ 255) (hm : t % 4 = 1) (x0 : 0 ≤ x) (x1 : x ≤ 4294967295) (y0 : 0 ≤ y) (y1 : y ≤ 4294967295) (hfit : ∀ w : World, Calls Tryz.prog 26 #[.agg (at8 a b c d e f g (.slice A 0 cap))] w fun e w' => e = .returned (.bool true) ∧ Below w.heap.size w w') (htold : toldB a b c d e f g 0 = true) :
    Calls Tryz.prog 15 #[.agg (at8 a b c d e f g (.slice A 0 cap)), .int .u8 t, .int .u32 x, .int .u32 y] w fun r w' => r = .returned (.bool true) ∧ Below w.heap.size w w' := by
  obtain ⟨W0, hW0⟩ : ∃ W, w.alloc (.cells (at8 a b c d e f g (.slice A 0 cap)) 26) = W := ⟨_, rfl⟩
  have hb0 : Below w.heap.size w W0 := by rw [← hW0]; exact (Below.refl _ _).alloc (Nat.le_refl _) _
  have k0 : W0.heap[w.heap.size]? = some (.cells (at8 a b c d e f g (.slice A 0 cap)) 26 (0, 0)) := by rw [← hW0]; exact heap_alloc_new _ _
  have TC := Lib.hid (fun w => toldC2 a b c d e f g A 0 cap w)
  have TV := Lib.hid htold
  have FC := Lib.hid hfit
  have X0 := Lib.hid hW0
  have B0 := Lib.hid hb0
  have K0 := Lib.hid k0
  have M := Lib.hid hm
  clear hW0 hb0 k0 hm htold hfit
  go_enter Tryz.func15, Tryz.ntmps15
  go_wp2_with (first
    | (refine wpList_boxTo rfl 26 _ rfl (some 4) rfl w.heap.size rfl (at8 a b c d e f g (.slice A 0 cap)) rfl ?_; rw [X0.out])
    | refine wpList_load_row rfl 26 _ rfl w.heap.size rfl 26 (at8 a b c d e f g (.slice A 0 cap)) (0, 0) _ K0.out Tryz.underlying26 rfl (ainfo8 _ _ _ _ _ _ _ _) ?_)
  refine (FC.out W0).mono ?_
  rintro r wz ⟨rfl, hbz⟩
  have kz := (hbz.block _ (lt_of_blk K0.out)).trans K0.out
  have hBz : Below w.heap.size w wz := B0.out.trans (hbz.mono B0.out.size)
  have cz : wz.cell? ⟨w.heap.size, 7, none⟩ = some (.slice A 0 cap) := by rw [cell_of_blk kz]; rfl
  have KZ := Lib.hid kz
  have BZ := Lib.hid hBz
  clear kz hBz hbz FC X0 B0 K0
  go_wp2_with (refine load_row_g (by rfl) 26 _ rfl w.heap.size rfl 26 (at8 a b c d e f g (.slice A 0 cap)) (0, 0) _ KZ.out Tryz.underlying26 rfl (ainfo8 _ _ _ _ _ _ _ _) ?_)
  refine (TC.out wz).mono ?_
  rw [TV.out]
  rintro r w1 ⟨rfl, hb1⟩
  have k1 := (hb1.block _ (lt_of_blk KZ.out)).trans KZ.out
  have hB1 : Below w.heap.size w w1 := BZ.out.trans (hb1.mono BZ.out.size)
  have z1 := hB1.size
  have l1 := lt_of_blk k1
  obtain ⟨W2, hW2⟩ : ∃ W, w1.alloc (.cells z8 26) = W := ⟨_, rfl⟩
  obtain ⟨W4, hW4⟩ : ∃ W, W2.setRow w1.heap.size (at8 a b c d e f g (.slice A 0 cap)) = W := ⟨_, rfl⟩
  have k2 : W2.heap[w1.heap.size]? = some (.cells z8 26 (0, 0)) := by rw [← hW2]; exact heap_alloc_new _ _
  have k4 : W4.heap[w1.heap.size]? = some (.cells (at8 a b c d e f g (.slice A 0 cap)) 26 (0, 0)) := by rw [← hW4]; exact setRow_heap _ _ _ _ _ _ k2
  have j4 : W4.heap[w.heap.size]? = some (.cells (at8 a b c d e f g (.slice A 0 cap)) 26 (0, 0)) := by rw [← hW4, setRow_other _ _ _ _ (by omega), ← hW2, heap_alloc_old _ _ l1]; exact k1
  have hB4 : Below w.heap.size w W4 := by
    have h1 := hB1.alloc z1 (.cells z8 26)
    rw [hW2] at h1
    rw [← hW4]
    exact ⟨h1.os, h1.tape, h1.output, by rw [setRow_size]; exact h1.size, fun k hk => by rw [setRow_other _ _ _ _ (by omega)]; exact h1.block k hk⟩
  have hqp : w.heap.size ≤ w1.heap.size := z1
  have hqn : w.heap.size ≠ w1.heap.size := by omega
  have d0 : W4.cell? ⟨w.heap.size, 0, none⟩ = some (.int .u32 a) := by rw [cell_of_blk j4]; rfl
  have X2 := Lib.hid hW2
  have X4 := Lib.hid hW4
  have K1 := Lib.hid k1
  have K2 := Lib.hid k2
  have K4 := Lib.hid k4
  have J4 := Lib.hid j4
  have B4 := Lib.hid hB4
  have fz := frozen_of_blk k4
  have f0 := fz 0
  have v0 : W4.cell? ⟨w1.heap.size, 0, none⟩ = some (.int .u32 a) := by rw [cell_of_blk K4.out]; rfl
  have f2 := fz 2
  have v2 : W4.cell? ⟨w1.heap.size, 2, none⟩ = some (.int .u32 c) := by rw [cell_of_blk K4.out]; rfl
  have f3 := fz 3
  have v3 : W4.cell? ⟨w1.heap.size, 3, none⟩ = some (.int .u32 d) := by rw [cell_of_blk K4.out]; rfl
  clear hW2 hW4 k2 k4 j4 hb1 hB1 hB4 z1 l1 TC TV cz KZ BZ fz k1
  have tm : Int.tmod t 4 = 1 := by rw [Int.tmod_eq_emod_of_nonneg t0]; exact M.out
  have hz : 4 = (4 : Int) := rfl
  go_upto_region 15 with (first
    | refine wpList_load_row rfl 26 _ rfl w.heap.size rfl 26 (at8 a b c d e f g (.slice A 0 cap)) (0, 0) _ K1.out Tryz.underlying26 rfl (ainfo8 _ _ _ _ _ _ _ _) ?_
    | (refine wpList_allocTo rfl (some 9) rfl (.pointer (some ⟨w1.heap.size, 0, none⟩)) (.cells z8 26) (by as_aux_lemma => kernel_rfl) ?_; rw [X2.out])
    | (refine wpList_store_row rfl 26 _ _ rfl w1.heap.size (at8 a b c d e f g (.slice A 0 cap)) rfl rfl 26 z8 K2.out (ainfo8 _ _ _ _ _ _ _ _) rfl (one8 _ _ _ _ _ _ _ _ _ _) ?_; rw [X4.out]))
  have k5 : (((W4.setCell ⟨w1.heap.size, 0, none⟩ (.int .u32 (bits .or .u32 a 2))).setCell ⟨w1.heap.size, 2, none⟩ (.int .u32 x)).setCell ⟨w1.heap.size, 3, none⟩ (.int .u32 y)).heap[w1.heap.size]? = some (.cells (at8 (bits .or .u32 a 2) b x y e f g (.slice A 0 cap)) 26 (0, 0)) := (setCell_blk (i := 3) (setCell_blk (i := 2) (setCell_blk (i := 0) K4.out (.int .u32 (bits .or .u32 a 2))) (.int .u32 x)) (.int .u32 y)).trans rfl
  have j5 : (((W4.setCell ⟨w1.heap.size, 0, none⟩ (.int .u32 (bits .or .u32 a 2))).setCell ⟨w1.heap.size, 2, none⟩ (.int .u32 x)).setCell ⟨w1.heap.size, 3, none⟩ (.int .u32 y)).heap[w.heap.size]? = some (.cells (at8 a b c d e f g (.slice A 0 cap)) 26 (0, 0)) := by
    repeat rw [Below.heap_setCell _ _ _ _ hqn]
    exact J4.out
  have hB5 : Below w.heap.size w (((W4.setCell ⟨w1.heap.size, 0, none⟩ (.int .u32 (bits .or .u32 a 2))).setCell ⟨w1.heap.size, 2, none⟩ (.int .u32 x)).setCell ⟨w1.heap.size, 3, none⟩ (.int .u32 y)) := (((B4.out.setCell hqp _).setCell hqp _).setCell hqp _)
  generalize (((W4.setCell ⟨w1.heap.size, 0, none⟩ (.int .u32 (bits .or .u32 a 2))).setCell ⟨w1.heap.size, 2, none⟩ (.int .u32 x)).setCell ⟨w1.heap.size, 3, none⟩ (.int .u32 y)) = W at *
  generalize w1.heap.size = p at *
  generalize hq : w.heap.size = q at *
  have HQ := Lib.hid hq
  have s0 : W.cell? ⟨q, 0, none⟩ = some (.int .u32 a) := by rw [cell_of_blk j5]; rfl
  have r0 : W.cell? ⟨p, 0, none⟩ = some (.int .u32 (bits .or .u32 a 2)) := by rw [cell_of_blk k5]; rfl
  have s1 : W.cell? ⟨q, 1, none⟩ = some (.int .u64 b) := by rw [cell_of_blk j5]; rfl
  have r1 : W.cell? ⟨p, 1, none⟩ = some (.int .u64 b) := by rw [cell_of_blk k5]; rfl
  have s2 : W.cell? ⟨q, 2, none⟩ = some (.int .u32 c) := by rw [cell_of_blk j5]; rfl
  have r2 : W.cell? ⟨p, 2, none⟩ = some (.int .u32 x) := by rw [cell_of_blk k5]; rfl
  have s3 : W.cell? ⟨q, 3, none⟩ = some (.int .u32 d) := by rw [cell_of_blk j5]; rfl
  have r3 : W.cell? ⟨p, 3, none⟩ = some (.int .u32 y) := by rw [cell_of_blk k5]; rfl
  have s4 : W.cell? ⟨q, 4, none⟩ = some (.int .u32 e) := by rw [cell_of_blk j5]; rfl
  have r4 : W.cell? ⟨p, 4, none⟩ = some (.int .u32 e) := by rw [cell_of_blk k5]; rfl
  have s5 : W.cell? ⟨q, 5, none⟩ = some (.int .u32 f) := by rw [cell_of_blk j5]; rfl
  have r5 : W.cell? ⟨p, 5, none⟩ = some (.int .u32 f) := by rw [cell_of_blk k5]; rfl
  have s6 : W.cell? ⟨q, 6, none⟩ = some (.int .u32 g) := by rw [cell_of_blk j5]; rfl
  have r6 : W.cell? ⟨p, 6, none⟩ = some (.int .u32 g) := by rw [cell_of_blk k5]; rfl
  have s7 : W.cell? ⟨q, 7, none⟩ = some (.slice A 0 cap) := by rw [cell_of_blk j5]; rfl
  have r7 : W.cell? ⟨p, 7, none⟩ = some (.slice A 0 cap) := by rw [cell_of_blk k5]; rfl
  have zB : q ≤ W.heap.size := by rw [← hq]; exact hB5.size
  have ux : IntKind.u64.wrap x = x := by unfold IntKind.wrap; simp [IntKind.signed, IntKind.bits]; omega
  have uy : IntKind.u64.wrap y = y := by unfold IntKind.wrap; simp [IntKind.signed, IntKind.bits]; omega
  clear k5 j5 hq d0 v0 f0 v2 f2 v3 f3 X2 X4 K1 K2 K4 J4 B4 hqp hqn
  go_region_held3 (fun w' => w'.cell? ⟨q, 0, none⟩ = some (.int .u32 a) ∧ w'.cell? ⟨q, 1, none⟩ = some (.int .u64 b) ∧ w'.cell? ⟨q, 2, none⟩ = some (.int .u32 c) ∧ w'.cell? ⟨q, 3, none⟩ = some (.int .u32 d) ∧ w'.cell? ⟨q, 4, none⟩ = some (.int .u32 e) ∧ w'.cell? ⟨q, 5, none⟩ = some (.int .u32 f) ∧ w'.cell? ⟨q, 6, none⟩ = some (.int .u32 g) ∧ w'.cell? ⟨q, 7, none⟩ = some (.slice A 0 cap) ∧ w'.cell? ⟨p, 0, none⟩ = some (.int .u32 (bits .or .u32 a 2)) ∧ w'.cell? ⟨p, 1, none⟩ = some (.int .u64 b) ∧ w'.cell? ⟨p, 2, none⟩ = some (.int .u32 x) ∧ w'.cell? ⟨p, 3, none⟩ = some (.int .u32 y) ∧ w'.cell? ⟨p, 4, none⟩ = some (.int .u32 e) ∧ w'.cell? ⟨p, 5, none⟩ = some (.int .u32 f) ∧ w'.cell? ⟨p, 6, none⟩ = some (.int .u32 g) ∧ w'.cell? ⟨p, 7, none⟩ = some (.slice A 0 cap) ∧ Below q w w' ∧ q ≤ w'.heap.size)
    (((first | (go_split_ands) | skip); refine ⟨?_, ?_, ?_, ?_, ?_, ?_, ?_, ?_, ?_, ?_, ?_, ?_, ?_, ?_, ?_, ?_, ?_, ?_⟩ <;> first | assumption | exact pw_cell_below hb (by assumption) | (simp; assumption) | exact below_drew (by assumption) | exact Below.trans (by assumption) (hb.mono (by assumption)) | exact Nat.le_trans (by assumption) hb.size))
    (first
      | (go_at_call 41; refine (attrsSet1 a b c d e f g x y A cap _ x0 x1 y0 y1).mono ?_; rintro r w' ⟨⟨A', c', rfl⟩, hb⟩)
      | (go_at_call 33; refine (sameA _ _ _ _ _ _ _ _ _ _ _ _).mono ?_; rintro r w' ⟨rfl, hb⟩)
      | (go_at_call 23; refine (awake _).mono ?_; rintro r w' ⟨rfl, hb⟩))
  all_goals
    go_wp2
    go_ret
    refine ⟨rfl, ?_⟩
    rename_i hS
    rw [HQ.out]
    exact hS.2.2.2.2.2.2.2.2.2.2.2.2.2.2.2.2.1
set_option maxRecDepth 5000 in
set_option maxHeartbeats 3200000 in
theorem setLaw2 (a b c d e f g t x y : Int) (A : Option Addr) (cap : Nat) (w : World) (t0 : 0 ≤ t) (t1 : t ≤ 255) (hm : t % 4 = 2) (x0 : 0 ≤ x) (x1 : x ≤ 4294967295) (y0 : 0 ≤ y) (y1 : y ≤ 4294967295) (hfit : ∀ w : World, Calls Tryz.prog 26 #[.agg (at8 a b c d e f g (.slice A 0 cap))] w fun e w' => e = .returned (.bool true) ∧ Below w.heap.size w w') (htold : toldB a b c d e f g 0 = true) :
    Calls Tryz.prog 15 #[.agg (at8 a b c d e f g (.slice A 0 cap)), .int .u8 t, .int .u32 x, .int .u32 y] w fun r w' => r = .returned (.bool true) ∧ Below w.heap.size w w' := by
  obtain ⟨W0, hW0⟩ : ∃ W, w.alloc (.cells (at8 a b c d e f g (.slice A 0 cap)) 26) = W := ⟨_, rfl⟩
  have hb0 : Below w.heap.size w W0 := by rw [← hW0]; exact (Below.refl _ _).alloc (Nat.le_refl _) _
  have k0 : W0.heap[w.heap.size]? = some (.cells (at8 a b c d e f g (.slice A 0 cap)) 26 (0, 0)) := by rw [← hW0]; exact heap_alloc_new _ _
  have TC := Lib.hid (fun w => toldC2 a b c d e f g A 0 cap w)
  have TV := Lib.hid htold
  have FC := Lib.hid hfit
  have X0 := Lib.hid hW0
  have B0 := Lib.hid hb0
  have K0 := Lib.hid k0
  have M := Lib.hid hm
  clear hW0 hb0 k0 hm htold hfit
  go_enter Tryz.func15, Tryz.ntmps15
  go_wp2_with (first
    | (refine wpList_boxTo rfl 26 _ rfl (some 4) rfl w.heap.size rfl (at8 a b c d e f g (.slice A 0 cap)) rfl ?_; rw [X0.out])
    | refine wpList_load_row rfl 26 _ rfl w.heap.size rfl 26 (at8 a b c d e f g (.slice A 0 cap)) (0, 0) _ K0.out Tryz.underlying26 rfl (ainfo8 _ _ _ _ _ _ _ _) ?_)
  refine (FC.out W0).mono ?_
  rintro r wz ⟨rfl, hbz⟩
  have kz := (hbz.block _ (lt_of_blk K0.out)).trans K0.out
  have hBz : Below w.heap.size w wz := B0.out.trans (hbz.mono B0.out.size)
  have cz : wz.cell? ⟨w.heap.size, 7, none⟩ = some (.slice A 0 cap) := by rw [cell_of_blk kz]; rfl
  have KZ := Lib.hid kz
  have BZ := Lib.hid hBz
  clear kz hBz hbz FC X0 B0 K0
  go_wp2_with (refine load_row_g (by rfl) 26 _ rfl w.heap.size rfl 26 (at8 a b c d e f g (.slice A 0 cap)) (0, 0) _ KZ.out Tryz.underlying26 rfl (ainfo8 _ _ _ _ _ _ _ _) ?_)
  refine (TC.out wz).mono ?_
  rw [TV.out]
  rintro r w1 ⟨rfl, hb1⟩
  have k1 := (hb1.block _ (lt_of_blk KZ.out)).trans KZ.out
  have hB1 : Below w.heap.size w w1 := BZ.out.trans (hb1.mono BZ.out.size)
  have z1 := hB1.size
  have l1 := lt_of_blk k1
  obtain ⟨W2, hW2⟩ : ∃ W, w1.alloc (.cells z8 26) = W := ⟨_, rfl⟩
  obtain ⟨W4, hW4⟩ : ∃ W, W2.setRow w1.heap.size (at8 a b c d e f g (.slice A 0 cap)) = W := ⟨_, rfl⟩
  have k2 : W2.heap[w1.heap.size]? = some (.cells z8 26 (0, 0)) := by rw [← hW2]; exact heap_alloc_new _ _
  have k4 : W4.heap[w1.heap.size]? = some (.cells (at8 a b c d e f g (.slice A 0 cap)) 26 (0, 0)) := by rw [← hW4]; exact setRow_heap _ _ _ _ _ _ k2
  have j4 : W4.heap[w.heap.size]? = some (.cells (at8 a b c d e f g (.slice A 0 cap)) 26 (0, 0)) := by rw [← hW4, setRow_other _ _ _ _ (by omega), ← hW2, heap_alloc_old _ _ l1]; exact k1
  have hB4 : Below w.heap.size w W4 := by
    have h1 := hB1.alloc z1 (.cells z8 26)
    rw [hW2] at h1
    rw [← hW4]
    exact ⟨h1.os, h1.tape, h1.output, by rw [setRow_size]; exact h1.size, fun k hk => by rw [setRow_other _ _ _ _ (by omega)]; exact h1.block k hk⟩
  have hqp : w.heap.size ≤ w1.heap.size := z1
  have hqn : w.heap.size ≠ w1.heap.size := by omega
  have d0 : W4.cell? ⟨w.heap.size, 0, none⟩ = some (.int .u32 a) := by rw [cell_of_blk j4]; rfl
  have X2 := Lib.hid hW2
  have X4 := Lib.hid hW4
  have K1 := Lib.hid k1
  have K2 := Lib.hid k2
  have K4 := Lib.hid k4
  have J4 := Lib.hid j4
  have B4 := Lib.hid hB4
  have fz := frozen_of_blk k4
  have f0 := fz 0
  have v0 : W4.cell? ⟨w1.heap.size, 0, none⟩ = some (.int .u32 a) := by rw [cell_of_blk K4.out]; rfl
  have f4 := fz 4
  have v4 : W4.cell? ⟨w1.heap.size, 4, none⟩ = some (.int .u32 e) := by rw [cell_of_blk K4.out]; rfl
  clear hW2 hW4 k2 k4 j4 hb1 hB1 hB4 z1 l1 TC TV cz KZ BZ fz k1
  have tm : Int.tmod t 4 = 2 := by rw [Int.tmod_eq_emod_of_nonneg t0]; exact M.out
  have hz : 4 = (4 : Int) := rfl
  go_upto_region 15 with (first
    | refine wpList_load_row rfl 26 _ rfl w.heap.size rfl 26 (at8 a b c d e f g (.slice A 0 cap)) (0, 0) _ K1.out Tryz.underlying26 rfl (ainfo8 _ _ _ _ _ _ _ _) ?_
    | (refine wpList_allocTo rfl (some 9) rfl (.pointer (some ⟨w1.heap.size, 0, none⟩)) (.cells z8 26) (by as_aux_lemma => kernel_rfl) ?_; rw [X2.out])
    | (refine wpList_store_row rfl 26 _ _ rfl w1.heap.size (at8 a b c d e f g (.slice A 0 cap)) rfl rfl 26 z8 K2.out (ainfo8 _ _ _ _ _ _ _ _) rfl (one8 _ _ _ _ _ _ _ _ _ _) ?_; rw [X4.out]))
  have k5 : ((W4.setCell ⟨w1.heap.size, 0, none⟩ (.int .u32 (bits .or .u32 a 4))).setCell ⟨w1.heap.size, 4, none⟩ (.int .u32 x)).heap[w1.heap.size]? = some (.cells (at8 (bits .or .u32 a 4) b c d x f g (.slice A 0 cap)) 26 (0, 0)) := (setCell_blk (i := 4) (setCell_blk (i := 0) K4.out (.int .u32 (bits .or .u32 a 4))) (.int .u32 x)).trans rfl
  have j5 : ((W4.setCell ⟨w1.heap.size, 0, none⟩ (.int .u32 (bits .or .u32 a 4))).setCell ⟨w1.heap.size, 4, none⟩ (.int .u32 x)).heap[w.heap.size]? = some (.cells (at8 a b c d e f g (.slice A 0 cap)) 26 (0, 0)) := by
    repeat rw [Below.heap_setCell _ _ _ _ hqn]
    exact J4.out
  have hB5 : Below w.heap.size w ((W4.setCell ⟨w1.heap.size, 0, none⟩ (.int .u32 (bits .or .u32 a 4))).setCell ⟨w1.heap.size, 4, none⟩ (.int .u32 x)) := ((B4.out.setCell hqp _).setCell hqp _)
  generalize ((W4.setCell ⟨w1.heap.size, 0, none⟩ (.int .u32 (bits .or .u32 a 4))).setCell ⟨w1.heap.size, 4, none⟩ (.int .u32 x)) = W at *
  generalize w1.heap.size = p at *
  generalize hq : w.heap.size = q at *
  have HQ := Lib.hid hq
  have s0 : W.cell? ⟨q, 0, none⟩ = some (.int .u32 a) := by rw [cell_of_blk j5]; rfl
  have r0 : W.cell? ⟨p, 0, none⟩ = some (.int .u32 (bits .or .u32 a 4)) := by rw [cell_of_blk k5]; rfl
  have s1 : W.cell? ⟨q, 1, none⟩ = some (.int .u64 b) := by rw [cell_of_blk j5]; rfl
  have r1 : W.cell? ⟨p, 1, none⟩ = some (.int .u64 b) := by rw [cell_of_blk k5]; rfl
  have s2 : W.cell? ⟨q, 2, none⟩ = some (.int .u32 c) := by rw [cell_of_blk j5]; rfl
  have r2 : W.cell? ⟨p, 2, none⟩ = some (.int .u32 c) := by rw [cell_of_blk k5]; rfl
  have s3 : W.cell? ⟨q, 3, none⟩ = some (.int .u32 d) := by rw [cell_of_blk j5]; rfl
  have r3 : W.cell? ⟨p, 3, none⟩ = some (.int .u32 d) := by rw [cell_of_blk k5]; rfl
  have s4 : W.cell? ⟨q, 4, none⟩ = some (.int .u32 e) := by rw [cell_of_blk j5]; rfl
  have r4 : W.cell? ⟨p, 4, none⟩ = some (.int .u32 x) := by rw [cell_of_blk k5]; rfl
  have s5 : W.cell? ⟨q, 5, none⟩ = some (.int .u32 f) := by rw [cell_of_blk j5]; rfl
  have r5 : W.cell? ⟨p, 5, none⟩ = some (.int .u32 f) := by rw [cell_of_blk k5]; rfl
  have s6 : W.cell? ⟨q, 6, none⟩ = some (.int .u32 g) := by rw [cell_of_blk j5]; rfl
  have r6 : W.cell? ⟨p, 6, none⟩ = some (.int .u32 g) := by rw [cell_of_blk k5]; rfl
  have s7 : W.cell? ⟨q, 7, none⟩ = some (.slice A 0 cap) := by rw [cell_of_blk j5]; rfl
  have r7 : W.cell? ⟨p, 7, none⟩ = some (.slice A 0 cap) := by rw [cell_of_blk k5]; rfl
  have zB : q ≤ W.heap.size := by rw [← hq]; exact hB5.size
  have ux : IntKind.u64.wrap x = x := by unfold IntKind.wrap; simp [IntKind.signed, IntKind.bits]; omega
  have uy : IntKind.u64.wrap y = y := by unfold IntKind.wrap; simp [IntKind.signed, IntKind.bits]; omega
  clear k5 j5 hq d0 v0 f0 v4 f4 X2 X4 K1 K2 K4 J4 B4 hqp hqn
  go_region_held3 (fun w' => w'.cell? ⟨q, 0, none⟩ = some (.int .u32 a) ∧ w'.cell? ⟨q, 1, none⟩ = some (.int .u64 b) ∧ w'.cell? ⟨q, 2, none⟩ = some (.int .u32 c) ∧ w'.cell? ⟨q, 3, none⟩ = some (.int .u32 d) ∧ w'.cell? ⟨q, 4, none⟩ = some (.int .u32 e) ∧ w'.cell? ⟨q, 5, none⟩ = some (.int .u32 f) ∧ w'.cell? ⟨q, 6, none⟩ = some (.int .u32 g) ∧ w'.cell? ⟨q, 7, none⟩ = some (.slice A 0 cap) ∧ w'.cell? ⟨p, 0, none⟩ = some (.int .u32 (bits .or .u32 a 4)) ∧ w'.cell? ⟨p, 1, none⟩ = some (.int .u64 b) ∧ w'.cell? ⟨p, 2, none⟩ = some (.int .u32 c) ∧ w'.cell? ⟨p, 3, none⟩ = some (.int .u32 d) ∧ w'.cell? ⟨p, 4, none⟩ = some (.int .u32 x) ∧ w'.cell? ⟨p, 5, none⟩ = some (.int .u32 f) ∧ w'.cell? ⟨p, 6, none⟩ = some (.int .u32 g) ∧ w'.cell? ⟨p, 7, none⟩ = some (.slice A 0 cap) ∧ Below q w w' ∧ q ≤ w'.heap.size)
    (((first | (go_split_ands) | skip); refine ⟨?_, ?_, ?_, ?_, ?_, ?_, ?_, ?_, ?_, ?_, ?_, ?_, ?_, ?_, ?_, ?_, ?_, ?_⟩ <;> first | assumption | exact pw_cell_below hb (by assumption) | (simp; assumption) | exact below_drew (by assumption) | exact Below.trans (by assumption) (hb.mono (by assumption)) | exact Nat.le_trans (by assumption) hb.size))
    (first
      | (go_at_call 41; refine (attrsSet2 a b c d e f g x y A cap _ x0 x1).mono ?_; rintro r w' ⟨⟨A', c', rfl⟩, hb⟩)
      | (go_at_call 33; refine (sameA _ _ _ _ _ _ _ _ _ _ _ _).mono ?_; rintro r w' ⟨rfl, hb⟩)
      | (go_at_call 23; refine (awake _).mono ?_; rintro r w' ⟨rfl, hb⟩))
  all_goals
    go_wp2
    go_ret
    refine ⟨rfl, ?_⟩
    rename_i hS
    rw [HQ.out]
    exact hS.2.2.2.2.2.2.2.2.2.2.2.2.2.2.2.2.1
set_option maxRecDepth 5000 in
set_option maxHeartbeats 3200000 in
theorem setLaw3 (a b c d e f g t x y : Int) (A : Option Addr) (cap : Nat) (w : World) (t0 : 0 ≤ t) (t1 : t ≤ 255) (hm : t % 4 = 3) (x0 : 0 ≤ x) (x1 : x ≤ 4294967295) (y0 : 0 ≤ y) (y1 : y ≤ 4294967295) (hfit : ∀ w : World, Calls Tryz.prog 26 #[.agg (at8 a b c d e f g (.slice A 0 cap))] w fun e w' => e = .returned (.bool true) ∧ Below w.heap.size w w') (htold : toldB a b c d e f g 0 = true) :
    Calls Tryz.prog 15 #[.agg (at8 a b c d e f g (.slice A 0 cap)), .int .u8 t, .int .u32 x, .int .u32 y] w fun r w' => r = .returned (.bool true) ∧ Below w.heap.size w w' := by
  obtain ⟨W0, hW0⟩ : ∃ W, w.alloc (.cells (at8 a b c d e f g (.slice A 0 cap)) 26) = W := ⟨_, rfl⟩
  have hb0 : Below w.heap.size w W0 := by rw [← hW0]; exact (Below.refl _ _).alloc (Nat.le_refl _) _
  have k0 : W0.heap[w.heap.size]? = some (.cells (at8 a b c d e f g (.slice A 0 cap)) 26 (0, 0)) := by rw [← hW0]; exact heap_alloc_new _ _
  have TC := Lib.hid (fun w => toldC2 a b c d e f g A 0 cap w)
  have TV := Lib.hid htold
  have FC := Lib.hid hfit
  have X0 := Lib.hid hW0
  have B0 := Lib.hid hb0
  have K0 := Lib.hid k0
  have M := Lib.hid hm
  clear hW0 hb0 k0 hm htold hfit
  go_enter Tryz.func15, Tryz.ntmps15
  go_wp2_with (first
    | (refine wpList_boxTo rfl 26 _ rfl (some 4) rfl w.heap.size rfl (at8 a b c d e f g (.slice A 0 cap)) rfl ?_; rw [X0.out])
    | refine wpList_load_row rfl 26 _ rfl w.heap.size rfl 26 (at8 a b c d e f g (.slice A 0 cap)) (0, 0) _ K0.out Tryz.underlying26 rfl (ainfo8 _ _ _ _ _ _ _ _) ?_)
  refine (FC.out W0).mono ?_
  rintro r wz ⟨rfl, hbz⟩
  have kz := (hbz.block _ (lt_of_blk K0.out)).trans K0.out
  have hBz : Below w.heap.size w wz := B0.out.trans (hbz.mono B0.out.size)
  have cz : wz.cell? ⟨w.heap.size, 7, none⟩ = some (.slice A 0 cap) := by rw [cell_of_blk kz]; rfl
  have KZ := Lib.hid kz
  have BZ := Lib.hid hBz
  clear kz hBz hbz FC X0 B0 K0
  go_wp2_with (refine load_row_g (by rfl) 26 _ rfl w.heap.size rfl 26 (at8 a b c d e f g (.slice A 0 cap)) (0, 0) _ KZ.out Tryz.underlying26 rfl (ainfo8 _ _ _ _ _ _ _ _) ?_)
  refine (TC.out wz).mono ?_
  rw [TV.out]
  rintro r w1 ⟨rfl, hb1⟩
  have k1 := (hb1.block _ (lt_of_blk KZ.out)).trans KZ.out
  have hB1 : Below w.heap.size w w1 := BZ.out.trans (hb1.mono BZ.out.size)
  have z1 := hB1.size
  have l1 := lt_of_blk k1
  obtain ⟨W2, hW2⟩ : ∃ W, w1.alloc (.cells z8 26) = W := ⟨_, rfl⟩
  obtain ⟨W4, hW4⟩ : ∃ W, W2.setRow w1.heap.size (at8 a b c d e f g (.slice A 0 cap)) = W := ⟨_, rfl⟩
  have k2 : W2.heap[w1.heap.size]? = some (.cells z8 26 (0, 0)) := by rw [← hW2]; exact heap_alloc_new _ _
  have k4 : W4.heap[w1.heap.size]? = some (.cells (at8 a b c d e f g (.slice A 0 cap)) 26 (0, 0)) := by rw [← hW4]; exact setRow_heap _ _ _ _ _ _ k2
  have j4 : W4.heap[w.heap.size]? = some (.cells (at8 a b c d e f g (.slice A 0 cap)) 26 (0, 0)) := by rw [← hW4, setRow_other _ _ _ _ (by omega), ← hW2, heap_alloc_old _ _ l1]; exact k1
  have hB4 : Below w.heap.size w W4 := by
    have h1 := hB1.alloc z1 (.cells z8 26)
    rw [hW2] at h1
    rw [← hW4]
    exact ⟨h1.os, h1.tape, h1.output, by rw [setRow_size]; exact h1.size, fun k hk => by rw [setRow_other _ _ _ _ (by omega)]; exact h1.block k hk⟩
  have hqp : w.heap.size ≤ w1.heap.size := z1
  have hqn : w.heap.size ≠ w1.heap.size := by omega
  have d0 : W4.cell? ⟨w.heap.size, 0, none⟩ = some (.int .u32 a) := by rw [cell_of_blk j4]; rfl
  have X2 := Lib.hid hW2
  have X4 := Lib.hid hW4
  have K1 := Lib.hid k1
  have K2 := Lib.hid k2
  have K4 := Lib.hid k4
  have J4 := Lib.hid j4
  have B4 := Lib.hid hB4
  have fz := frozen_of_blk k4
  have f0 := fz 0
  have v0 : W4.cell? ⟨w1.heap.size, 0, none⟩ = some (.int .u32 a) := by rw [cell_of_blk K4.out]; rfl
  have f5 := fz 5
  have v5 : W4.cell? ⟨w1.heap.size, 5, none⟩ = some (.int .u32 f) := by rw [cell_of_blk K4.out]; rfl
  have f6 := fz 6
  have v6 : W4.cell? ⟨w1.heap.size, 6, none⟩ = some (.int .u32 g) := by rw [cell_of_blk K4.out]; rfl
  clear hW2 hW4 k2 k4 j4 hb1 hB1 hB4 z1 l1 TC TV cz KZ BZ fz k1
  have tm : Int.tmod t 4 = 3 := by rw [Int.tmod_eq_emod_of_nonneg t0]; exact M.out
  have hz : 4 = (4 : Int) := rfl
  go_upto_region 15 with (first
    | refine wpList_load_row rfl 26 _ rfl w.heap.size rfl 26 (at8 a b c d e f g (.slice A 0 cap)) (0, 0) _ K1.out Tryz.underlying26 rfl (ainfo8 _ _ _ _ _ _ _ _) ?_
    | (refine wpList_allocTo rfl (some 9) rfl (.pointer (some ⟨w1.heap.size, 0, none⟩)) (.cells z8 26) (by as_aux_lemma => kernel_rfl) ?_; rw [X2.out])
    | (refine wpList_store_row rfl 26 _ _ rfl w1.heap.size (at8 a b c d e f g (.slice A 0 cap)) rfl rfl 26 z8 K2.out (ainfo8 _ _ _ _ _ _ _ _) rfl (one8 _ _ _ _ _ _ _ _ _ _) ?_; rw [X4.out]))
  have k5 : (((W4.setCell ⟨w1.heap.size, 0, none⟩ (.int .u32 (bits .or .u32 a 8))).setCell ⟨w1.heap.size, 5, none⟩ (.int .u32 x)).setCell ⟨w1.heap.size, 6, none⟩ (.int .u32 y)).heap[w1.heap.size]? = some (.cells (at8 (bits .or .u32 a 8) b c d e x y (.slice A 0 cap)) 26 (0, 0)) := (setCell_blk (i := 6) (setCell_blk (i := 5) (setCell_blk (i := 0) K4.out (.int .u32 (bits .or .u32 a 8))) (.int .u32 x)) (.int .u32 y)).trans rfl
  have j5 : (((W4.setCell ⟨w1.heap.size, 0, none⟩ (.int .u32 (bits .or .u32 a 8))).setCell ⟨w1.heap.size, 5, none⟩ (.int .u32 x)).setCell ⟨w1.heap.size, 6, none⟩ (.int .u32 y)).heap[w.heap.size]? = some (.cells (at8 a b c d e f g (.slice A 0 cap)) 26 (0, 0)) := by
    repeat rw [Below.heap_setCell _ _ _ _ hqn]
    exact J4.out
  have hB5 : Below w.heap.size w (((W4.setCell ⟨w1.heap.size, 0, none⟩ (.int .u32 (bits .or .u32 a 8))).setCell ⟨w1.heap.size, 5, none⟩ (.int .u32 x)).setCell ⟨w1.heap.size, 6, none⟩ (.int .u32 y)) := (((B4.out.setCell hqp _).setCell hqp _).setCell hqp _)
  generalize (((W4.setCell ⟨w1.heap.size, 0, none⟩ (.int .u32 (bits .or .u32 a 8))).setCell ⟨w1.heap.size, 5, none⟩ (.int .u32 x)).setCell ⟨w1.heap.size, 6, none⟩ (.int .u32 y)) = W at *
  generalize w1.heap.size = p at *
  generalize hq : w.heap.size = q at *
  have HQ := Lib.hid hq
  have s0 : W.cell? ⟨q, 0, none⟩ = some (.int .u32 a) := by rw [cell_of_blk j5]; rfl
  have r0 : W.cell? ⟨p, 0, none⟩ = some (.int .u32 (bits .or .u32 a 8)) := by rw [cell_of_blk k5]; rfl
  have s1 : W.cell? ⟨q, 1, none⟩ = some (.int .u64 b) := by rw [cell_of_blk j5]; rfl
  have r1 : W.cell? ⟨p, 1, none⟩ = some (.int .u64 b) := by rw [cell_of_blk k5]; rfl
  have s2 : W.cell? ⟨q, 2, none⟩ = some (.int .u32 c) := by rw [cell_of_blk j5]; rfl
  have r2 : W.cell? ⟨p, 2, none⟩ = some (.int .u32 c) := by rw [cell_of_blk k5]; rfl
  have s3 : W.cell? ⟨q, 3, none⟩ = some (.int .u32 d) := by rw [cell_of_blk j5]; rfl
  have r3 : W.cell? ⟨p, 3, none⟩ = some (.int .u32 d) := by rw [cell_of_blk k5]; rfl
  have s4 : W.cell? ⟨q, 4, none⟩ = some (.int .u32 e) := by rw [cell_of_blk j5]; rfl
  have r4 : W.cell? ⟨p, 4, none⟩ = some (.int .u32 e) := by rw [cell_of_blk k5]; rfl
  have s5 : W.cell? ⟨q, 5, none⟩ = some (.int .u32 f) := by rw [cell_of_blk j5]; rfl
  have r5 : W.cell? ⟨p, 5, none⟩ = some (.int .u32 x) := by rw [cell_of_blk k5]; rfl
  have s6 : W.cell? ⟨q, 6, none⟩ = some (.int .u32 g) := by rw [cell_of_blk j5]; rfl
  have r6 : W.cell? ⟨p, 6, none⟩ = some (.int .u32 y) := by rw [cell_of_blk k5]; rfl
  have s7 : W.cell? ⟨q, 7, none⟩ = some (.slice A 0 cap) := by rw [cell_of_blk j5]; rfl
  have r7 : W.cell? ⟨p, 7, none⟩ = some (.slice A 0 cap) := by rw [cell_of_blk k5]; rfl
  have zB : q ≤ W.heap.size := by rw [← hq]; exact hB5.size
  have ux : IntKind.u64.wrap x = x := by unfold IntKind.wrap; simp [IntKind.signed, IntKind.bits]; omega
  have uy : IntKind.u64.wrap y = y := by unfold IntKind.wrap; simp [IntKind.signed, IntKind.bits]; omega
  clear k5 j5 hq d0 v0 f0 v5 f5 v6 f6 X2 X4 K1 K2 K4 J4 B4 hqp hqn
  go_region_held3 (fun w' => w'.cell? ⟨q, 0, none⟩ = some (.int .u32 a) ∧ w'.cell? ⟨q, 1, none⟩ = some (.int .u64 b) ∧ w'.cell? ⟨q, 2, none⟩ = some (.int .u32 c) ∧ w'.cell? ⟨q, 3, none⟩ = some (.int .u32 d) ∧ w'.cell? ⟨q, 4, none⟩ = some (.int .u32 e) ∧ w'.cell? ⟨q, 5, none⟩ = some (.int .u32 f) ∧ w'.cell? ⟨q, 6, none⟩ = some (.int .u32 g) ∧ w'.cell? ⟨q, 7, none⟩ = some (.slice A 0 cap) ∧ w'.cell? ⟨p, 0, none⟩ = some (.int .u32 (bits .or .u32 a 8)) ∧ w'.cell? ⟨p, 1, none⟩ = some (.int .u64 b) ∧ w'.cell? ⟨p, 2, none⟩ = some (.int .u32 c) ∧ w'.cell? ⟨p, 3, none⟩ = some (.int .u32 d) ∧ w'.cell? ⟨p, 4, none⟩ = some (.int .u32 e) ∧ w'.cell? ⟨p, 5, none⟩ = some (.int .u32 x) ∧ w'.cell? ⟨p, 6, none⟩ = some (.int .u32 y) ∧ w'.cell? ⟨p, 7, none⟩ = some (.slice A 0 cap) ∧ Below q w w' ∧ q ≤ w'.heap.size)
    (((first | (go_split_ands) | skip); refine ⟨?_, ?_, ?_, ?_, ?_, ?_, ?_, ?_, ?_, ?_, ?_, ?_, ?_, ?_, ?_, ?_, ?_, ?_⟩ <;> first | assumption | exact pw_cell_below hb (by assumption) | (simp; assumption) | exact below_drew (by assumption) | exact Below.trans (by assumption) (hb.mono (by assumption)) | exact Nat.le_trans (by assumption) hb.size))
    (first
      | (go_at_call 41; refine (attrsSet3 a b c d e f g x y A cap _ x0 x1 y0 y1).mono ?_; rintro r w' ⟨⟨A', c', rfl⟩, hb⟩)
      | (go_at_call 33; refine (sameA _ _ _ _ _ _ _ _ _ _ _ _).mono ?_; rintro r w' ⟨rfl, hb⟩)
      | (go_at_call 23; refine (awake _).mono ?_; rintro r w' ⟨rfl, hb⟩))
  all_goals
    go_wp2
    go_ret
    refine ⟨rfl, ?_⟩
    rename_i hS
    rw [HQ.out]
    exact hS.2.2.2.2.2.2.2.2.2.2.2.2.2.2.2.2.1
end Go.Proofs.YtmenkckgpiafiaaGreat
namespace Go.Proofs.YtmenkckgpiafiaaGreat
open Go.RowKit Go.ChangeShapes Go.WideShapes Go.Deep Go.Proofs.YtmenkckgpiafiaaGreatW.PrintWords
/-- The data of a Go type read as values of a kind, of which something is known. -/
structure Opn (P : Program) (t : TypeId) {α : Type} (d : Kd α) (G : α → Prop) : Prop where
  sz : P.cellsOf t = d.sz
  out : ∀ {H : Type} {enc : TypeId × Value → H} {w : World} {base : Nat} {sp : Nat → Bool} {held : Bool} {fuel : Nat} {cs : List Value} {x : DataW H × List MemPlace}, DataW.trod enc P w base sp held fuel t cs = some x → ∃ y, d.K w y cs ∧ G y
theorem opn_int {P : Program} {t : TypeId} {k : IntKind} (ht : P.underlying t = some (.int k)) (hs : P.cellsOf t = 1) : Opn P t (Kd.int k) (fun y => (Lit.int k y).wf = true) :=
  ⟨hs, fun h => by
    obtain ⟨n, rfl, _, hw⟩ := DataW.trod_int ht h
    exact ⟨n, rfl, hw⟩⟩
theorem opn_str {P : Program} {t : TypeId} (ht : P.underlying t = some .string) (hs : P.cellsOf t = 1) : Opn P t Kd.string (fun y => y.size ≤ maxLen) :=
  ⟨hs, fun h => by
    obtain ⟨s, rfl, _, hw⟩ := DataW.trod_string ht h
    exact ⟨s, rfl, hw⟩⟩
theorem opn_slice {P : Program} {t e : TypeId} {α : Type} {d : Kd α} {G : α → Prop} (ht : P.underlying t = some (.slice e)) (hs : P.cellsOf t = 1) (he : Opn P e d G) :
    Opn P t (Kd.slice e d) (fun l => l.length ≤ maxLen ∧ ∀ y ∈ l, G y) :=
  ⟨hs, fun {H enc w base sp held fuel cs x} h => by
    rcases open_slice ht h with ⟨rfl, _⟩ | ⟨a, len, cap, m, n, D, Pl, rfl, _, hl, hm, hmm, _, hi⟩
    · exact ⟨[], ⟨none, 0, rfl, Nat.le_refl _, rfl, by simp, fun h => by simp at h⟩, by simp, by simp⟩
    · have hlm : len ≤ m := by rw [hmm]; split <;> omega
      have key : ∀ j, j ≤ len → ∃ ys : List α, ys.length = j ∧ (∀ y ∈ ys, G y) ∧ ∀ i p, ys[i]? = some p → ∃ c, c.length = d.sz ∧ d.K w p c ∧ ∀ q u, c[q]? = some u → w.cell? (a.add (i * d.sz + q)) = some u := by
        intro j
        induction j with
        | zero => exact fun _ => ⟨[], rfl, by simp, fun i p hp => by simp at hp⟩
        | succ j ih =>
          intro hj
          obtain ⟨ys, hlen, hG, hc⟩ := ih (by omega)
          obtain ⟨cs', h1, h2⟩ := hi j (by omega)
          obtain ⟨y, hK, hy⟩ := he.out h2
          refine ⟨ys ++ [y], by simp [hlen], fun z hz => ?_, fun i p hp => ?_⟩
          · rcases List.mem_append.1 hz with hz | hz
            · exact hG z hz
            · rw [List.mem_singleton.1 hz]; exact hy
          · rcases Nat.lt_or_ge i ys.length with hlt | hge
            · rw [List.getElem?_append_left hlt] at hp
              exact hc i p hp
            · rw [List.getElem?_append_right hge] at hp
              have h0 : i - ys.length = 0 := by
                have := (List.getElem?_eq_some_iff.1 hp).1
                simp at this
                omega
              rw [h0] at hp
              simp at hp
              subst hp
              have hij : i = j := by omega
              subst hij
              rw [he.sz] at h1
              obtain ⟨_, hcl, hat⟩ := World.cells?_some h1
              refine ⟨cs', hcl, hK, fun q u hq => ?_⟩
              have hql := (List.getElem?_eq_some_iff.1 hq).1
              have := hat q (by omega)
              rw [← Go.Deep.add_add, this, hq]
      obtain ⟨ys, hlen, hG, hc⟩ := key len (Nat.le_refl _)
      exact ⟨ys, ⟨some a, cap, by rw [hlen], by omega, by rw [hlen], by rw [hlen]; simp only [maxLen] at hm; omega, fun _ => ⟨a, rfl, hc⟩⟩, by omega, hG⟩⟩
/-- A struct's fields, one behind the other, from an offset on. -/
def FOpn (P : Program) (fs : List Field) (off : Nat) {α : Type} (d : Kd α) (G : α → Prop) : Prop :=
  ∀ {H : Type} {enc : TypeId × Value → H} {w : World} {base : Nat} {sp : Nat → Bool} {held : Bool} {n : Nat} (cs : List Value) (xs : List (DataW H × List MemPlace)),
    (∀ (i : Nat) (f : Field), fs[i]? = some f → DataW.trod enc P w base sp held n f.type ((cs.drop f.offset).take (P.cellsOf f.type)) = xs[i]?) → xs.length = fs.length → cs.length = off + d.sz → ∃ y, d.K w y (cs.drop off) ∧ G y
theorem fopn_one {P : Program} {f : Field} {off : Nat} {α : Type} {d : Kd α} {G : α → Prop} (ho : f.offset = off) (h : Opn P f.type d G) : FOpn P [f] off d G := by
  intro H enc w base sp held n cs xs hx hl hc
  have h0 := hx 0 f rfl
  rw [ho, h.sz] at h0
  match xs, hl with
  | [x], _ =>
    obtain ⟨y, hK, hG⟩ := h.out (h0.trans rfl)
    rw [List.take_of_length_le (by rw [List.length_drop]; omega)] at hK
    exact ⟨y, hK, hG⟩
theorem fopn_cons {P : Program} {f : Field} {fs : List Field} {off : Nat} {α β : Type} {a : Kd α} {b : Kd β} {Ga : α → Prop} {Gb : β → Prop} (ho : f.offset = off) (h : Opn P f.type a Ga) (hr : FOpn P fs (off + a.sz) b Gb) :
    FOpn P (f :: fs) off (Kd.pair a b) (fun x => Ga x.1 ∧ Gb x.2) := by
  intro H enc w base sp held n cs xs hx hl hc
  have h0 := hx 0 f rfl
  rw [ho, h.sz] at h0
  match xs, hl with
  | x :: xs, hl =>
    obtain ⟨y, hK, hG⟩ := h.out (h0.trans rfl)
    obtain ⟨z, hK2, hG2⟩ := hr cs xs (fun i g hg => hx (i + 1) g hg) (by simpa using hl) (by rw [hc]; show off + (a.sz + b.sz) = _; omega)
    refine ⟨(y, z), ⟨_, _, ?_, hK, hK2⟩, hG, hG2⟩
    rw [← List.drop_drop, List.take_append_drop]
theorem opn_struct {P : Program} {t : TypeId} {fs : Array Field} {α : Type} {d : Kd α} {G : α → Prop} (ht : P.underlying t = some (.struct fs)) (hs : P.cellsOf t = d.sz) (h : FOpn P fs.toList 0 d G) : Opn P t d G :=
  ⟨hs, fun hx => by
    obtain ⟨xs, n, _, _, hcl, hxl, hf⟩ := DataW.trod_struct ht hx
    obtain ⟨y, hK, hG⟩ := h _ xs (fun i f hif => hf i f (by simpa using hif)) (by simpa using hxl) (by rw [hcl, hs]; omega)
    exact ⟨y, hK, hG⟩⟩
theorem Opn.iso {P : Program} {t : TypeId} {α β : Type} {d : Kd α} {G : α → Prop} (h : Opn P t d G) (f : β → α) (g : α → β) (hfg : ∀ a, f (g a) = a) : Opn P t (Kd.iso d f) (fun y => G (f y)) :=
  ⟨h.sz, fun hx => by
    obtain ⟨y, hK, hG⟩ := h.out hx
    refine ⟨g y, ?_, by rw [hfg]; exact hG⟩
    show d.K _ (f (g y)) _
    rw [hfg]
    exact hK⟩
theorem Opn.mono {P : Program} {t : TypeId} {α : Type} {d : Kd α} {G G' : α → Prop} (h : Opn P t d G) (hg : ∀ y, G y → G' y) : Opn P t d G' :=
  ⟨h.sz, fun hx => by
    obtain ⟨y, hK, hG⟩ := h.out hx
    exact ⟨y, hK, hg y hG⟩⟩
end Go.Proofs.YtmenkckgpiafiaaGreat
namespace Go.Proofs.YtmenkckgpiafiaaGreat
open Go.RowKit Go.Proofs.YtmenkckgpiafiaaGreatW.PrintWords Go.Proofs.YtmenkckgpiafiaaGreat.KK
def gU32 (y : Int) : Prop := 0 ≤ y ∧ y ≤ 4294967295
def gU64 (y : Int) : Prop := 0 ≤ y ∧ y ≤ 18446744073709551615
def gStr (s : ByteArray) : Prop := s.size ≤ maxLen
def gExt (e : S89) : Prop := gStr e.f0 ∧ gStr e.f1
def gExts (l : List S89) : Prop := l.length ≤ maxLen ∧ ∀ e ∈ l, gExt e
def gAttrs (a : S26) : Prop := gU32 a.f0 ∧ gU64 a.f1 ∧ gU32 a.f2 ∧ gU32 a.f3 ∧ gU32 a.f4 ∧ gU32 a.f5 ∧ gU32 a.f6 ∧ gExts a.f7
theorem opnU32 : Opn Tryz.prog 22 (Kd.int .u32) gU32 := (opn_int Tryz.underlying22 (by kernel_rfl)).mono fun y h => by simpa [gU32, Lit.wf, IntKind.min, IntKind.max, IntKind.signed, IntKind.bits] using h
theorem opnU64 : Opn Tryz.prog 23 (Kd.int .u64) gU64 := (opn_int Tryz.underlying23 (by kernel_rfl)).mono fun y h => by simpa [gU64, Lit.wf, IntKind.min, IntKind.max, IntKind.signed, IntKind.bits] using h
theorem opnStr : Opn Tryz.prog 9 Kd.string gStr := (opn_str Tryz.underlying9 (by kernel_rfl)).mono fun _ h => h
theorem opnExt : Opn Tryz.prog 89 k89 gExt := by
  have o := (opn_struct Tryz.underlying89 (by kernel_rfl) (fopn_cons rfl opnStr (fopn_one rfl opnStr))).iso (β := S89) (fun x => (x.f0, x.f1)) (fun a => ⟨a.1, a.2⟩) (fun _ => rfl)
  exact o.mono fun _ h => h
theorem opnExts : Opn Tryz.prog 24 (Kd.slice 89 k89) gExts := (opn_slice Tryz.underlying24 (by kernel_rfl) opnExt).mono fun _ h => h
theorem opnAttrs : Opn Tryz.prog 26 k26 gAttrs := by
  have o := (opn_struct Tryz.underlying26 (by kernel_rfl) (fopn_cons rfl opnU32 (fopn_cons rfl opnU64 (fopn_cons rfl opnU32 (fopn_cons rfl opnU32 (fopn_cons rfl opnU32 (fopn_cons rfl opnU32 (fopn_cons rfl opnU32 (fopn_one rfl opnExts))))))))).iso (β := S26) (fun x => (x.f0, x.f1, x.f2, x.f3, x.f4, x.f5, x.f6, x.f7)) (fun a => ⟨a.1, a.2.1, a.2.2.1, a.2.2.2.1, a.2.2.2.2.1, a.2.2.2.2.2.1, a.2.2.2.2.2.2.1, a.2.2.2.2.2.2.2⟩) (fun _ => rfl)
  exact o.mono fun _ h => h
end Go.Proofs.YtmenkckgpiafiaaGreat
namespace Go.Proofs.YtmenkckgpiafiaaGreat
open Go.RowKit Go.Great Go.Proofs.YtmenkckgpiafiaaGreatW.PrintWords Go.Proofs.YtmenkckgpiafiaaGreatW.PrintLast Go.Proofs.YtmenkckgpiafiaaGreatW.PrintMore Go.Proofs.YtmenkckgpiafiaaGreat.KK
/-- The world behind a boxed argument of attributes. -/
theorem box8 (w : World) (cs : Array Value) : Below w.heap.size w (w.alloc (.cells cs 26)) ∧ (w.alloc (.cells cs 26)).heap[w.heap.size]? = some (.cells cs 26 (0, 0)) :=
  ⟨(Below.refl _ _).alloc (Nat.le_refl _) _, heap_alloc_new _ _⟩
end Go.Proofs.YtmenkckgpiafiaaGreat
namespace Go.Proofs.YtmenkckgpiafiaaGreat
open Go.RowKit Go.Great Go.Proofs.YtmenkckgpiafiaaGreatW.PrintWords Go.Proofs.YtmenkckgpiafiaaGreatW.PrintLast Go.Proofs.YtmenkckgpiafiaaGreatW.PrintMore Go.Proofs.YtmenkckgpiafiaaGreat.KK
theorem fitNil (a b c d e f g : Int) (A : Option Addr) (cap : Nat) (w : World) :
    Calls Tryz.prog 26 #[.agg (at8 a b c d e f g (.slice A 0 cap))] w fun r w' => r = .returned (.bool true) ∧ Below w.heap.size w w' := by
  have hC : Kd.C k89 w A ([] : List S89).length [] := ⟨rfl, by simp, fun h => by simp at h⟩
  refine PF.laws_zzFits5.calls 1 a b c d e f g A cap [] true w hC (by simp) ?_
  unfold PF.laws_zzFits5.f PF.laws_zzFits6.f
  rw [if_neg (by simp)]
  simp [PF.laws_zzFits6.l0]
set_option maxRecDepth 5000 in
set_option maxHeartbeats 1600000 in
theorem setNo (a b c d e f g t x y : Int) (A : Option Addr) (cap : Nat) (l : List S89) (w : World) (hr : Kd.C k89 w A l.length l) (hc : l.length ≤ cap) (hno : l ≠ [] ∨ toldB a b c d e f g 0 = false) :
    Calls Tryz.prog 15 #[.agg (at8 a b c d e f g (.slice A l.length cap)), .int .u8 t, .int .u32 x, .int .u32 y] w fun r w' => r = .returned (.bool true) ∧ Below w.heap.size w w' := by
  obtain ⟨hb0, k0⟩ := box8 w (at8 a b c d e f g (.slice A l.length cap))
  generalize hW0 : w.alloc (.cells (at8 a b c d e f g (.slice A l.length cap)) 26) = W0 at *
  obtain ⟨fit, hfit, C⟩ := fits5C a b c d e f g A cap l W0 (Kd.C_below hr hb0) hc
  have C := Lib.hid C
  have TC := Lib.hid (fun w => toldC2 a b c d e f g A 0 cap w)
  have N := Lib.hid hno
  have X0 := Lib.hid hW0
  have B0 := Lib.hid hb0
  have K0 := Lib.hid k0
  clear hW0 hb0 k0 hr hno
  go_enter Tryz.func15, Tryz.ntmps15
  go_wp2_with (first
    | (refine wpList_boxTo rfl 26 _ rfl (some 4) rfl w.heap.size rfl (at8 a b c d e f g (.slice A l.length cap)) rfl ?_; rw [X0.out])
    | refine wpList_load_row rfl 26 _ rfl w.heap.size rfl 26 (at8 a b c d e f g (.slice A l.length cap)) (0, 0) _ K0.out Tryz.underlying26 rfl (ainfo8 _ _ _ _ _ _ _ _) ?_)
  refine C.out.mono ?_
  rintro r w1 ⟨rfl, hb1⟩
  have z0 := lt_of_blk K0.out
  have k1 := (hb1.block _ z0).trans K0.out
  have hB1 : Below w.heap.size w w1 := B0.out.trans (hb1.mono B0.out.size)
  have c7 : w1.cell? ⟨w.heap.size, 7, none⟩ = some (.slice A l.length cap) := by rw [cell_of_blk k1]; rfl
  have B1 := Lib.hid hB1
  have K1 := Lib.hid k1
  clear hb1 hB1 k1 C X0 B0 K0
  cases fit with
  | false =>
    go_wp2_with fail
    go_ret
    exact ⟨rfl, B1.out⟩
  | true =>
    clear hfit
    by_cases h0 : 0 < l.length
    · have d0 : decide ((l.length : Int) > 0) = true := by simp; omega
      have d1 : (0 : Int) < (l.length : Int) := by omega
      go_wp2_with fail
      go_ret
      exact ⟨rfl, B1.out⟩
    · obtain rfl : l = [] := List.eq_nil_of_length_eq_zero (by omega)
      have hn := N.out.resolve_left (by simp)
      have HN := Lib.hid hn
      clear h0 N hn
      go_wp2_with (refine load_row_g (by rfl) 26 _ rfl w.heap.size rfl 26 (at8 a b c d e f g (.slice A 0 cap)) (0, 0) _ K1.out Tryz.underlying26 rfl (ainfo8 _ _ _ _ _ _ _ _) ?_)
      refine (TC.out w1).mono ?_
      rw [HN.out]
      rintro r w2 ⟨rfl, hb2⟩
      have hB2 := B1.out.trans (hb2.mono B1.out.size)
      have B2 := Lib.hid hB2
      clear hb2 hB2 TC HN
      go_wp2_with fail
      go_ret
      exact ⟨rfl, B2.out⟩
theorem setLawK (cs : Array Value) (y : S26) (t u v : Int) (W : World) (hK : k26.K W y cs.toList) (_hG : gAttrs y) (ht : 0 ≤ t ∧ t ≤ 255) (hu : 0 ≤ u ∧ u ≤ 4294967295) (hv : 0 ≤ v ∧ v ≤ 4294967295) :
    Calls Tryz.prog 15 #[.agg cs, .int .u8 t, .int .u32 u, .int .u32 v] W fun r w' => r = .returned (.bool true) ∧ Below W.heap.size W w' := by
  obtain ⟨A, c, he, hl, hC⟩ := k26_open hK
  obtain rfl : cs = at8 y.f0 y.f1 y.f2 y.f3 y.f4 y.f5 y.f6 (.slice A y.f7.length c) := by
    cases cs
    simpa [at8] using he
  by_cases h0 : y.f7 = []
  · rw [h0]
    cases hb : toldB y.f0 y.f1 y.f2 y.f3 y.f4 y.f5 y.f6 0 with
    | false =>
      rw [h0] at hC hl
      exact setNo _ _ _ _ _ _ _ t u v A c [] W hC hl (.inr hb)
    | true =>
      have h4 : t % 4 = 0 ∨ t % 4 = 1 ∨ t % 4 = 2 ∨ t % 4 = 3 := by omega
      rcases h4 with h | h | h | h
      · exact setLaw0 _ _ _ _ _ _ _ t u v A c W ht.1 ht.2 h hu.1 hu.2 hv.1 hv.2 (fun w => fitNil _ _ _ _ _ _ _ A c w) hb
      · exact setLaw1 _ _ _ _ _ _ _ t u v A c W ht.1 ht.2 h hu.1 hu.2 hv.1 hv.2 (fun w => fitNil _ _ _ _ _ _ _ A c w) hb
      · exact setLaw2 _ _ _ _ _ _ _ t u v A c W ht.1 ht.2 h hu.1 hu.2 hv.1 hv.2 (fun w => fitNil _ _ _ _ _ _ _ A c w) hb
      · exact setLaw3 _ _ _ _ _ _ _ t u v A c W ht.1 ht.2 h hu.1 hu.2 hv.1 hv.2 (fun w => fitNil _ _ _ _ _ _ _ A c w) hb
  · exact setNo _ _ _ _ _ _ _ t u v A c y.f7 W hC hl (.inl h0)
end Go.Proofs.YtmenkckgpiafiaaGreat
namespace Go.Proofs.YtmenkckgpiafiaaGreat
open Go.RowKit Go.Great Go.ChangeShapes Go.WideShapes Go.ChangeAt Go.Proofs.YtmenkckgpiafiaaGreatW.PrintWords Go.Proofs.YtmenkckgpiafiaaGreat.KK
open Go.ChangeMaps (open_string shut_string)
theorem setA_own : ownKnob Tryz.prog.godebug = none := by kernel_rfl
theorem setA_laid : laidOutB Tryz.prog = true := by kernel_rfl
set_option maxRecDepth 100000 in
theorem setA_lifted (os : Os) (started : os.Started) (H : Type) (enc : TypeId × Value → H) :
    ReturnsInHanded {} Tryz.checked os 15 .any (Rows.fnAttrsSetSpec.pre6 enc Tryz.prog Tryz.f15 Rows.fnAttrsSetRow.domain false) (Rows.fnAttrsSetSpec.post enc Tryz.prog Tryz.f15 false true false false) := by
  refine returnsInHanded_of_change (C := Tryz.checked) setA_own started (by kernel_rfl) Tryz.func15
    (ChangeSpec.witness6 (enc := enc) (C := Tryz.checked) false ⟨#[], #[.agg z8, .int .u8 0, .int .u32 0, .int .u32 0], []⟩ 8 (by kernel_rfl) (by kernel_rfl) (by kernel_rfl) (by kernel_rfl)) ?_
  intro W base args ds gs before hval0 hW hcnd _
  have hval : ∀ (j : Nat) t v, Tryz.f15.params[j]? = some t → args[j]? = some v → Value.okWide Tryz.prog W .any base t v := hval0
  have hW' := hW
  have hlt : ∀ x ∈ before, x.block < W.heap.size := fun x hx => hW.lt x hx
  obtain ⟨p, q, hA0, hV, rfl, hfz, hnd⟩ := hW
  have hA : DataW.TrodAll enc Tryz.prog W 0 (fun _ => true) true Tryz.f15.params.toList args.toList ds p := hA0
  rw [Tryz.params15] at hA hval
  obtain ⟨v0, vs0, d0, ds0, p0, q0, hargs, rfl, rfl, h0, r0⟩ := trodAll_cons hA
  obtain ⟨v1, vs1, d1, ds1, p1, q1, rfl, rfl, rfl, h1, r1⟩ := trodAll_cons r0
  obtain ⟨v2, vs2, d2, ds2, p2, q2, rfl, rfl, rfl, h2, r2⟩ := trodAll_cons r1
  obtain ⟨v3, vs3, d3, ds3, p3, q3, rfl, rfl, rfl, h3, r3⟩ := trodAll_cons r2
  obtain ⟨rfl, rfl, rfl⟩ := trodAll_nil r3
  obtain rfl : args = #[v0, v1, v2, v3] := by cases args; simp_all
  obtain ⟨rfl, rfl⟩ := trodVars_none hV
  simp only [List.append_nil] at hW' hlt
  obtain ⟨cs0, rfl, _⟩ := okWide_struct Tryz.underlying26 (hval 0 26 v0 rfl rfl)
  have t0 := h0
  obtain ⟨fuel0, hf0⟩ := h0
  obtain ⟨y0, hK0, hG0⟩ := opnAttrs.out hf0
  obtain ⟨a1, rfl, rfl, rfl, w1⟩ := open_int Tryz.underlying5 (hval 1 5 v1 rfl rfl) h1
  have g1 : 0 ≤ a1 ∧ a1 ≤ 255 := by
    have h := w1
    simpa [Lit.wf, IntKind.min, IntKind.max, IntKind.signed, IntKind.bits] using h
  obtain ⟨a2, rfl, rfl, rfl, w2⟩ := open_int Tryz.underlying22 (hval 2 22 v2 rfl rfl) h2
  have g2 : 0 ≤ a2 ∧ a2 ≤ 4294967295 := by
    have h := w2
    simpa [Lit.wf, IntKind.min, IntKind.max, IntKind.signed, IntKind.bits] using h
  obtain ⟨a3, rfl, rfl, rfl, w3⟩ := open_int Tryz.underlying22 (hval 3 22 v3 rfl rfl) h3
  have g3 : 0 ≤ a3 ∧ a3 ≤ 4294967295 := by
    have h := w3
    simpa [Lit.wf, IntKind.min, IntKind.max, IntKind.signed, IntKind.bits] using h
  clear hA0 hval0
  refine (setLawK cs0 y0 a1 a2 a3 W hK0 hG0 g1 g2 g3).mono fun e W' ⟨he, hg⟩ => ?_
  subst he
  exact ⟨_, rfl, post_of_below (pa := _) (pv := []) hW' (fun _ _ _ => (trodAll_cons_mk (shut_bool Tryz.underlying4 _) trodAll_mk0))
    (fun sp hsp0 => by
      have hsp1 := hsp0
      have s0 := WideElems.Trod_stays setA_laid (by kernel_rfl) (of_decide_eq_true (by kernel_rfl)) t0 (fun x hx => hg.same (hlt x (by simp [hx]))) (fun x hx => hsp0 x (by simp [hx]))
      have r := (trodAll_cons_mk (s0) (trodAll_cons_mk (shut_int Tryz.underlying5 w1) (trodAll_cons_mk (shut_int Tryz.underlying22 w2) (trodAll_cons_mk (shut_int Tryz.underlying22 w3) trodAll_mk0))))
      simp only [List.append_nil, List.nil_append] at r
      exact r) (fun _ _ => rfl) (by simp)
    hg (ok_one (by kernel_rfl) rfl (okWide_bool_mk Tryz.underlying4 _))⟩
theorem setA_named : Tryz.pinned.checked.prog.funcNamed Rows.fnAttrsSetRow.func = some 15 := by kernel_rfl
set_option maxHeartbeats 8000000 in
theorem setA_facts : joinedFacts Tryz.pinned.checked.prog 15 Tryz.f15 Rows.fnAttrsSetSpec Rows.fnAttrsSetRow = true := by
  simp only [joinedFacts, Bool.and_eq_true]
  repeat' apply And.intro
  all_goals (as_aux_lemma => kernel_rfl)
theorem setA_inst : Tryz.f15.isInstance Tryz.pinned.checked.prog Rows.fnAttrsSetRow.origin Rows.fnAttrsSetRow.targs := of_decide_eq_true (by kernel_rfl)
theorem setA_wrap : Tryz.f15.isWrapper Tryz.pinned.checked.prog Rows.fnAttrsSetRow.wrapper Rows.fnAttrsSetRow.mainSum := by
  unfold Func.isWrapper
  rw [if_neg (by decide +kernel)]
  exact ⟨rfl, rfl⟩
/-- 'laws.FnAttrsSet': whatever the input: true; the input reads as it did. -/
theorem setA_holds : Rows.FnAttrsSetSaid :=
  OpenClaim.holds_of_wide 15 Tryz.f15 rfl rfl rfl rfl rfl rfl rfl ⟨rfl, rfl, rfl, rfl, rfl⟩ rfl rfl rfl rfl rfl setA_named Tryz.func15 setA_facts setA_inst setA_wrap
    (fun os started H enc _ => setA_lifted os started H enc)
end Go.Proofs.YtmenkckgpiafiaaGreat
