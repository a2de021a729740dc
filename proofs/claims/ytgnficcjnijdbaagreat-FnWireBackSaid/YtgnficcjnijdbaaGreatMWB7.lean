/-
  Lemmas and contracts, part 7.
-/
import Derived.StillTailTactics
import Derived.Handy
import Derived.Test.YtgnficcjnijdbaaGreatMWB5
import Derived.Test.YtgnficcjnijdbaaGreatMWB6
set_option linter.unusedVariables false
set_option linter.unusedSimpArgs false
set_option maxHeartbeats 20000000
set_option maxRecDepth 5000
namespace Go.Proofs.YtgnficcjnijdbaaGreat
open Go.RowKit Go.Great Go.Proofs.YtgnficcjnijdbaaGreatW.PrintWords Go.Proofs.YtgnficcjnijdbaaGreatW.PrintLast Go.Proofs.YtgnficcjnijdbaaGreatW.PrintMore Go.Proofs.YtgnficcjnijdbaaGreat.KK
theorem zCq (w : World) (t id : Int) : ∃ W0 W1 W2 : World, Hid (w.alloc (.cells pZero 29) = W0) ∧ Hid (W0.alloc (.cells pZero 29) = W1) ∧ Hid (W1.setRow W0.heap.size (z24 t id) = W2) ∧
  Hid (W1.heap[W0.heap.size]? = some (.cells pZero 29 (0, 0))) ∧ W2.heap[W0.heap.size]? = some (.cells (z24 t id) 29 (0, 0)) ∧ W2.heap[w.heap.size]? = some (.cells pZero 29 (0, 0)) ∧ Below w.heap.size w W2 ∧ W0.heap.size = w.heap.size + 1 := by
 obtain ⟨W0, hW0⟩ : ∃ W, w.alloc (.cells pZero 29) = W := ⟨_, rfl⟩
 obtain ⟨W1, hW1⟩ : ∃ W, W0.alloc (.cells pZero 29) = W := ⟨_, rfl⟩
 obtain ⟨W2, hW2⟩ : ∃ W, W1.setRow W0.heap.size (z24 t id) = W := ⟨_, rfl⟩
 have s0 : W0.heap.size = w.heap.size + 1 := by rw [← hW0]; simp
 have s1 : W1.heap.size = w.heap.size + 2 := by rw [← hW1]; simp; omega
 have k1 : W1.heap[W0.heap.size]? = some (.cells pZero 29 (0, 0)) := by rw [← hW1]; exact heap_alloc_new _ _
 have k2 : W2.heap[W0.heap.size]? = some (.cells (z24 t id) 29 (0, 0)) := by rw [← hW2]; exact zAe k1
 have j0 : W0.heap[w.heap.size]? = some (.cells pZero 29 (0, 0)) := by rw [← hW0]; exact heap_alloc_new _ _
 have j1 : W1.heap[w.heap.size]? = some (.cells pZero 29 (0, 0)) := by rw [← hW1, heap_alloc_old _ _ (by omega)]; exact j0
 have j2 : W2.heap[w.heap.size]? = some (.cells pZero 29 (0, 0)) := by rw [← hW2, setRow_other _ _ _ _ (by omega)]; exact j1
 have hbel : Below w.heap.size w W2 := by
  rw [← hW2]
  refine ⟨?_, ?_, ?_, by rw [setRow_size]; omega, fun k hk => ?_⟩
  ·rw [← hW1, ← hW0]; rfl
  ·rw [← hW1, ← hW0]; rfl
  ·rw [← hW1, ← hW0]; rfl
  ·rw [setRow_other _ _ _ _ (by omega), ← hW1, heap_alloc_old _ _ (by omega), ← hW0, heap_alloc_old _ _ (by omega)]
 exact ⟨W0, W1, W2, Lib.hid hW0, Lib.hid hW1, Lib.hid hW2, Lib.hid k1, k2, j2, hbel, s0⟩
theorem zBm (w : World) {l : List Ex} (h : l = []) : SlE w none 0 l := by subst h; exact ⟨zDl _ _, Nat.le_refl _⟩
theorem zCY (w : World) {l : List Nm} (h : l = []) : SlN w none 0 l := by subst h; exact ⟨zDl _ _, Nat.le_refl _⟩
theorem zBF (w : World) (base : Nat) (p : Pk) (h9 : p.f9.f7 = []) (h10 : p.f10 = []) (h11 : p.f11 = []) : PkF w base (pkC p none 0 none 0 none 0) p :=
 fun V _ _ => ⟨none, 0, none, 0, none, 0, rfl, zBm V h9, zCY V h10, zBm V h11⟩
structure PW (w W0 W : World) (cs : Array Value) : Prop where
 k : W.heap[W0.heap.size]? = some (.cells cs 29 (0, 0))
 j : W.heap[w.heap.size]? = some (.cells pZero 29 (0, 0))
 b : Below w.heap.size w W
 s : W0.heap.size = w.heap.size + 1
section
variable {w W0 W : World} {cs : Array Value} {k : Nat} {T : TypeId} {z : Nat × Nat} {a b c : Value}
theorem PW.set (h : PW w W0 W cs) (i : Nat) (v : Value) : PW w W0 (W.setCell ⟨W0.heap.size, i, none⟩ v) (cs.setIfInBounds i v) :=
 have := h.s
 ⟨zAU h.k _, by rw [Below.heap_setCell _ _ _ _ (by show w.heap.size ≠ W0.heap.size; omega)]; exact h.j, h.b.setCell (by show w.heap.size ≤ W0.heap.size; omega) _, h.s⟩
theorem PW.drew (h : PW w W0 W cs) : PW w W0 W.drew cs := ⟨h.k, h.j, zAi h.b, h.s⟩
theorem PW.blk {o : Obj} (h : PW w W0 W cs) (hb : w.heap[k]? = some o) : W.heap[k]? = some o := (h.b.block k (zAB hb)).trans hb
theorem PW.o1 (h : PW w W0 W cs) (hb : w.heap[k]? = some (.cells #[a] T z)) : W.cell? ⟨k, 0, none⟩ = some a := (zAA (h.blk hb) _).trans rfl
theorem PW.o2 (h : PW w W0 W cs) (hb : w.heap[k]? = some (.cells #[a, b] T z)) : W.cell? ⟨k, 0, none⟩ = some a ∧ W.cell? ⟨k, 1, none⟩ = some b := ⟨(zAA (h.blk hb) _).trans rfl, (zAA (h.blk hb) _).trans rfl⟩
theorem PW.o3 (h : PW w W0 W cs) (hb : w.heap[k]? = some (.cells #[a, b, c] T z)) : W.cell? ⟨k, 0, none⟩ = some a ∧ W.cell? ⟨k, 1, none⟩ = some b ∧ W.cell? ⟨k, 2, none⟩ = some c := ⟨(zAA (h.blk hb) _).trans rfl, (zAA (h.blk hb) _).trans rfl, (zAA (h.blk hb) _).trans rfl⟩
theorem PW.cel (h : PW w W0 W cs) (i : Nat) (v : Value) (e : cs[i]? = some v := by rfl) : W.cell? ⟨W0.heap.size, i, none⟩ = some v ∧ W.frozen? ⟨W0.heap.size, i, none⟩ = false := ⟨(zAA h.k i).trans e, zAP h.k i⟩
theorem PW.fin (h : PW w W0 W cs) (p : Pk) (e : cs = pkC p none 0 none 0 none 0) : ∃ W3 W4, Hid (W = W3) ∧ Hid (W3.setRow w.heap.size (pkC p none 0 none 0 none 0) = W4) ∧ Hid (W3.heap[W0.heap.size]? = some (.cells (pkC p none 0 none 0 none 0) 29 (0, 0))) ∧ Hid (W3.heap[w.heap.size]? = some (.cells pZero 29 (0, 0))) ∧ Hid (W4.heap[w.heap.size]? = some (.cells (pkC p none 0 none 0 none 0) 29 (0, 0))) ∧ Hid (Below w.heap.size w W4) :=
 ⟨_, _, Lib.hid rfl, Lib.hid rfl, Lib.hid (e ▸ h.k), Lib.hid h.j, Lib.hid (zAe h.j), Lib.hid ⟨h.b.os, h.b.tape, h.b.output, by rw [setRow_size]; exact h.b.size, fun j hk => by rw [setRow_other _ _ _ _ (by omega)]; exact h.b.block j hk⟩⟩
theorem zB9 (w : World) (t id : Int) : ∃ W0 W1 W2 : World, Hid (w.alloc (.cells pZero 29) = W0) ∧ Hid (W0.alloc (.cells pZero 29) = W1) ∧ Hid (W1.setRow W0.heap.size (z24 t id) = W2) ∧
  Hid (W1.heap[W0.heap.size]? = some (.cells pZero 29 (0, 0))) ∧ PW w W0 W2 (z24 t id) := by
 obtain ⟨W0, W1, W2, a, b, c, d, e, f, g, h⟩ := zCq w t id
 exact ⟨W0, W1, W2, a, b, c, d, e, f, g, h⟩
end
theorem taZ {B : TypeId} (h : ∀ (u : TypeId) (v : Value) (w : World), (Instr.typeAssert (.iface u v) 69 B true).run Tryz.prog w = (if u = B then (pure (Value.tuple #[v, .bool true]) : Sem Value) else (do pure (Value.tuple #[← zeroValue B, .bool false]))).run Tryz.prog w)
  (hz : ∀ w : World, (do pure (Value.tuple #[← zeroValue B, .bool false]) : Sem Value).run Tryz.prog w = .ok (.tuple #[.pointer none, .bool false]) w) (u : TypeId) (v : Value) (w : World) :
  (Instr.typeAssert (.iface u v) 69 B true).run Tryz.prog w = .ok (if u = B then .tuple #[v, .bool true] else .tuple #[.pointer none, .bool false]) w := by
 rw [h]
 split
 ·rfl
 ·exact hz w
theorem taB {u B : TypeId} {v : Value} {w : World} (hB : B ∈ [112, 120, 123, 126, 129, 132, 134, 137, 140, 142, 144, 146, 148, 150, 152, 154, 157, 159, 162, 166, 168, 171, 178, 181, 186]) : (Instr.typeAssert (.iface u v) 69 B true).run Tryz.prog w = .ok (if u = B then .tuple #[v, .bool true] else .tuple #[.pointer none, .bool false]) w := by
 simp only [List.mem_cons, List.not_mem_nil, or_false] at hB
 rcases hB with rfl | rfl | rfl | rfl | rfl | rfl | rfl | rfl | rfl | rfl | rfl | rfl | rfl | rfl | rfl | rfl | rfl | rfl | rfl | rfl | rfl | rfl | rfl | rfl | rfl <;> exact taZ (fun _ _ _ => by kernel_rfl) (fun _ => by kernel_rfl) _ _ _
section
variable {ops : Array Oper} {rest : List Oper} {o : Oper} {a : Act} {W W' : World} {Q : Exit → Act → World → Prop} {cs : Array Value} {g : Nat} {x y : Operand}
theorem arA (n : Nat) (X : Hid (W.alloc (.cells pZero 29) = W')) (h : wpList Tryz.prog ops Q rest (a.put (some n) (.pointer (some ⟨W.heap.size, 0, none⟩))) W') (hg : o.guard = none := by rfl) (hd : o.dst = some n := by rfl)
  (hr : (execOp a.eval o).run Tryz.prog W = .ok (.value (.pointer (some ⟨W.heap.size, 0, none⟩))) (W.alloc (.cells pZero 29)) := by as_aux_lemma => kernel_rfl) : wpList Tryz.prog ops Q (o :: rest) a W :=
 wpList_allocTo hg (some n) hd _ _ hr (by rw [X.out]; exact h)
theorem arB (n : Nat) (cs : Array Value) {t : TypeId} {parts : Array (Nat × Operand)} (h : wpList Tryz.prog ops Q rest (a.put (some n) (.agg cs)) W) (hg : o.guard = none := by rfl) (ho : o.op = .build t parts := by rfl) (hd : o.dst = some n := by rfl)
  (hf : Tryz.prog.built t (parts.map fun (i, x) => (i, a.eval x)).toList = some cs := by as_aux_lemma => kernel_rfl) : wpList Tryz.prog ops Q (o :: rest) a W := wpList_buildTo hg t parts ho (some n) hd cs hf h
theorem arS (K : Hid (W.heap[g]? = some (.cells pZero 29 (0, 0)))) (X : Hid (W.setRow g cs = W')) (h : wpList Tryz.prog ops Q rest (a.put o.dst undef) W') (hg : o.guard = none := by rfl) (ho : o.op = .store 29 x y := by rfl)
  (hx : a.eval x = .pointer (some ⟨g, 0, none⟩) := by rfl) (hy : a.eval y = .agg cs := by rfl) (hc : cs.size = 24 := by rfl) (h1 : cs.all (·.oneCell') = true := by first | exact zC3 _ _ | exact zCs _ _ _ _ _ _ _) : wpList Tryz.prog ops Q (o :: rest) a W :=
 wpList_store_row hg 29 x y ho g cs hx hy 29 pZero K.out (by rw [hc]; exact zAo) (by rw [hc]; rfl) h1 (by rw [X.out]; exact h)
theorem arL (K : Hid (W.heap[g]? = some (.cells cs 29 (0, 0)))) (h : wpList Tryz.prog ops Q rest (a.put o.dst (.agg cs)) W) (hg : o.guard = none := by rfl) (ho : o.op = .load 29 x := by rfl)
  (hx : a.eval x = .pointer (some ⟨g, 0, none⟩) := by rfl) (hc : cs.size = 24 := by rfl) : wpList Tryz.prog ops Q (o :: rest) a W :=
 wpList_load_row hg 29 x ho g hx 29 cs (0, 0) _ K.out Tryz.underlying29 rfl (by rw [hc]; exact zAo) h
end
structure PSt (w v W : World) (b : Nat) (t : TypeId) (cs X : Array Value) : Prop where
 src : W.heap[b]? = some (.cells cs t (0, 0))
 res : W.heap[w.heap.size]? = some (.cells pZero 29 (0, 0))
 out : W.heap[w.heap.size + 1]? = some (.cells X 29 (0, 0))
 bel : Below w.heap.size w W
 sz : X.size = 24
 blt : b < w.heap.size
 keep : ∀ k, w.heap.size + 1 < k → W.heap[k]? = v.heap[k]?
 siz : v.heap.size = W.heap.size
section
variable {w v W : World} {b : Nat} {t : TypeId} {cs X : Array Value}
theorem PSt.set (h : PSt w v W b t cs X) (i : Nat) (u : Value) : PSt w v (W.setCell ⟨w.heap.size + 1, i, none⟩ u) b t cs (X.setIfInBounds i u) :=
 ⟨by rw [Below.heap_setCell _ _ _ _ (by show b ≠ w.heap.size + 1; have := h.blt; omega)]; exact h.src, by rw [Below.heap_setCell _ _ _ _ (by show w.heap.size ≠ w.heap.size + 1; omega)]; exact h.res, zAU h.out _, h.bel.setCell (by show w.heap.size ≤ w.heap.size + 1; omega) _, by simp [h.sz], h.blt,
  fun k hk => by rw [Below.heap_setCell _ _ _ _ (by show k ≠ w.heap.size + 1; omega)]; exact h.keep k hk, by rw [h.siz]; simp [World.setCell]⟩
theorem PSt.drew (h : PSt w v W b t cs X) : PSt w v W.drew b t cs X := ⟨h.src, h.res, h.out, zAi h.bel, h.sz, h.blt, h.keep, h.siz⟩
theorem PSt.call {W' : World} (h : PSt w v W b t cs X) (hb : Below W.heap.size W W') : PSt w W' W' b t cs X :=
 ⟨(hb.block _ (zAB h.src)).trans h.src, (hb.block _ (zAB h.res)).trans h.res, (hb.block _ (zAB h.out)).trans h.out, h.bel.trans (hb.mono h.bel.size), h.sz, h.blt, fun _ _ => rfl, rfl⟩
theorem PSt.fin (h : PSt w v W b t cs X) : (∀ k, w.heap.size + 1 < k → (W.setRow w.heap.size X).heap[k]? = v.heap[k]?) ∧ (W.setRow w.heap.size X).heap[w.heap.size]? = some (.cells X 29 (0, 0)) ∧ Below w.heap.size w (W.setRow w.heap.size X) ∧ (W.setRow w.heap.size X).heap.size = v.heap.size :=
 ⟨fun k hk => by rw [setRow_other _ _ _ _ (by omega)]; exact h.keep k hk, zAe h.res, ⟨h.bel.os, h.bel.tape, h.bel.output, by rw [setRow_size]; exact h.bel.size, fun j hj => by rw [setRow_other _ _ _ _ (by omega)]; exact h.bel.block j hj⟩, by rw [setRow_size, h.siz]⟩
variable {q : Pk} {A1 : Option Addr} {c1 : Nat} {A2 : Option Addr} {c2 : Nat} {A3 : Option Addr} {c3 : Nat}
theorem PSt.s2 (h : PSt w v W b t cs (pkC q A1 c1 A2 c2 A3 c3)) (x : ByteArray) : PSt w v (W.setCell ⟨w.heap.size + 1, 2, none⟩ (.string x)) b t cs (pkC { q with f2 := x } A1 c1 A2 c2 A3 c3) := h.set 2 (.string x)
theorem PSt.s3 (h : PSt w v W b t cs (pkC q A1 c1 A2 c2 A3 c3)) (x : ByteArray) : PSt w v (W.setCell ⟨w.heap.size + 1, 3, none⟩ (.string x)) b t cs (pkC { q with f3 := x } A1 c1 A2 c2 A3 c3) := h.set 3 (.string x)
theorem PSt.s4 (h : PSt w v W b t cs (pkC q A1 c1 A2 c2 A3 c3)) (x : ByteArray) : PSt w v (W.setCell ⟨w.heap.size + 1, 4, none⟩ (.string x)) b t cs (pkC { q with f4 := x } A1 c1 A2 c2 A3 c3) := h.set 4 (.string x)
theorem PSt.s7 (h : PSt w v W b t cs (pkC q A1 c1 A2 c2 A3 c3)) (x : Int) : PSt w v (W.setCell ⟨w.heap.size + 1, 7, none⟩ (.int .u32 x)) b t cs (pkC { q with f7 := x } A1 c1 A2 c2 A3 c3) := h.set 7 (.int .u32 x)
theorem PSt.s9 (h : PSt w v W b t cs (pkC q A1 c1 A2 c2 A3 c3)) (x : Ats) (A : Option Addr) (c : Nat) : PSt w v (W.setCells (w.heap.size + 1) 9 (at8 x.f0 x.f1 x.f2 x.f3 x.f4 x.f5 x.f6 (.slice A x.f7.length c)).toList) b t cs (pkC { q with f9 := x } A c A2 c2 A3 c3) := by
 have h0 : PSt w v _ b t cs (pkC { q with f9 := ⟨x.f0, q.f9.f1, q.f9.f2, q.f9.f3, q.f9.f4, q.f9.f5, q.f9.f6, q.f9.f7⟩ } A1 c1 A2 c2 A3 c3) := h.set 9 (.int .u32 x.f0)
 have h1 : PSt w v _ b t cs (pkC { q with f9 := ⟨x.f0, x.f1, q.f9.f2, q.f9.f3, q.f9.f4, q.f9.f5, q.f9.f6, q.f9.f7⟩ } A1 c1 A2 c2 A3 c3) := h0.set 10 (.int .u64 x.f1)
 have h2 : PSt w v _ b t cs (pkC { q with f9 := ⟨x.f0, x.f1, x.f2, q.f9.f3, q.f9.f4, q.f9.f5, q.f9.f6, q.f9.f7⟩ } A1 c1 A2 c2 A3 c3) := h1.set 11 (.int .u32 x.f2)
 have h3 : PSt w v _ b t cs (pkC { q with f9 := ⟨x.f0, x.f1, x.f2, x.f3, q.f9.f4, q.f9.f5, q.f9.f6, q.f9.f7⟩ } A1 c1 A2 c2 A3 c3) := h2.set 12 (.int .u32 x.f3)
 have h4 : PSt w v _ b t cs (pkC { q with f9 := ⟨x.f0, x.f1, x.f2, x.f3, x.f4, q.f9.f5, q.f9.f6, q.f9.f7⟩ } A1 c1 A2 c2 A3 c3) := h3.set 13 (.int .u32 x.f4)
 have h5 : PSt w v _ b t cs (pkC { q with f9 := ⟨x.f0, x.f1, x.f2, x.f3, x.f4, x.f5, q.f9.f6, q.f9.f7⟩ } A1 c1 A2 c2 A3 c3) := h4.set 14 (.int .u32 x.f5)
 have h6 : PSt w v _ b t cs (pkC { q with f9 := ⟨x.f0, x.f1, x.f2, x.f3, x.f4, x.f5, x.f6, q.f9.f7⟩ } A1 c1 A2 c2 A3 c3) := h5.set 15 (.int .u32 x.f6)
 have h7 : PSt w v _ b t cs (pkC { q with f9 := ⟨x.f0, x.f1, x.f2, x.f3, x.f4, x.f5, x.f6, x.f7⟩ } A c A2 c2 A3 c3) := h6.set 16 (.slice A x.f7.length c)
 exact h7
end
theorem zDI {w w' : World} {v : Value} {l : List Ex} (h : Kd.R k52 52 w' w.heap.size (fun _ => True) v ((l.map zAY).map zHZ)) : ∃ A c, v = .slice A l.length c ∧ ∀ V : World, (∀ k, w.heap.size ≤ k → k < w'.heap.size → V.heap[k]? = w'.heap[k]?) → SlE V A c l := by
 have hmap : (l.map zAY).map zHZ = l := by
  rw [List.map_map]
  exact List.map_id l
 rw [hmap] at h
 obtain ⟨A, c, rfl, hc, _⟩ := Kd.R_reads h
 refine ⟨A, c, rfl, fun V hV => ?_⟩
 obtain ⟨A', c', e, hc', hC⟩ := Kd.R_reads (zE3 h hV)
 injection e with e1 _ e3
 subst e1 e3
 exact ⟨hC, hc'⟩
theorem zDQ {pre : List Value} {a b c d e f g : Int} {v : Value} {n : Nat} (hn : pre.length = n) (j : Nat) (u : Value) (hj : (at8 a b c d e f g v).toList[j]? = some u) : (zAj pre a b c d e f g v [])[n + j]? = some u := by
 have hj8 : j < 8 := (List.getElem?_eq_some_iff.1 hj).1
 rw [← hn, zBW pre [] a b c d e f g v j hj8]
 rw [← Array.getElem?_toList]
 exact hj
theorem zCe (a b c d e f g : Int) (v : Value) : (Tryz.prog.info? 116).map (·.size) = some (at8 a b c d e f g v).size := zNR _ _ _ _ _ _ _ _
theorem RBuf.newAt {w : World} {h o c : Nat} {l : List UInt8} (hl : Lies w h o l) (hh : h < w.heap.size) (hc : l.length ≤ c) (hn : l.length ≤ 1000000000) :
  RBuf (w.alloc (.cells #[.slice (some ⟨h, o, none⟩) l.length c, .int .i64 0, .nilIface] 83)) w.heap.size 0 h (some l) := by
 have hb := heap_alloc_new w (.cells #[.slice (some ⟨h, o, none⟩) l.length c, .int .i64 0, .nilIface] 83 (0, 0))
 refine ⟨⟨o, l.length, c, 0, by rw [zAA hb]; rfl, by rw [zAA hb]; rfl, ⟨by omega, by simp; omega⟩, by omega, hc, hn, by rw [zAA hb]; rfl, by omega, ?_⟩, zAP hb⟩
 exact hl.kept (((Below.refl w.heap.size w).alloc (Nat.le_refl _) _).block h hh)
theorem zFX (q g o s : Nat) (a : ByteArray) (b : ByteArray) (r : List UInt8) (w : World) (hq : w.heap[q]? = some (.cells #[.string ⟨#[]⟩, .string ⟨#[]⟩] 208 (0, 0))) (hqg : q ≠ g) (hqs : q ≠ s) (hB : RBuf w g o s (some (str (tl a) ++ (str (tl b) ++ r)))) (ha : a.size ≤ 1000000) (hb : b.size ≤ 1000000) :
  Calls Tryz.prog 214 #[.pointer (some ⟨q, 0, none⟩), .pointer (some ⟨g, o, none⟩)] w fun e w' => e = .returned .nilIface ∧ w'.heap[q]? = some (.cells #[.string a, .string b] 208 (0, 0)) ∧ UpdG g o q w w' := by
 have C0 := Lib.hid (zBK (w0 := w) ⟨hB, hq, UpdG.refl _ _ _ _⟩ hqg (by omega))
 clear hB hq
 go_enter Tryz.func214, Tryz.ntmps214
 go_wp2_with fail
 refine C0.out.mono ?_
 rintro e w1 ⟨rfl, h⟩
 have C1 := Lib.hid (zBK h hqg (by omega))
 clear h C0
 go_wp2_with fail
 refine C1.out.mono ?_
 rintro e w2 ⟨rfl, h⟩
 clear C1
 have c0 : w2.cell? ⟨q, 0, none⟩ = some (.string ⟨#[]⟩) := by rw [h.cell]; rfl
 have f0 := h.frz 0
 have c1 : w2.cell? ⟨q, 1, none⟩ = some (.string ⟨#[]⟩) := by rw [h.cell]; rfl
 have f1 := h.frz 1
 have h9 : RSt w ((w2.setCell ⟨q, 0, none⟩ (.string a)).setCell ⟨q, 1, none⟩ (.string b)) g o s q 208 (some r) #[.string a, .string b] := ((h.set hqg hqs 0 (.string a)).set hqg hqs 1 (.string b))
 have cn := h9.nilErr
 have H9 := Lib.hid h9
 clear h h9
 generalize hW : (w2.setCell ⟨q, 0, none⟩ (.string a)).setCell ⟨q, 1, none⟩ (.string b) = W at *
 have X := Lib.hid hW
 clear hW
 have hW := X.out
 go_wp2_with fail
 go_ret
 exact ⟨rfl, H9.out.blk, H9.out.upd⟩
theorem zEI (q g o s : Nat) (a : ByteArray) (b : ByteArray) (r : List UInt8) (w : World) (hq : w.heap[q]? = some (.cells #[.string ⟨#[]⟩, .string ⟨#[]⟩] 210 (0, 0))) (hqg : q ≠ g) (hqs : q ≠ s) (hB : RBuf w g o s (some (str (tl a) ++ (str (tl b) ++ r)))) (ha : a.size ≤ 1000000) (hb : b.size ≤ 1000000) :
  Calls Tryz.prog 220 #[.pointer (some ⟨q, 0, none⟩), .pointer (some ⟨g, o, none⟩)] w fun e w' => e = .returned .nilIface ∧ w'.heap[q]? = some (.cells #[.string a, .string b] 210 (0, 0)) ∧ UpdG g o q w w' := by
 have C0 := Lib.hid (zBK (w0 := w) ⟨hB, hq, UpdG.refl _ _ _ _⟩ hqg (by omega))
 clear hB hq
 go_enter Tryz.func220, Tryz.ntmps220
 go_wp2_with fail
 refine C0.out.mono ?_
 rintro e w1 ⟨rfl, h⟩
 have C1 := Lib.hid (zBK h hqg (by omega))
 clear h C0
 go_wp2_with fail
 refine C1.out.mono ?_
 rintro e w2 ⟨rfl, h⟩
 clear C1
 have c0 : w2.cell? ⟨q, 0, none⟩ = some (.string ⟨#[]⟩) := by rw [h.cell]; rfl
 have f0 := h.frz 0
 have c1 : w2.cell? ⟨q, 1, none⟩ = some (.string ⟨#[]⟩) := by rw [h.cell]; rfl
 have f1 := h.frz 1
 have h9 : RSt w ((w2.setCell ⟨q, 0, none⟩ (.string a)).setCell ⟨q, 1, none⟩ (.string b)) g o s q 210 (some r) #[.string a, .string b] := ((h.set hqg hqs 0 (.string a)).set hqg hqs 1 (.string b))
 have cn := h9.nilErr
 have H9 := Lib.hid h9
 clear h h9
 generalize hW : (w2.setCell ⟨q, 0, none⟩ (.string a)).setCell ⟨q, 1, none⟩ (.string b) = W at *
 have X := Lib.hid hW
 clear hW
 have hW := X.out
 go_wp2_with fail
 go_ret
 exact ⟨rfl, H9.out.blk, H9.out.upd⟩
theorem zG7 (q g o s : Nat) (a : ByteArray) (r : List UInt8) (w : World) (hq : w.heap[q]? = some (.cells #[.string ⟨#[]⟩] 212 (0, 0))) (hqg : q ≠ g) (hqs : q ≠ s) (hB : RBuf w g o s (some (str (tl a) ++ r))) (ha : a.size ≤ 1000000) :
  Calls Tryz.prog 226 #[.pointer (some ⟨q, 0, none⟩), .pointer (some ⟨g, o, none⟩)] w fun e w' => e = .returned .nilIface ∧ w'.heap[q]? = some (.cells #[.string a] 212 (0, 0)) ∧ UpdG g o q w w' := by
 have C0 := Lib.hid (zBK (w0 := w) ⟨hB, hq, UpdG.refl _ _ _ _⟩ hqg (by omega))
 clear hB hq
 go_enter Tryz.func226, Tryz.ntmps226
 go_wp2_with fail
 refine C0.out.mono ?_
 rintro e w1 ⟨rfl, h⟩
 clear C0
 have c0 : w1.cell? ⟨q, 0, none⟩ = some (.string ⟨#[]⟩) := by rw [h.cell]; rfl
 have f0 := h.frz 0
 have h9 : RSt w (w1.setCell ⟨q, 0, none⟩ (.string a)) g o s q 212 (some r) #[.string a] := (h.set hqg hqs 0 (.string a))
 have cn := h9.nilErr
 have H9 := Lib.hid h9
 clear h h9
 generalize hW : w1.setCell ⟨q, 0, none⟩ (.string a) = W at *
 have X := Lib.hid hW
 clear hW
 have hW := X.out
 go_wp2_with fail
 go_ret
 exact ⟨rfl, H9.out.blk, H9.out.upd⟩
theorem zFY (q g o s : Nat) (a : ByteArray) (r : List UInt8) (w : World) (hq : w.heap[q]? = some (.cells #[.string ⟨#[]⟩] 214 (0, 0))) (hqg : q ≠ g) (hqs : q ≠ s) (hB : RBuf w g o s (some (str (tl a) ++ r))) (ha : a.size ≤ 1000000) :
  Calls Tryz.prog 232 #[.pointer (some ⟨q, 0, none⟩), .pointer (some ⟨g, o, none⟩)] w fun e w' => e = .returned .nilIface ∧ w'.heap[q]? = some (.cells #[.string a] 214 (0, 0)) ∧ UpdG g o q w w' := by
 have C0 := Lib.hid (zBK (w0 := w) ⟨hB, hq, UpdG.refl _ _ _ _⟩ hqg (by omega))
 clear hB hq
 go_enter Tryz.func232, Tryz.ntmps232
 go_wp2_with fail
 refine C0.out.mono ?_
 rintro e w1 ⟨rfl, h⟩
 clear C0
 have c0 : w1.cell? ⟨q, 0, none⟩ = some (.string ⟨#[]⟩) := by rw [h.cell]; rfl
 have f0 := h.frz 0
 have h9 : RSt w (w1.setCell ⟨q, 0, none⟩ (.string a)) g o s q 214 (some r) #[.string a] := (h.set hqg hqs 0 (.string a))
 have cn := h9.nilErr
 have H9 := Lib.hid h9
 clear h h9
 generalize hW : w1.setCell ⟨q, 0, none⟩ (.string a) = W at *
 have X := Lib.hid hW
 clear hW
 have hW := X.out
 go_wp2_with fail
 go_ret
 exact ⟨rfl, H9.out.blk, H9.out.upd⟩
theorem zIg (q g o s : Nat) (a : ByteArray) (r : List UInt8) (w : World) (hq : w.heap[q]? = some (.cells #[.string ⟨#[]⟩] 216 (0, 0))) (hqg : q ≠ g) (hqs : q ≠ s) (hB : RBuf w g o s (some (str (tl a) ++ r))) (ha : a.size ≤ 1000000) :
  Calls Tryz.prog 238 #[.pointer (some ⟨q, 0, none⟩), .pointer (some ⟨g, o, none⟩)] w fun e w' => e = .returned .nilIface ∧ w'.heap[q]? = some (.cells #[.string a] 216 (0, 0)) ∧ UpdG g o q w w' := by
 have C0 := Lib.hid (zBK (w0 := w) ⟨hB, hq, UpdG.refl _ _ _ _⟩ hqg (by omega))
 clear hB hq
 go_enter Tryz.func238, Tryz.ntmps238
 go_wp2_with fail
 refine C0.out.mono ?_
 rintro e w1 ⟨rfl, h⟩
 clear C0
 have c0 : w1.cell? ⟨q, 0, none⟩ = some (.string ⟨#[]⟩) := by rw [h.cell]; rfl
 have f0 := h.frz 0
 have h9 : RSt w (w1.setCell ⟨q, 0, none⟩ (.string a)) g o s q 216 (some r) #[.string a] := (h.set hqg hqs 0 (.string a))
 have cn := h9.nilErr
 have H9 := Lib.hid h9
 clear h h9
 generalize hW : w1.setCell ⟨q, 0, none⟩ (.string a) = W at *
 have X := Lib.hid hW
 clear hW
 have hW := X.out
 go_wp2_with fail
 go_ret
 exact ⟨rfl, H9.out.blk, H9.out.upd⟩
theorem zG8 (q s o c : Nat) (a : ByteArray) (b : ByteArray) (w : World) (hq : w.heap[q]? = some (.cells #[.string ⟨#[]⟩, .string ⟨#[]⟩] 208 (0, 0))) (hqs : q ≠ s) (hl : Lies w s o (str (tl a) ++ str (tl b))) (hs : s < w.heap.size) (hc : (str (tl a) ++ str (tl b)).length ≤ c) (ha : a.size ≤ 1000000) (hb : b.size ≤ 1000000) :
  Calls Tryz.prog 213 #[.pointer (some ⟨q, 0, none⟩), .slice (some ⟨s, o, none⟩) (str (tl a) ++ str (tl b)).length c] w fun e w' => e = .returned .nilIface ∧ w'.heap[q]? = some (.cells #[.string a, .string b] 208 (0, 0)) ∧ UpdB (fun k => k = q) w w' := by
 have hql := zAB hq
 have hbel := (Below.refl w.heap.size w).alloc (Nat.le_refl _) (.cells #[.slice (some ⟨s, o, none⟩) (str (tl a) ++ str (tl b)).length c, .int .i64 0, .nilIface] 83)
 have hB0 := RBuf.newAt hl hs hc (by simp only [List.length_append, zAK, zAH]; omega)
 have hq2 := (hbel.block q hql).trans hq
 have e2 : str (tl a) ++ str (tl b) = str (tl a) ++ (str (tl b) ++ []) := by simp only [List.append_assoc, List.append_nil]
 have hb2 := hB0
 rw [show (some (str (tl a) ++ str (tl b)) : Option (List UInt8)) = some (str (tl a) ++ (str (tl b) ++ [])) from congrArg some e2] at hb2
 have C := Lib.hid (zFX q w.heap.size 0 s a b [] _ hq2 (by omega) hqs hb2 ha hb)
 have B := Lib.hid hbel
 clear hB0 hb2 hq2 hbel hl hq e2
 generalize (str (tl a) ++ str (tl b)).length = len at *
 go_enter Tryz.func213, Tryz.ntmps213
 go_wp2_with fail
 refine (zAZ _ _ _ _).mono ?_
 rintro e w2 ⟨rfl, hw2⟩
 rw [hw2] at C B
 clear hw2
 go_wp2_with fail
 refine C.out.mono ?_
 rintro e w3 ⟨rfl, hk, hu⟩
 have F := Lib.hid (show w3.heap[q]? = some (.cells #[.string a, .string b] 208 (0, 0)) ∧ UpdB (fun k => k = q) w w3 from by
  have hs := B.out.size
  exact ⟨hk, ⟨hu.os.trans B.out.os, hu.tape.trans B.out.tape, hu.output.trans B.out.output, Nat.le_trans B.out.size hu.size, fun k hk e => (hu.block k (by omega) (by omega)).trans (B.out.block k hk)⟩⟩)
 clear hk hu C B
 go_wp2_with fail
 go_ret
 exact ⟨rfl, F.out⟩
theorem zE0 (q s o c : Nat) (a : ByteArray) (b : ByteArray) (w : World) (hq : w.heap[q]? = some (.cells #[.string ⟨#[]⟩, .string ⟨#[]⟩] 210 (0, 0))) (hqs : q ≠ s) (hl : Lies w s o (str (tl a) ++ str (tl b))) (hs : s < w.heap.size) (hc : (str (tl a) ++ str (tl b)).length ≤ c) (ha : a.size ≤ 1000000) (hb : b.size ≤ 1000000) :
  Calls Tryz.prog 219 #[.pointer (some ⟨q, 0, none⟩), .slice (some ⟨s, o, none⟩) (str (tl a) ++ str (tl b)).length c] w fun e w' => e = .returned .nilIface ∧ w'.heap[q]? = some (.cells #[.string a, .string b] 210 (0, 0)) ∧ UpdB (fun k => k = q) w w' := by
 have hql := zAB hq
 have hbel := (Below.refl w.heap.size w).alloc (Nat.le_refl _) (.cells #[.slice (some ⟨s, o, none⟩) (str (tl a) ++ str (tl b)).length c, .int .i64 0, .nilIface] 83)
 have hB0 := RBuf.newAt hl hs hc (by simp only [List.length_append, zAK, zAH]; omega)
 have hq2 := (hbel.block q hql).trans hq
 have e2 : str (tl a) ++ str (tl b) = str (tl a) ++ (str (tl b) ++ []) := by simp only [List.append_assoc, List.append_nil]
 have hb2 := hB0
 rw [show (some (str (tl a) ++ str (tl b)) : Option (List UInt8)) = some (str (tl a) ++ (str (tl b) ++ [])) from congrArg some e2] at hb2
 have C := Lib.hid (zEI q w.heap.size 0 s a b [] _ hq2 (by omega) hqs hb2 ha hb)
 have B := Lib.hid hbel
 clear hB0 hb2 hq2 hbel hl hq e2
 generalize (str (tl a) ++ str (tl b)).length = len at *
 go_enter Tryz.func219, Tryz.ntmps219
 go_wp2_with fail
 refine (zAZ _ _ _ _).mono ?_
 rintro e w2 ⟨rfl, hw2⟩
 rw [hw2] at C B
 clear hw2
 go_wp2_with fail
 refine C.out.mono ?_
 rintro e w3 ⟨rfl, hk, hu⟩
 have F := Lib.hid (show w3.heap[q]? = some (.cells #[.string a, .string b] 210 (0, 0)) ∧ UpdB (fun k => k = q) w w3 from by
  have hs := B.out.size
  exact ⟨hk, ⟨hu.os.trans B.out.os, hu.tape.trans B.out.tape, hu.output.trans B.out.output, Nat.le_trans B.out.size hu.size, fun k hk e => (hu.block k (by omega) (by omega)).trans (B.out.block k hk)⟩⟩)
 clear hk hu C B
 go_wp2_with fail
 go_ret
 exact ⟨rfl, F.out⟩
theorem zHc (q s o c : Nat) (a : ByteArray) (w : World) (hq : w.heap[q]? = some (.cells #[.string ⟨#[]⟩] 212 (0, 0))) (hqs : q ≠ s) (hl : Lies w s o (str (tl a))) (hs : s < w.heap.size) (hc : (str (tl a)).length ≤ c) (ha : a.size ≤ 1000000) :
  Calls Tryz.prog 225 #[.pointer (some ⟨q, 0, none⟩), .slice (some ⟨s, o, none⟩) (str (tl a)).length c] w fun e w' => e = .returned .nilIface ∧ w'.heap[q]? = some (.cells #[.string a] 212 (0, 0)) ∧ UpdB (fun k => k = q) w w' := by
 have hql := zAB hq
 have hbel := (Below.refl w.heap.size w).alloc (Nat.le_refl _) (.cells #[.slice (some ⟨s, o, none⟩) (str (tl a)).length c, .int .i64 0, .nilIface] 83)
 have hB0 := RBuf.newAt hl hs hc (by simp only [List.length_append, zAK, zAH]; omega)
 have hq2 := (hbel.block q hql).trans hq
 have e2 : str (tl a) = str (tl a) ++ [] := by simp only [List.append_assoc, List.append_nil]
 have hb2 := hB0
 rw [show (some (str (tl a)) : Option (List UInt8)) = some (str (tl a) ++ []) from congrArg some e2] at hb2
 have C := Lib.hid (zG7 q w.heap.size 0 s a [] _ hq2 (by omega) hqs hb2 ha)
 have B := Lib.hid hbel
 clear hB0 hb2 hq2 hbel hl hq e2
 generalize (str (tl a)).length = len at *
 go_enter Tryz.func225, Tryz.ntmps225
 go_wp2_with fail
 refine (zAZ _ _ _ _).mono ?_
 rintro e w2 ⟨rfl, hw2⟩
 rw [hw2] at C B
 clear hw2
 go_wp2_with fail
 refine C.out.mono ?_
 rintro e w3 ⟨rfl, hk, hu⟩
 have F := Lib.hid (show w3.heap[q]? = some (.cells #[.string a] 212 (0, 0)) ∧ UpdB (fun k => k = q) w w3 from by
  have hs := B.out.size
  exact ⟨hk, ⟨hu.os.trans B.out.os, hu.tape.trans B.out.tape, hu.output.trans B.out.output, Nat.le_trans B.out.size hu.size, fun k hk e => (hu.block k (by omega) (by omega)).trans (B.out.block k hk)⟩⟩)
 clear hk hu C B
 go_wp2_with fail
 go_ret
 exact ⟨rfl, F.out⟩
theorem zG9 (q s o c : Nat) (a : ByteArray) (w : World) (hq : w.heap[q]? = some (.cells #[.string ⟨#[]⟩] 214 (0, 0))) (hqs : q ≠ s) (hl : Lies w s o (str (tl a))) (hs : s < w.heap.size) (hc : (str (tl a)).length ≤ c) (ha : a.size ≤ 1000000) :
  Calls Tryz.prog 231 #[.pointer (some ⟨q, 0, none⟩), .slice (some ⟨s, o, none⟩) (str (tl a)).length c] w fun e w' => e = .returned .nilIface ∧ w'.heap[q]? = some (.cells #[.string a] 214 (0, 0)) ∧ UpdB (fun k => k = q) w w' := by
 have hql := zAB hq
 have hbel := (Below.refl w.heap.size w).alloc (Nat.le_refl _) (.cells #[.slice (some ⟨s, o, none⟩) (str (tl a)).length c, .int .i64 0, .nilIface] 83)
 have hB0 := RBuf.newAt hl hs hc (by simp only [List.length_append, zAK, zAH]; omega)
 have hq2 := (hbel.block q hql).trans hq
 have e2 : str (tl a) = str (tl a) ++ [] := by simp only [List.append_assoc, List.append_nil]
 have hb2 := hB0
 rw [show (some (str (tl a)) : Option (List UInt8)) = some (str (tl a) ++ []) from congrArg some e2] at hb2
 have C := Lib.hid (zFY q w.heap.size 0 s a [] _ hq2 (by omega) hqs hb2 ha)
 have B := Lib.hid hbel
 clear hB0 hb2 hq2 hbel hl hq e2
 generalize (str (tl a)).length = len at *
 go_enter Tryz.func231, Tryz.ntmps231
 go_wp2_with fail
 refine (zAZ _ _ _ _).mono ?_
 rintro e w2 ⟨rfl, hw2⟩
 rw [hw2] at C B
 clear hw2
 go_wp2_with fail
 refine C.out.mono ?_
 rintro e w3 ⟨rfl, hk, hu⟩
 have F := Lib.hid (show w3.heap[q]? = some (.cells #[.string a] 214 (0, 0)) ∧ UpdB (fun k => k = q) w w3 from by
  have hs := B.out.size
  exact ⟨hk, ⟨hu.os.trans B.out.os, hu.tape.trans B.out.tape, hu.output.trans B.out.output, Nat.le_trans B.out.size hu.size, fun k hk e => (hu.block k (by omega) (by omega)).trans (B.out.block k hk)⟩⟩)
 clear hk hu C B
 go_wp2_with fail
 go_ret
 exact ⟨rfl, F.out⟩
theorem zKO (q s o c : Nat) (a : ByteArray) (w : World) (hq : w.heap[q]? = some (.cells #[.string ⟨#[]⟩] 216 (0, 0))) (hqs : q ≠ s) (hl : Lies w s o (str (tl a))) (hs : s < w.heap.size) (hc : (str (tl a)).length ≤ c) (ha : a.size ≤ 1000000) :
  Calls Tryz.prog 237 #[.pointer (some ⟨q, 0, none⟩), .slice (some ⟨s, o, none⟩) (str (tl a)).length c] w fun e w' => e = .returned .nilIface ∧ w'.heap[q]? = some (.cells #[.string a] 216 (0, 0)) ∧ UpdB (fun k => k = q) w w' := by
 have hql := zAB hq
 have hbel := (Below.refl w.heap.size w).alloc (Nat.le_refl _) (.cells #[.slice (some ⟨s, o, none⟩) (str (tl a)).length c, .int .i64 0, .nilIface] 83)
 have hB0 := RBuf.newAt hl hs hc (by simp only [List.length_append, zAK, zAH]; omega)
 have hq2 := (hbel.block q hql).trans hq
 have e2 : str (tl a) = str (tl a) ++ [] := by simp only [List.append_assoc, List.append_nil]
 have hb2 := hB0
 rw [show (some (str (tl a)) : Option (List UInt8)) = some (str (tl a) ++ []) from congrArg some e2] at hb2
 have C := Lib.hid (zIg q w.heap.size 0 s a [] _ hq2 (by omega) hqs hb2 ha)
 have B := Lib.hid hbel
 clear hB0 hb2 hq2 hbel hl hq e2
 generalize (str (tl a)).length = len at *
 go_enter Tryz.func237, Tryz.ntmps237
 go_wp2_with fail
 refine (zAZ _ _ _ _).mono ?_
 rintro e w2 ⟨rfl, hw2⟩
 rw [hw2] at C B
 clear hw2
 go_wp2_with fail
 refine C.out.mono ?_
 rintro e w3 ⟨rfl, hk, hu⟩
 have F := Lib.hid (show w3.heap[q]? = some (.cells #[.string a] 216 (0, 0)) ∧ UpdB (fun k => k = q) w w3 from by
  have hs := B.out.size
  exact ⟨hk, ⟨hu.os.trans B.out.os, hu.tape.trans B.out.tape, hu.output.trans B.out.output, Nat.le_trans B.out.size hu.size, fun k hk e => (hu.block k (by omega) (by omega)).trans (B.out.block k hk)⟩⟩)
 clear hk hu C B
 go_wp2_with fail
 go_ret
 exact ⟨rfl, F.out⟩
def UnextQ (sets : Array Value → Array Value) (tp : TypeId) (x : Nat) (w : World) : Prop :=
 ∀ (W : World) (q : Nat) (P : Array Value), Below w.heap.size w W → W.heap[q]? = some (.cells P 29 (0, 0)) → P.size = 24 → x ≠ q → w.heap.size ≤ q →
  Calls Tryz.prog 62 #[.pointer (some ⟨q, 0, none⟩), .iface tp (.pointer (some ⟨x, 0, none⟩))] W fun e w' => e = .returned (.bool true) ∧ w'.heap[q]? = some (.cells (sets P) 29 (0, 0)) ∧ UpdB (fun k => k = q) W w'
theorem zCZ {w : World} {q i : Nat} {P : Array Value} {t : TypeId} {f : Nat × Nat} (h : w.heap[q]? = some (.cells P t f)) (hi : i < P.size) : ∃ u, w.cell? ⟨q, i, none⟩ = some u := ⟨P[i], by rw [zAA h]; simp [hi]⟩
theorem zFZ (x : Nat) (a : ByteArray) (b : ByteArray) (w : World) (hx : w.heap[x]? = some (.cells #[.string a, .string b] 208 (0, 0))) : UnextQ (fun P => (P.setIfInBounds 2 (.string a)).setIfInBounds 3 (.string b)) 207 x w := by
 intro W q P hW hq hP hxq hqw
 have hxl := zAB hx
 have hx2 := (hW.block x hxl).trans hx
 have tc : ∀ (v : Value) (w : World), (Instr.typeAssert (.iface 207 v) 182 207 true).run Tryz.prog w = .ok (.tuple #[v, .bool true]) w := fun _ _ => by kernel_rfl
 have cx0 : W.cell? ⟨x, 0, none⟩ = some (.string a) := by rw [zAA hx2]; rfl
 have cx1 : W.cell? ⟨x, 1, none⟩ = some (.string b) := by rw [zAA hx2]; rfl
 obtain ⟨u2, cq2⟩ := zCZ hq (i := 2) (by omega)
 have fq2 : W.frozen? ⟨q, 2, none⟩ = false := zAP hq 2
 obtain ⟨u3, cq3⟩ := zCZ hq (i := 3) (by omega)
 have fq3 : W.frozen? ⟨q, 3, none⟩ = false := zAP hq 3
 have hqq := zAU (i := 3) (zAU (i := 2) hq (.string a)) (.string b)
 have HX := Lib.hid hx2
 have HQ := Lib.hid hq
 clear hx hx2 hq hW hqw
 go_enter Tryz.func62, Tryz.ntmps62
 go_wp2_with fail
 refine wp_region_held_drew (S := fun w' => w'.heap[x]? = some (.cells #[.string a, .string b] 208 (0, 0))) (by kernel_rfl) HX.out (fun hHeld => ?_)
 refine tkE 16 0 (.pointer (some ⟨q, 0, none⟩)) hHeld ?_
 try simp only [zAJ]
 refine tkE 17 1 (.pointer (some ⟨q, 0, none⟩)) hHeld ?_
 try simp only [zAJ]
 refine tkE 18 2 (.pointer (some ⟨x, 0, none⟩)) hHeld ?_
 try simp only [zAJ]
 refine tkE 19 3 (.pointer (some ⟨x, 0, none⟩)) hHeld ?_
 try simp only [zAJ]
 refine tkE 20 4 (.pointer (some ⟨x, 0, none⟩)) hHeld ?_
 try simp only [zAJ]
 refine tkY 21 5 (.string a) rfl (zAS (by rfl) 9 _ rfl zAl x 0 (by rfl) _ _ (0, 0) _ (fun _ h => h) rfl) hHeld ?_
 try simp only [zAJ]
 refine tkE 22 6 (.pointer (some ⟨x, 0, none⟩)) hHeld ?_
 try simp only [zAJ]
 refine tkE 23 7 (.pointer (some ⟨x, 0, none⟩)) hHeld ?_
 try simp only [zAJ]
 refine tkE 24 8 (.pointer (some ⟨x, 1, none⟩)) hHeld ?_
 try simp only [zAJ]
 refine tkY 25 9 (.string b) rfl (zAS (by rfl) 9 _ rfl zAl x 1 (by rfl) _ _ (0, 0) _ (fun _ h => h) rfl) hHeld ?_
 try simp only [zAJ]
 refine tkE 26 10 (.pointer (some ⟨q, 0, none⟩)) hHeld ?_
 try simp only [zAJ]
 refine tkE 27 11 (.pointer (some ⟨q, 2, none⟩)) hHeld ?_
 try simp only [zAJ]
 refine wpAnyH_ready (rs := [12]) (by kernel_rfl) (by simp) (AllReadyH.cons rfl (fun K hK => ?_) AllReadyH.nil)
 rw [if_pos (by rfl)]
 refine zAt 9 _ _ rfl zAw q 2 (by rfl) (.string a) (by rfl) _ _ (show (W.drew).heap[q]? = _ from HQ.out) (by first | omega | (simp; omega)) rfl rfl ?_
 refine hK.out _ _ (by rw [Below.heap_setCell _ _ _ _ (show x ≠ q from hxq), show ∀ W : World, W.drew.heap = W.heap from fun _ => rfl]; exact HX.out) (fun hHeld => ?_)
 clear hK K
 try simp only [zAJ]
 refine tkE 28 13 (.pointer (some ⟨q, 0, none⟩)) hHeld ?_
 try simp only [zAJ]
 refine tkE 29 14 (.pointer (some ⟨q, 3, none⟩)) hHeld ?_
 try simp only [zAJ]
 refine wpAnyH_ready (rs := [15]) (by kernel_rfl) (by simp) (AllReadyH.cons rfl (fun K hK => ?_) AllReadyH.nil)
 rw [if_pos (by rfl)]
 refine zAt 9 _ _ rfl zAw q 3 (by rfl) (.string b) (by rfl) _ _ (zAU (show (W.drew).heap[q]? = _ from HQ.out) _) (by first | omega | (simp; omega)) rfl rfl ?_
 refine hK.out _ _ (by rw [Below.heap_setCell _ _ _ _ (show x ≠ q from hxq), Below.heap_setCell _ _ _ _ (show x ≠ q from hxq), show ∀ W : World, W.drew.heap = W.heap from fun _ => rfl]; exact HX.out) (fun hHeld => ?_)
 clear hK K
 try simp only [zAJ]
 clear hHeld
 refine wpAnyH_done (by kernel_rfl) ?_ _
 go_wp2_with fail
 go_ret
 exact ⟨rfl, zAU (zAU (show (W.drew).heap[q]? = _ from HQ.out) _) _, ((⟨rfl, rfl, rfl, Nat.le_refl _, fun _ _ _ => rfl⟩ : UpdB (fun k => k = q) W W.drew).setCell (a := ⟨q, 2, none⟩) rfl _).setCell (a := ⟨q, 3, none⟩) rfl _⟩
theorem zEJ (x : Nat) (a : ByteArray) (b : ByteArray) (w : World) (hx : w.heap[x]? = some (.cells #[.string a, .string b] 210 (0, 0))) : UnextQ (fun P => (P.setIfInBounds 2 (.string a)).setIfInBounds 3 (.string b)) 209 x w := by
 intro W q P hW hq hP hxq hqw
 have hxl := zAB hx
 have hx2 := (hW.block x hxl).trans hx
 have ta0 : ∀ (v : Value) (w : World), (Instr.typeAssert (.iface 209 v) 182 207 true).run Tryz.prog w = .ok (.tuple #[.pointer none, .bool false]) w := fun _ _ => by kernel_rfl
 have tc : ∀ (v : Value) (w : World), (Instr.typeAssert (.iface 209 v) 182 209 true).run Tryz.prog w = .ok (.tuple #[v, .bool true]) w := fun _ _ => by kernel_rfl
 have cx0 : W.cell? ⟨x, 0, none⟩ = some (.string a) := by rw [zAA hx2]; rfl
 have cx1 : W.cell? ⟨x, 1, none⟩ = some (.string b) := by rw [zAA hx2]; rfl
 obtain ⟨u2, cq2⟩ := zCZ hq (i := 2) (by omega)
 have fq2 : W.frozen? ⟨q, 2, none⟩ = false := zAP hq 2
 obtain ⟨u3, cq3⟩ := zCZ hq (i := 3) (by omega)
 have fq3 : W.frozen? ⟨q, 3, none⟩ = false := zAP hq 3
 have hqq := zAU (i := 3) (zAU (i := 2) hq (.string a)) (.string b)
 have HX := Lib.hid hx2
 have HQ := Lib.hid hq
 clear hx hx2 hq hW hqw
 go_enter Tryz.func62, Tryz.ntmps62
 go_wp2_with fail
 refine wp_region_held_drew (S := fun w' => w'.heap[x]? = some (.cells #[.string a, .string b] 210 (0, 0))) (by kernel_rfl) HX.out (fun hHeld => ?_)
 refine tkE 33 0 (.pointer (some ⟨q, 0, none⟩)) hHeld ?_
 try simp only [zAJ]
 refine tkE 34 1 (.pointer (some ⟨q, 0, none⟩)) hHeld ?_
 try simp only [zAJ]
 refine tkE 35 2 (.pointer (some ⟨x, 0, none⟩)) hHeld ?_
 try simp only [zAJ]
 refine tkE 36 3 (.pointer (some ⟨x, 0, none⟩)) hHeld ?_
 try simp only [zAJ]
 refine tkE 37 4 (.pointer (some ⟨x, 0, none⟩)) hHeld ?_
 try simp only [zAJ]
 refine tkY 38 5 (.string a) rfl (zAS (by rfl) 9 _ rfl zAl x 0 (by rfl) _ _ (0, 0) _ (fun _ h => h) rfl) hHeld ?_
 try simp only [zAJ]
 refine tkE 39 6 (.pointer (some ⟨x, 0, none⟩)) hHeld ?_
 try simp only [zAJ]
 refine tkE 40 7 (.pointer (some ⟨x, 0, none⟩)) hHeld ?_
 try simp only [zAJ]
 refine tkE 41 8 (.pointer (some ⟨x, 1, none⟩)) hHeld ?_
 try simp only [zAJ]
 refine tkY 42 9 (.string b) rfl (zAS (by rfl) 9 _ rfl zAl x 1 (by rfl) _ _ (0, 0) _ (fun _ h => h) rfl) hHeld ?_
 try simp only [zAJ]
 refine tkE 43 10 (.pointer (some ⟨q, 0, none⟩)) hHeld ?_
 try simp only [zAJ]
 refine tkE 44 11 (.pointer (some ⟨q, 2, none⟩)) hHeld ?_
 try simp only [zAJ]
 refine wpAnyH_ready (rs := [12]) (by kernel_rfl) (by simp) (AllReadyH.cons rfl (fun K hK => ?_) AllReadyH.nil)
 rw [if_pos (by rfl)]
 refine zAt 9 _ _ rfl zAw q 2 (by rfl) (.string a) (by rfl) _ _ (show (W.drew).heap[q]? = _ from HQ.out) (by first | omega | (simp; omega)) rfl rfl ?_
 refine hK.out _ _ (by rw [Below.heap_setCell _ _ _ _ (show x ≠ q from hxq), show ∀ W : World, W.drew.heap = W.heap from fun _ => rfl]; exact HX.out) (fun hHeld => ?_)
 clear hK K
 try simp only [zAJ]
 refine tkE 45 13 (.pointer (some ⟨q, 0, none⟩)) hHeld ?_
 try simp only [zAJ]
 refine tkE 46 14 (.pointer (some ⟨q, 3, none⟩)) hHeld ?_
 try simp only [zAJ]
 refine wpAnyH_ready (rs := [15]) (by kernel_rfl) (by simp) (AllReadyH.cons rfl (fun K hK => ?_) AllReadyH.nil)
 rw [if_pos (by rfl)]
 refine zAt 9 _ _ rfl zAw q 3 (by rfl) (.string b) (by rfl) _ _ (zAU (show (W.drew).heap[q]? = _ from HQ.out) _) (by first | omega | (simp; omega)) rfl rfl ?_
 refine hK.out _ _ (by rw [Below.heap_setCell _ _ _ _ (show x ≠ q from hxq), Below.heap_setCell _ _ _ _ (show x ≠ q from hxq), show ∀ W : World, W.drew.heap = W.heap from fun _ => rfl]; exact HX.out) (fun hHeld => ?_)
 clear hK K
 try simp only [zAJ]
 clear hHeld
 refine wpAnyH_done (by kernel_rfl) ?_ _
 go_wp2_with fail
 go_ret
 exact ⟨rfl, zAU (zAU (show (W.drew).heap[q]? = _ from HQ.out) _) _, ((⟨rfl, rfl, rfl, Nat.le_refl _, fun _ _ _ => rfl⟩ : UpdB (fun k => k = q) W W.drew).setCell (a := ⟨q, 2, none⟩) rfl _).setCell (a := ⟨q, 3, none⟩) rfl _⟩
theorem zGa (x : Nat) (a : ByteArray) (w : World) (hx : w.heap[x]? = some (.cells #[.string a] 212 (0, 0))) : UnextQ (fun P => P.setIfInBounds 2 (.string a)) 211 x w := by
 intro W q P hW hq hP hxq hqw
 have hxl := zAB hx
 have hx2 := (hW.block x hxl).trans hx
 have ta0 : ∀ (v : Value) (w : World), (Instr.typeAssert (.iface 211 v) 182 207 true).run Tryz.prog w = .ok (.tuple #[.pointer none, .bool false]) w := fun _ _ => by kernel_rfl
 have ta1 : ∀ (v : Value) (w : World), (Instr.typeAssert (.iface 211 v) 182 209 true).run Tryz.prog w = .ok (.tuple #[.pointer none, .bool false]) w := fun _ _ => by kernel_rfl
 have tc : ∀ (v : Value) (w : World), (Instr.typeAssert (.iface 211 v) 182 211 true).run Tryz.prog w = .ok (.tuple #[v, .bool true]) w := fun _ _ => by kernel_rfl
 have cx0 : W.cell? ⟨x, 0, none⟩ = some (.string a) := by rw [zAA hx2]; rfl
 obtain ⟨u2, cq2⟩ := zCZ hq (i := 2) (by omega)
 have fq2 : W.frozen? ⟨q, 2, none⟩ = false := zAP hq 2
 have hqq := zAU (i := 2) hq (.string a)
 have hu : UpdB (fun k => k = q) W (W.setCell ⟨q, 2, none⟩ (.string a)) := (UpdB.refl (fun k => k = q) W).setCell (a := ⟨q, 2, none⟩) rfl _
 have F := Lib.hid (And.intro hqq hu)
 clear hx hx2 hq hW hqq hu hqw
 go_enter Tryz.func62, Tryz.ntmps62
 go_wp2_with fail
 go_ret
 exact ⟨rfl, F.out⟩
theorem zF0 (x : Nat) (a : ByteArray) (w : World) (hx : w.heap[x]? = some (.cells #[.string a] 214 (0, 0))) : UnextQ (fun P => P.setIfInBounds 4 (.string a)) 213 x w := by
 intro W q P hW hq hP hxq hqw
 have hxl := zAB hx
 have hx2 := (hW.block x hxl).trans hx
 have ta0 : ∀ (v : Value) (w : World), (Instr.typeAssert (.iface 213 v) 182 207 true).run Tryz.prog w = .ok (.tuple #[.pointer none, .bool false]) w := fun _ _ => by kernel_rfl
 have ta1 : ∀ (v : Value) (w : World), (Instr.typeAssert (.iface 213 v) 182 209 true).run Tryz.prog w = .ok (.tuple #[.pointer none, .bool false]) w := fun _ _ => by kernel_rfl
 have ta2 : ∀ (v : Value) (w : World), (Instr.typeAssert (.iface 213 v) 182 211 true).run Tryz.prog w = .ok (.tuple #[.pointer none, .bool false]) w := fun _ _ => by kernel_rfl
 have tc : ∀ (v : Value) (w : World), (Instr.typeAssert (.iface 213 v) 182 213 true).run Tryz.prog w = .ok (.tuple #[v, .bool true]) w := fun _ _ => by kernel_rfl
 have cx0 : W.cell? ⟨x, 0, none⟩ = some (.string a) := by rw [zAA hx2]; rfl
 obtain ⟨u4, cq4⟩ := zCZ hq (i := 4) (by omega)
 have fq4 : W.frozen? ⟨q, 4, none⟩ = false := zAP hq 4
 have hqq := zAU (i := 4) hq (.string a)
 have hu : UpdB (fun k => k = q) W (W.setCell ⟨q, 4, none⟩ (.string a)) := (UpdB.refl (fun k => k = q) W).setCell (a := ⟨q, 4, none⟩) rfl _
 have F := Lib.hid (And.intro hqq hu)
 clear hx hx2 hq hW hqq hu hqw
 go_enter Tryz.func62, Tryz.ntmps62
 go_wp2_with fail
 go_ret
 exact ⟨rfl, F.out⟩
theorem zIh (x : Nat) (a : ByteArray) (w : World) (hx : w.heap[x]? = some (.cells #[.string a] 216 (0, 0))) : UnextQ (fun P => P.setIfInBounds 4 (.string a)) 215 x w := by
 intro W q P hW hq hP hxq hqw
 have hxl := zAB hx
 have hx2 := (hW.block x hxl).trans hx
 have ta0 : ∀ (v : Value) (w : World), (Instr.typeAssert (.iface 215 v) 182 207 true).run Tryz.prog w = .ok (.tuple #[.pointer none, .bool false]) w := fun _ _ => by kernel_rfl
 have ta1 : ∀ (v : Value) (w : World), (Instr.typeAssert (.iface 215 v) 182 209 true).run Tryz.prog w = .ok (.tuple #[.pointer none, .bool false]) w := fun _ _ => by kernel_rfl
 have ta2 : ∀ (v : Value) (w : World), (Instr.typeAssert (.iface 215 v) 182 211 true).run Tryz.prog w = .ok (.tuple #[.pointer none, .bool false]) w := fun _ _ => by kernel_rfl
 have ta3 : ∀ (v : Value) (w : World), (Instr.typeAssert (.iface 215 v) 182 213 true).run Tryz.prog w = .ok (.tuple #[.pointer none, .bool false]) w := fun _ _ => by kernel_rfl
 have tc : ∀ (v : Value) (w : World), (Instr.typeAssert (.iface 215 v) 182 215 true).run Tryz.prog w = .ok (.tuple #[v, .bool true]) w := fun _ _ => by kernel_rfl
 have cx0 : W.cell? ⟨x, 0, none⟩ = some (.string a) := by rw [zAA hx2]; rfl
 obtain ⟨u4, cq4⟩ := zCZ hq (i := 4) (by omega)
 have fq4 : W.frozen? ⟨q, 4, none⟩ = false := zAP hq 4
 have hqq := zAU (i := 4) hq (.string a)
 have hu : UpdB (fun k => k = q) W (W.setCell ⟨q, 4, none⟩ (.string a)) := (UpdB.refl (fun k => k = q) W).setCell (a := ⟨q, 4, none⟩) rfl _
 have F := Lib.hid (And.intro hqq hu)
 clear hx hx2 hq hW hqq hu hqw
 go_enter Tryz.func62, Tryz.ntmps62
 go_wp2_with fail
 go_ret
 exact ⟨rfl, F.out⟩
theorem zF1 (_x : Int) : (Tryz.prog.info? 177).map (·.size) = some 10 := by kernel_rfl
theorem zF2 (q g o s : Nat) (a : ByteArray) (b : ByteArray) (a9 : Ats) (r : List UInt8) (w : World) (hq : w.heap[q]? = some (.cells (zAj [.string ⟨#[]⟩, .string ⟨#[]⟩] 0 0 0 0 0 0 0 (.slice none 0 0) []) 177 (0, 0))) (hqg : q ≠ g) (hqs : q ≠ s) (hB : RBuf w g o s (some (str (tl a) ++ (str (tl b) ++ ((zB0 a9 ++ r)))))) (ha : a.size ≤ 1000000) (hb : b.size ≤ 1000000) (ha9 : zEZ a9) :
  Calls Tryz.prog 188 #[.pointer (some ⟨q, 0, none⟩), .pointer (some ⟨g, o, none⟩)] w fun e w' => ∃ v, e = .returned .nilIface ∧ zDE w' w.heap.size v (a9.f7.map zAY) ∧ w'.heap[q]? = some (.cells (zAj [.string a, .string b] a9.f0 a9.f1 a9.f2 a9.f3 a9.f4 a9.f5 a9.f6 v []) 177 (0, 0)) ∧ UpdG g o q w w' ∧ RBuf w' g o s (some r) := by
 have C0 := Lib.hid (zBK (w0 := w) ⟨hB, hq, UpdG.refl _ _ _ _⟩ hqg (by omega))
 clear hB hq
 go_enter Tryz.func188, Tryz.ntmps188
 go_wp2_with fail
 refine C0.out.mono ?_
 rintro e w1 ⟨rfl, h⟩
 have C1 := Lib.hid (zBK h hqg (by omega))
 clear h C0
 go_wp2_with fail
 refine C1.out.mono ?_
 rintro e w2 ⟨rfl, h⟩
 clear C1
 have zw : w.heap.size ≤ w2.heap.size := h.upd.size
 have h9 := h.setRow hqg hqs (zAj [.string a, .string b] 0 0 0 0 0 0 0 (.slice none 0 0) [])
 generalize hW : w2.setRow q (zAj [.string a, .string b] 0 0 0 0 0 0 0 (.slice none 0 0) []) = W at h9
 have zW : w.heap.size ≤ W.heap.size := by rw [← hW, setRow_size]; exact zw
 have D := Lib.hid (zDP (pre := [.string a, .string b]) (post := []) ha9 h9 hqg hqs)
 have K := Lib.hid h.blk
 have X := Lib.hid hW
 have Z := Lib.hid zW
 clear h h9 hW zw zW
 go_wp2_with (first
  | refine wpList_buildTo rfl 177 _ rfl (some 10) rfl (zAj [.string a, .string b] 0 0 0 0 0 0 0 (.slice none 0 0) []) (by as_aux_lemma => kernel_rfl) ?_
  | (refine wpList_store_row rfl 177 _ _ rfl q (zAj [.string a, .string b] 0 0 0 0 0 0 0 (.slice none 0 0) []) rfl rfl 177 (zAj [.string ⟨#[]⟩, .string ⟨#[]⟩] 0 0 0 0 0 0 0 (.slice none 0 0) []) K.out (zF1 0) rfl (by kernel_rfl) ?_; rw [X.out]))
 refine D.out.mono ?_
 rintro e w9 ⟨v, rfl, hv, h9⟩
 have F := Lib.hid (show zDE w9 w.heap.size v (a9.f7.map zAY) from by
  rcases hv with hv | ⟨x, e1, e2, e3, e4⟩
  ·exact .inl hv
  ·exact .inr ⟨x, e1, by have := Z.out; omega, e3, e4⟩)
 have H9 := Lib.hid h9
 clear hv h9
 go_wp2_with fail
 go_ret
 exact ⟨v, rfl, F.out, H9.out.blk, H9.out.upd, H9.out.rb⟩
def NmR (w : World) (q : Nat) (e : Nm) : Prop :=
 ∃ A c, w.heap[q]? = some (.cells (zAj [.string e.f0, .string e.f1] e.f2.f0 e.f2.f1 e.f2.f2 e.f2.f3 e.f2.f4 e.f2.f5 e.f2.f6 (.slice A e.f2.f7.length c) []) 177 (0, 0)) ∧ e.f2.f7.length ≤ c ∧ Kd.C k206 w A e.f2.f7.length (e.f2.f7.map zAY)
theorem NmR.below {w w' : World} {q : Nat} {e : Nm} (h : NmR w q e) (hb : Below w.heap.size w w') : NmR w' q e := by
 obtain ⟨A, c, h1, h2, h3⟩ := h
 exact ⟨A, c, (hb.block q (zAB h1)).trans h1, h2, Kd.C_below h3 hb⟩
theorem PRows.lower {α : Type} {C : World → Nat → α → Prop} {X : Nat → Prop} {base base' : Nat} {E : TypeId} {w : World} {v : Value} {l : List α} (h : PRows C X base E w v l) (hb : base' ≤ base) : PRows C X base' E w v l := by
 obtain ⟨ps, hown, hk⟩ := h.ex
 exact ⟨⟨ps, zDZ hown hb, hk⟩, h.nx, h.xlt⟩
def NX (g q : Nat) (k : Nat) : Prop := k = g ∨ k = q
theorem zKP (w : World) (g q n : Nat) (hn : n ≤ 100000) (hg : g < w.heap.size) (hq : q < w.heap.size) : PRows NmR (NX g q) w.heap.size 175 (w.alloc (.cells (madeCells #[.pointer none] n) 175)) (.slice (some ⟨w.heap.size, 0, none⟩) 0 n) [] :=
 ⟨⟨[], ⟨rfl, .inr ⟨w.heap.size, n, madeCells #[.pointer none] n, rfl, Nat.le_refl _, heap_alloc_new _ _, Nat.zero_le _, by simp only [maxLen]; omega, by simp [size_madeCells], by simp⟩⟩, fun i q e h => by simp at h⟩,
  fun k hk => by simp only [Value.ownBlock, Option.some.injEq] at hk; unfold NX; omega, fun k hk => by simp; unfold NX at hk; omega⟩
theorem zOa (n : Nat) (hn : n ≤ 100000) (w : World) : (Instr.makeSlice 172 (.int .i64 0) (.int .i64 (n : Int))).run Tryz.prog w = .ok (.slice (some ⟨w.heap.size, 0, none⟩) 0 n) (w.alloc (.cells (madeCells #[.pointer none] n) 175)) := by
 obtain ⟨i, hi, hzz⟩ := Option.map_eq_some_iff.1 zFt
 simp only [Prod.mk.injEq] at hzz
 obtain ⟨hz, hs, hb⟩ := hzz
 have hr := run_make (P := Tryz.prog) w 172 175 i (.pointer none) Tryz.underlying172 hi hz .i64 .i64 0 n (by omega) (by omega) (by rw [hb]; omega) (by omega)
 simp only [Int.toNat_natCast, hs, Nat.mul_one, Int.toNat_zero] at hr
 exact hr
theorem zNo {g q B x : Nat} {w : World} {v u : Value} {e : Nm} (hx : w.heap[x]? = some (.cells (zAj [.string e.f0, .string e.f1] e.f2.f0 e.f2.f1 e.f2.f2 e.f2.f3 e.f2.f4 e.f2.f5 e.f2.f6 u []) 177 (0, 0))) (hu : zDE w B u (e.f2.f7.map zAY)) (h8 : e.f2.f7.length ≤ 1000)
  (hxB : x < B) (hxg : x ≠ g) (hxq : x ≠ q) (hgB : g < B) (hqB : q < B) (hv : ∀ k, v.ownBlock = some k → k < x) : KAt NmR (NX g q) w v x e := by
 refine ⟨fun k => k = x ∨ (u.ownBlock = some k), fun k hk => ?_, fun w' hw => ?_⟩
 ·rcases hk with rfl | hk
  ·exact ⟨zAB hx, fun h => by have := hv _ h; omega, by unfold NX; omega⟩
  ·rcases hu with ⟨rfl, _⟩ | ⟨h, rfl, h1, h2, _⟩
   ·simp [Value.ownBlock] at hk
   ·simp only [Value.ownBlock, Option.some.injEq] at hk
    subst hk
    exact ⟨h2, fun hh => by have := hv _ hh; omega, by unfold NX; omega⟩
 ·have hx' := (hw x (.inl rfl)).trans hx
  have hu' : zDE w' B u (e.f2.f7.map zAY) := by
   rcases hu with hu | ⟨h, rfl, h1, h2, h3⟩
   ·exact .inl hu
   ·have h3' := (hw h (.inr rfl)).trans h3
    exact .inr ⟨h, rfl, h1, zAB h3', h3'⟩
  obtain ⟨A, c, rfl, hc, hC⟩ := zEE hu' (by rw [List.length_map]; omega)
  rw [List.length_map] at hx' hc hC
  exact ⟨A, c, hx', hc, hC⟩
theorem zKQ (e : Nm) (l : List Nm) (r : List UInt8) : zBR ((e :: l).map zBM) ++ r = str (tl e.f0) ++ (str (tl e.f1) ++ (zB0 e.f2 ++ (zBR (l.map zBM) ++ r))) := by
 simp only [List.map_cons, zBR, neB, zBM, zB0, List.append_assoc]
def zNE : Array Value := zAj [.string ⟨#[]⟩, .string ⟨#[]⟩] 0 0 0 0 0 0 0 (.slice none 0 0) []
theorem zLk (q g o s : Nat) (l : List Nm) (r : List UInt8) (w : World) (hq : w.heap[q]? = some (.cells #[.slice none 0 0] 174 (0, 0))) (hqg : q ≠ g) (hqs : q ≠ s) (hB : RBuf w g o s (some (zAQ ((l.length : Nat) : Int) ++ (zBR (l.map zBM) ++ r)))) (hl : l.length ≤ 100000)
  (hok : ∀ e ∈ l, zEZ e.f2 ∧ e.f0.size ≤ 1000000 ∧ e.f1.size ≤ 1000000) :
  Calls Tryz.prog 185 #[.pointer (some ⟨q, 0, none⟩), .pointer (some ⟨g, o, none⟩)] w fun e w' => ∃ v, e = .returned .nilIface ∧ PRows NmR (NX g q) w.heap.size 175 w' v l ∧ w'.heap[q]? = some (.cells #[v] 174 (0, 0)) ∧ UpdG g o q w w' := by
 have hql := zAB hq
 have hlt := hB.lt
 have C0 := Lib.hid (zMh (w0 := w) ⟨hB, hq, UpdG.refl _ _ _ _⟩ hqg (by omega))
 clear hB hq
 go_enter Tryz.func185, Tryz.ntmps185
 go_wp2_with fail
 refine C0.out.mono ?_
 rintro e w1 ⟨rfl, h⟩
 have z1 := h.upd.size
 have cn := h.nilErr
 have c0 : w1.cell? ⟨q, 0, none⟩ = some (.slice none 0 0) := by rw [h.cell]; rfl
 have f0 := h.frz 0
 have mk := zOa l.length hl
 have hp := (zKP w1 g q l.length hl (by omega) (by omega))
 have h2 := h.alloc (.cells (madeCells #[.pointer none] l.length) 175)
 have h3 := h2.set hqg hqs 0 (.slice (some ⟨w1.heap.size, 0, none⟩) 0 l.length)
 have hp3 := hp.setCell (g := q) (i := 0) (.inr rfl) (.slice (some ⟨w1.heap.size, 0, none⟩) 0 l.length)
 have hp4 : PRows NmR (NX g q) w.heap.size 175 _ (.slice (some ⟨w1.heap.size, 0, none⟩) 0 l.length) [] := PRows.lower hp3 z1
 have c1 : (w1.alloc (.cells (madeCells #[.pointer none] l.length) 175)).cell? ⟨q, 0, none⟩ = some (.slice none 0 0) := by rw [h2.cell]; rfl
 have f1 := h2.frz 0
 obtain ⟨W2, hW2⟩ : ∃ W, w1.alloc (.cells (madeCells #[.pointer none] l.length) 175) = W := ⟨_, rfl⟩
 rw [hW2] at h3 hp4 c1 f1
 obtain ⟨W3, hW3⟩ : ∃ W, W2.setCell ⟨q, 0, none⟩ (.slice (some ⟨w1.heap.size, 0, none⟩) 0 l.length) = W := ⟨_, rfl⟩
 rw [hW3] at h3 hp4
 have H3 := Lib.hid h3
 have P4 := Lib.hid hp4
 have X2 := Lib.hid hW2
 have X3 := Lib.hid hW3
 have MK := Lib.hid mk
 have OK := Lib.hid hok
 clear h h2 h3 hp hp3 hp4 hW2 hW3 C0 hok
 generalize hn : l.length = n at *
 have HN := Lib.hid hn
 clear hn
 go_wp2_with (refine zAx 23 rfl ?_; rw [X2.out])
 rw [X3.out]
 clear c0 f0 c1 f1 cn X2 X3 MK
 go_loopw [6] (fun i wr => ∃ (k : Nat) (v : Value), k ≤ n ∧ i = .int .i64 (k : Int) ∧ Hid (RSt w wr g o s q 174 (some (zBR ((l.drop k).map zBM) ++ r)) #[v]) ∧ Hid (PRows NmR (NX g q) w.heap.size 175 wr v (l.take k))) (fun i _ => n - (intOf i).toNat)
 case atStart => exact ⟨0, _, Nat.zero_le _, rfl, by rw [List.drop_zero]; exact H3, by rw [List.take_zero]; exact P4⟩
 case round =>
  obtain ⟨k, v, hk, rfl, HR, HP⟩ := hrel
  by_cases hlt2 : k < n
  ·have hkl : k < l.length := by have := HN.out; omega
   have HT := Lib.hid (show l.take (k + 1) = l.take k ++ [l[k]] from List.take_succ_eq_append_getElem hkl)
   have hd : l.drop k = l[k] :: l.drop (k + 1) := List.drop_eq_getElem_cons hkl
   have hR := HR.out
   rw [hd, zKQ] at hR
   have hle : (l.take k).length ≤ 100000 := by rw [List.length_take]; omega
   have he := OK.out l[k] (List.getElem_mem hkl)
   have hz := hR.upd.size
   have hltr := hR.rb.lt
   have hqr := zAB hR.blk
   generalize l[k] = e0 at *
   generalize l.take k = L0 at *
   have hA := hR.alloc (.cells zNE 177)
   have hx := heap_alloc_new wr (.cells zNE 177 (0, 0))
   have FE := Lib.hid (zF2 wr.heap.size g o s e0.f0 e0.f1 e0.f2 _ (wr.alloc (.cells zNE 177)) hx (by omega) (by omega) hA.rb he.2.1 he.2.2 he.1)
   obtain ⟨W5, hW5⟩ : ∃ W, wr.alloc (.cells zNE 177) = W := ⟨_, rfl⟩
   have hs5 : W5.heap.size = wr.heap.size + 1 := by rw [← hW5]; simp
   rw [hW5] at hA hx FE
   have HA := Lib.hid hA
   have X5 := Lib.hid hW5
   have E8 := Lib.hid he.1.few
   have S5 := Lib.hid hs5
   clear hR hd hA hx hW5 he hkl hs5 HR
   go_wp2_with (refine wpList_allocTo rfl (some 7) rfl (.pointer (some ⟨wr.heap.size, 0, none⟩)) (.cells zNE 177) (by as_aux_lemma => kernel_rfl) ?_; rw [X5.out])
   refine FE.out.mono ?_
   rintro e w6 ⟨u, rfl, hu, hx6, hu6, hb6⟩
   have hs5 := S5.out
   have z6 := hu6.size
   have h6 : RSt w w6 g o s q 174 (some (zBR ((l.drop (k + 1)).map zBM) ++ r)) #[v] :=
    ⟨hb6, (hu6.block q (by omega) (by omega)).trans HA.out.blk, ⟨⟨hu6.os.trans HA.out.upd.os, hu6.tape.trans HA.out.upd.tape, hu6.output.trans HA.out.upd.output, Nat.le_trans HA.out.upd.size hu6.size, fun j hj e => (hu6.block j (by omega) (by omega)).trans (HA.out.upd.block j hj e)⟩, fun i hi => (hu6.low i hi).trans (HA.out.upd.low i hi)⟩⟩
   have o6 : ∀ j, j < wr.heap.size → ¬ NX g q j → w6.heap[j]? = wr.heap[j]? := fun j hj hn => (hu6.block j (by omega) (by unfold NX at hn; omega)).trans (by rw [← X5.out]; exact heap_alloc_old _ _ hj)
   have hp6 : PRows NmR (NX g q) w.heap.size 175 w6 v L0 := HP.out.kept (by omega) o6
   have hvl : ∀ j, v.ownBlock = some j → w.heap.size ≤ j ∧ j < wr.heap.size := fun j hj => HP.out.low hj
   have hb7 := (Below.refl w6.heap.size w6).alloc (Nat.le_refl _) (.cells #[.pointer (some ⟨wr.heap.size, 0, none⟩)] 175)
   have hx7 := (hb7.block wr.heap.size (by omega)).trans hx6
   have hu7 : zDE (w6.alloc (.cells #[.pointer (some ⟨wr.heap.size, 0, none⟩)] 175)) W5.heap.size u (e0.f2.f7.map zAY) := by
    rcases hu with hu | ⟨h, e1, e2, e3, e4⟩
    ·exact .inl hu
    ·exact .inr ⟨h, e1, e2, by have := hb7.size; omega, (hb7.block h e3).trans e4⟩
   have hp7 := hp6.alloc (.cells #[.pointer (some ⟨wr.heap.size, 0, none⟩)] 175)
   have hk7 := zNo (g := g) (q := q) (v := v) hx7 hu7 (by have := E8.out; omega) (by omega) (by omega) (by omega) (by omega) (by omega) (fun j hj => (hvl j hj).2)
   have hpt : (w6.alloc (.cells #[.pointer (some ⟨wr.heap.size, 0, none⟩)] 175)).heap[w6.heap.size]? = some (.cells #[.pointer (some ⟨wr.heap.size, 0, none⟩)] 175 (0, 0)) := heap_alloc_new _ _
   have zw6 : w.heap.size ≤ (w6.alloc (.cells #[.pointer (some ⟨wr.heap.size, 0, none⟩)] 175)).heap.size := by have := hb7.size; omega
   have c6 : w6.cell? ⟨q, 0, none⟩ = some v := by rw [h6.cell]; rfl
   have h7 := h6.alloc (.cells #[.pointer (some ⟨wr.heap.size, 0, none⟩)] 175)
   have P7 := Lib.hid hp7
   have K7 := Lib.hid hk7
   have T7 := Lib.hid hpt
   have H7 := Lib.hid h7
   have V7 := Lib.hid hvl
   have Z6 := Lib.hid zw6
   clear hu hx6 hu6 hb6 h6 o6 hp6 hvl hb7 hx7 hu7 hp7 hk7 hpt h7 zw6 FE HA X5 HP hs5 z6
   go_wp2_with (at_builtin; refine zB5 rfl _ _ _ rfl Tryz.underlying172 zFt _ rfl _ _ rfl P7.out e0 wr.heap.size (by rw [add_plain, zAA T7.out]; rfl) K7.out (by omega) Z6.out ?_)
   intro v' w' hp hg hat
   have hR7 := H7.out
   have hl7 := hR7.rb.lt
   have gne : some g ≠ v.ownBlock := fun e => P7.out.nx g e.symm (.inl rfl)
   have qne : some q ≠ v.ownBlock := fun e => P7.out.nx q e.symm (.inr rfl)
   have sne : some s ≠ v.ownBlock := fun e => by have := (V7.out s e.symm).1; omega
   have hR8 : RSt w w' g o s q 174 (some (zBR ((l.drop (k + 1)).map zBM) ++ r)) #[v] :=
    ⟨hR7.rb.kept (hg.block g hl7.1 gne) (hg.block s hl7.2 sne) hg.size, (hg.block q (zAB hR7.blk) qne).trans hR7.blk,
     ⟨⟨hg.os.trans hR7.upd.os, hg.tape.trans hR7.upd.tape, hg.output.trans hR7.upd.output, Nat.le_trans hR7.upd.size hg.size, fun j hj hn => (hg.block j (by have := hR7.upd.size; omega) (fun e => by have := (V7.out j e.symm).1; omega)).trans (hR7.upd.block j hj hn)⟩, fun i hi => (cell_kept (hg.block g hl7.1 gne)).trans (hR7.upd.low i hi)⟩⟩
   obtain ⟨A', c', hv', _, _⟩ := hp.shown
   rw [show (L0 ++ [e0]).length = L0.length + 1 by simp] at hv'
   subst hv'
   have cq : w'.cell? ⟨q, 0, none⟩ = some v := by rw [hR8.cell]; rfl
   have fq := hR8.frz 0
   have hR9 : RSt w (w'.setCell ⟨q, 0, none⟩ (.slice A' (L0.length + 1) c')) g o s q 174 (some (zBR ((l.drop (k + 1)).map zBM) ++ r)) #[.slice A' (L0.length + 1) c'] := hR8.set hqg hqs 0 _
   have hp9 := hp.setCell (g := q) (i := 0) (.inr rfl) (.slice A' (L0.length + 1) c')
   have R9 := Lib.hid hR9
   rw [← HT.out] at hp9
   have P9 := Lib.hid hp9
   clear hR7 hl7 gne qne sne hR8 hR9 hp9 hp hg hat P7 K7 T7 H7 V7 Z6
   go_wp2_with fail
   go_roundw
   case rel => exact ⟨k + 1, _, by omega, by go_num, R9, P9⟩
   case measure => simp [intOf]; omega
  ·obtain rfl : k = n := by omega
   have hfull : l.take k = l := List.take_of_length_le (by have := HN.out; omega)
   rw [hfull] at HP
   have cn := HR.out.nilErr
   clear hfull hk hlt2
   go_wp2_with fail
   go_ret
   exact ⟨v, rfl, HP.out, HR.out.blk, HR.out.upd⟩
theorem RSt.past {w0 w w' : World} {g o s q : Nat} {t : TypeId} {r : Option (List UInt8)} {cs : Array Value} (h : RSt w0 w g o s q t r cs) (hb : Below w.heap.size w w') : RSt w0 w' g o s q t r cs :=
 ⟨h.rb.kept (hb.block g h.rb.lt.1) (hb.block s h.rb.lt.2) hb.size, (hb.block q (zAB h.blk)).trans h.blk, h.upd.keep ⟨hb.os, hb.tape, hb.output, hb.size, fun k hk _ => hb.block k hk⟩ (hb.block g h.rb.lt.1)⟩
theorem zOb {w : World} {g s : Nat} {l : List UInt8} (h : RBuf w g 0 s (some l)) : Calls Tryz.prog 69 #[.pointer (some ⟨g, 0, none⟩)] w fun e w' => e = .returned (.int .i64 (l.length : Int)) ∧ ∃ k, w' = w.drewN k := by
 obtain ⟨p, n, c, off, h0, h1, h2, h3, h4, h5, h6, h7, h8⟩ := h.ex
 refine (zGC g 0 s p n c off w h0 h1 h3 h5).mono ?_
 rintro e w' ⟨rfl, hk⟩
 exact ⟨by rw [show (n : Int) - (off : Int) = (l.length : Int) from by omega], hk⟩
def zFv (w : World) (g : Nat) : Nat :=
 match w.cell? ⟨g, 0, none⟩, w.cell? ⟨g, 1, none⟩ with
 | some (.slice _ n _), some (.int _ x) => n - x.toNat
 | _, _ => 0
theorem RBuf.left {w : World} {g s : Nat} {l : List UInt8} (h : RBuf w g 0 s (some l)) : zFv w g = l.length := by
 obtain ⟨p, n, c, off, h0, h1, h2, h3, h4, h5, h6, h7, h8⟩ := h.ex
 rw [Nat.zero_add] at h1
 unfold zFv
 rw [h0, h1]
 simp only [Int.toNat_natCast]
 omega
theorem zDs (l : List S52) (k : Nat) (hk : k < l.length) : exB ((l.drop k).map zAY) = str (tl l[k].f0) ++ (str (tl l[k].f1) ++ exB ((l.drop (k + 1)).map zAY)) := by
 rw [List.drop_eq_getElem_cons hk]
 simp only [List.map_cons, exB, zAY, List.append_assoc]
theorem zFw (q g o s : Nat) (a : ByteArray) (b : ByteArray) (r : List UInt8) (w : World) (hq : w.heap[q]? = some (.cells #[.string ⟨#[]⟩, .string ⟨#[]⟩] 104 (0, 0))) (hqg : q ≠ g) (hqs : q ≠ s) (hB : RBuf w g o s (some (str (tl a) ++ (str (tl b) ++ r)))) (ha : a.size ≤ 1000000) (hb : b.size ≤ 1000000) :
  Calls Tryz.prog 70 #[.pointer (some ⟨q, 0, none⟩), .pointer (some ⟨g, o, none⟩)] w fun e w' => e = .returned .nilIface ∧ w'.heap[q]? = some (.cells #[.string a, .string b] 104 (0, 0)) ∧ UpdG g o q w w' ∧ RBuf w' g o s (some r) := by
 have C0 := Lib.hid (zBK (w0 := w) ⟨hB, hq, UpdG.refl _ _ _ _⟩ hqg (by omega))
 clear hB hq
 go_enter Tryz.func70, Tryz.ntmps70
 go_wp2_with fail
 refine C0.out.mono ?_
 rintro e w1 ⟨rfl, h⟩
 have C1 := Lib.hid (zBK h hqg (by omega))
 clear h C0
 go_wp2_with fail
 refine C1.out.mono ?_
 rintro e w2 ⟨rfl, h⟩
 clear C1
 have c0 : w2.cell? ⟨q, 0, none⟩ = some (.string ⟨#[]⟩) := by rw [h.cell]; rfl
 have f0 := h.frz 0
 have c1 : w2.cell? ⟨q, 1, none⟩ = some (.string ⟨#[]⟩) := by rw [h.cell]; rfl
 have f1 := h.frz 1
 have h9 : RSt w ((w2.setCell ⟨q, 0, none⟩ (.string a)).setCell ⟨q, 1, none⟩ (.string b)) g o s q 104 (some r) #[.string a, .string b] := ((h.set hqg hqs 0 (.string a)).set hqg hqs 1 (.string b))
 have cn := h9.nilErr
 have H9 := Lib.hid h9
 clear h h9
 generalize hW : (w2.setCell ⟨q, 0, none⟩ (.string a)).setCell ⟨q, 1, none⟩ (.string b) = W at *
 have X := Lib.hid hW
 clear hW
 have hW := X.out
 go_wp2_with fail
 go_ret
 exact ⟨rfl, H9.out.blk, H9.out.upd, H9.out.rb⟩
theorem zNA {g q : Nat} {w : World} {v : Value} {x : Nat} {e : S52} (hx : w.heap[x]? = some (.cells #[.string e.f0, .string e.f1] 104 (0, 0))) (hxg : x ≠ g) (hxq : x ≠ q) (hv : ∀ k, v.ownBlock = some k → k < x) : KAt zBi (NX g q) w v x e :=
 ⟨fun k => k = x, fun k hk => ⟨by rw [hk]; exact zAB hx, fun h => by have := hv _ h; omega, by unfold NX; omega⟩, fun w' h' => by unfold zBi; rw [h' x rfl]; exact hx⟩
theorem zMj (q s o c : Nat) (x : Int) (l : List S52) (L : List UInt8) (hL : L = zAQ x ++ exB (l.map zAY)) (w : World) (hq : w.heap[q]? = some (.cells #[.int .u32 0, .slice none 0 0] 64 (0, 0))) (hqs : q ≠ s) (hl : Lies w s o L) (hs : s < w.heap.size) (hc : L.length ≤ c) (hL1 : L.length ≤ 100000000)
  (x0 : 0 ≤ x) (x1 : x ≤ 4294967295) (hn : l.length ≤ 1000) (hok : ∀ e ∈ l, e.f0.size ≤ 1000000 ∧ e.f1.size ≤ 1000000) :
  Calls Tryz.prog 55 #[.pointer (some ⟨q, 0, none⟩), .slice (some ⟨s, o, none⟩) L.length c] w fun e w' => ∃ v, e = .returned .nilIface ∧ PRows zBi (NX w.heap.size q) w.heap.size 103 w' v l ∧ w'.heap[q]? = some (.cells #[.int .u32 x, v] 64 (0, 0)) ∧ UpdB (fun k => k = q) w w' := by
 have hql := zAB hq
 have hbel := (Below.refl w.heap.size w).alloc (Nat.le_refl _) (.cells #[.slice (some ⟨s, o, none⟩) L.length c, .int .i64 0, .nilIface] 83)
 have hB0 := RBuf.newAt hl hs hc (by omega)
 have hq2 := (hbel.block q hql).trans hq
 obtain ⟨W1, hW1⟩ : ∃ W, w.alloc (.cells #[.slice (some ⟨s, o, none⟩) L.length c, .int .i64 0, .nilIface] 83) = W := ⟨_, rfl⟩
 rw [hW1] at hbel hB0 hq2
 have z1 : W1.heap.size = w.heap.size + 1 := by rw [← hW1]; simp
 rw [hL] at hB0
 have hqg : q ≠ w.heap.size := by omega
 have C := Lib.hid (zLf (w0 := W1) ⟨hB0, hq2, UpdG.refl _ _ _ _⟩ hqg x0 x1)
 have B := Lib.hid hbel
 have X1 := Lib.hid hW1
 have OK := Lib.hid hok
 have Z1 := Lib.hid z1
 clear hB0 hq2 hbel hl hq hL hW1 hok z1
 generalize L.length = len at *
 go_enter Tryz.func55, Tryz.ntmps55
 go_wp2_with fail
 refine (zAZ _ _ _ _).mono ?_
 rintro e w2 ⟨rfl, hw2⟩
 rw [X1.out] at hw2
 subst hw2
 go_wp2_with fail
 refine C.out.mono ?_
 rintro e w3 ⟨rfl, h⟩
 clear C X1
 have c0 : w3.cell? ⟨q, 0, none⟩ = some (.int .u32 0) := by rw [h.cell]; rfl
 have f0 := h.frz 0
 have c1 : w3.cell? ⟨q, 1, none⟩ = some (.slice none 0 0) := by rw [h.cell]; rfl
 have f1 := h.frz 1
 have h9 : RSt W1 ((w3.setCell ⟨q, 0, none⟩ (.int .u32 x)).setCell ⟨q, 1, none⟩ (.slice none 0 0)) w.heap.size 0 s q 64 (some (exB (l.map zAY))) #[.int .u32 x, .slice none 0 0] := ((h.set hqg hqs 0 (.int .u32 x)).set hqg hqs 1 (.slice none 0 0))
 clear h
 generalize hW : (w3.setCell ⟨q, 0, none⟩ (.int .u32 x)).setCell ⟨q, 1, none⟩ (.slice none 0 0) = W at *
 have hp0 : PRows zBi (NX w.heap.size q) w.heap.size 103 W (.slice none 0 0) [] := PRows.nil _ (fun k hk => by have := h9.rb.lt; have := zAB h9.blk; unfold NX at hk; omega)
 have H9 := Lib.hid h9
 have P0 := Lib.hid hp0
 have X := Lib.hid hW
 clear h9 hp0 hW
 have hW := X.out
 generalize hnn : l.length = n at *
 have HN := Lib.hid hnn
 clear hnn
 go_wp2_with fail
 clear c0 f0 c1 f1 hW X
 go_loopw [] (fun wr => ∃ (k : Nat) (v : Value), k ≤ n ∧ Hid (RSt W1 wr w.heap.size 0 s q 64 (some (exB ((l.drop k).map zAY))) #[.int .u32 x, v]) ∧ Hid (PRows zBi (NX w.heap.size q) w.heap.size 103 wr v (l.take k))) (fun wr => zFv wr w.heap.size)
 case atStart => exact ⟨0, _, Nat.zero_le _, by rw [List.drop_zero]; exact H9, by rw [List.take_zero]; exact P0⟩
 case round =>
  obtain ⟨k, v, hk, HR, HP⟩ := hrel
  have HL := Lib.hid (RBuf.left HR.out.rb)
  have LC := Lib.hid (zOb HR.out.rb)
  by_cases hlt : k < n
  ·have hkl : k < l.length := by have := HN.out; omega
   have HT := Lib.hid (show l.take (k + 1) = l.take k ++ [l[k]] from List.take_succ_eq_append_getElem hkl)
   have hR := HR.out
   have hl8 : (exB ((l.drop k).map zAY)).length = 8 + l[k].f0.size + l[k].f1.size + (exB ((l.drop (k + 1)).map zAY)).length := by rw [zDs l k hkl]; simp only [List.length_append, zAK, zAH]; omega
   have he := OK.out l[k] (List.getElem_mem hkl)
   have hle : (l.take k).length ≤ 1000 := by rw [List.length_take]; omega
   have hm : 0 < (exB ((l.drop k).map zAY)).length := by omega
   have HL2 := Lib.hid (show (exB ((l.drop (k + 1)).map zAY)).length < zFv wr w.heap.size from by rw [HL.out, hl8]; omega)
   clear HL hl8
   rw [zDs l k hkl] at hR
   generalize (exB ((l.drop k).map zAY)).length = m at *
   generalize l[k] = e0 at *
   generalize l.take k = L0 at *
   clear hkl HR
   have HR := Lib.hid hR
   clear hR
   go_wp2_with fail
   refine LC.out.mono ?_
   rintro e w4 ⟨rfl, kd, rfl⟩
   have hb4 := zAq (Below.refl wr.heap.size wr) kd
   have h4 := HR.out.past hb4
   have hp4 := PRows.below HP.out hb4
   generalize wr.drewN kd = w4 at *
   clear LC HR HP hb4
   have hz := h4.upd.size
   have hltr := h4.rb.lt
   have hqr := zAB h4.blk
   have hA := h4.alloc (.cells #[.string ⟨#[]⟩, .string ⟨#[]⟩] 104)
   have hx := heap_alloc_new w4 (.cells #[.string ⟨#[]⟩, .string ⟨#[]⟩] 104 (0, 0))
   have FE := Lib.hid (zFw w4.heap.size w.heap.size 0 s e0.f0 e0.f1 _ (w4.alloc (.cells #[.string ⟨#[]⟩, .string ⟨#[]⟩] 104)) hx (by omega) (by omega) hA.rb he.1 he.2)
   obtain ⟨W5, hW5⟩ : ∃ W, w4.alloc (.cells #[.string ⟨#[]⟩, .string ⟨#[]⟩] 104) = W := ⟨_, rfl⟩
   have hs5 : W5.heap.size = w4.heap.size + 1 := by rw [← hW5]; simp
   rw [hW5] at hA hx FE
   have HA := Lib.hid hA
   have X5 := Lib.hid hW5
   have S5 := Lib.hid hs5
   have HP := Lib.hid hp4
   clear h4 hA hx hW5 hs5 he hp4
   go_wp2_with (refine wpList_allocTo rfl (some 6) rfl (.pointer (some ⟨w4.heap.size, 0, none⟩)) (.cells #[.string ⟨#[]⟩, .string ⟨#[]⟩] 104) (by as_aux_lemma => kernel_rfl) ?_; rw [X5.out])
   refine FE.out.mono ?_
   rintro e w6 ⟨rfl, hx6, hu6, hb6⟩
   have hs5 := S5.out
   have z6 := hu6.size
   have h6 : RSt W1 w6 w.heap.size 0 s q 64 (some (exB ((l.drop (k + 1)).map zAY))) #[.int .u32 x, v] :=
    ⟨hb6, (hu6.block q (by omega) (by omega)).trans HA.out.blk, ⟨⟨hu6.os.trans HA.out.upd.os, hu6.tape.trans HA.out.upd.tape, hu6.output.trans HA.out.upd.output, Nat.le_trans HA.out.upd.size hu6.size, fun j hj e => (hu6.block j (by omega) (by omega)).trans (HA.out.upd.block j hj e)⟩, fun i hi => (hu6.low i hi).trans (HA.out.upd.low i hi)⟩⟩
   have o6 : ∀ j, j < w4.heap.size → ¬ NX w.heap.size q j → w6.heap[j]? = w4.heap[j]? := fun j hj hn => (hu6.block j (by omega) (by unfold NX at hn; omega)).trans (by rw [← X5.out]; exact heap_alloc_old _ _ hj)
   have hp6 : PRows zBi (NX w.heap.size q) w.heap.size 103 w6 v L0 := HP.out.kept (by omega) o6
   have hvl : ∀ j, v.ownBlock = some j → w.heap.size ≤ j ∧ j < w4.heap.size := fun j hj => HP.out.low hj
   have hb7 := (Below.refl w6.heap.size w6).alloc (Nat.le_refl _) (.cells #[.pointer (some ⟨w4.heap.size, 0, none⟩)] 103)
   have hx7 := (hb7.block w4.heap.size (by omega)).trans hx6
   have hp7 := hp6.alloc (.cells #[.pointer (some ⟨w4.heap.size, 0, none⟩)] 103)
   have hk7 := zNA (g := w.heap.size) (q := q) (v := v) hx7 (by omega) (by omega) (fun j hj => (hvl j hj).2)
   have hpt : (w6.alloc (.cells #[.pointer (some ⟨w4.heap.size, 0, none⟩)] 103)).heap[w6.heap.size]? = some (.cells #[.pointer (some ⟨w4.heap.size, 0, none⟩)] 103 (0, 0)) := heap_alloc_new _ _
   have zw6 : w.heap.size ≤ (w6.alloc (.cells #[.pointer (some ⟨w4.heap.size, 0, none⟩)] 103)).heap.size := by have := hb7.size; have := Z1.out; omega
   have c6 : w6.cell? ⟨q, 1, none⟩ = some v := by rw [h6.cell]; rfl
   have h7 := h6.alloc (.cells #[.pointer (some ⟨w4.heap.size, 0, none⟩)] 103)
   have P7 := Lib.hid hp7
   have K7 := Lib.hid hk7
   have T7 := Lib.hid hpt
   have H7 := Lib.hid h7
   have V7 := Lib.hid hvl
   have Z6 := Lib.hid zw6
   clear hx6 hu6 hb6 h6 o6 hp6 hvl hb7 hx7 hp7 hk7 hpt h7 zw6 FE HA X5 HP hs5 z6
   go_wp2_with (at_builtin; refine zB5 rfl _ _ _ rfl Tryz.underlying61 zLU _ rfl _ _ rfl P7.out e0 w4.heap.size (by rw [add_plain, zAA T7.out]; rfl) K7.out (by omega) Z6.out ?_)
   intro v' w' hp hg hat
   have hR7 := H7.out
   have hl7 := hR7.rb.lt
   have gne : some w.heap.size ≠ v.ownBlock := fun e => P7.out.nx _ e.symm (.inl rfl)
   have qne : some q ≠ v.ownBlock := fun e => P7.out.nx q e.symm (.inr rfl)
   have sne : some s ≠ v.ownBlock := fun e => by have := (V7.out s e.symm).1; omega
   have hR8 : RSt W1 w' w.heap.size 0 s q 64 (some (exB ((l.drop (k + 1)).map zAY))) #[.int .u32 x, v] :=
    ⟨hR7.rb.kept (hg.block _ hl7.1 gne) (hg.block s hl7.2 sne) hg.size, (hg.block q (zAB hR7.blk) qne).trans hR7.blk,
     ⟨⟨hg.os.trans hR7.upd.os, hg.tape.trans hR7.upd.tape, hg.output.trans hR7.upd.output, Nat.le_trans hR7.upd.size hg.size, fun j hj hn => (hg.block j (by have := hR7.upd.size; omega) (fun e => by have := (V7.out j e.symm).1; have := Z1.out; omega)).trans (hR7.upd.block j hj hn)⟩, fun i hi => (cell_kept (hg.block _ hl7.1 gne)).trans (hR7.upd.low i hi)⟩⟩
   obtain ⟨A', c', hv', _, _⟩ := hp.shown
   rw [show (L0 ++ [e0]).length = L0.length + 1 by simp] at hv'
   subst hv'
   have cq : w'.cell? ⟨q, 1, none⟩ = some v := by rw [hR8.cell]; rfl
   have fq := hR8.frz 1
   have hR9 : RSt W1 (w'.setCell ⟨q, 1, none⟩ (.slice A' (L0.length + 1) c')) w.heap.size 0 s q 64 (some (exB ((l.drop (k + 1)).map zAY))) #[.int .u32 x, .slice A' (L0.length + 1) c'] := hR8.set hqg hqs 1 _
   have hp9 := hp.setCell (g := q) (i := 1) (.inr rfl) (.slice A' (L0.length + 1) c')
   have R9 := Lib.hid hR9
   rw [← HT.out] at hp9
   have P9 := Lib.hid hp9
   clear hR7 hl7 gne qne sne hR8 hR9 hp9 hp hg hat P7 K7 T7 H7 V7 Z6
   go_wp2_with fail
   go_roundw
   case rel => exact ⟨k + 1, _, by omega, R9, P9⟩
   case measure => rw [RBuf.left R9.out.rb]; exact HL2.out
  ·obtain rfl : k = n := by omega
   have hfull : l.take k = l := List.take_of_length_le (by have := HN.out; omega)
   have hend : exB ((l.drop k).map zAY) = [] := by rw [List.drop_of_length_le (by have := HN.out; omega)]; rfl
   rw [hfull] at HP
   rw [hend] at HR LC
   clear hfull hk hlt HL hend
   go_wp2_with fail
   refine LC.out.mono ?_
   rintro e w4 ⟨rfl, kd, rfl⟩
   have hb4 := zAq (Below.refl wr.heap.size wr) kd
   have h4 := HR.out.past hb4
   have hp4 := PRows.below HP.out hb4
   generalize wr.drewN kd = w4 at *
   have cn := h4.nilErr
   have H4 := Lib.hid h4
   have P4 := Lib.hid hp4
   clear LC HR HP hb4 h4 hp4
   go_wp2_with fail
   go_ret
   refine ⟨v, rfl, P4.out, H4.out.blk, ?_⟩
   have hu := H4.out.upd
   have hs := B.out.size
   exact ⟨hu.os.trans B.out.os, hu.tape.trans B.out.tape, hu.output.trans B.out.output, Nat.le_trans B.out.size hu.size, fun j hj e => (hu.block j (by omega) (by omega)).trans (B.out.block j hj)⟩
theorem zIi (q s o c : Nat) (x : Int) (l : List S52) (L : List UInt8) (hL : L = zAQ x ++ exB (l.map zAY)) (w : World) (hq : w.heap[q]? = some (.cells #[.int .u32 0, .slice none 0 0] 67 (0, 0))) (hqs : q ≠ s) (hl : Lies w s o L) (hs : s < w.heap.size) (hc : L.length ≤ c) (hL1 : L.length ≤ 100000000)
  (x0 : 0 ≤ x) (x1 : x ≤ 4294967295) (hn : l.length ≤ 1000) (hok : ∀ e ∈ l, e.f0.size ≤ 1000000 ∧ e.f1.size ≤ 1000000) :
  Calls Tryz.prog 57 #[.pointer (some ⟨q, 0, none⟩), .slice (some ⟨s, o, none⟩) L.length c] w fun e w' => ∃ v, e = .returned .nilIface ∧ PRows zBi (NX w.heap.size q) w.heap.size 103 w' v l ∧ w'.heap[q]? = some (.cells #[.int .u32 x, v] 67 (0, 0)) ∧ UpdB (fun k => k = q) w w' := by
 have hql := zAB hq
 have hbel := (Below.refl w.heap.size w).alloc (Nat.le_refl _) (.cells #[.slice (some ⟨s, o, none⟩) L.length c, .int .i64 0, .nilIface] 83)
 have hB0 := RBuf.newAt hl hs hc (by omega)
 have hq2 := (hbel.block q hql).trans hq
 obtain ⟨W1, hW1⟩ : ∃ W, w.alloc (.cells #[.slice (some ⟨s, o, none⟩) L.length c, .int .i64 0, .nilIface] 83) = W := ⟨_, rfl⟩
 rw [hW1] at hbel hB0 hq2
 have z1 : W1.heap.size = w.heap.size + 1 := by rw [← hW1]; simp
 rw [hL] at hB0
 have hqg : q ≠ w.heap.size := by omega
 have C := Lib.hid (zLf (w0 := W1) ⟨hB0, hq2, UpdG.refl _ _ _ _⟩ hqg x0 x1)
 have B := Lib.hid hbel
 have X1 := Lib.hid hW1
 have OK := Lib.hid hok
 have Z1 := Lib.hid z1
 clear hB0 hq2 hbel hl hq hL hW1 hok z1
 generalize L.length = len at *
 go_enter Tryz.func57, Tryz.ntmps57
 go_wp2_with fail
 refine (zAZ _ _ _ _).mono ?_
 rintro e w2 ⟨rfl, hw2⟩
 rw [X1.out] at hw2
 subst hw2
 go_wp2_with fail
 refine C.out.mono ?_
 rintro e w3 ⟨rfl, h⟩
 clear C X1
 have c0 : w3.cell? ⟨q, 0, none⟩ = some (.int .u32 0) := by rw [h.cell]; rfl
 have f0 := h.frz 0
 have c1 : w3.cell? ⟨q, 1, none⟩ = some (.slice none 0 0) := by rw [h.cell]; rfl
 have f1 := h.frz 1
 have h9 : RSt W1 ((w3.setCell ⟨q, 0, none⟩ (.int .u32 x)).setCell ⟨q, 1, none⟩ (.slice none 0 0)) w.heap.size 0 s q 67 (some (exB (l.map zAY))) #[.int .u32 x, .slice none 0 0] := ((h.set hqg hqs 0 (.int .u32 x)).set hqg hqs 1 (.slice none 0 0))
 clear h
 generalize hW : (w3.setCell ⟨q, 0, none⟩ (.int .u32 x)).setCell ⟨q, 1, none⟩ (.slice none 0 0) = W at *
 have hp0 : PRows zBi (NX w.heap.size q) w.heap.size 103 W (.slice none 0 0) [] := PRows.nil _ (fun k hk => by have := h9.rb.lt; have := zAB h9.blk; unfold NX at hk; omega)
 have H9 := Lib.hid h9
 have P0 := Lib.hid hp0
 have X := Lib.hid hW
 clear h9 hp0 hW
 have hW := X.out
 generalize hnn : l.length = n at *
 have HN := Lib.hid hnn
 clear hnn
 go_wp2_with fail
 clear c0 f0 c1 f1 hW X
 go_loopw [] (fun wr => ∃ (k : Nat) (v : Value), k ≤ n ∧ Hid (RSt W1 wr w.heap.size 0 s q 67 (some (exB ((l.drop k).map zAY))) #[.int .u32 x, v]) ∧ Hid (PRows zBi (NX w.heap.size q) w.heap.size 103 wr v (l.take k))) (fun wr => zFv wr w.heap.size)
 case atStart => exact ⟨0, _, Nat.zero_le _, by rw [List.drop_zero]; exact H9, by rw [List.take_zero]; exact P0⟩
 case round =>
  obtain ⟨k, v, hk, HR, HP⟩ := hrel
  have HL := Lib.hid (RBuf.left HR.out.rb)
  have LC := Lib.hid (zOb HR.out.rb)
  by_cases hlt : k < n
  ·have hkl : k < l.length := by have := HN.out; omega
   have HT := Lib.hid (show l.take (k + 1) = l.take k ++ [l[k]] from List.take_succ_eq_append_getElem hkl)
   have hR := HR.out
   have hl8 : (exB ((l.drop k).map zAY)).length = 8 + l[k].f0.size + l[k].f1.size + (exB ((l.drop (k + 1)).map zAY)).length := by rw [zDs l k hkl]; simp only [List.length_append, zAK, zAH]; omega
   have he := OK.out l[k] (List.getElem_mem hkl)
   have hle : (l.take k).length ≤ 1000 := by rw [List.length_take]; omega
   have hm : 0 < (exB ((l.drop k).map zAY)).length := by omega
   have HL2 := Lib.hid (show (exB ((l.drop (k + 1)).map zAY)).length < zFv wr w.heap.size from by rw [HL.out, hl8]; omega)
   clear HL hl8
   rw [zDs l k hkl] at hR
   generalize (exB ((l.drop k).map zAY)).length = m at *
   generalize l[k] = e0 at *
   generalize l.take k = L0 at *
   clear hkl HR
   have HR := Lib.hid hR
   clear hR
   go_wp2_with fail
   refine LC.out.mono ?_
   rintro e w4 ⟨rfl, kd, rfl⟩
   have hb4 := zAq (Below.refl wr.heap.size wr) kd
   have h4 := HR.out.past hb4
   have hp4 := PRows.below HP.out hb4
   generalize wr.drewN kd = w4 at *
   clear LC HR HP hb4
   have hz := h4.upd.size
   have hltr := h4.rb.lt
   have hqr := zAB h4.blk
   have hA := h4.alloc (.cells #[.string ⟨#[]⟩, .string ⟨#[]⟩] 104)
   have hx := heap_alloc_new w4 (.cells #[.string ⟨#[]⟩, .string ⟨#[]⟩] 104 (0, 0))
   have FE := Lib.hid (zFw w4.heap.size w.heap.size 0 s e0.f0 e0.f1 _ (w4.alloc (.cells #[.string ⟨#[]⟩, .string ⟨#[]⟩] 104)) hx (by omega) (by omega) hA.rb he.1 he.2)
   obtain ⟨W5, hW5⟩ : ∃ W, w4.alloc (.cells #[.string ⟨#[]⟩, .string ⟨#[]⟩] 104) = W := ⟨_, rfl⟩
   have hs5 : W5.heap.size = w4.heap.size + 1 := by rw [← hW5]; simp
   rw [hW5] at hA hx FE
   have HA := Lib.hid hA
   have X5 := Lib.hid hW5
   have S5 := Lib.hid hs5
   have HP := Lib.hid hp4
   clear h4 hA hx hW5 hs5 he hp4
   go_wp2_with (refine wpList_allocTo rfl (some 6) rfl (.pointer (some ⟨w4.heap.size, 0, none⟩)) (.cells #[.string ⟨#[]⟩, .string ⟨#[]⟩] 104) (by as_aux_lemma => kernel_rfl) ?_; rw [X5.out])
   refine FE.out.mono ?_
   rintro e w6 ⟨rfl, hx6, hu6, hb6⟩
   have hs5 := S5.out
   have z6 := hu6.size
   have h6 : RSt W1 w6 w.heap.size 0 s q 67 (some (exB ((l.drop (k + 1)).map zAY))) #[.int .u32 x, v] :=
    ⟨hb6, (hu6.block q (by omega) (by omega)).trans HA.out.blk, ⟨⟨hu6.os.trans HA.out.upd.os, hu6.tape.trans HA.out.upd.tape, hu6.output.trans HA.out.upd.output, Nat.le_trans HA.out.upd.size hu6.size, fun j hj e => (hu6.block j (by omega) (by omega)).trans (HA.out.upd.block j hj e)⟩, fun i hi => (hu6.low i hi).trans (HA.out.upd.low i hi)⟩⟩
   have o6 : ∀ j, j < w4.heap.size → ¬ NX w.heap.size q j → w6.heap[j]? = w4.heap[j]? := fun j hj hn => (hu6.block j (by omega) (by unfold NX at hn; omega)).trans (by rw [← X5.out]; exact heap_alloc_old _ _ hj)
   have hp6 : PRows zBi (NX w.heap.size q) w.heap.size 103 w6 v L0 := HP.out.kept (by omega) o6
   have hvl : ∀ j, v.ownBlock = some j → w.heap.size ≤ j ∧ j < w4.heap.size := fun j hj => HP.out.low hj
   have hb7 := (Below.refl w6.heap.size w6).alloc (Nat.le_refl _) (.cells #[.pointer (some ⟨w4.heap.size, 0, none⟩)] 103)
   have hx7 := (hb7.block w4.heap.size (by omega)).trans hx6
   have hp7 := hp6.alloc (.cells #[.pointer (some ⟨w4.heap.size, 0, none⟩)] 103)
   have hk7 := zNA (g := w.heap.size) (q := q) (v := v) hx7 (by omega) (by omega) (fun j hj => (hvl j hj).2)
   have hpt : (w6.alloc (.cells #[.pointer (some ⟨w4.heap.size, 0, none⟩)] 103)).heap[w6.heap.size]? = some (.cells #[.pointer (some ⟨w4.heap.size, 0, none⟩)] 103 (0, 0)) := heap_alloc_new _ _
   have zw6 : w.heap.size ≤ (w6.alloc (.cells #[.pointer (some ⟨w4.heap.size, 0, none⟩)] 103)).heap.size := by have := hb7.size; have := Z1.out; omega
   have c6 : w6.cell? ⟨q, 1, none⟩ = some v := by rw [h6.cell]; rfl
   have h7 := h6.alloc (.cells #[.pointer (some ⟨w4.heap.size, 0, none⟩)] 103)
   have P7 := Lib.hid hp7
   have K7 := Lib.hid hk7
   have T7 := Lib.hid hpt
   have H7 := Lib.hid h7
   have V7 := Lib.hid hvl
   have Z6 := Lib.hid zw6
   clear hx6 hu6 hb6 h6 o6 hp6 hvl hb7 hx7 hp7 hk7 hpt h7 zw6 FE HA X5 HP hs5 z6
   go_wp2_with (at_builtin; refine zB5 rfl _ _ _ rfl Tryz.underlying61 zLU _ rfl _ _ rfl P7.out e0 w4.heap.size (by rw [add_plain, zAA T7.out]; rfl) K7.out (by omega) Z6.out ?_)
   intro v' w' hp hg hat
   have hR7 := H7.out
   have hl7 := hR7.rb.lt
   have gne : some w.heap.size ≠ v.ownBlock := fun e => P7.out.nx _ e.symm (.inl rfl)
   have qne : some q ≠ v.ownBlock := fun e => P7.out.nx q e.symm (.inr rfl)
   have sne : some s ≠ v.ownBlock := fun e => by have := (V7.out s e.symm).1; omega
   have hR8 : RSt W1 w' w.heap.size 0 s q 67 (some (exB ((l.drop (k + 1)).map zAY))) #[.int .u32 x, v] :=
    ⟨hR7.rb.kept (hg.block _ hl7.1 gne) (hg.block s hl7.2 sne) hg.size, (hg.block q (zAB hR7.blk) qne).trans hR7.blk,
     ⟨⟨hg.os.trans hR7.upd.os, hg.tape.trans hR7.upd.tape, hg.output.trans hR7.upd.output, Nat.le_trans hR7.upd.size hg.size, fun j hj hn => (hg.block j (by have := hR7.upd.size; omega) (fun e => by have := (V7.out j e.symm).1; have := Z1.out; omega)).trans (hR7.upd.block j hj hn)⟩, fun i hi => (cell_kept (hg.block _ hl7.1 gne)).trans (hR7.upd.low i hi)⟩⟩
   obtain ⟨A', c', hv', _, _⟩ := hp.shown
   rw [show (L0 ++ [e0]).length = L0.length + 1 by simp] at hv'
   subst hv'
   have cq : w'.cell? ⟨q, 1, none⟩ = some v := by rw [hR8.cell]; rfl
   have fq := hR8.frz 1
   have hR9 : RSt W1 (w'.setCell ⟨q, 1, none⟩ (.slice A' (L0.length + 1) c')) w.heap.size 0 s q 67 (some (exB ((l.drop (k + 1)).map zAY))) #[.int .u32 x, .slice A' (L0.length + 1) c'] := hR8.set hqg hqs 1 _
   have hp9 := hp.setCell (g := q) (i := 1) (.inr rfl) (.slice A' (L0.length + 1) c')
   have R9 := Lib.hid hR9
   rw [← HT.out] at hp9
   have P9 := Lib.hid hp9
   clear hR7 hl7 gne qne sne hR8 hR9 hp9 hp hg hat P7 K7 T7 H7 V7 Z6
   go_wp2_with fail
   go_roundw
   case rel => exact ⟨k + 1, _, by omega, R9, P9⟩
   case measure => rw [RBuf.left R9.out.rb]; exact HL2.out
  ·obtain rfl : k = n := by omega
   have hfull : l.take k = l := List.take_of_length_le (by have := HN.out; omega)
   have hend : exB ((l.drop k).map zAY) = [] := by rw [List.drop_of_length_le (by have := HN.out; omega)]; rfl
   rw [hfull] at HP
   rw [hend] at HR LC
   clear hfull hk hlt HL hend
   go_wp2_with fail
   refine LC.out.mono ?_
   rintro e w4 ⟨rfl, kd, rfl⟩
   have hb4 := zAq (Below.refl wr.heap.size wr) kd
   have h4 := HR.out.past hb4
   have hp4 := PRows.below HP.out hb4
   generalize wr.drewN kd = w4 at *
   have cn := h4.nilErr
   have H4 := Lib.hid h4
   have P4 := Lib.hid hp4
   clear LC HR HP hb4 h4 hp4
   go_wp2_with fail
   go_ret
   refine ⟨v, rfl, P4.out, H4.out.blk, ?_⟩
   have hu := H4.out.upd
   have hs := B.out.size
   exact ⟨hu.os.trans B.out.os, hu.tape.trans B.out.tape, hu.output.trans B.out.output, Nat.le_trans B.out.size hu.size, fun j hj e => (hu.block j (by omega) (by omega)).trans (B.out.block j hj)⟩
def pkN (id : Int) (v : Value) : Array Value :=
 #[.int .i64 104, .int .u32 id, .string e0, .string e0, .string e0, .int .u64 0, .int .u32 0, .int .u32 0, .string e0, .int .u32 0, .int .u64 0, .int .u32 0, .int .u32 0, .int .u32 0, .int .u32 0, .int .u32 0, .slice none 0 0, v, .slice none 0 0, .int .u32 0, .int .u32 0, .string e0, .string e0, .string e0]
theorem zPD (id : Int) (A : Option Addr) (n c : Nat) : (pkN id (.slice A n c)).all (·.oneCell') = true := by kernel_rfl
structure NSt (w W : World) (id : Int) (v : Value) (l : List Nm) : Prop where
 res : W.heap[w.heap.size]? = some (.cells pZero 29 (0, 0))
 out : W.heap[w.heap.size + 1]? = some (.cells (pkN id v) 29 (0, 0))
 bel : Below w.heap.size w W
 row : Kd.R k54 54 W (w.heap.size + 1 + 1) (fun _ => True) v l
theorem NSt.below {w W W' : World} {id : Int} {v : Value} {l : List Nm} (h : NSt w W id v l) (hb : Below W.heap.size W W') : NSt w W' id v l :=
 ⟨(hb.block _ (zAB h.res)).trans h.res, (hb.block _ (zAB h.out)).trans h.out, h.bel.trans (hb.mono h.bel.size), Kd.R_below h.row hb⟩
theorem NSt.cell {w W : World} {id : Int} {v : Value} {l : List Nm} (h : NSt w W id v l) : W.cell? ⟨w.heap.size + 1, 17, none⟩ = some v := by rw [zAA h.out]; rfl
theorem NSt.own {w W : World} {id : Int} {v : Value} {l : List Nm} (h : NSt w W id v l) : ∀ k, v.ownBlock = some k → w.heap.size + 1 + 1 ≤ k ∧ k < W.heap.size := fun k hk => by
 obtain ⟨inner, ho⟩ := Kd.R_own h.row
 exact ⟨zCt ho k hk, zKf ho k hk⟩
theorem NSt.put {w W W' : World} {id : Int} {v v' : Value} {l l' : List Nm} (h : NSt w W id v l) (hg : W.grownBy W' v.ownBlock) (hr : Kd.R k54 54 W' (w.heap.size + 1 + 1) (fun _ => True) v' l') : NSt w (W'.setCell ⟨w.heap.size + 1, 17, none⟩ v') id v' l' := by
 have n0 : some w.heap.size ≠ v.ownBlock := fun e => by have := (h.own _ e.symm).1; omega
 have n1 : some (w.heap.size + 1) ≠ v.ownBlock := fun e => by have := (h.own _ e.symm).1; omega
 have b0 := (hg.block _ (zAB h.res) n0).trans h.res
 have b1 := (hg.block _ (zAB h.out) n1).trans h.out
 have hB : Below w.heap.size w W' := h.bel.grown hg h.bel.size (fun k hk => by have := (h.own k hk).1; omega)
 refine ⟨by rw [Below.heap_setCell _ _ _ _ (by show w.heap.size ≠ w.heap.size + 1; omega)]; exact b0, zAU b1 v', hB.setCell (by show w.heap.size ≤ w.heap.size + 1; omega) _, ?_⟩
 exact zE3 hr (fun k hk _ => Below.heap_setCell _ _ _ _ (by show k ≠ w.heap.size + 1; omega))
theorem zIj : (Tryz.prog.info? 54).map (fun i => (i.zero, i.size, i.bytes)) = some (some (.agg #[.string ⟨#[]⟩, .string ⟨#[]⟩, .int .u32 0, .int .u64 0, .int .u32 0, .int .u32 0, .int .u32 0, .int .u32 0, .int .u32 0, .slice none 0 0]), 10, 96) := by kernel_rfl
theorem zE4 {P : Program} {o : Oper} {a : Act} {w w' : World} {K : Act → World → Prop} {Q : Exit → Act → World → Prop} (v : Value) (hr : (execOp a.eval o).run P w = .ok (.value v) w') (h : K (a.put o.dst v) w') : o.wp P a w K Q := by
 unfold Oper.wp
 rw [hr, Oper.upon_value]
 exact h
def nmV (e : Nm) (u : Value) : List Value := [.string e.f0, .string e.f1, .int .u32 e.f2.f0, .int .u64 e.f2.f1, .int .u32 e.f2.f2, .int .u32 e.f2.f3, .int .u32 e.f2.f4, .int .u32 e.f2.f5, .int .u32 e.f2.f6, u]
theorem zLl (q : Value) (w : World) : Calls Tryz.prog 184 #[q] w fun e w' => e = .returned (.int .u8 104) ∧ w = w' := by
 go_enter Tryz.func184, Tryz.ntmps184
 go_wp2
 go_ret
 exact ⟨rfl, rfl⟩
theorem zKR (id : Int) (A : Option Addr) (n c : Nat) (l : List Nm) (k0 : Nat) (w : World) (hb : w.heap[k0]? = some (.cells #[.slice A n c] 174 (0, 0))) (hn : n = l.length) (hn1 : n ≤ 100000) (hP : PAt NmR w A l) (h8 : ∀ e ∈ l, e.f2.f7.length ≤ 1000) :
  Calls Tryz.prog 33 #[.int .u32 id, .iface 171 (.pointer (some ⟨k0, 0, none⟩))] w (zBL (⟨104, id, e0, e0, e0, 0, 0, 0, e0, ⟨0, 0, 0, 0, 0, 0, 0, []⟩, l, [], 0, 0, e0, e0, e0⟩ : Pk) w) := by
 have hbl := zAB hb
 have ta := @taB
 obtain ⟨W0, W1, W2, X0, X1, X2, K1, k2, j2, hbel, s0⟩ := zCq w 104 id
 have cb : W2.cell? ⟨k0, 0, none⟩ = some (.slice A n c) := by rw [zAA ((hbel.block k0 hbl).trans hb)]; rfl
 have N2 := Lib.hid (show NSt w W2 id (.slice none 0 0) [] from ⟨j2, by rw [← s0]; exact k2, hbel, Kd.R_nil _ _ _ _ _⟩)
 have X3 := Lib.hid (show W1.setRow (w.heap.size + 1) (z24 104 id) = W2 by rw [← s0]; exact X2.out)
 have S0 := Lib.hid s0
 have HP := Lib.hid hP
 have HN := Lib.hid hn
 have H8 := Lib.hid h8
 clear hb k2 j2 hbel s0 hbl hP hn h8
 go_enter Tryz.func33, Tryz.ntmps33
 go_wp2_with (first
  | (refine wpList_allocTo rfl (some 4) rfl (.pointer (some ⟨w.heap.size, 0, none⟩)) (.cells pZero 29) (by as_aux_lemma => kernel_rfl) ?_; rw [X0.out])
  | (refine wpList_allocTo rfl (some 6) rfl (.pointer (some ⟨w.heap.size + 1, 0, none⟩)) (.cells pZero 29) (by rw [← S0.out]; as_aux_lemma => kernel_rfl) ?_; rw [X1.out])
  | refine wpList_buildTo rfl 29 _ rfl (some 41) rfl (z24 104 id) (by as_aux_lemma => kernel_rfl) ?_
  | (refine wpList_store_row rfl 29 _ _ rfl (w.heap.size + 1) (z24 104 id) rfl rfl 29 pZero (by rw [← S0.out]; exact K1.out) zAo rfl (zC3 _ _) ?_; rw [X3.out])
  | (go_at_call 184; refine (zLl _ _).mono ?_; rintro e w' ⟨rfl, rfl⟩))
 clear cb X0 X1 X2 X3 K1 S0
 go_loopw [291] (fun i wr => ∃ (k : Nat) (v : Value), k ≤ n ∧ i = .int .i64 (k : Int) ∧ Hid (NSt w wr id v (l.take k))) (fun i _ => n - (intOf i).toNat)
 case atStart => exact ⟨0, _, Nat.zero_le _, rfl, by rw [List.take_zero]; exact N2⟩
 case round =>
  obtain ⟨k, v, hk, rfl, HS⟩ := hrel
  by_cases hlt : k < n
  ·have hkl : k < l.length := by have := HN.out; omega
   have he : l[k]? = some l[k] := List.getElem?_eq_getElem hkl
   obtain ⟨xs, ps, x, rfl, hxs, hcx, hx⟩ := HP.out k _ he
   have h8 := H8.out l[k] (List.getElem_mem hkl)
   have HT := Lib.hid (show l.take (k + 1) = l.take k ++ [l[k]] from List.take_succ_eq_append_getElem hkl)
   have hle : (l.take k).length ≤ 100000 := by rw [List.length_take]; omega
   have hxb : x < w.heap.size := by obtain ⟨A, c, h1, _⟩ := hx; exact zAB h1
   have hx2 : NmR wr x l[k] := hx.below HS.out.bel
   have cx : wr.cell? ⟨xs, ps + k, none⟩ = some (ptr x) := by rw [cell_kept (HS.out.bel.block xs hxs)]; exact hcx
   generalize l[k] = e1 at *
   generalize l.take k = L0 at *
   obtain ⟨A9, c9, hX, hc9, hC9⟩ := hx2
   have hC10 : Kd.C k206 wr.drew A9 (e1.f2.f7.map zAY).length (e1.f2.f7.map zAY) := by rw [List.length_map]; exact Kd.C_below hC9 (zAi (Below.refl _ _))
   have TC := Lib.hid (zFn e1.f2.f0 e1.f2.f1 e1.f2.f2 e1.f2.f3 e1.f2.f4 e1.f2.f5 e1.f2.f6 A9 e1.f2.f7.length c9 _ wr.drew (by rw [List.length_map]) (by rw [List.length_map]; omega) hC10 (by rw [List.length_map]; exact hc9))
   have HX := Lib.hid hX
   have D0 := Lib.hid (show NSt w wr.drew id v L0 from HS.out.below (zAi (Below.refl _ _)))
   clear he hcx hx hxs hkl hX hC9 hC10 HS hc9
   unfold ptr at cx
   go_wp2_with fail
   refine wp_region_held_drew (S := fun w' => w'.heap[x]? = some (.cells (zAj [.string e1.f0, .string e1.f1] e1.f2.f0 e1.f2.f1 e1.f2.f2 e1.f2.f3 e1.f2.f4 e1.f2.f5 e1.f2.f6 (.slice A9 e1.f2.f7.length c9) []) 177 (0, 0))) (by kernel_rfl) HX.out (fun hHeld => ?_)
   refine tkE 295 0 (.pointer (some ⟨w.heap.size + 1, 17, none⟩)) hHeld ?_
   try simp only [zAJ]
   refine tkE 297 2 (.pointer (some ⟨x, 0, none⟩)) hHeld ?_
   try simp only [zAJ]
   refine tkE 298 3 (.pointer (some ⟨x, 0, none⟩)) hHeld ?_
   try simp only [zAJ]
   refine tkE 299 4 (.pointer (some ⟨x, 0, none⟩)) hHeld ?_
   try simp only [zAJ]
   refine tkY 300 5 (.string e1.f0) rfl (zAS (by rfl) 9 _ rfl zAl x 0 (by rfl) _ _ (0, 0) _ (fun _ h => h) rfl) hHeld ?_
   try simp only [zAJ]
   refine tkE 301 6 (.pointer (some ⟨x, 0, none⟩)) hHeld ?_
   try simp only [zAJ]
   refine tkE 302 7 (.pointer (some ⟨x, 0, none⟩)) hHeld ?_
   try simp only [zAJ]
   refine tkE 303 8 (.pointer (some ⟨x, 1, none⟩)) hHeld ?_
   try simp only [zAJ]
   refine tkY 304 9 (.string e1.f1) rfl (zAS (by rfl) 9 _ rfl zAl x 1 (by rfl) _ _ (0, 0) _ (fun _ h => h) rfl) hHeld ?_
   try simp only [zAJ]
   refine tkE 305 10 (.pointer (some ⟨x, 0, none⟩)) hHeld ?_
   try simp only [zAJ]
   refine tkE 306 11 (.pointer (some ⟨x, 0, none⟩)) hHeld ?_
   try simp only [zAJ]
   refine tkE 307 12 (.pointer (some ⟨x, 2, none⟩)) hHeld ?_
   try simp only [zAJ]
   refine tkY 308 13 (.agg (at8 e1.f2.f0 e1.f2.f1 e1.f2.f2 e1.f2.f3 e1.f2.f4 e1.f2.f5 e1.f2.f6 (.slice A9 e1.f2.f7.length c9)).toList.toArray) rfl (yieldsIf_load_mid (by rfl) 116 _ (by rfl) x 2 (by rfl) (at8 e1.f2.f0 e1.f2.f1 e1.f2.f2 e1.f2.f3 e1.f2.f4 e1.f2.f5 e1.f2.f6 (.slice A9 e1.f2.f7.length c9)).toList _ (fun w' hw' j v hj => by rw [zAA hw']; exact zDQ rfl j v hj) Tryz.underlying116 rfl (zCe _ _ _ _ _ _ _ _)) hHeld ?_
   try simp only [zAJ]
   rw [Array.toArray_toList]
   refine wpAnyH_ready (rs := [1, 14]) (by kernel_rfl) (by simp) (AllReadyH.cons rfl (fun K hK => ?_) (AllReadyH.cons rfl (fun K hK => ?_) AllReadyH.nil))
   ·rw [if_pos (by rfl)]
    have co := D0.out.cell
    go_wp2_with fail
    refine hK.out _ _ hHeld (fun hHeld => ?_)
    clear hK K co
    try simp only [zAJ]
    refine wpAnyH_ready (rs := [14]) (by kernel_rfl) (by simp) (AllReadyH.cons rfl (fun K hK => ?_) AllReadyH.nil)
    rw [if_pos (by rfl)]
    go_wp2_with (go_at_call 61; refine TC.out.mono ?_; rintro e w5 ⟨u, rfl, hv, hb5⟩)
    have hmap : (e1.f2.f7.map zAY).map zHZ = e1.f2.f7 := by rw [List.map_map]; exact List.map_id _
    rw [hmap] at hv
    obtain ⟨A5, c5, rfl⟩ := Kd.R_slice hv
    have hv5 : Kd.R k52 52 w5 (w.heap.size + 1 + 1) (fun j => wr.heap.size ≤ j) (.slice A5 e1.f2.f7.length c5) e1.f2.f7 := Kd.R_lower (Kd.R_mono (Kd.R_bound hv) (fun j hj => hj.2.1)) (zAB D0.out.out)
    have D5 := Lib.hid (D0.out.below hb5)
    have V5 := Lib.hid hv5
    have Z5 := Lib.hid (show wr.heap.size ≤ w5.heap.size from hb5.size)
    have HX5 := Lib.hid ((hb5.block x (zAB hHeld)).trans hHeld)
    refine hK.out _ _ ((hb5.block x (zAB hHeld)).trans hHeld) (fun hHeld => ?_)
    clear hK K hv hb5 hv5 hmap TC
    try simp only [zAJ]
    refine tkY 310 15 (.agg (nmV e1 (.slice A5 e1.f2.f7.length c5)).toArray) rfl (Or.inl ⟨by rfl, fun _ _ => by first | rfl | kernel_rfl⟩) hHeld ?_
    try simp only [zAJ]
    refine wpAnyH_ready (rs := [16]) (by kernel_rfl) (by simp) (AllReadyH.cons rfl (fun K hK => ?_) AllReadyH.nil)
    rw [if_pos (by rfl)]
    refine zE4 (.slice (some ⟨w5.heap.size, 0, none⟩) 1 1) (w' := w5.alloc (.cells (nmV e1 (.slice A5 e1.f2.f7.length c5)).toArray 54)) (by first | rfl | kernel_rfl) ?_
    refine hK.out _ _ ((heap_alloc_old _ _ (zAB hHeld)).trans hHeld) (fun hHeld => ?_)
    clear hK K
    try simp only [zAJ]
    refine wpAnyH_ready (rs := [17]) (by kernel_rfl) (by simp) (AllReadyH.cons rfl (fun K hK => ?_) AllReadyH.nil)
    refine Kd.R_append_step k54 (w0 := w5) (w.heap.size + 1 + 1) (by rfl) (.tmp 296) (.tmp 311) 27 54 _ 96 (by rfl) Tryz.underlying27 zIj rfl (by decide) (by omega) v L0 e1 (nmV e1 (.slice A5 e1.f2.f7.length c5)) (fun _ => True) (fun j => wr.heap.size ≤ j) (by rfl) (by rfl) (zFy _ _ _ e1 V5.out) (fun j hj => ⟨trivial, fun e => by have := (D0.out.own j e.symm).2; have h9 : wr.drew.heap.size = wr.heap.size := rfl; omega⟩) (fun _ _ => trivial) D5.out.row (Below.refl _ _) (by have := zAB D5.out.out; omega) (by omega) ?_
    intro v1 w6 hR hbl hgr hat
    obtain ⟨A1, cc1, hv1⟩ := Kd.R_slice hR
    rw [show (L0 ++ [e1]).length = L0.length + 1 by simp] at hv1
    subst hv1
    have D6 := Lib.hid (D5.out.put hgr hR)
    have c6 : w6.cell? ⟨w.heap.size + 1, 17, none⟩ = some v := by
     rw [cell_kept (hgr.block _ (zAB D5.out.out) (fun e => by have := (D5.out.own _ e.symm).1; omega))]
     exact D5.out.cell
    have f6 : w6.frozen? ⟨w.heap.size + 1, 17, none⟩ = false := zAP ((hgr.block _ (zAB D5.out.out) (fun e => by have := (D5.out.own _ e.symm).1; omega)).trans D5.out.out) 17
    have xne : x ≠ w.heap.size + 1 := by omega
    have hx6 : w6.heap[x]? = some (.cells (zAj [.string e1.f0, .string e1.f1] e1.f2.f0 e1.f2.f1 e1.f2.f2 e1.f2.f3 e1.f2.f4 e1.f2.f5 e1.f2.f6 (.slice A9 e1.f2.f7.length c9) []) 177 (0, 0)) := (hgr.block x (zAB HX5.out) (fun e => by have := (D5.out.own _ e.symm).1; omega)).trans HX5.out
    refine hK.out _ _ hx6 (fun hHeld => ?_)
    clear hK K hR hbl hgr hat
    try simp only [zAJ]
    refine tkE 313 18 (.pointer (some ⟨w.heap.size + 1, 17, none⟩)) hHeld ?_
    try simp only [zAJ]
    refine wpAnyH_ready (rs := [19]) (by kernel_rfl) (by simp) (AllReadyH.cons rfl (fun K hK => ?_) AllReadyH.nil)
    rw [if_pos (by rfl)]
    go_wp2_with fail
    refine hK.out _ _ (by rw [Below.heap_setCell _ _ _ _ (show x ≠ w.heap.size + 1 from xne)]; exact hHeld) (fun hHeld => ?_)
    clear hK K hHeld hx6 c6 f6
    try simp only [zAJ]
    refine wpAnyH_done (by kernel_rfl) ?_ _
    go_wp2_with fail
    go_roundw
    case rel => exact ⟨k + 1, _, by omega, by go_num, by rw [HT.out]; exact D6⟩
    case measure => simp [intOf]; omega
   ·rw [if_pos (by rfl)]
    go_wp2_with (go_at_call 61; refine TC.out.mono ?_; rintro e w5 ⟨u, rfl, hv, hb5⟩)
    have hmap : (e1.f2.f7.map zAY).map zHZ = e1.f2.f7 := by rw [List.map_map]; exact List.map_id _
    rw [hmap] at hv
    obtain ⟨A5, c5, rfl⟩ := Kd.R_slice hv
    have hv5 : Kd.R k52 52 w5 (w.heap.size + 1 + 1) (fun j => wr.heap.size ≤ j) (.slice A5 e1.f2.f7.length c5) e1.f2.f7 := Kd.R_lower (Kd.R_mono (Kd.R_bound hv) (fun j hj => hj.2.1)) (zAB D0.out.out)
    have D5 := Lib.hid (D0.out.below hb5)
    have V5 := Lib.hid hv5
    have Z5 := Lib.hid (show wr.heap.size ≤ w5.heap.size from hb5.size)
    have HX5 := Lib.hid ((hb5.block x (zAB hHeld)).trans hHeld)
    refine hK.out _ _ ((hb5.block x (zAB hHeld)).trans hHeld) (fun hHeld => ?_)
    clear hK K hv hb5 hv5 hmap TC
    try simp only [zAJ]
    refine tkY 310 15 (.agg (nmV e1 (.slice A5 e1.f2.f7.length c5)).toArray) rfl (Or.inl ⟨by rfl, fun _ _ => by first | rfl | kernel_rfl⟩) hHeld ?_
    try simp only [zAJ]
    refine wpAnyH_ready (rs := [1, 16]) (by kernel_rfl) (by simp) (AllReadyH.cons rfl (fun K hK => ?_) (AllReadyH.cons rfl (fun K hK => ?_) AllReadyH.nil))
    ·rw [if_pos (by rfl)]
     have co := D5.out.cell
     go_wp2_with fail
     refine hK.out _ _ hHeld (fun hHeld => ?_)
     clear hK K co
     try simp only [zAJ]
     refine wpAnyH_ready (rs := [16]) (by kernel_rfl) (by simp) (AllReadyH.cons rfl (fun K hK => ?_) AllReadyH.nil)
     rw [if_pos (by rfl)]
     refine zE4 (.slice (some ⟨w5.heap.size, 0, none⟩) 1 1) (w' := w5.alloc (.cells (nmV e1 (.slice A5 e1.f2.f7.length c5)).toArray 54)) (by first | rfl | kernel_rfl) ?_
     refine hK.out _ _ ((heap_alloc_old _ _ (zAB hHeld)).trans hHeld) (fun hHeld => ?_)
     clear hK K
     try simp only [zAJ]
     refine wpAnyH_ready (rs := [17]) (by kernel_rfl) (by simp) (AllReadyH.cons rfl (fun K hK => ?_) AllReadyH.nil)
     refine Kd.R_append_step k54 (w0 := w5) (w.heap.size + 1 + 1) (by rfl) (.tmp 296) (.tmp 311) 27 54 _ 96 (by rfl) Tryz.underlying27 zIj rfl (by decide) (by omega) v L0 e1 (nmV e1 (.slice A5 e1.f2.f7.length c5)) (fun _ => True) (fun j => wr.heap.size ≤ j) (by rfl) (by rfl) (zFy _ _ _ e1 V5.out) (fun j hj => ⟨trivial, fun e => by have := (D0.out.own j e.symm).2; have h9 : wr.drew.heap.size = wr.heap.size := rfl; omega⟩) (fun _ _ => trivial) D5.out.row (Below.refl _ _) (by have := zAB D5.out.out; omega) (by omega) ?_
     intro v1 w6 hR hbl hgr hat
     obtain ⟨A1, cc1, hv1⟩ := Kd.R_slice hR
     rw [show (L0 ++ [e1]).length = L0.length + 1 by simp] at hv1
     subst hv1
     have D6 := Lib.hid (D5.out.put hgr hR)
     have c6 : w6.cell? ⟨w.heap.size + 1, 17, none⟩ = some v := by
      rw [cell_kept (hgr.block _ (zAB D5.out.out) (fun e => by have := (D5.out.own _ e.symm).1; omega))]
      exact D5.out.cell
     have f6 : w6.frozen? ⟨w.heap.size + 1, 17, none⟩ = false := zAP ((hgr.block _ (zAB D5.out.out) (fun e => by have := (D5.out.own _ e.symm).1; omega)).trans D5.out.out) 17
     have xne : x ≠ w.heap.size + 1 := by omega
     have hx6 : w6.heap[x]? = some (.cells (zAj [.string e1.f0, .string e1.f1] e1.f2.f0 e1.f2.f1 e1.f2.f2 e1.f2.f3 e1.f2.f4 e1.f2.f5 e1.f2.f6 (.slice A9 e1.f2.f7.length c9) []) 177 (0, 0)) := (hgr.block x (zAB HX5.out) (fun e => by have := (D5.out.own _ e.symm).1; omega)).trans HX5.out
     refine hK.out _ _ hx6 (fun hHeld => ?_)
     clear hK K hR hbl hgr hat
     try simp only [zAJ]
     refine tkE 313 18 (.pointer (some ⟨w.heap.size + 1, 17, none⟩)) hHeld ?_
     try simp only [zAJ]
     refine wpAnyH_ready (rs := [19]) (by kernel_rfl) (by simp) (AllReadyH.cons rfl (fun K hK => ?_) AllReadyH.nil)
     rw [if_pos (by rfl)]
     go_wp2_with fail
     refine hK.out _ _ (by rw [Below.heap_setCell _ _ _ _ (show x ≠ w.heap.size + 1 from xne)]; exact hHeld) (fun hHeld => ?_)
     clear hK K hHeld hx6 c6 f6
     try simp only [zAJ]
     refine wpAnyH_done (by kernel_rfl) ?_ _
     go_wp2_with fail
     go_roundw
     case rel => exact ⟨k + 1, _, by omega, by go_num, by rw [HT.out]; exact D6⟩
     case measure => simp [intOf]; omega
    ·rw [if_pos (by rfl)]
     refine zE4 (.slice (some ⟨w5.heap.size, 0, none⟩) 1 1) (w' := w5.alloc (.cells (nmV e1 (.slice A5 e1.f2.f7.length c5)).toArray 54)) (by first | rfl | kernel_rfl) ?_
     refine hK.out _ _ ((heap_alloc_old _ _ (zAB hHeld)).trans hHeld) (fun hHeld => ?_)
     clear hK K
     try simp only [zAJ]
     refine wpAnyH_ready (rs := [1]) (by kernel_rfl) (by simp) (AllReadyH.cons rfl (fun K hK => ?_) AllReadyH.nil)
     rw [if_pos (by rfl)]
     have co := (D5.out.below ((Below.refl _ _).alloc (Nat.le_refl _) (.cells (nmV e1 (.slice A5 e1.f2.f7.length c5)).toArray 54))).cell
     go_wp2_with fail
     refine hK.out _ _ hHeld (fun hHeld => ?_)
     clear hK K co
     try simp only [zAJ]
     refine wpAnyH_ready (rs := [17]) (by kernel_rfl) (by simp) (AllReadyH.cons rfl (fun K hK => ?_) AllReadyH.nil)
     refine Kd.R_append_step k54 (w0 := w5) (w.heap.size + 1 + 1) (by rfl) (.tmp 296) (.tmp 311) 27 54 _ 96 (by rfl) Tryz.underlying27 zIj rfl (by decide) (by omega) v L0 e1 (nmV e1 (.slice A5 e1.f2.f7.length c5)) (fun _ => True) (fun j => wr.heap.size ≤ j) (by rfl) (by rfl) (zFy _ _ _ e1 V5.out) (fun j hj => ⟨trivial, fun e => by have := (D0.out.own j e.symm).2; have h9 : wr.drew.heap.size = wr.heap.size := rfl; omega⟩) (fun _ _ => trivial) D5.out.row (Below.refl _ _) (by have := zAB D5.out.out; omega) (by omega) ?_
     intro v1 w6 hR hbl hgr hat
     obtain ⟨A1, cc1, hv1⟩ := Kd.R_slice hR
     rw [show (L0 ++ [e1]).length = L0.length + 1 by simp] at hv1
     subst hv1
     have D6 := Lib.hid (D5.out.put hgr hR)
     have c6 : w6.cell? ⟨w.heap.size + 1, 17, none⟩ = some v := by
      rw [cell_kept (hgr.block _ (zAB D5.out.out) (fun e => by have := (D5.out.own _ e.symm).1; omega))]
      exact D5.out.cell
     have f6 : w6.frozen? ⟨w.heap.size + 1, 17, none⟩ = false := zAP ((hgr.block _ (zAB D5.out.out) (fun e => by have := (D5.out.own _ e.symm).1; omega)).trans D5.out.out) 17
     have xne : x ≠ w.heap.size + 1 := by omega
     have hx6 : w6.heap[x]? = some (.cells (zAj [.string e1.f0, .string e1.f1] e1.f2.f0 e1.f2.f1 e1.f2.f2 e1.f2.f3 e1.f2.f4 e1.f2.f5 e1.f2.f6 (.slice A9 e1.f2.f7.length c9) []) 177 (0, 0)) := (hgr.block x (zAB HX5.out) (fun e => by have := (D5.out.own _ e.symm).1; omega)).trans HX5.out
     refine hK.out _ _ hx6 (fun hHeld => ?_)
     clear hK K hR hbl hgr hat
     try simp only [zAJ]
     refine tkE 313 18 (.pointer (some ⟨w.heap.size + 1, 17, none⟩)) hHeld ?_
     try simp only [zAJ]
     refine wpAnyH_ready (rs := [19]) (by kernel_rfl) (by simp) (AllReadyH.cons rfl (fun K hK => ?_) AllReadyH.nil)
     rw [if_pos (by rfl)]
     go_wp2_with fail
     refine hK.out _ _ (by rw [Below.heap_setCell _ _ _ _ (show x ≠ w.heap.size + 1 from xne)]; exact hHeld) (fun hHeld => ?_)
     clear hK K hHeld hx6 c6 f6
     try simp only [zAJ]
     refine wpAnyH_done (by kernel_rfl) ?_ _
     go_wp2_with fail
     go_roundw
     case rel => exact ⟨k + 1, _, by omega, by go_num, by rw [HT.out]; exact D6⟩
     case measure => simp [intOf]; omega
  ·obtain rfl : k = n := by omega
   have hfull : l.take k = l := List.take_of_length_le (by have := HN.out; omega)
   rw [hfull] at HS
   obtain ⟨A', c', e⟩ := Kd.R_slice HS.out.row
   subst e
   have hr : (wr.setRow w.heap.size (pkN id (.slice A' l.length c'))).heap[w.heap.size]? = some (.cells (pkN id (.slice A' l.length c')) 29 (0, 0)) := zAe HS.out.res
   clear hfull hk hlt
   go_wp2_with (first
    | refine wpList_load_row rfl 29 _ rfl (w.heap.size + 1) rfl 29 (pkN id (.slice A' l.length c')) (0, 0) _ HS.out.out Tryz.underlying29 rfl zAo ?_
    | (refine wpList_store_row rfl 29 _ _ rfl w.heap.size (pkN id (.slice A' l.length c')) rfl rfl 29 pZero HS.out.res zAo rfl (zPD _ _ _ _) ?_))
   refine bodyPost_ret (results_ct Tryz.results33 _ _ w.heap.size 29 (pkN id (.slice A' l.length c')) (0, 0) _ _ rfl rfl hr Tryz.underlying29 rfl zAo) rfl ?_
   have hbw : Below w.heap.size w (wr.setRow w.heap.size (pkN id (.slice A' l.length c'))) := ⟨HS.out.bel.os, HS.out.bel.tape, HS.out.bel.output, by rw [setRow_size]; exact HS.out.bel.size, fun j hj => by rw [setRow_other _ _ _ _ (by omega)]; exact HS.out.bel.block j hj⟩
   refine ⟨_, rfl, fun V hV1 hV2 => ?_, hbw⟩
   have hR := zE3 (w1 := V) HS.out.row (fun j hj1 hj2 => by
    rw [hV2 j (by omega) (by rw [setRow_size]; exact hj2), setRow_other _ _ _ _ (by omega)])
   obtain ⟨A2, c2, e2, hl2, hC2⟩ := Kd.R_reads hR
   injection e2 with e3 _ e4
   subst e3 e4
   exact ⟨none, 0, A', c', none, 0, rfl, zBm V rfl, ⟨hC2, hl2⟩, zBm V rfl⟩
theorem zNp : (Tryz.prog.info? 52).map (fun i => (i.zero, i.size, i.bytes)) = some (some (.agg #[.string ⟨#[]⟩, .string ⟨#[]⟩]), 2, 32) := by kernel_rfl
theorem zNB (A : Option Addr) (n cap : Nat) (l : List S52) (w : World) (hn : n = l.length) (hl : n ≤ 1000) (hp : PAt zBi w A l) :
  Calls Tryz.prog 56 #[.slice A n cap] w fun e w' => ∃ v, e = .returned v ∧ Kd.R k52 52 w' w.heap.size (fun _ => True) v l ∧ Below w.heap.size w w' := by
 have HP := Lib.hid hp
 have HN := Lib.hid hn
 clear hp hn
 go_enter Tryz.func56, Tryz.ntmps56
 go_wp2_with fail
 go_loopw [3, 8] (fun v i wr => ∃ (k : Nat) (v0 : Value), k ≤ n ∧ v = v0 ∧ i = .int .i64 (k : Int) ∧ Hid (Kd.R k52 52 wr w.heap.size (fun _ => True) v0 (l.take k)) ∧ Hid (Below w.heap.size w wr)) (fun _ i _ => n - (intOf i).toNat)
 case atStart => exact ⟨0, _, Nat.zero_le _, rfl, rfl, by rw [List.take_zero]; exact Lib.hid (Kd.R_nil _ _ _ _ _), Lib.hid (Below.refl _ _)⟩
 case round =>
  obtain ⟨k, v0, hk, rfl, rfl, HR, HB⟩ := hrel
  by_cases hlt : k < n
  ·have hkl : k < l.length := by have := HN.out; omega
   have he : l[k]? = some l[k] := List.getElem?_eq_getElem hkl
   obtain ⟨xs, ps, x, rfl, hxs, hcx, hx⟩ := HP.out k _ he
   have HT := Lib.hid (show l.take (k + 1) = l.take k ++ [l[k]] from List.take_succ_eq_append_getElem hkl)
   have hle : (l.take k).length ≤ 1000 := by rw [List.length_take]; omega
   have hx2 := (HB.out.block x (zAB hx)).trans hx
   have cx : wr.cell? ⟨xs, ps + k, none⟩ = some (ptr x) := by rw [cell_kept (HB.out.block xs hxs)]; exact hcx
   have HX := Lib.hid hx2
   have hxl := zAB hx
   have VO := Lib.hid (show ∀ j, u3.ownBlock = some j → w.heap.size ≤ j from fun j hj => by obtain ⟨_, ho⟩ := Kd.R_own HR.out; exact zCt ho j hj)
   have hb4 : Below wr.heap.size wr wr.drew := zAi (Below.refl _ _)
   have R4 := Lib.hid (Kd.R_below HR.out hb4)
   have B4 := Lib.hid (zAi HB.out)
   have hz4 : w.heap.size ≤ wr.drew.heap.size := HB.out.size
   generalize l[k] = e0 at *
   generalize l.take k = L0 at *
   clear he hcx hx hxs hx2 hkl HR HB hb4
   unfold ptr at cx
   go_wp2_with fail
   refine wp_region_held_drew (S := fun w' => w'.heap[x]? = some (.cells #[.string e0.f0, .string e0.f1] 104 (0, 0))) (by kernel_rfl) HX.out (fun hHeld => ?_)
   refine tkE 12 0 u3 hHeld ?_
   try simp only [zAJ]
   refine tkE 13 1 (.pointer (some ⟨x, 0, none⟩)) hHeld ?_
   try simp only [zAJ]
   refine tkE 14 2 (.pointer (some ⟨x, 0, none⟩)) hHeld ?_
   try simp only [zAJ]
   refine tkE 15 3 (.pointer (some ⟨x, 0, none⟩)) hHeld ?_
   try simp only [zAJ]
   refine tkY 16 4 (.string e0.f0) rfl (zAS (by rfl) 9 _ rfl zAl x 0 (by rfl) _ _ (0, 0) _ (fun _ h => h) rfl) hHeld ?_
   try simp only [zAJ]
   refine tkE 17 5 (.pointer (some ⟨x, 0, none⟩)) hHeld ?_
   try simp only [zAJ]
   refine tkE 18 6 (.pointer (some ⟨x, 0, none⟩)) hHeld ?_
   try simp only [zAJ]
   refine tkE 19 7 (.pointer (some ⟨x, 1, none⟩)) hHeld ?_
   try simp only [zAJ]
   refine tkY 20 8 (.string e0.f1) rfl (zAS (by rfl) 9 _ rfl zAl x 1 (by rfl) _ _ (0, 0) _ (fun _ h => h) rfl) hHeld ?_
   try simp only [zAJ]
   refine tkE 21 9 (.agg #[.string e0.f0, .string e0.f1]) hHeld ?_
   try simp only [zAJ]
   refine wpAnyH_ready (rs := [10]) (by kernel_rfl) (by simp) (AllReadyH.cons rfl (fun K hK => ?_) AllReadyH.nil)
   rw [if_pos (by rfl)]
   refine zE4 (.slice (some ⟨wr.heap.size, 0, none⟩) 1 1) (w' := wr.drew.alloc (.cells #[.string e0.f0, .string e0.f1] 52)) (by first | rfl | kernel_rfl) ?_
   refine hK.out _ _ ((heap_alloc_old _ _ (zAB hHeld)).trans hHeld) (fun hHeld => ?_)
   clear hK K
   try simp only [zAJ]
   refine wpAnyH_ready (rs := [11]) (by kernel_rfl) (by simp) (AllReadyH.cons rfl (fun K hK => ?_) AllReadyH.nil)
   refine Kd.R_append_step k52 (w0 := w) w.heap.size (by rfl) (.tmp 12) (.tmp 22) 24 52 _ 32 (by rfl) Tryz.underlying24 zNp rfl (by decide) (by omega) u3 L0 e0 [.string e0.f0, .string e0.f1] (fun _ => True) (fun _ => False) (by rfl) (by rfl) (zJM _ _ _ _) (fun _ h => h.elim) (fun _ _ => trivial) R4.out B4.out hz4 (by omega) ?_
   intro v1 w6 hR6 hb6 hgr hat
   rw [← HT.out] at hR6
   have R6 := Lib.hid hR6
   have B6 := Lib.hid hb6
   refine hK.out _ _ ((hgr.block x (zAB HX.out) (fun e => by have := VO.out x e.symm; omega)).trans HX.out) (fun hHeld => ?_)
   clear hK K hR6 hb6 hgr hat
   try simp only [zAJ]
   refine tkE 3 12 v1 hHeld ?_
   try simp only [zAJ]
   clear hHeld
   refine wpAnyH_done (by kernel_rfl) ?_ _
   go_wp2_with fail
   go_roundw
   case rel => exact ⟨k + 1, _, by omega, rfl, by go_num, R6, B6⟩
   case measure => simp [intOf]; omega
  ·obtain rfl : k = n := by omega
   have hfull : l.take k = l := List.take_of_length_le (by have := HN.out; omega)
   rw [hfull] at HR
   clear hfull hk hlt
   go_wp2_with fail
   go_ret
   exact ⟨_, rfl, HR.out, HB.out⟩
theorem OwnB.form {B : Nat} {w : World} {v : Value} {l : List UInt8} (h : OwnB B w v l) : ∃ A n c, v = .slice A n c := by
 rcases h with ⟨rfl, _⟩ | ⟨h, c, rfl, _⟩
 ·exact ⟨_, _, _, rfl⟩
 ·exact ⟨_, _, _, rfl⟩
theorem OwnB.kept {B : Nat} {w w1 : World} {v : Value} {l : List UInt8} (h : OwnB B w v l) (hs : w.heap.size ≤ w1.heap.size) (hk : ∀ k, B ≤ k → k < w.heap.size → w1.heap[k]? = w.heap[k]?) : OwnB B w1 v l := by
 rcases h with h | ⟨x, c, e, h1, h2, h3⟩
 ·exact .inl h
 ·exact .inr ⟨x, c, e, h1, by omega, h3.1.kept (hk x h1 h2), h3.2⟩
theorem OwnB.lower {B B' : Nat} {w : World} {v : Value} {l : List UInt8} (h : OwnB B w v l) (hB : B' ≤ B) : OwnB B' w v l := by
 rcases h with h | ⟨x, c, e, h1, h2, h3⟩
 ·exact .inl h
 ·exact .inr ⟨x, c, e, Nat.le_trans hB h1, h2, h3⟩
theorem OwnB.conv {B : Nat} {w : World} {v : Value} {d : ByteArray} (h : OwnB B w v (tl d)) (W : World) (hW : Below w.heap.size w W) : (convert 56 9 v).run Tryz.prog W = .ok (.string d) W := by
 rcases h with ⟨rfl, h⟩ | ⟨x, c, rfl, _, h2, h3⟩
 ·have e : d = ⟨#[]⟩ := by
   apply zKs
   rw [h]
   rfl
  rw [e]
  exact run_convert_bytes_nil (P := Tryz.prog) W 56 5 Tryz.underlying56 Tryz.underlying5 0 0 9 Tryz.underlying9
 ·have h9 := zCN W x 0 c _ (h3.1.kept (hW.block x h2)) 56 9 5 Tryz.underlying56 Tryz.underlying5 Tryz.underlying9
  rw [zGx] at h9
  exact h9
theorem zLm (q g o s : Nat) (d : ByteArray) (r : List UInt8) (w : World) (hq : w.heap[q]? = some (.cells #[.slice none 0 0] 170 (0, 0))) (hqg : q ≠ g) (hqs : q ≠ s) (hB : RBuf w g o s (some (str (tl d) ++ r))) (hd : d.size ≤ 1000000) :
  Calls Tryz.prog 182 #[.pointer (some ⟨q, 0, none⟩), .pointer (some ⟨g, o, none⟩)] w fun e w' => ∃ v, e = .returned .nilIface ∧ OwnB w.heap.size w' v (tl d) ∧ w'.heap[q]? = some (.cells #[v] 170 (0, 0)) ∧ UpdG g o q w w' := by
 have hql := zAB hq
 have c0 : w.cell? ⟨q, 0, none⟩ = some (.slice none 0 0) := by rw [zAA hq]; rfl
 have C0 := Lib.hid (zG6 (w0 := w) ⟨hB, hq, UpdG.refl _ _ _ _⟩ hqg hd)
 clear hB hq
 go_enter Tryz.func182, Tryz.ntmps182
 go_wp2_with fail
 refine C0.out.mono ?_
 rintro e w1 ⟨v, rfl, hv, h⟩
 obtain ⟨A, n, c, rfl⟩ := hv.form
 clear C0 c0
 have c0 : w1.cell? ⟨q, 0, none⟩ = some (.slice none 0 0) := by rw [h.cell]; rfl
 have f0 := h.frz 0
 have h9 : RSt w (w1.setCell ⟨q, 0, none⟩ (.slice A n c)) g o s q 170 (some r) #[.slice A n c] := h.set hqg hqs 0 (.slice A n c)
 have v9 : OwnB w.heap.size (w1.setCell ⟨q, 0, none⟩ (.slice A n c)) (.slice A n c) (tl d) := hv.kept (by simp [World.setCell]) (fun k hk _ => Below.heap_setCell _ _ _ _ (by show k ≠ q; omega))
 have cn := h9.nilErr
 have H9 := Lib.hid h9
 have V9 := Lib.hid v9
 clear h h9 v9 hv
 generalize hW : w1.setCell ⟨q, 0, none⟩ (.slice A n c) = W at *
 go_wp2_with fail
 go_ret
 exact ⟨_, rfl, V9.out, H9.out.blk, H9.out.upd⟩
theorem zLn (a : ByteArray) (x : Int) (A : Option Addr) (n c : Nat) : #[Value.string a, .int .u64 x, .slice A n c].all (·.oneCell') = true := by kernel_rfl
theorem zKS (q g o s : Nat) (a : ByteArray) (x : Int) (d : ByteArray) (r : List UInt8) (w : World) (hq : w.heap[q]? = some (.cells #[.string ⟨#[]⟩, .int .u64 0, .slice none 0 0] 128 (0, 0))) (hqg : q ≠ g) (hqs : q ≠ s) (hB : RBuf w g o s (some (str (tl a) ++ (zBN x ++ (str (tl d) ++ r))))) (ha : a.size ≤ 1000000) (x0 : 0 ≤ x) (x1 : x ≤ 18446744073709551615) (hd : d.size ≤ 1000000) :
  Calls Tryz.prog 127 #[.pointer (some ⟨q, 0, none⟩), .pointer (some ⟨g, o, none⟩)] w fun e w' => ∃ v, e = .returned .nilIface ∧ OwnB w.heap.size w' v (tl d) ∧ w'.heap[q]? = some (.cells #[.string a, .int .u64 x, v] 128 (0, 0)) ∧ UpdG g o q w w' := by
 have hql := zAB hq
 have h0 : RSt w w.drew g o s q 128 (some (str (tl a) ++ (zBN x ++ (str (tl d) ++ r)))) #[.string ⟨#[]⟩, .int .u64 0, .slice none 0 0] := ⟨hB.kept rfl rfl (Nat.le_refl _), hq, (UpdG.refl _ _ _ _).keep ⟨rfl, rfl, rfl, Nat.le_refl _, fun _ _ _ => rfl⟩ rfl⟩
 have C0 := Lib.hid (zBK h0 hqg (by omega))
 have H0 := Lib.hid h0
 clear hB hq h0
 go_enter Tryz.func127, Tryz.ntmps127
 go_wp2_with fail
 refine wp_region_held_drew (S := fun _ => True) (by kernel_rfl) trivial (fun hHeld => ?_)
 refine tkE 5 0 (.pointer (some ⟨q, 0, none⟩)) hHeld ?_
 try simp only [zAJ]
 refine tkE 6 1 (.pointer (some ⟨g, o, none⟩)) hHeld ?_
 try simp only [zAJ]
 refine tkE 8 3 (.pointer (some ⟨g, o, none⟩)) hHeld ?_
 try simp only [zAJ]
 refine tkE 10 5 (.pointer (some ⟨g, o, none⟩)) hHeld ?_
 try simp only [zAJ]
 refine tkE 11 6 (.pointer (some ⟨q, 0, none⟩)) hHeld ?_
 try simp only [zAJ]
 refine tkE 12 7 (.pointer (some ⟨q, 0, none⟩)) hHeld ?_
 try simp only [zAJ]
 refine tkE 13 8 (.pointer (some ⟨q, 2, none⟩)) hHeld ?_
 try simp only [zAJ]
 refine wpAnyH_ready (rs := [2, 9]) (by kernel_rfl) (by simp) (AllReadyH.cons rfl (fun K hK => ?_) (AllReadyH.cons rfl (fun K hK => ?_) AllReadyH.nil))
 ·rw [if_pos (by rfl)]
  go_wp2_with (go_at_call 78; refine C0.out.mono ?_; rintro e w1 ⟨rfl, h⟩)
  refine hK.out _ _ trivial (fun hHeld => ?_)
  clear hK K
  try simp only [zAJ]
  have C1 := Lib.hid (zNn h hqg x0 x1)
  clear C0
  refine wpAnyH_ready (rs := [4, 9]) (by kernel_rfl) (by simp) (AllReadyH.cons rfl (fun K hK => ?_) (AllReadyH.cons rfl (fun K hK => ?_) AllReadyH.nil))
  ·rw [if_pos (by rfl)]
   go_wp2_with (go_at_call 112; refine C1.out.mono ?_; rintro e w2 ⟨rfl, h⟩)
   refine hK.out _ _ trivial (fun hHeld => ?_)
   clear hK K
   try simp only [zAJ]
   have zz := h.upd.size
   have C2 := Lib.hid (zG6 h hqg hd)
   clear C1
   refine wpAnyH_ready (rs := [9]) (by kernel_rfl) (by simp) (AllReadyH.cons rfl (fun K hK => ?_) AllReadyH.nil)
   rw [if_pos (by rfl)]
   have co : World.cell? _ ⟨q, 2, none⟩ = some (.slice none 0 0) := (RSt.cell h 2).trans rfl
   go_wp2_with fail
   refine hK.out _ _ trivial (fun hHeld => ?_)
   clear hK K co
   try simp only [zAJ]
   refine wpAnyH_ready (rs := [10]) (by kernel_rfl) (by simp) (AllReadyH.cons rfl (fun K hK => ?_) AllReadyH.nil)
   rw [if_pos (by rfl)]
   go_wp2_with (go_at_call 128; refine C2.out.mono ?_; rintro e w3 ⟨v, rfl, hv, h⟩)
   refine hK.out _ _ trivial (fun hHeld => ?_)
   clear hK K
   try simp only [zAJ]
   obtain ⟨A, n, c, rfl⟩ := hv.form
   clear C2
   refine tkE 16 11 (.agg #[.string a, .int .u64 x, .slice A n c]) hHeld ?_
   try simp only [zAJ]
   refine tkE 17 12 (.pointer (some ⟨q, 0, none⟩)) hHeld ?_
   try simp only [zAJ]
   have h9 := h.setRow hqg hqs #[.string a, .int .u64 x, .slice A n c]
   have cn := h9.nilErr
   have V9 := Lib.hid (hv.kept (w1 := w3.setRow q #[.string a, .int .u64 x, .slice A n c]) (by rw [setRow_size]; exact Nat.le_refl _) (fun k hk _ => setRow_other _ _ _ _ (by omega)))
   have H9 := Lib.hid h9
   have H3 := Lib.hid h.blk
   clear h h9 hv
   refine wpAnyH_ready (rs := [13]) (by kernel_rfl) (by simp) (AllReadyH.cons rfl (fun K hK => ?_) AllReadyH.nil)
   rw [if_pos (by rfl)]
   refine wp_store_row 128 _ _ rfl q #[.string a, .int .u64 x, .slice A n c] (by rfl) (by rfl) 128 _ H3.out (by kernel_rfl) rfl (zLn _ _ _ _ _) ?_
   refine hK.out _ _ trivial (fun hHeld => ?_)
   clear hK K hHeld
   generalize hW : w3.setRow q #[.string a, .int .u64 x, .slice A n c] = W at *
   try simp only [zAJ]
   refine wpAnyH_done (by kernel_rfl) ?_ _
   go_wp2_with fail
   go_ret
   exact ⟨_, rfl, V9.out.lower zz, H9.out.blk, H9.out.upd⟩
  ·rw [if_pos (by rfl)]
   have co : World.cell? _ ⟨q, 2, none⟩ = some (.slice none 0 0) := (RSt.cell h 2).trans rfl
   go_wp2_with fail
   refine hK.out _ _ trivial (fun hHeld => ?_)
   clear hK K co
   try simp only [zAJ]
   refine wpAnyH_ready (rs := [4]) (by kernel_rfl) (by simp) (AllReadyH.cons rfl (fun K hK => ?_) AllReadyH.nil)
   rw [if_pos (by rfl)]
   go_wp2_with (go_at_call 112; refine C1.out.mono ?_; rintro e w2 ⟨rfl, h⟩)
   refine hK.out _ _ trivial (fun hHeld => ?_)
   clear hK K
   try simp only [zAJ]
   have zz := h.upd.size
   have C2 := Lib.hid (zG6 h hqg hd)
   clear C1
   refine wpAnyH_ready (rs := [10]) (by kernel_rfl) (by simp) (AllReadyH.cons rfl (fun K hK => ?_) AllReadyH.nil)
   rw [if_pos (by rfl)]
   go_wp2_with (go_at_call 128; refine C2.out.mono ?_; rintro e w3 ⟨v, rfl, hv, h⟩)
   refine hK.out _ _ trivial (fun hHeld => ?_)
   clear hK K
   try simp only [zAJ]
   obtain ⟨A, n, c, rfl⟩ := hv.form
   clear C2
   refine tkE 16 11 (.agg #[.string a, .int .u64 x, .slice A n c]) hHeld ?_
   try simp only [zAJ]
   refine tkE 17 12 (.pointer (some ⟨q, 0, none⟩)) hHeld ?_
   try simp only [zAJ]
   have h9 := h.setRow hqg hqs #[.string a, .int .u64 x, .slice A n c]
   have cn := h9.nilErr
   have V9 := Lib.hid (hv.kept (w1 := w3.setRow q #[.string a, .int .u64 x, .slice A n c]) (by rw [setRow_size]; exact Nat.le_refl _) (fun k hk _ => setRow_other _ _ _ _ (by omega)))
   have H9 := Lib.hid h9
   have H3 := Lib.hid h.blk
   clear h h9 hv
   refine wpAnyH_ready (rs := [13]) (by kernel_rfl) (by simp) (AllReadyH.cons rfl (fun K hK => ?_) AllReadyH.nil)
   rw [if_pos (by rfl)]
   refine wp_store_row 128 _ _ rfl q #[.string a, .int .u64 x, .slice A n c] (by rfl) (by rfl) 128 _ H3.out (by kernel_rfl) rfl (zLn _ _ _ _ _) ?_
   refine hK.out _ _ trivial (fun hHeld => ?_)
   clear hK K hHeld
   generalize hW : w3.setRow q #[.string a, .int .u64 x, .slice A n c] = W at *
   try simp only [zAJ]
   refine wpAnyH_done (by kernel_rfl) ?_ _
   go_wp2_with fail
   go_ret
   exact ⟨_, rfl, V9.out.lower zz, H9.out.blk, H9.out.upd⟩
 ·rw [if_pos (by rfl)]
  have co : World.cell? _ ⟨q, 2, none⟩ = some (.slice none 0 0) := (RSt.cell H0.out 2).trans rfl
  go_wp2_with fail
  refine hK.out _ _ trivial (fun hHeld => ?_)
  clear hK K co
  try simp only [zAJ]
  refine wpAnyH_ready (rs := [2]) (by kernel_rfl) (by simp) (AllReadyH.cons rfl (fun K hK => ?_) AllReadyH.nil)
  rw [if_pos (by rfl)]
  go_wp2_with (go_at_call 78; refine C0.out.mono ?_; rintro e w1 ⟨rfl, h⟩)
  refine hK.out _ _ trivial (fun hHeld => ?_)
  clear hK K
  try simp only [zAJ]
  have C1 := Lib.hid (zNn h hqg x0 x1)
  clear C0
  refine wpAnyH_ready (rs := [4]) (by kernel_rfl) (by simp) (AllReadyH.cons rfl (fun K hK => ?_) AllReadyH.nil)
  rw [if_pos (by rfl)]
  go_wp2_with (go_at_call 112; refine C1.out.mono ?_; rintro e w2 ⟨rfl, h⟩)
  refine hK.out _ _ trivial (fun hHeld => ?_)
  clear hK K
  try simp only [zAJ]
  have zz := h.upd.size
  have C2 := Lib.hid (zG6 h hqg hd)
  clear C1
  refine wpAnyH_ready (rs := [10]) (by kernel_rfl) (by simp) (AllReadyH.cons rfl (fun K hK => ?_) AllReadyH.nil)
  rw [if_pos (by rfl)]
  go_wp2_with (go_at_call 128; refine C2.out.mono ?_; rintro e w3 ⟨v, rfl, hv, h⟩)
  refine hK.out _ _ trivial (fun hHeld => ?_)
  clear hK K
  try simp only [zAJ]
  obtain ⟨A, n, c, rfl⟩ := hv.form
  clear C2
  refine tkE 16 11 (.agg #[.string a, .int .u64 x, .slice A n c]) hHeld ?_
  try simp only [zAJ]
  refine tkE 17 12 (.pointer (some ⟨q, 0, none⟩)) hHeld ?_
  try simp only [zAJ]
  have h9 := h.setRow hqg hqs #[.string a, .int .u64 x, .slice A n c]
  have cn := h9.nilErr
  have V9 := Lib.hid (hv.kept (w1 := w3.setRow q #[.string a, .int .u64 x, .slice A n c]) (by rw [setRow_size]; exact Nat.le_refl _) (fun k hk _ => setRow_other _ _ _ _ (by omega)))
  have H9 := Lib.hid h9
  have H3 := Lib.hid h.blk
  clear h h9 hv
  refine wpAnyH_ready (rs := [13]) (by kernel_rfl) (by simp) (AllReadyH.cons rfl (fun K hK => ?_) AllReadyH.nil)
  rw [if_pos (by rfl)]
  refine wp_store_row 128 _ _ rfl q #[.string a, .int .u64 x, .slice A n c] (by rfl) (by rfl) 128 _ H3.out (by kernel_rfl) rfl (zLn _ _ _ _ _) ?_
  refine hK.out _ _ trivial (fun hHeld => ?_)
  clear hK K hHeld
  generalize hW : w3.setRow q #[.string a, .int .u64 x, .slice A n c] = W at *
  try simp only [zAJ]
  refine wpAnyH_done (by kernel_rfl) ?_ _
  go_wp2_with fail
  go_ret
  exact ⟨_, rfl, V9.out.lower zz, H9.out.blk, H9.out.upd⟩
theorem zLo (q : Value) (w : World) : Calls Tryz.prog 181 #[q] w fun e w' => e = .returned (.int .u8 103) ∧ w = w' := by
 go_enter Tryz.func181, Tryz.ntmps181
 go_wp2
 go_ret
 exact ⟨rfl, rfl⟩
theorem zKT (id : Int) (w : World) (v : Value) (d : ByteArray) (hv : ∀ W, Below w.heap.size w W → (convert 56 9 v).run Tryz.prog W = .ok (.string d) W) (k : Nat) (hb : w.heap[k]? = some (.cells #[v] 170 (0, 0))) {p : Pk} (hp : p = (⟨103, id, e0, e0, e0, 0, 0, 0, d, ⟨0, 0, 0, 0, 0, 0, 0, []⟩, [], [], 0, 0, e0, e0, e0⟩ : Pk) := by rfl) :
  Calls Tryz.prog 33 #[.int .u32 id, .iface 168 (.pointer (some ⟨k, 0, none⟩))] w (zBL p w) := by
 have ta := @taB
 obtain ⟨W0, W1, W2, X0, X1, X2, K1, P⟩ := zB9 w 103 id
 have cd := P.o1 hb
 have kc := hv W2 (P.b)
 obtain ⟨c8, f8⟩ := P.cel 8 (.string ⟨#[]⟩)
 obtain ⟨W3, W4, X3, X4, K3, J3, J4, B4⟩ := (P.set 8 (.string d)).fin p (by rw [hp]; rfl)
 have S0 := Lib.hid P.s
 clear P hb hv
 go_enter Tryz.func33, Tryz.ntmps33
 go_wp2_with (first
  | refine arA 4 X0 ?_
  | refine arA 6 X1 ?_
  | refine arB 41 (z24 103 id) ?_
  | refine arS K1 X2 ?_
  | (go_at_call 181; refine (zLo _ _).mono ?_; rintro e w' ⟨rfl, rfl⟩)
  | (refine zAx 349 rfl ?_; rw [X3.out])
  | refine arL K3 ?_
  | refine arS J3 X4 ?_)
 refine bodyPost_ret (results_ct Tryz.results33 _ _ _ _ _ (0, 0) _ _ rfl rfl J4.out Tryz.underlying29 rfl zAo) rfl ?_
 subst hp
 exact ⟨_, rfl, zBF _ _ _ rfl rfl rfl, B4.out⟩
theorem zKU (q : Value) (w : World) : Calls Tryz.prog 126 #[q] w fun e w' => e = .returned (.int .u8 6) ∧ w = w' := by
 go_enter Tryz.func126, Tryz.ntmps126
 go_wp2
 go_ret
 exact ⟨rfl, rfl⟩
theorem zIk (id : Int) (w : World) (a : ByteArray) (x : Int) (v : Value) (d : ByteArray) (hv : ∀ W, Below w.heap.size w W → (convert 56 9 v).run Tryz.prog W = .ok (.string d) W) (k : Nat) (hb : w.heap[k]? = some (.cells #[.string a, .int .u64 x, v] 128 (0, 0))) {p : Pk} (hp : p = (⟨6, id, e0, e0, a, x, 0, 0, d, ⟨0, 0, 0, 0, 0, 0, 0, []⟩, [], [], 0, 0, e0, e0, e0⟩ : Pk) := by rfl) :
  Calls Tryz.prog 33 #[.int .u32 id, .iface 126 (.pointer (some ⟨k, 0, none⟩))] w (zBL p w) := by
 have ta := @taB
 obtain ⟨W0, W1, W2, X0, X1, X2, K1, P⟩ := zB9 w 6 id
 obtain ⟨cd0, cd1, cd2⟩ := P.o3 hb
 have kc := hv W2.drew (zAi P.b)
 obtain ⟨c4, f4⟩ := P.cel 4 (.string ⟨#[]⟩)
 obtain ⟨c5, f5⟩ := P.cel 5 (.int .u64 0)
 obtain ⟨c8, f8⟩ := P.cel 8 (.string ⟨#[]⟩)
 obtain ⟨W3, W4, X3, X4, K3, J3, J4, B4⟩ := (((P.set 4 (.string a)).set 5 (.int .u64 x)).set 8 (.string d)).drew.fin p (by rw [hp]; rfl)
 have S0 := Lib.hid P.s
 clear P hb hv
 go_enter Tryz.func33, Tryz.ntmps33
 go_wp2_with (first
  | refine arA 4 X0 ?_
  | refine arA 6 X1 ?_
  | refine arB 41 (z24 6 id) ?_
  | refine arS K1 X2 ?_
  | (go_at_call 126; refine (zKU _ _).mono ?_; rintro e w' ⟨rfl, rfl⟩))
 go_still_tail 13, (by kernel_rfl)
 go_wp2_with (first
  | (refine zAx 349 rfl ?_; rw [X3.out])
  | refine arL K3 ?_
  | refine arS J3 X4 ?_)
 refine bodyPost_ret (results_ct Tryz.results33 _ _ _ _ _ (0, 0) _ _ rfl rfl J4.out Tryz.underlying29 rfl zAo) rfl ?_
 subst hp
 exact ⟨_, rfl, zBF _ _ _ rfl rfl rfl, B4.out⟩
theorem zNq (q s o c : Nat) (d : ByteArray) (w : World) (hq : w.heap[q]? = some (.cells #[.slice none 0 0, .int .i64 0, .nilIface] 83 (0, 0))) (hqs : q ≠ s) (hl : Lies w s o (tl d)) (hs : s < w.heap.size) (hc : d.size ≤ c) (hd : d.size ≤ 1000000) :
  Calls Tryz.prog 247 #[.pointer (some ⟨q, 0, none⟩), .slice (some ⟨s, o, none⟩) d.size c] w fun e w' => ∃ v, e = .returned .nilIface ∧ OwnB w.heap.size w' v (tl d) ∧ w'.heap[q]? = some (.cells #[v, .int .i64 0, .nilIface] 83 (0, 0)) ∧ UpdB (fun k => k = q) w w' := by
 have hql := zAB hq
 have c0 : w.cell? ⟨q, 0, none⟩ = some (.slice none 0 0) := by rw [zAA hq]; rfl
 have c1 : w.cell? ⟨q, 1, none⟩ = some (.int .i64 0) := by rw [zAA hq]; rfl
 have fq := zAP hq
 have f0 := fq 0
 have f1 := fq 1
 have HL := Lib.hid (zAH d)
 by_cases hz : d.size = 0
 ·have hz1 : tl d = [] := List.eq_nil_of_length_eq_zero (by rw [HL.out]; exact hz)
  obtain ⟨W1, hW1⟩ : ∃ W, (w.setCell ⟨q, 0, none⟩ (.slice none 0 0)).setCell ⟨q, 1, none⟩ (.int .i64 0) = W := ⟨_, rfl⟩
  have b0 : (w.setCell ⟨q, 0, none⟩ (.slice none 0 0)).heap[q]? = some (.cells #[.slice none 0 0, .int .i64 0, .nilIface] 83 (0, 0)) := zAU hq _
  have b1 : W1.heap[q]? = some (.cells #[.slice none 0 0, .int .i64 0, .nilIface] 83 (0, 0)) := by rw [← hW1]; exact zAU b0 _
  have u1 : UpdB (fun k => k = q) w W1 := by rw [← hW1]; exact ((UpdB.refl (fun k => k = q) w).setCell (a := ⟨q, 0, none⟩) rfl _).setCell (a := ⟨q, 1, none⟩) rfl _
  have B1 := Lib.hid b1
  have U1 := Lib.hid u1
  have X1 := Lib.hid hW1
  have Z1 := Lib.hid hz1
  rw [hz]
  clear hq fq hl hs hc hd hz hz1 b0 b1 u1 hW1 HL
  go_enter Tryz.func247, Tryz.ntmps247
  go_wp2_with (refine wpList_copy_nothing rfl (.tmp 29) (.tmp 30) 56 56 rfl 5 Tryz.underlying56 zCv none (some ⟨s, o, none⟩) 0 0 0 c rfl rfl rfl ?_)
  go_ret
  rw [X1.out]
  exact ⟨_, rfl, .inl ⟨rfl, Z1.out⟩, B1.out, U1.out⟩
 ·obtain ⟨i0, hi, hzz⟩ := Option.map_eq_some_iff.1 zBx
  simp only [Prod.mk.injEq] at hzz
  obtain ⟨hz0, hz1, hz2⟩ := hzz
  have hn0 : 0 < d.size := by omega
  have hra := Lib.run_append_nil_zeros (P := Tryz.prog) w 56 3 56 5 i0 (.int .u8 0) .i64 .i64 Tryz.underlying56 Tryz.underlying3 hi hz0 d.size hn0 (by omega) (by omega) (by rw [hz2]; omega)
  rw [zES] at hra
  have hcap : d.size ≤ grownCap w d.size 0 5 := grownCap_ge _ _ _ _
  rw [show d.size + (grownCap w d.size 0 5 - d.size) = grownCap w d.size 0 5 from by omega] at hra
  generalize hG : grownCap w d.size 0 5 = G at hra hcap
  obtain ⟨W2, hW2⟩ : ∃ W, w.drew.alloc (.cells (List.replicate G (u8 0)).toArray 5) = W := ⟨_, rfl⟩
  rw [hW2] at hra
  have k2 : W2.heap[w.heap.size]? = some (.cells (List.replicate G (u8 0)).toArray 5 (0, 0)) := by rw [← hW2]; exact heap_alloc_new _ _
  have b2 : Below w.heap.size w W2 := by rw [← hW2]; exact (zAi (Below.refl w.heap.size w)).alloc (Nat.le_refl _) _
  have q2 := (b2.block q hql).trans hq
  have g0 : W2.cell? ⟨q, 0, none⟩ = some (.slice none 0 0) := by rw [zAA q2]; rfl
  have h0 : W2.frozen? ⟨q, 0, none⟩ = false := zAP q2 0
  have q3 : (W2.setCell ⟨q, 0, none⟩ (.slice (some ⟨w.heap.size, 0, none⟩) d.size G)).heap[q]? = some (.cells #[.slice (some ⟨w.heap.size, 0, none⟩) d.size G, .int .i64 0, .nilIface] 83 (0, 0)) := zAU q2 _
  have o3 : ∀ k, k ≠ q → (W2.setCell ⟨q, 0, none⟩ (.slice (some ⟨w.heap.size, 0, none⟩) d.size G)).heap[k]? = W2.heap[k]? := fun k hk => Below.heap_setCell _ _ _ _ hk
  have k3 := (o3 w.heap.size (by omega)).trans k2
  have l3 : Lies (W2.setCell ⟨q, 0, none⟩ (.slice (some ⟨w.heap.size, 0, none⟩) d.size G)) s o (tl d) := (hl.kept (b2.block s hs)).kept (o3 s (Ne.symm hqs))
  have z3 : (W2.setCell ⟨q, 0, none⟩ (.slice (some ⟨w.heap.size, 0, none⟩) d.size G)).heap.size = W2.heap.size := by simp [World.setCell]
  have hsrc : ∀ j v, (u8s (tl d))[j]? = some v → (W2.setCell ⟨q, 0, none⟩ (.slice (some ⟨w.heap.size, 0, none⟩) d.size G)).cell? (Addr.add ⟨s, o, none⟩ j) = some v := fun j v hj => by
   simp only [u8s, List.getElem?_map, Option.map_eq_some_iff] at hj
   obtain ⟨x, hx, rfl⟩ := hj
   rw [add_plain]
   exact l3 j x hx
  have hone : ∀ v ∈ u8s (tl d), v.oneCell' = true := by
   intro v hv
   simp only [u8s, List.mem_map] at hv
   obtain ⟨x, _, rfl⟩ := hv
   rfl
  have hcs : (u8s (tl d)).length = d.size := by rw [zBD, HL.out]
  have e1 : (d.size : Int) ≤ (G : Int) := by omega
  have e2 : (0 : Int) < (d.size : Int) := by omega
  have u3 : UpdB (fun k => k = q) w (W2.setCell ⟨q, 0, none⟩ (.slice (some ⟨w.heap.size, 0, none⟩) d.size G)) := UpdB.setCell (ks := fun k => k = q) ⟨b2.os, b2.tape, b2.output, b2.size, fun k hk _ => b2.block k hk⟩ (a := ⟨q, 0, none⟩) rfl _
  have K3 := Lib.hid k3
  have Q3 := Lib.hid q3
  have U3 := Lib.hid u3
  have HS := Lib.hid hsrc
  have HO := Lib.hid hone
  have HC := Lib.hid hcs
  have RA := Lib.hid hra
  have CP := Lib.hid hcap
  have B2 := Lib.hid b2.size
  have Z3 := Lib.hid z3
  have HQ := Lib.hid hql
  clear hq fq hl hs hW2 k2 b2 q2 q3 o3 k3 l3 z3 hsrc hone hcs hz0 hz1 hz2 hi hn0 hG hra hcap hz u3 hc hql
  go_enter Tryz.func247, Tryz.ntmps247
  go_wp2_with (first | refine Lib.wpList_append_run w rfl (.tmp 21) (.tmp 22) 56 3 rfl _ _ rfl rfl _ _ RA.out ?_ | (refine wpList_copy_splice rfl (.tmp 29) (.tmp 30) 56 56 rfl 5 Tryz.underlying56 zCv (some ⟨w.heap.size, 0, none⟩) (some ⟨s, o, none⟩) d.size G d.size c rfl rfl w.heap.size 0 (List.replicate G (u8 0)) 5 K3.out (u8s (tl d)) (by rw [HC.out]; simp) (fun _ => ⟨rfl, _, rfl, HS.out⟩) (by rw [HC.out, List.length_replicate]; have := CP.out; omega) HO.out w.heap.size (W2.setCell ⟨q, 0, none⟩ (.slice (some ⟨w.heap.size, 0, none⟩) d.size G)) (Below.refl _ _) (Nat.le_refl _) ?_; intro w4 hw4 hb4; rw [HC.out]; have q4 := (hb4.block q HQ.out).trans Q3.out; have c4 : w4.cell? ⟨q, 0, none⟩ = some (.slice (some ⟨w.heap.size, 0, none⟩) d.size G) := (zAA q4 0).trans rfl; have c5 : w4.cell? ⟨q, 1, none⟩ = some (.int .i64 0) := (zAA q4 1).trans rfl; have f4 := zAP q4 0; have f5 := zAP q4 1; have Q4 := Lib.hid q4; clear q4))
  go_ret
  have b5 : (w4.setCell ⟨q, 0, none⟩ (.slice (some ⟨w.heap.size, 0, none⟩) d.size G)).heap[q]? = some (.cells #[.slice (some ⟨w.heap.size, 0, none⟩) d.size G, .int .i64 0, .nilIface] 83 (0, 0)) := zAU Q4.out _
  have b6 : ((w4.setCell ⟨q, 0, none⟩ (.slice (some ⟨w.heap.size, 0, none⟩) d.size G)).setCell ⟨q, 1, none⟩ (.int .i64 0)).heap[q]? = some (.cells #[.slice (some ⟨w.heap.size, 0, none⟩) d.size G, .int .i64 0, .nilIface] 83 (0, 0)) := zAU b5 _
  have hq9 := HQ.out
  have hu := U3.out
  have hw5 : ((w4.setCell ⟨q, 0, none⟩ (.slice (some ⟨w.heap.size, 0, none⟩) d.size G)).setCell ⟨q, 1, none⟩ (.int .i64 0)).heap[w.heap.size]? = some (.cells (splice (List.replicate G (u8 0)) 0 (u8s (tl d))).toArray 5 (0, 0)) := by
   rw [Below.heap_setCell _ _ _ _ (by show w.heap.size ≠ q; omega), Below.heap_setCell _ _ _ _ (by show w.heap.size ≠ q; omega)]
   exact hw4.out
  refine ⟨_, rfl, .inr ⟨w.heap.size, G, by rw [HL.out], Nat.le_refl _, zAB hw5, fun j x hj => ?_, by rw [HL.out]; exact CP.out⟩, b6, UpdB.setCell (UpdB.setCell ⟨hb4.os.trans hu.os, hb4.tape.trans hu.tape, hb4.output.trans hu.output, Nat.le_trans hu.size hb4.size, fun k hk e => (hb4.block k hk).trans (hu.block k hk e)⟩ (a := ⟨q, 0, none⟩) rfl _) (a := ⟨q, 1, none⟩) rfl _⟩
  have hjl : j < (u8s (tl d)).length := by rw [zBD]; exact (List.getElem?_eq_some_iff.1 hj).1
  rw [Nat.zero_add, zAA hw5, List.getElem?_toArray]
  unfold splice
  rw [List.take_zero, List.nil_append, List.getElem?_append_left hjl, u8s, List.getElem?_map, hj]
  rfl
theorem zLp (q : Value) (w : World) : Calls Tryz.prog 99 #[q] w fun e w' => e = .returned (.int .u8 3) ∧ w = w' := by
 go_enter Tryz.func99, Tryz.ntmps99
 go_wp2
 go_ret
 exact ⟨rfl, rfl⟩
theorem zKV (id : Int) (a : ByteArray) (x : Int) (a9 : Ats) (A : Option Addr) (n c : Nat) (k : Nat) (w : World) (hb : w.heap[k]? = some (.cells (zAj [.string a, .int .u32 x] a9.f0 a9.f1 a9.f2 a9.f3 a9.f4 a9.f5 a9.f6 (.slice A n c) []) 119 (0, 0))) (hn : n = (a9.f7.map zAY).length) (hn2 : n ≤ 4294967295) (hc : n ≤ c) (hC : Kd.C k206 w A n (a9.f7.map zAY)) :
  Calls Tryz.prog 33 #[.int .u32 id, .iface 112 (.pointer (some ⟨k, 0, none⟩))] w (zBL (⟨3, id, a, e0, e0, 0, 0, x, e0, a9, [], [], 0, 0, e0, e0, e0⟩ : Pk) w) := by
 have hbl := zAB hb
 have ta := @taB
 obtain ⟨W0, W1, W2, X0, X1, X2, K1, k2, j2, hbel, s0⟩ := zCq w 3 id
 have o0 : PSt w W2 W2 k 119 (zAj [.string a, .int .u32 x] a9.f0 a9.f1 a9.f2 a9.f3 a9.f4 a9.f5 a9.f6 (.slice A n c) []) (z24 3 id) := ⟨(hbel.block k hbl).trans hb, j2, by rw [← s0]; exact k2, hbel, rfl, hbl, fun _ _ => rfl, rfl⟩
 have hC2 : Kd.C k206 W2.drew A n (a9.f7.map zAY) := Kd.C_below hC (zAi hbel)
 subst hn
 have TC := Lib.hid (zFn a9.f0 a9.f1 a9.f2 a9.f3 a9.f4 a9.f5 a9.f6 A _ c _ W2.drew rfl (by omega) hC2 hc)
 have zW : W2.drew.heap.size = W2.heap.size := rfl
 have S2 := Lib.hid (show w.heap.size + 1 < W2.heap.size from zAB o0.out)
 have O0 := Lib.hid o0
 have X3 := Lib.hid (show W1.setRow (w.heap.size + 1) (z24 3 id) = W2 by rw [← s0]; exact X2.out)
 have S0 := Lib.hid s0
 clear hb hC hC2 k2 j2 hbel o0 s0 hbl
 generalize (a9.f7.map zAY).length = n at *
 go_enter Tryz.func33, Tryz.ntmps33
 go_wp2_with (first
  | (refine wpList_allocTo rfl (some 4) rfl (.pointer (some ⟨w.heap.size, 0, none⟩)) (.cells pZero 29) (by as_aux_lemma => kernel_rfl) ?_; rw [X0.out])
  | (refine wpList_allocTo rfl (some 6) rfl (.pointer (some ⟨w.heap.size + 1, 0, none⟩)) (.cells pZero 29) (by rw [← S0.out]; as_aux_lemma => kernel_rfl) ?_; rw [X1.out])
  | refine wpList_buildTo rfl 29 _ rfl (some 41) rfl (z24 3 id) (by as_aux_lemma => kernel_rfl) ?_
  | (refine wpList_store_row rfl 29 _ _ rfl (w.heap.size + 1) (z24 3 id) rfl rfl 29 pZero (by rw [← S0.out]; exact K1.out) zAo rfl (zC3 _ _) ?_; rw [X3.out])
  | (go_at_call 99; refine (zLp _ _).mono ?_; rintro e w' ⟨rfl, rfl⟩))
 refine wp_region_held_drew (S := fun w' => w'.heap[k]? = some (.cells (zAj [.string a, .int .u32 x] a9.f0 a9.f1 a9.f2 a9.f3 a9.f4 a9.f5 a9.f6 (.slice A n c) []) 119 (0, 0))) (by kernel_rfl) O0.out.drew.src (fun hHeld => ?_)
 have o0 := O0.out.drew
 clear O0
 refine tkE 47 0 (.pointer (some ⟨k, 0, none⟩)) hHeld ?_
 try simp only [zAJ]
 refine tkE 48 1 (.pointer (some ⟨k, 0, none⟩)) hHeld ?_
 try simp only [zAJ]
 refine tkE 49 2 (.pointer (some ⟨k, 0, none⟩)) hHeld ?_
 try simp only [zAJ]
 refine tkY 50 3 (.string a) rfl (zAS (by rfl) 9 _ rfl zAl k 0 (by rfl) _ _ (0, 0) _ (fun _ h => h) rfl) hHeld ?_
 try simp only [zAJ]
 refine tkE 51 4 (.pointer (some ⟨k, 0, none⟩)) hHeld ?_
 try simp only [zAJ]
 refine tkE 52 5 (.pointer (some ⟨k, 0, none⟩)) hHeld ?_
 try simp only [zAJ]
 refine tkE 53 6 (.pointer (some ⟨k, 1, none⟩)) hHeld ?_
 try simp only [zAJ]
 refine tkY 54 7 (.int .u32 x) rfl (zAS (by rfl) 22 _ rfl zC8 k 1 (by rfl) _ _ (0, 0) _ (fun _ h => h) rfl) hHeld ?_
 try simp only [zAJ]
 refine tkE 55 8 (.pointer (some ⟨k, 0, none⟩)) hHeld ?_
 try simp only [zAJ]
 refine tkE 56 9 (.pointer (some ⟨k, 0, none⟩)) hHeld ?_
 try simp only [zAJ]
 refine tkE 57 10 (.pointer (some ⟨k, 2, none⟩)) hHeld ?_
 try simp only [zAJ]
 refine tkY 58 11 (.agg (at8 a9.f0 a9.f1 a9.f2 a9.f3 a9.f4 a9.f5 a9.f6 (.slice A n c)).toList.toArray) rfl (yieldsIf_load_mid (by rfl) 116 _ (by rfl) k 2 (by rfl) (at8 a9.f0 a9.f1 a9.f2 a9.f3 a9.f4 a9.f5 a9.f6 (.slice A n c)).toList _ (fun w' hw' j v hj => by rw [zAA hw']; exact zDQ rfl j v hj) Tryz.underlying116 rfl (zCe _ _ _ _ _ _ _ _)) hHeld ?_
 try simp only [zAJ]
 rw [Array.toArray_toList]
 refine wpAnyH_ready (rs := [12]) (by kernel_rfl) (by simp) (AllReadyH.cons rfl (fun K hK => ?_) AllReadyH.nil)
 rw [if_pos (by rfl)]
 go_wp2_with (go_at_call 61; refine TC.out.mono ?_; rintro e w5 ⟨v, rfl, hv, hb5⟩)
 obtain ⟨A', c', rfl, hS⟩ := zDI hv
 have z5 := hb5.size
 have o0 := o0.call hb5
 refine hK.out _ _ o0.src (fun hHeld => ?_)
 clear hK K
 try simp only [zAJ]
 refine tkE 60 13 (.pointer (some ⟨w.heap.size + 1, 2, none⟩)) hHeld ?_
 try simp only [zAJ]
 refine wpAnyH_ready (rs := [14]) (by kernel_rfl) (by simp) (AllReadyH.cons rfl (fun K hK => ?_) AllReadyH.nil)
 rw [if_pos (by rfl)]
 refine zAt 9 _ _ rfl zAw (w.heap.size + 1) 2 (by rfl) (.string a) (by rfl) _ _ o0.out (by have := o0.sz; omega) rfl rfl ?_
 have o1 : PSt w w5 _ k _ _ (pkC (⟨3, id, a, e0, e0, 0, 0, 0, e0, ⟨0, 0, 0, 0, 0, 0, 0, []⟩, [], [], 0, 0, e0, e0, e0⟩ : Pk) none 0 none 0 none 0) := PSt.s2 (q := (⟨3, id, e0, e0, e0, 0, 0, 0, e0, ⟨0, 0, 0, 0, 0, 0, 0, []⟩, [], [], 0, 0, e0, e0, e0⟩ : Pk)) o0 a
 refine hK.out _ _ o1.src (fun hHeld => ?_)
 clear hK K
 try simp only [zAJ]
 refine tkE 61 15 (.pointer (some ⟨w.heap.size + 1, 7, none⟩)) hHeld ?_
 try simp only [zAJ]
 refine wpAnyH_ready (rs := [16]) (by kernel_rfl) (by simp) (AllReadyH.cons rfl (fun K hK => ?_) AllReadyH.nil)
 rw [if_pos (by rfl)]
 refine zAt 22 _ _ rfl zEN (w.heap.size + 1) 7 (by rfl) (.int .u32 x) (by rfl) _ _ o1.out (by have := o1.sz; omega) rfl rfl ?_
 have o2 : PSt w w5 _ k _ _ (pkC (⟨3, id, a, e0, e0, 0, 0, x, e0, ⟨0, 0, 0, 0, 0, 0, 0, []⟩, [], [], 0, 0, e0, e0, e0⟩ : Pk) none 0 none 0 none 0) := PSt.s7 (q := (⟨3, id, a, e0, e0, 0, 0, 0, e0, ⟨0, 0, 0, 0, 0, 0, 0, []⟩, [], [], 0, 0, e0, e0, e0⟩ : Pk)) o1 x
 refine hK.out _ _ o2.src (fun hHeld => ?_)
 clear hK K
 try simp only [zAJ]
 refine tkE 62 17 (.pointer (some ⟨w.heap.size + 1, 9, none⟩)) hHeld ?_
 try simp only [zAJ]
 refine wpAnyH_ready (rs := [18]) (by kernel_rfl) (by simp) (AllReadyH.cons rfl (fun K hK => ?_) AllReadyH.nil)
 rw [if_pos (by rfl)]
 refine wp_store_mid 26 _ _ rfl (w.heap.size + 1) 9 (at8 a9.f0 a9.f1 a9.f2 a9.f3 a9.f4 a9.f5 a9.f6 (.slice A' a9.f7.length c')) (by rfl) (by rfl) (zB2 o2.out 9 8 (by have := o2.sz; omega)) (zBQ _ _ _ _ _ _ _ _) (zFT _ _ _ _ _ _ _ _ _ _) ?_
 have o3 : PSt w w5 _ k _ _ (pkC (⟨3, id, a, e0, e0, 0, 0, x, e0, a9, [], [], 0, 0, e0, e0, e0⟩ : Pk) A' c' none 0 none 0) := PSt.s9 (q := (⟨3, id, a, e0, e0, 0, 0, x, e0, ⟨0, 0, 0, 0, 0, 0, 0, []⟩, [], [], 0, 0, e0, e0, e0⟩ : Pk)) o2 a9 A' c'
 refine hK.out _ _ o3.src (fun hHeld => ?_)
 clear hK K
 try simp only [zAJ]
 clear hHeld
 generalize ((w5.setCell ⟨w.heap.size + 1, 2, none⟩ (.string a)).setCell ⟨w.heap.size + 1, 7, none⟩ (.int .u32 x)).setCells (w.heap.size + 1) 9 (at8 a9.f0 a9.f1 a9.f2 a9.f3 a9.f4 a9.f5 a9.f6 (.slice A' a9.f7.length c')).toList = W9 at o3 ⊢
 have OF := Lib.hid o3
 have HS := Lib.hid hS
 have ZB := Lib.hid z5
 clear o0 o1 o2 o3 hS hv hb5 TC K1 X0 X1 X2 z5
 refine wpAnyH_done (by kernel_rfl) ?_ _
 go_wp2_with (first
  | refine wpList_load_row rfl 29 _ rfl (w.heap.size + 1) rfl 29 (pkC (⟨3, id, a, e0, e0, 0, 0, x, e0, a9, [], [], 0, 0, e0, e0, e0⟩ : Pk) A' c' none 0 none 0) (0, 0) _ OF.out.out Tryz.underlying29 rfl zAo ?_
  | (refine wpList_store_row rfl 29 _ _ rfl w.heap.size (pkC (⟨3, id, a, e0, e0, 0, 0, x, e0, a9, [], [], 0, 0, e0, e0, e0⟩ : Pk) A' c' none 0 none 0) rfl rfl 29 pZero OF.out.res zAo rfl (zCs _ _ _ _ _ _ _) ?_))
 obtain ⟨hk, hr, hbw, hz⟩ := OF.out.fin
 refine bodyPost_ret (results_ct Tryz.results33 _ _ w.heap.size 29 (pkC (⟨3, id, a, e0, e0, 0, 0, x, e0, a9, [], [], 0, 0, e0, e0, e0⟩ : Pk) A' c' none 0 none 0) (0, 0) _ _ rfl rfl hr Tryz.underlying29 rfl zAo) rfl ?_
 refine ⟨_, rfl, fun V hV1 hV2 => ⟨A', c', none, 0, none, 0, rfl, HS.out V (fun j hj1 hj2 => ?_), zCY V rfl, zBm V rfl⟩, hbw⟩
 have e0 := OF.out.bel.size
 have e1 : w.heap.size + 1 < W2.heap.size := S2.out
 have e2 : W2.heap.size ≤ j := hj1
 rw [hV2 j (by omega) (by rw [hz]; exact hj2)]
 exact hk j (by omega)
theorem zHd (q : Value) (w : World) : Calls Tryz.prog 136 #[q] w fun e w' => e = .returned (.int .u8 9) ∧ w = w' := by
 go_enter Tryz.func136, Tryz.ntmps136
 go_wp2
 go_ret
 exact ⟨rfl, rfl⟩
theorem zGb (id : Int) (a : ByteArray) (a9 : Ats) (A : Option Addr) (n c : Nat) (k : Nat) (w : World) (hb : w.heap[k]? = some (.cells (zAj [.string a] a9.f0 a9.f1 a9.f2 a9.f3 a9.f4 a9.f5 a9.f6 (.slice A n c) []) 136 (0, 0))) (hn : n = (a9.f7.map zAY).length) (hn2 : n ≤ 4294967295) (hc : n ≤ c) (hC : Kd.C k206 w A n (a9.f7.map zAY)) :
  Calls Tryz.prog 33 #[.int .u32 id, .iface 134 (.pointer (some ⟨k, 0, none⟩))] w (zBL (⟨9, id, a, e0, e0, 0, 0, 0, e0, a9, [], [], 0, 0, e0, e0, e0⟩ : Pk) w) := by
 have hbl := zAB hb
 have ta := @taB
 obtain ⟨W0, W1, W2, X0, X1, X2, K1, k2, j2, hbel, s0⟩ := zCq w 9 id
 have o0 : PSt w W2 W2 k 136 (zAj [.string a] a9.f0 a9.f1 a9.f2 a9.f3 a9.f4 a9.f5 a9.f6 (.slice A n c) []) (z24 9 id) := ⟨(hbel.block k hbl).trans hb, j2, by rw [← s0]; exact k2, hbel, rfl, hbl, fun _ _ => rfl, rfl⟩
 have hC2 : Kd.C k206 W2.drew A n (a9.f7.map zAY) := Kd.C_below hC (zAi hbel)
 subst hn
 have TC := Lib.hid (zFn a9.f0 a9.f1 a9.f2 a9.f3 a9.f4 a9.f5 a9.f6 A _ c _ W2.drew rfl (by omega) hC2 hc)
 have zW : W2.drew.heap.size = W2.heap.size := rfl
 have S2 := Lib.hid (show w.heap.size + 1 < W2.heap.size from zAB o0.out)
 have O0 := Lib.hid o0
 have X3 := Lib.hid (show W1.setRow (w.heap.size + 1) (z24 9 id) = W2 by rw [← s0]; exact X2.out)
 have S0 := Lib.hid s0
 clear hb hC hC2 k2 j2 hbel o0 s0 hbl
 generalize (a9.f7.map zAY).length = n at *
 go_enter Tryz.func33, Tryz.ntmps33
 go_wp2_with (first
  | (refine wpList_allocTo rfl (some 4) rfl (.pointer (some ⟨w.heap.size, 0, none⟩)) (.cells pZero 29) (by as_aux_lemma => kernel_rfl) ?_; rw [X0.out])
  | (refine wpList_allocTo rfl (some 6) rfl (.pointer (some ⟨w.heap.size + 1, 0, none⟩)) (.cells pZero 29) (by rw [← S0.out]; as_aux_lemma => kernel_rfl) ?_; rw [X1.out])
  | refine wpList_buildTo rfl 29 _ rfl (some 41) rfl (z24 9 id) (by as_aux_lemma => kernel_rfl) ?_
  | (refine wpList_store_row rfl 29 _ _ rfl (w.heap.size + 1) (z24 9 id) rfl rfl 29 pZero (by rw [← S0.out]; exact K1.out) zAo rfl (zC3 _ _) ?_; rw [X3.out])
  | (go_at_call 136; refine (zHd _ _).mono ?_; rintro e w' ⟨rfl, rfl⟩))
 refine wp_region_held_drew (S := fun w' => w'.heap[k]? = some (.cells (zAj [.string a] a9.f0 a9.f1 a9.f2 a9.f3 a9.f4 a9.f5 a9.f6 (.slice A n c) []) 136 (0, 0))) (by kernel_rfl) O0.out.drew.src (fun hHeld => ?_)
 have o0 := O0.out.drew
 clear O0
 refine tkE 127 0 (.pointer (some ⟨k, 0, none⟩)) hHeld ?_
 try simp only [zAJ]
 refine tkE 128 1 (.pointer (some ⟨k, 0, none⟩)) hHeld ?_
 try simp only [zAJ]
 refine tkE 129 2 (.pointer (some ⟨k, 0, none⟩)) hHeld ?_
 try simp only [zAJ]
 refine tkY 130 3 (.string a) rfl (zAS (by rfl) 9 _ rfl zAl k 0 (by rfl) _ _ (0, 0) _ (fun _ h => h) rfl) hHeld ?_
 try simp only [zAJ]
 refine tkE 131 4 (.pointer (some ⟨k, 0, none⟩)) hHeld ?_
 try simp only [zAJ]
 refine tkE 132 5 (.pointer (some ⟨k, 0, none⟩)) hHeld ?_
 try simp only [zAJ]
 refine tkE 133 6 (.pointer (some ⟨k, 1, none⟩)) hHeld ?_
 try simp only [zAJ]
 refine tkY 134 7 (.agg (at8 a9.f0 a9.f1 a9.f2 a9.f3 a9.f4 a9.f5 a9.f6 (.slice A n c)).toList.toArray) rfl (yieldsIf_load_mid (by rfl) 116 _ (by rfl) k 1 (by rfl) (at8 a9.f0 a9.f1 a9.f2 a9.f3 a9.f4 a9.f5 a9.f6 (.slice A n c)).toList _ (fun w' hw' j v hj => by rw [zAA hw']; exact zDQ rfl j v hj) Tryz.underlying116 rfl (zCe _ _ _ _ _ _ _ _)) hHeld ?_
 try simp only [zAJ]
 rw [Array.toArray_toList]
 refine wpAnyH_ready (rs := [8]) (by kernel_rfl) (by simp) (AllReadyH.cons rfl (fun K hK => ?_) AllReadyH.nil)
 rw [if_pos (by rfl)]
 go_wp2_with (go_at_call 61; refine TC.out.mono ?_; rintro e w5 ⟨v, rfl, hv, hb5⟩)
 obtain ⟨A', c', rfl, hS⟩ := zDI hv
 have z5 := hb5.size
 have o0 := o0.call hb5
 refine hK.out _ _ o0.src (fun hHeld => ?_)
 clear hK K
 try simp only [zAJ]
 refine tkE 136 9 (.pointer (some ⟨w.heap.size + 1, 2, none⟩)) hHeld ?_
 try simp only [zAJ]
 refine wpAnyH_ready (rs := [10]) (by kernel_rfl) (by simp) (AllReadyH.cons rfl (fun K hK => ?_) AllReadyH.nil)
 rw [if_pos (by rfl)]
 refine zAt 9 _ _ rfl zAw (w.heap.size + 1) 2 (by rfl) (.string a) (by rfl) _ _ o0.out (by have := o0.sz; omega) rfl rfl ?_
 have o1 : PSt w w5 _ k _ _ (pkC (⟨9, id, a, e0, e0, 0, 0, 0, e0, ⟨0, 0, 0, 0, 0, 0, 0, []⟩, [], [], 0, 0, e0, e0, e0⟩ : Pk) none 0 none 0 none 0) := PSt.s2 (q := (⟨9, id, e0, e0, e0, 0, 0, 0, e0, ⟨0, 0, 0, 0, 0, 0, 0, []⟩, [], [], 0, 0, e0, e0, e0⟩ : Pk)) o0 a
 refine hK.out _ _ o1.src (fun hHeld => ?_)
 clear hK K
 try simp only [zAJ]
 refine tkE 137 11 (.pointer (some ⟨w.heap.size + 1, 9, none⟩)) hHeld ?_
 try simp only [zAJ]
 refine wpAnyH_ready (rs := [12]) (by kernel_rfl) (by simp) (AllReadyH.cons rfl (fun K hK => ?_) AllReadyH.nil)
 rw [if_pos (by rfl)]
 refine wp_store_mid 26 _ _ rfl (w.heap.size + 1) 9 (at8 a9.f0 a9.f1 a9.f2 a9.f3 a9.f4 a9.f5 a9.f6 (.slice A' a9.f7.length c')) (by rfl) (by rfl) (zB2 o1.out 9 8 (by have := o1.sz; omega)) (zBQ _ _ _ _ _ _ _ _) (zFT _ _ _ _ _ _ _ _ _ _) ?_
 have o2 : PSt w w5 _ k _ _ (pkC (⟨9, id, a, e0, e0, 0, 0, 0, e0, a9, [], [], 0, 0, e0, e0, e0⟩ : Pk) A' c' none 0 none 0) := PSt.s9 (q := (⟨9, id, a, e0, e0, 0, 0, 0, e0, ⟨0, 0, 0, 0, 0, 0, 0, []⟩, [], [], 0, 0, e0, e0, e0⟩ : Pk)) o1 a9 A' c'
 refine hK.out _ _ o2.src (fun hHeld => ?_)
 clear hK K
 try simp only [zAJ]
 clear hHeld
 generalize (w5.setCell ⟨w.heap.size + 1, 2, none⟩ (.string a)).setCells (w.heap.size + 1) 9 (at8 a9.f0 a9.f1 a9.f2 a9.f3 a9.f4 a9.f5 a9.f6 (.slice A' a9.f7.length c')).toList = W9 at o2 ⊢
 have OF := Lib.hid o2
 have HS := Lib.hid hS
 have ZB := Lib.hid z5
 clear o0 o1 o2 hS hv hb5 TC K1 X0 X1 X2 z5
 refine wpAnyH_done (by kernel_rfl) ?_ _
 go_wp2_with (first
  | refine wpList_load_row rfl 29 _ rfl (w.heap.size + 1) rfl 29 (pkC (⟨9, id, a, e0, e0, 0, 0, 0, e0, a9, [], [], 0, 0, e0, e0, e0⟩ : Pk) A' c' none 0 none 0) (0, 0) _ OF.out.out Tryz.underlying29 rfl zAo ?_
  | (refine wpList_store_row rfl 29 _ _ rfl w.heap.size (pkC (⟨9, id, a, e0, e0, 0, 0, 0, e0, a9, [], [], 0, 0, e0, e0, e0⟩ : Pk) A' c' none 0 none 0) rfl rfl 29 pZero OF.out.res zAo rfl (zCs _ _ _ _ _ _ _) ?_))
 obtain ⟨hk, hr, hbw, hz⟩ := OF.out.fin
 refine bodyPost_ret (results_ct Tryz.results33 _ _ w.heap.size 29 (pkC (⟨9, id, a, e0, e0, 0, 0, 0, e0, a9, [], [], 0, 0, e0, e0, e0⟩ : Pk) A' c' none 0 none 0) (0, 0) _ _ rfl rfl hr Tryz.underlying29 rfl zAo) rfl ?_
 refine ⟨_, rfl, fun V hV1 hV2 => ⟨A', c', none, 0, none, 0, rfl, HS.out V (fun j hj1 hj2 => ?_), zCY V rfl, zBm V rfl⟩, hbw⟩
 have e0 := OF.out.bel.size
 have e1 : w.heap.size + 1 < W2.heap.size := S2.out
 have e2 : W2.heap.size ≤ j := hj1
 rw [hV2 j (by omega) (by rw [hz]; exact hj2)]
 exact hk j (by omega)
theorem zGc (q : Value) (w : World) : Calls Tryz.prog 139 #[q] w fun e w' => e = .returned (.int .u8 10) ∧ w = w' := by
 go_enter Tryz.func139, Tryz.ntmps139
 go_wp2
 go_ret
 exact ⟨rfl, rfl⟩
theorem zF3 (id : Int) (a : ByteArray) (a9 : Ats) (A : Option Addr) (n c : Nat) (k : Nat) (w : World) (hb : w.heap[k]? = some (.cells (zAj [.string a] a9.f0 a9.f1 a9.f2 a9.f3 a9.f4 a9.f5 a9.f6 (.slice A n c) []) 139 (0, 0))) (hn : n = (a9.f7.map zAY).length) (hn2 : n ≤ 4294967295) (hc : n ≤ c) (hC : Kd.C k206 w A n (a9.f7.map zAY)) :
  Calls Tryz.prog 33 #[.int .u32 id, .iface 137 (.pointer (some ⟨k, 0, none⟩))] w (zBL (⟨10, id, e0, e0, a, 0, 0, 0, e0, a9, [], [], 0, 0, e0, e0, e0⟩ : Pk) w) := by
 have hbl := zAB hb
 have ta := @taB
 obtain ⟨W0, W1, W2, X0, X1, X2, K1, k2, j2, hbel, s0⟩ := zCq w 10 id
 have o0 : PSt w W2 W2 k 139 (zAj [.string a] a9.f0 a9.f1 a9.f2 a9.f3 a9.f4 a9.f5 a9.f6 (.slice A n c) []) (z24 10 id) := ⟨(hbel.block k hbl).trans hb, j2, by rw [← s0]; exact k2, hbel, rfl, hbl, fun _ _ => rfl, rfl⟩
 have hC2 : Kd.C k206 W2.drew A n (a9.f7.map zAY) := Kd.C_below hC (zAi hbel)
 subst hn
 have TC := Lib.hid (zFn a9.f0 a9.f1 a9.f2 a9.f3 a9.f4 a9.f5 a9.f6 A _ c _ W2.drew rfl (by omega) hC2 hc)
 have zW : W2.drew.heap.size = W2.heap.size := rfl
 have S2 := Lib.hid (show w.heap.size + 1 < W2.heap.size from zAB o0.out)
 have O0 := Lib.hid o0
 have X3 := Lib.hid (show W1.setRow (w.heap.size + 1) (z24 10 id) = W2 by rw [← s0]; exact X2.out)
 have S0 := Lib.hid s0
 clear hb hC hC2 k2 j2 hbel o0 s0 hbl
 generalize (a9.f7.map zAY).length = n at *
 go_enter Tryz.func33, Tryz.ntmps33
 go_wp2_with (first
  | (refine wpList_allocTo rfl (some 4) rfl (.pointer (some ⟨w.heap.size, 0, none⟩)) (.cells pZero 29) (by as_aux_lemma => kernel_rfl) ?_; rw [X0.out])
  | (refine wpList_allocTo rfl (some 6) rfl (.pointer (some ⟨w.heap.size + 1, 0, none⟩)) (.cells pZero 29) (by rw [← S0.out]; as_aux_lemma => kernel_rfl) ?_; rw [X1.out])
  | refine wpList_buildTo rfl 29 _ rfl (some 41) rfl (z24 10 id) (by as_aux_lemma => kernel_rfl) ?_
  | (refine wpList_store_row rfl 29 _ _ rfl (w.heap.size + 1) (z24 10 id) rfl rfl 29 pZero (by rw [← S0.out]; exact K1.out) zAo rfl (zC3 _ _) ?_; rw [X3.out])
  | (go_at_call 139; refine (zGc _ _).mono ?_; rintro e w' ⟨rfl, rfl⟩))
 refine wp_region_held_drew (S := fun w' => w'.heap[k]? = some (.cells (zAj [.string a] a9.f0 a9.f1 a9.f2 a9.f3 a9.f4 a9.f5 a9.f6 (.slice A n c) []) 139 (0, 0))) (by kernel_rfl) O0.out.drew.src (fun hHeld => ?_)
 have o0 := O0.out.drew
 clear O0
 refine tkE 141 0 (.pointer (some ⟨k, 0, none⟩)) hHeld ?_
 try simp only [zAJ]
 refine tkE 142 1 (.pointer (some ⟨k, 0, none⟩)) hHeld ?_
 try simp only [zAJ]
 refine tkE 143 2 (.pointer (some ⟨k, 0, none⟩)) hHeld ?_
 try simp only [zAJ]
 refine tkY 144 3 (.string a) rfl (zAS (by rfl) 9 _ rfl zAl k 0 (by rfl) _ _ (0, 0) _ (fun _ h => h) rfl) hHeld ?_
 try simp only [zAJ]
 refine tkE 145 4 (.pointer (some ⟨k, 0, none⟩)) hHeld ?_
 try simp only [zAJ]
 refine tkE 146 5 (.pointer (some ⟨k, 0, none⟩)) hHeld ?_
 try simp only [zAJ]
 refine tkE 147 6 (.pointer (some ⟨k, 1, none⟩)) hHeld ?_
 try simp only [zAJ]
 refine tkY 148 7 (.agg (at8 a9.f0 a9.f1 a9.f2 a9.f3 a9.f4 a9.f5 a9.f6 (.slice A n c)).toList.toArray) rfl (yieldsIf_load_mid (by rfl) 116 _ (by rfl) k 1 (by rfl) (at8 a9.f0 a9.f1 a9.f2 a9.f3 a9.f4 a9.f5 a9.f6 (.slice A n c)).toList _ (fun w' hw' j v hj => by rw [zAA hw']; exact zDQ rfl j v hj) Tryz.underlying116 rfl (zCe _ _ _ _ _ _ _ _)) hHeld ?_
 try simp only [zAJ]
 rw [Array.toArray_toList]
 refine wpAnyH_ready (rs := [8]) (by kernel_rfl) (by simp) (AllReadyH.cons rfl (fun K hK => ?_) AllReadyH.nil)
 rw [if_pos (by rfl)]
 go_wp2_with (go_at_call 61; refine TC.out.mono ?_; rintro e w5 ⟨v, rfl, hv, hb5⟩)
 obtain ⟨A', c', rfl, hS⟩ := zDI hv
 have z5 := hb5.size
 have o0 := o0.call hb5
 refine hK.out _ _ o0.src (fun hHeld => ?_)
 clear hK K
 try simp only [zAJ]
 refine tkE 150 9 (.pointer (some ⟨w.heap.size + 1, 4, none⟩)) hHeld ?_
 try simp only [zAJ]
 refine wpAnyH_ready (rs := [10]) (by kernel_rfl) (by simp) (AllReadyH.cons rfl (fun K hK => ?_) AllReadyH.nil)
 rw [if_pos (by rfl)]
 refine zAt 9 _ _ rfl zAw (w.heap.size + 1) 4 (by rfl) (.string a) (by rfl) _ _ o0.out (by have := o0.sz; omega) rfl rfl ?_
 have o1 : PSt w w5 _ k _ _ (pkC (⟨10, id, e0, e0, a, 0, 0, 0, e0, ⟨0, 0, 0, 0, 0, 0, 0, []⟩, [], [], 0, 0, e0, e0, e0⟩ : Pk) none 0 none 0 none 0) := PSt.s4 (q := (⟨10, id, e0, e0, e0, 0, 0, 0, e0, ⟨0, 0, 0, 0, 0, 0, 0, []⟩, [], [], 0, 0, e0, e0, e0⟩ : Pk)) o0 a
 refine hK.out _ _ o1.src (fun hHeld => ?_)
 clear hK K
 try simp only [zAJ]
 refine tkE 151 11 (.pointer (some ⟨w.heap.size + 1, 9, none⟩)) hHeld ?_
 try simp only [zAJ]
 refine wpAnyH_ready (rs := [12]) (by kernel_rfl) (by simp) (AllReadyH.cons rfl (fun K hK => ?_) AllReadyH.nil)
 rw [if_pos (by rfl)]
 refine wp_store_mid 26 _ _ rfl (w.heap.size + 1) 9 (at8 a9.f0 a9.f1 a9.f2 a9.f3 a9.f4 a9.f5 a9.f6 (.slice A' a9.f7.length c')) (by rfl) (by rfl) (zB2 o1.out 9 8 (by have := o1.sz; omega)) (zBQ _ _ _ _ _ _ _ _) (zFT _ _ _ _ _ _ _ _ _ _) ?_
 have o2 : PSt w w5 _ k _ _ (pkC (⟨10, id, e0, e0, a, 0, 0, 0, e0, a9, [], [], 0, 0, e0, e0, e0⟩ : Pk) A' c' none 0 none 0) := PSt.s9 (q := (⟨10, id, e0, e0, a, 0, 0, 0, e0, ⟨0, 0, 0, 0, 0, 0, 0, []⟩, [], [], 0, 0, e0, e0, e0⟩ : Pk)) o1 a9 A' c'
 refine hK.out _ _ o2.src (fun hHeld => ?_)
 clear hK K
 try simp only [zAJ]
 clear hHeld
 generalize (w5.setCell ⟨w.heap.size + 1, 4, none⟩ (.string a)).setCells (w.heap.size + 1) 9 (at8 a9.f0 a9.f1 a9.f2 a9.f3 a9.f4 a9.f5 a9.f6 (.slice A' a9.f7.length c')).toList = W9 at o2 ⊢
 have OF := Lib.hid o2
 have HS := Lib.hid hS
 have ZB := Lib.hid z5
 clear o0 o1 o2 hS hv hb5 TC K1 X0 X1 X2 z5
 refine wpAnyH_done (by kernel_rfl) ?_ _
 go_wp2_with (first
  | refine wpList_load_row rfl 29 _ rfl (w.heap.size + 1) rfl 29 (pkC (⟨10, id, e0, e0, a, 0, 0, 0, e0, a9, [], [], 0, 0, e0, e0, e0⟩ : Pk) A' c' none 0 none 0) (0, 0) _ OF.out.out Tryz.underlying29 rfl zAo ?_
  | (refine wpList_store_row rfl 29 _ _ rfl w.heap.size (pkC (⟨10, id, e0, e0, a, 0, 0, 0, e0, a9, [], [], 0, 0, e0, e0, e0⟩ : Pk) A' c' none 0 none 0) rfl rfl 29 pZero OF.out.res zAo rfl (zCs _ _ _ _ _ _ _) ?_))
 obtain ⟨hk, hr, hbw, hz⟩ := OF.out.fin
 refine bodyPost_ret (results_ct Tryz.results33 _ _ w.heap.size 29 (pkC (⟨10, id, e0, e0, a, 0, 0, 0, e0, a9, [], [], 0, 0, e0, e0, e0⟩ : Pk) A' c' none 0 none 0) (0, 0) _ _ rfl rfl hr Tryz.underlying29 rfl zAo) rfl ?_
 refine ⟨_, rfl, fun V hV1 hV2 => ⟨A', c', none, 0, none, 0, rfl, HS.out V (fun j hj1 hj2 => ?_), zCY V rfl, zBm V rfl⟩, hbw⟩
 have e0 := OF.out.bel.size
 have e1 : w.heap.size + 1 < W2.heap.size := S2.out
 have e2 : W2.heap.size ≤ j := hj1
 rw [hV2 j (by omega) (by rw [hz]; exact hj2)]
 exact hk j (by omega)
theorem zKW (q : Value) (w : World) : Calls Tryz.prog 151 #[q] w fun e w' => e = .returned (.int .u8 14) ∧ w = w' := by
 go_enter Tryz.func151, Tryz.ntmps151
 go_wp2
 go_ret
 exact ⟨rfl, rfl⟩
theorem zIl (id : Int) (a : ByteArray) (a9 : Ats) (A : Option Addr) (n c : Nat) (k : Nat) (w : World) (hb : w.heap[k]? = some (.cells (zAj [.string a] a9.f0 a9.f1 a9.f2 a9.f3 a9.f4 a9.f5 a9.f6 (.slice A n c) []) 147 (0, 0))) (hn : n = (a9.f7.map zAY).length) (hn2 : n ≤ 4294967295) (hc : n ≤ c) (hC : Kd.C k206 w A n (a9.f7.map zAY)) :
  Calls Tryz.prog 33 #[.int .u32 id, .iface 146 (.pointer (some ⟨k, 0, none⟩))] w (zBL (⟨14, id, a, e0, e0, 0, 0, 0, e0, a9, [], [], 0, 0, e0, e0, e0⟩ : Pk) w) := by
 have hbl := zAB hb
 have ta := @taB
 obtain ⟨W0, W1, W2, X0, X1, X2, K1, k2, j2, hbel, s0⟩ := zCq w 14 id
 have o0 : PSt w W2 W2 k 147 (zAj [.string a] a9.f0 a9.f1 a9.f2 a9.f3 a9.f4 a9.f5 a9.f6 (.slice A n c) []) (z24 14 id) := ⟨(hbel.block k hbl).trans hb, j2, by rw [← s0]; exact k2, hbel, rfl, hbl, fun _ _ => rfl, rfl⟩
 have hC2 : Kd.C k206 W2.drew A n (a9.f7.map zAY) := Kd.C_below hC (zAi hbel)
 subst hn
 have TC := Lib.hid (zFn a9.f0 a9.f1 a9.f2 a9.f3 a9.f4 a9.f5 a9.f6 A _ c _ W2.drew rfl (by omega) hC2 hc)
 have zW : W2.drew.heap.size = W2.heap.size := rfl
 have S2 := Lib.hid (show w.heap.size + 1 < W2.heap.size from zAB o0.out)
 have O0 := Lib.hid o0
 have X3 := Lib.hid (show W1.setRow (w.heap.size + 1) (z24 14 id) = W2 by rw [← s0]; exact X2.out)
 have S0 := Lib.hid s0
 clear hb hC hC2 k2 j2 hbel o0 s0 hbl
 generalize (a9.f7.map zAY).length = n at *
 go_enter Tryz.func33, Tryz.ntmps33
 go_wp2_with (first
  | (refine wpList_allocTo rfl (some 4) rfl (.pointer (some ⟨w.heap.size, 0, none⟩)) (.cells pZero 29) (by as_aux_lemma => kernel_rfl) ?_; rw [X0.out])
  | (refine wpList_allocTo rfl (some 6) rfl (.pointer (some ⟨w.heap.size + 1, 0, none⟩)) (.cells pZero 29) (by rw [← S0.out]; as_aux_lemma => kernel_rfl) ?_; rw [X1.out])
  | refine wpList_buildTo rfl 29 _ rfl (some 41) rfl (z24 14 id) (by as_aux_lemma => kernel_rfl) ?_
  | (refine wpList_store_row rfl 29 _ _ rfl (w.heap.size + 1) (z24 14 id) rfl rfl 29 pZero (by rw [← S0.out]; exact K1.out) zAo rfl (zC3 _ _) ?_; rw [X3.out])
  | (go_at_call 151; refine (zKW _ _).mono ?_; rintro e w' ⟨rfl, rfl⟩))
 refine wp_region_held_drew (S := fun w' => w'.heap[k]? = some (.cells (zAj [.string a] a9.f0 a9.f1 a9.f2 a9.f3 a9.f4 a9.f5 a9.f6 (.slice A n c) []) 147 (0, 0))) (by kernel_rfl) O0.out.drew.src (fun hHeld => ?_)
 have o0 := O0.out.drew
 clear O0
 refine tkE 179 0 (.pointer (some ⟨k, 0, none⟩)) hHeld ?_
 try simp only [zAJ]
 refine tkE 180 1 (.pointer (some ⟨k, 0, none⟩)) hHeld ?_
 try simp only [zAJ]
 refine tkE 181 2 (.pointer (some ⟨k, 0, none⟩)) hHeld ?_
 try simp only [zAJ]
 refine tkY 182 3 (.string a) rfl (zAS (by rfl) 9 _ rfl zAl k 0 (by rfl) _ _ (0, 0) _ (fun _ h => h) rfl) hHeld ?_
 try simp only [zAJ]
 refine tkE 183 4 (.pointer (some ⟨k, 0, none⟩)) hHeld ?_
 try simp only [zAJ]
 refine tkE 184 5 (.pointer (some ⟨k, 0, none⟩)) hHeld ?_
 try simp only [zAJ]
 refine tkE 185 6 (.pointer (some ⟨k, 1, none⟩)) hHeld ?_
 try simp only [zAJ]
 refine tkY 186 7 (.agg (at8 a9.f0 a9.f1 a9.f2 a9.f3 a9.f4 a9.f5 a9.f6 (.slice A n c)).toList.toArray) rfl (yieldsIf_load_mid (by rfl) 116 _ (by rfl) k 1 (by rfl) (at8 a9.f0 a9.f1 a9.f2 a9.f3 a9.f4 a9.f5 a9.f6 (.slice A n c)).toList _ (fun w' hw' j v hj => by rw [zAA hw']; exact zDQ rfl j v hj) Tryz.underlying116 rfl (zCe _ _ _ _ _ _ _ _)) hHeld ?_
 try simp only [zAJ]
 rw [Array.toArray_toList]
 refine wpAnyH_ready (rs := [8]) (by kernel_rfl) (by simp) (AllReadyH.cons rfl (fun K hK => ?_) AllReadyH.nil)
 rw [if_pos (by rfl)]
 go_wp2_with (go_at_call 61; refine TC.out.mono ?_; rintro e w5 ⟨v, rfl, hv, hb5⟩)
 obtain ⟨A', c', rfl, hS⟩ := zDI hv
 have z5 := hb5.size
 have o0 := o0.call hb5
 refine hK.out _ _ o0.src (fun hHeld => ?_)
 clear hK K
 try simp only [zAJ]
 refine tkE 188 9 (.pointer (some ⟨w.heap.size + 1, 2, none⟩)) hHeld ?_
 try simp only [zAJ]
 refine wpAnyH_ready (rs := [10]) (by kernel_rfl) (by simp) (AllReadyH.cons rfl (fun K hK => ?_) AllReadyH.nil)
 rw [if_pos (by rfl)]
 refine zAt 9 _ _ rfl zAw (w.heap.size + 1) 2 (by rfl) (.string a) (by rfl) _ _ o0.out (by have := o0.sz; omega) rfl rfl ?_
 have o1 : PSt w w5 _ k _ _ (pkC (⟨14, id, a, e0, e0, 0, 0, 0, e0, ⟨0, 0, 0, 0, 0, 0, 0, []⟩, [], [], 0, 0, e0, e0, e0⟩ : Pk) none 0 none 0 none 0) := PSt.s2 (q := (⟨14, id, e0, e0, e0, 0, 0, 0, e0, ⟨0, 0, 0, 0, 0, 0, 0, []⟩, [], [], 0, 0, e0, e0, e0⟩ : Pk)) o0 a
 refine hK.out _ _ o1.src (fun hHeld => ?_)
 clear hK K
 try simp only [zAJ]
 refine tkE 189 11 (.pointer (some ⟨w.heap.size + 1, 9, none⟩)) hHeld ?_
 try simp only [zAJ]
 refine wpAnyH_ready (rs := [12]) (by kernel_rfl) (by simp) (AllReadyH.cons rfl (fun K hK => ?_) AllReadyH.nil)
 rw [if_pos (by rfl)]
 refine wp_store_mid 26 _ _ rfl (w.heap.size + 1) 9 (at8 a9.f0 a9.f1 a9.f2 a9.f3 a9.f4 a9.f5 a9.f6 (.slice A' a9.f7.length c')) (by rfl) (by rfl) (zB2 o1.out 9 8 (by have := o1.sz; omega)) (zBQ _ _ _ _ _ _ _ _) (zFT _ _ _ _ _ _ _ _ _ _) ?_
 have o2 : PSt w w5 _ k _ _ (pkC (⟨14, id, a, e0, e0, 0, 0, 0, e0, a9, [], [], 0, 0, e0, e0, e0⟩ : Pk) A' c' none 0 none 0) := PSt.s9 (q := (⟨14, id, a, e0, e0, 0, 0, 0, e0, ⟨0, 0, 0, 0, 0, 0, 0, []⟩, [], [], 0, 0, e0, e0, e0⟩ : Pk)) o1 a9 A' c'
 refine hK.out _ _ o2.src (fun hHeld => ?_)
 clear hK K
 try simp only [zAJ]
 clear hHeld
 generalize (w5.setCell ⟨w.heap.size + 1, 2, none⟩ (.string a)).setCells (w.heap.size + 1) 9 (at8 a9.f0 a9.f1 a9.f2 a9.f3 a9.f4 a9.f5 a9.f6 (.slice A' a9.f7.length c')).toList = W9 at o2 ⊢
 have OF := Lib.hid o2
 have HS := Lib.hid hS
 have ZB := Lib.hid z5
 clear o0 o1 o2 hS hv hb5 TC K1 X0 X1 X2 z5
 refine wpAnyH_done (by kernel_rfl) ?_ _
 go_wp2_with (first
  | refine wpList_load_row rfl 29 _ rfl (w.heap.size + 1) rfl 29 (pkC (⟨14, id, a, e0, e0, 0, 0, 0, e0, a9, [], [], 0, 0, e0, e0, e0⟩ : Pk) A' c' none 0 none 0) (0, 0) _ OF.out.out Tryz.underlying29 rfl zAo ?_
  | (refine wpList_store_row rfl 29 _ _ rfl w.heap.size (pkC (⟨14, id, a, e0, e0, 0, 0, 0, e0, a9, [], [], 0, 0, e0, e0, e0⟩ : Pk) A' c' none 0 none 0) rfl rfl 29 pZero OF.out.res zAo rfl (zCs _ _ _ _ _ _ _) ?_))
 obtain ⟨hk, hr, hbw, hz⟩ := OF.out.fin
 refine bodyPost_ret (results_ct Tryz.results33 _ _ w.heap.size 29 (pkC (⟨14, id, a, e0, e0, 0, 0, 0, e0, a9, [], [], 0, 0, e0, e0, e0⟩ : Pk) A' c' none 0 none 0) (0, 0) _ _ rfl rfl hr Tryz.underlying29 rfl zAo) rfl ?_
 refine ⟨_, rfl, fun V hV1 hV2 => ⟨A', c', none, 0, none, 0, rfl, HS.out V (fun j hj1 hj2 => ?_), zCY V rfl, zBm V rfl⟩, hbw⟩
 have e0 := OF.out.bel.size
 have e1 : w.heap.size + 1 < W2.heap.size := S2.out
 have e2 : W2.heap.size ≤ j := hj1
 rw [hV2 j (by omega) (by rw [hz]; exact hj2)]
 exact hk j (by omega)
theorem zKX (q : Value) (w : World) : Calls Tryz.prog 190 #[q] w fun e w' => e = .returned (.int .u8 105) ∧ w = w' := by
 go_enter Tryz.func190, Tryz.ntmps190
 go_wp2
 go_ret
 exact ⟨rfl, rfl⟩
theorem zIm (id : Int)  (a9 : Ats) (A : Option Addr) (n c : Nat) (k : Nat) (w : World) (hb : w.heap[k]? = some (.cells (zAj [] a9.f0 a9.f1 a9.f2 a9.f3 a9.f4 a9.f5 a9.f6 (.slice A n c) []) 180 (0, 0))) (hn : n = (a9.f7.map zAY).length) (hn2 : n ≤ 4294967295) (hc : n ≤ c) (hC : Kd.C k206 w A n (a9.f7.map zAY)) :
  Calls Tryz.prog 33 #[.int .u32 id, .iface 178 (.pointer (some ⟨k, 0, none⟩))] w (zBL (⟨105, id, e0, e0, e0, 0, 0, 0, e0, a9, [], [], 0, 0, e0, e0, e0⟩ : Pk) w) := by
 have hbl := zAB hb
 have ta := @taB
 obtain ⟨W0, W1, W2, X0, X1, X2, K1, k2, j2, hbel, s0⟩ := zCq w 105 id
 have o0 : PSt w W2 W2 k 180 (zAj [] a9.f0 a9.f1 a9.f2 a9.f3 a9.f4 a9.f5 a9.f6 (.slice A n c) []) (z24 105 id) := ⟨(hbel.block k hbl).trans hb, j2, by rw [← s0]; exact k2, hbel, rfl, hbl, fun _ _ => rfl, rfl⟩
 have hC2 : Kd.C k206 W2 A n (a9.f7.map zAY) := Kd.C_below hC hbel
 subst hn
 have TC := Lib.hid (zFn a9.f0 a9.f1 a9.f2 a9.f3 a9.f4 a9.f5 a9.f6 A _ c _ W2 rfl (by omega) hC2 hc)
 have zW : W2.heap.size = W2.heap.size := rfl
 have S2 := Lib.hid (show w.heap.size + 1 < W2.heap.size from zAB o0.out)
 have O0 := Lib.hid o0
 have X3 := Lib.hid (show W1.setRow (w.heap.size + 1) (z24 105 id) = W2 by rw [← s0]; exact X2.out)
 have S0 := Lib.hid s0
 clear hb hC hC2 k2 j2 hbel o0 s0 hbl
 generalize (a9.f7.map zAY).length = n at *
 go_enter Tryz.func33, Tryz.ntmps33
 go_wp2_with (first
  | (refine wpList_allocTo rfl (some 4) rfl (.pointer (some ⟨w.heap.size, 0, none⟩)) (.cells pZero 29) (by as_aux_lemma => kernel_rfl) ?_; rw [X0.out])
  | (refine wpList_allocTo rfl (some 6) rfl (.pointer (some ⟨w.heap.size + 1, 0, none⟩)) (.cells pZero 29) (by rw [← S0.out]; as_aux_lemma => kernel_rfl) ?_; rw [X1.out])
  | refine wpList_buildTo rfl 29 _ rfl (some 41) rfl (z24 105 id) (by as_aux_lemma => kernel_rfl) ?_
  | (refine wpList_store_row rfl 29 _ _ rfl (w.heap.size + 1) (z24 105 id) rfl rfl 29 pZero (by rw [← S0.out]; exact K1.out) zAo rfl (zC3 _ _) ?_; rw [X3.out])
  | (go_at_call 190; refine (zKX _ _).mono ?_; rintro e w' ⟨rfl, rfl⟩)
  | (refine wpList_load_mid rfl 116 _ rfl k 0 (by rfl) (at8 a9.f0 a9.f1 a9.f2 a9.f3 a9.f4 a9.f5 a9.f6 (.slice A n c)).toList _ (fun j v hj => by rw [zAA O0.out.src]; exact zDQ rfl j v hj) Tryz.underlying116 rfl (zCe _ _ _ _ _ _ _ _) ?_; rw [Array.toArray_toList]))
 refine TC.out.mono ?_
 rintro e w5 ⟨v, rfl, hv, hb5⟩
 obtain ⟨A', c', rfl, hS⟩ := zDI hv
 have o0 := O0.out.call hb5
 have o1 : PSt w w5 _ k _ _ (pkC (⟨105, id, e0, e0, e0, 0, 0, 0, e0, a9, [], [], 0, 0, e0, e0, e0⟩ : Pk) A' c' none 0 none 0) := PSt.s9 (q := (⟨105, id, e0, e0, e0, 0, 0, 0, e0, ⟨0, 0, 0, 0, 0, 0, 0, []⟩, [], [], 0, 0, e0, e0, e0⟩ : Pk)) o0 a9 A' c'
 generalize hW9 : w5.setCells (w.heap.size + 1) 9 (at8 a9.f0 a9.f1 a9.f2 a9.f3 a9.f4 a9.f5 a9.f6 (.slice A' a9.f7.length c')).toList = W9 at o1
 have X9 := Lib.hid hW9
 clear hW9
 have OF := Lib.hid o1
 have HS := Lib.hid hS
 have ZB := Lib.hid hb5.size
 have O9 := Lib.hid o0
 clear o0 o1 hS hv hb5 TC O0 K1 X0 X1 X2
 go_wp2_with (first
  | (refine wpList_store_mid rfl 26 _ _ rfl (w.heap.size + 1) 9 (at8 a9.f0 a9.f1 a9.f2 a9.f3 a9.f4 a9.f5 a9.f6 (.slice A' a9.f7.length c')) (by rfl) (by rfl) (zB2 O9.out.out 9 8 (by have := O9.out.sz; omega)) (zBQ _ _ _ _ _ _ _ _) (zFT _ _ _ _ _ _ _ _ _ _) ?_; rw [X9.out])
  | refine wpList_load_row rfl 29 _ rfl (w.heap.size + 1) rfl 29 (pkC (⟨105, id, e0, e0, e0, 0, 0, 0, e0, a9, [], [], 0, 0, e0, e0, e0⟩ : Pk) A' c' none 0 none 0) (0, 0) _ OF.out.out Tryz.underlying29 rfl zAo ?_
  | (refine wpList_store_row rfl 29 _ _ rfl w.heap.size (pkC (⟨105, id, e0, e0, e0, 0, 0, 0, e0, a9, [], [], 0, 0, e0, e0, e0⟩ : Pk) A' c' none 0 none 0) rfl rfl 29 pZero OF.out.res zAo rfl (zCs _ _ _ _ _ _ _) ?_))
 obtain ⟨hk, hr, hbw, hz⟩ := OF.out.fin
 refine bodyPost_ret (results_ct Tryz.results33 _ _ w.heap.size 29 (pkC (⟨105, id, e0, e0, e0, 0, 0, 0, e0, a9, [], [], 0, 0, e0, e0, e0⟩ : Pk) A' c' none 0 none 0) (0, 0) _ _ rfl rfl hr Tryz.underlying29 rfl zAo) rfl ?_
 refine ⟨_, rfl, fun V hV1 hV2 => ⟨A', c', none, 0, none, 0, rfl, HS.out V (fun j hj1 hj2 => ?_), zCY V rfl, zBm V rfl⟩, hbw⟩
 have e0 := OF.out.bel.size
 have e1 : w.heap.size + 1 < W2.heap.size := S2.out
 have e2 : W2.heap.size ≤ j := hj1
 rw [hV2 j (by omega) (by rw [hz]; exact hj2)]
 exact hk j (by omega)
theorem zIn (q : Value) (w : World) : Calls Tryz.prog 120 #[q] w fun e w' => e = .returned (.int .u8 4) ∧ w = w' := by
 go_enter Tryz.func120, Tryz.ntmps120
 go_wp2
 go_ret
 exact ⟨rfl, rfl⟩
theorem zHe (id : Int) (w : World) (a : ByteArray) (k : Nat) (hb : w.heap[k]? = some (.cells #[.string a] 122 (0, 0))) {p : Pk} (hp : p = (⟨4, id, e0, e0, a, 0, 0, 0, e0, ⟨0, 0, 0, 0, 0, 0, 0, []⟩, [], [], 0, 0, e0, e0, e0⟩ : Pk) := by rfl) :
  Calls Tryz.prog 33 #[.int .u32 id, .iface 120 (.pointer (some ⟨k, 0, none⟩))] w (zBL p w) := by
 have ta := @taB
 obtain ⟨W0, W1, W2, X0, X1, X2, K1, P⟩ := zB9 w 4 id
 have cd := P.o1 hb
 obtain ⟨c4, f4⟩ := P.cel 4 (.string ⟨#[]⟩)
 obtain ⟨W3, W4, X3, X4, K3, J3, J4, B4⟩ := (P.set 4 (.string a)).fin p (by rw [hp]; rfl)
 have S0 := Lib.hid P.s
 clear P hb
 go_enter Tryz.func33, Tryz.ntmps33
 go_wp2_with (first
  | refine arA 4 X0 ?_
  | refine arA 6 X1 ?_
  | refine arB 41 (z24 4 id) ?_
  | refine arS K1 X2 ?_
  | (go_at_call 120; refine (zIn _ _).mono ?_; rintro e w' ⟨rfl, rfl⟩)
  | (refine zAx 349 rfl ?_; rw [X3.out])
  | refine arL K3 ?_
  | refine arS J3 X4 ?_)
 refine bodyPost_ret (results_ct Tryz.results33 _ _ _ _ _ (0, 0) _ _ rfl rfl J4.out Tryz.underlying29 rfl zAo) rfl ?_
 subst hp
 exact ⟨_, rfl, zBF _ _ _ rfl rfl rfl, B4.out⟩
theorem zKY (q : Value) (w : World) : Calls Tryz.prog 133 #[q] w fun e w' => e = .returned (.int .u8 8) ∧ w = w' := by
 go_enter Tryz.func133, Tryz.ntmps133
 go_wp2
 go_ret
 exact ⟨rfl, rfl⟩
theorem zIo (id : Int) (w : World) (a : ByteArray) (k : Nat) (hb : w.heap[k]? = some (.cells #[.string a] 133 (0, 0))) {p : Pk} (hp : p = (⟨8, id, e0, e0, a, 0, 0, 0, e0, ⟨0, 0, 0, 0, 0, 0, 0, []⟩, [], [], 0, 0, e0, e0, e0⟩ : Pk) := by rfl) :
  Calls Tryz.prog 33 #[.int .u32 id, .iface 132 (.pointer (some ⟨k, 0, none⟩))] w (zBL p w) := by
 have ta := @taB
 obtain ⟨W0, W1, W2, X0, X1, X2, K1, P⟩ := zB9 w 8 id
 have cd := P.o1 hb
 obtain ⟨c4, f4⟩ := P.cel 4 (.string ⟨#[]⟩)
 obtain ⟨W3, W4, X3, X4, K3, J3, J4, B4⟩ := (P.set 4 (.string a)).fin p (by rw [hp]; rfl)
 have S0 := Lib.hid P.s
 clear P hb
 go_enter Tryz.func33, Tryz.ntmps33
 go_wp2_with (first
  | refine arA 4 X0 ?_
  | refine arA 6 X1 ?_
  | refine arB 41 (z24 8 id) ?_
  | refine arS K1 X2 ?_
  | (go_at_call 133; refine (zKY _ _).mono ?_; rintro e w' ⟨rfl, rfl⟩)
  | (refine zAx 349 rfl ?_; rw [X3.out])
  | refine arL K3 ?_
  | refine arS J3 X4 ?_)
 refine bodyPost_ret (results_ct Tryz.results33 _ _ _ _ _ (0, 0) _ _ rfl rfl J4.out Tryz.underlying29 rfl zAo) rfl ?_
 subst hp
 exact ⟨_, rfl, zBF _ _ _ rfl rfl rfl, B4.out⟩
theorem zHf (q : Value) (w : World) : Calls Tryz.prog 145 #[q] w fun e w' => e = .returned (.int .u8 12) ∧ w = w' := by
 go_enter Tryz.func145, Tryz.ntmps145
 go_wp2
 go_ret
 exact ⟨rfl, rfl⟩
theorem zGd (id : Int) (w : World) (a : ByteArray) (k : Nat) (hb : w.heap[k]? = some (.cells #[.string a] 143 (0, 0))) {p : Pk} (hp : p = (⟨12, id, e0, e0, a, 0, 0, 0, e0, ⟨0, 0, 0, 0, 0, 0, 0, []⟩, [], [], 0, 0, e0, e0, e0⟩ : Pk) := by rfl) :
  Calls Tryz.prog 33 #[.int .u32 id, .iface 142 (.pointer (some ⟨k, 0, none⟩))] w (zBL p w) := by
 have ta := @taB
 obtain ⟨W0, W1, W2, X0, X1, X2, K1, P⟩ := zB9 w 12 id
 have cd := P.o1 hb
 obtain ⟨c4, f4⟩ := P.cel 4 (.string ⟨#[]⟩)
 obtain ⟨W3, W4, X3, X4, K3, J3, J4, B4⟩ := (P.set 4 (.string a)).fin p (by rw [hp]; rfl)
 have S0 := Lib.hid P.s
 clear P hb
 go_enter Tryz.func33, Tryz.ntmps33
 go_wp2_with (first
  | refine arA 4 X0 ?_
  | refine arA 6 X1 ?_
  | refine arB 41 (z24 12 id) ?_
  | refine arS K1 X2 ?_
  | (go_at_call 145; refine (zHf _ _).mono ?_; rintro e w' ⟨rfl, rfl⟩)
  | (refine zAx 349 rfl ?_; rw [X3.out])
  | refine arL K3 ?_
  | refine arS J3 X4 ?_)
 refine bodyPost_ret (results_ct Tryz.results33 _ _ _ _ _ (0, 0) _ _ rfl rfl J4.out Tryz.underlying29 rfl zAo) rfl ?_
 subst hp
 exact ⟨_, rfl, zBF _ _ _ rfl rfl rfl, B4.out⟩
theorem zKZ (q : Value) (w : World) : Calls Tryz.prog 130 #[q] w fun e w' => e = .returned (.int .u8 7) ∧ w = w' := by
 go_enter Tryz.func130, Tryz.ntmps130
 go_wp2
 go_ret
 exact ⟨rfl, rfl⟩
theorem zIp (id : Int) (w : World) (a : ByteArray) (k : Nat) (hb : w.heap[k]? = some (.cells #[.string a] 131 (0, 0))) {p : Pk} (hp : p = (⟨7, id, a, e0, e0, 0, 0, 0, e0, ⟨0, 0, 0, 0, 0, 0, 0, []⟩, [], [], 0, 0, e0, e0, e0⟩ : Pk) := by rfl) :
  Calls Tryz.prog 33 #[.int .u32 id, .iface 129 (.pointer (some ⟨k, 0, none⟩))] w (zBL p w) := by
 have ta := @taB
 obtain ⟨W0, W1, W2, X0, X1, X2, K1, P⟩ := zB9 w 7 id
 have cd := P.o1 hb
 obtain ⟨c2, f2⟩ := P.cel 2 (.string ⟨#[]⟩)
 obtain ⟨W3, W4, X3, X4, K3, J3, J4, B4⟩ := (P.set 2 (.string a)).fin p (by rw [hp]; rfl)
 have S0 := Lib.hid P.s
 clear P hb
 go_enter Tryz.func33, Tryz.ntmps33
 go_wp2_with (first
  | refine arA 4 X0 ?_
  | refine arA 6 X1 ?_
  | refine arB 41 (z24 7 id) ?_
  | refine arS K1 X2 ?_
  | (go_at_call 130; refine (zKZ _ _).mono ?_; rintro e w' ⟨rfl, rfl⟩)
  | (refine zAx 349 rfl ?_; rw [X3.out])
  | refine arL K3 ?_
  | refine arS J3 X4 ?_)
 refine bodyPost_ret (results_ct Tryz.results33 _ _ _ _ _ (0, 0) _ _ rfl rfl J4.out Tryz.underlying29 rfl zAo) rfl ?_
 subst hp
 exact ⟨_, rfl, zBF _ _ _ rfl rfl rfl, B4.out⟩
theorem zHg (q : Value) (w : World) : Calls Tryz.prog 142 #[q] w fun e w' => e = .returned (.int .u8 11) ∧ w = w' := by
 go_enter Tryz.func142, Tryz.ntmps142
 go_wp2
 go_ret
 exact ⟨rfl, rfl⟩
theorem zGe (id : Int) (w : World) (a : ByteArray) (k : Nat) (hb : w.heap[k]? = some (.cells #[.string a] 141 (0, 0))) {p : Pk} (hp : p = (⟨11, id, a, e0, e0, 0, 0, 0, e0, ⟨0, 0, 0, 0, 0, 0, 0, []⟩, [], [], 0, 0, e0, e0, e0⟩ : Pk) := by rfl) :
  Calls Tryz.prog 33 #[.int .u32 id, .iface 140 (.pointer (some ⟨k, 0, none⟩))] w (zBL p w) := by
 have ta := @taB
 obtain ⟨W0, W1, W2, X0, X1, X2, K1, P⟩ := zB9 w 11 id
 have cd := P.o1 hb
 obtain ⟨c2, f2⟩ := P.cel 2 (.string ⟨#[]⟩)
 obtain ⟨W3, W4, X3, X4, K3, J3, J4, B4⟩ := (P.set 2 (.string a)).fin p (by rw [hp]; rfl)
 have S0 := Lib.hid P.s
 clear P hb
 go_enter Tryz.func33, Tryz.ntmps33
 go_wp2_with (first
  | refine arA 4 X0 ?_
  | refine arA 6 X1 ?_
  | refine arB 41 (z24 11 id) ?_
  | refine arS K1 X2 ?_
  | (go_at_call 142; refine (zHg _ _).mono ?_; rintro e w' ⟨rfl, rfl⟩)
  | (refine zAx 349 rfl ?_; rw [X3.out])
  | refine arL K3 ?_
  | refine arS J3 X4 ?_)
 refine bodyPost_ret (results_ct Tryz.results33 _ _ _ _ _ (0, 0) _ _ rfl rfl J4.out Tryz.underlying29 rfl zAo) rfl ?_
 subst hp
 exact ⟨_, rfl, zBF _ _ _ rfl rfl rfl, B4.out⟩
theorem zIq (q : Value) (w : World) : Calls Tryz.prog 148 #[q] w fun e w' => e = .returned (.int .u8 13) ∧ w = w' := by
 go_enter Tryz.func148, Tryz.ntmps148
 go_wp2
 go_ret
 exact ⟨rfl, rfl⟩
theorem zHh (id : Int) (w : World) (a : ByteArray) (k : Nat) (hb : w.heap[k]? = some (.cells #[.string a] 145 (0, 0))) {p : Pk} (hp : p = (⟨13, id, a, e0, e0, 0, 0, 0, e0, ⟨0, 0, 0, 0, 0, 0, 0, []⟩, [], [], 0, 0, e0, e0, e0⟩ : Pk) := by rfl) :
  Calls Tryz.prog 33 #[.int .u32 id, .iface 144 (.pointer (some ⟨k, 0, none⟩))] w (zBL p w) := by
 have ta := @taB
 obtain ⟨W0, W1, W2, X0, X1, X2, K1, P⟩ := zB9 w 13 id
 have cd := P.o1 hb
 obtain ⟨c2, f2⟩ := P.cel 2 (.string ⟨#[]⟩)
 obtain ⟨W3, W4, X3, X4, K3, J3, J4, B4⟩ := (P.set 2 (.string a)).fin p (by rw [hp]; rfl)
 have S0 := Lib.hid P.s
 clear P hb
 go_enter Tryz.func33, Tryz.ntmps33
 go_wp2_with (first
  | refine arA 4 X0 ?_
  | refine arA 6 X1 ?_
  | refine arB 41 (z24 13 id) ?_
  | refine arS K1 X2 ?_
  | (go_at_call 148; refine (zIq _ _).mono ?_; rintro e w' ⟨rfl, rfl⟩)
  | (refine zAx 349 rfl ?_; rw [X3.out])
  | refine arL K3 ?_
  | refine arS J3 X4 ?_)
 refine bodyPost_ret (results_ct Tryz.results33 _ _ _ _ _ (0, 0) _ _ rfl rfl J4.out Tryz.underlying29 rfl zAo) rfl ?_
 subst hp
 exact ⟨_, rfl, zBF _ _ _ rfl rfl rfl, B4.out⟩
theorem zLq (q : Value) (w : World) : Calls Tryz.prog 123 #[q] w fun e w' => e = .returned (.int .u8 5) ∧ w = w' := by
 go_enter Tryz.func123, Tryz.ntmps123
 go_wp2
 go_ret
 exact ⟨rfl, rfl⟩
theorem zK0 (id : Int) (w : World) (a : ByteArray) (x : Int) (y : Int) (k : Nat) (hb : w.heap[k]? = some (.cells #[.string a, .int .u64 x, .int .u32 y] 125 (0, 0))) {p : Pk} (hp : p = (⟨5, id, e0, e0, a, x, y, 0, e0, ⟨0, 0, 0, 0, 0, 0, 0, []⟩, [], [], 0, 0, e0, e0, e0⟩ : Pk) := by rfl) :
  Calls Tryz.prog 33 #[.int .u32 id, .iface 123 (.pointer (some ⟨k, 0, none⟩))] w (zBL p w) := by
 have ta := @taB
 obtain ⟨W0, W1, W2, X0, X1, X2, K1, P⟩ := zB9 w 5 id
 obtain ⟨cd0, cd1, cd2⟩ := P.o3 hb
 obtain ⟨c4, f4⟩ := P.cel 4 (.string ⟨#[]⟩)
 obtain ⟨c5, f5⟩ := P.cel 5 (.int .u64 0)
 obtain ⟨c6, f6⟩ := P.cel 6 (.int .u32 0)
 obtain ⟨W3, W4, X3, X4, K3, J3, J4, B4⟩ := (((P.set 4 (.string a)).set 5 (.int .u64 x)).set 6 (.int .u32 y)).drew.fin p (by rw [hp]; rfl)
 have S0 := Lib.hid P.s
 clear P hb
 go_enter Tryz.func33, Tryz.ntmps33
 go_wp2_with (first
  | refine arA 4 X0 ?_
  | refine arA 6 X1 ?_
  | refine arB 41 (z24 5 id) ?_
  | refine arS K1 X2 ?_
  | (go_at_call 123; refine (zLq _ _).mono ?_; rintro e w' ⟨rfl, rfl⟩))
 go_still_tail 12, (by kernel_rfl)
 go_wp2_with (first
  | (refine zAx 349 rfl ?_; rw [X3.out])
  | refine arL K3 ?_
  | refine arS J3 X4 ?_)
 refine bodyPost_ret (results_ct Tryz.results33 _ _ _ _ _ (0, 0) _ _ rfl rfl J4.out Tryz.underlying29 rfl zAo) rfl ?_
 subst hp
 exact ⟨_, rfl, zBF _ _ _ rfl rfl rfl, B4.out⟩
theorem zK1 (q : Value) (w : World) : Calls Tryz.prog 154 #[q] w fun e w' => e = .returned (.int .u8 15) ∧ w = w' := by
 go_enter Tryz.func154, Tryz.ntmps154
 go_wp2
 go_ret
 exact ⟨rfl, rfl⟩
theorem zIr (id : Int) (w : World) (a : ByteArray) (k : Nat) (hb : w.heap[k]? = some (.cells #[.string a] 149 (0, 0))) {p : Pk} (hp : p = (⟨15, id, a, e0, e0, 0, 0, 0, e0, ⟨0, 0, 0, 0, 0, 0, 0, []⟩, [], [], 0, 0, e0, e0, e0⟩ : Pk) := by rfl) :
  Calls Tryz.prog 33 #[.int .u32 id, .iface 148 (.pointer (some ⟨k, 0, none⟩))] w (zBL p w) := by
 have ta := @taB
 obtain ⟨W0, W1, W2, X0, X1, X2, K1, P⟩ := zB9 w 15 id
 have cd := P.o1 hb
 obtain ⟨c2, f2⟩ := P.cel 2 (.string ⟨#[]⟩)
 obtain ⟨W3, W4, X3, X4, K3, J3, J4, B4⟩ := (P.set 2 (.string a)).fin p (by rw [hp]; rfl)
 have S0 := Lib.hid P.s
 clear P hb
 go_enter Tryz.func33, Tryz.ntmps33
 go_wp2_with (first
  | refine arA 4 X0 ?_
  | refine arA 6 X1 ?_
  | refine arB 41 (z24 15 id) ?_
  | refine arS K1 X2 ?_
  | (go_at_call 154; refine (zK1 _ _).mono ?_; rintro e w' ⟨rfl, rfl⟩)
  | (refine zAx 349 rfl ?_; rw [X3.out])
  | refine arL K3 ?_
  | refine arS J3 X4 ?_)
 refine bodyPost_ret (results_ct Tryz.results33 _ _ _ _ _ (0, 0) _ _ rfl rfl J4.out Tryz.underlying29 rfl zAo) rfl ?_
 subst hp
 exact ⟨_, rfl, zBF _ _ _ rfl rfl rfl, B4.out⟩
theorem zGf (q : Value) (w : World) : Calls Tryz.prog 157 #[q] w fun e w' => e = .returned (.int .u8 16) ∧ w = w' := by
 go_enter Tryz.func157, Tryz.ntmps157
 go_wp2
 go_ret
 exact ⟨rfl, rfl⟩
theorem zF4 (id : Int) (w : World) (a : ByteArray) (k : Nat) (hb : w.heap[k]? = some (.cells #[.string a] 151 (0, 0))) {p : Pk} (hp : p = (⟨16, id, a, e0, e0, 0, 0, 0, e0, ⟨0, 0, 0, 0, 0, 0, 0, []⟩, [], [], 0, 0, e0, e0, e0⟩ : Pk) := by rfl) :
  Calls Tryz.prog 33 #[.int .u32 id, .iface 150 (.pointer (some ⟨k, 0, none⟩))] w (zBL p w) := by
 have ta := @taB
 obtain ⟨W0, W1, W2, X0, X1, X2, K1, P⟩ := zB9 w 16 id
 have cd := P.o1 hb
 obtain ⟨c2, f2⟩ := P.cel 2 (.string ⟨#[]⟩)
 obtain ⟨W3, W4, X3, X4, K3, J3, J4, B4⟩ := (P.set 2 (.string a)).fin p (by rw [hp]; rfl)
 have S0 := Lib.hid P.s
 clear P hb
 go_enter Tryz.func33, Tryz.ntmps33
 go_wp2_with (first
  | refine arA 4 X0 ?_
  | refine arA 6 X1 ?_
  | refine arB 41 (z24 16 id) ?_
  | refine arS K1 X2 ?_
  | (go_at_call 157; refine (zGf _ _).mono ?_; rintro e w' ⟨rfl, rfl⟩)
  | (refine zAx 349 rfl ?_; rw [X3.out])
  | refine arL K3 ?_
  | refine arS J3 X4 ?_)
 refine bodyPost_ret (results_ct Tryz.results33 _ _ _ _ _ (0, 0) _ _ rfl rfl J4.out Tryz.underlying29 rfl zAo) rfl ?_
 subst hp
 exact ⟨_, rfl, zBF _ _ _ rfl rfl rfl, B4.out⟩
theorem zLr (q : Value) (w : World) : Calls Tryz.prog 160 #[q] w fun e w' => e = .returned (.int .u8 17) ∧ w = w' := by
 go_enter Tryz.func160, Tryz.ntmps160
 go_wp2
 go_ret
 exact ⟨rfl, rfl⟩
theorem zK2 (id : Int) (w : World) (a : ByteArray) (k : Nat) (hb : w.heap[k]? = some (.cells #[.string a] 153 (0, 0))) {p : Pk} (hp : p = (⟨17, id, a, e0, e0, 0, 0, 0, e0, ⟨0, 0, 0, 0, 0, 0, 0, []⟩, [], [], 0, 0, e0, e0, e0⟩ : Pk) := by rfl) :
  Calls Tryz.prog 33 #[.int .u32 id, .iface 152 (.pointer (some ⟨k, 0, none⟩))] w (zBL p w) := by
 have ta := @taB
 obtain ⟨W0, W1, W2, X0, X1, X2, K1, P⟩ := zB9 w 17 id
 have cd := P.o1 hb
 obtain ⟨c2, f2⟩ := P.cel 2 (.string ⟨#[]⟩)
 obtain ⟨W3, W4, X3, X4, K3, J3, J4, B4⟩ := (P.set 2 (.string a)).fin p (by rw [hp]; rfl)
 have S0 := Lib.hid P.s
 clear P hb
 go_enter Tryz.func33, Tryz.ntmps33
 go_wp2_with (first
  | refine arA 4 X0 ?_
  | refine arA 6 X1 ?_
  | refine arB 41 (z24 17 id) ?_
  | refine arS K1 X2 ?_
  | (go_at_call 160; refine (zLr _ _).mono ?_; rintro e w' ⟨rfl, rfl⟩)
  | (refine zAx 349 rfl ?_; rw [X3.out])
  | refine arL K3 ?_
  | refine arS J3 X4 ?_)
 refine bodyPost_ret (results_ct Tryz.results33 _ _ _ _ _ (0, 0) _ _ rfl rfl J4.out Tryz.underlying29 rfl zAo) rfl ?_
 subst hp
 exact ⟨_, rfl, zBF _ _ _ rfl rfl rfl, B4.out⟩
theorem zGg (q : Value) (w : World) : Calls Tryz.prog 166 #[q] w fun e w' => e = .returned (.int .u8 19) ∧ w = w' := by
 go_enter Tryz.func166, Tryz.ntmps166
 go_wp2
 go_ret
 exact ⟨rfl, rfl⟩
theorem zF5 (id : Int) (w : World) (a : ByteArray) (k : Nat) (hb : w.heap[k]? = some (.cells #[.string a] 158 (0, 0))) {p : Pk} (hp : p = (⟨19, id, a, e0, e0, 0, 0, 0, e0, ⟨0, 0, 0, 0, 0, 0, 0, []⟩, [], [], 0, 0, e0, e0, e0⟩ : Pk) := by rfl) :
  Calls Tryz.prog 33 #[.int .u32 id, .iface 157 (.pointer (some ⟨k, 0, none⟩))] w (zBL p w) := by
 have ta := @taB
 obtain ⟨W0, W1, W2, X0, X1, X2, K1, P⟩ := zB9 w 19 id
 have cd := P.o1 hb
 obtain ⟨c2, f2⟩ := P.cel 2 (.string ⟨#[]⟩)
 obtain ⟨W3, W4, X3, X4, K3, J3, J4, B4⟩ := (P.set 2 (.string a)).fin p (by rw [hp]; rfl)
 have S0 := Lib.hid P.s
 clear P hb
 go_enter Tryz.func33, Tryz.ntmps33
 go_wp2_with (first
  | refine arA 4 X0 ?_
  | refine arA 6 X1 ?_
  | refine arB 41 (z24 19 id) ?_
  | refine arS K1 X2 ?_
  | (go_at_call 166; refine (zGg _ _).mono ?_; rintro e w' ⟨rfl, rfl⟩)
  | (refine zAx 349 rfl ?_; rw [X3.out])
  | refine arL K3 ?_
  | refine arS J3 X4 ?_)
 refine bodyPost_ret (results_ct Tryz.results33 _ _ _ _ _ (0, 0) _ _ rfl rfl J4.out Tryz.underlying29 rfl zAo) rfl ?_
 subst hp
 exact ⟨_, rfl, zBF _ _ _ rfl rfl rfl, B4.out⟩
theorem zIs (q : Value) (w : World) : Calls Tryz.prog 163 #[q] w fun e w' => e = .returned (.int .u8 18) ∧ w = w' := by
 go_enter Tryz.func163, Tryz.ntmps163
 go_wp2
 go_ret
 exact ⟨rfl, rfl⟩
theorem zHi (id : Int) (w : World) (a : ByteArray) (b : ByteArray) (k : Nat) (hb : w.heap[k]? = some (.cells #[.string a, .string b] 156 (0, 0))) {p : Pk} (hp : p = (⟨18, id, a, b, e0, 0, 0, 0, e0, ⟨0, 0, 0, 0, 0, 0, 0, []⟩, [], [], 0, 0, e0, e0, e0⟩ : Pk) := by rfl) :
  Calls Tryz.prog 33 #[.int .u32 id, .iface 154 (.pointer (some ⟨k, 0, none⟩))] w (zBL p w) := by
 have ta := @taB
 obtain ⟨W0, W1, W2, X0, X1, X2, K1, P⟩ := zB9 w 18 id
 obtain ⟨cd0, cd1⟩ := P.o2 hb
 obtain ⟨c2, f2⟩ := P.cel 2 (.string ⟨#[]⟩)
 obtain ⟨c3, f3⟩ := P.cel 3 (.string ⟨#[]⟩)
 obtain ⟨W3, W4, X3, X4, K3, J3, J4, B4⟩ := ((P.set 2 (.string a)).set 3 (.string b)).drew.fin p (by rw [hp]; rfl)
 have S0 := Lib.hid P.s
 clear P hb
 go_enter Tryz.func33, Tryz.ntmps33
 go_wp2_with (first
  | refine arA 4 X0 ?_
  | refine arA 6 X1 ?_
  | refine arB 41 (z24 18 id) ?_
  | refine arS K1 X2 ?_
  | (go_at_call 163; refine (zIs _ _).mono ?_; rintro e w' ⟨rfl, rfl⟩))
 go_still_tail 8, (by kernel_rfl)
 go_wp2_with (first
  | (refine zAx 349 rfl ?_; rw [X3.out])
  | refine arL K3 ?_
  | refine arS J3 X4 ?_)
 refine bodyPost_ret (results_ct Tryz.results33 _ _ _ _ _ (0, 0) _ _ rfl rfl J4.out Tryz.underlying29 rfl zAo) rfl ?_
 subst hp
 exact ⟨_, rfl, zBF _ _ _ rfl rfl rfl, B4.out⟩
theorem zHj (q : Value) (w : World) : Calls Tryz.prog 169 #[q] w fun e w' => e = .returned (.int .u8 20) ∧ w = w' := by
 go_enter Tryz.func169, Tryz.ntmps169
 go_wp2
 go_ret
 exact ⟨rfl, rfl⟩
theorem zGh (id : Int) (w : World) (a : ByteArray) (b : ByteArray) (k : Nat) (hb : w.heap[k]? = some (.cells #[.string a, .string b] 161 (0, 0))) {p : Pk} (hp : p = (⟨20, id, a, b, e0, 0, 0, 0, e0, ⟨0, 0, 0, 0, 0, 0, 0, []⟩, [], [], 0, 0, e0, e0, e0⟩ : Pk) := by rfl) :
  Calls Tryz.prog 33 #[.int .u32 id, .iface 159 (.pointer (some ⟨k, 0, none⟩))] w (zBL p w) := by
 have ta := @taB
 obtain ⟨W0, W1, W2, X0, X1, X2, K1, P⟩ := zB9 w 20 id
 obtain ⟨cd0, cd1⟩ := P.o2 hb
 obtain ⟨c2, f2⟩ := P.cel 2 (.string ⟨#[]⟩)
 obtain ⟨c3, f3⟩ := P.cel 3 (.string ⟨#[]⟩)
 obtain ⟨W3, W4, X3, X4, K3, J3, J4, B4⟩ := ((P.set 2 (.string a)).set 3 (.string b)).drew.fin p (by rw [hp]; rfl)
 have S0 := Lib.hid P.s
 clear P hb
 go_enter Tryz.func33, Tryz.ntmps33
 go_wp2_with (first
  | refine arA 4 X0 ?_
  | refine arA 6 X1 ?_
  | refine arB 41 (z24 20 id) ?_
  | refine arS K1 X2 ?_
  | (go_at_call 169; refine (zHj _ _).mono ?_; rintro e w' ⟨rfl, rfl⟩))
 go_still_tail 8, (by kernel_rfl)
 go_wp2_with (first
  | (refine zAx 349 rfl ?_; rw [X3.out])
  | refine arL K3 ?_
  | refine arS J3 X4 ?_)
 refine bodyPost_ret (results_ct Tryz.results33 _ _ _ _ _ (0, 0) _ _ rfl rfl J4.out Tryz.underlying29 rfl zAo) rfl ?_
 subst hp
 exact ⟨_, rfl, zBF _ _ _ rfl rfl rfl, B4.out⟩
theorem zIt (q : Value) (w : World) : Calls Tryz.prog 173 #[q] w fun e w' => e = .returned (.int .u8 101) ∧ w = w' := by
 go_enter Tryz.func173, Tryz.ntmps173
 go_wp2
 go_ret
 exact ⟨rfl, rfl⟩
theorem zHk (id : Int) (w : World) (x : Int) (a : ByteArray) (b : ByteArray) (k : Nat) (hb : w.heap[k]? = some (.cells #[.int .u32 x, .string a, .string b] 165 (0, 0))) {p : Pk} (hp : p = (⟨101, id, e0, e0, e0, 0, 0, 0, e0, ⟨0, 0, 0, 0, 0, 0, 0, []⟩, [], [], 0, x, a, b, e0⟩ : Pk) := by rfl) :
  Calls Tryz.prog 33 #[.int .u32 id, .iface 162 (.pointer (some ⟨k, 0, none⟩))] w (zBL p w) := by
 have ta := @taB
 obtain ⟨W0, W1, W2, X0, X1, X2, K1, P⟩ := zB9 w 101 id
 obtain ⟨cd0, cd1, cd2⟩ := P.o3 hb
 obtain ⟨c20, f20⟩ := P.cel 20 (.int .u32 0)
 obtain ⟨c21, f21⟩ := P.cel 21 (.string ⟨#[]⟩)
 obtain ⟨c22, f22⟩ := P.cel 22 (.string ⟨#[]⟩)
 obtain ⟨W3, W4, X3, X4, K3, J3, J4, B4⟩ := (((P.set 20 (.int .u32 x)).set 21 (.string a)).set 22 (.string b)).drew.fin p (by rw [hp]; rfl)
 have S0 := Lib.hid P.s
 clear P hb
 go_enter Tryz.func33, Tryz.ntmps33
 go_wp2_with (first
  | refine arA 4 X0 ?_
  | refine arA 6 X1 ?_
  | refine arB 41 (z24 101 id) ?_
  | refine arS K1 X2 ?_
  | (go_at_call 173; refine (zIt _ _).mono ?_; rintro e w' ⟨rfl, rfl⟩))
 go_still_tail 12, (by kernel_rfl)
 go_wp2_with (first
  | (refine zAx 349 rfl ?_; rw [X3.out])
  | refine arL K3 ?_
  | refine arS J3 X4 ?_)
 refine bodyPost_ret (results_ct Tryz.results33 _ _ _ _ _ (0, 0) _ _ rfl rfl J4.out Tryz.underlying29 rfl zAo) rfl ?_
 subst hp
 exact ⟨_, rfl, zBF _ _ _ rfl rfl rfl, B4.out⟩
theorem zIu (q : Value) (w : World) : Calls Tryz.prog 178 #[q] w fun e w' => e = .returned (.int .u8 102) ∧ w = w' := by
 go_enter Tryz.func178, Tryz.ntmps178
 go_wp2
 go_ret
 exact ⟨rfl, rfl⟩
theorem zHl (id : Int) (w : World) (a : ByteArray) (k : Nat) (hb : w.heap[k]? = some (.cells #[.string a] 167 (0, 0))) {p : Pk} (hp : p = (⟨102, id, e0, e0, a, 0, 0, 0, e0, ⟨0, 0, 0, 0, 0, 0, 0, []⟩, [], [], 0, 0, e0, e0, e0⟩ : Pk) := by rfl) :
  Calls Tryz.prog 33 #[.int .u32 id, .iface 166 (.pointer (some ⟨k, 0, none⟩))] w (zBL p w) := by
 have ta := @taB
 obtain ⟨W0, W1, W2, X0, X1, X2, K1, P⟩ := zB9 w 102 id
 have cd := P.o1 hb
 obtain ⟨c4, f4⟩ := P.cel 4 (.string ⟨#[]⟩)
 obtain ⟨W3, W4, X3, X4, K3, J3, J4, B4⟩ := (P.set 4 (.string a)).fin p (by rw [hp]; rfl)
 have S0 := Lib.hid P.s
 clear P hb
 go_enter Tryz.func33, Tryz.ntmps33
 go_wp2_with (first
  | refine arA 4 X0 ?_
  | refine arA 6 X1 ?_
  | refine arB 41 (z24 102 id) ?_
  | refine arS K1 X2 ?_
  | (go_at_call 178; refine (zIu _ _).mono ?_; rintro e w' ⟨rfl, rfl⟩)
  | (refine zAx 349 rfl ?_; rw [X3.out])
  | refine arL K3 ?_
  | refine arS J3 X4 ?_)
 refine bodyPost_ret (results_ct Tryz.results33 _ _ _ _ _ (0, 0) _ _ rfl rfl J4.out Tryz.underlying29 rfl zAo) rfl ?_
 subst hp
 exact ⟨_, rfl, zBF _ _ _ rfl rfl rfl, B4.out⟩
theorem zHm {p : Pk} (h : ¬ (p.f0 = 1 ∨ p.f0 = 2)) : inner p = bt p.f0 :: (zAQ p.f1 ++ zA1 p) := by unfold inner; rw [if_neg h]
def zLs (p : Pk) (tp : TypeId) (q g : Nat) (w : World) (e : Ending) (w' : World) : Prop :=
 e = .returned .nilIface ∧ ∃ b, w'.heap[q]? = some (.cells #[.int .u32 p.f1, .iface tp (.pointer (some ⟨b, 0, none⟩))] 79 (0, 0)) ∧ PlainQ p tp b w' ∧ UpdB (fun k => k = g ∨ k = q) w w'
theorem zNr (p : Pk) (tp t : TypeId) (zs : Array Value) (F : Nat) (T : zBU p tp t zs F) (hnew : ∀ w : World, Calls Tryz.prog 76 #[.int .u8 p.f0] w fun e w' => e = .returned (.tuple #[.iface tp (.pointer (some ⟨w.heap.size, 0, none⟩)), .nilIface]) ∧ w.alloc (.cells zs t) = w')
  (ht : T27 p.f0) (i0 : 0 ≤ p.f1) (i1 : p.f1 ≤ 4294967295) (q g o s : Nat) (u0 u1 : Value) (w : World) (hq : w.heap[q]? = some (.cells #[u0, u1] 79 (0, 0))) (hqg : q ≠ g) (hqs : q ≠ s) (hb : RBuf w g o s (some (bt p.f0 :: (zAQ p.f1 ++ zA1 p)))) :
  Calls Tryz.prog 59 #[.pointer (some ⟨q, 0, none⟩), .pointer (some ⟨g, o, none⟩)] w (zLs p tp q g w) := by
 have hlt := hb.lt
 have hql := zAB hq
 have HQ := Lib.hid hq
 have NW := Lib.hid hnew
 have e8 : c8 (some (bt p.f0 :: (zAQ p.f1 ++ zA1 p))) = (p.f0, some (zAQ p.f1 ++ zA1 p)) := by
  have h1 : c8 (some (bt p.f0 :: (zAQ p.f1 ++ zA1 p))) = (((bt p.f0).toNat : Int), some (zAQ p.f1 ++ zA1 p)) := rfl
  rw [h1, T27.bt ht]
 have C8 := Lib.hid (zEa g o s _ w hb)
 have E8 := Lib.hid e8
 have E32 := Lib.hid (zBI p.f1 (zA1 p) i0 i1)
 have HM := T.meth
 have HC := T.ent
 have HF := Lib.hid T.fill
 clear hq hnew hb e8 T ht i0 i1
 generalize zA1 p = B at *
 generalize hid0 : p.f1 = id at *
 generalize hty0 : p.f0 = ty at *
 have HID := Lib.hid hid0
 clear hid0 hty0
 go_enter Tryz.func59, Tryz.ntmps59
 go_wp2_with fail
 refine C8.out.mono ?_
 rw [E8.out]
 rintro e w1 ⟨rfl, hb1, hu1⟩
 obtain ⟨v, cv, hv⟩ := hb1.err
 have hv' : v = .nilIface := hv
 subst hv'
 have hq1 : w1.heap[q]? = some (.cells #[u0, u1] 79 (0, 0)) := by rw [hu1.block q hql hqg]; exact HQ.out
 go_wp2_with fail
 refine (NW.out w1).mono ?_
 rintro e w2 ⟨rfl, hw2⟩
 have hbel : Below w1.heap.size w1 w2 := hw2 ▸ (Below.refl _ _).alloc (Nat.le_refl _) _
 have hs2 : w2.heap.size = w1.heap.size + 1 := by rw [← hw2]; simp
 have hk2 : w2.heap[w1.heap.size]? = some (.cells zs t (0, 0)) := by rw [← hw2]; exact heap_alloc_new _ _
 have l1 := hb1.lt
 have z1 := hu1.size
 have hb2 : RBuf w2 g o s (some (zAQ id ++ B)) := hb1.kept (hbel.block _ (by omega)) (hbel.block _ (by omega)) hbel.size
 have hq2 : w2.heap[q]? = some (.cells #[u0, u1] 79 (0, 0)) := by rw [hbel.block _ (by omega)]; exact hq1
 have hU2 : UpdB (fun k => k = g ∨ k = q) w w2 := (hu1.updB (.inl rfl)).trans ⟨hbel.os, hbel.tape, hbel.output, hbel.size, fun k hk _ => hbel.block k hk⟩
 have hbg : g < w2.heap.size := by omega
 have hbs : s < w2.heap.size := by omega
 have hqb : q ≠ w1.heap.size := by omega
 have hgb : w1.heap.size ≠ g := by omega
 have hsb : w1.heap.size ≠ s := by omega
 have hwb : w.heap.size ≤ w1.heap.size := by omega
 have hbb : w1.heap.size < w2.heap.size := by omega
 clear hw2 hb1 hu1 hq1 hbel hs2 l1 cv hv C8 E8 NW
 generalize w1.heap.size = b at *
 have B2 := Lib.hid hb2
 have Q2 := Lib.hid hq2
 have K2 := Lib.hid hk2
 have U2 := Lib.hid hU2
 clear hq2 hk2 hU2 hb2
 go_wp2_with fail
 refine (zC6 g o s _ w2 B2.out).mono ?_
 rw [E32.out]
 rintro e w3 ⟨rfl, hb3, hu3⟩
 have hq3 : w3.heap[q]? = some (.cells #[u0, u1] 79 (0, 0)) := by rw [hu3.block q (by omega) hqg]; exact Q2.out
 have hk3 : w3.heap[b]? = some (.cells zs t (0, 0)) := by rw [hu3.block b hbb hgb]; exact K2.out
 have cq0 : w3.cell? ⟨q, 0, none⟩ = some u0 := by rw [zAA hq3]; rfl
 have cq1 : w3.cell? ⟨q, 1, none⟩ = some u1 := by rw [zAA hq3]; rfl
 have fq : ∀ i, w3.frozen? ⟨q, i, none⟩ = false := zAP hq3
 have fq0 := fq 0
 have fq1 := fq 1
 have U3 := Lib.hid (U2.out.trans (hu3.updB (.inl rfl)))
 have B3 := Lib.hid hb3
 have Q3 := Lib.hid hq3
 have K3 := Lib.hid hk3
 clear hb3 hu3 hq3 hk3 fq E32
 go_wp2_with fail
 have hne : ∀ j, j ≠ q → ((w3.setCell ⟨q, 0, none⟩ (.int .u32 id)).setCell ⟨q, 1, none⟩ (.iface tp (.pointer (some ⟨b, 0, none⟩)))).heap[j]? = w3.heap[j]? := fun j hj => by rw [Below.heap_setCell _ _ _ _ hj, Below.heap_setCell _ _ _ _ hj]
 have hqq : ((w3.setCell ⟨q, 0, none⟩ (.int .u32 id)).setCell ⟨q, 1, none⟩ (.iface tp (.pointer (some ⟨b, 0, none⟩)))).heap[q]? = some (.cells #[.int .u32 id, .iface tp (.pointer (some ⟨b, 0, none⟩))] 79 (0, 0)) := zAU (zAU Q3.out _) _
 have hzz : ((w3.setCell ⟨q, 0, none⟩ (.int .u32 id)).setCell ⟨q, 1, none⟩ (.iface tp (.pointer (some ⟨b, 0, none⟩)))).heap.size = w3.heap.size := by simp [World.setCell]
 have huu : UpdB (fun k => k = g ∨ k = q) w ((w3.setCell ⟨q, 0, none⟩ (.int .u32 id)).setCell ⟨q, 1, none⟩ (.iface tp (.pointer (some ⟨b, 0, none⟩)))) := (U3.out.setCell (.inr rfl) _).setCell (.inr rfl) _
 generalize (w3.setCell ⟨q, 0, none⟩ (.int .u32 id)).setCell ⟨q, 1, none⟩ (.iface tp (.pointer (some ⟨b, 0, none⟩))) = W at *
 have hbW : RBuf W g o s (some B) := B3.out.kept (hne g (Ne.symm hqg)) (hne s (Ne.symm hqs)) (by omega)
 have hkW := (hne b (Ne.symm hqb)).trans K3.out
 have E := HF.out b g o s W hkW hgb hsb hbW
 have QW := Lib.hid hqq
 have UW := Lib.hid huu
 clear hne hqq hzz huu hbW hkW B3 K3 Q3 U3 HF
 refine E.mono ?_
 rintro e w4 ⟨rfl, hp, hu4⟩
 have F := Lib.hid (show zLs p tp q g w (.returned .nilIface) w4 from by
  refine ⟨rfl, b, ?_, hp, ?_⟩
  ·rw [HID.out]; exact (hu4.block q (zAB QW.out) (by omega)).trans QW.out
  ·have hu := UW.out
   exact ⟨hu4.os.trans hu.os, hu4.tape.trans hu.tape, hu4.output.trans hu.output, Nat.le_trans hu.size hu4.size, fun k hk e => (hu4.block k (by have := hu.size; omega) (by omega)).trans (hu.block k hk e)⟩)
 clear hp hu4 E
 go_wp2_with fail
 go_ret
 exact F.out
theorem zIv (p : Pk) (tp : TypeId) (q rr s : Nat) (u0 u1 : Value) (L l : List UInt8) (M : Int) (w : World) (hq : w.heap[q]? = some (.cells #[u0, u1] 79 (0, 0))) (hr : Rd w rr s L) (hL : L.length ≤ 1000000000) (hM0 : 0 ≤ M) (hM : M ≤ 1000000000) (hrs : rr ≠ s) (hqr : q ≠ rr) (hg : zBk M L = some l)
  (C2 : ∀ (g s : Nat) (W : World), W.heap[q]? = some (.cells #[u0, u1] 79 (0, 0)) → q ≠ g → q ≠ s → RBuf W g 0 s (some l) → Calls Tryz.prog 59 #[.pointer (some ⟨q, 0, none⟩), .pointer (some ⟨g, 0, none⟩)] W (zLs p tp q g W)) :
  Calls Tryz.prog 31 #[.pointer (some ⟨q, 0, none⟩), .pointer (some ⟨rr, 0, none⟩), .slice none 0 0, .int .u32 M] w (zLs p tp q rr w) := by
 have C := Lib.hid (zCi rr s L M w hr hL hM0 hM hrs)
 have D := Lib.hid C2
 have hql := zAB hq
 have Q := Lib.hid hq
 have hll : l.length ≤ 1000000000 := Nat.le_trans (zEb hg) hL
 clear hr hL hM0 hM C2 hq
 go_enter Tryz.func31, Tryz.ntmps31
 go_wp2_with fail
 refine C.out.mono ?_
 rw [hg]
 rintro e w1 ⟨hu, h, c, rfl, hc, hwh, hhw, hl, _⟩
 have hq1 := (hu.block q hql hqr).trans Q.out
 have U := Lib.hid hu
 have LI := Lib.hid hl
 have Q1 := Lib.hid hq1
 have z1 := hu.size
 clear hu C hl hq1 Q
 go_wp2_with fail
 refine (zAZ _ _ _ _).mono ?_
 rintro e w2 ⟨rfl, hw2⟩
 have hb2 := RBuf.new LI.out hhw hc hll
 have hbel := (Below.refl w1.heap.size w1).alloc (Nat.le_refl _) (.cells #[.slice (some ⟨h, 0, none⟩) l.length c, .int .i64 0, .nilIface] 83)
 rw [hw2] at hb2 hbel
 have hq2 := (hbel.block q (by omega)).trans Q1.out
 have E := Lib.hid (D.out _ _ w2 hq2 (by omega) (by omega) hb2)
 have U2 : UpdB (fun k => k = rr ∨ k = q) w w2 := (U.out.mono (fun k e => .inl e)).trans ⟨hbel.os, hbel.tape, hbel.output, hbel.size, fun k hk _ => hbel.block k hk⟩
 have V2 := Lib.hid U2
 clear hw2 hb2 hbel hq2 U2 D Q1 LI U
 go_wp2_with fail
 refine E.out.mono ?_
 rintro e w3 ⟨rfl, b, hq3, hp3, hu3⟩
 have F := Lib.hid (show zLs p tp q rr w (.returned .nilIface) w3 from by
  have hu := V2.out
  have hz := hu.size
  exact ⟨rfl, b, hq3, hp3, ⟨hu3.os.trans hu.os, hu3.tape.trans hu.tape, hu3.output.trans hu.output, Nat.le_trans hu.size hu3.size, fun k hk e => (hu3.block k (by omega) (by omega)).trans (hu.block k hk e)⟩⟩)
 clear hq3 hp3 hu3 E V2
 go_wp2_with fail
 go_ret
 exact F.out
theorem PkV.one {w : World} {P : Array Value} {p : Pk} (h : PkV w P p) : P.all (·.oneCell') = true := by
 obtain ⟨A1, c1, A2, c2, A3, c3, rfl, _⟩ := h
 exact zCs _ _ _ _ _ _ _
def zHn (p : Pk) (w : World) (e : Ending) (w' : World) : Prop := ∃ P, e = .returned (.tuple #[.agg P, .int .i64 0]) ∧ PkV w' P p ∧ Below w.heap.size w w'
theorem zAs (p : Pk) (tp t : TypeId) (zs : Array Value) (F : Nat) (T : zBU p tp t zs F) (hnew : ∀ w : World, Calls Tryz.prog 76 #[.int .u8 p.f0] w fun e w' => e = .returned (.tuple #[.iface tp (.pointer (some ⟨w.heap.size, 0, none⟩)), .nilIface]) ∧ w.alloc (.cells zs t) = w')
  (ht : T27 p.f0) (h12 : ¬ (p.f0 = 1 ∨ p.f0 = 2)) (hx : ¬ zBs p.f0) (i0 : 0 ≤ p.f1) (i1 : p.f1 ≤ 4294967295) (s : ByteArray) (M : Int) (w : World) (hi : ∀ w : World, (Instr.index 9 (.string s) (.int .i64 4)).run Tryz.prog w = .ok (.int .u8 p.f0) w) (h4 : 4 < s.size) (hs : s.size ≤ 1000000000) (hM0 : 0 ≤ M) (hM : M ≤ 1000000000)
  (hg : zBk M (tl s) = some (inner p)) :
  Calls Tryz.prog 11 #[.string s, .int .u32 M] w (zHn p w) := by
 have hr9 := T27.range ht
 have hx1 : (p.f0 == 1) = false := by simp; omega
 have hx2 : (p.f0 == 2) = false := by simp; omega
 rw [zHm h12] at hg
 have RQ := Lib.hid (fun (q g s : Nat) (u0 u1 : Value) (W : World) => zNr p tp t zs F T hnew ht i0 i1 q g 0 s u0 u1 W)
 have RN := Lib.hid (zMP p.f0 hx)
 have hcv : IntKind.i64.wrap p.f0 = p.f0 := IntWalk.i64_in _ (by omega)
 have HG := Lib.hid hg
 clear T hnew ht h12 hx i0 i1 hg hr9
 generalize hty0 : p.f0 = ty at hi hx1 hx2 hcv RN
 clear hty0
 have hmf : ∀ (fn : Fn) (first cap : Array Value) (w : World), (Instr.makeFunc fn first cap).run Tryz.prog w = .ok (.func fn first cap) w := fun _ _ _ _ => rfl
 have kb := fun W => Lib.run_convert_string_bytes (P := Tryz.prog) W 9 56 5 s Tryz.underlying9 Tryz.underlying56 Tryz.underlying5
 have i4 : (4 : Int) < (s.size : Int) := by omega
 obtain ⟨W0, hW0⟩ : ∃ W, (w.alloc (.cells pZero 29)).alloc (.cells #[.int .i64 0] 3) = W := ⟨_, rfl⟩
 have s0 : W0.heap.size = w.heap.size + 1 + 1 := by rw [← hW0]; simp
 have X0 := Lib.hid hW0
 have S0 := Lib.hid s0
 clear hW0 s0
 go_enter_defers Tryz.func11, Tryz.ntmps11
 go_wp2_with (first
  | (refine wpList_allocTo rfl (some 4) rfl (.pointer (some ⟨w.heap.size, 0, none⟩)) (.cells pZero 29) (by as_aux_lemma => kernel_rfl) ?_)
  | (refine zAx 12 rfl ?_; rw [X0.out]))
 refine (RN.out _).mono ?_
 rintro e w' ⟨rfl, rfl⟩
 have hrr : (Lib.bytesWorld W0 5 s).heap.size = w.heap.size + 1 + 1 + 1 := by rw [Lib.bytesWorld_size, S0.out]
 obtain ⟨hR, hz0, hz1, hbe, hsz⟩ := zCW w W0 s X0.out
 rw [hrr, S0.out]
 unfold zC7 at hR hz0 hz1 hbe hsz
 clear hrr
 generalize (Lib.bytesWorld W0 5 s).alloc (.cells #[.slice (some ⟨w.heap.size + 1 + 1, 0, none⟩) s.size (grownCap W0 s.size 0 5)] 76) = W1 at hR hz0 hz1 hbe hsz ⊢
 have R1 := Lib.hid hR
 have Z0 := Lib.hid hz0
 have Z1 := Lib.hid hz1
 have B1 := Lib.hid hbe
 have S1 := Lib.hid hsz
 clear hR hz0 hz1 hbe hsz kb X0 S0
 obtain ⟨W2, hW2⟩ : ∃ W, W1.alloc (.cells #[.int .u32 0, .nilIface] 79) = W := ⟨_, rfl⟩
 have X2 := Lib.hid hW2
 clear hW2
 go_wp2_with fail
 rw [X2.out]
 have hz2 : W2.heap.size = W1.heap.size + 1 := by rw [← X2.out]; simp
 have hb2 : Below W1.heap.size W1 W2 := by rw [← X2.out]; exact (Below.refl _ _).alloc (Nat.le_refl _) _
 have hq2 : W2.heap[W1.heap.size]? = some (.cells #[.int .u32 0, .nilIface] 79 (0, 0)) := by rw [← X2.out]; exact heap_alloc_new _ _
 have e1 := S1.out
 have hR2 : Rd W2 (w.heap.size + 1 + 1 + 1) (w.heap.size + 1 + 1) (tl s) := R1.out.kept (hb2.block _ (by omega)) (hb2.block _ (by omega)) hb2.size
 refine (zIv p tp W1.heap.size (w.heap.size + 1 + 1 + 1) (w.heap.size + 1 + 1) _ _ (tl s) _ M W2 hq2 hR2 (by rw [zAH]; exact hs) hM0 hM (by omega) (by omega) HG.out (fun g s' W h1 h2 h3 h4 => RQ.out W1.heap.size g s' _ _ W h1 h2 h3 h4)).mono ?_
 rintro e w3 ⟨rfl, b, hq3, hp3, hu3⟩
 have z3 := hu3.size
 have y0 : w3.heap[w.heap.size]? = some (.cells pZero 29 (0, 0)) := by rw [hu3.block _ (by omega) (by omega), hb2.block _ (by omega)]; exact Z0.out
 have y1 : w3.heap[w.heap.size + 1]? = some (.cells #[.int .i64 0] 3 (0, 0)) := by rw [hu3.block _ (by omega) (by omega), hb2.block _ (by omega)]; exact Z1.out
 have yb : Below w.heap.size w w3 := (B1.out.trans (hb2.mono (by omega))).trans ⟨hu3.os, hu3.tape, hu3.output, hu3.size, fun k hk => hu3.block k (by omega) (by omega)⟩
 have q0 : w3.cell? ⟨W1.heap.size, 0, none⟩ = some (.int .u32 p.f1) := by rw [zAA hq3]; rfl
 have q1 : w3.cell? ⟨W1.heap.size, 1, none⟩ = some (.iface tp (.pointer (some ⟨b, 0, none⟩))) := by rw [zAA hq3]; rfl
 have C3 := Lib.hid (fun k => hp3 (w3.drewN k) (zAq (Below.refl _ _) k))
 have Y0 := Lib.hid y0
 have Y1 := Lib.hid y1
 have YB := Lib.hid yb
 clear y0 y1 yb hq3 hp3 hu3 hR2 hq2 hb2 R1 Z0 Z1 B1 X2 RQ HG RN
 have zz := Lib.hid (show w.heap.size + 1 < w3.heap.size by omega)
 clear hz2 e1 z3 S1
 generalize W1.heap.size = q at *
 generalize hid0 : p.f1 = id at *
 clear hid0
 go_wp2_with fail
 go_quiet (fail)
 go_wp2_with fail
 refine (C3.out _).mono ?_
 rintro e w4 ⟨P, rfl, hP, hb4⟩
 have zz := zz.out
 have z4 := hb4.size
 have z4' : w3.heap.size ≤ w4.heap.size := z4
 have hP9 := hP.now
 have pone := hP9.one
 have pinf := zDz hP9.size
 have PS := Lib.hid (show P.size = pZero.size from hP9.size)
 have y0 : w4.heap[w.heap.size]? = some (.cells pZero 29 (0, 0)) := by rw [hb4.block _ (by show w.heap.size < w3.heap.size; omega)]; exact Y0.out
 have y1 : w4.heap[w.heap.size + 1]? = some (.cells #[.int .i64 0] 3 (0, 0)) := by rw [hb4.block _ (by show w.heap.size + 1 < w3.heap.size; omega)]; exact Y1.out
 have yb : Below w.heap.size w w4 := (⟨YB.out.os, YB.out.tape, YB.out.output, YB.out.size, YB.out.block⟩ : Below w.heap.size w (w3.drewN nq)).trans (hb4.mono (by show w.heap.size ≤ w3.heap.size; omega))
 obtain ⟨W5, hW5⟩ : ∃ W, w4.setRow w.heap.size P = W := ⟨_, rfl⟩
 obtain ⟨W6, hW6⟩ : ∃ W, W5.setRow w.heap.size P = W := ⟨_, rfl⟩
 have a5 : W5.heap[w.heap.size]? = some (.cells P 29 (0, 0)) := by rw [← hW5]; exact zAe y0
 have b5 : W5.heap[w.heap.size + 1]? = some (.cells #[.int .i64 0] 3 (0, 0)) := by rw [← hW5, setRow_other _ _ _ _ (by omega)]; exact y1
 have t5 : Below w.heap.size w W5 := by rw [← hW5]; exact ⟨yb.os, yb.tape, yb.output, by rw [setRow_size]; exact yb.size, fun k hk => by rw [setRow_other _ _ _ _ (by omega)]; exact yb.block k hk⟩
 have a6 : W6.heap[w.heap.size]? = some (.cells P 29 (0, 0)) := by rw [← hW6]; exact zAe a5
 have b6 : W6.heap[w.heap.size + 1]? = some (.cells #[.int .i64 0] 3 (0, 0)) := by rw [← hW6, setRow_other _ _ _ _ (by omega)]; exact b5
 have t6 : Below w.heap.size w W6 := by rw [← hW6]; exact ⟨t5.os, t5.tape, t5.output, by rw [setRow_size]; exact t5.size, fun k hk => by rw [setRow_other _ _ _ _ (by omega)]; exact t5.block k hk⟩
 have c6 : W6.cell? ⟨w.heap.size + 1, 0, none⟩ = some (.int .i64 0) := by rw [zAA b6]; rfl
 have f6 : W6.frozen? ⟨w.heap.size + 1, 0, none⟩ = false := zAP b6 0
 have hP7 : PkV (W6.setCell ⟨w.heap.size + 1, 0, none⟩ (.int .i64 0)) P p := by
  refine hP _ ?_ (fun k hk _ => ?_)
  ·rw [show (W6.setCell ⟨w.heap.size + 1, 0, none⟩ (.int .i64 0)).heap.size = W6.heap.size from by simp [World.setCell], ← hW6, setRow_size, ← hW5, setRow_size]
   exact Nat.le_refl _
  ·have hk' : w3.heap.size ≤ k := hk
   rw [Below.heap_setCell _ _ _ _ (by show k ≠ w.heap.size + 1; omega), ← hW6, setRow_other _ _ _ _ (by omega), ← hW5, setRow_other _ _ _ _ (by omega)]
 have V0 := Lib.hid y0
 have X5 := Lib.hid hW5
 have X6 := Lib.hid hW6
 have A5 := Lib.hid a5
 have A6 := Lib.hid a6
 have T6 := Lib.hid t6
 have P7 := Lib.hid hP7
 have PI := Lib.hid pinf
 have PO := Lib.hid pone
 clear y0 y1 yb a5 b5 t5 a6 b6 t6 hW5 hW6 hb4 C3 Y0 Y1 YB q0 q1 hP hP9 hP7 pone pinf
 go_wp2_with (first
  | (refine wpList_store_row rfl 29 _ _ rfl w.heap.size P rfl rfl 29 pZero V0.out PI.out PS.out.symm PO.out ?_; rw [X5.out])
  | (refine wpList_load_row rfl 29 _ rfl w.heap.size rfl 29 P (0, 0) _ A5.out Tryz.underlying29 rfl PI.out ?_)
  | (refine wpList_store_row rfl 29 _ _ rfl w.heap.size P rfl rfl 29 P A5.out PI.out rfl PO.out ?_; rw [X6.out]))
 refine leaves_cons (f := 28) (args := #[.pointer (some ⟨w.heap.size, 0, none⟩), .pointer (some ⟨w.heap.size + 1, 0, none⟩)]) (by simp) (by simp [go_sem]) ?_
 refine (zCx _ _ _).mono ?_
 rintro e u' w'' ⟨rfl, rfl, rfl⟩
 have r1 : (W6.setCell ⟨w.heap.size + 1, 0, none⟩ (.int .i64 0)).heap[w.heap.size]? = some (.cells P 29 (0, 0)) := by rw [Below.heap_setCell _ _ _ _ (by show w.heap.size ≠ w.heap.size + 1; omega)]; exact A6.out
 have r2 : (W6.setCell ⟨w.heap.size + 1, 0, none⟩ (.int .i64 0)).cell? ⟨w.heap.size + 1, 0, none⟩ = some (.int .i64 0) := zBV c6
 have hfin : Below w.heap.size w (W6.setCell ⟨w.heap.size + 1, 0, none⟩ (.int .i64 0)) := T6.out.setCell (by simp) _
 have hP7 := P7.out
 generalize W6.setCell ⟨w.heap.size + 1, 0, none⟩ (.int .i64 0) = W7 at *
 have hl : (loadVar 3 ⟨w.heap.size + 1, 0, none⟩).run Tryz.prog W7 = .ok (.int .i64 0) W7 := by simp [go_sem, r2]
 exact ⟨_, results_cc Tryz.results11 _ _ w.heap.size (w.heap.size + 1) 29 P (0, 0) _ _ rfl rfl r1 Tryz.underlying29 rfl PI.out hl, P, rfl, hP7, hfin⟩
theorem zIw (w : World) : Calls Tryz.prog 76 #[.int .u8 3] w fun e w' => e = .returned (.tuple #[.iface 112 (.pointer (some ⟨w.heap.size, 0, none⟩)), .nilIface]) ∧ w.alloc (.cells (zAj [.string ⟨#[]⟩, .int .u32 0] 0 0 0 0 0 0 0 (.slice none 0 0) []) 119) = w' := by
 go_enter Tryz.func76, Tryz.ntmps76
 go_wp2
 go_ret2
 exact ⟨rfl, rfl⟩
theorem zGi (w : World) : Calls Tryz.prog 76 #[.int .u8 4] w fun e w' => e = .returned (.tuple #[.iface 120 (.pointer (some ⟨w.heap.size, 0, none⟩)), .nilIface]) ∧ w.alloc (.cells #[.string ⟨#[]⟩] 122) = w' := by
 go_enter Tryz.func76, Tryz.ntmps76
 go_wp2
 go_ret2
 exact ⟨rfl, rfl⟩
theorem zIx (w : World) : Calls Tryz.prog 76 #[.int .u8 5] w fun e w' => e = .returned (.tuple #[.iface 123 (.pointer (some ⟨w.heap.size, 0, none⟩)), .nilIface]) ∧ w.alloc (.cells #[.string ⟨#[]⟩, .int .u64 0, .int .u32 0] 125) = w' := by
 go_enter Tryz.func76, Tryz.ntmps76
 go_wp2
 go_ret2
 exact ⟨rfl, rfl⟩
theorem zHo (w : World) : Calls Tryz.prog 76 #[.int .u8 6] w fun e w' => e = .returned (.tuple #[.iface 126 (.pointer (some ⟨w.heap.size, 0, none⟩)), .nilIface]) ∧ w.alloc (.cells #[.string ⟨#[]⟩, .int .u64 0, .slice none 0 0] 128) = w' := by
 go_enter Tryz.func76, Tryz.ntmps76
 go_wp2
 go_ret2
 exact ⟨rfl, rfl⟩
theorem zHp (w : World) : Calls Tryz.prog 76 #[.int .u8 7] w fun e w' => e = .returned (.tuple #[.iface 129 (.pointer (some ⟨w.heap.size, 0, none⟩)), .nilIface]) ∧ w.alloc (.cells #[.string ⟨#[]⟩] 131) = w' := by
 go_enter Tryz.func76, Tryz.ntmps76
 go_wp2
 go_ret2
 exact ⟨rfl, rfl⟩
theorem zHq (w : World) : Calls Tryz.prog 76 #[.int .u8 8] w fun e w' => e = .returned (.tuple #[.iface 132 (.pointer (some ⟨w.heap.size, 0, none⟩)), .nilIface]) ∧ w.alloc (.cells #[.string ⟨#[]⟩] 133) = w' := by
 go_enter Tryz.func76, Tryz.ntmps76
 go_wp2
 go_ret2
 exact ⟨rfl, rfl⟩
theorem zF6 (w : World) : Calls Tryz.prog 76 #[.int .u8 9] w fun e w' => e = .returned (.tuple #[.iface 134 (.pointer (some ⟨w.heap.size, 0, none⟩)), .nilIface]) ∧ w.alloc (.cells (zAj [.string ⟨#[]⟩] 0 0 0 0 0 0 0 (.slice none 0 0) []) 136) = w' := by
 go_enter Tryz.func76, Tryz.ntmps76
 go_wp2
 go_ret2
 exact ⟨rfl, rfl⟩
theorem zFB (w : World) : Calls Tryz.prog 76 #[.int .u8 10] w fun e w' => e = .returned (.tuple #[.iface 137 (.pointer (some ⟨w.heap.size, 0, none⟩)), .nilIface]) ∧ w.alloc (.cells (zAj [.string ⟨#[]⟩] 0 0 0 0 0 0 0 (.slice none 0 0) []) 139) = w' := by
 go_enter Tryz.func76, Tryz.ntmps76
 go_wp2
 go_ret2
 exact ⟨rfl, rfl⟩
theorem zF7 (w : World) : Calls Tryz.prog 76 #[.int .u8 11] w fun e w' => e = .returned (.tuple #[.iface 140 (.pointer (some ⟨w.heap.size, 0, none⟩)), .nilIface]) ∧ w.alloc (.cells #[.string ⟨#[]⟩] 141) = w' := by
 go_enter Tryz.func76, Tryz.ntmps76
 go_wp2
 go_ret2
 exact ⟨rfl, rfl⟩
theorem zF8 (w : World) : Calls Tryz.prog 76 #[.int .u8 12] w fun e w' => e = .returned (.tuple #[.iface 142 (.pointer (some ⟨w.heap.size, 0, none⟩)), .nilIface]) ∧ w.alloc (.cells #[.string ⟨#[]⟩] 143) = w' := by
 go_enter Tryz.func76, Tryz.ntmps76
 go_wp2
 go_ret2
 exact ⟨rfl, rfl⟩
theorem zGj (w : World) : Calls Tryz.prog 76 #[.int .u8 13] w fun e w' => e = .returned (.tuple #[.iface 144 (.pointer (some ⟨w.heap.size, 0, none⟩)), .nilIface]) ∧ w.alloc (.cells #[.string ⟨#[]⟩] 145) = w' := by
 go_enter Tryz.func76, Tryz.ntmps76
 go_wp2
 go_ret2
 exact ⟨rfl, rfl⟩
theorem zHr (w : World) : Calls Tryz.prog 76 #[.int .u8 14] w fun e w' => e = .returned (.tuple #[.iface 146 (.pointer (some ⟨w.heap.size, 0, none⟩)), .nilIface]) ∧ w.alloc (.cells (zAj [.string ⟨#[]⟩] 0 0 0 0 0 0 0 (.slice none 0 0) []) 147) = w' := by
 go_enter Tryz.func76, Tryz.ntmps76
 go_wp2
 go_ret2
 exact ⟨rfl, rfl⟩
theorem zHs (w : World) : Calls Tryz.prog 76 #[.int .u8 15] w fun e w' => e = .returned (.tuple #[.iface 148 (.pointer (some ⟨w.heap.size, 0, none⟩)), .nilIface]) ∧ w.alloc (.cells #[.string ⟨#[]⟩] 149) = w' := by
 go_enter Tryz.func76, Tryz.ntmps76
 go_wp2
 go_ret2
 exact ⟨rfl, rfl⟩
theorem zFC (w : World) : Calls Tryz.prog 76 #[.int .u8 16] w fun e w' => e = .returned (.tuple #[.iface 150 (.pointer (some ⟨w.heap.size, 0, none⟩)), .nilIface]) ∧ w.alloc (.cells #[.string ⟨#[]⟩] 151) = w' := by
 go_enter Tryz.func76, Tryz.ntmps76
 go_wp2
 go_ret2
 exact ⟨rfl, rfl⟩
theorem zIy (w : World) : Calls Tryz.prog 76 #[.int .u8 17] w fun e w' => e = .returned (.tuple #[.iface 152 (.pointer (some ⟨w.heap.size, 0, none⟩)), .nilIface]) ∧ w.alloc (.cells #[.string ⟨#[]⟩] 153) = w' := by
 go_enter Tryz.func76, Tryz.ntmps76
 go_wp2
 go_ret2
 exact ⟨rfl, rfl⟩
theorem zGk (w : World) : Calls Tryz.prog 76 #[.int .u8 18] w fun e w' => e = .returned (.tuple #[.iface 154 (.pointer (some ⟨w.heap.size, 0, none⟩)), .nilIface]) ∧ w.alloc (.cells #[.string ⟨#[]⟩, .string ⟨#[]⟩] 156) = w' := by
 go_enter Tryz.func76, Tryz.ntmps76
 go_wp2
 go_ret2
 exact ⟨rfl, rfl⟩
theorem zFD (w : World) : Calls Tryz.prog 76 #[.int .u8 19] w fun e w' => e = .returned (.tuple #[.iface 157 (.pointer (some ⟨w.heap.size, 0, none⟩)), .nilIface]) ∧ w.alloc (.cells #[.string ⟨#[]⟩] 158) = w' := by
 go_enter Tryz.func76, Tryz.ntmps76
 go_wp2
 go_ret2
 exact ⟨rfl, rfl⟩
theorem zF9 (w : World) : Calls Tryz.prog 76 #[.int .u8 20] w fun e w' => e = .returned (.tuple #[.iface 159 (.pointer (some ⟨w.heap.size, 0, none⟩)), .nilIface]) ∧ w.alloc (.cells #[.string ⟨#[]⟩, .string ⟨#[]⟩] 161) = w' := by
 go_enter Tryz.func76, Tryz.ntmps76
 go_wp2
 go_ret2
 exact ⟨rfl, rfl⟩
theorem zFE (w : World) : Calls Tryz.prog 76 #[.int .u8 200] w fun e w' => e = .returned (.tuple #[.iface 181 (.pointer (some ⟨w.heap.size, 0, none⟩)), .nilIface]) ∧ w.alloc (.cells #[.string ⟨#[]⟩, .nilIface] 185) = w' := by
 go_enter Tryz.func76, Tryz.ntmps76
 go_wp2
 go_ret2
 exact ⟨rfl, rfl⟩
theorem zIz (w : World) : Calls Tryz.prog 30 #[.int .i64 101] w fun e w' => e = .returned (.iface 162 (.pointer (some ⟨w.heap.size, 0, none⟩))) ∧ w.alloc (.cells #[.int .u32 0, .string ⟨#[]⟩, .string ⟨#[]⟩] 165) = w' := by
 go_enter Tryz.func30, Tryz.ntmps30
 go_wp2
 go_ret
 exact ⟨rfl, rfl⟩
theorem zJA (w : World) : Calls Tryz.prog 30 #[.int .i64 102] w fun e w' => e = .returned (.iface 166 (.pointer (some ⟨w.heap.size, 0, none⟩))) ∧ w.alloc (.cells #[.string ⟨#[]⟩] 167) = w' := by
 go_enter Tryz.func30, Tryz.ntmps30
 go_wp2
 go_ret
 exact ⟨rfl, rfl⟩
theorem zLt (w : World) : Calls Tryz.prog 30 #[.int .i64 103] w fun e w' => e = .returned (.iface 168 (.pointer (some ⟨w.heap.size, 0, none⟩))) ∧ w.alloc (.cells #[.slice none 0 0] 170) = w' := by
 go_enter Tryz.func30, Tryz.ntmps30
 go_wp2
 go_ret
 exact ⟨rfl, rfl⟩
theorem zLu (w : World) : Calls Tryz.prog 30 #[.int .i64 104] w fun e w' => e = .returned (.iface 171 (.pointer (some ⟨w.heap.size, 0, none⟩))) ∧ w.alloc (.cells #[.slice none 0 0] 174) = w' := by
 go_enter Tryz.func30, Tryz.ntmps30
 go_wp2
 go_ret
 exact ⟨rfl, rfl⟩
theorem zK3 (w : World) : Calls Tryz.prog 30 #[.int .i64 105] w fun e w' => e = .returned (.iface 178 (.pointer (some ⟨w.heap.size, 0, none⟩))) ∧ w.alloc (.cells (zAj [] 0 0 0 0 0 0 0 (.slice none 0 0) []) 180) = w' := by
 go_enter Tryz.func30, Tryz.ntmps30
 go_wp2
 go_ret
 exact ⟨rfl, rfl⟩
theorem zDt (w : World) : Calls Tryz.prog 30 #[.int .i64 201] w fun e w' => e = .returned (.iface 186 (.pointer (some ⟨w.heap.size, 0, none⟩))) ∧ w.alloc (.cells #[.nilIface] 188) = w' := by
 go_enter Tryz.func30, Tryz.ntmps30
 go_wp2
 go_ret
 exact ⟨rfl, rfl⟩
theorem zJB (p : Pk) (s : Sound p) (h : p.f0 = 4) : zBU p 120 122 #[.string ⟨#[]⟩] 121 where
 meth := fun _ _ => by kernel_rfl
 ent := enters_of Tryz.func121 (by kernel_rfl) rfl
 fill := fun b g o s' W hq h1 h2 hB => by
  obtain ⟨_, ⟨i0, i1⟩, _, _, _, ⟨x0, x1⟩, ⟨y0, y1⟩, ⟨z0, z1⟩, _, _, _, _, _, ⟨u0, u1⟩, _⟩ := s.g
  have hx := s.txt
  unfold zB8 at hx
  have e : zA1 p = str (tl p.f4) := by unfold zA1; rw [h]; rfl
  have e2 : str (tl p.f4) = str (tl p.f4) ++ [] := by simp only [List.append_assoc, List.append_nil]
  rw [e, e2] at hB
  have hp : p = (⟨4, p.f1, e0, e0, p.f4, 0, 0, 0, e0, ⟨0, 0, 0, 0, 0, 0, 0, []⟩, [], [], 0, 0, e0, e0, e0⟩ : Pk) := by
   have h1 : p = (⟨p.f0, p.f1, e0, e0, p.f4, 0, 0, 0, e0, ⟨0, 0, 0, 0, 0, 0, 0, []⟩, [], [], 0, 0, e0, e0, e0⟩ : Pk) := s.ok.only.trans (by unfold zBJ; rw [show zAc p.f0 p.f16 = [1, 4] from by rw [h]; rfl]; rfl)
   rw [h] at h1
   exact h1
  refine (zKH b g o s' p.f4 [] W hq h1 h2 hB (by omega)).mono ?_
  rintro e w' ⟨rfl, hk, hu⟩
  refine ⟨rfl, fun V hV => ?_, hu⟩
  have hP := zHe p.f1 V p.f4 b ((hV.block b (zAB hk)).trans hk)
  rw [← hp] at hP
  exact hP
theorem zJC (p : Pk) (s : Sound p) (h : p.f0 = 8) : zBU p 132 133 #[.string ⟨#[]⟩] 134 where
 meth := fun _ _ => by kernel_rfl
 ent := enters_of Tryz.func134 (by kernel_rfl) rfl
 fill := fun b g o s' W hq h1 h2 hB => by
  obtain ⟨_, ⟨i0, i1⟩, _, _, _, ⟨x0, x1⟩, ⟨y0, y1⟩, ⟨z0, z1⟩, _, _, _, _, _, ⟨u0, u1⟩, _⟩ := s.g
  have hx := s.txt
  unfold zB8 at hx
  have e : zA1 p = str (tl p.f4) := by unfold zA1; rw [h]; rfl
  have e2 : str (tl p.f4) = str (tl p.f4) ++ [] := by simp only [List.append_assoc, List.append_nil]
  rw [e, e2] at hB
  have hp : p = (⟨8, p.f1, e0, e0, p.f4, 0, 0, 0, e0, ⟨0, 0, 0, 0, 0, 0, 0, []⟩, [], [], 0, 0, e0, e0, e0⟩ : Pk) := by
   have h1 : p = (⟨p.f0, p.f1, e0, e0, p.f4, 0, 0, 0, e0, ⟨0, 0, 0, 0, 0, 0, 0, []⟩, [], [], 0, 0, e0, e0, e0⟩ : Pk) := s.ok.only.trans (by unfold zBJ; rw [show zAc p.f0 p.f16 = [1, 4] from by rw [h]; rfl]; rfl)
   rw [h] at h1
   exact h1
  refine (zKI b g o s' p.f4 [] W hq h1 h2 hB (by omega)).mono ?_
  rintro e w' ⟨rfl, hk, hu⟩
  refine ⟨rfl, fun V hV => ?_, hu⟩
  have hP := zIo p.f1 V p.f4 b ((hV.block b (zAB hk)).trans hk)
  rw [← hp] at hP
  exact hP
theorem zGl (p : Pk) (s : Sound p) (h : p.f0 = 12) : zBU p 142 143 #[.string ⟨#[]⟩] 146 where
 meth := fun _ _ => by kernel_rfl
 ent := enters_of Tryz.func146 (by kernel_rfl) rfl
 fill := fun b g o s' W hq h1 h2 hB => by
  obtain ⟨_, ⟨i0, i1⟩, _, _, _, ⟨x0, x1⟩, ⟨y0, y1⟩, ⟨z0, z1⟩, _, _, _, _, _, ⟨u0, u1⟩, _⟩ := s.g
  have hx := s.txt
  unfold zB8 at hx
  have e : zA1 p = str (tl p.f4) := by unfold zA1; rw [h]; rfl
  have e2 : str (tl p.f4) = str (tl p.f4) ++ [] := by simp only [List.append_assoc, List.append_nil]
  rw [e, e2] at hB
  have hp : p = (⟨12, p.f1, e0, e0, p.f4, 0, 0, 0, e0, ⟨0, 0, 0, 0, 0, 0, 0, []⟩, [], [], 0, 0, e0, e0, e0⟩ : Pk) := by
   have h1 : p = (⟨p.f0, p.f1, e0, e0, p.f4, 0, 0, 0, e0, ⟨0, 0, 0, 0, 0, 0, 0, []⟩, [], [], 0, 0, e0, e0, e0⟩ : Pk) := s.ok.only.trans (by unfold zBJ; rw [show zAc p.f0 p.f16 = [1, 4] from by rw [h]; rfl]; rfl)
   rw [h] at h1
   exact h1
  refine (zH7 b g o s' p.f4 [] W hq h1 h2 hB (by omega)).mono ?_
  rintro e w' ⟨rfl, hk, hu⟩
  refine ⟨rfl, fun V hV => ?_, hu⟩
  have hP := zGd p.f1 V p.f4 b ((hV.block b (zAB hk)).trans hk)
  rw [← hp] at hP
  exact hP
theorem zHt (p : Pk) (s : Sound p) (h : p.f0 = 102) : zBU p 166 167 #[.string ⟨#[]⟩] 179 where
 meth := fun _ _ => by kernel_rfl
 ent := enters_of Tryz.func179 (by kernel_rfl) rfl
 fill := fun b g o s' W hq h1 h2 hB => by
  obtain ⟨_, ⟨i0, i1⟩, _, _, _, ⟨x0, x1⟩, ⟨y0, y1⟩, ⟨z0, z1⟩, _, _, _, _, _, ⟨u0, u1⟩, _⟩ := s.g
  have hx := s.txt
  unfold zB8 at hx
  have e : zA1 p = str (tl p.f4) := by unfold zA1; rw [h]; rfl
  have e2 : str (tl p.f4) = str (tl p.f4) ++ [] := by simp only [List.append_assoc, List.append_nil]
  rw [e, e2] at hB
  have hp : p = (⟨102, p.f1, e0, e0, p.f4, 0, 0, 0, e0, ⟨0, 0, 0, 0, 0, 0, 0, []⟩, [], [], 0, 0, e0, e0, e0⟩ : Pk) := by
   have h1 : p = (⟨p.f0, p.f1, e0, e0, p.f4, 0, 0, 0, e0, ⟨0, 0, 0, 0, 0, 0, 0, []⟩, [], [], 0, 0, e0, e0, e0⟩ : Pk) := s.ok.only.trans (by unfold zBJ; rw [show zAc p.f0 p.f16 = [1, 4] from by rw [h]; rfl]; rfl)
   rw [h] at h1
   exact h1
  refine (zIc b g o s' p.f4 [] W hq h1 h2 hB (by omega)).mono ?_
  rintro e w' ⟨rfl, hk, hu⟩
  refine ⟨rfl, fun V hV => ?_, hu⟩
  have hP := zHl p.f1 V p.f4 b ((hV.block b (zAB hk)).trans hk)
  rw [← hp] at hP
  exact hP
theorem zJD (p : Pk) (s : Sound p) (h : p.f0 = 7) : zBU p 129 131 #[.string ⟨#[]⟩] 131 where
 meth := fun _ _ => by kernel_rfl
 ent := enters_of Tryz.func131 (by kernel_rfl) rfl
 fill := fun b g o s' W hq h1 h2 hB => by
  obtain ⟨_, ⟨i0, i1⟩, _, _, _, ⟨x0, x1⟩, ⟨y0, y1⟩, ⟨z0, z1⟩, _, _, _, _, _, ⟨u0, u1⟩, _⟩ := s.g
  have hx := s.txt
  unfold zB8 at hx
  have e : zA1 p = str (tl p.f2) := by unfold zA1; rw [h]; rfl
  have e2 : str (tl p.f2) = str (tl p.f2) ++ [] := by simp only [List.append_assoc, List.append_nil]
  rw [e, e2] at hB
  have hp : p = (⟨7, p.f1, p.f2, e0, e0, 0, 0, 0, e0, ⟨0, 0, 0, 0, 0, 0, 0, []⟩, [], [], 0, 0, e0, e0, e0⟩ : Pk) := by
   have h1 : p = (⟨p.f0, p.f1, p.f2, e0, e0, 0, 0, 0, e0, ⟨0, 0, 0, 0, 0, 0, 0, []⟩, [], [], 0, 0, e0, e0, e0⟩ : Pk) := s.ok.only.trans (by unfold zBJ; rw [show zAc p.f0 p.f16 = [1, 2] from by rw [h]; rfl]; rfl)
   rw [h] at h1
   exact h1
  refine (zKJ b g o s' p.f2 [] W hq h1 h2 hB (by omega)).mono ?_
  rintro e w' ⟨rfl, hk, hu⟩
  refine ⟨rfl, fun V hV => ?_, hu⟩
  have hP := zIp p.f1 V p.f2 b ((hV.block b (zAB hk)).trans hk)
  rw [← hp] at hP
  exact hP
theorem zGm (p : Pk) (s : Sound p) (h : p.f0 = 11) : zBU p 140 141 #[.string ⟨#[]⟩] 143 where
 meth := fun _ _ => by kernel_rfl
 ent := enters_of Tryz.func143 (by kernel_rfl) rfl
 fill := fun b g o s' W hq h1 h2 hB => by
  obtain ⟨_, ⟨i0, i1⟩, _, _, _, ⟨x0, x1⟩, ⟨y0, y1⟩, ⟨z0, z1⟩, _, _, _, _, _, ⟨u0, u1⟩, _⟩ := s.g
  have hx := s.txt
  unfold zB8 at hx
  have e : zA1 p = str (tl p.f2) := by unfold zA1; rw [h]; rfl
  have e2 : str (tl p.f2) = str (tl p.f2) ++ [] := by simp only [List.append_assoc, List.append_nil]
  rw [e, e2] at hB
  have hp : p = (⟨11, p.f1, p.f2, e0, e0, 0, 0, 0, e0, ⟨0, 0, 0, 0, 0, 0, 0, []⟩, [], [], 0, 0, e0, e0, e0⟩ : Pk) := by
   have h1 : p = (⟨p.f0, p.f1, p.f2, e0, e0, 0, 0, 0, e0, ⟨0, 0, 0, 0, 0, 0, 0, []⟩, [], [], 0, 0, e0, e0, e0⟩ : Pk) := s.ok.only.trans (by unfold zBJ; rw [show zAc p.f0 p.f16 = [1, 2] from by rw [h]; rfl]; rfl)
   rw [h] at h1
   exact h1
  refine (zH8 b g o s' p.f2 [] W hq h1 h2 hB (by omega)).mono ?_
  rintro e w' ⟨rfl, hk, hu⟩
  refine ⟨rfl, fun V hV => ?_, hu⟩
  have hP := zGe p.f1 V p.f2 b ((hV.block b (zAB hk)).trans hk)
  rw [← hp] at hP
  exact hP
theorem zHu (p : Pk) (s : Sound p) (h : p.f0 = 13) : zBU p 144 145 #[.string ⟨#[]⟩] 149 where
 meth := fun _ _ => by kernel_rfl
 ent := enters_of Tryz.func149 (by kernel_rfl) rfl
 fill := fun b g o s' W hq h1 h2 hB => by
  obtain ⟨_, ⟨i0, i1⟩, _, _, _, ⟨x0, x1⟩, ⟨y0, y1⟩, ⟨z0, z1⟩, _, _, _, _, _, ⟨u0, u1⟩, _⟩ := s.g
  have hx := s.txt
  unfold zB8 at hx
  have e : zA1 p = str (tl p.f2) := by unfold zA1; rw [h]; rfl
  have e2 : str (tl p.f2) = str (tl p.f2) ++ [] := by simp only [List.append_assoc, List.append_nil]
  rw [e, e2] at hB
  have hp : p = (⟨13, p.f1, p.f2, e0, e0, 0, 0, 0, e0, ⟨0, 0, 0, 0, 0, 0, 0, []⟩, [], [], 0, 0, e0, e0, e0⟩ : Pk) := by
   have h1 : p = (⟨p.f0, p.f1, p.f2, e0, e0, 0, 0, 0, e0, ⟨0, 0, 0, 0, 0, 0, 0, []⟩, [], [], 0, 0, e0, e0, e0⟩ : Pk) := s.ok.only.trans (by unfold zBJ; rw [show zAc p.f0 p.f16 = [1, 2] from by rw [h]; rfl]; rfl)
   rw [h] at h1
   exact h1
  refine (zId b g o s' p.f2 [] W hq h1 h2 hB (by omega)).mono ?_
  rintro e w' ⟨rfl, hk, hu⟩
  refine ⟨rfl, fun V hV => ?_, hu⟩
  have hP := zHh p.f1 V p.f2 b ((hV.block b (zAB hk)).trans hk)
  rw [← hp] at hP
  exact hP
theorem zJE (p : Pk) (s : Sound p) (h : p.f0 = 15) : zBU p 148 149 #[.string ⟨#[]⟩] 155 where
 meth := fun _ _ => by kernel_rfl
 ent := enters_of Tryz.func155 (by kernel_rfl) rfl
 fill := fun b g o s' W hq h1 h2 hB => by
  obtain ⟨_, ⟨i0, i1⟩, _, _, _, ⟨x0, x1⟩, ⟨y0, y1⟩, ⟨z0, z1⟩, _, _, _, _, _, ⟨u0, u1⟩, _⟩ := s.g
  have hx := s.txt
  unfold zB8 at hx
  have e : zA1 p = str (tl p.f2) := by unfold zA1; rw [h]; rfl
  have e2 : str (tl p.f2) = str (tl p.f2) ++ [] := by simp only [List.append_assoc, List.append_nil]
  rw [e, e2] at hB
  have hp : p = (⟨15, p.f1, p.f2, e0, e0, 0, 0, 0, e0, ⟨0, 0, 0, 0, 0, 0, 0, []⟩, [], [], 0, 0, e0, e0, e0⟩ : Pk) := by
   have h1 : p = (⟨p.f0, p.f1, p.f2, e0, e0, 0, 0, 0, e0, ⟨0, 0, 0, 0, 0, 0, 0, []⟩, [], [], 0, 0, e0, e0, e0⟩ : Pk) := s.ok.only.trans (by unfold zBJ; rw [show zAc p.f0 p.f16 = [1, 2] from by rw [h]; rfl]; rfl)
   rw [h] at h1
   exact h1
  refine (zKK b g o s' p.f2 [] W hq h1 h2 hB (by omega)).mono ?_
  rintro e w' ⟨rfl, hk, hu⟩
  refine ⟨rfl, fun V hV => ?_, hu⟩
  have hP := zIr p.f1 V p.f2 b ((hV.block b (zAB hk)).trans hk)
  rw [← hp] at hP
  exact hP
theorem zFa (p : Pk) (s : Sound p) (h : p.f0 = 16) : zBU p 150 151 #[.string ⟨#[]⟩] 158 where
 meth := fun _ _ => by kernel_rfl
 ent := enters_of Tryz.func158 (by kernel_rfl) rfl
 fill := fun b g o s' W hq h1 h2 hB => by
  obtain ⟨_, ⟨i0, i1⟩, _, _, _, ⟨x0, x1⟩, ⟨y0, y1⟩, ⟨z0, z1⟩, _, _, _, _, _, ⟨u0, u1⟩, _⟩ := s.g
  have hx := s.txt
  unfold zB8 at hx
  have e : zA1 p = str (tl p.f2) := by unfold zA1; rw [h]; rfl
  have e2 : str (tl p.f2) = str (tl p.f2) ++ [] := by simp only [List.append_assoc, List.append_nil]
  rw [e, e2] at hB
  have hp : p = (⟨16, p.f1, p.f2, e0, e0, 0, 0, 0, e0, ⟨0, 0, 0, 0, 0, 0, 0, []⟩, [], [], 0, 0, e0, e0, e0⟩ : Pk) := by
   have h1 : p = (⟨p.f0, p.f1, p.f2, e0, e0, 0, 0, 0, e0, ⟨0, 0, 0, 0, 0, 0, 0, []⟩, [], [], 0, 0, e0, e0, e0⟩ : Pk) := s.ok.only.trans (by unfold zBJ; rw [show zAc p.f0 p.f16 = [1, 2] from by rw [h]; rfl]; rfl)
   rw [h] at h1
   exact h1
  refine (zG2 b g o s' p.f2 [] W hq h1 h2 hB (by omega)).mono ?_
  rintro e w' ⟨rfl, hk, hu⟩
  refine ⟨rfl, fun V hV => ?_, hu⟩
  have hP := zF4 p.f1 V p.f2 b ((hV.block b (zAB hk)).trans hk)
  rw [← hp] at hP
  exact hP
theorem zK4 (p : Pk) (s : Sound p) (h : p.f0 = 17) : zBU p 152 153 #[.string ⟨#[]⟩] 161 where
 meth := fun _ _ => by kernel_rfl
 ent := enters_of Tryz.func161 (by kernel_rfl) rfl
 fill := fun b g o s' W hq h1 h2 hB => by
  obtain ⟨_, ⟨i0, i1⟩, _, _, _, ⟨x0, x1⟩, ⟨y0, y1⟩, ⟨z0, z1⟩, _, _, _, _, _, ⟨u0, u1⟩, _⟩ := s.g
  have hx := s.txt
  unfold zB8 at hx
  have e : zA1 p = str (tl p.f2) := by unfold zA1; rw [h]; rfl
  have e2 : str (tl p.f2) = str (tl p.f2) ++ [] := by simp only [List.append_assoc, List.append_nil]
  rw [e, e2] at hB
  have hp : p = (⟨17, p.f1, p.f2, e0, e0, 0, 0, 0, e0, ⟨0, 0, 0, 0, 0, 0, 0, []⟩, [], [], 0, 0, e0, e0, e0⟩ : Pk) := by
   have h1 : p = (⟨p.f0, p.f1, p.f2, e0, e0, 0, 0, 0, e0, ⟨0, 0, 0, 0, 0, 0, 0, []⟩, [], [], 0, 0, e0, e0, e0⟩ : Pk) := s.ok.only.trans (by unfold zBJ; rw [show zAc p.f0 p.f16 = [1, 2] from by rw [h]; rfl]; rfl)
   rw [h] at h1
   exact h1
  refine (zLg b g o s' p.f2 [] W hq h1 h2 hB (by omega)).mono ?_
  rintro e w' ⟨rfl, hk, hu⟩
  refine ⟨rfl, fun V hV => ?_, hu⟩
  have hP := zK2 p.f1 V p.f2 b ((hV.block b (zAB hk)).trans hk)
  rw [← hp] at hP
  exact hP
theorem zFb (p : Pk) (s : Sound p) (h : p.f0 = 19) : zBU p 157 158 #[.string ⟨#[]⟩] 167 where
 meth := fun _ _ => by kernel_rfl
 ent := enters_of Tryz.func167 (by kernel_rfl) rfl
 fill := fun b g o s' W hq h1 h2 hB => by
  obtain ⟨_, ⟨i0, i1⟩, _, _, _, ⟨x0, x1⟩, ⟨y0, y1⟩, ⟨z0, z1⟩, _, _, _, _, _, ⟨u0, u1⟩, _⟩ := s.g
  have hx := s.txt
  unfold zB8 at hx
  have e : zA1 p = str (tl p.f2) := by unfold zA1; rw [h]; rfl
  have e2 : str (tl p.f2) = str (tl p.f2) ++ [] := by simp only [List.append_assoc, List.append_nil]
  rw [e, e2] at hB
  have hp : p = (⟨19, p.f1, p.f2, e0, e0, 0, 0, 0, e0, ⟨0, 0, 0, 0, 0, 0, 0, []⟩, [], [], 0, 0, e0, e0, e0⟩ : Pk) := by
   have h1 : p = (⟨p.f0, p.f1, p.f2, e0, e0, 0, 0, 0, e0, ⟨0, 0, 0, 0, 0, 0, 0, []⟩, [], [], 0, 0, e0, e0, e0⟩ : Pk) := s.ok.only.trans (by unfold zBJ; rw [show zAc p.f0 p.f16 = [1, 2] from by rw [h]; rfl]; rfl)
   rw [h] at h1
   exact h1
  refine (zG3 b g o s' p.f2 [] W hq h1 h2 hB (by omega)).mono ?_
  rintro e w' ⟨rfl, hk, hu⟩
  refine ⟨rfl, fun V hV => ?_, hu⟩
  have hP := zF5 p.f1 V p.f2 b ((hV.block b (zAB hk)).trans hk)
  rw [← hp] at hP
  exact hP
theorem zK5 (p : Pk) (s : Sound p) (h : p.f0 = 5) : zBU p 123 125 #[.string ⟨#[]⟩, .int .u64 0, .int .u32 0] 124 where
 meth := fun _ _ => by kernel_rfl
 ent := enters_of Tryz.func124 (by kernel_rfl) rfl
 fill := fun b g o s' W hq h1 h2 hB => by
  obtain ⟨_, ⟨i0, i1⟩, _, _, _, ⟨x0, x1⟩, ⟨y0, y1⟩, ⟨z0, z1⟩, _, _, _, _, _, ⟨u0, u1⟩, _⟩ := s.g
  have hx := s.txt
  unfold zB8 at hx
  have e : zA1 p = str (tl p.f4) ++ zBN p.f5 ++ zAQ p.f6 := by unfold zA1; rw [h]; rfl
  have e2 : str (tl p.f4) ++ zBN p.f5 ++ zAQ p.f6 = str (tl p.f4) ++ (zBN p.f5 ++ (zAQ p.f6 ++ [])) := by simp only [List.append_assoc, List.append_nil]
  rw [e, e2] at hB
  have hp : p = (⟨5, p.f1, e0, e0, p.f4, p.f5, p.f6, 0, e0, ⟨0, 0, 0, 0, 0, 0, 0, []⟩, [], [], 0, 0, e0, e0, e0⟩ : Pk) := by
   have h1 : p = (⟨p.f0, p.f1, e0, e0, p.f4, p.f5, p.f6, 0, e0, ⟨0, 0, 0, 0, 0, 0, 0, []⟩, [], [], 0, 0, e0, e0, e0⟩ : Pk) := s.ok.only.trans (by unfold zBJ; rw [show zAc p.f0 p.f16 = [1, 4, 5, 6] from by rw [h]; rfl]; rfl)
   rw [h] at h1
   exact h1
  refine (zLh b g o s' p.f4 p.f5 p.f6 [] W hq h1 h2 hB (by omega) x0 x1 y0 y1).mono ?_
  rintro e w' ⟨rfl, hk, hu⟩
  refine ⟨rfl, fun V hV => ?_, hu⟩
  have hP := zK0 p.f1 V p.f4 p.f5 p.f6 b ((hV.block b (zAB hk)).trans hk)
  rw [← hp] at hP
  exact hP
theorem zHv (p : Pk) (s : Sound p) (h : p.f0 = 18) : zBU p 154 156 #[.string ⟨#[]⟩, .string ⟨#[]⟩] 164 where
 meth := fun _ _ => by kernel_rfl
 ent := enters_of Tryz.func164 (by kernel_rfl) rfl
 fill := fun b g o s' W hq h1 h2 hB => by
  obtain ⟨_, ⟨i0, i1⟩, _, _, _, ⟨x0, x1⟩, ⟨y0, y1⟩, ⟨z0, z1⟩, _, _, _, _, _, ⟨u0, u1⟩, _⟩ := s.g
  have hx := s.txt
  unfold zB8 at hx
  have e : zA1 p = str (tl p.f2) ++ str (tl p.f3) := by unfold zA1; rw [h]; rfl
  have e2 : str (tl p.f2) ++ str (tl p.f3) = str (tl p.f2) ++ (str (tl p.f3) ++ []) := by simp only [List.append_assoc, List.append_nil]
  rw [e, e2] at hB
  have hp : p = (⟨18, p.f1, p.f2, p.f3, e0, 0, 0, 0, e0, ⟨0, 0, 0, 0, 0, 0, 0, []⟩, [], [], 0, 0, e0, e0, e0⟩ : Pk) := by
   have h1 : p = (⟨p.f0, p.f1, p.f2, p.f3, e0, 0, 0, 0, e0, ⟨0, 0, 0, 0, 0, 0, 0, []⟩, [], [], 0, 0, e0, e0, e0⟩ : Pk) := s.ok.only.trans (by unfold zBJ; rw [show zAc p.f0 p.f16 = [1, 2, 3] from by rw [h]; rfl]; rfl)
   rw [h] at h1
   exact h1
  refine (zIe b g o s' p.f2 p.f3 [] W hq h1 h2 hB (by omega) (by omega)).mono ?_
  rintro e w' ⟨rfl, hk, hu⟩
  refine ⟨rfl, fun V hV => ?_, hu⟩
  have hP := zHi p.f1 V p.f2 p.f3 b ((hV.block b (zAB hk)).trans hk)
  rw [← hp] at hP
  exact hP
theorem zGn (p : Pk) (s : Sound p) (h : p.f0 = 20) : zBU p 159 161 #[.string ⟨#[]⟩, .string ⟨#[]⟩] 170 where
 meth := fun _ _ => by kernel_rfl
 ent := enters_of Tryz.func170 (by kernel_rfl) rfl
 fill := fun b g o s' W hq h1 h2 hB => by
  obtain ⟨_, ⟨i0, i1⟩, _, _, _, ⟨x0, x1⟩, ⟨y0, y1⟩, ⟨z0, z1⟩, _, _, _, _, _, ⟨u0, u1⟩, _⟩ := s.g
  have hx := s.txt
  unfold zB8 at hx
  have e : zA1 p = str (tl p.f3) ++ str (tl p.f2) := by unfold zA1; rw [h]; rfl
  have e2 : str (tl p.f3) ++ str (tl p.f2) = str (tl p.f3) ++ (str (tl p.f2) ++ []) := by simp only [List.append_assoc, List.append_nil]
  rw [e, e2] at hB
  have hp : p = (⟨20, p.f1, p.f2, p.f3, e0, 0, 0, 0, e0, ⟨0, 0, 0, 0, 0, 0, 0, []⟩, [], [], 0, 0, e0, e0, e0⟩ : Pk) := by
   have h1 : p = (⟨p.f0, p.f1, p.f2, p.f3, e0, 0, 0, 0, e0, ⟨0, 0, 0, 0, 0, 0, 0, []⟩, [], [], 0, 0, e0, e0, e0⟩ : Pk) := s.ok.only.trans (by unfold zBJ; rw [show zAc p.f0 p.f16 = [1, 2, 3] from by rw [h]; rfl]; rfl)
   rw [h] at h1
   exact h1
  refine (zH9 b g o s' p.f3 p.f2 [] W hq h1 h2 hB (by omega) (by omega)).mono ?_
  rintro e w' ⟨rfl, hk, hu⟩
  refine ⟨rfl, fun V hV => ?_, hu⟩
  have hP := zGh p.f1 V p.f2 p.f3 b ((hV.block b (zAB hk)).trans hk)
  rw [← hp] at hP
  exact hP
theorem zHw (p : Pk) (s : Sound p) (h : p.f0 = 101) : zBU p 162 165 #[.int .u32 0, .string ⟨#[]⟩, .string ⟨#[]⟩] 174 where
 meth := fun _ _ => by kernel_rfl
 ent := enters_of Tryz.func174 (by kernel_rfl) rfl
 fill := fun b g o s' W hq h1 h2 hB => by
  obtain ⟨_, ⟨i0, i1⟩, _, _, _, ⟨x0, x1⟩, ⟨y0, y1⟩, ⟨z0, z1⟩, _, _, _, _, _, ⟨u0, u1⟩, _⟩ := s.g
  have hx := s.txt
  unfold zB8 at hx
  have e : zA1 p = zAQ p.f13 ++ str (tl p.f14) ++ str (tl p.f15) := by unfold zA1; rw [h]; rfl
  have e2 : zAQ p.f13 ++ str (tl p.f14) ++ str (tl p.f15) = zAQ p.f13 ++ (str (tl p.f14) ++ (str (tl p.f15) ++ [])) := by simp only [List.append_assoc, List.append_nil]
  rw [e, e2] at hB
  have hp : p = (⟨101, p.f1, e0, e0, e0, 0, 0, 0, e0, ⟨0, 0, 0, 0, 0, 0, 0, []⟩, [], [], 0, p.f13, p.f14, p.f15, e0⟩ : Pk) := by
   have h1 : p = (⟨p.f0, p.f1, e0, e0, e0, 0, 0, 0, e0, ⟨0, 0, 0, 0, 0, 0, 0, []⟩, [], [], 0, p.f13, p.f14, p.f15, e0⟩ : Pk) := s.ok.only.trans (by unfold zBJ; rw [show zAc p.f0 p.f16 = [1, 13, 14, 15] from by rw [h]; rfl]; rfl)
   rw [h] at h1
   exact h1
  refine (zIf b g o s' p.f13 p.f14 p.f15 [] W hq h1 h2 hB u0 u1 (by omega) (by omega)).mono ?_
  rintro e w' ⟨rfl, hk, hu⟩
  refine ⟨rfl, fun V hV => ?_, hu⟩
  have hP := zHk p.f1 V p.f13 p.f14 p.f15 b ((hV.block b (zAB hk)).trans hk)
  rw [← hp] at hP
  exact hP
theorem zK6 (p : Pk) (s : Sound p) (h : p.f0 = 3) : zBU p 112 119 (zAj [.string ⟨#[]⟩, .int .u32 0] 0 0 0 0 0 0 0 (.slice none 0 0) []) 100 where
 meth := fun _ _ => by kernel_rfl
 ent := enters_of Tryz.func100 (by kernel_rfl) rfl
 fill := fun b g o s' W hq h1 h2 hB => by
  obtain ⟨_, ⟨i0, i1⟩, _, _, _, ⟨x0, x1⟩, ⟨y0, y1⟩, ⟨z0, z1⟩, _, _, _, _, _, ⟨u0, u1⟩, _⟩ := s.g
  have hx := s.txt
  unfold zB8 at hx
  have e : zA1 p = str (tl p.f2) ++ zAQ p.f7 ++ zB0 p.f9 := by unfold zA1; rw [h]; rfl
  have e2 : str (tl p.f2) ++ zAQ p.f7 ++ zB0 p.f9 = str (tl p.f2) ++ (zAQ p.f7 ++ (zB0 p.f9 ++ [])) := by simp only [List.append_assoc, List.append_nil]
  rw [e, e2] at hB
  have hp : p = (⟨3, p.f1, p.f2, e0, e0, 0, 0, p.f7, e0, p.f9, [], [], 0, 0, e0, e0, e0⟩ : Pk) := by
   have h1 : p = (⟨p.f0, p.f1, p.f2, e0, e0, 0, 0, p.f7, e0, p.f9, [], [], 0, 0, e0, e0, e0⟩ : Pk) := s.ok.only.trans (by unfold zBJ; rw [show zAc p.f0 p.f16 = [1, 2, 7, 9] from by rw [h]; rfl]; rfl)
   rw [h] at h1
   exact h1
  refine (zLj b g o s' p.f2 p.f7 p.f9 [] W hq h1 h2 hB (by omega) z0 z1 s.at9).mono ?_
  rintro e w' ⟨v, rfl, hv, hk, hu⟩
  have h8 := s.at9.few
  have hl : (p.f9.f7.map zAY).length ≤ 4294967295 := by rw [List.length_map]; omega
  obtain ⟨A, c, rfl, hc, hC⟩ := zEE hv hl
  refine ⟨rfl, fun V hV => ?_, hu⟩
  have hP := zKV p.f1 p.f2 p.f7 p.f9 A _ c b V ((hV.block b (zAB hk)).trans hk) rfl hl hc (Kd.C_below hC hV)
  rw [← hp] at hP
  exact hP
theorem zGo (p : Pk) (s : Sound p) (h : p.f0 = 9) : zBU p 134 136 (zAj [.string ⟨#[]⟩] 0 0 0 0 0 0 0 (.slice none 0 0) []) 137 where
 meth := fun _ _ => by kernel_rfl
 ent := enters_of Tryz.func137 (by kernel_rfl) rfl
 fill := fun b g o s' W hq h1 h2 hB => by
  obtain ⟨_, ⟨i0, i1⟩, _, _, _, ⟨x0, x1⟩, ⟨y0, y1⟩, ⟨z0, z1⟩, _, _, _, _, _, ⟨u0, u1⟩, _⟩ := s.g
  have hx := s.txt
  unfold zB8 at hx
  have e : zA1 p = str (tl p.f2) ++ zB0 p.f9 := by unfold zA1; rw [h]; rfl
  have e2 : str (tl p.f2) ++ zB0 p.f9 = str (tl p.f2) ++ (zB0 p.f9 ++ []) := by simp only [List.append_assoc, List.append_nil]
  rw [e, e2] at hB
  have hp : p = (⟨9, p.f1, p.f2, e0, e0, 0, 0, 0, e0, p.f9, [], [], 0, 0, e0, e0, e0⟩ : Pk) := by
   have h1 : p = (⟨p.f0, p.f1, p.f2, e0, e0, 0, 0, 0, e0, p.f9, [], [], 0, 0, e0, e0, e0⟩ : Pk) := s.ok.only.trans (by unfold zBJ; rw [show zAc p.f0 p.f16 = [1, 2, 9] from by rw [h]; rfl]; rfl)
   rw [h] at h1
   exact h1
  refine (zHb b g o s' p.f2 p.f9 [] W hq h1 h2 hB (by omega) s.at9).mono ?_
  rintro e w' ⟨v, rfl, hv, hk, hu⟩
  have h8 := s.at9.few
  have hl : (p.f9.f7.map zAY).length ≤ 4294967295 := by rw [List.length_map]; omega
  obtain ⟨A, c, rfl, hc, hC⟩ := zEE hv hl
  refine ⟨rfl, fun V hV => ?_, hu⟩
  have hP := zGb p.f1 p.f2 p.f9 A _ c b V ((hV.block b (zAB hk)).trans hk) rfl hl hc (Kd.C_below hC hV)
  rw [← hp] at hP
  exact hP
theorem zFc (p : Pk) (s : Sound p) (h : p.f0 = 10) : zBU p 137 139 (zAj [.string ⟨#[]⟩] 0 0 0 0 0 0 0 (.slice none 0 0) []) 140 where
 meth := fun _ _ => by kernel_rfl
 ent := enters_of Tryz.func140 (by kernel_rfl) rfl
 fill := fun b g o s' W hq h1 h2 hB => by
  obtain ⟨_, ⟨i0, i1⟩, _, _, _, ⟨x0, x1⟩, ⟨y0, y1⟩, ⟨z0, z1⟩, _, _, _, _, _, ⟨u0, u1⟩, _⟩ := s.g
  have hx := s.txt
  unfold zB8 at hx
  have e : zA1 p = str (tl p.f4) ++ zB0 p.f9 := by unfold zA1; rw [h]; rfl
  have e2 : str (tl p.f4) ++ zB0 p.f9 = str (tl p.f4) ++ (zB0 p.f9 ++ []) := by simp only [List.append_assoc, List.append_nil]
  rw [e, e2] at hB
  have hp : p = (⟨10, p.f1, e0, e0, p.f4, 0, 0, 0, e0, p.f9, [], [], 0, 0, e0, e0, e0⟩ : Pk) := by
   have h1 : p = (⟨p.f0, p.f1, e0, e0, p.f4, 0, 0, 0, e0, p.f9, [], [], 0, 0, e0, e0, e0⟩ : Pk) := s.ok.only.trans (by unfold zBJ; rw [show zAc p.f0 p.f16 = [1, 4, 9] from by rw [h]; rfl]; rfl)
   rw [h] at h1
   exact h1
  refine (zG5 b g o s' p.f4 p.f9 [] W hq h1 h2 hB (by omega) s.at9).mono ?_
  rintro e w' ⟨v, rfl, hv, hk, hu⟩
  have h8 := s.at9.few
  have hl : (p.f9.f7.map zAY).length ≤ 4294967295 := by rw [List.length_map]; omega
  obtain ⟨A, c, rfl, hc, hC⟩ := zEE hv hl
  refine ⟨rfl, fun V hV => ?_, hu⟩
  have hP := zF3 p.f1 p.f4 p.f9 A _ c b V ((hV.block b (zAB hk)).trans hk) rfl hl hc (Kd.C_below hC hV)
  rw [← hp] at hP
  exact hP
theorem zJF (p : Pk) (s : Sound p) (h : p.f0 = 14) : zBU p 146 147 (zAj [.string ⟨#[]⟩] 0 0 0 0 0 0 0 (.slice none 0 0) []) 152 where
 meth := fun _ _ => by kernel_rfl
 ent := enters_of Tryz.func152 (by kernel_rfl) rfl
 fill := fun b g o s' W hq h1 h2 hB => by
  obtain ⟨_, ⟨i0, i1⟩, _, _, _, ⟨x0, x1⟩, ⟨y0, y1⟩, ⟨z0, z1⟩, _, _, _, _, _, ⟨u0, u1⟩, _⟩ := s.g
  have hx := s.txt
  unfold zB8 at hx
  have e : zA1 p = str (tl p.f2) ++ zB0 p.f9 := by unfold zA1; rw [h]; rfl
  have e2 : str (tl p.f2) ++ zB0 p.f9 = str (tl p.f2) ++ (zB0 p.f9 ++ []) := by simp only [List.append_assoc, List.append_nil]
  rw [e, e2] at hB
  have hp : p = (⟨14, p.f1, p.f2, e0, e0, 0, 0, 0, e0, p.f9, [], [], 0, 0, e0, e0, e0⟩ : Pk) := by
   have h1 : p = (⟨p.f0, p.f1, p.f2, e0, e0, 0, 0, 0, e0, p.f9, [], [], 0, 0, e0, e0, e0⟩ : Pk) := s.ok.only.trans (by unfold zBJ; rw [show zAc p.f0 p.f16 = [1, 2, 9] from by rw [h]; rfl]; rfl)
   rw [h] at h1
   exact h1
  refine (zKM b g o s' p.f2 p.f9 [] W hq h1 h2 hB (by omega) s.at9).mono ?_
  rintro e w' ⟨v, rfl, hv, hk, hu⟩
  have h8 := s.at9.few
  have hl : (p.f9.f7.map zAY).length ≤ 4294967295 := by rw [List.length_map]; omega
  obtain ⟨A, c, rfl, hc, hC⟩ := zEE hv hl
  refine ⟨rfl, fun V hV => ?_, hu⟩
  have hP := zIl p.f1 p.f2 p.f9 A _ c b V ((hV.block b (zAB hk)).trans hk) rfl hl hc (Kd.C_below hC hV)
  rw [← hp] at hP
  exact hP
theorem zJG (p : Pk) (s : Sound p) (h : p.f0 = 105) : zBU p 178 180 (zAj [] 0 0 0 0 0 0 0 (.slice none 0 0) []) 191 where
 meth := fun _ _ => by kernel_rfl
 ent := enters_of Tryz.func191 (by kernel_rfl) rfl
 fill := fun b g o s' W hq h1 h2 hB => by
  obtain ⟨_, ⟨i0, i1⟩, _, _, _, ⟨x0, x1⟩, ⟨y0, y1⟩, ⟨z0, z1⟩, _, _, _, _, _, ⟨u0, u1⟩, _⟩ := s.g
  have hx := s.txt
  unfold zB8 at hx
  have e : zA1 p = zB0 p.f9 := by unfold zA1; rw [h]; rfl
  have e2 : zB0 p.f9 = zB0 p.f9 ++ [] := by simp only [List.append_assoc, List.append_nil]
  rw [e, e2] at hB
  have hp : p = (⟨105, p.f1, e0, e0, e0, 0, 0, 0, e0, p.f9, [], [], 0, 0, e0, e0, e0⟩ : Pk) := by
   have h1 : p = (⟨p.f0, p.f1, e0, e0, e0, 0, 0, 0, e0, p.f9, [], [], 0, 0, e0, e0, e0⟩ : Pk) := s.ok.only.trans (by unfold zBJ; rw [show zAc p.f0 p.f16 = [1, 9] from by rw [h]; rfl]; rfl)
   rw [h] at h1
   exact h1
  refine (zKN b g o s'  p.f9 [] W hq h1 h2 hB  s.at9).mono ?_
  rintro e w' ⟨v, rfl, hv, hk, hu⟩
  have h8 := s.at9.few
  have hl : (p.f9.f7.map zAY).length ≤ 4294967295 := by rw [List.length_map]; omega
  obtain ⟨A, c, rfl, hc, hC⟩ := zEE hv hl
  refine ⟨rfl, fun V hV => ?_, hu⟩
  have hP := zIm p.f1  p.f9 A _ c b V ((hV.block b (zAB hk)).trans hk) rfl hl hc (Kd.C_below hC hV)
  rw [← hp] at hP
  exact hP
theorem zJH (p : Pk) (s : Sound p) (h : p.f0 = 6) : zBU p 126 128 #[.string ⟨#[]⟩, .int .u64 0, .slice none 0 0] 127 where
 meth := fun _ _ => by kernel_rfl
 ent := enters_of Tryz.func127 (by kernel_rfl) rfl
 fill := fun b g o s' W hq h1 h2 hB => by
  obtain ⟨_, ⟨i0, i1⟩, _, _, _, ⟨x0, x1⟩, _⟩ := s.g
  have hx := s.txt
  unfold zB8 at hx
  have e : zA1 p = str (tl p.f4) ++ zBN p.f5 ++ str (tl p.f8) := by unfold zA1; rw [h]; rfl
  have e2 : str (tl p.f4) ++ zBN p.f5 ++ str (tl p.f8) = str (tl p.f4) ++ (zBN p.f5 ++ (str (tl p.f8) ++ [])) := by simp only [List.append_assoc, List.append_nil]
  rw [e, e2] at hB
  have hp : p = (⟨6, p.f1, e0, e0, p.f4, p.f5, 0, 0, p.f8, ⟨0, 0, 0, 0, 0, 0, 0, []⟩, [], [], 0, 0, e0, e0, e0⟩ : Pk) := by
   have h1 : p = (⟨p.f0, p.f1, e0, e0, p.f4, p.f5, 0, 0, p.f8, ⟨0, 0, 0, 0, 0, 0, 0, []⟩, [], [], 0, 0, e0, e0, e0⟩ : Pk) := s.ok.only.trans (by unfold zBJ; rw [show zAc p.f0 p.f16 = [1, 4, 5, 8] from by rw [h]; rfl]; rfl)
   rw [h] at h1
   exact h1
  refine (zKS b g o s' p.f4 p.f5 p.f8 [] W hq h1 h2 hB (by omega) x0 x1 (by omega)).mono ?_
  rintro e w' ⟨v, rfl, hv, hk, hu⟩
  refine ⟨rfl, fun V hV => ?_, hu⟩
  have hP := zIk p.f1 V p.f4 p.f5 v p.f8 (fun W hW => hv.conv W (hV.trans (hW.mono hV.size))) b ((hV.block b (zAB hk)).trans hk)
  rw [← hp] at hP
  exact hP
theorem zK7 (p : Pk) (s : Sound p) (h : p.f0 = 103) : zBU p 168 170 #[.slice none 0 0] 182 where
 meth := fun _ _ => by kernel_rfl
 ent := enters_of Tryz.func182 (by kernel_rfl) rfl
 fill := fun b g o s' W hq h1 h2 hB => by
  have hx := s.txt
  unfold zB8 at hx
  have e : zA1 p = str (tl p.f8) := by unfold zA1; rw [h]; rfl
  have e2 : str (tl p.f8) = str (tl p.f8) ++ [] := by simp only [List.append_nil]
  rw [e, e2] at hB
  have hp : p = (⟨103, p.f1, e0, e0, e0, 0, 0, 0, p.f8, ⟨0, 0, 0, 0, 0, 0, 0, []⟩, [], [], 0, 0, e0, e0, e0⟩ : Pk) := by
   have h1 : p = (⟨p.f0, p.f1, e0, e0, e0, 0, 0, 0, p.f8, ⟨0, 0, 0, 0, 0, 0, 0, []⟩, [], [], 0, 0, e0, e0, e0⟩ : Pk) := s.ok.only.trans (by unfold zBJ; rw [show zAc p.f0 p.f16 = [1, 8] from by rw [h]; rfl]; rfl)
   rw [h] at h1
   exact h1
  refine (zLm b g o s' p.f8 [] W hq h1 h2 hB (by omega)).mono ?_
  rintro e w' ⟨v, rfl, hv, hk, hu⟩
  refine ⟨rfl, fun V hV => ?_, hu⟩
  have hP := zKT p.f1 V v p.f8 (fun W hW => hv.conv W (hV.trans (hW.mono hV.size))) b ((hV.block b (zAB hk)).trans hk)
  rw [← hp] at hP
  exact hP
theorem PAt.below {w w' : World} {A : Option Addr} {l : List Nm} (h : PAt NmR w A l) (hb : Below w.heap.size w w') : PAt NmR w' A l := fun k e he => by
 obtain ⟨x, p, q, e1, e2, e3, e4⟩ := h k e he
 exact ⟨x, p, q, e1, Nat.lt_of_lt_of_le e2 hb.size, (cell_kept (hb.block x e2)).trans e3, e4.below hb⟩
theorem zK8 (p : Pk) (s : Sound p) (h : p.f0 = 104) : zBU p 171 174 #[.slice none 0 0] 185 where
 meth := fun _ _ => by kernel_rfl
 ent := enters_of Tryz.func185 (by kernel_rfl) rfl
 fill := fun b g o s' W hq h1 h2 hB => by
  have e : zA1 p = zAQ ((p.f10.length : Nat) : Int) ++ zBR (p.f10.map zBM) := by unfold zA1; rw [h]; rfl
  have e2 : zAQ ((p.f10.length : Nat) : Int) ++ zBR (p.f10.map zBM) = zAQ ((p.f10.length : Nat) : Int) ++ (zBR (p.f10.map zBM) ++ []) := by simp only [List.append_nil]
  rw [e, e2] at hB
  have h8 := s.ok.n10
  have hp : p = (⟨104, p.f1, e0, e0, e0, 0, 0, 0, e0, ⟨0, 0, 0, 0, 0, 0, 0, []⟩, p.f10, [], 0, 0, e0, e0, e0⟩ : Pk) := by
   have h1 : p = (⟨p.f0, p.f1, e0, e0, e0, 0, 0, 0, e0, ⟨0, 0, 0, 0, 0, 0, 0, []⟩, p.f10, [], 0, 0, e0, e0, e0⟩ : Pk) := s.ok.only.trans (by unfold zBJ; rw [show zAc p.f0 p.f16 = [1, 10] from by rw [h]; rfl]; rfl)
   rw [h] at h1
   exact h1
  refine (zLk b g o s' p.f10 [] W hq h1 h2 hB (by omega) (fun e he => ?_)).mono ?_
  ·have hn := s.name e he
   exact ⟨hn.2.1, by have := hn.2.2; omega, by have := hn.2.2; omega⟩
  ·rintro e w' ⟨v, rfl, hr, hk, hu⟩
   obtain ⟨A, c, rfl, hP, hc⟩ := hr.shown
   refine ⟨rfl, fun V hV => ?_, hu⟩
   have hP := zKR p.f1 A _ c p.f10 b V ((hV.block b (zAB hk)).trans hk) rfl (by omega) (hP.below hV) (fun e he => by have := (s.name e he).2.1.few; omega)
   rw [← hp] at hP
   exact hP
end Go.Proofs.YtgnficcjnijdbaaGreat
