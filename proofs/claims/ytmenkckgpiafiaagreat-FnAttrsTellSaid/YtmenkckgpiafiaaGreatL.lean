/-
  Laws of append for rows of bytes.
-/
import Derived.Test.YtmenkckgpiafiaaGreatA
import Derived.Maps.AppendAt
import Derived.OwnWalk
import Derived.Laws.OwnMore
import Derived.Tactics
import Derived.OneCell
import Derived.Lib.AppendZeros
import Derived.Lib.ConvBytes
import Derived.Laws.CopyRow
import Derived.KernelRfl
namespace Go.Proofs.YtmenkckgpiafiaaGreat
open Go.RowKit

theorem cell_of_blk {w : World} {g : Nat} {cs : Array Value} {t : TypeId} {f : Nat × Nat} (h : w.heap[g]? = some (.cells cs t f)) (i : Nat) : w.cell? ⟨g, i, none⟩ = cs[i]? := by
  simp [World.cell?, h]
theorem frozen_of_blk {w : World} {g : Nat} {cs : Array Value} {t : TypeId} (h : w.heap[g]? = some (.cells cs t (0, 0))) (i : Nat) : w.frozen? ⟨g, i, none⟩ = false := by
  simp [World.frozen?, h]
theorem add_plain (g j k : Nat) : (⟨g, k, none⟩ : Addr).add j = ⟨g, k + j, none⟩ := by unfold Addr.add; split <;> simp_all
theorem lt_of_blk {w : World} {g : Nat} {o : Obj} (h : w.heap[g]? = some o) : g < w.heap.size := by
  rcases Nat.lt_or_ge g w.heap.size with h' | h'
  · exact h'
  · rw [Array.getElem?_eq_none h'] at h
    cases h

section
variable {P : Program} {ops : Array Oper} {rest : List Oper} {o : Oper} {a : Act} {Q : Exit → Act → World → Prop}
theorem app_src {W : World} (hgd : o.guard = none) (s x : Operand) (t e : TypeId) (ho : o.op = .call { callee := .builtin .append, args := #[s, x], argTypes := #[t, t] })
    (ht : P.underlying t = some (.slice e)) (hinfo : (P.info? e).map (fun i => (i.zero, i.size, i.bytes)) = some (some (.int .u8 0), 1, 1))
    (base : Nat) (v : Value) (l : List UInt8) (hs : a.eval s = v) (hown : W.ownsRow base e 1 v l.length (u8s l))
    (ad : Addr) (m c : Nat) (nb : List UInt8) (hx : a.eval x = .slice (some ad) m c)
    (h : ∀ v' w', w'.ownsRow base e 1 v' (l ++ nb).length (u8s (l ++ nb)) → W.grownBy w' v.ownBlock → (v'.ownBlock = v.ownBlock ∨ v'.ownBlock = some W.heap.size) → wpList P ops Q rest (a.put o.dst v') w')
    (hm : nb.length = m) (hnews : ∀ j b, nb[j]? = some b → W.cell? (ad.add j) = some (u8 b)) (hlen : l.length + m ≤ 1000000000000) (hbase : base ≤ W.heap.size) :
    wpList P ops Q (o :: rest) a W := by
  obtain ⟨i0, hi, hzz⟩ := Option.map_eq_some_iff.1 hinfo
  simp only [Prod.mk.injEq] at hzz
  obtain ⟨hz0, hz1, hz2⟩ := hzz
  refine wpList_append_own_at W hgd s x t ho base e i0 (.int .u8 0) 1 1 ht hi hz0 hz1 hz2 rfl (by omega) v l.length (u8s l) hs hown ad m c (u8s nb) hx (by rw [u8s_length]; omega) ?_ ?_ (by simp only [maxLen]; omega) (by omega) hbase ?_
  · intro j u hu
    simp only [u8s, List.getElem?_map, Option.map_eq_some_iff] at hu
    obtain ⟨b, hb, rfl⟩ := hu
    exact hnews j b hb
  · intro u hu
    simp only [u8s, List.mem_map] at hu
    obtain ⟨b, _, rfl⟩ := hu
    rfl
  · intro v1 w1 hown1 hg _ hat
    refine h v1 w1 ?_ hg hat
    rw [u8s_append, List.length_append, hm]
    exact hown1
/-- The source is a literal that has just been laid. -/
theorem app_lit {w : World} (hgd : o.guard = none) (s x : Operand) (t e : TypeId) (ho : o.op = .call { callee := .builtin .append, args := #[s, x], argTypes := #[t, t] })
    (ht : P.underlying t = some (.slice e)) (hinfo : (P.info? e).map (fun i => (i.zero, i.size, i.bytes)) = some (some (.int .u8 0), 1, 1))
    (base : Nat) (v : Value) (l : List UInt8) (hs : a.eval s = v) (hown : w.ownsRow base e 1 v l.length (u8s l))
    (m c : Nat) (cs : Array Value) (nb : List UInt8) (hx : a.eval x = .slice (some ⟨w.heap.size, 0, none⟩) m c)
    (h : ∀ v' w', w'.ownsRow base e 1 v' (l ++ nb).length (u8s (l ++ nb)) → w.grownBy w' v.ownBlock → (v'.ownBlock = v.ownBlock ∨ v'.ownBlock = some (w.heap.size + 1)) → wpList P ops Q rest (a.put o.dst v') w')
    (hm : nb.length = m) (hcs : cs.toList = u8s nb) (hlen : l.length + m ≤ 1000000000000) (hbase : base ≤ w.heap.size) :
    wpList P ops Q (o :: rest) a (w.alloc (.cells cs e)) := by
  refine app_src hgd s x t e ho ht hinfo base v l hs (hown.alloc _) ⟨w.heap.size, 0, none⟩ m c nb hx ?_ hm ?_ hlen (by simp; omega)
  · intro v1 w1 hown1 hg hat
    refine h v1 w1 hown1 (World.grownBy.trans (World.grownBy_alloc w _ _) hg) ?_
    simpa using hat
  · intro j b hj
    rw [add_plain, Nat.zero_add, cell_of_blk (heap_alloc_new w _), ← Array.getElem?_toList, hcs]
    simp [u8s, hj]
end
/-- What an append leaves of a marshalling buffer, once the slice has been stored back. -/
theorem MBuf.appended {base g : Nat} {w w1 : World} {v v1 : Value} {l nb : List UInt8} (hb : MBuf base w g v l) (hown : w1.ownsRow base 5 1 v1 (l ++ nb).length (u8s (l ++ nb)))
    (hg : w.grownBy w1 v.ownBlock) (hat : v1.ownBlock = v.ownBlock ∨ ∃ k, v1.ownBlock = some k ∧ w.heap.size ≤ k) :
    MBuf base (w1.setCell ⟨g, 0, none⟩ v1) g v1 (l ++ nb) ∧ Upd g v w (w1.setCell ⟨g, 0, none⟩ v1) ∧ (v1.ownBlock = v.ownBlock ∨ ∃ k, v1.ownBlock = some k ∧ w.heap.size ≤ k) := by
  have hgl := lt_of_blk hb.blk
  have hblk : w1.heap[g]? = some (.cells #[v, .int .i64 0, .nilIface] 120 (0, 0)) := by
    rw [hg.block g hgl (fun e => hb.ne e.symm)]
    exact hb.blk
  have hne : v1.ownBlock ≠ some g := by
    rcases hat with e | ⟨k, e, hk⟩
    · rw [e]; exact hb.ne
    · rw [e]; intro h; injection h with h; omega
  refine ⟨⟨?_, ?_, hb.le, hne⟩, ⟨hg.os, hg.tape, hg.output, ?_, ?_⟩, hat⟩
  · simp [World.setCell, Array.getElem?_modify, hblk]
  · refine hown.kept (w' := w1.setCell ⟨g, 0, none⟩ v1) (row := some g) ⟨rfl, rfl, rfl, by simp [World.setCell], fun k _ hk => Below.heap_setCell _ _ _ _ (fun e => hk (by rw [e]))⟩ (.inr hne)
  · simpa [World.setCell] using hg.size
  · intro k hk h1 h2
    rw [Below.heap_setCell _ _ _ _ h1]
    exact hg.block k hk (fun e => h2 e.symm)
theorem MBuf.blkAfter {base g : Nat} {w w1 : World} {v : Value} {l : List UInt8} (hb : MBuf base w g v l) (hg : w.grownBy w1 v.ownBlock) : w1.heap[g]? = some (.cells #[v, .int .i64 0, .nilIface] 120 (0, 0)) := by
  rw [hg.block g (lt_of_blk hb.blk) (fun e => hb.ne e.symm)]
  exact hb.blk
theorem MBuf.cellAfter {base g : Nat} {w w1 : World} {v : Value} {l : List UInt8} (hb : MBuf base w g v l) (hg : w.grownBy w1 v.ownBlock) : w1.cell? ⟨g, 0, none⟩ = some v := by
  rw [cell_of_blk (hb.blkAfter hg)]
  rfl
theorem MBuf.frozenAfter {base g : Nat} {w w1 : World} {v : Value} {l : List UInt8} (hb : MBuf base w g v l) (hg : w.grownBy w1 v.ownBlock) : w1.frozen? ⟨g, 0, none⟩ = false := frozen_of_blk (hb.blkAfter hg) 0
theorem MBuf.cell {base g : Nat} {w : World} {v : Value} {l : List UInt8} (hb : MBuf base w g v l) : w.cell? ⟨g, 0, none⟩ = some v := by
  rw [cell_of_blk hb.blk]
  rfl
theorem MBuf.baseLe {base g : Nat} {w : World} {v : Value} {l : List UInt8} (hb : MBuf base w g v l) : base ≤ w.heap.size := by
  have := lt_of_blk hb.blk
  have := hb.le
  omega
theorem MBuf.below {base g : Nat} {w w' : World} {v : Value} {l : List UInt8} (hb : MBuf base w g v l) (hu : Upd g v w w') : Below base w w' :=
  hu.below hb.le (fun k hk => (hb.own.lt k hk).1) hb.baseLe
theorem own_slice {w : World} {base n : Nat} {e : TypeId} {size : Nat} {v : Value} {xs : List Value} (h : w.ownsRow base e size v n xs) : ∃ A c, v = .slice A n c := by
  rcases h.2 with ⟨rfl, rfl⟩ | ⟨g, cap, cur, rfl, _⟩
  · exact ⟨none, 0, rfl⟩
  · exact ⟨_, cap, rfl⟩
/-- append(s[:0], make([]byte, 4)...) where there is room. -/
theorem run_zeros4 {P : Program} (w : World) (t tn ty e : TypeId) (kn : IntKind) (ht : P.underlying t = some (.slice e)) (htn : P.underlying tn = some (.int kn)) (hinfo : (P.info? e).map (fun i => (i.zero, i.size, i.bytes)) = some (some (.int .u8 0), 1, 1))
    (base g cap : Nat) (l : List Value) (n : Nat) (hown : w.ownsRow base e 1 (.slice (some ⟨g, 0, none⟩) n cap) n l) (hcap : 4 ≤ cap) :
    ∃ w', (Builtin.append_ #[t, tn] ty #[.slice (some ⟨g, 0, none⟩) 0 cap, .int .i64 4]).run P w = .ok (.slice (some ⟨g, 0, none⟩) 4 cap) w' ∧ w'.ownsRow base e 1 (.slice (some ⟨g, 0, none⟩) 4 cap) 4 (u8s [0, 0, 0, 0]) ∧ w.grownBy w' (some g) := by
  obtain ⟨i0, hi, hzz⟩ := Option.map_eq_some_iff.1 hinfo
  simp only [Prod.mk.injEq] at hzz
  obtain ⟨hz0, hz1, hz2⟩ := hzz
  rcases hown.2 with ⟨h, _⟩ | ⟨g', cap', cur, h, hbg, hg, hnc, hcm, hcs, htake⟩
  · simp at h
  · simp only [Value.slice.injEq, Option.some.injEq, Addr.mk.injEq, and_true, true_and] at h
    obtain ⟨rfl, rfl⟩ := h
    have hst := run_storeCells_at P g 0 e (u8s [0, 0, 0, 0]) 0 cur w hg (by simp [u8s]; omega) (by intro v hv; simp [u8s] at hv; subst hv; rfl)
    simp only [Nat.add_zero, Nat.zero_add] at hst

    have hzc2 : Builtin.zeroCells (Value.int .u8 0).cells 4 = (u8s [0, 0, 0, 0]).toArray := by kernel_rfl
    have hw : IntKind.i64.wrap 4 = 4 := rfl
    refine ⟨w.setRow g (cur.toList.take 0 ++ u8s [0, 0, 0, 0] ++ cur.toList.drop (0 + (u8s [0, 0, 0, 0]).length)).toArray, ?_, ⟨by simp [u8s], .inr ⟨g, cap, _, rfl, hbg, setRow_heap w g cur _ e _ hg, hcap, hcm, ?_, ?_⟩⟩, ⟨rfl, rfl, rfl, by simp, fun k _ hk => setRow_other w g k _ (fun e => hk (by simp [e]))⟩⟩
    · simp [Builtin.append_, run_underlying ht, run_underlying htn, sizeOf, typeInfo, hi, hz0, hz1, hz2, zeroValue, asInt, asIntOf, hw, hcap, hzc2, Addr.add_lit, hst]
      intro h
      omega
    · simp [u8s]
      omega
    · simp [u8s]
theorem setCell_blk {w : World} {g i : Nat} {cs : Array Value} {t : TypeId} {f : Nat × Nat} (h : w.heap[g]? = some (.cells cs t f)) (v : Value) : (w.setCell ⟨g, i, none⟩ v).heap[g]? = some (.cells (cs.setIfInBounds i v) t f) := by
  simp [World.setCell, Array.getElem?_modify, h]
/-- Three stores that lay the whole buffer anew. -/
theorem MBuf.begun {base g : Nat} {w w1 : World} {v v1 : Value} {l nb : List UInt8} (hb : MBuf base w g v l) (hown : w1.ownsRow base 5 1 v1 nb.length (u8s nb))
    (hg : w.grownBy w1 v.ownBlock) (hat : v1.ownBlock = v.ownBlock) :
    MBuf base (((w1.setCell ⟨g, 0, none⟩ v1).setCell ⟨g, 1, none⟩ (.int .i64 0)).setCell ⟨g, 2, none⟩ .nilIface) g v1 nb ∧ Upd g v w (((w1.setCell ⟨g, 0, none⟩ v1).setCell ⟨g, 1, none⟩ (.int .i64 0)).setCell ⟨g, 2, none⟩ .nilIface) := by
  have hblk := hb.blkAfter hg
  have hne : v1.ownBlock ≠ some g := by rw [hat]; exact hb.ne
  have h1 := setCell_blk (i := 0) hblk v1
  have h2 := setCell_blk (i := 1) h1 (.int .i64 0)
  have h3 := setCell_blk (i := 2) h2 .nilIface
  refine ⟨⟨?_, ?_, hb.le, hne⟩, ⟨hg.os, hg.tape, hg.output, ?_, ?_⟩⟩
  · rw [h3]; rfl
  · refine hown.kept (row := some g) ⟨rfl, rfl, rfl, by simp [World.setCell], fun k _ hk => ?_⟩ (.inr hne)
    have hk' : k ≠ g := fun e => hk (by rw [e])
    rw [Below.heap_setCell _ _ _ _ hk', Below.heap_setCell _ _ _ _ hk', Below.heap_setCell _ _ _ _ hk']
  · simpa [World.setCell] using hg.size
  · intro k hk h1 h2
    rw [Below.heap_setCell _ _ _ _ h1, Below.heap_setCell _ _ _ _ h1, Below.heap_setCell _ _ _ _ h1]
    exact hg.block k hk (fun e => h2 e.symm)
theorem Upd.trans {g : Nat} {v v1 : Value} {w w1 w2 : World} (h1 : Upd g v w w1) (ho : v1.ownBlock = v.ownBlock ∨ ∃ k, v1.ownBlock = some k ∧ w.heap.size ≤ k) (h2 : Upd g v1 w1 w2) : Upd g v w w2 :=
  ⟨h2.os.trans h1.os, h2.tape.trans h1.tape, h2.output.trans h1.output, Nat.le_trans h1.size h2.size, fun k hk e1 e2 => by
    rw [h2.block k (by have := h1.size; omega) e1 ?_]
    · exact h1.block k hk e1 e2
    · rcases ho with e | ⟨j, e, hj⟩
      · rw [e]; exact e2
      · rw [e]; intro h; injection h with h; omega⟩
theorem own_trans {v v1 v2 : Value} {w w1 : World} (hs : w.heap.size ≤ w1.heap.size) (h1 : v1.ownBlock = v.ownBlock ∨ ∃ k, v1.ownBlock = some k ∧ w.heap.size ≤ k) (h2 : v2.ownBlock = v1.ownBlock ∨ ∃ k, v2.ownBlock = some k ∧ w1.heap.size ≤ k) :
    v2.ownBlock = v.ownBlock ∨ ∃ k, v2.ownBlock = some k ∧ w.heap.size ≤ k := by
  rcases h2 with e | ⟨k, e, hk⟩
  · rw [e]; exact h1
  · exact .inr ⟨k, e, by omega⟩
/-- The rest of a row. -/
theorem Upd.refl (g : Nat) (v : Value) (w : World) : Upd g v w w := ⟨rfl, rfl, rfl, Nat.le_refl _, fun _ _ _ _ => rfl⟩
theorem Upd.cell {g : Nat} {v : Value} {w w' : World} (h : Upd g v w w') {s o : Nat} {u : Value} (hs : s < w.heap.size) (h1 : s ≠ g) (h2 : v.ownBlock ≠ some s) (hc : w.cell? ⟨s, o, none⟩ = some u) : w'.cell? ⟨s, o, none⟩ = some u := by
  rw [World.cell?_of_block (w := w) (h.block s hs h1 h2)]
  exact hc
theorem bytes_grown (w : World) (e : TypeId) (s : ByteArray) (row : Option Nat) : w.grownBy (Lib.bytesWorld w e s) row := ⟨rfl, rfl, rfl, by rw [Lib.bytesWorld_size]; omega, fun k hk _ => Lib.bytesWorld_at_old w e s k hk⟩
theorem bytes_upd (w : World) (e : TypeId) (s : ByteArray) (g : Nat) (v : Value) : Upd g v w (Lib.bytesWorld w e s) := ⟨rfl, rfl, rfl, by rw [Lib.bytesWorld_size]; omega, fun k hk _ _ => Lib.bytesWorld_at_old w e s k hk⟩
theorem bytes_below {B : Nat} {w W : World} (h : Below B w W) (hB : B ≤ W.heap.size) (e : TypeId) (s : ByteArray) : Below B w (Lib.bytesWorld W e s) :=
  h.trans ⟨rfl, rfl, rfl, by rw [Lib.bytesWorld_size]; omega, fun i hi => Lib.bytesWorld_at_old W e s i (by omega)⟩
theorem MBuf.bytes {base g : Nat} {w : World} {v : Value} {l : List UInt8} (hb : MBuf base w g v l) (e : TypeId) (s : ByteArray) : MBuf base (Lib.bytesWorld w e s) g v l :=
  ⟨by rw [Lib.bytesWorld_at_old w e s g (lt_of_blk hb.blk)]; exact hb.blk, hb.own.kept (bytes_grown w e s none) (by cases v.ownBlock <;> simp), hb.le, hb.ne⟩
theorem bytes_src (w : World) (e : TypeId) (s : ByteArray) (j : Nat) (b : UInt8) (h : (tl s)[j]? = some b) : (Lib.bytesWorld w e s).cell? ⟨w.heap.size, 0 + j, none⟩ = some (u8 b) := by
  have hj : j < s.size := by
    have := (List.getElem?_eq_some_iff.1 h).1
    rwa [tl_length] at this
  rw [Nat.zero_add, Lib.bytesWorld_cell w e s j hj]
  unfold u8
  rw [List.getD_eq_getElem?_getD, show s.data.toList = tl s from rfl, h]
  rfl
theorem own_ne_size {w : World} {base n : Nat} {e : TypeId} {size : Nat} {v : Value} {xs : List Value} (h : w.ownsRow base e size v n xs) {k : Nat} (hk : w.heap.size ≤ k) : v.ownBlock ≠ some k := fun e => by have := (h.lt k e).2; omega
theorem set4 (l : List UInt8) (x : Int) (a b c d : Value) (hl : 4 ≤ l.length) (ha : a = u8 (bt (x / 16777216))) (hb : b = u8 (bt (x / 65536))) (hc : c = u8 (bt (x / 256))) (hd : d = u8 (bt x)) :
    ((((u8s l).set 0 a).set 1 b).set 2 c).set 3 d = u8s (be32 x ++ l.drop 4) := by
  subst ha hb hc hd
  match l, hl with
  | l0 :: l1 :: l2 :: l3 :: t, _ => rfl
/-- The row behind a buffer is written in place. -/
theorem MBuf.inPlace {base g : Nat} {w w1 : World} {v : Value} {l m : List UInt8} (hb : MBuf base w g v l) (hown : w1.ownsRow base 5 1 v m.length (u8s m)) (hg : w.grownBy w1 v.ownBlock) : MBuf base w1 g v m :=
  ⟨hb.blkAfter hg, hown, hb.le, hb.ne⟩
theorem own_form {w : World} {base n : Nat} {e : TypeId} {size : Nat} {v : Value} {xs : List Value} (h : w.ownsRow base e size v n xs) (hn : 0 < n) : ∃ g c, v = .slice (some ⟨g, 0, none⟩) n c := by
  rcases h.2 with ⟨rfl, rfl⟩ | ⟨g, cap, cur, rfl, _⟩
  · omega
  · exact ⟨g, cap, rfl⟩
end Go.Proofs.YtmenkckgpiafiaaGreat
