/-
  Lemmas and contracts, part 3.
-/
import Derived.WalkKit
import Derived.Lib.Hide
import Derived.Deep.Draws
import Derived.Maps.AppendAt
import Derived.OwnWalk
import Derived.Laws.OwnMore
import Derived.Tactics
import Derived.OneCell
import Derived.Lib.AppendZeros
import Derived.Lib.ConvBytes
import Derived.Laws.CopyRow
import Derived.KernelRfl
import Derived.Test.YtgnficcjnijdbaaGreatRows
import Derived.WalkSpells
import Derived.WalkLawsBesides
import Derived.Deep.QuietTactic
import Derived.BigQuiet
import Derived.IntWalk
import Derived.Outline
import Derived.Deep.OwnRows
import Derived.Deep.RegionHeld3
import Derived.Lib.EndianBits
import Derived.Deep.RegionWith
import Derived.RegionTactic
import Derived.ChangeAlike
import Derived.Laws.BytesArg
import Derived.Handy
import Derived.Defers
import Derived.Recover
import Derived.Great.Walk
import Derived.Deep.MidRow
import Derived.Deep.DeepCutAuto
import Derived.Lib.JoinLaws
import Derived.Orders
import Derived.StillTailTactics
import Derived.Laws.CopyOwn
set_option linter.unusedVariables false
set_option linter.unusedSimpArgs false
set_option maxHeartbeats 20000000
set_option maxRecDepth 5000
namespace Go.Proofs.YtgnficcjnijdbaaGreat
open Go.RowKit
def tl (s : ByteArray) : List UInt8 := s.data.toList
def bs (l : List UInt8) : ByteArray := ⟨l.toArray⟩
theorem zDR (l : List UInt8) : tl (bs l) = l := rfl
theorem zGs (s : ByteArray) : bs (tl s) = s := rfl
theorem zAH (s : ByteArray) : (tl s).length = s.size := by rw [tl, Array.length_toList]; rfl
theorem zKl {s t : ByteArray} (h : tl s = tl t) : s = t := by rw [← zGs s, ← zGs t, h]
theorem zIC (s : ByteArray) (i : Nat) (h : i < s.size) : (tl s)[i]? = some s[i] := by
 unfold tl
 rw [Array.getElem?_toList, Array.getElem?_eq_getElem (by exact h)]
 rfl
theorem zJb (s t : ByteArray) : tl (s ++ t) = tl s ++ tl t := by
 unfold tl
 simp [ByteArray.data_append]
def u8 (b : UInt8) : Value := .int .u8 (b.toNat : Int)
def u8s (l : List UInt8) : List Value := l.map u8
theorem zBC (l : List UInt8) : (u8s l).length = l.length := by simp [u8s]
theorem zID (l m : List UInt8) : u8s (l ++ m) = u8s l ++ u8s m := by simp [u8s]
def bt (x : Int) : UInt8 := UInt8.ofNat (x % 256).toNat
theorem zDx (x : Int) : ((bt x).toNat : Int) = x % 256 := by
 unfold bt
 have h := Int.emod_nonneg x (show (256 : Int) ≠ 0 by omega)
 have h2 := Int.emod_lt_of_pos x (show (0 : Int) < 256 by omega)
 rw [UInt8.toNat_ofNat']
 omega
def zAQ (x : Int) : List UInt8 := [bt (x / 16777216), bt (x / 65536), bt (x / 256), bt x]
def zBN (x : Int) : List UInt8 := zAQ (x / 4294967296) ++ zAQ x
def str (s : List UInt8) : List UInt8 := zAQ (s.length : Int) ++ s
theorem zBB {B : Nat} {w W : World} (h : Below B w W) (n : Nat) : Below B w (W.drewN n) := ⟨h.os, h.tape, h.output, h.size, h.block⟩
theorem zAW {B : Nat} {w w1 : World} (h : Below B w w1) {a : Addr} {v : Value} (ha : a.block < B) (hc : w.cell? a = some v) : w1.cell? a = some v := (h.cell ha).trans hc
structure Upd (g : Nat) (v : Value) (w w' : World) : Prop where
 os : w'.os = w.os
 tape : w'.tape = w.tape
 output : w'.output = w.output
 size : w.heap.size ≤ w'.heap.size
 block : ∀ k, k < w.heap.size → k ≠ g → v.ownBlock ≠ some k → w'.heap[k]? = w.heap[k]?
theorem Upd.below {g : Nat} {v : Value} {w w' : World} (h : Upd g v w w') {B : Nat} (hg : B ≤ g) (hv : ∀ k, v.ownBlock = some k → B ≤ k) (hB : B ≤ w.heap.size) : Below B w w' :=
 ⟨h.os, h.tape, h.output, h.size, fun k hk => h.block k (by omega) (by omega) (fun e => by have := hv k e; omega)⟩
structure MBuf (base : Nat) (w : World) (g : Nat) (v : Value) (l : List UInt8) : Prop where
 blk : w.heap[g]? = some (.cells #[v, .int .i64 0, .nilIface] 83 (0, 0))
 own : w.ownsRow base 5 1 v l.length (u8s l)
 le : base ≤ g
 ne : v.ownBlock ≠ some g
theorem zAA {w : World} {g : Nat} {cs : Array Value} {t : TypeId} {f : Nat × Nat} (h : w.heap[g]? = some (.cells cs t f)) (i : Nat) : w.cell? ⟨g, i, none⟩ = cs[i]? := by
 simp [World.cell?, h]
theorem zAP {w : World} {g : Nat} {cs : Array Value} {t : TypeId} (h : w.heap[g]? = some (.cells cs t (0, 0))) (i : Nat) : w.frozen? ⟨g, i, none⟩ = false := by
 simp [World.frozen?, h]
theorem add_plain (g j k : Nat) : (⟨g, k, none⟩ : Addr).add j = ⟨g, k + j, none⟩ := by unfold Addr.add; split <;> simp_all
theorem zAC {w : World} {g : Nat} {o : Obj} (h : w.heap[g]? = some o) : g < w.heap.size := by
 rcases Nat.lt_or_ge g w.heap.size with h' | h'
 ·exact h'
 ·rw [Array.getElem?_eq_none h'] at h
  cases h
section
variable {P : Program} {ops : Array Oper} {rest : List Oper} {o : Oper} {a : Act} {Q : Exit → Act → World → Prop}
theorem zFw {W : World} (hgd : o.guard = none) (s x : Operand) (t e : TypeId) (ho : o.op = .call { callee := .builtin .append, args := #[s, x], argTypes := #[t, t] })
  (ht : P.underlying t = some (.slice e)) (hinfo : (P.info? e).map (fun i => (i.zero, i.size, i.bytes)) = some (some (.int .u8 0), 1, 1))
  (base : Nat) (v : Value) (l : List UInt8) (hs : a.eval s = v) (hown : W.ownsRow base e 1 v l.length (u8s l))
  (ad : Addr) (m c : Nat) (nb : List UInt8) (hx : a.eval x = .slice (some ad) m c)
  (h : ∀ v' w', w'.ownsRow base e 1 v' (l ++ nb).length (u8s (l ++ nb)) → W.grownBy w' v.ownBlock → (v'.ownBlock = v.ownBlock ∨ v'.ownBlock = some W.heap.size) → wpList P ops Q rest (a.put o.dst v') w')
  (hm : nb.length = m) (hnews : ∀ j b, nb[j]? = some b → W.cell? (ad.add j) = some (u8 b)) (hlen : l.length + m ≤ 1000000000000) (hbase : base ≤ W.heap.size) :
  wpList P ops Q (o :: rest) a W := by
 obtain ⟨i0, hi, hzz⟩ := Option.map_eq_some_iff.1 hinfo
 simp only [Prod.mk.injEq] at hzz
 obtain ⟨hz0, hz1, hz2⟩ := hzz
 refine wpList_append_own_at W hgd s x t ho base e i0 (.int .u8 0) 1 1 ht hi hz0 hz1 hz2 rfl (by omega) v l.length (u8s l) hs hown ad m c (u8s nb) hx (by rw [zBC]; omega) ?_ ?_ (by simp only [maxLen]; omega) (by omega) hbase ?_
 ·intro j u hu
  simp only [u8s, List.getElem?_map, Option.map_eq_some_iff] at hu
  obtain ⟨b, hb, rfl⟩ := hu
  exact hnews j b hb
 ·intro u hu
  simp only [u8s, List.mem_map] at hu
  obtain ⟨b, _, rfl⟩ := hu
  rfl
 ·intro v1 w1 hown1 hg _ hat
  refine h v1 w1 ?_ hg hat
  rw [zID, List.length_append, hm]
  exact hown1
theorem zFx {w : World} (hgd : o.guard = none) (s x : Operand) (t e : TypeId) (ho : o.op = .call { callee := .builtin .append, args := #[s, x], argTypes := #[t, t] })
  (ht : P.underlying t = some (.slice e)) (hinfo : (P.info? e).map (fun i => (i.zero, i.size, i.bytes)) = some (some (.int .u8 0), 1, 1))
  (base : Nat) (v : Value) (l : List UInt8) (hs : a.eval s = v) (hown : w.ownsRow base e 1 v l.length (u8s l))
  (m c : Nat) (cs : Array Value) (nb : List UInt8) (hx : a.eval x = .slice (some ⟨w.heap.size, 0, none⟩) m c)
  (h : ∀ v' w', w'.ownsRow base e 1 v' (l ++ nb).length (u8s (l ++ nb)) → w.grownBy w' v.ownBlock → (v'.ownBlock = v.ownBlock ∨ v'.ownBlock = some (w.heap.size + 1)) → wpList P ops Q rest (a.put o.dst v') w')
  (hm : nb.length = m) (hcs : cs.toList = u8s nb) (hlen : l.length + m ≤ 1000000000000) (hbase : base ≤ w.heap.size) :
  wpList P ops Q (o :: rest) a (w.alloc (.cells cs e)) := by
 refine zFw hgd s x t e ho ht hinfo base v l hs (hown.alloc _) ⟨w.heap.size, 0, none⟩ m c nb hx ?_ hm ?_ hlen (by simp; omega)
 ·intro v1 w1 hown1 hg hat
  refine h v1 w1 hown1 (World.grownBy.trans (World.grownBy_alloc w _ _) hg) ?_
  simpa using hat
 ·intro j b hj
  rw [add_plain, Nat.zero_add, zAA (heap_alloc_new w _), ← Array.getElem?_toList, hcs]
  simp [u8s, hj]
end
theorem MBuf.appended {base g : Nat} {w w1 : World} {v v1 : Value} {l nb : List UInt8} (hb : MBuf base w g v l) (hown : w1.ownsRow base 5 1 v1 (l ++ nb).length (u8s (l ++ nb)))
  (hg : w.grownBy w1 v.ownBlock) (hat : v1.ownBlock = v.ownBlock ∨ ∃ k, v1.ownBlock = some k ∧ w.heap.size ≤ k) :
  MBuf base (w1.setCell ⟨g, 0, none⟩ v1) g v1 (l ++ nb) ∧ Upd g v w (w1.setCell ⟨g, 0, none⟩ v1) ∧ (v1.ownBlock = v.ownBlock ∨ ∃ k, v1.ownBlock = some k ∧ w.heap.size ≤ k) := by
 have hgl := zAC hb.blk
 have hblk : w1.heap[g]? = some (.cells #[v, .int .i64 0, .nilIface] 83 (0, 0)) := by
  rw [hg.block g hgl (fun e => hb.ne e.symm)]
  exact hb.blk
 have hne : v1.ownBlock ≠ some g := by
  rcases hat with e | ⟨k, e, hk⟩
  ·rw [e]; exact hb.ne
  ·rw [e]; intro h; injection h with h; omega
 refine ⟨⟨?_, ?_, hb.le, hne⟩, ⟨hg.os, hg.tape, hg.output, ?_, ?_⟩, hat⟩
 ·simp [World.setCell, Array.getElem?_modify, hblk]
 ·refine hown.kept (w' := w1.setCell ⟨g, 0, none⟩ v1) (row := some g) ⟨rfl, rfl, rfl, by simp [World.setCell], fun k _ hk => Below.heap_setCell _ _ _ _ (fun e => hk (by rw [e]))⟩ (.inr hne)
 ·simpa [World.setCell] using hg.size
 ·intro k hk h1 h2
  rw [Below.heap_setCell _ _ _ _ h1]
  exact hg.block k hk (fun e => h2 e.symm)
theorem MBuf.blkAfter {base g : Nat} {w w1 : World} {v : Value} {l : List UInt8} (hb : MBuf base w g v l) (hg : w.grownBy w1 v.ownBlock) : w1.heap[g]? = some (.cells #[v, .int .i64 0, .nilIface] 83 (0, 0)) := by
 rw [hg.block g (zAC hb.blk) (fun e => hb.ne e.symm)]
 exact hb.blk
theorem MBuf.cellAfter {base g : Nat} {w w1 : World} {v : Value} {l : List UInt8} (hb : MBuf base w g v l) (hg : w.grownBy w1 v.ownBlock) : w1.cell? ⟨g, 0, none⟩ = some v := by
 rw [zAA (hb.blkAfter hg)]
 rfl
theorem MBuf.frozenAfter {base g : Nat} {w w1 : World} {v : Value} {l : List UInt8} (hb : MBuf base w g v l) (hg : w.grownBy w1 v.ownBlock) : w1.frozen? ⟨g, 0, none⟩ = false := zAP (hb.blkAfter hg) 0
theorem MBuf.cell {base g : Nat} {w : World} {v : Value} {l : List UInt8} (hb : MBuf base w g v l) : w.cell? ⟨g, 0, none⟩ = some v := by
 rw [zAA hb.blk]
 rfl
theorem MBuf.baseLe {base g : Nat} {w : World} {v : Value} {l : List UInt8} (hb : MBuf base w g v l) : base ≤ w.heap.size := by
 have := zAC hb.blk
 have := hb.le
 omega
theorem MBuf.below {base g : Nat} {w w' : World} {v : Value} {l : List UInt8} (hb : MBuf base w g v l) (hu : Upd g v w w') : Below base w w' :=
 hu.below hb.le (fun k hk => (hb.own.lt k hk).1) hb.baseLe
theorem own_slice {w : World} {base n : Nat} {e : TypeId} {size : Nat} {v : Value} {xs : List Value} (h : w.ownsRow base e size v n xs) : ∃ A c, v = .slice A n c := by
 rcases h.2 with ⟨rfl, rfl⟩ | ⟨g, cap, cur, rfl, _⟩
 ·exact ⟨none, 0, rfl⟩
 ·exact ⟨_, cap, rfl⟩
theorem zIE {P : Program} (w : World) (t tn ty e : TypeId) (kn : IntKind) (ht : P.underlying t = some (.slice e)) (htn : P.underlying tn = some (.int kn)) (hinfo : (P.info? e).map (fun i => (i.zero, i.size, i.bytes)) = some (some (.int .u8 0), 1, 1))
  (base g cap : Nat) (l : List Value) (n : Nat) (hown : w.ownsRow base e 1 (.slice (some ⟨g, 0, none⟩) n cap) n l) (hcap : 4 ≤ cap) :
  ∃ w', (Builtin.append_ #[t, tn] ty #[.slice (some ⟨g, 0, none⟩) 0 cap, .int .i64 4]).run P w = .ok (.slice (some ⟨g, 0, none⟩) 4 cap) w' ∧ w'.ownsRow base e 1 (.slice (some ⟨g, 0, none⟩) 4 cap) 4 (u8s [0, 0, 0, 0]) ∧ w.grownBy w' (some g) := by
 obtain ⟨i0, hi, hzz⟩ := Option.map_eq_some_iff.1 hinfo
 simp only [Prod.mk.injEq] at hzz
 obtain ⟨hz0, hz1, hz2⟩ := hzz
 rcases hown.2 with ⟨h, _⟩ | ⟨g', cap', cur, h, hbg, hg, hnc, hcm, hcs, htake⟩
 ·simp at h
 ·simp only [Value.slice.injEq, Option.some.injEq, Addr.mk.injEq, and_true, true_and] at h
  obtain ⟨rfl, rfl⟩ := h
  have hst := run_storeCells_at P g 0 e (u8s [0, 0, 0, 0]) 0 cur w hg (by simp [u8s]; omega) (by intro v hv; simp [u8s] at hv; subst hv; rfl)
  simp only [Nat.add_zero, Nat.zero_add] at hst

  have hzc2 : Builtin.zeroCells (Value.int .u8 0).cells 4 = (u8s [0, 0, 0, 0]).toArray := by kernel_rfl
  have hw : IntKind.i64.wrap 4 = 4 := rfl
  refine ⟨w.setRow g (cur.toList.take 0 ++ u8s [0, 0, 0, 0] ++ cur.toList.drop (0 + (u8s [0, 0, 0, 0]).length)).toArray, ?_, ⟨by simp [u8s], .inr ⟨g, cap, _, rfl, hbg, setRow_heap w g cur _ e _ hg, hcap, hcm, ?_, ?_⟩⟩, ⟨rfl, rfl, rfl, by simp, fun k _ hk => setRow_other w g k _ (fun e => hk (by simp [e]))⟩⟩
  ·simp [Builtin.append_, run_underlying ht, run_underlying htn, sizeOf, typeInfo, hi, hz0, hz1, hz2, zeroValue, asInt, asIntOf, hw, hcap, hzc2, Addr.add_lit, hst]
   intro h
   omega
  ·simp [u8s]
   omega
  ·simp [u8s]
theorem zAT {w : World} {g i : Nat} {cs : Array Value} {t : TypeId} {f : Nat × Nat} (h : w.heap[g]? = some (.cells cs t f)) (v : Value) : (w.setCell ⟨g, i, none⟩ v).heap[g]? = some (.cells (cs.setIfInBounds i v) t f) := by
 simp [World.setCell, Array.getElem?_modify, h]
theorem MBuf.begun {base g : Nat} {w w1 : World} {v v1 : Value} {l nb : List UInt8} (hb : MBuf base w g v l) (hown : w1.ownsRow base 5 1 v1 nb.length (u8s nb))
  (hg : w.grownBy w1 v.ownBlock) (hat : v1.ownBlock = v.ownBlock) :
  MBuf base (((w1.setCell ⟨g, 0, none⟩ v1).setCell ⟨g, 1, none⟩ (.int .i64 0)).setCell ⟨g, 2, none⟩ .nilIface) g v1 nb ∧ Upd g v w (((w1.setCell ⟨g, 0, none⟩ v1).setCell ⟨g, 1, none⟩ (.int .i64 0)).setCell ⟨g, 2, none⟩ .nilIface) := by
 have hblk := hb.blkAfter hg
 have hne : v1.ownBlock ≠ some g := by rw [hat]; exact hb.ne
 have h1 := zAT (i := 0) hblk v1
 have h2 := zAT (i := 1) h1 (.int .i64 0)
 have h3 := zAT (i := 2) h2 .nilIface
 refine ⟨⟨?_, ?_, hb.le, hne⟩, ⟨hg.os, hg.tape, hg.output, ?_, ?_⟩⟩
 ·rw [h3]; rfl
 ·refine hown.kept (row := some g) ⟨rfl, rfl, rfl, by simp [World.setCell], fun k _ hk => ?_⟩ (.inr hne)
  have hk' : k ≠ g := fun e => hk (by rw [e])
  rw [Below.heap_setCell _ _ _ _ hk', Below.heap_setCell _ _ _ _ hk', Below.heap_setCell _ _ _ _ hk']
 ·simpa [World.setCell] using hg.size
 ·intro k hk h1 h2
  rw [Below.heap_setCell _ _ _ _ h1, Below.heap_setCell _ _ _ _ h1, Below.heap_setCell _ _ _ _ h1]
  exact hg.block k hk (fun e => h2 e.symm)
theorem Upd.trans {g : Nat} {v v1 : Value} {w w1 w2 : World} (h1 : Upd g v w w1) (ho : v1.ownBlock = v.ownBlock ∨ ∃ k, v1.ownBlock = some k ∧ w.heap.size ≤ k) (h2 : Upd g v1 w1 w2) : Upd g v w w2 :=
 ⟨h2.os.trans h1.os, h2.tape.trans h1.tape, h2.output.trans h1.output, Nat.le_trans h1.size h2.size, fun k hk e1 e2 => by
  rw [h2.block k (by have := h1.size; omega) e1 ?_]
  ·exact h1.block k hk e1 e2
  ·rcases ho with e | ⟨j, e, hj⟩
   ·rw [e]; exact e2
   ·rw [e]; intro h; injection h with h; omega⟩
theorem zFf {v v1 v2 : Value} {w w1 : World} (hs : w.heap.size ≤ w1.heap.size) (h1 : v1.ownBlock = v.ownBlock ∨ ∃ k, v1.ownBlock = some k ∧ w.heap.size ≤ k) (h2 : v2.ownBlock = v1.ownBlock ∨ ∃ k, v2.ownBlock = some k ∧ w1.heap.size ≤ k) :
  v2.ownBlock = v.ownBlock ∨ ∃ k, v2.ownBlock = some k ∧ w.heap.size ≤ k := by
 rcases h2 with e | ⟨k, e, hk⟩
 ·rw [e]; exact h1
 ·exact .inr ⟨k, e, by omega⟩
theorem Upd.refl (g : Nat) (v : Value) (w : World) : Upd g v w w := ⟨rfl, rfl, rfl, Nat.le_refl _, fun _ _ _ _ => rfl⟩
theorem Upd.cell {g : Nat} {v : Value} {w w' : World} (h : Upd g v w w') {s o : Nat} {u : Value} (hs : s < w.heap.size) (h1 : s ≠ g) (h2 : v.ownBlock ≠ some s) (hc : w.cell? ⟨s, o, none⟩ = some u) : w'.cell? ⟨s, o, none⟩ = some u := by
 rw [World.cell?_of_block (w := w) (h.block s hs h1 h2)]
 exact hc
theorem zGt (w : World) (e : TypeId) (s : ByteArray) (row : Option Nat) : w.grownBy (Lib.bytesWorld w e s) row := ⟨rfl, rfl, rfl, by rw [Lib.bytesWorld_size]; omega, fun k hk _ => Lib.bytesWorld_at_old w e s k hk⟩
theorem zFg (w : World) (e : TypeId) (s : ByteArray) (g : Nat) (v : Value) : Upd g v w (Lib.bytesWorld w e s) := ⟨rfl, rfl, rfl, by rw [Lib.bytesWorld_size]; omega, fun k hk _ _ => Lib.bytesWorld_at_old w e s k hk⟩
theorem bytes_below {B : Nat} {w W : World} (h : Below B w W) (hB : B ≤ W.heap.size) (e : TypeId) (s : ByteArray) : Below B w (Lib.bytesWorld W e s) :=
 h.trans ⟨rfl, rfl, rfl, by rw [Lib.bytesWorld_size]; omega, fun i hi => Lib.bytesWorld_at_old W e s i (by omega)⟩
theorem MBuf.bytes {base g : Nat} {w : World} {v : Value} {l : List UInt8} (hb : MBuf base w g v l) (e : TypeId) (s : ByteArray) : MBuf base (Lib.bytesWorld w e s) g v l :=
 ⟨by rw [Lib.bytesWorld_at_old w e s g (zAC hb.blk)]; exact hb.blk, hb.own.kept (zGt w e s none) (by cases v.ownBlock <;> simp), hb.le, hb.ne⟩
theorem zCB (w : World) (e : TypeId) (s : ByteArray) (j : Nat) (b : UInt8) (h : (tl s)[j]? = some b) : (Lib.bytesWorld w e s).cell? ⟨w.heap.size, 0 + j, none⟩ = some (u8 b) := by
 have hj : j < s.size := by
  have := (List.getElem?_eq_some_iff.1 h).1
  rwa [zAH] at this
 rw [Nat.zero_add, Lib.bytesWorld_cell w e s j hj]
 unfold u8
 rw [List.getD_eq_getElem?_getD, show s.data.toList = tl s from rfl, h]
 rfl
theorem zEK {w : World} {base n : Nat} {e : TypeId} {size : Nat} {v : Value} {xs : List Value} (h : w.ownsRow base e size v n xs) {k : Nat} (hk : w.heap.size ≤ k) : v.ownBlock ≠ some k := fun e => by have := (h.lt k e).2; omega
theorem zO2 (l : List UInt8) (x : Int) (a b c d : Value) (hl : 4 ≤ l.length) (ha : a = u8 (bt (x / 16777216))) (hb : b = u8 (bt (x / 65536))) (hc : c = u8 (bt (x / 256))) (hd : d = u8 (bt x)) :
  ((((u8s l).set 0 a).set 1 b).set 2 c).set 3 d = u8s (zAQ x ++ l.drop 4) := by
 subst ha hb hc hd
 match l, hl with
 | l0 :: l1 :: l2 :: l3 :: t, _ => rfl
theorem MBuf.inPlace {base g : Nat} {w w1 : World} {v : Value} {l m : List UInt8} (hb : MBuf base w g v l) (hown : w1.ownsRow base 5 1 v m.length (u8s m)) (hg : w.grownBy w1 v.ownBlock) : MBuf base w1 g v m :=
 ⟨hb.blkAfter hg, hown, hb.le, hb.ne⟩
theorem zGu {w : World} {base n : Nat} {e : TypeId} {size : Nat} {v : Value} {xs : List Value} (h : w.ownsRow base e size v n xs) (hn : 0 < n) : ∃ g c, v = .slice (some ⟨g, 0, none⟩) n c := by
 rcases h.2 with ⟨rfl, rfl⟩ | ⟨g, cap, cur, rfl, _⟩
 ·omega
 ·exact ⟨g, cap, rfl⟩
theorem zBt : (Tryz.prog.info? 5).map (fun i => (i.zero, i.size, i.bytes)) = some (some (.int .u8 0), 1, 1) := by kernel_rfl
theorem zB9 {a b : Value} {l m : List Value} (h : a = b) (h2 : l = m) : a :: l = b :: m := by rw [h, h2]
def b1 (x : Int) : List UInt8 := [bt x]
theorem zBu {x y : Int} (h : y = x % 256) : Value.int .u8 y = u8 (bt x) := by unfold u8; rw [zDx, h]
theorem zJG (base g : Nat) (v : Value) (l : List UInt8) (x : Int) (w : World) (hb : MBuf base w g v l) (h0 : 0 ≤ x) (h1 : x ≤ 255) (hl : l.length ≤ 1000000000) :
  Calls Tryz.prog 47 #[.pointer (some ⟨g, 0, none⟩), .int .u8 x] w fun e w' => e = .returned (.tuple #[]) ∧ ∃ v', MBuf base w' g v' (l ++ b1 x) ∧ Upd g v w w' ∧ (v'.ownBlock = v.ownBlock ∨ ∃ k, v'.ownBlock = some k ∧ w.heap.size ≤ k) := by
 have c0 := hb.cell
 have hbl := hb.baseLe
 have HB := Lib.hid hb
 clear hb
 go_enter Tryz.func47, Tryz.ntmps47
 go_wp2_with (at_builtin; refine zFx rfl _ _ 56 5 rfl Tryz.underlying56 zBt base v l rfl HB.out.own 1 1 _ (b1 x) rfl ?_ rfl ?c1 ?c2 ?c3; intro v1 w1 hown hg hat; obtain ⟨A1, cap1, rfl⟩ := own_slice hown; have cg := HB.out.cellAfter hg; have fg := HB.out.frozenAfter hg)
 ·go_end0
  have hm := HB.out.appended hown hg (hat.imp id (fun e => ⟨_, e, by omega⟩))
  simp only [List.length_append] at hm
  exact ⟨rfl, _, hm⟩
 case c1 => exact zB9 (zBu (by omega)) rfl
 case c2 => omega
 case c3 => exact hbl
theorem zD8 (base g : Nat) (v : Value) (l : List UInt8) (x : Int) (w : World) (hb : MBuf base w g v l) (h0 : 0 ≤ x) (h1 : x ≤ 4294967295) (hl : l.length ≤ 1000000000) :
  Calls Tryz.prog 48 #[.pointer (some ⟨g, 0, none⟩), .int .u32 x] w fun e w' => e = .returned (.tuple #[]) ∧ ∃ v', MBuf base w' g v' (l ++ zAQ x) ∧ Upd g v w w' ∧ (v'.ownBlock = v.ownBlock ∨ ∃ k, v'.ownBlock = some k ∧ w.heap.size ≤ k) := by
 have c0 := hb.cell
 have hbl := hb.baseLe
 have HB := Lib.hid hb
 clear hb
 go_enter Tryz.func48, Tryz.ntmps48
 go_wp2_with (at_builtin; refine zFx rfl _ _ 56 5 rfl Tryz.underlying56 zBt base v l rfl HB.out.own 4 4 _ (zAQ x) rfl ?_ rfl ?c1 ?c2 ?c3; intro v1 w1 hown hg hat; obtain ⟨A1, cap1, rfl⟩ := own_slice hown; have cg := HB.out.cellAfter hg; have fg := HB.out.frozenAfter hg)
 ·go_end0
  have hm := HB.out.appended hown hg (hat.imp id (fun e => ⟨_, e, by omega⟩))
  simp only [List.length_append] at hm
  exact ⟨rfl, _, hm⟩
 case c1 => exact zB9 (zBu (by omega)) (zB9 (zBu (by omega)) (zB9 (zBu (by omega)) (zB9 (zBu (by omega)) rfl)))
 case c2 => omega
 case c3 => exact hbl
theorem zGv (base g : Nat) (v : Value) (l : List UInt8) (x : Int) (w : World) (hb : MBuf base w g v l) (h0 : 0 ≤ x) (h1 : x ≤ 18446744073709551615) (hl : l.length ≤ 1000000000) :
  Calls Tryz.prog 109 #[.pointer (some ⟨g, 0, none⟩), .int .u64 x] w fun e w' => e = .returned (.tuple #[]) ∧ ∃ v', MBuf base w' g v' (l ++ zBN x) ∧ Upd g v w w' ∧ (v'.ownBlock = v.ownBlock ∨ ∃ k, v'.ownBlock = some k ∧ w.heap.size ≤ k) := by
 have c0 := hb.cell
 have hbl := hb.baseLe
 have HB := Lib.hid hb
 clear hb
 go_enter Tryz.func109, Tryz.ntmps109
 go_wp2_with (at_builtin; refine zFx rfl _ _ 56 5 rfl Tryz.underlying56 zBt base v l rfl HB.out.own 8 8 _ (zBN x) rfl ?_ rfl ?c1 ?c2 ?c3; intro v1 w1 hown hg hat; obtain ⟨A1, cap1, rfl⟩ := own_slice hown; have cg := HB.out.cellAfter hg; have fg := HB.out.frozenAfter hg)
 ·go_end0
  have hm := HB.out.appended hown hg (hat.imp id (fun e => ⟨_, e, by omega⟩))
  simp only [List.length_append] at hm
  exact ⟨rfl, _, hm⟩
 case c1 => exact zB9 (zBu (by omega)) (zB9 (zBu (by omega)) (zB9 (zBu (by omega)) (zB9 (zBu (by omega)) (zB9 (zBu (by omega)) (zB9 (zBu (by omega)) (zB9 (zBu (by omega)) (zB9 (zBu (by omega)) rfl)))))))
 case c2 => omega
 case c3 => exact hbl
theorem zAZ (A : Option Addr) (n c : Nat) (w : World) :
  Calls Tryz.prog 46 #[.slice A n c] w fun e w' => e = .returned (.pointer (some ⟨w.heap.size, 0, none⟩)) ∧ w.alloc (.cells #[.slice A n c, .int .i64 0, .nilIface] 83) = w' := by
 go_enter Tryz.func46, Tryz.ntmps46
 go_wp2
 go_ret
 exact ⟨rfl, rfl⟩
theorem zBx (p : Addr) (A : Option Addr) (n c : Nat) (w : World) (hc : w.cell? p = some (.slice A n c)) :
  Calls Tryz.prog 101 #[.pointer (some p)] w fun e w' => e = .returned (.int .i64 (c : Int)) ∧ w = w' := by
 go_enter Tryz.func101, Tryz.ntmps101
 go_wp2
 go_ret
 exact ⟨rfl, rfl⟩
theorem zKm (m : Nat) (hm : m ≤ 1000000000) :
  ∀ W : World, (Instr.makeSlice 56 (.int .i64 (m : Int)) (.int .i64 (m : Int))).run Tryz.prog W = .ok (.slice (some ⟨W.heap.size, 0, none⟩) m m) (W.alloc (.cells (madeCells #[.int .u8 0] m) 5)) := by
 intro W
 exact run_make_row' 56 5 (.int .u8 0) 1 Tryz.underlying56 zBt rfl .i64 .i64 m (by omega) (by omega) W
def zO3 (base : Nat) (w : World) (e : Ending) (w' : World) : Prop :=
 ∃ g h N l, e = .returned (.pointer (some ⟨g, 0, none⟩)) ∧ MBuf base w' g (.slice (some ⟨h, 0, none⟩) N N) l ∧ 9 ≤ N ∧ Below base w w'
theorem zJc (base : Nat) (w : World) (N : Nat) (hN : N ≤ 1000000000) (hb : base ≤ w.heap.size) :
  MBuf base ((w.alloc (.cells (madeCells #[.int .u8 0] N) 5)).alloc (.cells #[.slice (some ⟨w.heap.size, 0, none⟩) N N, .int .i64 0, .nilIface] 83)) (w.heap.size + 1) (.slice (some ⟨w.heap.size, 0, none⟩) N N) (List.replicate N 0) := by
 have h := World.ownsRow_lit (base := base) (e := 5) (size := 1) w (madeCells #[.int .u8 0] N) N hb (by simp only [maxLen]; omega) (by simp [size_madeCells])
 have hl : (madeCells #[Value.int .u8 0] N).toList = u8s (List.replicate N 0) := by
  apply List.ext_getElem
  ·simp [u8s, madeCells]
  ·intro i h1 h2
   simp [u8s, u8, madeCells, Nat.mod_one]
 rw [hl] at h
 refine ⟨?_, ?_, by omega, by simp [Value.ownBlock]⟩
 ·rw [show w.heap.size + 1 = (w.alloc (.cells (madeCells #[.int .u8 0] N) 5)).heap.size from by simp]
  exact heap_alloc_new _ _
 ·rw [List.length_replicate]
  exact h.alloc _
theorem zAf (base : Nat) (x : Int) (w : World) (hb : base ≤ w.heap.size) (h0 : 0 ≤ x) (h1 : x ≤ 100000000) :
  Calls Tryz.prog 103 #[.int .i64 x] w (zO3 base w) := by
 obtain ⟨k, rfl⟩ := Int.eq_ofNat_of_zero_le h0
 have hmk := zKm (9 + k) (by omega)
 rw [show ((9 + k : Nat) : Int) = 9 + (k : Int) from by omega] at hmk
 go_enter Tryz.func103, Tryz.ntmps103
 go_wp2_with (go_at_call 46; refine (zAZ _ _ _ _).mono ?_; rintro e w' ⟨rfl, rfl⟩)
 go_ret
 exact ⟨_, _, _, _, rfl, zJc base w (9 + k) (by omega) hb, by omega, ((Below.refl _ _).alloc hb _).alloc (by simp; omega) _⟩
def zNj (base g : Nat) (v : Value) (l nb : List UInt8) (w : World) (e : Ending) (w' : World) : Prop :=
 e = .returned (.tuple #[]) ∧ ∃ v', MBuf base w' g v' (l ++ nb) ∧ Upd g v w w' ∧ (v'.ownBlock = v.ownBlock ∨ ∃ k, v'.ownBlock = some k ∧ w.heap.size ≤ k)
theorem zAa (base g h n cap : Nat) (l : List UInt8) (t i : Int) (w : World) (hb : MBuf base w g (.slice (some ⟨h, 0, none⟩) n cap) l) (hcap : 4 ≤ cap) (t0 : 0 ≤ t) (t1 : t ≤ 255) (i0 : 0 ≤ i) (i1 : i ≤ 4294967295) :
  Calls Tryz.prog 104 #[.pointer (some ⟨g, 0, none⟩), .int .u8 t, .int .u32 i] w fun e w' => e = .returned (.tuple #[]) ∧ ∃ v', MBuf base w' g v' ([0, 0, 0, 0, bt t] ++ zAQ i) ∧ Below base w w' := by
 have hn : n = l.length := by
  have := hb.own.2
  rcases this with ⟨h, _⟩ | ⟨_, _, _, h, _⟩
  ·cases h
  ·injection h
 subst hn
 obtain ⟨w1, hr, hown1, hg1⟩ := zIE (P := Tryz.prog) w 56 3 56 5 .i64 Tryz.underlying56 Tryz.underlying3 zBt base h cap _ _ hb.own hcap
 have c0 := hb.cell
 have hm := hb.begun (nb := [0, 0, 0, 0]) hown1 hg1 rfl
 have k1 := hb.blkAfter hg1
 have c10 : w1.cell? ⟨g, 0, none⟩ = some (.slice (some ⟨h, 0, none⟩) l.length cap) := by rw [zAA k1]; rfl
 have c11 : w1.cell? ⟨g, 1, none⟩ = some (.int .i64 0) := by rw [zAA k1]; rfl
 have c12 : w1.cell? ⟨g, 2, none⟩ = some .nilIface := by rw [zAA k1]; rfl
 have f10 := zAP k1 0
 have f11 := zAP k1 1
 have f12 := zAP k1 2
 have HM := Lib.hid hm
 have HB := Lib.hid hb
 clear hm hb k1
 go_enter Tryz.func104, Tryz.ntmps104
 go_wp2_with (at_builtin; refine Lib.wpList_append_run w rfl _ _ 56 3 rfl _ _ rfl rfl _ _ hr ?_)
 refine (zJG base g _ _ _ _ HM.out.1 t0 t1 (by simp)).mono ?_
 rintro e w2 ⟨rfl, v2, m2, u2, o2⟩
 have M2 := Lib.hid m2
 have U2 := Lib.hid (HB.out.below HM.out.2)
 have U3 := Lib.hid (HM.out.1.below u2)
 clear m2 u2 o2
 go_wp2_with fail
 refine (zD8 base g _ _ _ _ M2.out i0 i1 (by simp [b1])).mono ?_
 rintro e w3 ⟨rfl, v3, m3, u3, o3⟩
 have M3 := Lib.hid m3
 have U4 := Lib.hid (M2.out.below u3)
 clear m3 u3 o3
 go_wp2_with fail
 go_end0
 exact ⟨rfl, _, M3.out, (U2.out.trans U3.out).trans U4.out⟩
theorem zGw (base g : Nat) (v : Value) (l : List UInt8) (s o n c : Nat) (nb : List UInt8) (w : World) (hb : MBuf base w g v l) (hl : l.length ≤ 900000000)
  (hn : nb.length = n) (hn2 : n ≤ 100000000) (hs : s < w.heap.size) (hsg : s ≠ g) (hsv : v.ownBlock ≠ some s) (hsrc : ∀ j b, nb[j]? = some b → w.cell? ⟨s, o + j, none⟩ = some (u8 b)) :
  Calls Tryz.prog 77 #[.pointer (some ⟨g, 0, none⟩), .slice (some ⟨s, o, none⟩) n c] w (zNj base g v l (zAQ n ++ nb) w) := by
 have HS := Lib.hid hsrc
 have HN := Lib.hid hn
 have HV := Lib.hid hsv
 clear hsrc hn hsv
 go_enter Tryz.func77, Tryz.ntmps77
 go_wp2_with fail
 refine (zD8 base g _ _ _ _ hb (by omega) (by omega) (by omega)).mono ?_
 rintro e w1 ⟨rfl, v1, m1, u1, o1⟩
 have c1 := m1.cell
 have hbl := m1.baseLe
 have M1 := Lib.hid m1
 have U1 := Lib.hid u1
 have O1 := Lib.hid o1
 clear m1 u1 o1
 go_wp2_with (at_builtin; refine zFw rfl _ _ 56 5 rfl Tryz.underlying56 zBt base v1 (l ++ zAQ n) rfl M1.out.own ⟨s, o, none⟩ n c nb rfl ?_ HN.out ?c1 ?c2 ?c3; intro v2 w2 hown hg hat; obtain ⟨A1, cap1, rfl⟩ := own_slice hown; have cg := M1.out.cellAfter hg; have fg := M1.out.frozenAfter hg)
 ·go_end0
  have hm := M1.out.appended hown hg (hat.imp id (fun e => ⟨_, e, by omega⟩))
  simp only [List.length_append, List.append_assoc] at hm
  exact ⟨rfl, _, hm.1, U1.out.trans O1.out hm.2.1, zFf U1.out.size O1.out hm.2.2⟩
 case c1 =>
  intro j b hj
  rw [add_plain]
  exact U1.out.cell hs hsg HV.out (HS.out j b hj)
 case c2 => simp [zAQ]; omega
 case c3 => exact hbl
theorem zAv (base g : Nat) (v : Value) (l : List UInt8) (s : ByteArray) (w : World) (hb : MBuf base w g v l) (hl : l.length ≤ 900000000) (hs : s.size ≤ 100000000) :
  Calls Tryz.prog 66 #[.pointer (some ⟨g, 0, none⟩), .string s] w (zNj base g v l (str (tl s)) w) := by
 have kb := fun W => Lib.run_convert_string_bytes (P := Tryz.prog) W 9 56 5 s Tryz.underlying9 Tryz.underlying56 Tryz.underlying5
 go_enter Tryz.func66, Tryz.ntmps66
 go_wp2_with fail
 refine (zGw base g v l w.heap.size 0 s.size _ (tl s) _ (hb.bytes _ s) hl (zAH s) hs (by rw [Lib.bytesWorld_size]; omega) ?_ (zEK hb.own (Nat.le_refl _)) (zCB w _ s)).mono ?_
 ·have := zAC hb.blk
  omega
 ·rintro e w1 ⟨rfl, v1, m1, u1, o1⟩
  have M1 := Lib.hid m1
  have U1 := Lib.hid u1
  have O1 := Lib.hid o1
  clear m1 u1 o1
  go_wp2_with fail
  go_end0
  refine ⟨rfl, _, ?_, (zFg w _ s g v).trans (.inl rfl) U1.out, zFf (zFg w _ s g v).size (.inl rfl) O1.out⟩
  unfold str
  rw [zAH]
  exact M1.out
theorem zMv (base h cap : Nat) (l : List UInt8) (x : Int) (w : World) (ho : w.ownsRow base 5 1 (.slice (some ⟨h, 0, none⟩) l.length cap) l.length (u8s l)) (hl : 4 ≤ l.length) (hl2 : l.length ≤ 1000000000) (x0 : 0 ≤ x) (x1 : x ≤ 4294967295) :
  Calls Tryz.prog 67 #[.slice (some ⟨h, 0, none⟩) l.length cap, .int .u32 x] w fun e w' => e = .returned (.tuple #[]) ∧ w'.ownsRow base 5 1 (.slice (some ⟨h, 0, none⟩) l.length cap) l.length (u8s (zAQ x ++ l.drop 4)) ∧ w.grownBy w' (some h) := by
 have c0 : w.cell? ⟨h, 0, none⟩ = some (u8 (l.getD 0 0)) := by rw [ho.cellAt 0 (by omega)]; simp [u8s, List.getD_eq_getElem?_getD, List.getElem?_eq_getElem (show 0 < l.length by omega)]
 have c1 : w.cell? ⟨h, 1, none⟩ = some (u8 (l.getD 1 0)) := by rw [ho.cellAt 1 (by omega)]; simp [u8s, List.getD_eq_getElem?_getD, List.getElem?_eq_getElem (show 1 < l.length by omega)]
 have c2 : w.cell? ⟨h, 2, none⟩ = some (u8 (l.getD 2 0)) := by rw [ho.cellAt 2 (by omega)]; simp [u8s, List.getD_eq_getElem?_getD, List.getElem?_eq_getElem (show 2 < l.length by omega)]
 have c3 : w.cell? ⟨h, 3, none⟩ = some (u8 (l.getD 3 0)) := by rw [ho.cellAt 3 (by omega)]; simp [u8s, List.getD_eq_getElem?_getD, List.getElem?_eq_getElem (show 3 < l.length by omega)]
 have f0 := ho.frozenAt 0
 have f1 := ho.frozenAt 1
 have f2 := ho.frozenAt 2
 have f3 := ho.frozenAt 3
 have HO := Lib.hid ho
 clear ho
 have i0 : (0 : Int) < (l.length : Int) := by omega
 have i1 : (1 : Int) < (l.length : Int) := by omega
 have i2 : (2 : Int) < (l.length : Int) := by omega
 have i3 : (3 : Int) < (l.length : Int) := by omega
 go_enter Tryz.func67, Tryz.ntmps67
 go_wp2
 go_end0
 have s0 := HO.out.stored 0 (.int .u8 (x / 16777216))
 have s1 := s0.1.stored 1 (.int .u8 (x / 65536 % 256))
 have s2 := s1.1.stored 2 (.int .u8 (x / 256 % 256))
 have s3 := s2.1.stored 3 (.int .u8 (x % 256))
 have e := zO2 l x _ _ _ _ hl (zBu (x := x / 16777216) (y := x / 16777216) (by omega)) (zBu (x := x / 65536) (y := x / 65536 % 256) rfl) (zBu (x := x / 256) (y := x / 256 % 256) rfl) (zBu (x := x) (y := x % 256) rfl)
 refine ⟨rfl, ?_, ((s0.2.trans s1.2).trans s2.2).trans s3.2⟩
 rw [← e]
 exact s3.1
theorem zFh (base g : Nat) (v : Value) (l : List UInt8) (x : Int) (w : World) (hb : MBuf base w g v l) (hl : 4 ≤ l.length) (hl2 : l.length ≤ 100000000) (x0 : 0 ≤ x) (x1 : x ≤ 4294967295) :
  Calls Tryz.prog 50 #[.pointer (some ⟨g, 0, none⟩), .int .i64 x] w fun e w' => e = .returned (.tuple #[]) ∧ MBuf base w' g v (zAQ x ++ l.drop 4) ∧ w.grownBy w' v.ownBlock := by
 obtain ⟨h, c1, rfl⟩ := zGu hb.own (by omega)
 have c0 := hb.cell
 have HB := Lib.hid hb
 clear hb
 have d0 : decide ((l.length : Int) < 4) = false := by simp; omega
 go_enter Tryz.func50, Tryz.ntmps50
 go_wp2_with fail
 refine (zMv base h c1 l x _ HB.out.own hl (by omega) x0 x1).mono ?_
 rintro e w1 ⟨rfl, o1, g1⟩
 have hm : MBuf base w1 g (.slice (some ⟨h, 0, none⟩) l.length c1) (zAQ x ++ l.drop 4) := by
  refine HB.out.inPlace ?_ g1
  have e : (zAQ x ++ l.drop 4).length = l.length := by simp [zAQ]; omega
  rw [e]
  exact o1
 have HM := Lib.hid hm
 have HG := Lib.hid g1
 clear hm g1 o1
 go_wp2_with fail
 go_end0
 exact ⟨rfl, HM.out, HG.out⟩
theorem zBA (base g : Nat) (v : Value) (l : List UInt8) (A : Option Addr) (n c : Nat) (w : World) (hb : MBuf base w g v l) (hl : 9 ≤ l.length) (hl2 : l.length ≤ 100000000) (hn : n ≤ 100000000) :
  Calls Tryz.prog 106 #[.pointer (some ⟨g, 0, none⟩), .slice A n c] w fun e w' => e = .returned (.tuple #[v, .slice A n c, .nilIface]) ∧ MBuf base w' g v (zAQ (l.length - 4 + n) ++ l.drop 4) ∧ w.grownBy w' v.ownBlock := by
 obtain ⟨A0, c1, rfl⟩ := own_slice hb.own
 have c0 := hb.cell
 have HB := Lib.hid hb
 clear hb
 go_enter Tryz.func106, Tryz.ntmps106
 go_wp2_with fail
 refine (zFh base g _ l _ _ HB.out (by omega) hl2 (by omega) (by omega)).mono ?_
 rintro e w1 ⟨rfl, m1, g1⟩
 have c01 := m1.cell
 have HM := Lib.hid m1
 have HG := Lib.hid g1
 clear m1 g1
 go_wp2_with fail
 go_ret3
 exact ⟨rfl, HM.out, HG.out⟩
theorem zJH (base : Nat) (v : Value) (l : List UInt8) (A : Option Addr) (n c : Nat) (nb : List UInt8) (w : World) (ho : w.ownsRow base 5 1 v l.length (u8s l)) (hb : base ≤ w.heap.size) (hl : l.length ≤ 900000000)
  (hn : nb.length = n) (hn2 : n ≤ 100000000) (hsrc : A = none ∧ n = 0 ∧ c = 0 ∨ ∃ s o, A = some ⟨s, o, none⟩ ∧ ∀ j b, nb[j]? = some b → w.cell? ⟨s, o + j, none⟩ = some (u8 b)) :
  Calls Tryz.prog 27 #[v, .slice A n c, .nilIface] w fun e w' => ∃ v', e = .returned (.tuple #[v', .nilIface]) ∧ w'.ownsRow base 5 1 v' (l ++ nb).length (u8s (l ++ nb)) ∧ Below base w w' := by
 obtain ⟨A0, c1, rfl⟩ := own_slice ho
 have HO := Lib.hid ho
 have HN := Lib.hid hn
 clear ho hn
 rcases hsrc with ⟨rfl, rfl, rfl⟩ | ⟨s, o, rfl, hsrc⟩
 ·obtain rfl : nb = [] := List.eq_nil_of_length_eq_zero HN.out
  obtain ⟨i0, hi, hzz⟩ := Option.map_eq_some_iff.1 zBt
  simp only [Prod.mk.injEq] at hzz
  have hr := run_append_owned_none (P := Tryz.prog) (w := w) base 56 56 5 i0 1 Tryz.underlying56 hi _ _ _ HO.out
  clear hzz
  go_enter Tryz.func27, Tryz.ntmps27
  go_wp2_with (at_builtin; refine Lib.wpList_append_run w rfl _ _ 56 56 rfl _ _ rfl rfl _ _ hr ?_)
  go_ret2
  exact ⟨_, rfl, by simpa using HO.out, Below.refl _ _⟩
 ·have HS := Lib.hid hsrc
  clear hsrc
  go_enter Tryz.func27, Tryz.ntmps27
  go_wp2_with (at_builtin; refine zFw rfl _ _ 56 5 rfl Tryz.underlying56 zBt base _ l rfl HO.out ⟨s, o, none⟩ n c nb rfl ?_ HN.out ?c1 ?c2 ?c3; intro v2 w2 hown hg hat; have HOW := Lib.hid hown; have HG := Lib.hid hg; clear hown hg hat)
  ·go_ret2
   exact ⟨_, rfl, HOW.out, (Below.refl _ _).grown HG.out hb (fun k hk => (HO.out.lt k hk).1)⟩
  case c1 =>
   intro j b hj
   rw [add_plain]
   exact HS.out j b hj
  case c2 => omega
  case c3 => exact hb
theorem zBa {k : IntKind} {a b : Int} (h : a = b) : Ending.returned (.int k a) = .returned (.int k b) := by rw [h]
theorem zMw (s p n c : Nat) (x0 x1 x2 x3 : UInt8) (w : World) (hn : 4 ≤ n) (hn2 : n ≤ 1000000000)
  (h0 : w.cell? ⟨s, p, none⟩ = some (.int .u8 (x0.toNat : Int))) (h1 : w.cell? ⟨s, p + 1, none⟩ = some (.int .u8 (x1.toNat : Int))) (h2 : w.cell? ⟨s, p + 2, none⟩ = some (.int .u8 (x2.toNat : Int))) (h3 : w.cell? ⟨s, p + 3, none⟩ = some (.int .u8 (x3.toNat : Int))) :
  Calls Tryz.prog 54 #[.slice (some ⟨s, p, none⟩) n c] w fun e w' => e = .returned (.int .u32 (x0.toNat * 16777216 + x1.toNat * 65536 + x2.toNat * 256 + x3.toNat)) ∧ ∃ k, w' = w.drewN k := by
 have b0 := x0.toNat_lt
 have b1 := x1.toNat_lt
 have b2 := x2.toNat_lt
 have b3 := x3.toNat_lt
 have i0 : (0 : Int) < (n : Int) := by omega
 have i1 : (1 : Int) < (n : Int) := by omega
 have i2 : (2 : Int) < (n : Int) := by omega
 have i3 : (3 : Int) < (n : Int) := by omega
 go_enter Tryz.func54, Tryz.ntmps54
 go_wp2
 go_quiet (fail)
 go_wp2
 go_ret
 refine ⟨zBa ?_, _, rfl⟩
 have e1 : bits .or .u32 (x3.toNat : Int) ((x2.toNat : Int) * 256) = x3.toNat + x2.toNat * 256 := u32_or8 _ _ (by omega) (by omega) (by omega) (by omega) (by omega)
 have e2 : bits .or .u32 ((x3.toNat : Int) + x2.toNat * 256) ((x1.toNat : Int) * 65536) = x3.toNat + x2.toNat * 256 + x1.toNat * 65536 := u32_or16 _ _ (by omega) (by omega) (by omega) (by omega) (by omega)
 have e3 : bits .or .u32 ((x3.toNat : Int) + x2.toNat * 256 + x1.toNat * 65536) ((x0.toNat : Int) * 16777216) = x3.toNat + x2.toNat * 256 + x1.toNat * 65536 + x0.toNat * 16777216 := u32_or24 _ _ (by omega) (by omega) (by omega) (by omega) (by omega)
 rw [e1, e2, e3]
 omega
def gi (l : List UInt8) (i : Nat) : Int := ((l.getD i 0).toNat : Int)
def rd8 (l : List UInt8) : Int := gi l 0
def zO4 (l : List UInt8) : Int := gi l 0 * 256 + gi l 1
def zCJ (l : List UInt8) : Int := gi l 0 * 16777216 + gi l 1 * 65536 + gi l 2 * 256 + gi l 3
def zMB (l : List UInt8) : Int := zCJ l * 4294967296 + zCJ (l.drop 4)
theorem zD9 (l : List UInt8) (i : Nat) : 0 ≤ gi l i ∧ gi l i ≤ 255 := by
 unfold gi
 have := (l.getD i 0).toNat_lt
 omega
theorem zCK (l : List UInt8) : 0 ≤ zCJ l ∧ zCJ l ≤ 4294967295 := by
 have := zD9 l 0
 have := zD9 l 1
 have := zD9 l 2
 have := zD9 l 3
 unfold zCJ
 omega
def Lies (w : World) (s p : Nat) (l : List UInt8) : Prop := ∀ j b, l[j]? = some b → w.cell? ⟨s, p + j, none⟩ = some (u8 b)
theorem Lies.at_ {w : World} {s p : Nat} {l : List UInt8} (h : Lies w s p l) (j : Nat) (hj : j < l.length) : w.cell? ⟨s, p + j, none⟩ = some (.int .u8 ((l.getD j 0).toNat : Int)) := by
 have := h j (l[j]) (by rw [List.getElem?_eq_getElem hj])
 rw [this]
 unfold u8
 rw [List.getD_eq_getElem?_getD, List.getElem?_eq_getElem hj]
 rfl
theorem Lies.drop {w : World} {s p : Nat} {l : List UInt8} (h : Lies w s p l) (k : Nat) : Lies w s (p + k) (l.drop k) := fun j b hj => by
 rw [List.getElem?_drop] at hj
 rw [Nat.add_assoc]
 exact h _ _ hj
theorem Lies.take {w : World} {s p : Nat} {l : List UInt8} (h : Lies w s p l) (k : Nat) : Lies w s p (l.take k) := fun j b hj => by
 rw [List.getElem?_take] at hj
 split at hj
 ·exact h _ _ hj
 ·cases hj
theorem Lies.kept {w w' : World} {s p : Nat} {l : List UInt8} (h : Lies w s p l) (hk : w'.heap[s]? = w.heap[s]?) : Lies w' s p l := fun j b hj => by
 rw [World.cell?_of_block (w := w) hk]
 exact h j b hj
theorem Lies.drewN {w : World} {s p : Nat} {l : List UInt8} (h : Lies w s p l) (n : Nat) : Lies (w.drewN n) s p l := h
theorem zE1 (s p n c : Nat) (l : List UInt8) (w : World) (hn : 4 ≤ n) (hn2 : n ≤ 1000000000) (hl : 4 ≤ l.length) (h : Lies w s p l) :
  Calls Tryz.prog 54 #[.slice (some ⟨s, p, none⟩) n c] w fun e w' => e = .returned (.int .u32 (zCJ l)) ∧ ∃ k, w' = w.drewN k :=
 zMw s p n c _ _ _ _ w hn hn2 (h.at_ 0 (by omega)) (h.at_ 1 (by omega)) (h.at_ 2 (by omega)) (h.at_ 3 (by omega))
theorem zMC (s p n c : Nat) (l : List UInt8) (w : World) (hn : 8 ≤ n) (hc : n ≤ c) (hn2 : n ≤ 1000000000) (hl : 8 ≤ l.length) (h : Lies w s p l) :
  Calls Tryz.prog 115 #[.slice (some ⟨s, p, none⟩) n c] w fun e w' => e = .returned (.int .u64 (zMB l)) ∧ ∃ k, w' = w.drewN k := by
 have HC := fun k => zE1 s p n c l (w.drewN k) (by omega) hn2 (by omega) (h.drewN k)
 have HC2 := fun k => zE1 s (p + 4) (n - 4) (c - 4) (l.drop 4) (w.drewN k) (by omega) (by omega) (by simp; omega) ((h.drop 4).drewN k)
 have r1 := zCK l
 have r2 := zCK (l.drop 4)
 unfold zMB
 generalize zCJ (l.drop 4) = y at *
 generalize zCJ l = x at *
 have H1 := Lib.hid HC
 have H2 := Lib.hid HC2
 clear HC HC2 h
 have i1 : (4 : Int) ≤ (n : Int) := by omega
 have i2 : 4 < c := by omega
 have i3 : ¬ (c = 4) := by omega
 go_enter Tryz.func115, Tryz.ntmps115
 go_wp2
 go_quiet ((first | (go_at_call_of 54 (Value.slice (some ⟨s, p, none⟩) n c); exact Calls.quiet_of (H1.out _)) | (go_at_call 54; exact Calls.quiet_of (H2.out _))))
 go_wp2
 go_ret
 refine ⟨zBa ?_, _, rfl⟩
 exact bits_join .u64 64 (by decide) wraps_u64 32 (x * 4294967296) y (by omega) (by omega) (by omega) (by omega) (by omega) (by omega)
structure RBuf (w : World) (g o s : Nat) (r : Option (List UInt8)) : Prop where
 ex : ∃ p n c off, w.cell? ⟨g, o, none⟩ = some (.slice (some ⟨s, p, none⟩) n c) ∧ w.cell? ⟨g, o + 1, none⟩ = some (.int .i64 ((off : Nat) : Int)) ∧ (s ≠ g ∧ s < w.heap.size) ∧ off ≤ n ∧ n ≤ c ∧ n ≤ 1000000000 ∧
  (match r with
   | some l => w.cell? ⟨g, o + 2, none⟩ = some .nilIface ∧ off + l.length = n ∧ Lies w s (p + off) l
   | none => ∃ t v, w.cell? ⟨g, o + 2, none⟩ = some (.iface t v))
 frz : ∀ i, w.frozen? ⟨g, i, none⟩ = false
structure UpdR (g o : Nat) (w w' : World) : Prop where
 os : w'.os = w.os
 tape : w'.tape = w.tape
 output : w'.output = w.output
 size : w.heap.size ≤ w'.heap.size
 block : ∀ k, k < w.heap.size → k ≠ g → w'.heap[k]? = w.heap[k]?
 cell : ∀ i, i ≠ o + 1 → i ≠ o + 2 → w'.cell? ⟨g, i, none⟩ = w.cell? ⟨g, i, none⟩
 frz : ∀ i, w'.frozen? ⟨g, i, none⟩ = w.frozen? ⟨g, i, none⟩
theorem UpdR.refl (g o : Nat) (w : World) : UpdR g o w w := ⟨rfl, rfl, rfl, Nat.le_refl _, fun _ _ _ => rfl, fun _ _ _ => rfl, fun _ => rfl⟩
theorem UpdR.trans {g o : Nat} {w w1 w2 : World} (h1 : UpdR g o w w1) (h2 : UpdR g o w1 w2) : UpdR g o w w2 :=
 ⟨h2.os.trans h1.os, h2.tape.trans h1.tape, h2.output.trans h1.output, Nat.le_trans h1.size h2.size, fun k hk e => (h2.block k (by have := h1.size; omega) e).trans (h1.block k hk e),
  fun i e1 e2 => (h2.cell i e1 e2).trans (h1.cell i e1 e2), fun i => (h2.frz i).trans (h1.frz i)⟩
theorem UpdR.drewN {g o : Nat} {w w1 : World} (h : UpdR g o w w1) (n : Nat) : UpdR g o w (w1.drewN n) := ⟨h.os, h.tape, h.output, h.size, h.block, h.cell, h.frz⟩
theorem UpdR.below {g o : Nat} {w w1 : World} (h : UpdR g o w w1) {B : Nat} (hB : B ≤ g) (hB2 : B ≤ w.heap.size) : Below B w w1 := ⟨h.os, h.tape, h.output, h.size, fun k hk => h.block k (by omega) (by omega)⟩
def c8 : Option (List UInt8) → Int × Option (List UInt8)
 | some l => if 1 ≤ l.length then (rd8 l, some (l.drop 1)) else (0, none)
 | none => (0, none)
def c16 : Option (List UInt8) → Int × Option (List UInt8)
 | some l => if 2 ≤ l.length then (zO4 l, some (l.drop 2)) else (0, none)
 | none => (0, none)
def c32 : Option (List UInt8) → Int × Option (List UInt8)
 | some l => if 4 ≤ l.length then (zCJ l, some (l.drop 4)) else (0, none)
 | none => (0, none)
def c64 : Option (List UInt8) → Int × Option (List UInt8)
 | some l => if 8 ≤ l.length then (zMB l, some (l.drop 8)) else (0, none)
 | none => (0, none)
theorem zGx (g o s p n c off : Nat) (w : World) (h0 : w.cell? ⟨g, o, none⟩ = some (.slice (some ⟨s, p, none⟩) n c)) (h1 : w.cell? ⟨g, o + 1, none⟩ = some (.int .i64 ((off : Nat) : Int))) (ho : off ≤ n) (hn : n ≤ 1000000000) :
  Calls Tryz.prog 69 #[.pointer (some ⟨g, o, none⟩)] w fun e w' => e = .returned (.int .i64 ((n : Int) - (off : Int))) ∧ ∃ k, w' = w.drewN k := by
 go_enter Tryz.func69, Tryz.ntmps69
 go_wp2
 go_quiet (fail)
 go_wp2
 go_ret
 exact ⟨rfl, _, rfl⟩
theorem zGy (s : ByteArray) (w : World) :
  Calls Tryz.prog 79 #[.string s] w fun e w' => e = .returned (.iface 228 (.pointer (some ⟨w.heap.size, 0, none⟩))) ∧ w.alloc (.cells #[.string s] 230) = w' := by
 go_enter Tryz.func79, Tryz.ntmps79
 go_wp2
 go_ret
 exact ⟨rfl, rfl⟩
def zJI (w : World) (e : Ending) (w' : World) : Prop := ∃ t v, e = .returned (.iface t v) ∧ Below w.heap.size w w'
theorem zC2 (w : World) : Calls Tryz.prog 74 #[] w (zJI w) := by
 go_enter Tryz.func74, Tryz.ntmps74
 go_wp2_with (go_at_call 79; refine (zGy _ _).mono ?_; rintro e w' ⟨rfl, rfl⟩)
 go_ret
 exact ⟨_, _, rfl, (Below.refl _ _).alloc (Nat.le_refl _) _⟩
theorem zJJ (w : World) : Calls Tryz.prog 73 #[] w (zJI w) := by
 go_enter Tryz.func73, Tryz.ntmps73
 go_wp2_with (go_at_call 79; refine (zGy _ _).mono ?_; rintro e w' ⟨rfl, rfl⟩)
 go_ret
 exact ⟨_, _, rfl, (Below.refl _ _).alloc (Nat.le_refl _) _⟩
theorem zBZ {w : World} {a : Addr} {v u : Value} (h : w.cell? a = some u) : (w.setCell a v).cell? a = some v := World.cell?_setCell_same (w := w) (a := a) (v := v) h
theorem zAz {w : World} {a b : Addr} {v : Value} (h : a ≠ b) : (w.setCell a v).cell? b = w.cell? b := World.cell?_setCell_other w a b v h
theorem zCc {w : World} {a b : Addr} {v : Value} : (w.setCell a v).frozen? b = w.frozen? b := World.frozen?_setCell w a b v
theorem zBn {g a b : Nat} (h : a ≠ b) : (⟨g, a, none⟩ : Addr) ≠ ⟨g, b, none⟩ := fun e => by injection e; omega
theorem RBuf.adv {w : World} {g o s p n c off k : Nat} {l : List UInt8} (h0 : w.cell? ⟨g, o, none⟩ = some (.slice (some ⟨s, p, none⟩) n c)) (h1 : w.cell? ⟨g, o + 1, none⟩ = some (.int .i64 ((off : Nat) : Int)))
  (h2 : w.cell? ⟨g, o + 2, none⟩ = some .nilIface) (hsg : s ≠ g ∧ s < w.heap.size) (hl : off + l.length = n) (hnc : n ≤ c) (hn : n ≤ 1000000000) (hL : Lies w s (p + off) l) (hf : ∀ i, w.frozen? ⟨g, i, none⟩ = false) (hk : k ≤ l.length)
  {v : Value} (hv : v = .int .i64 (((off + k : Nat)) : Int)) :
  RBuf (w.setCell ⟨g, o + 1, none⟩ v) g o s (some (l.drop k)) ∧ UpdR g o w (w.setCell ⟨g, o + 1, none⟩ v) := by
 subst hv
 refine ⟨⟨⟨p, n, c, off + k, ?_, zBZ h1, ⟨hsg.1, by simpa [World.setCell] using hsg.2⟩, by omega, hnc, hn, ?_, by simp; omega, ?_⟩, fun i => by rw [zCc]; exact hf i⟩, ⟨rfl, rfl, rfl, by simp [World.setCell], fun j _ hj => Below.heap_setCell _ _ _ _ hj, fun i e1 _ => zAz (zBn (Ne.symm e1)), fun i => zCc⟩⟩
 ·rw [zAz (zBn (by omega))]; exact h0
 ·rw [zAz (zBn (by omega))]; exact h2
 ·have := (hL.drop k).kept (w' := w.setCell ⟨g, o + 1, none⟩ (.int .i64 (((off + k : Nat)) : Int))) (Below.heap_setCell _ _ _ _ hsg.1)
  rwa [Nat.add_assoc] at this
theorem RBuf.fail {w w1 : World} {g o s p n c off : Nat} {t : TypeId} {v : Value} (h0 : w.cell? ⟨g, o, none⟩ = some (.slice (some ⟨s, p, none⟩) n c)) (h1 : w.cell? ⟨g, o + 1, none⟩ = some (.int .i64 ((off : Nat) : Int)))
  (h2 : w.cell? ⟨g, o + 2, none⟩ = some .nilIface) (hsg : s ≠ g ∧ s < w.heap.size) (hnc : n ≤ c) (hn : n ≤ 1000000000) (hf : ∀ i, w.frozen? ⟨g, i, none⟩ = false) (hb : Below (w.setCell ⟨g, o + 1, none⟩ (.int .i64 (n : Int))).heap.size (w.setCell ⟨g, o + 1, none⟩ (.int .i64 (n : Int))) w1) :
  RBuf (w1.setCell ⟨g, o + 2, none⟩ (.iface t v)) g o s none ∧ UpdR g o w (w1.setCell ⟨g, o + 2, none⟩ (.iface t v)) := by
 have hs : (w.setCell ⟨g, o + 1, none⟩ (.int .i64 (n : Int))).heap.size = w.heap.size := by simp [World.setCell]
 have hg : g < w.heap.size := World.block_lt_of_cell? w _ h0
 rw [hs] at hb
 have hb1 : w1.heap[g]? = (w.setCell ⟨g, o + 1, none⟩ (.int .i64 (n : Int))).heap[g]? := hb.block g hg
 have c1 : ∀ i, w1.cell? ⟨g, i, none⟩ = (w.setCell ⟨g, o + 1, none⟩ (.int .i64 (n : Int))).cell? ⟨g, i, none⟩ := fun i => World.cell?_of_block (w := w.setCell ⟨g, o + 1, none⟩ (.int .i64 (n : Int))) hb1
 have f1 : ∀ i, w1.frozen? ⟨g, i, none⟩ = w.frozen? ⟨g, i, none⟩ := fun i => (World.frozen?_of_block (w := w.setCell ⟨g, o + 1, none⟩ (.int .i64 (n : Int))) hb1).trans zCc
 have k2 : w1.cell? ⟨g, o + 2, none⟩ = some .nilIface := by rw [c1, zAz (zBn (by omega))]; exact h2
 refine ⟨⟨⟨p, n, c, n, ?_, ?_, ⟨hsg.1, by have h1 := hb.size; have h2 := hsg.2; simp [World.setCell] at h1 ⊢; omega⟩, Nat.le_refl _, hnc, hn, t, v, zBZ k2⟩, fun i => by rw [zCc, f1]; exact hf i⟩, ⟨hb.os, hb.tape, hb.output, ?_, fun j hj e => ?_, fun i e1 e2 => ?_, fun i => by rw [zCc, f1]⟩⟩
 ·rw [zAz (zBn (by omega)), c1, zAz (zBn (by omega))]; exact h0
 ·rw [zAz (zBn (by omega)), c1]; exact zBZ h1
 ·have := hb.size
  simp [World.setCell] at this ⊢
  exact this
 ·rw [Below.heap_setCell _ _ _ _ e, hb.block j hj, Below.heap_setCell _ _ _ _ e]
 ·rw [zAz (zBn (Ne.symm e2)), c1, zAz (zBn (Ne.symm e1))]
theorem zC3 (g o s : Nat) (r : Option (List UInt8)) (w : World) (hb : RBuf w g o s r) :
  Calls Tryz.prog 68 #[.pointer (some ⟨g, o, none⟩)] w fun e w' => e = .returned (.int .u32 (c32 r).1) ∧ RBuf w' g o s (c32 r).2 ∧ UpdR g o w w' := by
 obtain ⟨p, n, c, off, h0, h1, hsg, hon, hnc, hn, hr⟩ := hb.ex
 have f1 := hb.frz (o + 1)
 have f2 := hb.frz (o + 2)
 cases r with
 | none =>
  obtain ⟨t, v, h2⟩ := hr
  go_enter Tryz.func68, Tryz.ntmps68
  go_wp2_with fail
  go_ret
  exact ⟨rfl, hb, UpdR.refl _ _ _⟩
 | some l =>
  obtain ⟨h2, hl, hL⟩ := hr
  have HB := Lib.hid hb
  have HL := Lib.hid hL
  have HE := Lib.hid hl
  clear hb hL
  by_cases hlen : 4 ≤ l.length
  ·have l1 : off + 4 ≤ n := by omega
   have l2 : ¬ (c = off) := by omega
   have l3 : (off : Int) ≤ (n : Int) := by omega
   clear hl
   go_enter Tryz.func68, Tryz.ntmps68
   go_wp2_with fail
   refine (zGx g o s p n c off _ h0 h1 hon hn).mono ?_
   rintro e W ⟨rfl, k, hW⟩
   have hu : UpdR g o w W := by rw [hW]; exact (UpdR.refl _ _ _).drewN k
   have hB : RBuf W g o s (some l) := by rw [hW]; exact ⟨HB.out.ex, HB.out.frz⟩
   have hLW : Lies W s (p + off) l := by rw [hW]; exact HL.out
   replace hsg : s ≠ g ∧ s < W.heap.size := by rw [hW]; exact hsg
   replace h0 : W.cell? ⟨g, o, none⟩ = some (.slice (some ⟨s, p, none⟩) n c) := by rw [hW]; exact h0
   replace h1 : W.cell? ⟨g, o + 1, none⟩ = some (.int .i64 ((off : Nat) : Int)) := by rw [hW]; exact h1
   replace h2 : W.cell? ⟨g, o + 2, none⟩ = some .nilIface := by rw [hW]; exact h2
   replace f1 : W.frozen? ⟨g, o + 1, none⟩ = false := by rw [hW]; exact f1
   replace f2 : W.frozen? ⟨g, o + 2, none⟩ = false := by rw [hW]; exact f2
   have HU := Lib.hid hu
   have HBW := Lib.hid hB
   have HLW := Lib.hid hLW
   clear hW hu hB hLW
   go_wp2_with fail
   have HC := Lib.hid (fun j => zE1 s (p + off) (n - off) (c - off) l (W.drewN j) (by omega) (by omega) hlen (HLW.out.drewN j))
   go_quiet ((go_at_call 54; exact Calls.quiet_of (HC.out _)))
   go_wp2_with fail
   go_ret
   have hm := RBuf.adv (w := W.drewN nq) h0 h1 h2 hsg HE.out hnc hn HLW.out HBW.out.frz hlen (v := .int .i64 ((off : Int) + 4)) (by rw [Int.natCast_add]; rfl)
   refine ⟨zBa (by simp [c32, hlen]), ?_, ?_⟩
   ·simp only [c32, hlen, if_true]
    exact hm.1
   ·exact (HU.out.drewN nq).trans hm.2
  ·have l1 : (n : Int) - (off : Int) < 4 := by omega
   clear hl
   go_enter Tryz.func68, Tryz.ntmps68
   go_wp2_with fail
   refine (zGx g o s p n c off _ h0 h1 hon hn).mono ?_
   rintro e W ⟨rfl, k, hW⟩
   have hu : UpdR g o w W := by rw [hW]; exact (UpdR.refl _ _ _).drewN k
   have hB : RBuf W g o s (some l) := by rw [hW]; exact ⟨HB.out.ex, HB.out.frz⟩
   have hLW : Lies W s (p + off) l := by rw [hW]; exact HL.out
   replace hsg : s ≠ g ∧ s < W.heap.size := by rw [hW]; exact hsg
   replace h0 : W.cell? ⟨g, o, none⟩ = some (.slice (some ⟨s, p, none⟩) n c) := by rw [hW]; exact h0
   replace h1 : W.cell? ⟨g, o + 1, none⟩ = some (.int .i64 ((off : Nat) : Int)) := by rw [hW]; exact h1
   replace h2 : W.cell? ⟨g, o + 2, none⟩ = some .nilIface := by rw [hW]; exact h2
   replace f1 : W.frozen? ⟨g, o + 1, none⟩ = false := by rw [hW]; exact f1
   replace f2 : W.frozen? ⟨g, o + 2, none⟩ = false := by rw [hW]; exact f2
   have HU := Lib.hid hu
   have HBW := Lib.hid hB
   have HLW := Lib.hid hLW
   clear hW hu hB hLW
   go_wp2_with fail
   refine (zC2 _).mono ?_
   rintro e w1 ⟨t, v, rfl, hb1⟩
   have hm := RBuf.fail (w := W) (w1 := w1) (t := t) (v := v) h0 h1 h2 hsg hnc hn HBW.out.frz hb1
   have hgl : g < W.heap.size := World.block_lt_of_cell? W _ h0
   have q2 : w1.cell? ⟨g, o + 2, none⟩ = some .nilIface := by
    rw [hb1.cell (by simpa [World.setCell] using hgl), zAz (zBn (by omega))]; exact h2
   have fq : w1.frozen? ⟨g, o + 2, none⟩ = false := by
    rw [hb1.frozen (by simpa [World.setCell] using hgl), zCc]; exact f2
   have HM := Lib.hid hm
   clear hm hb1
   go_wp2_with fail
   go_ret
   refine ⟨zBa (by simp [c32, hlen]), ?_, ?_⟩
   ·simp only [c32, hlen, if_false]
    exact HM.out.1
   ·exact HU.out.trans HM.out.2
theorem zJd (g o s : Nat) (r : Option (List UInt8)) (w : World) (hb : RBuf w g o s r) :
  Calls Tryz.prog 112 #[.pointer (some ⟨g, o, none⟩)] w fun e w' => e = .returned (.int .u64 (c64 r).1) ∧ RBuf w' g o s (c64 r).2 ∧ UpdR g o w w' := by
 obtain ⟨p, n, c, off, h0, h1, hsg, hon, hnc, hn, hr⟩ := hb.ex
 have f1 := hb.frz (o + 1)
 have f2 := hb.frz (o + 2)
 cases r with
 | none =>
  obtain ⟨t, v, h2⟩ := hr
  go_enter Tryz.func112, Tryz.ntmps112
  go_wp2_with fail
  go_ret
  exact ⟨rfl, hb, UpdR.refl _ _ _⟩
 | some l =>
  obtain ⟨h2, hl, hL⟩ := hr
  have HB := Lib.hid hb
  have HL := Lib.hid hL
  have HE := Lib.hid hl
  clear hb hL
  by_cases hlen : 8 ≤ l.length
  ·have l1 : off + 8 ≤ n := by omega
   have l2 : ¬ (c = off) := by omega
   have l3 : (off : Int) ≤ (n : Int) := by omega
   clear hl
   go_enter Tryz.func112, Tryz.ntmps112
   go_wp2_with fail
   refine (zGx g o s p n c off _ h0 h1 hon hn).mono ?_
   rintro e W ⟨rfl, k, hW⟩
   have hu : UpdR g o w W := by rw [hW]; exact (UpdR.refl _ _ _).drewN k
   have hB : RBuf W g o s (some l) := by rw [hW]; exact ⟨HB.out.ex, HB.out.frz⟩
   have hLW : Lies W s (p + off) l := by rw [hW]; exact HL.out
   replace hsg : s ≠ g ∧ s < W.heap.size := by rw [hW]; exact hsg
   replace h0 : W.cell? ⟨g, o, none⟩ = some (.slice (some ⟨s, p, none⟩) n c) := by rw [hW]; exact h0
   replace h1 : W.cell? ⟨g, o + 1, none⟩ = some (.int .i64 ((off : Nat) : Int)) := by rw [hW]; exact h1
   replace h2 : W.cell? ⟨g, o + 2, none⟩ = some .nilIface := by rw [hW]; exact h2
   replace f1 : W.frozen? ⟨g, o + 1, none⟩ = false := by rw [hW]; exact f1
   replace f2 : W.frozen? ⟨g, o + 2, none⟩ = false := by rw [hW]; exact f2
   have HU := Lib.hid hu
   have HBW := Lib.hid hB
   have HLW := Lib.hid hLW
   clear hW hu hB hLW
   go_wp2_with fail
   have HC := Lib.hid (fun j => zMC s (p + off) (n - off) (c - off) l (W.drewN j) (by omega) (by omega) (by omega) hlen (HLW.out.drewN j))
   go_quiet ((go_at_call 115; exact Calls.quiet_of (HC.out _)))
   go_wp2_with fail
   go_ret
   have hm := RBuf.adv (w := W.drewN nq) h0 h1 h2 hsg HE.out hnc hn HLW.out HBW.out.frz hlen (v := .int .i64 ((off : Int) + 8)) (by rw [Int.natCast_add]; rfl)
   refine ⟨zBa (by simp [c64, hlen]), ?_, ?_⟩
   ·simp only [c64, hlen, if_true]
    exact hm.1
   ·exact (HU.out.drewN nq).trans hm.2
  ·have l1 : (n : Int) - (off : Int) < 8 := by omega
   clear hl
   go_enter Tryz.func112, Tryz.ntmps112
   go_wp2_with fail
   refine (zGx g o s p n c off _ h0 h1 hon hn).mono ?_
   rintro e W ⟨rfl, k, hW⟩
   have hu : UpdR g o w W := by rw [hW]; exact (UpdR.refl _ _ _).drewN k
   have hB : RBuf W g o s (some l) := by rw [hW]; exact ⟨HB.out.ex, HB.out.frz⟩
   have hLW : Lies W s (p + off) l := by rw [hW]; exact HL.out
   replace hsg : s ≠ g ∧ s < W.heap.size := by rw [hW]; exact hsg
   replace h0 : W.cell? ⟨g, o, none⟩ = some (.slice (some ⟨s, p, none⟩) n c) := by rw [hW]; exact h0
   replace h1 : W.cell? ⟨g, o + 1, none⟩ = some (.int .i64 ((off : Nat) : Int)) := by rw [hW]; exact h1
   replace h2 : W.cell? ⟨g, o + 2, none⟩ = some .nilIface := by rw [hW]; exact h2
   replace f1 : W.frozen? ⟨g, o + 1, none⟩ = false := by rw [hW]; exact f1
   replace f2 : W.frozen? ⟨g, o + 2, none⟩ = false := by rw [hW]; exact f2
   have HU := Lib.hid hu
   have HBW := Lib.hid hB
   have HLW := Lib.hid hLW
   clear hW hu hB hLW
   go_wp2_with fail
   refine (zC2 _).mono ?_
   rintro e w1 ⟨t, v, rfl, hb1⟩
   have hm := RBuf.fail (w := W) (w1 := w1) (t := t) (v := v) h0 h1 h2 hsg hnc hn HBW.out.frz hb1
   have hgl : g < W.heap.size := World.block_lt_of_cell? W _ h0
   have q2 : w1.cell? ⟨g, o + 2, none⟩ = some .nilIface := by
    rw [hb1.cell (by simpa [World.setCell] using hgl), zAz (zBn (by omega))]; exact h2
   have fq : w1.frozen? ⟨g, o + 2, none⟩ = false := by
    rw [hb1.frozen (by simpa [World.setCell] using hgl), zCc]; exact f2
   have HM := Lib.hid hm
   clear hm hb1
   go_wp2_with fail
   go_ret
   refine ⟨zBa (by simp [c64, hlen]), ?_, ?_⟩
   ·simp only [c64, hlen, if_false]
    exact HM.out.1
   ·exact HU.out.trans HM.out.2
theorem zE7 (g o s : Nat) (r : Option (List UInt8)) (w : World) (hb : RBuf w g o s r) :
  Calls Tryz.prog 75 #[.pointer (some ⟨g, o, none⟩)] w fun e w' => e = .returned (.int .u8 (c8 r).1) ∧ RBuf w' g o s (c8 r).2 ∧ UpdR g o w w' := by
 obtain ⟨p, n, c, off, h0, h1, hsg, hon, hnc, hn, hr⟩ := hb.ex
 have f1 := hb.frz (o + 1)
 have f2 := hb.frz (o + 2)
 cases r with
 | none =>
  obtain ⟨t, v, h2⟩ := hr
  go_enter Tryz.func75, Tryz.ntmps75
  go_wp2_with fail
  go_ret
  exact ⟨rfl, hb, UpdR.refl _ _ _⟩
 | some l =>
  obtain ⟨h2, hl, hL⟩ := hr
  have HB := Lib.hid hb
  have HL := Lib.hid hL
  have HE := Lib.hid hl
  clear hb hL
  by_cases hlen : 1 ≤ l.length
  ·have l1 : off + 1 ≤ n := by omega
   have l2 : ¬ (c = off) := by omega
   have l3 : (off : Int) ≤ (n : Int) := by omega
   clear hl
   go_enter Tryz.func75, Tryz.ntmps75
   go_wp2_with fail
   refine (zGx g o s p n c off _ h0 h1 hon hn).mono ?_
   rintro e W ⟨rfl, k, hW⟩
   have hu : UpdR g o w W := by rw [hW]; exact (UpdR.refl _ _ _).drewN k
   have hB : RBuf W g o s (some l) := by rw [hW]; exact ⟨HB.out.ex, HB.out.frz⟩
   have hLW : Lies W s (p + off) l := by rw [hW]; exact HL.out
   replace hsg : s ≠ g ∧ s < W.heap.size := by rw [hW]; exact hsg
   replace h0 : W.cell? ⟨g, o, none⟩ = some (.slice (some ⟨s, p, none⟩) n c) := by rw [hW]; exact h0
   replace h1 : W.cell? ⟨g, o + 1, none⟩ = some (.int .i64 ((off : Nat) : Int)) := by rw [hW]; exact h1
   replace h2 : W.cell? ⟨g, o + 2, none⟩ = some .nilIface := by rw [hW]; exact h2
   replace f1 : W.frozen? ⟨g, o + 1, none⟩ = false := by rw [hW]; exact f1
   replace f2 : W.frozen? ⟨g, o + 2, none⟩ = false := by rw [hW]; exact f2
   have HU := Lib.hid hu
   have HBW := Lib.hid hB
   have HLW := Lib.hid hLW
   clear hW hu hB hLW
   go_wp2_with fail
   have HA := HLW.out.at_ 0 hlen
   rw [Nat.add_zero] at HA
   have l4 : (off : Int) < (n : Int) := by omega
   go_region
   go_wp2_with fail
   go_ret
   have hm := RBuf.adv (w := W) h0 h1 h2 hsg HE.out hnc hn HLW.out HBW.out.frz hlen (v := .int .i64 ((off : Int) + 1)) (by rw [Int.natCast_add]; rfl)
   refine ⟨zBa (by simp [c8, hlen, rd8, gi]), ?_, ?_⟩
   ·simp only [c8, hlen, if_true]
    exact ⟨hm.1.ex, hm.1.frz⟩
   ·exact HU.out.trans (hm.2.drewN 1)
  ·have l1 : (n : Int) - (off : Int) < 1 := by omega
   clear hl
   go_enter Tryz.func75, Tryz.ntmps75
   go_wp2_with fail
   refine (zGx g o s p n c off _ h0 h1 hon hn).mono ?_
   rintro e W ⟨rfl, k, hW⟩
   have hu : UpdR g o w W := by rw [hW]; exact (UpdR.refl _ _ _).drewN k
   have hB : RBuf W g o s (some l) := by rw [hW]; exact ⟨HB.out.ex, HB.out.frz⟩
   have hLW : Lies W s (p + off) l := by rw [hW]; exact HL.out
   replace hsg : s ≠ g ∧ s < W.heap.size := by rw [hW]; exact hsg
   replace h0 : W.cell? ⟨g, o, none⟩ = some (.slice (some ⟨s, p, none⟩) n c) := by rw [hW]; exact h0
   replace h1 : W.cell? ⟨g, o + 1, none⟩ = some (.int .i64 ((off : Nat) : Int)) := by rw [hW]; exact h1
   replace h2 : W.cell? ⟨g, o + 2, none⟩ = some .nilIface := by rw [hW]; exact h2
   replace f1 : W.frozen? ⟨g, o + 1, none⟩ = false := by rw [hW]; exact f1
   replace f2 : W.frozen? ⟨g, o + 2, none⟩ = false := by rw [hW]; exact f2
   have HU := Lib.hid hu
   have HBW := Lib.hid hB
   have HLW := Lib.hid hLW
   clear hW hu hB hLW
   go_wp2_with fail
   refine (zC2 _).mono ?_
   rintro e w1 ⟨t, v, rfl, hb1⟩
   have hm := RBuf.fail (w := W) (w1 := w1) (t := t) (v := v) h0 h1 h2 hsg hnc hn HBW.out.frz hb1
   have hgl : g < W.heap.size := World.block_lt_of_cell? W _ h0
   have q2 : w1.cell? ⟨g, o + 2, none⟩ = some .nilIface := by
    rw [hb1.cell (by simpa [World.setCell] using hgl), zAz (zBn (by omega))]; exact h2
   have fq : w1.frozen? ⟨g, o + 2, none⟩ = false := by
    rw [hb1.frozen (by simpa [World.setCell] using hgl), zCc]; exact f2
   have HM := Lib.hid hm
   clear hm hb1
   go_wp2_with fail
   go_ret
   refine ⟨zBa (by simp [c8, hlen]), ?_, ?_⟩
   ·simp only [c8, hlen, if_false]
    exact HM.out.1
   ·exact HU.out.trans HM.out.2
theorem zDC (r : Option (List UInt8)) : 0 ≤ (c32 r).1 ∧ (c32 r).1 ≤ 4294967295 := by
 cases r with
 | none => simp [c32]
 | some l =>
  simp only [c32]
  split
  ·exact zCK l
  ·simp
def cB (r : Option (List UInt8)) : List UInt8 × Option (List UInt8) :=
 match c32 r with
 | (x, some l) => if x ≤ (l.length : Int) then (l.take x.toNat, some (l.drop x.toNat)) else ([], none)
 | (_, none) => ([], none)
theorem zFy (l : List UInt8) : strOfNums (l.map fun b => (b.toNat : Int)) = bs l := by
 unfold strOfNums bs
 congr 1
 apply Array.ext'
 simp only [List.map_map]
 exact List.map_id'' (fun b => by simp) l
theorem zCL (w : World) (s p c : Nat) (l : List UInt8) (hL : Lies w s p l) (src dst e : TypeId) (hs : Tryz.prog.underlying src = some (.slice e)) (he : Tryz.prog.underlying e = some (.int .u8)) (hd : Tryz.prog.underlying dst = some .string) :
  (convert src dst (.slice (some ⟨s, p, none⟩) l.length c)).run Tryz.prog w = .ok (.string (bs l)) w := by
 rw [← zFy]
 refine run_convert_bytes_arg w src e hs he s p l.length c _ (by simp) (fun i hi => ?_) dst hd
 rw [hL.at_ i hi]
 simp [List.getD_eq_getElem?_getD, List.getElem?_eq_getElem hi]
def zMc (w : World) (g s : Nat) (v : Value) (l : List UInt8) : Prop :=
 (v = .slice none 0 0 ∧ l = []) ∨ ∃ p c, v = .slice (some ⟨s, p, none⟩) l.length c ∧ l.length ≤ c ∧ s ≠ g ∧ s < w.heap.size ∧ Lies w s p l
def zMx (g o s : Nat) (r : Option (List UInt8)) (w : World) (e : Ending) (w' : World) : Prop :=
 ∃ v, e = .returned v ∧ zMc w' g s v (cB r).1 ∧ RBuf w' g o s (cB r).2 ∧ UpdR g o w w'
theorem zDa (g o s : Nat) (r : Option (List UInt8)) (w : World) (hb : RBuf w g o s r) :
  Calls Tryz.prog 80 #[.pointer (some ⟨g, o, none⟩)] w (zMx g o s r w) := by
 have hC := zC3 g o s r w hb
 have hx := zDC r
 have hD : cB r = match c32 r with
  | (x, some l) => if x ≤ (l.length : Int) then (l.take x.toNat, some (l.drop x.toNat)) else ([], none)
  | (_, none) => ([], none) := rfl
 unfold zMx
 rw [hD]
 clear hD hb
 generalize c32 r = q at hC hx ⊢
 obtain ⟨x, r1⟩ := q
 dsimp only at hC
 have HC := Lib.hid hC
 clear hC
 dsimp only at hx
 cases r1 with
 | none =>
  go_enter Tryz.func80, Tryz.ntmps80
  go_wp2_with fail
  refine HC.out.mono ?_
  rintro e w1 ⟨rfl, hb1, hu1⟩
  obtain ⟨p, n, c, off, h0, h1, hsg, hon, hnc, hn, t, v, h2⟩ := hb1.ex
  have HB := Lib.hid hb1
  have HU := Lib.hid hu1
  clear hb1 hu1
  go_wp2_with fail
  go_ret
  exact ⟨_, rfl, .inl ⟨rfl, rfl⟩, HB.out, HU.out⟩
 | some l =>
  by_cases hlen : x ≤ (l.length : Int)
  ·simp only [hlen, if_true]
   obtain ⟨x0, x1⟩ := hx
   obtain ⟨m, rfl⟩ := Int.eq_ofNat_of_zero_le x0
   rw [Int.toNat_natCast]
   go_enter Tryz.func80, Tryz.ntmps80
   go_wp2_with fail
   refine HC.out.mono ?_
   rintro e w1 ⟨rfl, hb1, hu1⟩
   obtain ⟨p, n, c, off, h0, h1, hsg, hon, hnc, hn, h2, hl, hL⟩ := hb1.ex
   have l1 : ¬ ((n : Int) - (off : Int) < (m : Int)) := by omega
   have l3 : (off : Int) ≤ (n : Int) := by omega
   have l4 : off + m ≤ n := by omega
   have f1 := hb1.frz (o + 1)
   have f2 := hb1.frz (o + 2)
   have HB := Lib.hid hb1
   have HU := Lib.hid hu1
   have HL := Lib.hid hl
   clear hb1 hu1 hl
   go_wp2_with fail
   refine (zGx g o s p n c off _ h0 h1 hon hn).mono ?_
   rintro e W ⟨rfl, k, hW⟩
   have hu : UpdR g o w W := by rw [hW]; exact HU.out.drewN k
   replace hsg : s ≠ g ∧ s < W.heap.size := by rw [hW]; exact hsg
   replace h0 : W.cell? ⟨g, o, none⟩ = some (.slice (some ⟨s, p, none⟩) n c) := by rw [hW]; exact h0
   replace h1 : W.cell? ⟨g, o + 1, none⟩ = some (.int .i64 ((off : Nat) : Int)) := by rw [hW]; exact h1
   replace h2 : W.cell? ⟨g, o + 2, none⟩ = some .nilIface := by rw [hW]; exact h2
   replace f1 : W.frozen? ⟨g, o + 1, none⟩ = false := by rw [hW]; exact f1
   replace f2 : W.frozen? ⟨g, o + 2, none⟩ = false := by rw [hW]; exact f2
   have hfr : ∀ i, W.frozen? ⟨g, i, none⟩ = false := by rw [hW]; exact HB.out.frz
   have hLW : Lies W s (p + off) l := by rw [hW]; exact hL
   have HUW := Lib.hid hu
   have HF := Lib.hid hfr
   have HLW := Lib.hid hLW
   clear hW hu hfr hLW hL
   go_wp2_with fail
   by_cases hcap : c = off
   ·obtain rfl : m = 0 := by have := HL.out; omega
    obtain rfl : n = off := by omega
    subst hcap
    go_quiet (fail)
    go_wp2_with fail
    go_ret
    have hm := RBuf.adv (w := W.drewN nq) (k := 0) h0 h1 h2 hsg HL.out hnc hn HLW.out HF.out (by omega) (v := .int .i64 ((c : Int))) rfl
    refine ⟨_, rfl, .inr ⟨p, 0, ?_, by simp, hsg.1, by simpa [World.setCell] using hsg.2, ?_⟩, hm.1, HUW.out.trans ((UpdR.refl _ _ _).drewN nq |>.trans hm.2)⟩
    ·simp
    ·intro j b hj
     simp at hj
   ·go_quiet (fail)
    go_wp2_with fail
    all_goals
     go_ret
     have hm := RBuf.adv (w := W.drewN nq) (k := m) h0 h1 h2 hsg HL.out hnc hn HLW.out HF.out (by omega) (v := .int .i64 ((off : Int) + (m : Int))) (by rw [Int.natCast_add])
     have fin : ∀ C, m ≤ C → ∃ v, Ending.returned (Value.slice (some ⟨s, p + off, none⟩) m C) = .returned v ∧ zMc ((W.drewN nq).setCell ⟨g, o + 1, none⟩ (.int .i64 ((off : Int) + (m : Int)))) g s v (l.take m) ∧ RBuf ((W.drewN nq).setCell ⟨g, o + 1, none⟩ (.int .i64 ((off : Int) + (m : Int)))) g o s (some (l.drop m)) ∧ UpdR g o w ((W.drewN nq).setCell ⟨g, o + 1, none⟩ (.int .i64 ((off : Int) + (m : Int)))) := fun C hC =>
      have e : (l.take m).length = m := by simp; omega
      ⟨_, rfl, .inr ⟨p + off, C, by rw [e], by rw [e]; exact hC, hsg.1, by simpa [World.setCell] using hsg.2, (HLW.out.take m).kept (Below.heap_setCell _ _ _ _ hsg.1)⟩, hm.1, HUW.out.trans ((UpdR.refl _ _ _).drewN nq |>.trans hm.2)⟩
     first
      | exact fin m (Nat.le_refl _)
      | (have e : n - off = m := by omega
         obtain ⟨v, hv, rest⟩ := fin (c - off) (by omega)
         exact ⟨v, by rw [← hv]; exact congrArg (fun z => Ending.returned (Value.slice (some ⟨s, p + off, none⟩) z (c - off))) e, rest⟩)
  ·simp only [hlen, if_false]
   go_enter Tryz.func80, Tryz.ntmps80
   go_wp2_with fail
   refine HC.out.mono ?_
   rintro e w1 ⟨rfl, hb1, hu1⟩
   obtain ⟨p, n, c, off, h0, h1, hsg, hon, hnc, hn, h2, hl, hL⟩ := hb1.ex
   have l1 : (n : Int) - (off : Int) < x := by omega
   have f1 := hb1.frz (o + 1)
   have f2 := hb1.frz (o + 2)
   have HB := Lib.hid hb1
   have HU := Lib.hid hu1
   clear hb1 hu1 hl hL
   go_wp2_with fail
   refine (zGx g o s p n c off _ h0 h1 hon hn).mono ?_
   rintro e W ⟨rfl, k, hW⟩
   have hu : UpdR g o w W := by rw [hW]; exact HU.out.drewN k
   replace hsg : s ≠ g ∧ s < W.heap.size := by rw [hW]; exact hsg
   replace h0 : W.cell? ⟨g, o, none⟩ = some (.slice (some ⟨s, p, none⟩) n c) := by rw [hW]; exact h0
   replace h1 : W.cell? ⟨g, o + 1, none⟩ = some (.int .i64 ((off : Nat) : Int)) := by rw [hW]; exact h1
   replace h2 : W.cell? ⟨g, o + 2, none⟩ = some .nilIface := by rw [hW]; exact h2
   replace f1 : W.frozen? ⟨g, o + 1, none⟩ = false := by rw [hW]; exact f1
   replace f2 : W.frozen? ⟨g, o + 2, none⟩ = false := by rw [hW]; exact f2
   have hfr : ∀ i, W.frozen? ⟨g, i, none⟩ = false := by rw [hW]; exact HB.out.frz
   have HUW := Lib.hid hu
   have HF := Lib.hid hfr
   clear hW hu hfr
   go_wp2_with fail
   refine (zC2 _).mono ?_
   rintro e w2 ⟨t, v, rfl, hb2⟩
   have hm := RBuf.fail (w := W) (w1 := w2) (t := t) (v := v) h0 h1 h2 hsg hnc hn HF.out hb2
   have hgl : g < W.heap.size := World.block_lt_of_cell? W _ h0
   have q2 : w2.cell? ⟨g, o + 2, none⟩ = some .nilIface := by
    rw [hb2.cell (by simpa [World.setCell] using hgl), zAz (zBn (by omega))]; exact h2
   have fq : w2.frozen? ⟨g, o + 2, none⟩ = false := by
    rw [hb2.frozen (by simpa [World.setCell] using hgl), zCc]; exact f2
   have HM := Lib.hid hm
   clear hm hb2
   go_wp2_with fail
   go_ret
   exact ⟨_, rfl, .inl ⟨rfl, rfl⟩, HM.out.1, HUW.out.trans HM.out.2⟩
theorem zDS (g o s : Nat) (r : Option (List UInt8)) (w : World) (hb : RBuf w g o s r) :
  Calls Tryz.prog 78 #[.pointer (some ⟨g, o, none⟩)] w fun e w' => e = .returned (.string (bs (cB r).1)) ∧ RBuf w' g o s (cB r).2 ∧ UpdR g o w w' := by
 go_enter Tryz.func78, Tryz.ntmps78
 go_wp2_with fail
 refine (zDa g o s r _ hb).mono ?_
 rintro e w1 ⟨v, rfl, hv, hb1, hu1⟩
 have HB := Lib.hid hb1
 have HU := Lib.hid hu1
 clear hb1 hu1
 rcases hv with ⟨rfl, hl⟩ | ⟨p, c, rfl, hlc, hsg, hss, hL⟩
 ·have kc := fun W => run_convert_bytes_nil (P := Tryz.prog) W 56 5 Tryz.underlying56 Tryz.underlying5 0 0 9 Tryz.underlying9
  have HL := Lib.hid hl
  clear hl
  go_wp2_with fail
  go_ret
  exact ⟨by rw [HL.out]; rfl, HB.out, HU.out⟩
 ·have kc := zCL w1 s p c _ hL 56 9 5 Tryz.underlying56 Tryz.underlying5 Tryz.underlying9
  clear hL hss hlc
  go_wp2_with fail
  go_ret
  exact ⟨rfl, HB.out, HU.out⟩
theorem zIF (g o s : Nat) (l : List UInt8) (w : World) (hb : RBuf w g o s (some l)) :
  Calls Tryz.prog 51 #[.pointer (some ⟨g, o, none⟩)] w fun e w' => ∃ p c, e = .returned (.slice (some ⟨s, p, none⟩) l.length c) ∧ l.length ≤ c ∧ s ≠ g ∧ s < w'.heap.size ∧ Lies w' s p l ∧ ∃ k, w' = w.drewN k := by
 obtain ⟨p, n, c, off, h0, h1, hsg, hon, hnc, hn, h2, hl, hL⟩ := hb.ex
 have HL := Lib.hid hL
 have HE := Lib.hid hl
 have l3 : (off : Int) ≤ (n : Int) := by omega
 clear hb hL hl
 by_cases hcap : c = off
 ·obtain rfl : n = off := by omega
  subst hcap
  have hl0 : l = [] := List.eq_nil_of_length_eq_zero (by have := HE.out; omega)
  subst hl0
  go_enter Tryz.func51, Tryz.ntmps51
  go_wp2_with fail
  go_quiet (fail)
  go_wp2_with fail
  go_ret
  exact ⟨p, 0, by simp, by simp, hsg.1, hsg.2, fun j b hj => by simp at hj, _, rfl⟩
 ·go_enter Tryz.func51, Tryz.ntmps51
  go_wp2_with fail
  go_quiet (fail)
  go_wp2_with fail
  go_ret
  have e : n - off = l.length := by have := HE.out; omega
  exact ⟨p + off, c - off, congrArg (fun z => Ending.returned (Value.slice (some ⟨s, p + off, none⟩) z (c - off))) e, by omega, hsg.1, hsg.2, HL.out, _, rfl⟩
def zGz (r : Option (List UInt8)) (v : Value) : Prop := match r with | some _ => v = .nilIface | none => ∃ t u, v = .iface t u
theorem RBuf.err {w : World} {g o s : Nat} {r : Option (List UInt8)} (h : RBuf w g o s r) : ∃ v, w.cell? ⟨g, o + 2, none⟩ = some v ∧ zGz r v := by
 obtain ⟨p, n, c, off, h0, h1, hsg, hon, hnc, hn, hr⟩ := h.ex
 cases r with
 | some l => exact ⟨_, hr.1, rfl⟩
 | none =>
  obtain ⟨t, u, h2⟩ := hr
  exact ⟨_, h2, t, u, rfl⟩
structure UpdB (ks : Nat → Prop) (w w' : World) : Prop where
 os : w'.os = w.os
 tape : w'.tape = w.tape
 output : w'.output = w.output
 size : w.heap.size ≤ w'.heap.size
 block : ∀ k, k < w.heap.size → ¬ ks k → w'.heap[k]? = w.heap[k]?
theorem UpdB.trans {ks : Nat → Prop} {w w1 w2 : World} (h1 : UpdB ks w w1) (h2 : UpdB ks w1 w2) : UpdB ks w w2 :=
 ⟨h2.os.trans h1.os, h2.tape.trans h1.tape, h2.output.trans h1.output, Nat.le_trans h1.size h2.size, fun k hk e => (h2.block k (by have := h1.size; omega) e).trans (h1.block k hk e)⟩
theorem UpdB.refl (ks : Nat → Prop) (w : World) : UpdB ks w w := ⟨rfl, rfl, rfl, Nat.le_refl _, fun _ _ _ => rfl⟩
theorem UpdR.updB {g o : Nat} {w w1 : World} (h : UpdR g o w w1) {ks : Nat → Prop} (hg : ks g) : UpdB ks w w1 := ⟨h.os, h.tape, h.output, h.size, fun k hk e => h.block k hk (fun e2 => e (e2 ▸ hg))⟩
theorem UpdB.setCell {ks : Nat → Prop} {w w1 : World} (h : UpdB ks w w1) {a : Addr} (ha : ks a.block) (v : Value) : UpdB ks w (w1.setCell a v) :=
 h.trans ⟨rfl, rfl, rfl, by simp [World.setCell], fun k _ e => Below.heap_setCell _ _ _ _ (fun e2 => e (e2 ▸ ha))⟩
theorem UpdB.below {ks : Nat → Prop} {w w1 : World} (h : UpdB ks w w1) {B : Nat} (hB : B ≤ w.heap.size) (hk : ∀ k, ks k → B ≤ k) : Below B w w1 := ⟨h.os, h.tape, h.output, h.size, fun k hk' => h.block k (by omega) (fun e => by have := hk k e; omega)⟩
theorem UpdB.mono {ks ks' : Nat → Prop} {w w1 : World} (h : UpdB ks w w1) (hk : ∀ k, ks k → ks' k) : UpdB ks' w w1 := ⟨h.os, h.tape, h.output, h.size, fun k hk' e => h.block k hk' (fun e2 => e (hk k e2))⟩
theorem cell_kept {w w1 : World} {q i : Nat} (h : w1.heap[q]? = w.heap[q]?) : w1.cell? ⟨q, i, none⟩ = w.cell? ⟨q, i, none⟩ := World.cell?_of_block (w := w) h
theorem RBuf.kept {w w1 : World} {g o s : Nat} {r : Option (List UInt8)} (h : RBuf w g o s r) (hg : w1.heap[g]? = w.heap[g]?) (hs : w1.heap[s]? = w.heap[s]?) (hz : w.heap.size ≤ w1.heap.size) : RBuf w1 g o s r := by
 obtain ⟨p, n, c, off, h0, h1, hsg, hon, hnc, hn, hr⟩ := h.ex
 refine ⟨⟨p, n, c, off, by rw [cell_kept hg]; exact h0, by rw [cell_kept hg]; exact h1, ⟨hsg.1, by omega⟩, hon, hnc, hn, ?_⟩, fun i => by rw [World.frozen?_of_block (w := w) hg]; exact h.frz i⟩
 cases r with
 | some l => exact ⟨by rw [cell_kept hg]; exact hr.1, hr.2.1, hr.2.2.kept hs⟩
 | none =>
  obtain ⟨t, v, h2⟩ := hr
  exact ⟨t, v, by rw [cell_kept hg]; exact h2⟩
theorem RBuf.lt {w : World} {g o s : Nat} {r : Option (List UInt8)} (h : RBuf w g o s r) : g < w.heap.size ∧ s < w.heap.size := by
 obtain ⟨p, n, c, off, h0, h1, hsg, _⟩ := h.ex
 exact ⟨World.block_lt_of_cell? w _ h0, hsg.2⟩
def Unm (q : Nat) (t : TypeId) (g o s : Nat) (cs : Array Value) (r : Option (List UInt8)) (w : World) (e : Ending) (w' : World) : Prop :=
 ∃ v, e = .returned v ∧ zGz r v ∧ w'.heap[q]? = some (.cells cs t (0, 0)) ∧ RBuf w' g o s r ∧ UpdB (fun k => k = g ∨ k = q) w w'
theorem zKn (q g o s : Nat) (v0 : Value) (r : Option (List UInt8)) (w : World) (hq : w.heap[q]? = some (.cells #[v0] 122 (0, 0))) (hqg : q ≠ g) (hqs : q ≠ s) (hb : RBuf w g o s r) :
  Calls Tryz.prog 121 #[.pointer (some ⟨q, 0, none⟩), .pointer (some ⟨g, o, none⟩)] w (Unm q 122 g o s #[.string (bs (cB r).1)] (cB r).2 w) := by
 have hlt := hb.lt
 have hql := zAC hq
 have HQ := Lib.hid hq
 clear hq
 go_enter Tryz.func121, Tryz.ntmps121
 go_wp2_with fail
 refine (zDS g o s r _ hb).mono ?_
 rintro e w1 ⟨rfl, hb1, hu1⟩
 have hq1 : w1.heap[q]? = some (.cells #[v0] 122 (0, 0)) := by rw [hu1.block q hql hqg]; exact HQ.out
 have cq : w1.cell? ⟨q, 0, none⟩ = some v0 := by rw [zAA hq1]; rfl
 have fq : w1.frozen? ⟨q, 0, none⟩ = false := zAP hq1 0
 generalize hW : w1.setCell ⟨q, 0, none⟩ (.string (bs (cB r).1)) = W
 have hbW : RBuf W g o s (cB r).2 := by
  rw [← hW]
  exact hb1.kept (Below.heap_setCell _ _ _ _ (Ne.symm hqg)) (Below.heap_setCell _ _ _ _ (Ne.symm hqs)) (by simp [World.setCell])
 obtain ⟨v, cv, hv⟩ := hbW.err
 have hqW : W.heap[q]? = some (.cells #[.string (bs (cB r).1)] 122 (0, 0)) := by rw [← hW]; exact zAT hq1 _
 have hfin : UpdB (fun k => k = g ∨ k = q) w W := by rw [← hW]; exact (hu1.updB (.inl rfl)).setCell (.inr rfl) _
 have HB := Lib.hid hbW
 have HQW := Lib.hid hqW
 have HF := Lib.hid hfin
 have HV := Lib.hid hv
 clear hbW hqW hfin hv hb1 hu1 hq1
 go_wp2_with fail
 go_ret
 exact ⟨v, rfl, HV.out, HQW.out, HB.out, HF.out⟩
section
variable {P : Program} {ops : Array Oper} {rest : List Oper} {o : Oper} {a : Act} {Q : Exit → Act → World → Prop}
theorem zHA {w : World} (hgd : o.guard = none) (d s : Operand) (t t' : TypeId)
  (ho : o.op = .call { callee := .builtin .copy, args := #[d, s], argTypes := #[t, t'] }) (v u : Value) (hd : a.eval d = v) (hs : a.eval s = u) {v' : Value} {w' : World}
  (hr : (Builtin.copy_ #[t, t'] o.type #[v, u]).run P w = .ok v' w') (h : Hid (wpList P ops Q rest (a.put o.dst v') w')) : wpList P ops Q (o :: rest) a w := by
 refine wpList_plain hgd fun K hK => ?_
 unfold Oper.wp execOp
 simp only [ho, resolve, invoke, builtin, Sem.run_bind, Sem.run_pure, Result.andThen_ok, List.map_toArray, List.map_cons, List.map_nil, hd, hs, hr]
 exact hK _ _ h.out
end
def Rd (w : World) (rr s : Nat) (L : List UInt8) : Prop :=
 ∃ p c, w.heap[rr]? = some (.cells #[.slice (some ⟨s, p, none⟩) L.length c] 76 (0, 0)) ∧ L.length ≤ c ∧ Lies w s p L ∧ s < w.heap.size
theorem zCn : (Tryz.prog.info? 5).map (·.size) = some 1 := by kernel_rfl
theorem zCo (rr s h m cap : Nat) (L : List UInt8) (cur : List Value) (w : World) (hr : Rd w rr s L) (hm : m ≤ L.length) (hm0 : 0 < m) (hL : L.length ≤ 1000000000) (hmb : m ≤ 5000000000) (hh : w.heap[h]? = some (.cells cur.toArray 5 (0, 0))) (hcur : m ≤ cur.length) (hrh : rr ≠ h) (hsh : s ≠ h) (hrs : rr ≠ s) :
  Calls Tryz.prog 71 #[.pointer (some ⟨rr, 0, none⟩), .slice (some ⟨h, 0, none⟩) m cap] w fun e w' => e = .returned (.tuple #[.int .i64 (m : Int), .nilIface]) ∧ w'.heap[h]? = some (.cells (u8s (L.take m) ++ cur.drop m).toArray 5 (0, 0)) ∧ Rd w' rr s (L.drop m) ∧ UpdB (fun k => k = rr ∨ k = h) w w' ∧ w'.heap.size = w.heap.size := by
 obtain ⟨p, c, hb, hc, hLies, hs⟩ := hr
 have c0 : w.cell? ⟨rr, 0, none⟩ = some (.slice (some ⟨s, p, none⟩) L.length c) := by rw [zAA hb]; rfl
 have HB := Lib.hid hb
 have HL := Lib.hid hLies
 clear hb hLies
 have hsrc : ∀ j v, (u8s (L.take m))[j]? = some v → w.cell? ((⟨s, p, none⟩ : Addr).add j) = some v := by
  intro j v hj
  obtain ⟨b, hb, rfl⟩ := Option.map_eq_some_iff.1 ((by unfold u8s at hj; rwa [List.getElem?_map] at hj) : (L.take m)[j]?.map u8 = some v)
  rw [add_plain]
  exact (HL.out.take m) j b hb
 have hone : ∀ v ∈ u8s (L.take m), v.oneCell' = true := by
  intro v hv
  simp only [u8s, List.mem_map] at hv
  obtain ⟨b, _, rfl⟩ := hv
  rfl
 have he : (u8s (L.take m)).length = m := by rw [zBC, List.length_take]; omega
 have hr := run_copy_row (P := Tryz.prog) w 56 56 3 5 h 0 m cap ⟨s, p, none⟩ L.length c cur.toArray 5 (u8s (L.take m)) Tryz.underlying56 zCn hh (by rw [he]; show m = min L.length m; omega) hsrc (by rw [he]; simp; omega) hone
 rw [he] at hr
 have z1 : (w.setRow h (cur.toArray.toList.take 0 ++ u8s (L.take m) ++ cur.toArray.toList.drop (0 + m)).toArray).heap[h]? = some (.cells (u8s (L.take m) ++ cur.drop m).toArray 5 (0, 0)) := by rw [setRow_heap w h _ _ _ _ hh]; simp
 have z2 := fun k (hk : k ≠ h) => setRow_other w h k (cur.toArray.toList.take 0 ++ u8s (L.take m) ++ cur.toArray.toList.drop (0 + m)).toArray hk
 have z3 := setRow_size w h (cur.toArray.toList.take 0 ++ u8s (L.take m) ++ cur.toArray.toList.drop (0 + m)).toArray
 have z4 : UpdB (fun k => k = rr ∨ k = h) w (w.setRow h (cur.toArray.toList.take 0 ++ u8s (L.take m) ++ cur.toArray.toList.drop (0 + m)).toArray) := ⟨rfl, rfl, rfl, by rw [z3]; omega, fun k _ e => z2 k (fun e2 => e (.inr e2))⟩
 generalize w.setRow h (cur.toArray.toList.take 0 ++ u8s (L.take m) ++ cur.toArray.toList.drop (0 + m)).toArray = w1 at hr z1 z2 z3 z4
 have k1 : w1.heap[rr]? = some (.cells #[.slice (some ⟨s, p, none⟩) L.length c] 76 (0, 0)) := by rw [z2 rr hrh]; exact HB.out
 have c1 : w1.cell? ⟨rr, 0, none⟩ = some (.slice (some ⟨s, p, none⟩) L.length c) := by rw [zAA k1]; rfl
 have f1 : w1.frozen? ⟨rr, 0, none⟩ = false := zAP k1 0
 have l1 : Lies w1 s p L := HL.out.kept (z2 s hsh)
 have i1 : (m : Int) ≤ (L.length : Int) := by omega
 have Z1 := Lib.hid z1
 have Z2 := Lib.hid z2
 have Z3 := Lib.hid z3
 have Z4 := Lib.hid z4
 have K1 := Lib.hid k1
 have L1 := Lib.hid l1
 have fin : ∀ (p' c' : Nat), L.length - m ≤ c' → Lies w1 s p' (L.drop m) →
   (w1.setCell ⟨rr, 0, none⟩ (.slice (some ⟨s, p', none⟩) (L.length - m) c')).heap[h]? = some (.cells (u8s (L.take m) ++ cur.drop m).toArray 5 (0, 0)) ∧ Rd (w1.setCell ⟨rr, 0, none⟩ (.slice (some ⟨s, p', none⟩) (L.length - m) c')) rr s (L.drop m) ∧ UpdB (fun k => k = rr ∨ k = h) w (w1.setCell ⟨rr, 0, none⟩ (.slice (some ⟨s, p', none⟩) (L.length - m) c')) ∧ (w1.setCell ⟨rr, 0, none⟩ (.slice (some ⟨s, p', none⟩) (L.length - m) c')).heap.size = w.heap.size := by
  intro p' c' hc' hl'
  have e : (L.drop m).length = L.length - m := List.length_drop
  refine ⟨by rw [Below.heap_setCell _ _ _ _ (Ne.symm hrh)]; exact Z1.out, ⟨p', c', ?_, by rw [e]; exact hc', hl'.kept (Below.heap_setCell _ _ _ _ (Ne.symm hrs)), by simp [World.setCell, Z3.out]; exact hs⟩, Z4.out.setCell (.inl rfl) _, by simp [World.setCell, Z3.out]⟩
  rw [e, zAT K1.out]; rfl
 have FIN := Lib.hid fin
 have HR := Lib.hid hr
 clear fin z1 z2 z3 z4 k1 l1 hsrc hone he hr
 go_enter Tryz.func71, Tryz.ntmps71
 go_wp2_with (with_reducible refine zHA rfl _ _ 56 56 rfl (.slice (some ⟨h, 0, none⟩) m cap) (.slice (some ⟨s, p, none⟩) L.length c) rfl rfl HR.out ?_)
 refine Lib.hid ?_
 clear HR
 by_cases hcap : c = m
 ·subst hcap
  have d1 : (c == c) = true := by simp
  go_wp2_with fail
  go_ret2
  have f := FIN.out p 0 (by omega) (fun j b hj => by rw [List.drop_of_length_le (by omega)] at hj; simp at hj)
  rw [show L.length - c = 0 from by omega] at f
  exact ⟨rfl, f⟩
 ·have d1 : (m == m) = true := by simp
  go_wp2_with fail
  go_ret2
  have f := FIN.out (p + m) (c - m) (by omega) (L1.out.drop m)
  exact ⟨rfl, f⟩
theorem zCM (rr s h m cap : Nat) (L : List UInt8) (cur : List Value) (w : World) (hr : Rd w rr s L) (hm : L.length < m) (hL : L.length ≤ 1000000000) (hmb : m ≤ 5000000000) (hh : w.heap[h]? = some (.cells cur.toArray 5 (0, 0))) (hcur : m ≤ cur.length) (hrh : rr ≠ h) (hsh : s ≠ h) (hrs : rr ≠ s) :
  Calls Tryz.prog 71 #[.pointer (some ⟨rr, 0, none⟩), .slice (some ⟨h, 0, none⟩) m cap] w fun e w' => (∃ n t v, e = .returned (.tuple #[.int .i64 ((n : Nat) : Int), .iface t v]) ∧ n ≤ L.length) ∧ UpdB (fun k => k = rr ∨ k = h) w w' ∧ w'.heap.size = w.heap.size := by
 obtain ⟨p, c, hb, hc, hLies, hs⟩ := hr
 have c0 : w.cell? ⟨rr, 0, none⟩ = some (.slice (some ⟨s, p, none⟩) L.length c) := by rw [zAA hb]; rfl
 have HB := Lib.hid hb
 have HL := Lib.hid hLies
 clear hb hLies
 have hsrc : ∀ j v, (u8s (L))[j]? = some v → w.cell? ((⟨s, p, none⟩ : Addr).add j) = some v := by
  intro j v hj
  obtain ⟨b, hb, rfl⟩ := Option.map_eq_some_iff.1 ((by unfold u8s at hj; rwa [List.getElem?_map] at hj) : (L)[j]?.map u8 = some v)
  rw [add_plain]
  exact (HL.out) j b hb
 have hone : ∀ v ∈ u8s (L), v.oneCell' = true := by
  intro v hv
  simp only [u8s, List.mem_map] at hv
  obtain ⟨b, _, rfl⟩ := hv
  rfl
 have he : (u8s (L)).length = L.length := zBC L
 have hr := run_copy_row (P := Tryz.prog) w 56 56 3 5 h 0 m cap ⟨s, p, none⟩ L.length c cur.toArray 5 (u8s (L)) Tryz.underlying56 zCn hh (by rw [he]; show L.length = min L.length m; omega) hsrc (by rw [he]; simp; omega) hone
 rw [he] at hr
 have z1 : (w.setRow h (cur.toArray.toList.take 0 ++ u8s (L) ++ cur.toArray.toList.drop (0 + L.length)).toArray).heap[h]? = some (.cells (u8s (L) ++ cur.drop L.length).toArray 5 (0, 0)) := by rw [setRow_heap w h _ _ _ _ hh]; simp
 have z2 := fun k (hk : k ≠ h) => setRow_other w h k (cur.toArray.toList.take 0 ++ u8s (L) ++ cur.toArray.toList.drop (0 + L.length)).toArray hk
 have z3 := setRow_size w h (cur.toArray.toList.take 0 ++ u8s (L) ++ cur.toArray.toList.drop (0 + L.length)).toArray
 have z4 : UpdB (fun k => k = rr ∨ k = h) w (w.setRow h (cur.toArray.toList.take 0 ++ u8s (L) ++ cur.toArray.toList.drop (0 + L.length)).toArray) := ⟨rfl, rfl, rfl, by rw [z3]; omega, fun k _ e => z2 k (fun e2 => e (.inr e2))⟩
 generalize w.setRow h (cur.toArray.toList.take 0 ++ u8s (L) ++ cur.toArray.toList.drop (0 + L.length)).toArray = w1 at hr z1 z2 z3 z4
 have k1 : w1.heap[rr]? = some (.cells #[.slice (some ⟨s, p, none⟩) L.length c] 76 (0, 0)) := by rw [z2 rr hrh]; exact HB.out
 have c1 : w1.cell? ⟨rr, 0, none⟩ = some (.slice (some ⟨s, p, none⟩) L.length c) := by rw [zAA k1]; rfl
 have f1 : w1.frozen? ⟨rr, 0, none⟩ = false := zAP k1 0
 have l1 : Lies w1 s p L := HL.out.kept (z2 s hsh)
 have Z3 := Lib.hid z3
 have Z4 := Lib.hid z4
 have fin : ∀ v, UpdB (fun k => k = rr ∨ k = h) w (w1.setCell ⟨rr, 0, none⟩ v) ∧ (w1.setCell ⟨rr, 0, none⟩ v).heap.size = w.heap.size := fun v => ⟨Z4.out.setCell (.inl rfl) _, by simp [World.setCell, Z3.out]⟩
 have FIN := Lib.hid fin
 have HR := Lib.hid hr
 clear fin z1 z2 z3 z4 k1 l1 hsrc hone he hr
 have d1 : ((L.length : Int) == (m : Int)) = false := beq_eq_false_iff_ne.2 (by omega)
 go_enter Tryz.func71, Tryz.ntmps71
 go_wp2_with (with_reducible refine zHA rfl _ _ 56 56 rfl (.slice (some ⟨h, 0, none⟩) m cap) (.slice (some ⟨s, p, none⟩) L.length c) rfl rfl HR.out ?_)
 refine Lib.hid ?_
 clear HR
 by_cases h0 : L.length = 0
 ·have d2 : ((L.length : Int) == 0) = true := beq_iff_eq.2 (by omega)
  by_cases hcap : c = L.length
  ·go_wp2_with fail
   go_ret2
   exact ⟨⟨0, _, _, rfl, by omega⟩, FIN.out _⟩
  ·go_wp2_with fail
   go_ret2
   exact ⟨⟨0, _, _, rfl, by omega⟩, FIN.out _⟩
 ·have d2 : ((L.length : Int) == 0) = false := beq_eq_false_iff_ne.2 (by omega)
  by_cases hcap : c = L.length
  ·go_wp2_with fail
   go_ret2
   exact ⟨⟨_, _, _, rfl, Nat.le_refl _⟩, FIN.out _⟩
  ·go_wp2_with fail
   go_ret2
   exact ⟨⟨_, _, _, rfl, Nat.le_refl _⟩, FIN.out _⟩
theorem zNk (s p n c : Nat) (l : List UInt8) (w : World) (hn : 4 ≤ n) (hn2 : n ≤ 1000000000) (hnc : n ≤ c) (hl : 4 ≤ l.length) (h : Lies w s p l) :
  Calls Tryz.prog 72 #[.slice (some ⟨s, p, none⟩) n c] w fun e w' => e = .returned (.int .u32 (zCJ l)) ∧ ∃ k, w' = w.drewN k := by
 have l1 : (4 : Int) ≤ (c : Int) := by omega
 go_enter Tryz.func72, Tryz.ntmps72
 go_wp2_with fail
 refine (zE1 s p 4 c l w (by omega) (by omega) hl h).mono ?_
 rintro e W ⟨rfl, k, hW⟩
 go_wp2_with fail
 go_ret
 exact ⟨rfl, k, rfl⟩
def zBd (M : Int) (L : List UInt8) : Option (List UInt8) :=
 if L.length < 4 then none else if zCJ L < 5 then none else if M < zCJ L then none else if (L.length : Int) - 4 < zCJ L then none else some ((L.drop 4).take (zCJ L).toNat)
def RP (w : World) (rr s : Nat) (L : List UInt8) (r : Option (List UInt8)) (e : Ending) (w' : World) : Prop :=
 UpdB (fun k => k = rr) w w' ∧ match r with
 | none => ∃ v t x, e = .returned (.tuple #[v, .iface t x])
 | some l => ∃ h c, e = .returned (.tuple #[.slice (some ⟨h, 0, none⟩) l.length c, .nilIface]) ∧ l.length ≤ c ∧ w.heap.size ≤ h ∧ h < w'.heap.size ∧ Lies w' h 0 l ∧ Rd w' rr s (L.drop (4 + l.length))
theorem Rd.kept {w w' : World} {rr s : Nat} {L : List UInt8} (h : Rd w rr s L) (h1 : w'.heap[rr]? = w.heap[rr]?) (h2 : w'.heap[s]? = w.heap[s]?) (hz : w.heap.size ≤ w'.heap.size) : Rd w' rr s L := by
 obtain ⟨p, c, hb, hc, hl, hs⟩ := h
 exact ⟨p, c, by rw [h1]; exact hb, hc, hl.kept h2, by omega⟩
theorem zIG (W : World) (m : Nat) : (W.alloc (.cells (madeCells #[.int .u8 0] m) 5)).heap[W.heap.size]? = some (.cells (List.replicate m (u8 0)).toArray 5 (0, 0)) := by
 rw [heap_alloc_new]
 have hl : (madeCells #[Value.int .u8 0] m) = (List.replicate m (u8 0)).toArray := by
  apply Array.ext
  ·simp [madeCells]
  ·intro i h1 h2
   simp [u8, madeCells, Nat.mod_one]
 rw [hl]
theorem UpdB.trans' {w w1 w2 : World} {rr h : Nat} (h1 : UpdB (fun k => k = rr) w w1) (h2 : UpdB (fun k => k = rr ∨ k = h) w1 w2) (hh : w.heap.size ≤ h) : UpdB (fun k => k = rr) w w2 :=
 ⟨h2.os.trans h1.os, h2.tape.trans h1.tape, h2.output.trans h1.output, Nat.le_trans h1.size h2.size, fun k hk e => (h2.block k (by have := h1.size; omega) (by omega)).trans (h1.block k hk e)⟩
theorem zJe (l : List UInt8) : zCJ (l.take 4) = zCJ l := by
 unfold zCJ gi
 have h : ∀ i, i < 4 → (l.take 4).getD i 0 = l.getD i 0 := fun i hi => by simp only [List.getD_eq_getElem?_getD, List.getElem?_take, hi, if_true]
 rw [h 0 (by omega), h 1 (by omega), h 2 (by omega), h 3 (by omega)]
theorem RP.none {w w' : World} {rr s : Nat} {M : Int} {L : List UInt8} {v x : Value} {t : TypeId} (hu : UpdB (fun k => k = rr) w w') (hg : zBd M L = none) : RP w rr s L (zBd M L) (.returned (.tuple #[v, .iface t x])) w' := by
 rw [hg]
 exact ⟨hu, v, t, x, rfl⟩
theorem zCd (rr s : Nat) (L : List UInt8) (M : Int) (w : World) (hr : Rd w rr s L) (hL : L.length ≤ 1000000000) (hM0 : 0 ≤ M) (hM : M ≤ 1000000000) (hrs : rr ≠ s) :
  Calls Tryz.prog 58 #[.pointer (some ⟨rr, 0, none⟩), .slice none 0 0, .int .u32 M] w (RP w rr s L (zBd M L)) := by
 have hrl : rr < w.heap.size := by obtain ⟨p, c, hb, _⟩ := hr; exact zAC hb
 have hsl : s < w.heap.size := by obtain ⟨p, c, hb, _, _, h⟩ := hr; exact h
 have hmk : (Instr.makeSlice 56 (.int .i64 64) (.int .i64 64)).run Tryz.prog w = .ok (.slice (some ⟨w.heap.size, 0, none⟩) 64 64) (w.alloc (.cells (madeCells #[.int .u8 0] 64) 5)) := zKm 64 (by omega) w
 have hblk := zIG w 64
 have hsz : (w.alloc (.cells (madeCells #[.int .u8 0] 64) 5)).heap.size = w.heap.size + 1 := by simp
 have hbl : Below w.heap.size w (w.alloc (.cells (madeCells #[.int .u8 0] 64) 5)) := (Below.refl _ _).alloc (Nat.le_refl _) _
 generalize w.alloc (.cells (madeCells #[.int .u8 0] 64) 5) = W0 at hmk hblk hsz hbl
 have hr0 : Rd W0 rr s L := hr.kept (hbl.block _ hrl) (hbl.block _ hsl) (by omega)
 generalize hh : w.heap.size = h at *
 have hrh : rr ≠ h := by omega
 have hsh : s ≠ h := by omega
 have HR0 := Lib.hid hr0
 have HB := Lib.hid hblk
 have HBL := Lib.hid hbl
 have HSZ := Lib.hid hsz
 have HH := Lib.hid hh
 clear hr0 hblk hr hbl hsz hh
 go_enter Tryz.func58, Tryz.ntmps58
 go_wp2_with fail
 by_cases hl4 : 4 ≤ L.length
 ·refine (zCo rr s h 4 64 L (List.replicate 64 (u8 0)) W0 HR0.out hl4 (by omega) hL (by omega) HB.out (by simp) hrh hsh hrs).mono ?_
  rintro e w1 ⟨rfl, hb1, hr1, hu1, hz1⟩
  have l1 : Lies w1 h 0 (L.take 4) := by
   intro j b hj
   rw [zAA hb1]
   rw [Nat.zero_add, List.getElem?_toArray, List.getElem?_append_left (by rw [zBC]; exact (List.getElem?_eq_some_iff.1 hj).1)]
   unfold u8s; rw [List.getElem?_map, hj]; rfl
  have R1 := Lib.hid hr1
  have U1 := Lib.hid hu1
  have B1 := Lib.hid hb1
  have L1 := Lib.hid l1
  clear hr1 hu1 hb1 l1
  go_wp2_with fail
  refine (zNk h 0 64 64 (L.take 4) w1 (by omega) (by omega) (by omega) (by simp; omega) L1.out).mono ?_
  rintro e w2 ⟨rfl, k2, hw2⟩
  rw [zJe]
  have hh := HH.out
  have hR2 : Rd w2 rr s (L.drop 4) := by rw [hw2]; exact R1.out.kept rfl rfl (Nat.le_refl _)
  have hB2 : w2.heap[h]? = some (.cells (u8s (L.take 4) ++ (List.replicate 64 (u8 0)).drop 4).toArray 5 (0, 0)) := by rw [hw2]; exact B1.out
  have hU2 : UpdB (fun k => k = rr) w w2 := by
   rw [hw2]
   refine ⟨?_, ?_, ?_, ?_, fun k hk e => ?_⟩
   ·rw [show (w1.drewN k2).os = w1.os from rfl, U1.out.os, HBL.out.os]
   ·rw [show (w1.drewN k2).tape = w1.tape from rfl, U1.out.tape, HBL.out.tape]
   ·rw [show (w1.drewN k2).output = w1.output from rfl, U1.out.output, HBL.out.output]
   ·rw [show (w1.drewN k2).heap.size = w1.heap.size from rfl, hz1, HSZ.out]; omega
   ·rw [show (w1.drewN k2).heap[k]? = w1.heap[k]? from rfl, U1.out.block k (by rw [HSZ.out]; omega) (by omega), HBL.out.block k (by omega)]
  have hS2 : w2.heap.size = h + 1 := by rw [hw2]; show w1.heap.size = _; rw [hz1, HSZ.out]
  clear hw2 hz1 R1 B1 L1 U1 HBL HSZ HB HR0
  have x0 := (zCK L).1
  have x1 := (zCK L).2
  have R2 := Lib.hid hR2
  have U2 := Lib.hid hU2
  have B2 := Lib.hid hB2
  have S2 := Lib.hid hS2
  clear hR2 hU2 hB2 hS2 hh
  by_cases h5 : zCJ L < 5
  ·have G := Lib.hid (show zBd M L = none by simp [zBd, h5])
   have h5' := Lib.hid h5
   generalize zCJ L = x at *
   have hx0 : ¬ x < 0 := by omega
   go_wp2_with (first
    | (go_at_call 74; refine (zC2 _).mono ?_; rintro e W ⟨t, v, rfl, hW⟩)
    | (go_at_call 73; refine (zJJ _).mono ?_; rintro e W ⟨t, v, rfl, hW⟩))
   go_ret2
   exact RP.none (U2.out.trans ⟨hW.os, hW.tape, hW.output, hW.size, fun k hk _ => hW.block k hk⟩) G.out
  ·by_cases hMx : M < zCJ L
   ·have G := Lib.hid (show zBd M L = none by simp [zBd, hMx])
    generalize zCJ L = x at *
    go_wp2_with (first
     | (go_at_call 74; refine (zC2 _).mono ?_; rintro e W ⟨t, v, rfl, hW⟩)
     | (go_at_call 73; refine (zJJ _).mono ?_; rintro e W ⟨t, v, rfl, hW⟩))
    go_ret2
    exact RP.none (U2.out.trans ⟨hW.os, hW.tape, hW.output, hW.size, fun k hk _ => hW.block k hk⟩) G.out
   ·obtain ⟨m, hm⟩ := Int.eq_ofNat_of_zero_le x0
    have G0 : ¬ (L.length < 4) := by omega
    have G := Lib.hid (show zBd M L = if (L.length : Int) - 4 < (m : Int) then none else some ((L.drop 4).take m) by simp only [zBd, G0, if_false, h5, hMx]; rw [hm]; rfl)
    clear G0
    rw [hm] at h5 hMx x1 ⊢
    clear hm x0
    by_cases h64 : 64 < m
    ·have hmk2 : (Instr.makeSlice 56 (.int .u32 (m : Int)) (.int .u32 (m : Int))).run Tryz.prog w2 = .ok (.slice (some ⟨w2.heap.size, 0, none⟩) m m) (w2.alloc (.cells (madeCells #[.int .u8 0] m) 5)) :=
      run_make_row' 56 5 (.int .u8 0) 1 Tryz.underlying56 zBt rfl .u32 .u32 m (by omega) (by omega) w2
     have hblk := zIG w2 m
     have hsz : (w2.alloc (.cells (madeCells #[.int .u8 0] m) 5)).heap.size = h + 1 + 1 := by rw [← S2.out]; simp
     have hbl : Below w2.heap.size w2 (w2.alloc (.cells (madeCells #[.int .u8 0] m) 5)) := (Below.refl _ _).alloc (Nat.le_refl _) _
     rw [S2.out] at hmk2 hblk
     generalize w2.alloc (.cells (madeCells #[.int .u8 0] m) 5) = W3 at hmk2 hblk hsz hbl
     have hr3 : Rd W3 rr s (L.drop 4) := R2.out.kept (hbl.block _ (by rw [S2.out]; have := HH.out; omega)) (hbl.block _ (by rw [S2.out]; have := HH.out; omega)) (by rw [S2.out]; omega)
     have hu3 : UpdB (fun k => k = rr) w W3 := U2.out.trans ⟨hbl.os, hbl.tape, hbl.output, hbl.size, fun k hk _ => hbl.block k hk⟩
     have R3 := Lib.hid hr3
     have U3 := Lib.hid hu3
     have B3 := Lib.hid hblk
     have S3 := Lib.hid hsz
     clear hr3 hu3 hblk hsz hbl
     go_wp2_with fail
     by_cases hlm : m ≤ (L.drop 4).length
     ·refine (zCo rr s (h + 1) m m (L.drop 4) (List.replicate m (u8 0)) W3 R3.out hlm (by omega) (by simp; omega) (by omega) B3.out (by simp) (by omega) (by omega) hrs).mono ?_
      rintro e w3 ⟨rfl, hb3, hR3, hu3, hz3⟩
      have E := Lib.hid (show RP w rr s L (zBd M L) (.returned (.tuple #[.slice (some ⟨(h + 1), 0, none⟩) m m, .nilIface])) w3 by
       rw [G.out, if_neg (by simp at hlm; omega)]
       have hh := HH.out
       have e1 : ((L.drop 4).take m).length = m := by rw [List.length_take]; omega
       refine ⟨U3.out.trans' hu3 (by omega), (h + 1), m, by rw [e1], by rw [e1]; omega, by omega, by rw [hz3, S3.out]; omega, ?_, by rw [e1, ← List.drop_drop]; exact hR3⟩
       intro j b hj
       rw [zAA hb3]
       rw [Nat.zero_add, List.getElem?_toArray, List.getElem?_append_left (by rw [zBC]; exact (List.getElem?_eq_some_iff.1 hj).1)]
       unfold u8s; rw [List.getElem?_map, hj]; rfl)
      clear hb3 hu3 hz3 hR3
      go_wp2_with fail
      go_ret2
      exact E.out
     ·refine (zCM rr s (h + 1) m m (L.drop 4) (List.replicate m (u8 0)) W3 R3.out (by omega) (by simp; omega) (by omega) B3.out (by simp) (by omega) (by omega) hrs).mono ?_
      rintro e w3 ⟨⟨n, t, v, rfl, hn⟩, hu3, hz3⟩
      have E := Lib.hid (show ∀ u, RP w rr s L (zBd M L) (.returned (.tuple #[u, .iface t v])) w3 from fun u => by
       have hh := HH.out
       exact RP.none (U3.out.trans' hu3 (by omega)) (by rw [G.out, if_pos (by simp at hlm; omega)]))
      clear hu3 hz3
      have i2 : (n : Int) ≤ (m : Int) := by omega
      go_wp2_with fail
      go_ret2
      exact E.out _
    ·have i1 : (m : Int) ≤ 64 := by omega
     go_wp2_with fail
     by_cases hlm : m ≤ (L.drop 4).length
     ·refine (zCo rr s h m 64 (L.drop 4) (u8s (L.take 4) ++ (List.replicate 64 (u8 0)).drop 4) w2 R2.out hlm (by omega) (by simp; omega) (by omega) B2.out (by simp [zBC]; omega) (by omega) (by omega) hrs).mono ?_
      rintro e w3 ⟨rfl, hb3, hR3, hu3, hz3⟩
      have E := Lib.hid (show RP w rr s L (zBd M L) (.returned (.tuple #[.slice (some ⟨h, 0, none⟩) m 64, .nilIface])) w3 by
       rw [G.out, if_neg (by simp at hlm; omega)]
       have hh := HH.out
       have e1 : ((L.drop 4).take m).length = m := by rw [List.length_take]; omega
       refine ⟨U2.out.trans' hu3 (by omega), h, 64, by rw [e1], by rw [e1]; omega, by omega, by rw [hz3, S2.out]; omega, ?_, by rw [e1, ← List.drop_drop]; exact hR3⟩
       intro j b hj
       rw [zAA hb3]
       rw [Nat.zero_add, List.getElem?_toArray, List.getElem?_append_left (by rw [zBC]; exact (List.getElem?_eq_some_iff.1 hj).1)]
       unfold u8s; rw [List.getElem?_map, hj]; rfl)
      clear hb3 hu3 hz3 hR3
      go_wp2_with fail
      go_ret2
      exact E.out
     ·refine (zCM rr s h m 64 (L.drop 4) (u8s (L.take 4) ++ (List.replicate 64 (u8 0)).drop 4) w2 R2.out (by omega) (by simp; omega) (by omega) B2.out (by simp [zBC]; omega) (by omega) (by omega) hrs).mono ?_
      rintro e w3 ⟨⟨n, t, v, rfl, hn⟩, hu3, hz3⟩
      have E := Lib.hid (show ∀ u, RP w rr s L (zBd M L) (.returned (.tuple #[u, .iface t v])) w3 from fun u => by
       have hh := HH.out
       exact RP.none (U2.out.trans' hu3 (by omega)) (by rw [G.out, if_pos (by simp at hlm; omega)]))
      clear hu3 hz3
      have i2 : (n : Int) ≤ (64 : Int) := by omega
      go_wp2_with fail
      go_ret2
      exact E.out _
 ·refine (zCM rr s h 4 64 L (List.replicate 64 (u8 0)) W0 HR0.out (by omega) hL (by omega) HB.out (by simp) hrh hsh hrs).mono ?_
  rintro e w1 ⟨⟨n, t, v, rfl, hn⟩, hu1, hz1⟩
  have hh := HH.out
  have U2 : UpdB (fun k => k = rr) w w1 := by
   refine ⟨?_, ?_, ?_, ?_, fun k hk e => ?_⟩
   ·rw [hu1.os, HBL.out.os]
   ·rw [hu1.tape, HBL.out.tape]
   ·rw [hu1.output, HBL.out.output]
   ·rw [hz1, HSZ.out]; omega
   ·rw [hu1.block k (by rw [HSZ.out]; omega) (by omega), HBL.out.block k (by omega)]
  have G := Lib.hid (show zBd M L = none by simp [zBd]; omega)
  clear hu1 hz1 HBL HSZ HB HR0 hh
  go_wp2_with fail
  go_ret2
  exact RP.none U2 G.out
theorem zHB (w : World) :
  Calls Tryz.prog 76 #[.int .u8 4] w fun e w' => e = .returned (.tuple #[.iface 120 (.pointer (some ⟨w.heap.size, 0, none⟩)), .nilIface]) ∧ w.alloc (.cells #[.string ⟨#[]⟩] 122) = w' := by
 go_enter Tryz.func76, Tryz.ntmps76
 go_wp2
 go_ret2
 exact ⟨rfl, rfl⟩
def Req (q : Nat) (tp t : TypeId) (id : Int) (cs : Array Value) (r : Option (List UInt8)) (g : Nat) (w : World) (e : Ending) (w' : World) : Prop :=
 ∃ v b, e = .returned v ∧ zGz r v ∧ w'.heap[q]? = some (.cells #[.int .u32 id, .iface tp (.pointer (some ⟨b, 0, none⟩))] 79 (0, 0)) ∧ w'.heap[b]? = some (.cells cs t (0, 0)) ∧ w.heap.size ≤ b ∧ UpdB (fun k => k = g ∨ k = q) w w'
theorem zKo (q g o s : Nat) (u0 u1 : Value) (l : List UInt8) (w : World) (hq : w.heap[q]? = some (.cells #[u0, u1] 79 (0, 0))) (hqg : q ≠ g) (hqs : q ≠ s) (hb : RBuf w g o s (some (4 :: l))) :
  Calls Tryz.prog 59 #[.pointer (some ⟨q, 0, none⟩), .pointer (some ⟨g, o, none⟩)] w (Req q 120 122 (c32 (some l)).1 #[.string (bs (cB (c32 (some l)).2).1)] (cB (c32 (some l)).2).2 g w) := by
 have hlt := hb.lt
 have hql := zAC hq
 have HQ := Lib.hid hq
 clear hq
 go_enter Tryz.func59, Tryz.ntmps59
 go_wp2_with fail
 refine (zE7 g o s _ _ hb).mono ?_
 rintro e w1 ⟨rfl, hb1, hu1⟩
 have e8 : c8 (some (4 :: l)) = (4, some l) := rfl
 rw [e8] at hb1 ⊢
 obtain ⟨v, cv, hv⟩ := hb1.err
 have hv' : v = .nilIface := hv
 subst hv'
 have hq1 : w1.heap[q]? = some (.cells #[u0, u1] 79 (0, 0)) := by rw [hu1.block q hql hqg]; exact HQ.out
 go_wp2_with fail
 refine (zHB w1).mono ?_
 rintro e w2 ⟨rfl, hw2⟩
 have hbel : Below w1.heap.size w1 w2 := hw2 ▸ (Below.refl _ _).alloc (Nat.le_refl _) _
 have hs2 : w2.heap.size = w1.heap.size + 1 := by rw [← hw2]; simp
 have hk2 : w2.heap[w1.heap.size]? = some (.cells #[.string ⟨#[]⟩] 122 (0, 0)) := by rw [← hw2]; exact heap_alloc_new _ _
 have l1 := hb1.lt
 have z1 := hu1.size
 have hb2 : RBuf w2 g o s (some l) := hb1.kept (hbel.block _ l1.1) (hbel.block _ l1.2) hbel.size
 have hq2 : w2.heap[q]? = some (.cells #[u0, u1] 79 (0, 0)) := by rw [hbel.block _ (by omega)]; exact hq1
 have hU2 : UpdB (fun k => k = g ∨ k = q) w w2 := (hu1.updB (.inl rfl)).trans ⟨hbel.os, hbel.tape, hbel.output, hbel.size, fun k hk _ => hbel.block k hk⟩
 have hbg : g < w2.heap.size := by omega
 have hbs : s < w2.heap.size := by omega
 have hqb : q ≠ w1.heap.size := by omega
 have hgb : w1.heap.size ≠ g := by omega
 have hsb : w1.heap.size ≠ s := by omega
 have hwb : w.heap.size ≤ w1.heap.size := by omega
 have hbb : w1.heap.size < w2.heap.size := by omega
 clear hw2 hb1 hu1 hq1 hbel hs2 l1 cv hv
 generalize w1.heap.size = b at *
 have B2 := Lib.hid hb2
 have Q2 := Lib.hid hq2
 have K2 := Lib.hid hk2
 have U2 := Lib.hid hU2
 clear hq2 hk2 hU2 hb2
 go_wp2_with fail
 refine (zC3 g o s _ w2 B2.out).mono ?_
 rintro e w3 ⟨rfl, hb3, hu3⟩
 have hq3 : w3.heap[q]? = some (.cells #[u0, u1] 79 (0, 0)) := by rw [hu3.block q (by omega) hqg]; exact Q2.out
 have hk3 : w3.heap[b]? = some (.cells #[.string ⟨#[]⟩] 122 (0, 0)) := by rw [hu3.block b hbb hgb]; exact K2.out
 have cq0 : w3.cell? ⟨q, 0, none⟩ = some u0 := by rw [zAA hq3]; rfl
 have cq1 : w3.cell? ⟨q, 1, none⟩ = some u1 := by rw [zAA hq3]; rfl
 have fq : ∀ i, w3.frozen? ⟨q, i, none⟩ = false := zAP hq3
 have fq0 := fq 0
 have fq1 := fq 1
 have U3 := Lib.hid (U2.out.trans (hu3.updB (.inl rfl)))
 have B3 := Lib.hid hb3
 have Q3 := Lib.hid hq3
 have K3 := Lib.hid hk3
 clear hb3 hu3 hq3 hk3 fq
 go_wp2_with fail
 have hne : ∀ j, j ≠ q → ((w3.setCell ⟨q, 0, none⟩ (.int .u32 (c32 (some l)).1)).setCell ⟨q, 1, none⟩ (.iface 120 (.pointer (some ⟨b, 0, none⟩)))).heap[j]? = w3.heap[j]? := fun j hj => by rw [Below.heap_setCell _ _ _ _ hj, Below.heap_setCell _ _ _ _ hj]
 have hqq : ((w3.setCell ⟨q, 0, none⟩ (.int .u32 (c32 (some l)).1)).setCell ⟨q, 1, none⟩ (.iface 120 (.pointer (some ⟨b, 0, none⟩)))).heap[q]? = some (.cells #[.int .u32 (c32 (some l)).1, .iface 120 (.pointer (some ⟨b, 0, none⟩))] 79 (0, 0)) := zAT (zAT Q3.out _) _
 have hzz : ((w3.setCell ⟨q, 0, none⟩ (.int .u32 (c32 (some l)).1)).setCell ⟨q, 1, none⟩ (.iface 120 (.pointer (some ⟨b, 0, none⟩)))).heap.size = w3.heap.size := by simp [World.setCell]
 have huu : UpdB (fun k => k = g ∨ k = q) w ((w3.setCell ⟨q, 0, none⟩ (.int .u32 (c32 (some l)).1)).setCell ⟨q, 1, none⟩ (.iface 120 (.pointer (some ⟨b, 0, none⟩)))) := (U3.out.setCell (.inr rfl) _).setCell (.inr rfl) _
 generalize (w3.setCell ⟨q, 0, none⟩ (.int .u32 (c32 (some l)).1)).setCell ⟨q, 1, none⟩ (.iface 120 (.pointer (some ⟨b, 0, none⟩))) = W at *
 have hbW : RBuf W g o s (c32 (some l)).2 := B3.out.kept (hne g (Ne.symm hqg)) (hne s (Ne.symm hqs)) (by omega)
 have hkW := (hne b (Ne.symm hqb)).trans K3.out
 have E := zKn b g o s _ _ W hkW hgb hsb hbW
 have QW := Lib.hid hqq
 have UW := Lib.hid huu
 clear hne hqq hzz huu hbW hkW B3 K3 Q3 U3
 refine E.mono ?_
 rintro e w4 ⟨v, rfl, hv, hk4, hb4, hu4⟩
 have F := Lib.hid (show Req q 120 122 (c32 (some l)).1 #[.string (bs (cB (c32 (some l)).2).1)] (cB (c32 (some l)).2).2 g w (.returned v) w4 from by
  refine ⟨v, b, rfl, hv, (hu4.block q (zAC QW.out) (by omega)).trans QW.out, hk4, hwb, ?_⟩
  have hu := UW.out
  exact ⟨hu4.os.trans hu.os, hu4.tape.trans hu.tape, hu4.output.trans hu.output, Nat.le_trans hu.size hu4.size, fun k hk e => (hu4.block k (by have := hu.size; omega) (by omega)).trans (hu.block k hk e)⟩)
 clear hv hk4 hb4 hu4 E
 go_wp2_with fail
 go_ret
 exact F.out
theorem RBuf.new {w : World} {h c : Nat} {l : List UInt8} (hl : Lies w h 0 l) (hh : h < w.heap.size) (hc : l.length ≤ c) (hn : l.length ≤ 1000000000) :
  RBuf (w.alloc (.cells #[.slice (some ⟨h, 0, none⟩) l.length c, .int .i64 0, .nilIface] 83)) w.heap.size 0 h (some l) := by
 have hb := heap_alloc_new w (.cells #[.slice (some ⟨h, 0, none⟩) l.length c, .int .i64 0, .nilIface] 83 (0, 0))
 refine ⟨⟨0, l.length, c, 0, by rw [zAA hb]; rfl, by rw [zAA hb]; rfl, ⟨by omega, by simp; omega⟩, by omega, hc, hn, by rw [zAA hb]; rfl, by omega, ?_⟩, zAP hb⟩
 exact hl.kept (((Below.refl w.heap.size w).alloc (Nat.le_refl _) _).block h hh)
theorem zE8 {M : Int} {L l : List UInt8} (h : zBd M L = some l) : l.length ≤ L.length := by
 unfold zBd at h
 split at h <;> try cases h
 split at h <;> try cases h
 split at h <;> try cases h
 split at h <;> try cases h
 simp
 omega
theorem zHC (q rr s : Nat) (L : List UInt8) (M : Int) (w : World) (hr : Rd w rr s L) (hL : L.length ≤ 1000000000) (hM0 : 0 ≤ M) (hM : M ≤ 1000000000) (hrs : rr ≠ s) (hg : zBd M L = none) :
  Calls Tryz.prog 31 #[.pointer (some ⟨q, 0, none⟩), .pointer (some ⟨rr, 0, none⟩), .slice none 0 0, .int .u32 M] w fun e w' => (∃ t x, e = .returned (.iface t x)) ∧ UpdB (fun k => k = rr) w w' := by
 have C := Lib.hid (zCd rr s L M w hr hL hM0 hM hrs)
 clear hr hL hM0 hM
 go_enter Tryz.func31, Tryz.ntmps31
 go_wp2_with fail
 refine C.out.mono ?_
 rw [hg]
 rintro e w1 ⟨hu, v, t, x, rfl⟩
 have U := Lib.hid hu
 clear hu C
 go_wp2_with fail
 go_ret
 exact ⟨⟨t, x, rfl⟩, U.out⟩
def zNl (q : Nat) (tp t : TypeId) (id : Int) (cs : Array Value) (r : Option (List UInt8)) (rr : Nat) (w : World) (e : Ending) (w' : World) : Prop :=
 ∃ v b, e = .returned v ∧ zGz r v ∧ w'.heap[q]? = some (.cells #[.int .u32 id, .iface tp (.pointer (some ⟨b, 0, none⟩))] 79 (0, 0)) ∧ w'.heap[b]? = some (.cells cs t (0, 0)) ∧ w.heap.size ≤ b ∧ UpdB (fun k => k = rr ∨ k = q) w w'
theorem zHD (tp t : TypeId) (id : Int) (cs : Array Value) (r : Option (List UInt8)) (q rr s : Nat) (u0 u1 : Value) (L l : List UInt8) (M : Int) (w : World) (hq : w.heap[q]? = some (.cells #[u0, u1] 79 (0, 0))) (hr : Rd w rr s L) (hL : L.length ≤ 1000000000) (hM0 : 0 ≤ M) (hM : M ≤ 1000000000) (hrs : rr ≠ s) (hqr : q ≠ rr) (hg : zBd M L = some l)
  (C2 : ∀ (g s : Nat) (W : World), W.heap[q]? = some (.cells #[u0, u1] 79 (0, 0)) → q ≠ g → q ≠ s → RBuf W g 0 s (some l) → Calls Tryz.prog 59 #[.pointer (some ⟨q, 0, none⟩), .pointer (some ⟨g, 0, none⟩)] W (Req q tp t id cs r g W)) :
  Calls Tryz.prog 31 #[.pointer (some ⟨q, 0, none⟩), .pointer (some ⟨rr, 0, none⟩), .slice none 0 0, .int .u32 M] w (zNl q tp t id cs r rr w) := by
 have C := Lib.hid (zCd rr s L M w hr hL hM0 hM hrs)
 have D := Lib.hid C2
 have hql := zAC hq
 have Q := Lib.hid hq
 have hll : l.length ≤ 1000000000 := Nat.le_trans (zE8 hg) hL
 clear hr hL hM0 hM C2 hq
 go_enter Tryz.func31, Tryz.ntmps31
 go_wp2_with fail
 refine C.out.mono ?_
 rw [hg]
 rintro e w1 ⟨hu, h, c, rfl, hc, hwh, hhw, hl, _⟩
 have hq1 := (hu.block q hql hqr).trans Q.out
 have U := Lib.hid hu
 have LI := Lib.hid hl
 have Q1 := Lib.hid hq1
 have z1 := hu.size
 clear hu C hl hq1 Q
 go_wp2_with fail
 refine (zAZ _ _ _ _).mono ?_
 rintro e w2 ⟨rfl, hw2⟩
 have hb2 := RBuf.new LI.out hhw hc hll
 have hbel := (Below.refl w1.heap.size w1).alloc (Nat.le_refl _) (.cells #[.slice (some ⟨h, 0, none⟩) l.length c, .int .i64 0, .nilIface] 83)
 rw [hw2] at hb2 hbel
 have hq2 := (hbel.block q (by omega)).trans Q1.out
 have E := Lib.hid (D.out _ _ w2 hq2 (by omega) (by omega) hb2)
 have U2 : UpdB (fun k => k = rr ∨ k = q) w w2 := (U.out.mono (fun k e => .inl e)).trans ⟨hbel.os, hbel.tape, hbel.output, hbel.size, fun k hk _ => hbel.block k hk⟩
 have V2 := Lib.hid U2
 clear hw2 hb2 hbel hq2 U2 D Q1 LI U
 go_wp2_with fail
 refine E.out.mono ?_
 rintro e w3 ⟨v, b, rfl, hv, hq3, hb3, hwb, hu3⟩
 have F := Lib.hid (show zNl q tp t id cs r rr w (.returned v) w3 from by
  have hu := V2.out
  have hz := hu.size
  exact ⟨v, b, rfl, hv, hq3, hb3, by omega, ⟨hu3.os.trans hu.os, hu3.tape.trans hu.tape, hu3.output.trans hu.output, Nat.le_trans hu.size hu3.size, fun k hk e => (hu3.block k (by omega) (by omega)).trans (hu.block k hk e)⟩⟩)
 clear hv hq3 hb3 hu3 E V2
 go_wp2_with fail
 go_ret
 exact F.out
def zCl (L : List UInt8) (w : World) (e : Ending) (w' : World) : Prop :=
 ∃ v, e = .returned (.tuple #[v, .slice none 0 0, .nilIface]) ∧ w'.ownsRow w.heap.size 5 1 v L.length (u8s L) ∧ Below w.heap.size w w'
def zA2 (t id : Int) (F : List UInt8) : List UInt8 := zAQ (5 + F.length) ++ [bt t] ++ zAQ id ++ F
theorem zDb (q : Nat) (s : ByteArray) (id : Int) (w : World) (hq : q < w.heap.size) (hs : s.size ≤ 1000000) (hc : w.cell? ⟨q, 0, none⟩ = some (.string s)) (i0 : 0 ≤ id) (i1 : id ≤ 4294967295) :
  Calls Tryz.prog 119 #[.pointer (some ⟨q, 0, none⟩), .int .u32 id, .slice none 0 0] w (zCl (zA2 4 id (str (tl s))) w) := by
 have HC := Lib.hid hc
 clear hc
 have hsz : (tl s).length = s.size := zAH s
 go_enter Tryz.func119, Tryz.ntmps119
 go_wp2_with fail
 refine (zAZ _ _ _ _).mono ?_
 rintro e w1 ⟨rfl, hw⟩
 have cb : w1.cell? ⟨w.heap.size, 0, none⟩ = some (.slice none 0 0) := by rw [← hw, zAA (heap_alloc_new _ _)]; rfl
 have hb1 : Below w.heap.size w w1 := by rw [← hw]; exact (Below.refl _ _).alloc (Nat.le_refl _) _
 have c1 := zAW hb1 hq HC.out
 have z1 := hb1.size
 have B1 := Lib.hid hb1
 clear hb1 hw
 go_wp2_with fail
 refine (zBx _ _ _ _ _ cb).mono ?_
 rintro e w' ⟨rfl, rfl⟩
 go_wp2_with fail
 refine (zAf w.heap.size _ _ z1 (by omega) (by omega)).mono ?_
 rintro e w2 ⟨g, h, N, l, rfl, m2, hN, hb2⟩
 have c2 := zAW hb2 hq c1
 have M2 := Lib.hid m2
 have B2 := Lib.hid (B1.out.trans hb2)
 clear m2 hb2 c1 cb
 go_wp2_with fail
 refine (zAa w.heap.size g h N N l _ _ _ M2.out (by omega) (by omega) (by omega) i0 i1).mono ?_
 rintro e w3 ⟨rfl, v3, m3, hb3⟩
 have c3 := zAW hb3 hq c2
 have M3 := Lib.hid m3
 have B3 := Lib.hid (B2.out.trans hb3)
 clear m3 hb3 c2
 go_wp2_with fail
 refine (zAv w.heap.size g v3 _ s _ M3.out (by simp [zAQ]) (by omega)).mono ?_
 rintro e w4 ⟨rfl, v4, m4, u4, _⟩
 have hb4 := M3.out.below u4
 have M4 := Lib.hid m4
 have B4 := Lib.hid (B3.out.trans hb4)
 clear m4 hb4 u4
 go_wp2_with fail
 refine (zBA w.heap.size g v4 _ _ _ _ _ M4.out (by simp [zAQ] <;> omega) (by simp [zAQ, str] <;> omega) (by omega)).mono ?_
 rintro e w5 ⟨rfl, m5, g5⟩
 have M5 := Lib.hid m5
 have B5 := Lib.hid (B4.out.grown g5 (by have := M4.out.baseLe; omega) (fun k hk => (M4.out.own.lt k hk).1))
 clear m5 g5
 go_wp2_with fail
 go_ret3
 refine ⟨_, rfl, ?_, B5.out⟩
 have e : zAQ (((([0, 0, 0, 0, bt 4] ++ zAQ id ++ str (tl s)).length : Nat) : Int) - 4 + ((0 : Nat) : Int)) ++ ([0, 0, 0, 0, bt 4] ++ zAQ id ++ str (tl s)).drop 4 = zA2 4 id (str (tl s)) := by
  unfold zA2
  rw [show (((([0, 0, 0, 0, bt 4] ++ zAQ id ++ str (tl s)).length : Nat) : Int) - 4 + ((0 : Nat) : Int)) = 5 + ((str (tl s)).length : Int) from by simp [zAQ]; omega]
  rfl
 rw [← e]
 exact M5.out.own
end Go.Proofs.YtgnficcjnijdbaaGreat
namespace Go.Proofs.YtgnficcjnijdbaaGreat
open Go.RowKit Go.Great
section
variable {P : Program} {ops : Array Oper} {rest : List Oper} {o : Oper} {a : Act} {Q : Exit → Act → World → Prop} {w : World}
theorem zBD (n : Nat) (_hd : o.dst = some n) (h : wpList P ops Q (o :: rest) a w) : wpList P ops Q (o :: rest) a w := h
end
def es : Value := .string ⟨#[]⟩
def n32 (x : Int) : Value := .int .u32 x
def zIH : Value := .slice none 0 0
def zA4 (id : Int) (h : ByteArray) : Array Value :=
 #[.int .i64 4, n32 id, es, es, .string h, .int .u64 0, n32 0, n32 0, es, n32 0, .int .u64 0, n32 0, n32 0, n32 0, n32 0, n32 0, zIH, zIH, zIH, n32 0, n32 0, es, es, es]
def pZero : Array Value :=
 #[.int .i64 0, n32 0, es, es, es, .int .u64 0, n32 0, n32 0, es, n32 0, .int .u64 0, n32 0, n32 0, n32 0, n32 0, n32 0, zIH, zIH, zIH, n32 0, n32 0, es, es, es]
theorem zJf (id : Int) (h : ByteArray) (w : World) :
  Calls Tryz.prog 26 #[.agg (zA4 id h)] w fun e w' => (∃ b, e = .returned (.iface 120 (.pointer (some ⟨b, 0, none⟩))) ∧ w'.heap[b]? = some (.cells #[.string h] 122 (0, 0))) ∧ Below w.heap.size w w' := by
 have hb := heap_alloc_new w (.cells (zA4 id h) 29 (0, 0))
 have hbl : Below w.heap.size w (w.alloc (.cells (zA4 id h) 29)) := (Below.refl _ _).alloc (Nat.le_refl _) _
 generalize hW : w.alloc (.cells (zA4 id h) 29) = W at hb hbl
 have c0 : W.cell? ⟨w.heap.size, 0, none⟩ = some (.int .i64 4) := by rw [zAA hb]; rfl
 have c4 : W.cell? ⟨w.heap.size, 4, none⟩ = some (.string h) := by rw [zAA hb]; rfl
 have HB := Lib.hid hbl
 have HW := Lib.hid hW
 clear hb hbl hW
 go_enter Tryz.func26, Tryz.ntmps26
 go_wp2_with (refine wpList_boxTo rfl 29 _ rfl (some 1) rfl w.heap.size rfl (zA4 id h) rfl ?_; rw [HW.out])
 go_ret
 exact ⟨⟨_, rfl, heap_alloc_new _ _⟩, HB.out.alloc (by have := HB.out.size; omega) _⟩
theorem zDD (p q : Addr) (w : World) :
  CallsD Tryz.prog 22 #[.pointer (some p), .pointer (some q)] .returning w fun e u' w' => e = .returned (.tuple #[]) ∧ u' = .returning ∧ w' = w := by
 refine callsD_of_wpS Tryz.func22 rfl fun c₀ cs hu => ?_
 apply wpS_seq
 apply wpS_region
 simp [wpOpsS, go_sem, recoverD, hu, Tryz.ntmps22, Exit.thenS]
 refine wpS_cond (t := false) (by simp [Act.eval, Array.replicate]) ?_
 simp only [Bool.false_eq_true, if_false]
 refine wpS_of_wp (wp_skip ?_)
 cases c₀
 simp_all [bodyPostS, results, Tryz.results22]
theorem zDc (p q : Addr) (w : World) :
  CallsD Tryz.prog 28 #[.pointer (some p), .pointer (some q)] .returning w fun e u' w' => e = .returned (.tuple #[]) ∧ u' = .returning ∧ w' = w := by
 refine callsD_of_wpS Tryz.func28 rfl fun c₀ cs hu => ?_
 apply wpS_seq
 apply wpS_region
 simp [wpOpsS, go_sem, recoverD, hu, Tryz.ntmps28, Exit.thenS]
 refine wpS_cond (t := false) (by simp [Act.eval, Array.replicate]) ?_
 simp only [Bool.false_eq_true, if_false]
 refine wpS_of_wp (wp_skip ?_)
 cases c₀
 simp_all [bodyPostS, results, Tryz.results28]
theorem zCp {w : World} {base : Nat} {v : Value} {l : List UInt8} (h : w.ownsRow base 5 1 v l.length (u8s l)) (hn : 0 < l.length) : ∃ s c, v = .slice (some ⟨s, 0, none⟩) l.length c ∧ Lies w s 0 l := by
 rcases h.2 with ⟨rfl, h0⟩ | ⟨g, cap, cur, rfl, _, hg, hr⟩
 ·omega
 ·refine ⟨g, cap, rfl, fun j b hj => ?_⟩
  obtain ⟨_, _, _, hcur⟩ := hr
  have h1 : (u8s l)[j]? = some (u8 b) := by unfold u8s; rw [List.getElem?_map, hj]; rfl
  rw [← hcur, List.getElem?_take] at h1
  split at h1
  ·rw [zAA hg, Nat.zero_add]
   simpa using h1
  ·cases h1
theorem zAo : (Tryz.prog.info? 29).map (·.size) = some 24 := by kernel_rfl
theorem zBy (id : Int) (h : ByteArray) : (Tryz.prog.info? 29).map (·.size) = some (zA4 id h).size := zAo
theorem zII (id : Int) (h : ByteArray) (w : World) (hh : h.size ≤ 1000000) (i0 : 0 ≤ id) (i1 : id ≤ 4294967295) :
  Calls Tryz.prog 10 #[.agg (zA4 id h)] w fun e w' => e = .returned (.tuple #[.string (bs (zA2 4 id (str (tl h)))), .int .i64 0]) ∧ Below w.heap.size w w' := by
 have hmf : ∀ (fn : Fn) (first cap : Array Value) (w : World), (Instr.makeFunc fn first cap).run Tryz.prog w = .ok (.func fn first cap) w := fun _ _ _ _ => rfl
 obtain ⟨W, hW⟩ : ∃ W, ((w.alloc (.cells (zA4 id h) 29)).alloc (.cells #[.string ⟨#[]⟩] 9)).alloc (.cells #[.int .i64 0] 3) = W := ⟨_, rfl⟩
 have hsz : W.heap.size = w.heap.size + 3 := by rw [← hW]; simp
 have hb0 : W.heap[w.heap.size]? = some (.cells (zA4 id h) 29 (0, 0)) := by
  rw [← hW, heap_alloc_old _ _ (by simp; omega), heap_alloc_old _ _ (by simp)]; exact heap_alloc_new _ _
 have hbl : Below w.heap.size w W := by rw [← hW]; exact (((Below.refl _ _).alloc (Nat.le_refl _) _).alloc (by simp) _).alloc (by simp; omega) _
 have hb1 : W.heap[w.heap.size + 1]? = some (.cells #[.string ⟨#[]⟩] 9 (0, 0)) := by
  rw [← hW, heap_alloc_old _ _ (by simp)]
  have := heap_alloc_new (w.alloc (.cells (zA4 id h) 29)) (.cells #[.string ⟨#[]⟩] 9 (0, 0))
  rwa [show (w.alloc (.cells (zA4 id h) 29)).heap.size = w.heap.size + 1 from by simp] at this
 have hb2 : W.heap[w.heap.size + 1 + 1]? = some (.cells #[.int .i64 0] 3 (0, 0)) := by
  rw [← hW]
  have := heap_alloc_new ((w.alloc (.cells (zA4 id h) 29)).alloc (.cells #[.string ⟨#[]⟩] 9 (0, 0))) (.cells #[.int .i64 0] 3 (0, 0))
  rwa [show ((w.alloc (.cells (zA4 id h) 29)).alloc (.cells #[.string ⟨#[]⟩] 9 (0, 0))).heap.size = w.heap.size + 1 + 1 from by simp] at this
 have c0 : W.cell? ⟨w.heap.size, 0, none⟩ = some (.int .i64 4) := by rw [zAA hb0]; rfl
 have c1 : W.cell? ⟨w.heap.size, 1, none⟩ = some (.int .u32 id) := by rw [zAA hb0]; rfl
 have B1 := Lib.hid hb1
 have B2 := Lib.hid hb2
 have HW := Lib.hid hW
 have HB := Lib.hid hb0
 have HL := Lib.hid hbl
 clear hW hb0 hbl hb1 hb2 hsz
 go_enter_defers Tryz.func10, Tryz.ntmps10
 go_wp2_with (first | refine wpList_boxTo rfl 29 _ rfl (some 1) rfl w.heap.size rfl (zA4 id h) rfl ?_ | (refine zBD 7 rfl ?_; rw [HW.out]) | (refine wpList_load_row rfl 29 _ rfl w.heap.size rfl 29 (zA4 id h) (0, 0) _ HB.out Tryz.underlying29 rfl (zBy id h) ?_))
 refine (zJf id h W).mono ?_
 rintro e w1 ⟨⟨b, rfl, hbb⟩, hbel⟩
 have zW : W.heap.size = w.heap.size + 1 + 1 + 1 := by rw [← HW.out]; simp
 have hL1 : Below w.heap.size w w1 := HL.out.trans (hbel.mono (by omega))
 have k1 := (hbel.block (w.heap.size + 1) (by omega)).trans B1.out
 have k2 := (hbel.block (w.heap.size + 1 + 1) (by omega)).trans B2.out
 have d1 : w1.cell? ⟨w.heap.size, 1, none⟩ = some (.int .u32 id) := by rw [cell_kept (hbel.block _ (by omega))]; exact c1
 have z1 := hbel.size
 have hbl := zAC hbb
 have C := Lib.hid (zDb b h id w1 hbl hh (by rw [zAA hbb]; rfl) i0 i1)
 have L1 := Lib.hid hL1
 have K1 := Lib.hid k1
 have K2 := Lib.hid k2
 clear hbel hL1 k1 k2 hbb HW HB HL B1 B2 c0 c1
 go_wp2_with fail
 refine C.out.mono ?_
 rintro e w2 ⟨v, rfl, hown, hb2⟩
 have z2 := hb2.size
 have hlen : (zA2 4 id (str (tl h))).length = 13 + h.size := by simp [zA2, str, zAQ, zAH]; omega
 have C2 := Lib.hid (zJH w1.heap.size v (zA2 4 id (str (tl h))) none 0 0 [] w2 hown z2 (by omega) rfl (by omega) (.inl ⟨rfl, rfl, rfl⟩))
 have k1 := (hb2.block (w.heap.size + 1) (by omega)).trans K1.out
 have k2 := (hb2.block (w.heap.size + 1 + 1) (by omega)).trans K2.out
 have L2 := Lib.hid (L1.out.trans (hb2.mono (by omega)))
 have J1 := Lib.hid k1
 have J2 := Lib.hid k2
 clear hb2 k1 k2 hown C L1 K1 K2 d1
 go_wp2_with fail
 refine C2.out.mono ?_
 rintro e w3 ⟨v', rfl, hown, hb3⟩
 rw [List.append_nil] at hown
 have z3 := hb3.size
 have k1 := (hb3.block (w.heap.size + 1) (by omega)).trans J1.out
 have k2 := (hb3.block (w.heap.size + 1 + 1) (by omega)).trans J2.out
 have L3 := Lib.hid (L2.out.trans (hb3.mono (by omega)))
 have e1 : w3.cell? ⟨w.heap.size + 1, 0, none⟩ = some (.string ⟨#[]⟩) := by rw [zAA k1]; rfl
 have e2 : w3.cell? ⟨w.heap.size + 1 + 1, 0, none⟩ = some (.int .i64 0) := by rw [zAA k2]; rfl
 have g1 : w3.frozen? ⟨w.heap.size + 1, 0, none⟩ = false := zAP k1 0
 have g2 : w3.frozen? ⟨w.heap.size + 1 + 1, 0, none⟩ = false := zAP k2 0
 obtain ⟨s, c, rfl, hl⟩ := zCp hown (by omega)
 have hcv := zCL w3 s 0 c _ hl 56 9 5 Tryz.underlying56 Tryz.underlying5 Tryz.underlying9
 clear hb3 k1 k2 hown C2 L2 J1 J2 hl
 generalize hP : zA2 4 id (str (tl h)) = F at *
 have HP := Lib.hid hP
 clear hlen hP
 go_wp2_with fail
 refine leaves_cons (f := 22) (args := #[.pointer (some ⟨w.heap.size + 1, 0, none⟩), .pointer (some ⟨w.heap.size + 1 + 1, 0, none⟩)]) (by simp) (by simp [go_sem]) ?_
 refine (zDD _ _ _).mono ?_
 rintro e u' w'' ⟨rfl, rfl, rfl⟩
 have r1 : ((w3.setCell ⟨w.heap.size + 1, 0, none⟩ (.string (bs F))).setCell ⟨w.heap.size + 1 + 1, 0, none⟩ (.int .i64 0)).cell? ⟨w.heap.size + 1, 0, none⟩ = some (.string (bs F)) := by
  rw [zAz (by intro e; injection e; omega)]; exact zBZ e1
 have r2 : ((w3.setCell ⟨w.heap.size + 1, 0, none⟩ (.string (bs F))).setCell ⟨w.heap.size + 1 + 1, 0, none⟩ (.int .i64 0)).cell? ⟨w.heap.size + 1 + 1, 0, none⟩ = some (.int .i64 0) := by
  refine zBZ (u := .int .i64 0) ?_
  rw [zAz (by intro e; injection e; omega)]; exact e2
 have hfin : Below w.heap.size w ((w3.setCell ⟨w.heap.size + 1, 0, none⟩ (.string (bs F))).setCell ⟨w.heap.size + 1 + 1, 0, none⟩ (.int .i64 0)) := (L3.out.setCell (by simp) _).setCell (by simp; omega) _
 have HF := Lib.hid hfin
 clear hfin e1 e2 g1 g2 hcv
 generalize (w3.setCell ⟨w.heap.size + 1, 0, none⟩ (.string (bs F))).setCell ⟨w.heap.size + 1 + 1, 0, none⟩ (.int .i64 0) = W4 at *
 simp [Leaves, settle, results, Tryz.results10, go_sem, r1, r2]
 exact ⟨by rw [HP.out], HF.out⟩
section
variable {P : Program}
theorem results_ct {fn : Func} {p r : Tmp} {ty : TypeId} (h : fn.results = #[.cell p ty, .tmp r]) (tmps : Array Value) (w : World) (g : Nat) (t : TypeId) (cs : Array Value) (fr : Nat × Nat) (d : TypeDesc) (v : Value)
  (hp : tmps.getD p undef = .pointer (some ⟨g, 0, none⟩)) (hr : tmps.getD r undef = v) (hg : w.heap[g]? = some (.cells cs t fr))
  (hu : P.underlying ty = some d) (hd : (match d with | .struct _ | .array _ _ => true | _ => false) = true) (hi : (P.info? ty).map (·.size) = some cs.size) :
  (results fn tmps).run P w = .ok (.tuple #[.agg cs, v]) w := by
 have hp' : tmps[p]?.getD undef = .pointer (some ⟨g, 0, none⟩) := by simpa using hp
 have hr' : tmps[r]?.getD undef = v := by simpa using hr
 simp [results, h, hp', hr', asAddr, run_loadVar_row w g t ty cs fr d hg hu hd hi]
theorem results_cc {fn : Func} {p r : Tmp} {ty tn : TypeId} (h : fn.results = #[.cell p ty, .cell r tn]) (tmps : Array Value) (w : World) (g g2 : Nat) (t : TypeId) (cs : Array Value) (fr : Nat × Nat) (d : TypeDesc) (v : Value)
  (hp : tmps.getD p undef = .pointer (some ⟨g, 0, none⟩)) (hr : tmps.getD r undef = .pointer (some ⟨g2, 0, none⟩)) (hg : w.heap[g]? = some (.cells cs t fr))
  (hu : P.underlying ty = some d) (hd : (match d with | .struct _ | .array _ _ => true | _ => false) = true) (hi : (P.info? ty).map (·.size) = some cs.size)
  (hl : (loadVar tn ⟨g2, 0, none⟩).run P w = .ok v w) :
  (results fn tmps).run P w = .ok (.tuple #[.agg cs, v]) w := by
 have hp' : tmps[p]?.getD undef = .pointer (some ⟨g, 0, none⟩) := by simpa using hp
 have hr' : tmps[r]?.getD undef = .pointer (some ⟨g2, 0, none⟩) := by simpa using hr
 simp [results, h, hp', hr', asAddr, run_loadVar_row w g t ty cs fr d hg hu hd hi, hl]
end
theorem zJg (q : Value) (w : World) : Calls Tryz.prog 120 #[q] w fun e w' => e = .returned (.int .u8 4) ∧ w = w' := by
 go_enter Tryz.func120, Tryz.ntmps120
 go_wp2
 go_ret
 exact ⟨rfl, rfl⟩
theorem zAj {w : World} {g : Nat} {cs cs' : Array Value} {t : TypeId} {f : Nat × Nat} (h : w.heap[g]? = some (.cells cs t f)) : (w.setRow g cs').heap[g]? = some (.cells cs' t f) := setRow_heap w g _ cs' t f h
theorem zE9 : (Tryz.prog.info? 29).map (·.size) = some pZero.size := zAo
theorem zDE (id : Int) (h : ByteArray) : (zA4 id h).all (·.oneCell') = true := by kernel_rfl
theorem zIJ (id : Int) (h : ByteArray) (b : Nat) (w : World) (hb : w.heap[b]? = some (.cells #[.string h] 122 (0, 0))) :
  Calls Tryz.prog 33 #[.int .u32 id, .iface 120 (.pointer (some ⟨b, 0, none⟩))] w fun e w' => e = .returned (.tuple #[.agg (zA4 id h), .bool true]) ∧ Below w.heap.size w w' := by
 have hbl := zAC hb
 have cb : w.cell? ⟨b, 0, none⟩ = some (.string h) := by rw [zAA hb]; rfl
 have HB := Lib.hid hb
 clear hb
 have ta : ∀ (v : Value) (w : World), (Instr.typeAssert (.iface 120 v) 69 112 true).run Tryz.prog w = .ok (.tuple #[.pointer none, .bool false]) w := fun _ _ => by kernel_rfl
 have tc : ∀ (v : Value) (w : World), (Instr.typeAssert (.iface 120 v) 69 120 true).run Tryz.prog w = .ok (.tuple #[v, .bool true]) w := fun _ _ => by kernel_rfl
 -- the worlds
 obtain ⟨W0, hW0⟩ : ∃ W, w.alloc (.cells pZero 29) = W := ⟨_, rfl⟩
 obtain ⟨W1, hW1⟩ : ∃ W, W0.alloc (.cells pZero 29) = W := ⟨_, rfl⟩
 obtain ⟨W2, hW2⟩ : ∃ W, W1.setRow W0.heap.size (zA4 id ⟨#[]⟩) = W := ⟨_, rfl⟩
 have s0 : W0.heap.size = w.heap.size + 1 := by rw [← hW0]; simp
 have s1 : W1.heap.size = w.heap.size + 2 := by rw [← hW1]; simp; omega
 have k1 : W1.heap[W0.heap.size]? = some (.cells pZero 29 (0, 0)) := by rw [← hW1]; exact heap_alloc_new _ _
 have k2 : W2.heap[W0.heap.size]? = some (.cells (zA4 id ⟨#[]⟩) 29 (0, 0)) := by rw [← hW2]; exact zAj k1
 have j0 : W0.heap[w.heap.size]? = some (.cells pZero 29 (0, 0)) := by rw [← hW0]; exact heap_alloc_new _ _
 have j1 : W1.heap[w.heap.size]? = some (.cells pZero 29 (0, 0)) := by rw [← hW1, heap_alloc_old _ _ (by omega)]; exact j0
 have j2 : W2.heap[w.heap.size]? = some (.cells pZero 29 (0, 0)) := by rw [← hW2, setRow_other _ _ _ _ (by omega)]; exact j1
 have hbel : Below w.heap.size w W2 := by
  rw [← hW2]
  refine ⟨?_, ?_, ?_, by rw [setRow_size]; omega, fun k hk => ?_⟩
  ·rw [← hW1, ← hW0]; rfl
  ·rw [← hW1, ← hW0]; rfl
  ·rw [← hW1, ← hW0]; rfl
  ·rw [setRow_other _ _ _ _ (by omega), ← hW1, heap_alloc_old _ _ (by omega), ← hW0, heap_alloc_old _ _ (by omega)]
 have cb2 : W2.cell? ⟨b, 0, none⟩ = some (.string h) := by rw [cell_kept (hbel.block b hbl)]; exact cb
 have c4 : W2.cell? ⟨W0.heap.size, 4, none⟩ = some (.string ⟨#[]⟩) := by rw [zAA k2]; rfl
 have f4 : W2.frozen? ⟨W0.heap.size, 4, none⟩ = false := zAP k2 4
 obtain ⟨W3, hW3⟩ : ∃ W, W2.setCell ⟨W0.heap.size, 4, none⟩ (.string h) = W := ⟨_, rfl⟩
 have k3 : W3.heap[W0.heap.size]? = some (.cells (zA4 id h) 29 (0, 0)) := by rw [← hW3]; exact zAT k2 _
 have j3 : W3.heap[w.heap.size]? = some (.cells pZero 29 (0, 0)) := by rw [← hW3, Below.heap_setCell _ _ _ _ (by show w.heap.size ≠ W0.heap.size; omega)]; exact j2
 have b3 : Below w.heap.size w W3 := by rw [← hW3]; exact hbel.setCell (by show w.heap.size ≤ W0.heap.size; omega) _
 have j4 : (W3.setRow w.heap.size (zA4 id h)).heap[w.heap.size]? = some (.cells (zA4 id h) 29 (0, 0)) := zAj j3
 have b4 : Below w.heap.size w (W3.setRow w.heap.size (zA4 id h)) := ⟨b3.os, b3.tape, b3.output, by rw [setRow_size]; exact b3.size, fun k hk => by rw [setRow_other _ _ _ _ (by omega)]; exact b3.block k hk⟩
 have X0 := Lib.hid hW0
 have X1 := Lib.hid hW1
 have X2 := Lib.hid hW2
 have X3 := Lib.hid hW3
 have K1 := Lib.hid k1
 have K3 := Lib.hid k3
 have J3 := Lib.hid j3
 have J4 := Lib.hid j4
 have B4 := Lib.hid b4
 clear hW0 hW1 hW2 hW3 k1 k2 k3 j0 j1 j2 j3 j4 b3 b4 hbel s0 s1 cb
 go_enter Tryz.func33, Tryz.ntmps33
 go_wp2_with (first
  | (refine wpList_allocTo rfl (some 4) rfl (.pointer (some ⟨w.heap.size, 0, none⟩)) (.cells pZero 29) (by as_aux_lemma => kernel_rfl) ?_; rw [X0.out])
  | (refine wpList_allocTo rfl (some 6) rfl (.pointer (some ⟨W0.heap.size, 0, none⟩)) (.cells pZero 29) (by as_aux_lemma => kernel_rfl) ?_; rw [X1.out])
  | refine wpList_buildTo rfl 29 _ rfl (some 41) rfl (zA4 id ⟨#[]⟩) (by as_aux_lemma => kernel_rfl) ?_
  | (refine wpList_store_row rfl 29 _ _ rfl W0.heap.size (zA4 id ⟨#[]⟩) rfl rfl 29 pZero K1.out (zBy id ⟨#[]⟩) rfl (zDE id ⟨#[]⟩) ?_; rw [X2.out])
  | (refine zBD 349 rfl ?_; rw [X3.out])
  | refine wpList_load_row rfl 29 _ rfl W0.heap.size rfl 29 (zA4 id h) (0, 0) _ K3.out Tryz.underlying29 rfl (zBy id h) ?_
  | refine wpList_store_row rfl 29 _ _ rfl w.heap.size (zA4 id h) rfl rfl 29 pZero J3.out (zBy id h) rfl (zDE id h) ?_
  | (go_at_call 120; refine (zJg _ _).mono ?_; rintro e w' ⟨rfl, rfl⟩))
 refine bodyPost_ret (results_ct Tryz.results33 _ _ w.heap.size 29 (zA4 id h) (0, 0) _ _ rfl rfl J4.out Tryz.underlying29 rfl (zBy id h)) rfl ?_
 exact ⟨rfl, B4.out⟩
theorem zMd (w : World) : Calls Tryz.prog 30 #[.int .i64 4] w fun e w' => e = .returned .nilIface ∧ w = w' := by
 go_enter Tryz.func30, Tryz.ntmps30
 go_wp2
 go_ret
 exact ⟨rfl, rfl⟩
theorem Rd.new (W : World) (s : ByteArray) : Rd ((Lib.bytesWorld W 5 s).alloc (.cells #[.slice (some ⟨W.heap.size, 0, none⟩) s.size (grownCap W s.size 0 5)] 76)) (Lib.bytesWorld W 5 s).heap.size W.heap.size (tl s) := by
 have hz : (Lib.bytesWorld W 5 s).heap.size = W.heap.size + 1 := Lib.bytesWorld_size W _ s
 have hb := heap_alloc_new (Lib.bytesWorld W 5 s) (.cells #[.slice (some ⟨W.heap.size, 0, none⟩) s.size (grownCap W s.size 0 5)] 76 (0, 0))
 refine ⟨0, grownCap W s.size 0 5, by rw [zAH]; exact hb, by rw [zAH]; exact grownCap_ge _ _ _ _, ?_, by simp; omega⟩
 intro j b hj
 rw [cell_kept (heap_alloc_old _ _ (by omega))]
 exact zCB W _ s j b hj
def zC4 (w W0 : World) (s : ByteArray) : World := (Lib.bytesWorld W0 5 s).alloc (.cells #[.slice (some ⟨w.heap.size + 1 + 1, 0, none⟩) s.size (grownCap W0 s.size 0 5)] 76)
theorem zCT (w W0 : World) (s : ByteArray) (hW0 : (w.alloc (.cells pZero 29)).alloc (.cells #[.int .i64 0] 3) = W0) :
  Rd (zC4 w W0 s) (w.heap.size + 1 + 1 + 1) (w.heap.size + 1 + 1) (tl s) ∧ (zC4 w W0 s).heap[w.heap.size]? = some (.cells pZero 29 (0, 0)) ∧ (zC4 w W0 s).heap[w.heap.size + 1]? = some (.cells #[.int .i64 0] 3 (0, 0)) ∧ Below w.heap.size w (zC4 w W0 s) ∧ (zC4 w W0 s).heap.size = w.heap.size + 1 + 1 + 1 + 1 := by
 have s0 : W0.heap.size = w.heap.size + 1 + 1 := by rw [← hW0]; simp
 have hR := Rd.new W0 s
 have hrr : (Lib.bytesWorld W0 5 s).heap.size = w.heap.size + 1 + 1 + 1 := by rw [Lib.bytesWorld_size, s0]
 rw [hrr, s0] at hR
 have hold : ∀ k, k < w.heap.size + 1 + 1 → (zC4 w W0 s).heap[k]? = W0.heap[k]? := fun k hk => by
  rw [zC4, heap_alloc_old _ _ (by omega), Lib.bytesWorld_at_old _ _ _ _ (by rw [s0]; omega)]
 refine ⟨hR, ?_, ?_, ⟨?_, ?_, ?_, ?_, fun k hk => ?_⟩, ?_⟩
 ·rw [hold _ (by omega), ← hW0, heap_alloc_old _ _ (by simp)]; exact heap_alloc_new _ _
 ·rw [hold _ (by omega), ← hW0]
  have := heap_alloc_new (w.alloc (.cells pZero 29)) (.cells #[.int .i64 0] 3 (0, 0))
  rwa [show (w.alloc (.cells pZero 29)).heap.size = w.heap.size + 1 from by simp] at this
 ·rw [← hW0]; rfl
 ·rw [← hW0]; rfl
 ·rw [← hW0]; rfl
 ·simp [zC4, hrr]; omega
 ·rw [hold _ (by omega), ← hW0, heap_alloc_old _ _ (by simp; omega), heap_alloc_old _ _ hk]
 ·simp [zC4, hrr]
theorem zJh (s : ByteArray) (M : Int) (l r : List UInt8) (w : World) (hi : ∀ w : World, (Instr.index 9 (.string s) (.int .i64 4)).run Tryz.prog w = .ok (.int .u8 4) w) (h4 : 4 < s.size) (hs : s.size ≤ 1000000000) (hM0 : 0 ≤ M) (hM : M ≤ 1000000000)
  (hg : zBd M (tl s) = some (4 :: l)) (hr : (cB (c32 (some l)).2).2 = some r) :
  Calls Tryz.prog 11 #[.string s, .int .u32 M] w fun e w' => e = .returned (.tuple #[.agg (zA4 (c32 (some l)).1 (bs (cB (c32 (some l)).2).1)), .int .i64 0]) ∧ Below w.heap.size w w' := by
 have hmf : ∀ (fn : Fn) (first cap : Array Value) (w : World), (Instr.makeFunc fn first cap).run Tryz.prog w = .ok (.func fn first cap) w := fun _ _ _ _ => rfl
 have kb := fun W => Lib.run_convert_string_bytes (P := Tryz.prog) W 9 56 5 s Tryz.underlying9 Tryz.underlying56 Tryz.underlying5
 have i4 : (4 : Int) < (s.size : Int) := by omega
 obtain ⟨W0, hW0⟩ : ∃ W, (w.alloc (.cells pZero 29)).alloc (.cells #[.int .i64 0] 3) = W := ⟨_, rfl⟩
 have s0 : W0.heap.size = w.heap.size + 1 + 1 := by rw [← hW0]; simp
 have X0 := Lib.hid hW0
 have S0 := Lib.hid s0
 clear hW0 s0
 go_enter_defers Tryz.func11, Tryz.ntmps11
 go_wp2_with (first
  | (refine wpList_allocTo rfl (some 4) rfl (.pointer (some ⟨w.heap.size, 0, none⟩)) (.cells pZero 29) (by as_aux_lemma => kernel_rfl) ?_)
  | (refine zBD 12 rfl ?_; rw [X0.out]))
 refine (zMd _).mono ?_
 rintro e w' ⟨rfl, rfl⟩
 have hrr : (Lib.bytesWorld W0 5 s).heap.size = w.heap.size + 1 + 1 + 1 := by rw [Lib.bytesWorld_size, S0.out]
 obtain ⟨hR, hz0, hz1, hbe, hsz⟩ := zCT w W0 s X0.out
 rw [hrr, S0.out]
 unfold zC4 at hR hz0 hz1 hbe hsz
 clear hrr
 generalize (Lib.bytesWorld W0 5 s).alloc (.cells #[.slice (some ⟨w.heap.size + 1 + 1, 0, none⟩) s.size (grownCap W0 s.size 0 5)] 76) = W1 at hR hz0 hz1 hbe hsz ⊢
 have R1 := Lib.hid hR
 have Z0 := Lib.hid hz0
 have Z1 := Lib.hid hz1
 have B1 := Lib.hid hbe
 have S1 := Lib.hid hsz
 clear hR hz0 hz1 hbe hsz kb X0 S0
 obtain ⟨W2, hW2⟩ : ∃ W, W1.alloc (.cells #[.int .u32 0, .nilIface] 79) = W := ⟨_, rfl⟩
 have X2 := Lib.hid hW2
 clear hW2
 go_wp2_with fail
 rw [X2.out]
 have hz2 : W2.heap.size = W1.heap.size + 1 := by rw [← X2.out]; simp
 have hb2 : Below W1.heap.size W1 W2 := by rw [← X2.out]; exact (Below.refl _ _).alloc (Nat.le_refl _) _
 have hq2 : W2.heap[W1.heap.size]? = some (.cells #[.int .u32 0, .nilIface] 79 (0, 0)) := by rw [← X2.out]; exact heap_alloc_new _ _
 have e1 := S1.out
 have hR2 : Rd W2 (w.heap.size + 1 + 1 + 1) (w.heap.size + 1 + 1) (tl s) := R1.out.kept (hb2.block _ (by omega)) (hb2.block _ (by omega)) hb2.size
 refine (zHD 120 122 (c32 (some l)).1 #[.string (bs (cB (c32 (some l)).2).1)] (cB (c32 (some l)).2).2 W1.heap.size (w.heap.size + 1 + 1 + 1) (w.heap.size + 1 + 1) _ _ (tl s) (4 :: l) M W2 hq2 hR2 (by rw [zAH]; exact hs) hM0 hM (by omega) (by omega) hg (fun g s' W h1 h2 h3 h4 => zKo W1.heap.size g 0 s' _ _ l W h1 h2 h3 h4)).mono ?_
 rintro e w3 ⟨v, b, rfl, hv, hq3, hb3, hwb, hu3⟩
 rw [hr] at hv
 have hv' : v = .nilIface := hv
 subst hv'
 have z3 := hu3.size
 have y0 : w3.heap[w.heap.size]? = some (.cells pZero 29 (0, 0)) := by rw [hu3.block _ (by omega) (by omega), hb2.block _ (by omega)]; exact Z0.out
 have y1 : w3.heap[w.heap.size + 1]? = some (.cells #[.int .i64 0] 3 (0, 0)) := by rw [hu3.block _ (by omega) (by omega), hb2.block _ (by omega)]; exact Z1.out
 have yb : Below w.heap.size w w3 := (B1.out.trans (hb2.mono (by omega))).trans ⟨hu3.os, hu3.tape, hu3.output, hu3.size, fun k hk => hu3.block k (by omega) (by omega)⟩
 have q0 : w3.cell? ⟨W1.heap.size, 0, none⟩ = some (.int .u32 (c32 (some l)).1) := by rw [zAA hq3]; rfl
 have q1 : w3.cell? ⟨W1.heap.size, 1, none⟩ = some (.iface 120 (.pointer (some ⟨b, 0, none⟩))) := by rw [zAA hq3]; rfl
 have C3 := Lib.hid (fun k => zIJ (c32 (some l)).1 (bs (cB (c32 (some l)).2).1) b (w3.drewN k) hb3)
 have Y0 := Lib.hid y0
 have Y1 := Lib.hid y1
 have YB := Lib.hid yb
 clear y0 y1 yb hq3 hb3 hu3 hR2 hq2 hb2 R1 Z0 Z1 B1 X2 hv
 have zz := Lib.hid (show w.heap.size + 1 < w3.heap.size by omega)
 clear hz2 e1 z3 hwb S1
 generalize W1.heap.size = q at *
 go_wp2_with fail
 generalize hid0 : (c32 (some l)).1 = id at *
 generalize hhh0 : bs (cB (c32 (some l)).2).1 = h at *
 have hid := Lib.hid hid0
 have hhh := Lib.hid hhh0
 clear hid0 hhh0
 go_quiet (fail)
 go_wp2_with fail
 refine (C3.out _).mono ?_
 rintro e w4 ⟨rfl, hb4⟩
 have zz := zz.out
 have z4 := hb4.size
 have z4' : w3.heap.size ≤ w4.heap.size := z4
 have y0 : w4.heap[w.heap.size]? = some (.cells pZero 29 (0, 0)) := by rw [hb4.block _ (by show w.heap.size < w3.heap.size; omega)]; exact Y0.out
 have y1 : w4.heap[w.heap.size + 1]? = some (.cells #[.int .i64 0] 3 (0, 0)) := by rw [hb4.block _ (by show w.heap.size + 1 < w3.heap.size; omega)]; exact Y1.out
 have yb : Below w.heap.size w w4 := (⟨YB.out.os, YB.out.tape, YB.out.output, YB.out.size, YB.out.block⟩ : Below w.heap.size w (w3.drewN nq)).trans (hb4.mono (by show w.heap.size ≤ w3.heap.size; omega))
 obtain ⟨W5, hW5⟩ : ∃ W, w4.setRow w.heap.size (zA4 id h) = W := ⟨_, rfl⟩
 obtain ⟨W6, hW6⟩ : ∃ W, W5.setRow w.heap.size (zA4 id h) = W := ⟨_, rfl⟩
 have a5 : W5.heap[w.heap.size]? = some (.cells (zA4 id h) 29 (0, 0)) := by rw [← hW5]; exact zAj y0
 have b5 : W5.heap[w.heap.size + 1]? = some (.cells #[.int .i64 0] 3 (0, 0)) := by rw [← hW5, setRow_other _ _ _ _ (by omega)]; exact y1
 have t5 : Below w.heap.size w W5 := by rw [← hW5]; exact ⟨yb.os, yb.tape, yb.output, by rw [setRow_size]; exact yb.size, fun k hk => by rw [setRow_other _ _ _ _ (by omega)]; exact yb.block k hk⟩
 have a6 : W6.heap[w.heap.size]? = some (.cells (zA4 id h) 29 (0, 0)) := by rw [← hW6]; exact zAj a5
 have b6 : W6.heap[w.heap.size + 1]? = some (.cells #[.int .i64 0] 3 (0, 0)) := by rw [← hW6, setRow_other _ _ _ _ (by omega)]; exact b5
 have t6 : Below w.heap.size w W6 := by rw [← hW6]; exact ⟨t5.os, t5.tape, t5.output, by rw [setRow_size]; exact t5.size, fun k hk => by rw [setRow_other _ _ _ _ (by omega)]; exact t5.block k hk⟩
 have c6 : W6.cell? ⟨w.heap.size + 1, 0, none⟩ = some (.int .i64 0) := by rw [zAA b6]; rfl
 have f6 : W6.frozen? ⟨w.heap.size + 1, 0, none⟩ = false := zAP b6 0
 have V0 := Lib.hid y0
 have X5 := Lib.hid hW5
 have X6 := Lib.hid hW6
 have A5 := Lib.hid a5
 have A6 := Lib.hid a6
 have T6 := Lib.hid t6
 clear y0 y1 yb a5 b5 t5 a6 b6 t6 hW5 hW6 hb4 C3 Y0 Y1 YB q0 q1
 go_wp2_with (first
  | (refine wpList_store_row rfl 29 _ _ rfl w.heap.size (zA4 id h) rfl rfl 29 pZero V0.out (zBy id h) rfl (zDE id h) ?_; rw [X5.out])
  | (refine wpList_load_row rfl 29 _ rfl w.heap.size rfl 29 (zA4 id h) (0, 0) _ A5.out Tryz.underlying29 rfl (zBy id h) ?_)
  | (refine wpList_store_row rfl 29 _ _ rfl w.heap.size (zA4 id h) rfl rfl 29 (zA4 id h) A5.out (zBy id h) rfl (zDE id h) ?_; rw [X6.out]))
 refine leaves_cons (f := 28) (args := #[.pointer (some ⟨w.heap.size, 0, none⟩), .pointer (some ⟨w.heap.size + 1, 0, none⟩)]) (by simp) (by simp [go_sem]) ?_
 refine (zDc _ _ _).mono ?_
 rintro e u' w'' ⟨rfl, rfl, rfl⟩
 have r1 : (W6.setCell ⟨w.heap.size + 1, 0, none⟩ (.int .i64 0)).heap[w.heap.size]? = some (.cells (zA4 id h) 29 (0, 0)) := by rw [Below.heap_setCell _ _ _ _ (by show w.heap.size ≠ w.heap.size + 1; omega)]; exact A6.out
 have r2 : (W6.setCell ⟨w.heap.size + 1, 0, none⟩ (.int .i64 0)).cell? ⟨w.heap.size + 1, 0, none⟩ = some (.int .i64 0) := zBZ c6
 have hfin : Below w.heap.size w (W6.setCell ⟨w.heap.size + 1, 0, none⟩ (.int .i64 0)) := T6.out.setCell (by simp) _
 generalize W6.setCell ⟨w.heap.size + 1, 0, none⟩ (.int .i64 0) = W7 at *
 have hl : (loadVar 3 ⟨w.heap.size + 1, 0, none⟩).run Tryz.prog W7 = .ok (.int .i64 0) W7 := by simp [go_sem, r2]
 exact ⟨_, results_cc Tryz.results11 _ _ w.heap.size (w.heap.size + 1) 29 (zA4 id h) (0, 0) _ _ rfl rfl r1 Tryz.underlying29 rfl (zBy id h) hl, by rw [hid.out, hhh.out], hfin⟩
theorem zJK : pZero.all (·.oneCell') = true := by kernel_rfl
theorem zKp (s : ByteArray) (M : Int) (w : World) (hi : ∀ w : World, (Instr.index 9 (.string s) (.int .i64 4)).run Tryz.prog w = .ok (.int .u8 4) w) (h4 : 4 < s.size) (hs : s.size ≤ 1000000000) (hM0 : 0 ≤ M) (hM : M ≤ 1000000000)
  (hg : zBd M (tl s) = none) :
  Calls Tryz.prog 11 #[.string s, .int .u32 M] w fun e w' => e = .returned (.tuple #[.agg pZero, .int .i64 1]) ∧ Below w.heap.size w w' := by
 have hmf : ∀ (fn : Fn) (first cap : Array Value) (w : World), (Instr.makeFunc fn first cap).run Tryz.prog w = .ok (.func fn first cap) w := fun _ _ _ _ => rfl
 have kb := fun W => Lib.run_convert_string_bytes (P := Tryz.prog) W 9 56 5 s Tryz.underlying9 Tryz.underlying56 Tryz.underlying5
 have i4 : (4 : Int) < (s.size : Int) := by omega
 obtain ⟨W0, hW0⟩ : ∃ W, (w.alloc (.cells pZero 29)).alloc (.cells #[.int .i64 0] 3) = W := ⟨_, rfl⟩
 have s0 : W0.heap.size = w.heap.size + 1 + 1 := by rw [← hW0]; simp
 have X0 := Lib.hid hW0
 have S0 := Lib.hid s0
 clear hW0 s0
 go_enter_defers Tryz.func11, Tryz.ntmps11
 go_wp2_with (first
  | (refine wpList_allocTo rfl (some 4) rfl (.pointer (some ⟨w.heap.size, 0, none⟩)) (.cells pZero 29) (by as_aux_lemma => kernel_rfl) ?_)
  | (refine zBD 12 rfl ?_; rw [X0.out]))
 refine (zMd _).mono ?_
 rintro e w' ⟨rfl, rfl⟩
 have hrr : (Lib.bytesWorld W0 5 s).heap.size = w.heap.size + 1 + 1 + 1 := by rw [Lib.bytesWorld_size, S0.out]
 obtain ⟨hR, hz0, hz1, hbe, hsz⟩ := zCT w W0 s X0.out
 rw [hrr, S0.out]
 unfold zC4 at hR hz0 hz1 hbe hsz
 clear hrr
 generalize (Lib.bytesWorld W0 5 s).alloc (.cells #[.slice (some ⟨w.heap.size + 1 + 1, 0, none⟩) s.size (grownCap W0 s.size 0 5)] 76) = W1 at hR hz0 hz1 hbe hsz ⊢
 have R1 := Lib.hid hR
 have Z0 := Lib.hid hz0
 have Z1 := Lib.hid hz1
 have B1 := Lib.hid hbe
 have S1 := Lib.hid hsz
 clear hR hz0 hz1 hbe hsz kb X0 S0
 obtain ⟨W2, hW2⟩ : ∃ W, W1.alloc (.cells #[.int .u32 0, .nilIface] 79) = W := ⟨_, rfl⟩
 have X2 := Lib.hid hW2
 clear hW2
 go_wp2_with fail
 rw [X2.out]
 have hz2 : W2.heap.size = W1.heap.size + 1 := by rw [← X2.out]; simp
 have hb2 : Below W1.heap.size W1 W2 := by rw [← X2.out]; exact (Below.refl _ _).alloc (Nat.le_refl _) _
 have hq2 : W2.heap[W1.heap.size]? = some (.cells #[.int .u32 0, .nilIface] 79 (0, 0)) := by rw [← X2.out]; exact heap_alloc_new _ _
 have e1 := S1.out
 have hR2 : Rd W2 (w.heap.size + 1 + 1 + 1) (w.heap.size + 1 + 1) (tl s) := R1.out.kept (hb2.block _ (by omega)) (hb2.block _ (by omega)) hb2.size
 refine (zHC W1.heap.size (w.heap.size + 1 + 1 + 1) (w.heap.size + 1 + 1) (tl s) M W2 hR2 (by rw [zAH]; exact hs) hM0 hM (by omega) hg).mono ?_
 rintro e w4 ⟨⟨t, x, rfl⟩, hu3⟩
 have z4 := hu3.size
 have y0 : w4.heap[w.heap.size]? = some (.cells pZero 29 (0, 0)) := by rw [hu3.block _ (by omega) (by omega), hb2.block _ (by omega)]; exact Z0.out
 have y1 : w4.heap[w.heap.size + 1]? = some (.cells #[.int .i64 0] 3 (0, 0)) := by rw [hu3.block _ (by omega) (by omega), hb2.block _ (by omega)]; exact Z1.out
 have yb : Below w.heap.size w w4 := (B1.out.trans (hb2.mono (by omega))).trans ⟨hu3.os, hu3.tape, hu3.output, hu3.size, fun k hk => hu3.block k (by omega) (by omega)⟩
 obtain ⟨W6, hW6⟩ : ∃ W, w4.setRow w.heap.size pZero = W := ⟨_, rfl⟩
 have a6 : W6.heap[w.heap.size]? = some (.cells pZero 29 (0, 0)) := by rw [← hW6]; exact zAj y0
 have b6 : W6.heap[w.heap.size + 1]? = some (.cells #[.int .i64 0] 3 (0, 0)) := by rw [← hW6, setRow_other _ _ _ _ (by omega)]; exact y1
 have t6 : Below w.heap.size w W6 := by rw [← hW6]; exact ⟨yb.os, yb.tape, yb.output, by rw [setRow_size]; exact yb.size, fun k hk => by rw [setRow_other _ _ _ _ (by omega)]; exact yb.block k hk⟩
 have c6 : W6.cell? ⟨w.heap.size + 1, 0, none⟩ = some (.int .i64 0) := by rw [zAA b6]; rfl
 have f6 : W6.frozen? ⟨w.heap.size + 1, 0, none⟩ = false := zAP b6 0
 have V0 := Lib.hid y0
 have X6 := Lib.hid hW6
 have A6 := Lib.hid a6
 have T6 := Lib.hid t6
 clear y0 y1 yb a6 b6 t6 hW6 Z0 Z1 B1 S1 e1 hu3 hb2 hq2 hR2 hz2 z4 R1 X2
 generalize W1.heap.size = q at *
 go_wp2_with (first
  | refine wpList_buildTo rfl 29 _ rfl (some 48) rfl pZero (by as_aux_lemma => kernel_rfl) ?_
  | (refine wpList_store_row rfl 29 _ _ rfl w.heap.size pZero rfl rfl 29 pZero V0.out zE9 rfl zJK ?_; rw [X6.out]))
 refine leaves_cons (f := 28) (args := #[.pointer (some ⟨w.heap.size, 0, none⟩), .pointer (some ⟨w.heap.size + 1, 0, none⟩)]) (by simp) (by simp [go_sem]) ?_
 refine (zDc _ _ _).mono ?_
 rintro e u' w'' ⟨rfl, rfl, rfl⟩
 have r1 : (W6.setCell ⟨w.heap.size + 1, 0, none⟩ (.int .i64 1)).heap[w.heap.size]? = some (.cells pZero 29 (0, 0)) := by rw [Below.heap_setCell _ _ _ _ (by show w.heap.size ≠ w.heap.size + 1; omega)]; exact A6.out
 have r2 : (W6.setCell ⟨w.heap.size + 1, 0, none⟩ (.int .i64 1)).cell? ⟨w.heap.size + 1, 0, none⟩ = some (.int .i64 1) := zBZ c6
 have hfin : Below w.heap.size w (W6.setCell ⟨w.heap.size + 1, 0, none⟩ (.int .i64 1)) := T6.out.setCell (by simp) _
 generalize W6.setCell ⟨w.heap.size + 1, 0, none⟩ (.int .i64 1) = W7 at *
 have hl : (loadVar 3 ⟨w.heap.size + 1, 0, none⟩).run Tryz.prog W7 = .ok (.int .i64 1) W7 := by simp [go_sem, r2]
 exact ⟨_, results_cc Tryz.results11 _ _ w.heap.size (w.heap.size + 1) 29 pZero (0, 0) _ _ rfl rfl r1 Tryz.underlying29 rfl zE9 hl, rfl, hfin⟩
end Go.Proofs.YtgnficcjnijdbaaGreat
namespace Go.Proofs.YtgnficcjnijdbaaGreat
open Go.RowKit
def MB (base : Nat) (w0 w : World) (g : Nat) (l : List UInt8) : Prop := ∃ v, MBuf base w g v l ∧ Below base w0 w
theorem MB.below {base : Nat} {w0 w : World} {g : Nat} {l : List UInt8} (h : MB base w0 w g l) : Below base w0 w := by obtain ⟨_, _, h⟩ := h; exact h
theorem MB.step {base : Nat} {w0 w w' : World} {g : Nat} {v : Value} {l l' : List UInt8} (hb : MBuf base w g v l) (h0 : Below base w0 w) (h : ∃ v', MBuf base w' g v' l' ∧ Upd g v w w' ∧ (v'.ownBlock = v.ownBlock ∨ ∃ k, v'.ownBlock = some k ∧ w.heap.size ≤ k)) : MB base w0 w' g l' := by
 obtain ⟨v', m, u, _⟩ := h
 exact ⟨v', m, h0.trans (hb.below u)⟩
theorem zHE {base : Nat} {w0 w : World} {g : Nat} {l : List UInt8} (hb : MB base w0 w g l) (x : Int) (h0 : 0 ≤ x) (h1 : x ≤ 4294967295) (hl : l.length ≤ 900000000) :
  Calls Tryz.prog 48 #[.pointer (some ⟨g, 0, none⟩), .int .u32 x] w fun e w' => e = .returned (.tuple #[]) ∧ MB base w0 w' g (l ++ zAQ x) := by
 obtain ⟨v, m, b⟩ := hb
 exact (zD8 base g v l x w m h0 h1 (by omega)).mono fun e w' ⟨he, h⟩ => ⟨he, .step m b h⟩
theorem zNm {base : Nat} {w0 w : World} {g : Nat} {l : List UInt8} (hb : MB base w0 w g l) (x : Int) (h0 : 0 ≤ x) (h1 : x ≤ 18446744073709551615) (hl : l.length ≤ 900000000) :
  Calls Tryz.prog 109 #[.pointer (some ⟨g, 0, none⟩), .int .u64 x] w fun e w' => e = .returned (.tuple #[]) ∧ MB base w0 w' g (l ++ zBN x) := by
 obtain ⟨v, m, b⟩ := hb
 exact (zGv base g v l x w m h0 h1 (by omega)).mono fun e w' ⟨he, h⟩ => ⟨he, .step m b h⟩
theorem zB4 {base : Nat} {w0 w : World} {g : Nat} {l : List UInt8} (hb : MB base w0 w g l) (s : ByteArray) (hl : l.length ≤ 900000000) (hs : s.size ≤ 100000000) :
  Calls Tryz.prog 66 #[.pointer (some ⟨g, 0, none⟩), .string s] w fun e w' => e = .returned (.tuple #[]) ∧ MB base w0 w' g (l ++ str (tl s)) := by
 obtain ⟨v, m, b⟩ := hb
 exact (zAv base g v l s w m hl hs).mono fun e w' ⟨he, h⟩ => ⟨he, .step m b h⟩
theorem zAK (l : List UInt8) : (str l).length = 4 + l.length := by simp [str, zAQ]; omega
theorem zAM (x : Int) : (zAQ x).length = 4 := rfl
theorem zAS (x : Int) : (zBN x).length = 8 := rfl
def pk0 (t id : Int) : List UInt8 := [0, 0, 0, 0, bt t] ++ zAQ id
theorem zA3 (t id : Int) : (pk0 t id).length = 9 := rfl
def zBk (hd : List UInt8) (A : Option Addr) (n c : Nat) (w : World) (e : Ending) (w' : World) : Prop :=
 ∃ v, e = .returned (.tuple #[v, .slice A n c, .nilIface]) ∧ w'.ownsRow w.heap.size 5 1 v hd.length (u8s hd) ∧ Below w.heap.size w w'
def zA5 (t id : Int) (F : List UInt8) (n : Nat) : List UInt8 := zAQ (5 + F.length + n) ++ [bt t] ++ zAQ id ++ F
theorem zCe (t id : Int) (F pl : List UInt8) : zA5 t id F pl.length ++ pl = zA2 t id (F ++ pl) := by
 unfold zA5 zA2
 rw [List.length_append]
 simp [Int.add_assoc]
theorem zBT (t id : Int) (F : List UInt8) : zA5 t id F 0 = zA2 t id F := by
 unfold zA5 zA2
 simp
theorem zBS (t id : Int) (F L : List UInt8) (n : Nat) (h : L = pk0 t id ++ F) : zAQ (((L.length : Nat) : Int) - 4 + (n : Int)) ++ L.drop 4 = zA5 t id F n := by
 subst h
 unfold zA5
 rw [show (((pk0 t id ++ F).length : Nat) : Int) - 4 + (n : Int) = 5 + (F.length : Int) + n from by rw [List.length_append, zA3]; omega]
 simp [pk0]
end Go.Proofs.YtgnficcjnijdbaaGreat
namespace Go.Proofs.YtgnficcjnijdbaaGreat
open Go.RowKit Go.Great
def zCf (hd pl : List UInt8) (w : World) (e : Ending) (w' : World) : Prop :=
 ∃ v A n c, e = .returned (.tuple #[v, .slice A n c, .nilIface]) ∧ w'.ownsRow w.heap.size 5 1 v hd.length (u8s hd) ∧ pl.length = n ∧ (A = none ∧ n = 0 ∧ c = 0 ∨ ∃ s o, A = some ⟨s, o, none⟩ ∧ ∀ j b, pl[j]? = some b → w'.cell? ⟨s, o + j, none⟩ = some (u8 b)) ∧ Below w.heap.size w w'
theorem zDY {P : Array Value} (h : P.size = 24) : (Tryz.prog.info? 29).map (·.size) = some P.size := by rw [h]; exact zAo
theorem zBo (P : Array Value) (t : Int) (tp : TypeId) (F : Nat) (id : Int) (hd pl : List UInt8) (w : World) (hsz : P.size = 24) (h0 : P[0]? = some (.int .i64 t)) (t1 : (t == 1) = false) (t2 : (t == 2) = false) (h1 : P[1]? = some (.int .u32 id))
  (hm : ∀ (v : Value) (w : World), (Go.method 357 tp v "MarshalPacket").run Tryz.prog w = .ok (F, v) w) (hc : ∀ (args : Array Value) (w : World), (callFunc F args).run Tryz.prog w = .ok (.enter F args) w)
  (hbody : ∀ W : World, Below w.heap.size w W → Calls Tryz.prog 26 #[.agg P] W fun e w' => (∃ b, e = .returned (.iface tp (.pointer (some ⟨b, 0, none⟩))) ∧ Calls Tryz.prog F #[.pointer (some ⟨b, 0, none⟩), .int .u32 id, .slice none 0 0] w' (zCf hd pl w')) ∧ Below W.heap.size W w')
  (hl : hd.length ≤ 100000000) (hp : pl.length ≤ 100000000) (hl0 : 0 < hd.length) :
  Calls Tryz.prog 10 #[.agg P] w fun e w' => e = .returned (.tuple #[.string (bs (hd ++ pl)), .int .i64 0]) ∧ Below w.heap.size w w' := by
 have hmf : ∀ (fn : Fn) (first cap : Array Value) (w : World), (Instr.makeFunc fn first cap).run Tryz.prog w = .ok (.func fn first cap) w := fun _ _ _ _ => rfl
 obtain ⟨W, hW⟩ : ∃ W, ((w.alloc (.cells P 29)).alloc (.cells #[.string ⟨#[]⟩] 9)).alloc (.cells #[.int .i64 0] 3) = W := ⟨_, rfl⟩
 have hsz0 : W.heap.size = w.heap.size + 3 := by rw [← hW]; simp
 have hb0 : W.heap[w.heap.size]? = some (.cells P 29 (0, 0)) := by
  rw [← hW, heap_alloc_old _ _ (by simp; omega), heap_alloc_old _ _ (by simp)]; exact heap_alloc_new _ _
 have hbl : Below w.heap.size w W := by rw [← hW]; exact (((Below.refl _ _).alloc (Nat.le_refl _) _).alloc (by simp) _).alloc (by simp; omega) _
 have hb1 : W.heap[w.heap.size + 1]? = some (.cells #[.string ⟨#[]⟩] 9 (0, 0)) := by
  rw [← hW, heap_alloc_old _ _ (by simp)]
  have := heap_alloc_new (w.alloc (.cells P 29)) (.cells #[.string ⟨#[]⟩] 9 (0, 0))
  rwa [show (w.alloc (.cells P 29)).heap.size = w.heap.size + 1 from by simp] at this
 have hb2 : W.heap[w.heap.size + 1 + 1]? = some (.cells #[.int .i64 0] 3 (0, 0)) := by
  rw [← hW]
  have := heap_alloc_new ((w.alloc (.cells P 29)).alloc (.cells #[.string ⟨#[]⟩] 9 (0, 0))) (.cells #[.int .i64 0] 3 (0, 0))
  rwa [show ((w.alloc (.cells P 29)).alloc (.cells #[.string ⟨#[]⟩] 9 (0, 0))).heap.size = w.heap.size + 1 + 1 from by simp] at this
 have c0 : W.cell? ⟨w.heap.size, 0, none⟩ = some (.int .i64 t) := by rw [zAA hb0]; exact h0
 have c1 : W.cell? ⟨w.heap.size, 1, none⟩ = some (.int .u32 id) := by rw [zAA hb0]; exact h1
 have B1 := Lib.hid hb1
 have B2 := Lib.hid hb2
 have HW := Lib.hid hW
 have HB := Lib.hid hb0
 have HL := Lib.hid hbl
 have HBO := Lib.hid (hbody W hbl)
 have PS := Lib.hid hsz
 clear hW hb0 hbl hb1 hb2 hsz0 hbody h0 h1 hsz
 go_enter_defers Tryz.func10, Tryz.ntmps10
 go_wp2_with (first | refine wpList_boxTo rfl 29 _ rfl (some 1) rfl w.heap.size rfl P rfl ?_ | (refine zBD 7 rfl ?_; rw [HW.out]) | (refine wpList_load_row rfl 29 _ rfl w.heap.size rfl 29 P (0, 0) _ HB.out Tryz.underlying29 rfl (zDY PS.out) ?_))
 refine HBO.out.mono ?_
 rintro e w1 ⟨⟨b, rfl, hC⟩, hbel⟩
 have zW : W.heap.size = w.heap.size + 1 + 1 + 1 := by rw [← HW.out]; simp
 have hL1 : Below w.heap.size w w1 := HL.out.trans (hbel.mono (by omega))
 have k1 := (hbel.block (w.heap.size + 1) (by omega)).trans B1.out
 have k2 := (hbel.block (w.heap.size + 1 + 1) (by omega)).trans B2.out
 have d1 : w1.cell? ⟨w.heap.size, 1, none⟩ = some (.int .u32 id) := by rw [cell_kept (hbel.block _ (by omega))]; exact c1
 have z1 := hbel.size
 have C := Lib.hid hC
 have L1 := Lib.hid hL1
 have K1 := Lib.hid k1
 have K2 := Lib.hid k2
 clear hbel hL1 k1 k2 hC HW HB HL B1 B2 c0 c1 HBO t1 t2
 go_wp2_with fail
 refine C.out.mono ?_
 rintro e w2 ⟨v, A, n, c, rfl, hown, hn, hsrc, hb2⟩
 have z2 := hb2.size
 have C2 := Lib.hid (zJH w1.heap.size v hd A n c pl w2 hown z2 (by omega) hn (by omega) hsrc)
 have k1 := (hb2.block (w.heap.size + 1) (by omega)).trans K1.out
 have k2 := (hb2.block (w.heap.size + 1 + 1) (by omega)).trans K2.out
 have L2 := Lib.hid (L1.out.trans (hb2.mono (by omega)))
 have J1 := Lib.hid k1
 have J2 := Lib.hid k2
 clear hb2 k1 k2 hown C L1 K1 K2 d1 hsrc hn hm
 go_wp2_with fail
 refine C2.out.mono ?_
 rintro e w3 ⟨v', rfl, hown, hb3⟩
 have z3 := hb3.size
 have k1 := (hb3.block (w.heap.size + 1) (by omega)).trans J1.out
 have k2 := (hb3.block (w.heap.size + 1 + 1) (by omega)).trans J2.out
 have L3 := Lib.hid (L2.out.trans (hb3.mono (by omega)))
 have e1 : w3.cell? ⟨w.heap.size + 1, 0, none⟩ = some (.string ⟨#[]⟩) := by rw [zAA k1]; rfl
 have e2 : w3.cell? ⟨w.heap.size + 1 + 1, 0, none⟩ = some (.int .i64 0) := by rw [zAA k2]; rfl
 have g1 : w3.frozen? ⟨w.heap.size + 1, 0, none⟩ = false := zAP k1 0
 have g2 : w3.frozen? ⟨w.heap.size + 1 + 1, 0, none⟩ = false := zAP k2 0
 obtain ⟨s, c, rfl, hl⟩ := zCp hown (by rw [List.length_append]; omega)
 have hcv := zCL w3 s 0 c _ hl 56 9 5 Tryz.underlying56 Tryz.underlying5 Tryz.underlying9
 clear hb3 k1 k2 hown C2 L2 J1 J2 hl hl0 hp
 generalize hP : hd ++ pl = F at *
 have HP := Lib.hid hP
 clear hP
 go_wp2_with fail
 refine leaves_cons (f := 22) (args := #[.pointer (some ⟨w.heap.size + 1, 0, none⟩), .pointer (some ⟨w.heap.size + 1 + 1, 0, none⟩)]) (by simp) (by simp [go_sem]) ?_
 refine (zDD _ _ _).mono ?_
 rintro e u' w'' ⟨rfl, rfl, rfl⟩
 have r1 : ((w3.setCell ⟨w.heap.size + 1, 0, none⟩ (.string (bs F))).setCell ⟨w.heap.size + 1 + 1, 0, none⟩ (.int .i64 0)).cell? ⟨w.heap.size + 1, 0, none⟩ = some (.string (bs F)) := by
  rw [zAz (by intro e; injection e; omega)]; exact zBZ e1
 have r2 : ((w3.setCell ⟨w.heap.size + 1, 0, none⟩ (.string (bs F))).setCell ⟨w.heap.size + 1 + 1, 0, none⟩ (.int .i64 0)).cell? ⟨w.heap.size + 1 + 1, 0, none⟩ = some (.int .i64 0) := by
  refine zBZ (u := .int .i64 0) ?_
  rw [zAz (by intro e; injection e; omega)]; exact e2
 have hfin : Below w.heap.size w ((w3.setCell ⟨w.heap.size + 1, 0, none⟩ (.string (bs F))).setCell ⟨w.heap.size + 1 + 1, 0, none⟩ (.int .i64 0)) := (L3.out.setCell (by simp) _).setCell (by simp; omega) _
 have HF := Lib.hid hfin
 clear hfin e1 e2 g1 g2 hcv
 generalize (w3.setCell ⟨w.heap.size + 1, 0, none⟩ (.string (bs F))).setCell ⟨w.heap.size + 1 + 1, 0, none⟩ (.int .i64 0) = W4 at *
 simp [Leaves, settle, results, Tryz.results10, go_sem, r1, r2]
 exact ⟨by rw [HP.out], HF.out⟩
theorem zBE (P : Array Value) (t : Int) (tp : TypeId) (F : Nat) (id : Int) (hd pl : List UInt8) (w : World) (hsz : P.size = 24) (h0 : P[0]? = some (.int .i64 t)) (t1 : (t == 1) = false) (t2 : (t == 2) = false) (h1 : P[1]? = some (.int .u32 id))
  (hm : ∀ (v : Value) (w : World), (Go.method 357 tp v "MarshalPacket").run Tryz.prog w = .ok (F, v) w) (hc : ∀ (args : Array Value) (w : World), (callFunc F args).run Tryz.prog w = .ok (.enter F args) w)
  (hbody : ∀ W : World, Calls Tryz.prog 26 #[.agg P] W fun e w' => (∃ b, e = .returned (.iface tp (.pointer (some ⟨b, 0, none⟩))) ∧ Calls Tryz.prog F #[.pointer (some ⟨b, 0, none⟩), .int .u32 id, .slice none 0 0] w' (zCf hd pl w')) ∧ Below W.heap.size W w')
  (hl : hd.length ≤ 100000000) (hp : pl.length ≤ 100000000) (hl0 : 0 < hd.length) :
  Calls Tryz.prog 10 #[.agg P] w fun e w' => e = .returned (.tuple #[.string (bs (hd ++ pl)), .int .i64 0]) ∧ Below w.heap.size w w' :=
 zBo P t tp F id hd pl w hsz h0 t1 t2 h1 hm hc (fun W _ => hbody W) hl hp hl0
theorem zBe {hd : List UInt8} {w : World} {e : Ending} {w' : World} (h : zBk hd none 0 0 w e w') : zCf hd [] w e w' := by
 obtain ⟨v, he, ho, hb⟩ := h
 exact ⟨v, none, 0, 0, he, ho, rfl, .inl ⟨rfl, rfl, rfl⟩, hb⟩
theorem zB5 {hd : List UInt8} {w : World} {e : Ending} {w' : World} (h : zCl hd w e w') : zCf hd [] w e w' := by
 obtain ⟨v, he, ho, hb⟩ := h
 exact ⟨v, none, 0, 0, he, ho, rfl, .inl ⟨rfl, rfl, rfl⟩, hb⟩
theorem zHF {hd pl : List UInt8} {s o n c : Nat} {w : World} {e : Ending} {w' : World} (h : zBk hd (some ⟨s, o, none⟩) n c w e w') (hn : pl.length = n) (hs : s < w.heap.size) (hl : Lies w s o pl) : zCf hd pl w e w' := by
 obtain ⟨v, he, ho, hb⟩ := h
 exact ⟨v, _, n, c, he, ho, hn, .inr ⟨s, o, rfl, hl.kept (hb.block s hs)⟩, hb⟩
end Go.Proofs.YtgnficcjnijdbaaGreat
namespace Go.Proofs.YtgnficcjnijdbaaGreat
open Go.RowKit
theorem zCY {P : Program} {ops : Array Oper} {S : World → Prop} {op : Oper} {a : Act} (hw : Region.wanted op (yielded ops a.tmps) = true) (ty : TypeId) (x : Operand) (ho : op.op = .load ty x)
  (g : Nat) (hx : a.eval x = .pointer (some ⟨g, 0, none⟩)) (t : TypeId) (cs : Array Value) (fr : Nat × Nat) (d : TypeDesc) (hS : ∀ w, S w → w.heap[g]? = some (.cells cs t fr))
  (hu : P.underlying ty = some d) (hd : (match d with | .struct _ | .array _ _ => true | _ => false) = true) (hi : (P.info? ty).map (·.size) = some cs.size) : YieldsIf P ops S op (.agg cs) a :=
 .inl ⟨hw, fun w hw' => by
  unfold execOp
  simp only [ho, hx, Instr.loadAt, Instr.sureAddr, Sem.run_bind, Sem.run_pure, Result.andThen_ok, run_loadVar_row w g t ty cs fr d (hS w hw') hu hd hi]⟩
theorem zDd {P : Program} {md : Region.Mode} {ops : Array Oper} {Q : Exit → Act → World → Prop} {S : World → Prop} (d : Option Tmp) {i : Nat} {oi : Oper} {v : Value} {fuel : Nat} {listed : Array Bool} {a : Act} {w : World} (hi : ops[i]? = some oi) (hd : oi.dst = d)
  (hs : Region.noSelect ops = true) (hf : Region.free md ops listed i = true) (hr : (Region.ready md ops listed).contains i = true)
  (hQ : ∀ c a w, Q (.panic c) (a.put oi.dst v) w → Q (.panic c) a w) (hy : YieldsIf P ops S oi v a) (hS : S w)
  (h : wpAnyH P md ops Q S fuel (listed.setIfInBounds i true) (a.put d v) w) : wpAnyH P md ops Q S (fuel + 1) listed a w := by
 subst hd
 exact wpAnyH_take hi hs hf hr hQ hy hS h
theorem tkY {P : Program} {md : Region.Mode} {ops : Array Oper} {Q : Exit → Act → World → Prop} {S : World → Prop} (d i : Nat) (v : Value) {oi : Oper} {fuel : Nat} {listed : Array Bool} {a : Act} {w : World} (hi : ops[i]? = some oi) (hy : YieldsIf P ops S oi v a) (hS : S w)
  (h : wpAnyH P md ops Q S fuel (listed.setIfInBounds i true) (a.put (some d) v) w) (hd : oi.dst = some d := by rfl) (hs : Region.noSelect ops = true := by kernel_rfl) (hf : Region.free md ops listed i = true := by kernel_rfl) (hr : (Region.ready md ops listed).contains i = true := by kernel_rfl)
  (hQ : ∀ c a w, Q (.panic c) (a.put oi.dst v) w → Q (.panic c) a w := by exact fun _ _ _ h => h) : wpAnyH P md ops Q S (fuel + 1) listed a w := zDd (some d) hi hd hs hf hr hQ hy hS h
theorem tkE {P : Program} {md : Region.Mode} {ops : Array Oper} {Q : Exit → Act → World → Prop} {S : World → Prop} (d i : Nat) (v : Value) {oi : Oper} {fuel : Nat} {listed : Array Bool} {a : Act} {w : World} (hS : S w)
  (h : wpAnyH P md ops Q S fuel (listed.setIfInBounds i true) (a.put (some d) v) w) (hi : ops[i]? = some oi := by rfl) (hd : oi.dst = some d := by rfl) (hs : Region.noSelect ops = true := by kernel_rfl) (hf : Region.free md ops listed i = true := by kernel_rfl) (hr : (Region.ready md ops listed).contains i = true := by kernel_rfl)
  (hQ : ∀ c a w, Q (.panic c) (a.put oi.dst v) w → Q (.panic c) a w := by exact fun _ _ _ h => h) (hy : YieldsIf P ops S oi v a := by exact Or.inl ⟨by rfl, fun w' hw' => by go_simp⟩) : wpAnyH P md ops Q S (fuel + 1) listed a w := zDd (some d) hi hd hs hf hr hQ hy hS h
theorem zAJ : (∀ (a : Act) (d : Tmp) (v : Value), a.put (some d) v = { a with tmps := a.tmps.setIfInBounds d v }) ∧ (∀ (a : Act) (v : Value), a.put none v = a) ∧ (∀ {α : Type} (l : List α) (i : Nat) (x : α), l.toArray.setIfInBounds i x = (l.set i x).toArray) ∧ (∀ {α : Type} (l : List α) (x y : α), (x :: l).set 0 y = y :: l) ∧ (∀ {α : Type} (l : List α) (i : Nat) (x y : α), (x :: l).set (i + 1) y = x :: l.set i y) :=
 ⟨fun _ _ _ => rfl, fun _ _ => rfl, fun _ _ _ => by simp, fun _ _ _ => rfl, fun _ _ _ _ => rfl⟩
theorem zBH {B : Nat} {w W : World} (h : Below B w W) : Below B w W.drew := ⟨h.os, h.tape, h.output, h.size, h.block⟩
theorem zBO {w w' : World} {b : Nat} {o : Obj} (hb : Below w.heap.size w w') (h : w.heap[b]? = some o) : w'.heap[b]? = some o := by
 have : b < w.heap.size := (Array.getElem?_eq_some_iff.1 h).1
 rw [hb.block _ this]; exact h
section
variable {P : Program} {ops : Array Oper} {rest : List Oper} {op : Oper} {a : Act} {w : World} {K : Act → World → Prop} {Q : Exit → Act → World → Prop}
def zDe (P : Program) (ty : TypeId) : Prop := ∃ d, P.underlying ty = some d ∧ (match d with | .struct _ | .array _ _ => false | _ => true) = true
theorem zBs {ty : TypeId} (hf : zDe P ty) (w : World) (g i : Nat) (R : Array Value) (t : TypeId) (fr : Nat × Nat) (v : Value) (hg : w.heap[g]? = some (.cells R t fr)) (hv : R[i]? = some v) :
  (loadVar ty ⟨g, i, none⟩).run P w = .ok v w := by
 obtain ⟨d, hd, hk⟩ := hf
 have hc : w.cell? ⟨g, i, none⟩ = some v := by rw [zAA hg]; exact hv
 cases d <;> simp_all [loadVar, isAgg, run_underlying hd, go_sem]
theorem zMy (ty : TypeId) (x : Operand) (ho : op.op = .load ty x) (hf : zDe P ty) (g i : Nat) (hx : a.eval x = .pointer (some ⟨g, i, none⟩)) (R : Array Value) (t : TypeId) (fr : Nat × Nat) (v : Value) (hg : w.heap[g]? = some (.cells R t fr)) (hv : R[i]? = some v)
  (h : K (a.put op.dst v) w) : op.wp P a w K Q := by
 unfold Oper.wp execOp
 simp only [ho, hx, Instr.loadAt, Instr.sureAddr, Sem.run_bind, Sem.run_pure, Result.andThen_ok, zBs hf w g i R t fr v hg hv]
 exact h
theorem zA8 (hgd : op.guard = none) (ty : TypeId) (x : Operand) (ho : op.op = .load ty x) (hf : zDe P ty) (g i : Nat) (hx : a.eval x = .pointer (some ⟨g, i, none⟩)) (R : Array Value) (t : TypeId) (fr : Nat × Nat) (v : Value) (hg : w.heap[g]? = some (.cells R t fr)) (hv : R[i]? = some v)
  (h : wpList P ops Q rest (a.put op.dst v) w) : wpList P ops Q (op :: rest) a w :=
 wpList_plain hgd fun _ hK => zMy ty x ho hf g i hx R t fr v hg hv (hK _ _ h)
theorem zAV {S : World → Prop} (hw : Region.wanted op (yielded ops a.tmps) = true) (ty : TypeId) (x : Operand) (ho : op.op = .load ty x) (hf : zDe P ty) (g i : Nat) (hx : a.eval x = .pointer (some ⟨g, i, none⟩)) (R : Array Value) (t : TypeId) (fr : Nat × Nat) (v : Value)
  (hS : ∀ w, S w → w.heap[g]? = some (.cells R t fr)) (hv : R[i]? = some v) : YieldsIf P ops S op v a :=
 .inl ⟨hw, fun w hw' => by
  unfold execOp
  simp only [ho, hx, Instr.loadAt, Instr.sureAddr, Sem.run_bind, Sem.run_pure, Result.andThen_ok, zBs hf w g i R t fr v (hS w hw') hv]⟩
theorem zMD {ty : TypeId} (hs : (P.info? ty).map (·.size) = some 1) (w : World) (g i : Nat) (R : Array Value) (t : TypeId) (v : Value) (hg : w.heap[g]? = some (.cells R t (0, 0))) (hi : i < R.size) (hc : v.cells = #[v]) (h1 : v.oneCell' = true) :
  (storeVar ty ⟨g, i, none⟩ v).run P w = .ok () (w.setCell ⟨g, i, none⟩ v) := by
 have h := run_storeCells_cells (P := P) g i [v] 0 w (fun j hj => by
   have : j = 0 := by simpa using hj
   subst this
   show (w.cell? ⟨g, i, none⟩).isSome = true
   rw [zAA hg, Array.getElem?_eq_getElem hi]; rfl) (fun j hj => zAP hg _) (fun u hu => by simp at hu; subst hu; exact h1)
 cases hq : P.info? ty with
 | none => simp [hq] at hs
 | some j =>
  have hs' : j.size = 1 := by simpa [hq] using hs
  simp only [Nat.add_zero] at h
  simp [storeVar, sizeOf, typeInfo, hq, hc, hs', h]
  rfl
theorem zAt (ty : TypeId) (x y : Operand) (ho : op.op = .store ty x y) (hs : (P.info? ty).map (·.size) = some 1) (g i : Nat) (hx : a.eval x = .pointer (some ⟨g, i, none⟩)) (v : Value) (hy : a.eval y = v) (R : Array Value) (t : TypeId) (hg : w.heap[g]? = some (.cells R t (0, 0))) (hi : i < R.size) (hc : v.cells = #[v]) (h1 : v.oneCell' = true)
  (h : K (a.put op.dst undef) (w.setCell ⟨g, i, none⟩ v)) : op.wp P a w K Q := by
 unfold Oper.wp execOp
 simp only [ho, hx, hy, Instr.storeAt, Instr.sureAddr, Sem.run_bind, Sem.run_pure, Result.andThen_ok, zMD hs w g i R t v hg hi hc h1]
 exact h
theorem zAh (hgd : op.guard = none) (ty : TypeId) (x y : Operand) (ho : op.op = .store ty x y) (hs : (P.info? ty).map (·.size) = some 1) (g i : Nat) (hx : a.eval x = .pointer (some ⟨g, i, none⟩)) (v : Value) (hy : a.eval y = v) (R : Array Value) (t : TypeId) (hg : w.heap[g]? = some (.cells R t (0, 0))) (hi : i < R.size) (hc : v.cells = #[v]) (h1 : v.oneCell' = true)
  (h : wpList P ops Q rest (a.put op.dst undef) (w.setCell ⟨g, i, none⟩ v)) : wpList P ops Q (op :: rest) a w :=
 wpList_plain hgd fun _ hK => zAt ty x y ho hs g i hx v hy R t hg hi hc h1 (hK _ _ h)
theorem zB2 {w : World} {g : Nat} {R : Array Value} {t : TypeId} (hg : w.heap[g]? = some (.cells R t (0, 0))) (o n : Nat) (h : o + n ≤ R.size) : w.there g o n := fun j hj =>
 ⟨by rw [zAA hg, Array.getElem?_eq_getElem (by omega)]; rfl, zAP hg _⟩
end
theorem zCq : zDe Tryz.prog 22 := ⟨_, Tryz.underlying22, rfl⟩
theorem zKq : zDe Tryz.prog 23 := ⟨_, Tryz.underlying23, rfl⟩
theorem zNn : zDe Tryz.prog 3 := ⟨_, Tryz.underlying3, rfl⟩
theorem zAk : zDe Tryz.prog 9 := ⟨_, Tryz.underlying9, rfl⟩
theorem zJL : zDe Tryz.prog 27 := ⟨_, Tryz.underlying27, rfl⟩
theorem zDy : zDe Tryz.prog 24 := ⟨_, Tryz.underlying24, rfl⟩
theorem zEL : (Tryz.prog.info? 22).map (·.size) = some 1 := by kernel_rfl
theorem zMe : (Tryz.prog.info? 23).map (·.size) = some 1 := by kernel_rfl
theorem zAw : (Tryz.prog.info? 9).map (·.size) = some 1 := by kernel_rfl
theorem zME : (Tryz.prog.info? 27).map (·.size) = some 1 := by kernel_rfl
theorem zKr : (Tryz.prog.info? 24).map (·.size) = some 1 := by kernel_rfl
end Go.Proofs.YtgnficcjnijdbaaGreat
namespace Go.Proofs.YtgnficcjnijdbaaGreat
open Go.RowKit Go.Great
def zBp (x : Int) : Prop := x = 101 ∨ x = 102 ∨ x = 103 ∨ x = 104 ∨ x = 105 ∨ x = 201
theorem zMF (x : Int) (hx : ¬ zBp x) (w : World) : Calls Tryz.prog 30 #[.int .i64 x] w fun e w' => e = .returned .nilIface ∧ w = w' := by
 have h1 : (x == 101) = false := by unfold zBp at hx; simp; omega
 have h2 : (x == 102) = false := by unfold zBp at hx; simp; omega
 have h3 : (x == 103) = false := by unfold zBp at hx; simp; omega
 have h4 : (x == 104) = false := by unfold zBp at hx; simp; omega
 have h5 : (x == 105) = false := by unfold zBp at hx; simp; omega
 have h6 : (x == 201) = false := by unfold zBp at hx; simp; omega
 clear hx
 go_enter Tryz.func30, Tryz.ntmps30
 go_wp2
 go_ret
 exact ⟨rfl, rfl⟩
theorem zHG (x : Int) : (zBN x).length = 8 := by simp [zBN, zAQ]
theorem zDZ (base g : Nat) (v : Value) (l : List UInt8) (w : World) (hb : MBuf base w g v l) (hl0 : 0 < l.length) (hl : l.length ≤ 1000000000) :
  Calls Tryz.prog 51 #[.pointer (some ⟨g, 0, none⟩)] w fun e w' => e = .returned v ∧ ∃ k, w' = w.drewN k := by
 obtain ⟨h, c, rfl⟩ := zGu hb.own hl0
 have h0 : w.cell? ⟨g, 0, none⟩ = some (.slice (some ⟨h, 0, none⟩) l.length c) := hb.cell
 have h1 : w.cell? ⟨g, 1, none⟩ = some (.int .i64 0) := by rw [zAA hb.blk]; rfl
 have hc : ¬ (c = 0) := by
  obtain ⟨_, h | ⟨g', cap, cur, e, _, _, hcap, _⟩⟩ := hb.own
  ·cases h.1
  ·injection e with _ _ e3; omega
 clear hb
 go_enter Tryz.func51, Tryz.ntmps51
 go_wp2_with fail
 go_quiet (fail)
 go_wp2_with fail
 go_ret
 exact ⟨rfl, _, rfl⟩
theorem zDz (w : World) : Calls Tryz.prog 35 #[.slice none 0 0, .slice none 0 0] w fun e w' => e = .returned (.bool true) ∧ w = w' := by
 go_enter Tryz.func35, Tryz.ntmps35
 go_wp2
 go_loop [13] (fun i => i = .int .i64 0) (fun _ => 0)
 case atStart => rfl
 case round =>
  subst hrel
  go_wp2
  go_ret
  exact ⟨rfl, rfl⟩
def zCN : Array Value := #[n32 0, .int .u64 0, n32 0, n32 0, n32 0, n32 0, n32 0, zIH]
theorem zIK (w : World) : Calls Tryz.prog 34 #[.agg zCN, .agg zCN] w fun e w' => e = .returned (.bool true) ∧ Below w.heap.size w w' := by
 obtain ⟨W, hW⟩ : ∃ W, (w.alloc (.cells zCN 26)).alloc (.cells zCN 26) = W := ⟨_, rfl⟩
 have b2 : W.heap[w.heap.size]? = some (.cells zCN 26 (0, 0)) := by rw [← hW, heap_alloc_old _ _ (by simp)]; exact heap_alloc_new _ _
 have b3 : W.heap[w.heap.size + 1]? = some (.cells zCN 26 (0, 0)) := by
  rw [← hW]
  have := heap_alloc_new (w.alloc (.cells zCN 26)) (.cells zCN 26 (0, 0))
  rwa [show (w.alloc (.cells zCN 26)).heap.size = w.heap.size + 1 from by simp] at this
 have hbl : Below w.heap.size w W := by rw [← hW]; exact ((Below.refl _ _).alloc (Nat.le_refl _) _).alloc (by simp) _
 have c0 : W.cell? ⟨w.heap.size, 0, none⟩ = some (.int .u32 0) := by rw [zAA b2]; rfl
 have d0 : W.cell? ⟨w.heap.size + 1, 0, none⟩ = some (.int .u32 0) := by rw [zAA b3]; rfl
 have c1 : W.cell? ⟨w.heap.size, 1, none⟩ = some (.int .u64 0) := by rw [zAA b2]; rfl
 have d1 : W.cell? ⟨w.heap.size + 1, 1, none⟩ = some (.int .u64 0) := by rw [zAA b3]; rfl
 have c2 : W.cell? ⟨w.heap.size, 2, none⟩ = some (.int .u32 0) := by rw [zAA b2]; rfl
 have d2 : W.cell? ⟨w.heap.size + 1, 2, none⟩ = some (.int .u32 0) := by rw [zAA b3]; rfl
 have c3 : W.cell? ⟨w.heap.size, 3, none⟩ = some (.int .u32 0) := by rw [zAA b2]; rfl
 have d3 : W.cell? ⟨w.heap.size + 1, 3, none⟩ = some (.int .u32 0) := by rw [zAA b3]; rfl
 have c4 : W.cell? ⟨w.heap.size, 4, none⟩ = some (.int .u32 0) := by rw [zAA b2]; rfl
 have d4 : W.cell? ⟨w.heap.size + 1, 4, none⟩ = some (.int .u32 0) := by rw [zAA b3]; rfl
 have c5 : W.cell? ⟨w.heap.size, 5, none⟩ = some (.int .u32 0) := by rw [zAA b2]; rfl
 have d5 : W.cell? ⟨w.heap.size + 1, 5, none⟩ = some (.int .u32 0) := by rw [zAA b3]; rfl
 have c6 : W.cell? ⟨w.heap.size, 6, none⟩ = some (.int .u32 0) := by rw [zAA b2]; rfl
 have d6 : W.cell? ⟨w.heap.size + 1, 6, none⟩ = some (.int .u32 0) := by rw [zAA b3]; rfl
 have c7 : W.cell? ⟨w.heap.size, 7, none⟩ = some (.slice none 0 0) := by rw [zAA b2]; rfl
 have d7 : W.cell? ⟨w.heap.size + 1, 7, none⟩ = some (.slice none 0 0) := by rw [zAA b3]; rfl
 have HW := Lib.hid hW
 have HB := Lib.hid hbl
 have B2 := Lib.hid b2
 have B3 := Lib.hid b3
 clear hW hbl b2 b3
 go_enter Tryz.func34, Tryz.ntmps34
 go_wp2_with (first
  | refine wpList_boxTo rfl 26 _ rfl (some 2) rfl w.heap.size rfl zCN rfl ?_
  | (refine wpList_boxTo rfl 26 _ rfl (some 3) rfl (w.heap.size + 1) (by simp) zCN rfl ?_; rw [HW.out])
  | (go_at_call 35; refine (zDz _).mono ?_; rintro e w' ⟨rfl, rfl⟩))
 go_ret
 exact ⟨rfl, HB.out⟩
theorem zNo (w : World) : Calls Tryz.prog 12 #[.agg (zA4 7 ⟨#[97, 98]⟩), .agg (zA4 7 ⟨#[97, 98]⟩)] w fun e w' => e = .returned (.bool true) ∧ Below w.heap.size w w' := by
 obtain ⟨W, hW⟩ : ∃ W, (w.alloc (.cells (zA4 7 ⟨#[97, 98]⟩) 29)).alloc (.cells (zA4 7 ⟨#[97, 98]⟩) 29) = W := ⟨_, rfl⟩
 have b2 : W.heap[w.heap.size]? = some (.cells (zA4 7 ⟨#[97, 98]⟩) 29 (0, 0)) := by rw [← hW, heap_alloc_old _ _ (by simp)]; exact heap_alloc_new _ _
 have b3 : W.heap[w.heap.size + 1]? = some (.cells (zA4 7 ⟨#[97, 98]⟩) 29 (0, 0)) := by
  rw [← hW]
  have := heap_alloc_new (w.alloc (.cells (zA4 7 ⟨#[97, 98]⟩) 29)) (.cells (zA4 7 ⟨#[97, 98]⟩) 29 (0, 0))
  rwa [show (w.alloc (.cells (zA4 7 ⟨#[97, 98]⟩) 29)).heap.size = w.heap.size + 1 from by simp] at this
 have hbl : Below w.heap.size w W := by rw [← hW]; exact ((Below.refl _ _).alloc (Nat.le_refl _) _).alloc (by simp) _
 have c0 : W.cell? ⟨w.heap.size, 0, none⟩ = some (.int .i64 4) := by rw [zAA b2]; rfl
 have d0 : W.cell? ⟨w.heap.size + 1, 0, none⟩ = some (.int .i64 4) := by rw [zAA b3]; rfl
 have c1 : W.cell? ⟨w.heap.size, 1, none⟩ = some (.int .u32 7) := by rw [zAA b2]; rfl
 have d1 : W.cell? ⟨w.heap.size + 1, 1, none⟩ = some (.int .u32 7) := by rw [zAA b3]; rfl
 have c2 : W.cell? ⟨w.heap.size, 2, none⟩ = some (.string ⟨#[]⟩) := by rw [zAA b2]; rfl
 have d2 : W.cell? ⟨w.heap.size + 1, 2, none⟩ = some (.string ⟨#[]⟩) := by rw [zAA b3]; rfl
 have c3 : W.cell? ⟨w.heap.size, 3, none⟩ = some (.string ⟨#[]⟩) := by rw [zAA b2]; rfl
 have d3 : W.cell? ⟨w.heap.size + 1, 3, none⟩ = some (.string ⟨#[]⟩) := by rw [zAA b3]; rfl
 have c4 : W.cell? ⟨w.heap.size, 4, none⟩ = some (.string ⟨#[97, 98]⟩) := by rw [zAA b2]; rfl
 have d4 : W.cell? ⟨w.heap.size + 1, 4, none⟩ = some (.string ⟨#[97, 98]⟩) := by rw [zAA b3]; rfl
 have c5 : W.cell? ⟨w.heap.size, 5, none⟩ = some (.int .u64 0) := by rw [zAA b2]; rfl
 have d5 : W.cell? ⟨w.heap.size + 1, 5, none⟩ = some (.int .u64 0) := by rw [zAA b3]; rfl
 have c6 : W.cell? ⟨w.heap.size, 6, none⟩ = some (.int .u32 0) := by rw [zAA b2]; rfl
 have d6 : W.cell? ⟨w.heap.size + 1, 6, none⟩ = some (.int .u32 0) := by rw [zAA b3]; rfl
 have c7 : W.cell? ⟨w.heap.size, 7, none⟩ = some (.int .u32 0) := by rw [zAA b2]; rfl
 have d7 : W.cell? ⟨w.heap.size + 1, 7, none⟩ = some (.int .u32 0) := by rw [zAA b3]; rfl
 have c8 : W.cell? ⟨w.heap.size, 8, none⟩ = some (.string ⟨#[]⟩) := by rw [zAA b2]; rfl
 have d8 : W.cell? ⟨w.heap.size + 1, 8, none⟩ = some (.string ⟨#[]⟩) := by rw [zAA b3]; rfl
 have c9 : W.cell? ⟨w.heap.size, 9, none⟩ = some (.int .u32 0) := by rw [zAA b2]; rfl
 have d9 : W.cell? ⟨w.heap.size + 1, 9, none⟩ = some (.int .u32 0) := by rw [zAA b3]; rfl
 have c10 : W.cell? ⟨w.heap.size, 10, none⟩ = some (.int .u64 0) := by rw [zAA b2]; rfl
 have d10 : W.cell? ⟨w.heap.size + 1, 10, none⟩ = some (.int .u64 0) := by rw [zAA b3]; rfl
 have c11 : W.cell? ⟨w.heap.size, 11, none⟩ = some (.int .u32 0) := by rw [zAA b2]; rfl
 have d11 : W.cell? ⟨w.heap.size + 1, 11, none⟩ = some (.int .u32 0) := by rw [zAA b3]; rfl
 have c12 : W.cell? ⟨w.heap.size, 12, none⟩ = some (.int .u32 0) := by rw [zAA b2]; rfl
 have d12 : W.cell? ⟨w.heap.size + 1, 12, none⟩ = some (.int .u32 0) := by rw [zAA b3]; rfl
 have c13 : W.cell? ⟨w.heap.size, 13, none⟩ = some (.int .u32 0) := by rw [zAA b2]; rfl
 have d13 : W.cell? ⟨w.heap.size + 1, 13, none⟩ = some (.int .u32 0) := by rw [zAA b3]; rfl
 have c14 : W.cell? ⟨w.heap.size, 14, none⟩ = some (.int .u32 0) := by rw [zAA b2]; rfl
 have d14 : W.cell? ⟨w.heap.size + 1, 14, none⟩ = some (.int .u32 0) := by rw [zAA b3]; rfl
 have c15 : W.cell? ⟨w.heap.size, 15, none⟩ = some (.int .u32 0) := by rw [zAA b2]; rfl
 have d15 : W.cell? ⟨w.heap.size + 1, 15, none⟩ = some (.int .u32 0) := by rw [zAA b3]; rfl
 have c16 : W.cell? ⟨w.heap.size, 16, none⟩ = some (.slice none 0 0) := by rw [zAA b2]; rfl
 have d16 : W.cell? ⟨w.heap.size + 1, 16, none⟩ = some (.slice none 0 0) := by rw [zAA b3]; rfl
 have c17 : W.cell? ⟨w.heap.size, 17, none⟩ = some (.slice none 0 0) := by rw [zAA b2]; rfl
 have d17 : W.cell? ⟨w.heap.size + 1, 17, none⟩ = some (.slice none 0 0) := by rw [zAA b3]; rfl
 have c18 : W.cell? ⟨w.heap.size, 18, none⟩ = some (.slice none 0 0) := by rw [zAA b2]; rfl
 have d18 : W.cell? ⟨w.heap.size + 1, 18, none⟩ = some (.slice none 0 0) := by rw [zAA b3]; rfl
 have c19 : W.cell? ⟨w.heap.size, 19, none⟩ = some (.int .u32 0) := by rw [zAA b2]; rfl
 have d19 : W.cell? ⟨w.heap.size + 1, 19, none⟩ = some (.int .u32 0) := by rw [zAA b3]; rfl
 have c20 : W.cell? ⟨w.heap.size, 20, none⟩ = some (.int .u32 0) := by rw [zAA b2]; rfl
 have d20 : W.cell? ⟨w.heap.size + 1, 20, none⟩ = some (.int .u32 0) := by rw [zAA b3]; rfl
 have c21 : W.cell? ⟨w.heap.size, 21, none⟩ = some (.string ⟨#[]⟩) := by rw [zAA b2]; rfl
 have d21 : W.cell? ⟨w.heap.size + 1, 21, none⟩ = some (.string ⟨#[]⟩) := by rw [zAA b3]; rfl
 have c22 : W.cell? ⟨w.heap.size, 22, none⟩ = some (.string ⟨#[]⟩) := by rw [zAA b2]; rfl
 have d22 : W.cell? ⟨w.heap.size + 1, 22, none⟩ = some (.string ⟨#[]⟩) := by rw [zAA b3]; rfl
 have c23 : W.cell? ⟨w.heap.size, 23, none⟩ = some (.string ⟨#[]⟩) := by rw [zAA b2]; rfl
 have d23 : W.cell? ⟨w.heap.size + 1, 23, none⟩ = some (.string ⟨#[]⟩) := by rw [zAA b3]; rfl
 have HW := Lib.hid hW
 have HB := Lib.hid hbl
 have B2 := Lib.hid b2
 have B3 := Lib.hid b3
 clear hW hbl b2 b3
 go_enter Tryz.func12, Tryz.ntmps12
 go_wp2_with (first
  | refine wpList_boxTo rfl 29 _ rfl (some 2) rfl w.heap.size rfl (zA4 7 ⟨#[97, 98]⟩) rfl ?_
  | (refine wpList_boxTo rfl 29 _ rfl (some 3) rfl (w.heap.size + 1) (by simp) (zA4 7 ⟨#[97, 98]⟩) rfl ?_; rw [HW.out])
  | (go_at_call 35; refine (zDz _).mono ?_; rintro e w' ⟨rfl, rfl⟩)
  | (go_at_call 34; refine (zIK _).mono ?_))
 rintro e W2 ⟨rfl, hb⟩
 have l2 := zAC B2.out
 have l3 := zAC B3.out
 have e17 : W2.cell? ⟨w.heap.size, 17, none⟩ = some (.slice none 0 0) := by rw [cell_kept (hb.block _ l2)]; exact c17
 have f17 : W2.cell? ⟨w.heap.size + 1, 17, none⟩ = some (.slice none 0 0) := by rw [cell_kept (hb.block _ l3)]; exact d17
 have e18 : W2.cell? ⟨w.heap.size, 18, none⟩ = some (.slice none 0 0) := by rw [cell_kept (hb.block _ l2)]; exact c18
 have f18 : W2.cell? ⟨w.heap.size + 1, 18, none⟩ = some (.slice none 0 0) := by rw [cell_kept (hb.block _ l3)]; exact d18
 have e19 : W2.cell? ⟨w.heap.size, 19, none⟩ = some (.int .u32 0) := by rw [cell_kept (hb.block _ l2)]; exact c19
 have f19 : W2.cell? ⟨w.heap.size + 1, 19, none⟩ = some (.int .u32 0) := by rw [cell_kept (hb.block _ l3)]; exact d19
 have e20 : W2.cell? ⟨w.heap.size, 20, none⟩ = some (.int .u32 0) := by rw [cell_kept (hb.block _ l2)]; exact c20
 have f20 : W2.cell? ⟨w.heap.size + 1, 20, none⟩ = some (.int .u32 0) := by rw [cell_kept (hb.block _ l3)]; exact d20
 have e21 : W2.cell? ⟨w.heap.size, 21, none⟩ = some (.string ⟨#[]⟩) := by rw [cell_kept (hb.block _ l2)]; exact c21
 have f21 : W2.cell? ⟨w.heap.size + 1, 21, none⟩ = some (.string ⟨#[]⟩) := by rw [cell_kept (hb.block _ l3)]; exact d21
 have e22 : W2.cell? ⟨w.heap.size, 22, none⟩ = some (.string ⟨#[]⟩) := by rw [cell_kept (hb.block _ l2)]; exact c22
 have f22 : W2.cell? ⟨w.heap.size + 1, 22, none⟩ = some (.string ⟨#[]⟩) := by rw [cell_kept (hb.block _ l3)]; exact d22
 have e23 : W2.cell? ⟨w.heap.size, 23, none⟩ = some (.string ⟨#[]⟩) := by rw [cell_kept (hb.block _ l2)]; exact c23
 have f23 : W2.cell? ⟨w.heap.size + 1, 23, none⟩ = some (.string ⟨#[]⟩) := by rw [cell_kept (hb.block _ l3)]; exact d23
 have HF := Lib.hid (HB.out.trans (hb.mono HB.out.size))
 clear hb l2 l3 B2 B3 HB HW c0 d0 c1 d1 c2 d2 c3 d3 c4 d4 c5 d5 c6 d6 c7 d7 c8 d8 c9 d9 c10 d10 c11 d11 c12 d12 c13 d13 c14 d14 c15 d15 c16 d16 c17 d17 c18 d18 c19 d19 c20 d20 c21 d21 c22 d22 c23 d23
 go_wp2_with (go_at_call 35; refine (zDz _).mono ?_; rintro e w' ⟨rfl, rfl⟩)
 go_loop [130] (fun i => i = .int .i64 0) (fun _ => 0)
 case atStart => rfl
 case round =>
  subst hrel
  go_wp2
  go_ret
  exact ⟨rfl, HF.out⟩
section
variable {P : Program} {ops : Array Oper} {rest : List Oper} {o : Oper} {a : Act} {Q : Exit → Act → World → Prop} {w : World}
theorem zBf (hw : Region.wanted o (yielded ops a.tmps) = true) (ty : TypeId) (x : Operand) (ho : o.op = .load ty x)
  (g : Nat) (hx : a.eval x = .pointer (some ⟨g, 0, none⟩)) (t : TypeId) (cs : Array Value) (fr : Nat × Nat) (d : TypeDesc) (hg : w.heap[g]? = some (.cells cs t fr))
  (hu : P.underlying ty = some d) (hd : (match d with | .struct _ | .array _ _ => true | _ => false) = true) (hi : (P.info? ty).map (·.size) = some cs.size)
  (h : wpList P ops Q rest (a.put o.dst (.agg cs)) w) : wpList P ops Q (o :: rest) a w :=
 wpList_step fun _ hK => by rw [if_pos hw]; exact wp_load_row ty x ho g hx t cs fr d hg hu hd hi (hK _ _ h)
end
theorem zBX {B : Nat} {w W : World} (h : Below B w W) (hB : B ≤ W.heap.size) (c c' : Array Value) (t : TypeId) : Below B w ((W.alloc (.cells c t)).setRow W.heap.size c') := by
 have h1 := h.alloc hB (.cells c t)
 exact ⟨h1.os, h1.tape, h1.output, by rw [setRow_size]; exact h1.size, fun k hk => by rw [setRow_other _ _ _ _ (by omega)]; exact h1.block k hk⟩
def abS : ByteArray := ⟨#[97, 98]⟩
def sA : ByteArray := ⟨#[0, 0, 0, 11, 4, 0, 0, 0, 7, 0, 0, 0, 2, 97, 98]⟩
def sB : ByteArray := ⟨#[0, 0, 0, 11, 4]⟩
theorem zNp : bs (zA2 4 7 (str (tl abS))) = sA := by kernel_rfl
theorem zO5 : zBd 1048576 (tl sA) = some (4 :: [0, 0, 0, 7, 0, 0, 0, 2, 97, 98]) := by kernel_rfl
theorem zO6 : zBd 1048576 (tl sB) = none := by kernel_rfl
theorem zO7 : (c32 (some [0, 0, 0, 7, 0, 0, 0, 2, 97, 98])).1 = 7 := by kernel_rfl
theorem cBA : bs (cB (c32 (some [0, 0, 0, 7, 0, 0, 0, 2, 97, 98])).2).1 = abS := by kernel_rfl
theorem zO8 : (cB (c32 (some [0, 0, 0, 7, 0, 0, 0, 2, 97, 98])).2).2 = some [] := by kernel_rfl
theorem zNq (w : World) : Calls Tryz.prog 11 #[.string sA, .int .u32 1048576] w fun e w' => e = .returned (.tuple #[.agg (zA4 7 abS), .int .i64 0]) ∧ Below w.heap.size w w' := by
 have h := zJh sA 1048576 _ _ w (fun _ => by kernel_rfl) (by decide) (by decide) (by omega) (by omega) zO5 zO8
 rw [zO7, cBA] at h
 exact h
theorem zNr (w : World) : Calls Tryz.prog 11 #[.string sB, .int .u32 1048576] w fun e w' => e = .returned (.tuple #[.agg pZero, .int .i64 1]) ∧ Below w.heap.size w w' :=
 zKp sB 1048576 w (fun _ => by kernel_rfl) (by decide) (by decide) (by omega) (by omega) zO6
theorem zNs (w : World) : Calls Tryz.prog 13 #[] w fun e w' => e = .returned (.bool true) ∧ Below w.heap.size w w' := by
 obtain ⟨W0, hW0⟩ : ∃ W, w.alloc (.cells pZero 29) = W := ⟨_, rfl⟩
 obtain ⟨W1, hW1⟩ : ∃ W, W0.setRow w.heap.size (zA4 7 abS) = W := ⟨_, rfl⟩
 have k0 : W0.heap[w.heap.size]? = some (.cells pZero 29 (0, 0)) := by rw [← hW0]; exact heap_alloc_new _ _
 have k1 : W1.heap[w.heap.size]? = some (.cells (zA4 7 abS) 29 (0, 0)) := by rw [← hW1]; exact zAj k0
 have hB1 : Below w.heap.size w W1 := by rw [← hW1, ← hW0]; exact zBX (Below.refl _ _) (Nat.le_refl _) _ _ _
 have BB1 := Lib.hid hB1
 have X0 := Lib.hid hW0
 have X1 := Lib.hid hW1
 have K0 := Lib.hid k0
 have K1 := Lib.hid k1
 clear hW0 hW1 k0 k1 hB1
 go_enter Tryz.func13, Tryz.ntmps13
 go_wp2_with (first
  | refine wpList_buildTo rfl 29 _ rfl (some 8) rfl (zA4 7 abS) (by as_aux_lemma => kernel_rfl) ?_
  | (refine wpList_allocTo rfl (some 1) rfl (.pointer (some ⟨w.heap.size, 0, none⟩)) (.cells pZero 29) (by as_aux_lemma => kernel_rfl) ?_; rw [X0.out])
  | (refine wpList_store_row rfl 29 _ _ rfl w.heap.size (zA4 7 abS) rfl rfl 29 pZero K0.out zE9 rfl (zDE 7 abS) ?_; rw [X1.out])
  | refine wpList_load_row rfl 29 _ rfl w.heap.size rfl 29 (zA4 7 abS) (0, 0) _ K1.out Tryz.underlying29 rfl (zBy 7 abS) ?_)
 refine (zII 7 abS W1 (by decide) (by omega) (by omega)).mono ?_
 rintro e w2 ⟨rfl, hb2⟩
 rw [zNp]
 have k2 : w2.heap[w.heap.size]? = some (.cells (zA4 7 abS) 29 (0, 0)) := by rw [hb2.block _ (zAC K1.out)]; exact K1.out
 have K2 := Lib.hid k2
 have BB2 := Lib.hid (BB1.out.trans (hb2.mono BB1.out.size))
 clear k2 hb2 BB1 K0 X0 X1 K1
 go_wp2_with fail
 refine (zNq w2).mono ?_
 rintro e w3 ⟨rfl, hb3⟩
 have k3 : w3.heap[w.heap.size]? = some (.cells (zA4 7 abS) 29 (0, 0)) := by rw [hb3.block _ (zAC K2.out)]; exact K2.out
 obtain ⟨W4, hW4⟩ : ∃ W, w3.alloc (.cells pZero 29) = W := ⟨_, rfl⟩
 obtain ⟨W5, hW5⟩ : ∃ W, W4.setRow w3.heap.size (zA4 7 abS) = W := ⟨_, rfl⟩
 have l3 := zAC k3
 have k4 : W4.heap[w3.heap.size]? = some (.cells pZero 29 (0, 0)) := by rw [← hW4]; exact heap_alloc_new _ _
 have k5 : W5.heap[w3.heap.size]? = some (.cells (zA4 7 abS) 29 (0, 0)) := by rw [← hW5]; exact zAj k4
 have j5 : W5.heap[w.heap.size]? = some (.cells (zA4 7 abS) 29 (0, 0)) := by rw [← hW5, setRow_other _ _ _ _ (by omega), ← hW4, heap_alloc_old _ _ l3]; exact k3
 have hB3 := BB2.out.trans (hb3.mono BB2.out.size)
 have hB5 : Below w.heap.size w W5 := by rw [← hW5, ← hW4]; exact zBX hB3 hB3.size _ _ _
 have BB5 := Lib.hid hB5
 have X4 := Lib.hid hW4
 have X5 := Lib.hid hW5
 have K4 := Lib.hid k4
 have K5 := Lib.hid k5
 have J5 := Lib.hid j5
 clear hW4 hW5 k4 k5 j5 k3 hb3 K2 l3 hB3 hB5 BB2
 go_wp2_with (first
  | (refine wpList_allocTo rfl (some 4) rfl (.pointer (some ⟨w3.heap.size, 0, none⟩)) (.cells pZero 29) (by as_aux_lemma => kernel_rfl) ?_; rw [X4.out])
  | (refine wpList_store_row rfl 29 _ _ rfl w3.heap.size (zA4 7 abS) rfl rfl 29 pZero K4.out zE9 rfl (zDE 7 abS) ?_; rw [X5.out]))
 rw [show sA.extract 0 (min (sA.size : Int) 5).toNat = sB from by kernel_rfl]
 refine (zNr W5).mono ?_
 rintro e w6 ⟨rfl, hb6⟩
 have k6 := (hb6.block _ (zAC K5.out)).trans K5.out
 have j6 := (hb6.block _ (zAC J5.out)).trans J5.out
 obtain ⟨W7, hW7⟩ : ∃ W, w6.alloc (.cells pZero 29) = W := ⟨_, rfl⟩
 obtain ⟨W8, hW8⟩ : ∃ W, W7.setRow w6.heap.size pZero = W := ⟨_, rfl⟩
 have l6 := zAC k6
 have m6 := zAC j6
 have k7 : W7.heap[w6.heap.size]? = some (.cells pZero 29 (0, 0)) := by rw [← hW7]; exact heap_alloc_new _ _
 have k8 : W8.heap[w3.heap.size]? = some (.cells (zA4 7 abS) 29 (0, 0)) := by rw [← hW8, setRow_other _ _ _ _ (by omega), ← hW7, heap_alloc_old _ _ l6]; exact k6
 have j8 : W8.heap[w.heap.size]? = some (.cells (zA4 7 abS) 29 (0, 0)) := by rw [← hW8, setRow_other _ _ _ _ (by omega), ← hW7, heap_alloc_old _ _ m6]; exact j6
 have hB6 := BB5.out.trans (hb6.mono BB5.out.size)
 have hB8 : Below w.heap.size w W8 := by rw [← hW8, ← hW7]; exact zBX hB6 hB6.size _ _ _
 have BB8 := Lib.hid hB8
 have X7 := Lib.hid hW7
 have X8 := Lib.hid hW8
 have K7 := Lib.hid k7
 have K8 := Lib.hid k8
 have J8 := Lib.hid j8
 clear hW7 hW8 k7 k8 j8 k6 j6 hb6 l6 m6 X4 X5 K4 K5 J5 hB6 hB8 BB5
 rw [show sA = ⟨#[0, 0, 0, 11, 4, 0, 0, 0, 7, 0, 0, 0, 2, 97, 98]⟩ from rfl]
 go_wp2_with (first
  | (refine wpList_allocTo rfl (some 6) rfl (.pointer (some ⟨w6.heap.size, 0, none⟩)) (.cells pZero 29) (by as_aux_lemma => kernel_rfl) ?_; rw [X7.out])
  | (refine wpList_store_row rfl 29 _ _ rfl w6.heap.size pZero rfl rfl 29 pZero K7.out zE9 rfl zJK ?_; rw [X8.out])
  | refine zBf (by rfl) 29 _ rfl w.heap.size rfl 29 (zA4 7 abS) (0, 0) _ J8.out Tryz.underlying29 rfl (zBy 7 abS) ?_
  | refine zBf (by rfl) 29 _ rfl w3.heap.size rfl 29 (zA4 7 abS) (0, 0) _ K8.out Tryz.underlying29 rfl (zBy 7 abS) ?_
  | (go_at_call 12; refine (zNo _).mono ?_; rintro e w' ⟨rfl, hb9⟩))
 go_ret
 exact ⟨rfl, BB8.out.trans (hb9.mono BB8.out.size)⟩
end Go.Proofs.YtgnficcjnijdbaaGreat
namespace Go.Proofs.YtgnficcjnijdbaaGreat
open Go.RowKit
section
variable {P : Program} {ops : Array Oper}
def zMG (S : Act → World → Prop) (Q : Exit → Act → World → Prop) : Exit → Act → World → Prop
 | .normal, a, w => S a w
 | e, a, w => Q e a w
theorem zKs {S : Act → World → Prop} {Q : Exit → Act → World → Prop} (h : LetsOut (zMG S Q)) : LetsOut Q := h
theorem zKt {o : Oper} {S : Act → World → Prop} {Q : Exit → Act → World → Prop} {a : Act} {w : World} {K K' : Act → World → Prop} (h : ∀ a w, K a w → K' a w) (hh : o.wp P a w K (zMG S Q)) : o.wp P a w K' Q := by
 unfold Oper.wp at *
 generalize (execOp a.eval o).run P w = r at *
 cases r with
 | ok n w' =>
  cases n <;> simp only [Oper.upon] at hh ⊢ <;>
   first
    | exact h _ _ hh
    | exact Calls.mono hh (fun e w'' he => by cases e <;> first | exact h _ _ he | exact he)
    | exact Rows.mono hh (fun _ _ he => h _ _ he)
 | halt x w' => cases x <;> simp only [Oper.upon] at hh ⊢ <;> exact hh
theorem zEa {Q : Exit → Act → World → Prop} (S : Act → World → Prop) (l2 : List Oper) (h2 : ∀ a w, S a w → wpList P ops Q l2 a w) : ∀ (l1 : List Oper) (a : Act) (w : World), wpList P ops (zMG S Q) l1 a w → wpList P ops Q (l1 ++ l2) a w := by
 intro l1
 induction l1 with
 | nil => exact fun a w h => h2 a w h
 | cons o l ih =>
  intro a w h
  rw [List.cons_append]
  unfold wpList at h ⊢
  split
  ·rename_i hw
   rw [if_pos hw] at h
   exact h.imp (zKt ih) (fun h => ⟨h.1, zKs h.2⟩)
  ·rename_i hw
   rw [if_neg hw] at h
   exact ih _ _ h
theorem zCg {Q : Exit → Act → World → Prop} (k : Nat) (S : Act → World → Prop) {l : List Oper} {a : Act} {w : World} (h1 : wpList P ops (zMG S Q) (l.take k) a w) (h2 : ∀ a w, S a w → wpList P ops Q (l.drop k) a w) : wpList P ops Q l a w := by
 have h := zEa S (l.drop k) h2 (l.take k) a w h1
 rwa [List.take_append_drop] at h
end
end Go.Proofs.YtgnficcjnijdbaaGreat
namespace Go.Proofs.YtgnficcjnijdbaaGreat
open Go.RowKit Go.Great
theorem zDf {a b : Int} (h : a % 256 = b % 256) : bt a = bt b := by unfold bt; rw [h]
theorem zDF (x : Int) (t : List UInt8) (h0 : 0 ≤ x) (h1 : x ≤ 4294967295) : zCJ (zAQ x ++ t) = x := by
 have e : ∀ i, gi (zAQ x ++ t) i = (((zAQ x ++ t).getD i 0).toNat : Int) := fun _ => rfl
 unfold zCJ
 rw [e, e, e, e]
 simp only [zAQ, List.cons_append, List.nil_append, List.getD_cons_zero, List.getD_cons_succ]
 rw [zDx, zDx, zDx, zDx]
 omega
theorem zEb (x : Int) (t : List UInt8) (h0 : 0 ≤ x) (h1 : x ≤ 18446744073709551615) : c64 (some (zBN x ++ t)) = (x, some t) := by
 have hl : 8 ≤ (zBN x ++ t).length := by simp [zBN, zAQ]
 have e4 : (zBN x ++ t).drop 4 = zAQ x ++ t := by simp [zBN, zAQ]
 have e8 : (zBN x ++ t).drop 8 = t := by simp [zBN, zAQ]
 have hm : zAQ x = zAQ (x % 4294967296) := by
  simp only [zAQ]
  rw [zDf (a := x / 16777216) (b := x % 4294967296 / 16777216) (by omega), zDf (a := x / 65536) (b := x % 4294967296 / 65536) (by omega), zDf (a := x / 256) (b := x % 4294967296 / 256) (by omega), zDf (a := x) (b := x % 4294967296) (by omega)]
 simp only [c64, hl, if_true, e8]
 congr 1
 unfold zMB
 rw [e4, show zBN x ++ t = zAQ (x / 4294967296) ++ (zAQ x ++ t) from by simp [zBN], zDF _ _ (by omega) (by omega), hm, zDF _ _ (by omega) (by omega)]
 omega
end Go.Proofs.YtgnficcjnijdbaaGreat
namespace Go.Proofs.YtgnficcjnijdbaaGreat
open Go.RowKit
def zCr (L : List UInt8) (w : World) (e : Ending) (w' : World) : Prop :=
 ∃ v, e = .returned (.tuple #[v, .nilIface]) ∧ w'.ownsRow w.heap.size 5 1 v L.length (u8s L) ∧ Below w.heap.size w w'
theorem zKu (w : World) (N : Nat) (hN : N ≤ 100000000) (h0 : 0 < N) : (w.alloc (.cells (madeCells #[.int .u8 0] N) 5)).ownsRow w.heap.size 5 1 (.slice (some ⟨w.heap.size, 0, none⟩) 0 N) 0 (u8s []) :=
 ⟨rfl, .inr ⟨w.heap.size, N, madeCells #[.int .u8 0] N, rfl, Nat.le_refl _, heap_alloc_new _ _, by omega, by simp only [maxLen]; omega, by simp [size_madeCells], by simp [u8s]⟩⟩
theorem zEc (w V : World) (hh : V.heap.size = w.heap.size) (hb : Below w.heap.size w V) (N : Nat) (hN : N ≤ 100000000) (h0 : 0 < N) (w1 : World)
  (h1 : (V.alloc (.cells (madeCells #[.int .u8 0] N) 5)).alloc (.cells #[.slice (some ⟨V.heap.size, 0, none⟩) 0 N, .int .i64 0, .nilIface] 83) = w1) : MB w.heap.size w w1 (V.heap.size + 1) [] := by
 have hown := zKu V N hN h0
 rw [hh] at hown
 refine ⟨.slice (some ⟨V.heap.size, 0, none⟩) 0 N, ?_, ?_⟩
 ·rw [← h1]
  refine ⟨?_, ?_, by omega, ?_⟩
  ·have := heap_alloc_new (V.alloc (.cells (madeCells #[.int .u8 0] N) 5)) (.cells #[.slice (some ⟨V.heap.size, 0, none⟩) 0 N, .int .i64 0, .nilIface] 83 (0, 0))
   rwa [show (V.alloc (.cells (madeCells #[.int .u8 0] N) 5)).heap.size = V.heap.size + 1 from by simp] at this
  ·rw [hh]; exact hown.alloc _
  ·intro e
   have h9 : V.heap.size = V.heap.size + 1 := Option.some.inj e
   omega
 ·rw [← h1]
  exact (hb.alloc (by omega) _).alloc (by simp; omega) _
theorem zDN (base g q : Nat) (a : ByteArray) (l : List UInt8) (w0 w : World) (hb : MB base w0 w g l) (hq : w.heap[q]? = some (.cells #[.string a] 212 (0, 0))) (hqb : q < base) (ha : a.size ≤ 1000000) (hl : l.length ≤ 100000000) (hw0 : w0.heap[q]? = w.heap[q]?) :
  Calls Tryz.prog 222 #[.pointer (some ⟨q, 0, none⟩), .pointer (some ⟨g, 0, none⟩)] w fun e w' => e = .returned (.tuple #[]) ∧ MB base w0 w' g (l ++ (str (tl a))) := by
 have c0 : w.cell? ⟨q, 0, none⟩ = some (.string a) := by rw [zAA hq]; rfl
 have H0 := Lib.hid (hw0.trans hq)
 have C := Lib.hid (zB4 hb a (by omega) (by omega))
 clear hb hq hw0
 go_enter Tryz.func222, Tryz.ntmps222
 go_wp2_with fail
 refine C.out.mono ?_
 rintro e w1 ⟨rfl, hm⟩
 have M := Lib.hid hm
 clear hm C
 go_wp2_with fail
 go_end0
 exact ⟨rfl, M.out⟩
theorem zD0 (q : Nat) (a : ByteArray) (w : World) (hq : w.heap[q]? = some (.cells #[.string a] 212 (0, 0))) (ha : a.size ≤ 1000000) :
  Calls Tryz.prog 221 #[.pointer (some ⟨q, 0, none⟩)] w (zCr (str (tl a)) w) := by
 have c0 : w.cell? ⟨q, 0, none⟩ = some (.string a) := by rw [zAA hq]; rfl
 have hql := zAC hq
 obtain ⟨N, hN⟩ : ∃ N, N = 4 + a.size := ⟨_, rfl⟩
 have hNi : (N : Int) = 4 + (a.size : Int) := by omega
 have hN0 : 0 < N := by omega
 have hNm : N ≤ 100000000 := by omega
 have hmk : ∀ k, (Instr.makeSlice 56 (.int .i64 0) (.int .i64 (4 + (a.size : Int)))).run Tryz.prog (w.drewN k) = .ok (.slice (some ⟨w.heap.size, 0, none⟩) 0 N) ((w.drewN k).alloc (.cells (madeCells #[.int .u8 0] N) 5)) := fun k => by
  have h := run_make_room (P := Tryz.prog) 56 5 (.int .u8 0) 1 Tryz.underlying56 zBt rfl .i64 .i64 N (by omega) (by omega) (w.drewN k)
  rw [hNi] at h
  exact h
 have hmk0 := hmk 0
 rw [World.drewN_zero] at hmk0
 have HQ := Lib.hid hq
 have HN := Lib.hid hNi
 have HN0 := Lib.hid hN0
 have HNM := Lib.hid hNm
 clear hq hN hNi hN0 hNm
 go_enter Tryz.func221, Tryz.ntmps221
 go_wp2_with fail
 refine (zAZ _ _ _ _).mono ?_
 rintro e w1 ⟨rfl, hw1⟩
 have hm := zEc w w rfl (Below.refl _ _) N HNM.out HN0.out w1 hw1
 have hq1 := (hm.below.block q hql).trans HQ.out
 have C := Lib.hid (zDN w.heap.size (w.heap.size + 1) q a [] w w1 hm hq1 hql ha (by simp) (hm.below.block q hql).symm)
 clear hw1 hm hq1 hmk hmk0 c0
 go_wp2_with fail
 change Calls Tryz.prog 222 #[.pointer (some ⟨q, 0, none⟩), .pointer (some ⟨w.heap.size + 1, 0, none⟩)] w1 _
 refine C.out.mono ?_
 rintro e w2 ⟨rfl, v, hm, hb⟩
 rw [List.nil_append] at hm
 have M := Lib.hid hm
 have B := Lib.hid hb
 clear hm hb C
 go_wp2_with fail
 refine (zDZ w.heap.size (w.heap.size + 1) v (str (tl a)) w2 M.out (by simp only [List.length_append, zAK]; omega) (by simp only [List.length_append, zAK, zAH]; omega)).mono ?_
 rintro e w3 ⟨rfl, k, hw3⟩
 have F := Lib.hid (show w3.ownsRow w.heap.size 5 1 v (str (tl a)).length (u8s (str (tl a))) from by rw [hw3]; exact M.out.own)
 have B3 := Lib.hid (show Below w.heap.size w w3 from by rw [hw3]; exact ⟨B.out.os, B.out.tape, B.out.output, B.out.size, B.out.block⟩)
 clear hw3 M B
 go_wp2_with fail
 go_ret2
 exact ⟨v, rfl, F.out, B3.out⟩
theorem zCs (base g q : Nat) (a : ByteArray) (l : List UInt8) (w0 w : World) (hb : MB base w0 w g l) (hq : w.heap[q]? = some (.cells #[.string a] 214 (0, 0))) (hqb : q < base) (ha : a.size ≤ 1000000) (hl : l.length ≤ 100000000) (hw0 : w0.heap[q]? = w.heap[q]?) :
  Calls Tryz.prog 228 #[.pointer (some ⟨q, 0, none⟩), .pointer (some ⟨g, 0, none⟩)] w fun e w' => e = .returned (.tuple #[]) ∧ MB base w0 w' g (l ++ (str (tl a))) := by
 have c0 : w.cell? ⟨q, 0, none⟩ = some (.string a) := by rw [zAA hq]; rfl
 have H0 := Lib.hid (hw0.trans hq)
 have C := Lib.hid (zB4 hb a (by omega) (by omega))
 clear hb hq hw0
 go_enter Tryz.func228, Tryz.ntmps228
 go_wp2_with fail
 refine C.out.mono ?_
 rintro e w1 ⟨rfl, hm⟩
 have M := Lib.hid hm
 clear hm C
 go_wp2_with fail
 go_end0
 exact ⟨rfl, M.out⟩
theorem zDO (q : Nat) (a : ByteArray) (w : World) (hq : w.heap[q]? = some (.cells #[.string a] 214 (0, 0))) (ha : a.size ≤ 1000000) :
  Calls Tryz.prog 227 #[.pointer (some ⟨q, 0, none⟩)] w (zCr (str (tl a)) w) := by
 have c0 : w.cell? ⟨q, 0, none⟩ = some (.string a) := by rw [zAA hq]; rfl
 have hql := zAC hq
 obtain ⟨N, hN⟩ : ∃ N, N = 4 + a.size := ⟨_, rfl⟩
 have hNi : (N : Int) = 4 + (a.size : Int) := by omega
 have hN0 : 0 < N := by omega
 have hNm : N ≤ 100000000 := by omega
 have hmk : ∀ k, (Instr.makeSlice 56 (.int .i64 0) (.int .i64 (4 + (a.size : Int)))).run Tryz.prog (w.drewN k) = .ok (.slice (some ⟨w.heap.size, 0, none⟩) 0 N) ((w.drewN k).alloc (.cells (madeCells #[.int .u8 0] N) 5)) := fun k => by
  have h := run_make_room (P := Tryz.prog) 56 5 (.int .u8 0) 1 Tryz.underlying56 zBt rfl .i64 .i64 N (by omega) (by omega) (w.drewN k)
  rw [hNi] at h
  exact h
 have hmk0 := hmk 0
 rw [World.drewN_zero] at hmk0
 have HQ := Lib.hid hq
 have HN := Lib.hid hNi
 have HN0 := Lib.hid hN0
 have HNM := Lib.hid hNm
 clear hq hN hNi hN0 hNm
 go_enter Tryz.func227, Tryz.ntmps227
 go_wp2_with fail
 refine (zAZ _ _ _ _).mono ?_
 rintro e w1 ⟨rfl, hw1⟩
 have hm := zEc w w rfl (Below.refl _ _) N HNM.out HN0.out w1 hw1
 have hq1 := (hm.below.block q hql).trans HQ.out
 have C := Lib.hid (zCs w.heap.size (w.heap.size + 1) q a [] w w1 hm hq1 hql ha (by simp) (hm.below.block q hql).symm)
 clear hw1 hm hq1 hmk hmk0 c0
 go_wp2_with fail
 change Calls Tryz.prog 228 #[.pointer (some ⟨q, 0, none⟩), .pointer (some ⟨w.heap.size + 1, 0, none⟩)] w1 _
 refine C.out.mono ?_
 rintro e w2 ⟨rfl, v, hm, hb⟩
 rw [List.nil_append] at hm
 have M := Lib.hid hm
 have B := Lib.hid hb
 clear hm hb C
 go_wp2_with fail
 refine (zDZ w.heap.size (w.heap.size + 1) v (str (tl a)) w2 M.out (by simp only [List.length_append, zAK]; omega) (by simp only [List.length_append, zAK, zAH]; omega)).mono ?_
 rintro e w3 ⟨rfl, k, hw3⟩
 have F := Lib.hid (show w3.ownsRow w.heap.size 5 1 v (str (tl a)).length (u8s (str (tl a))) from by rw [hw3]; exact M.out.own)
 have B3 := Lib.hid (show Below w.heap.size w w3 from by rw [hw3]; exact ⟨B.out.os, B.out.tape, B.out.output, B.out.size, B.out.block⟩)
 clear hw3 M B
 go_wp2_with fail
 go_ret2
 exact ⟨v, rfl, F.out, B3.out⟩
theorem zDg (base g q : Nat) (a : ByteArray) (l : List UInt8) (w0 w : World) (hb : MB base w0 w g l) (hq : w.heap[q]? = some (.cells #[.string a] 216 (0, 0))) (hqb : q < base) (ha : a.size ≤ 1000000) (hl : l.length ≤ 100000000) (hw0 : w0.heap[q]? = w.heap[q]?) :
  Calls Tryz.prog 234 #[.pointer (some ⟨q, 0, none⟩), .pointer (some ⟨g, 0, none⟩)] w fun e w' => e = .returned (.tuple #[]) ∧ MB base w0 w' g (l ++ (str (tl a))) := by
 have c0 : w.cell? ⟨q, 0, none⟩ = some (.string a) := by rw [zAA hq]; rfl
 have H0 := Lib.hid (hw0.trans hq)
 have C := Lib.hid (zB4 hb a (by omega) (by omega))
 clear hb hq hw0
 go_enter Tryz.func234, Tryz.ntmps234
 go_wp2_with fail
 refine C.out.mono ?_
 rintro e w1 ⟨rfl, hm⟩
 have M := Lib.hid hm
 clear hm C
 go_wp2_with fail
 go_end0
 exact ⟨rfl, M.out⟩
theorem zEA (q : Nat) (a : ByteArray) (w : World) (hq : w.heap[q]? = some (.cells #[.string a] 216 (0, 0))) (ha : a.size ≤ 1000000) :
  Calls Tryz.prog 233 #[.pointer (some ⟨q, 0, none⟩)] w (zCr (str (tl a)) w) := by
 have c0 : w.cell? ⟨q, 0, none⟩ = some (.string a) := by rw [zAA hq]; rfl
 have hql := zAC hq
 obtain ⟨N, hN⟩ : ∃ N, N = 4 + a.size := ⟨_, rfl⟩
 have hNi : (N : Int) = 4 + (a.size : Int) := by omega
 have hN0 : 0 < N := by omega
 have hNm : N ≤ 100000000 := by omega
 have hmk : ∀ k, (Instr.makeSlice 56 (.int .i64 0) (.int .i64 (4 + (a.size : Int)))).run Tryz.prog (w.drewN k) = .ok (.slice (some ⟨w.heap.size, 0, none⟩) 0 N) ((w.drewN k).alloc (.cells (madeCells #[.int .u8 0] N) 5)) := fun k => by
  have h := run_make_room (P := Tryz.prog) 56 5 (.int .u8 0) 1 Tryz.underlying56 zBt rfl .i64 .i64 N (by omega) (by omega) (w.drewN k)
  rw [hNi] at h
  exact h
 have hmk0 := hmk 0
 rw [World.drewN_zero] at hmk0
 have HQ := Lib.hid hq
 have HN := Lib.hid hNi
 have HN0 := Lib.hid hN0
 have HNM := Lib.hid hNm
 clear hq hN hNi hN0 hNm
 go_enter Tryz.func233, Tryz.ntmps233
 go_wp2_with fail
 refine (zAZ _ _ _ _).mono ?_
 rintro e w1 ⟨rfl, hw1⟩
 have hm := zEc w w rfl (Below.refl _ _) N HNM.out HN0.out w1 hw1
 have hq1 := (hm.below.block q hql).trans HQ.out
 have C := Lib.hid (zDg w.heap.size (w.heap.size + 1) q a [] w w1 hm hq1 hql ha (by simp) (hm.below.block q hql).symm)
 clear hw1 hm hq1 hmk hmk0 c0
 go_wp2_with fail
 change Calls Tryz.prog 234 #[.pointer (some ⟨q, 0, none⟩), .pointer (some ⟨w.heap.size + 1, 0, none⟩)] w1 _
 refine C.out.mono ?_
 rintro e w2 ⟨rfl, v, hm, hb⟩
 rw [List.nil_append] at hm
 have M := Lib.hid hm
 have B := Lib.hid hb
 clear hm hb C
 go_wp2_with fail
 refine (zDZ w.heap.size (w.heap.size + 1) v (str (tl a)) w2 M.out (by simp only [List.length_append, zAK]; omega) (by simp only [List.length_append, zAK, zAH]; omega)).mono ?_
 rintro e w3 ⟨rfl, k, hw3⟩
 have F := Lib.hid (show w3.ownsRow w.heap.size 5 1 v (str (tl a)).length (u8s (str (tl a))) from by rw [hw3]; exact M.out.own)
 have B3 := Lib.hid (show Below w.heap.size w w3 from by rw [hw3]; exact ⟨B.out.os, B.out.tape, B.out.output, B.out.size, B.out.block⟩)
 clear hw3 M B
 go_wp2_with fail
 go_ret2
 exact ⟨v, rfl, F.out, B3.out⟩
theorem zCt (base g q : Nat) (a b : ByteArray) (l : List UInt8) (w0 w : World) (hb : MB base w0 w g l) (hq : w.heap[q]? = some (.cells #[.string a, .string b] 208 (0, 0))) (hqb : q < base) (ha : a.size ≤ 1000000) (hb2 : b.size ≤ 1000000) (hl : l.length ≤ 100000000) (hw0 : w0.heap[q]? = w.heap[q]?) :
  Calls Tryz.prog 210 #[.pointer (some ⟨q, 0, none⟩), .pointer (some ⟨g, 0, none⟩)] w fun e w' => e = .returned (.tuple #[]) ∧ MB base w0 w' g (l ++ (str (tl a) ++ str (tl b))) := by
 have c0 : w.cell? ⟨q, 0, none⟩ = some (.string a) := by rw [zAA hq]; rfl
 have H0 := Lib.hid (hw0.trans hq)
 have C := Lib.hid (zB4 hb a (by omega) (by omega))
 clear hb hq hw0
 go_enter Tryz.func210, Tryz.ntmps210
 go_wp2_with fail
 refine C.out.mono ?_
 rintro e w1 ⟨rfl, hm⟩
 have hq1 := (hm.below.block q hqb).trans H0.out
 clear c0 C
 have c1 : w1.cell? ⟨q, 1, none⟩ = some (.string b) := by rw [zAA hq1]; rfl
 have D := Lib.hid (zB4 hm b (by rw [List.length_append, zAK, zAH]; omega) (by omega))
 clear hm hq1
 go_wp2_with fail
 refine D.out.mono ?_
 rintro e w2 ⟨rfl, hm⟩
 have M := Lib.hid hm
 clear hm D
 go_wp2_with fail
 go_end0
 exact ⟨rfl, by have := M.out; rwa [List.append_assoc] at this⟩
theorem zDP (q : Nat) (a b : ByteArray) (w : World) (hq : w.heap[q]? = some (.cells #[.string a, .string b] 208 (0, 0))) (ha : a.size ≤ 1000000) (hb2 : b.size ≤ 1000000) :
  Calls Tryz.prog 209 #[.pointer (some ⟨q, 0, none⟩)] w (zCr (str (tl a) ++ str (tl b)) w) := by
 have c0 : w.cell? ⟨q, 0, none⟩ = some (.string a) := by rw [zAA hq]; rfl
 have c1 : w.cell? ⟨q, 1, none⟩ = some (.string b) := by rw [zAA hq]; rfl
 have s0 : IntKind.i64.wrap (4 + (a.size : Int)) = 4 + (a.size : Int) := IntWalk.i64_in _ (by omega)
 have s1 : IntKind.i64.wrap (4 + (a.size : Int) + 4) = 4 + (a.size : Int) + 4 := IntWalk.i64_in _ (by omega)
 have s2 : IntKind.i64.wrap (4 + (a.size : Int) + 4 + (b.size : Int)) = 4 + (a.size : Int) + 4 + (b.size : Int) := IntWalk.i64_in _ (by omega)
 have hql := zAC hq
 obtain ⟨N, hN⟩ : ∃ N, N = 4 + a.size + 4 + b.size := ⟨_, rfl⟩
 have hNi : (N : Int) = 4 + (a.size : Int) + 4 + (b.size : Int) := by omega
 have hN0 : 0 < N := by omega
 have hNm : N ≤ 100000000 := by omega
 have hmk : ∀ k, (Instr.makeSlice 56 (.int .i64 0) (.int .i64 (4 + (a.size : Int) + 4 + (b.size : Int)))).run Tryz.prog (w.drewN k) = .ok (.slice (some ⟨w.heap.size, 0, none⟩) 0 N) ((w.drewN k).alloc (.cells (madeCells #[.int .u8 0] N) 5)) := fun k => by
  have h := run_make_room (P := Tryz.prog) 56 5 (.int .u8 0) 1 Tryz.underlying56 zBt rfl .i64 .i64 N (by omega) (by omega) (w.drewN k)
  rw [hNi] at h
  exact h
 have hmk0 := hmk 0
 rw [World.drewN_zero] at hmk0
 have HQ := Lib.hid hq
 have HN := Lib.hid hNi
 have HN0 := Lib.hid hN0
 have HNM := Lib.hid hNm
 clear hq hN hNi hN0 hNm
 go_enter Tryz.func209, Tryz.ntmps209
 go_wp2_with fail
 go_quiet (fail)
 go_wp2_with fail
 refine (zAZ _ _ _ _).mono ?_
 rintro e w1 ⟨rfl, hw1⟩
 have hm := zEc w (w.drewN nq) rfl (zBB (Below.refl _ _) _) N HNM.out HN0.out w1 hw1
 have hq1 := (hm.below.block q hql).trans HQ.out
 have C := Lib.hid (zCt w.heap.size (w.heap.size + 1) q a b [] w w1 hm hq1 hql ha hb2 (by simp) (hm.below.block q hql).symm)
 clear hw1 hm hq1 hmk hmk0 c0 c1 s0 s1 s2
 go_wp2_with fail
 change Calls Tryz.prog 210 #[.pointer (some ⟨q, 0, none⟩), .pointer (some ⟨w.heap.size + 1, 0, none⟩)] w1 _
 refine C.out.mono ?_
 rintro e w2 ⟨rfl, v, hm, hb⟩
 rw [List.nil_append] at hm
 have M := Lib.hid hm
 have B := Lib.hid hb
 clear hm hb C
 go_wp2_with fail
 refine (zDZ w.heap.size (w.heap.size + 1) v (str (tl a) ++ str (tl b)) w2 M.out (by simp only [List.length_append, zAK]; omega) (by simp only [List.length_append, zAK, zAH]; omega)).mono ?_
 rintro e w3 ⟨rfl, k, hw3⟩
 have F := Lib.hid (show w3.ownsRow w.heap.size 5 1 v (str (tl a) ++ str (tl b)).length (u8s (str (tl a) ++ str (tl b))) from by rw [hw3]; exact M.out.own)
 have B3 := Lib.hid (show Below w.heap.size w w3 from by rw [hw3]; exact ⟨B.out.os, B.out.tape, B.out.output, B.out.size, B.out.block⟩)
 clear hw3 M B
 go_wp2_with fail
 go_ret2
 exact ⟨v, rfl, F.out, B3.out⟩
theorem zC5 (base g q : Nat) (a b : ByteArray) (l : List UInt8) (w0 w : World) (hb : MB base w0 w g l) (hq : w.heap[q]? = some (.cells #[.string a, .string b] 210 (0, 0))) (hqb : q < base) (ha : a.size ≤ 1000000) (hb2 : b.size ≤ 1000000) (hl : l.length ≤ 100000000) (hw0 : w0.heap[q]? = w.heap[q]?) :
  Calls Tryz.prog 216 #[.pointer (some ⟨q, 0, none⟩), .pointer (some ⟨g, 0, none⟩)] w fun e w' => e = .returned (.tuple #[]) ∧ MB base w0 w' g (l ++ (str (tl a) ++ str (tl b))) := by
 have c0 : w.cell? ⟨q, 0, none⟩ = some (.string a) := by rw [zAA hq]; rfl
 have H0 := Lib.hid (hw0.trans hq)
 have C := Lib.hid (zB4 hb a (by omega) (by omega))
 clear hb hq hw0
 go_enter Tryz.func216, Tryz.ntmps216
 go_wp2_with fail
 refine C.out.mono ?_
 rintro e w1 ⟨rfl, hm⟩
 have hq1 := (hm.below.block q hqb).trans H0.out
 clear c0 C
 have c1 : w1.cell? ⟨q, 1, none⟩ = some (.string b) := by rw [zAA hq1]; rfl
 have D := Lib.hid (zB4 hm b (by rw [List.length_append, zAK, zAH]; omega) (by omega))
 clear hm hq1
 go_wp2_with fail
 refine D.out.mono ?_
 rintro e w2 ⟨rfl, hm⟩
 have M := Lib.hid hm
 clear hm D
 go_wp2_with fail
 go_end0
 exact ⟨rfl, by have := M.out; rwa [List.append_assoc] at this⟩
theorem zCh (q : Nat) (a b : ByteArray) (w : World) (hq : w.heap[q]? = some (.cells #[.string a, .string b] 210 (0, 0))) (ha : a.size ≤ 1000000) (hb2 : b.size ≤ 1000000) :
  Calls Tryz.prog 215 #[.pointer (some ⟨q, 0, none⟩)] w (zCr (str (tl a) ++ str (tl b)) w) := by
 have c0 : w.cell? ⟨q, 0, none⟩ = some (.string a) := by rw [zAA hq]; rfl
 have c1 : w.cell? ⟨q, 1, none⟩ = some (.string b) := by rw [zAA hq]; rfl
 have s0 : IntKind.i64.wrap (4 + (a.size : Int)) = 4 + (a.size : Int) := IntWalk.i64_in _ (by omega)
 have s1 : IntKind.i64.wrap (4 + (a.size : Int) + 4) = 4 + (a.size : Int) + 4 := IntWalk.i64_in _ (by omega)
 have s2 : IntKind.i64.wrap (4 + (a.size : Int) + 4 + (b.size : Int)) = 4 + (a.size : Int) + 4 + (b.size : Int) := IntWalk.i64_in _ (by omega)
 have hql := zAC hq
 obtain ⟨N, hN⟩ : ∃ N, N = 4 + a.size + 4 + b.size := ⟨_, rfl⟩
 have hNi : (N : Int) = 4 + (a.size : Int) + 4 + (b.size : Int) := by omega
 have hN0 : 0 < N := by omega
 have hNm : N ≤ 100000000 := by omega
 have hmk : ∀ k, (Instr.makeSlice 56 (.int .i64 0) (.int .i64 (4 + (a.size : Int) + 4 + (b.size : Int)))).run Tryz.prog (w.drewN k) = .ok (.slice (some ⟨w.heap.size, 0, none⟩) 0 N) ((w.drewN k).alloc (.cells (madeCells #[.int .u8 0] N) 5)) := fun k => by
  have h := run_make_room (P := Tryz.prog) 56 5 (.int .u8 0) 1 Tryz.underlying56 zBt rfl .i64 .i64 N (by omega) (by omega) (w.drewN k)
  rw [hNi] at h
  exact h
 have hmk0 := hmk 0
 rw [World.drewN_zero] at hmk0
 have HQ := Lib.hid hq
 have HN := Lib.hid hNi
 have HN0 := Lib.hid hN0
 have HNM := Lib.hid hNm
 clear hq hN hNi hN0 hNm
 go_enter Tryz.func215, Tryz.ntmps215
 go_wp2_with fail
 go_quiet (fail)
 go_wp2_with fail
 refine (zAZ _ _ _ _).mono ?_
 rintro e w1 ⟨rfl, hw1⟩
 have hm := zEc w (w.drewN nq) rfl (zBB (Below.refl _ _) _) N HNM.out HN0.out w1 hw1
 have hq1 := (hm.below.block q hql).trans HQ.out
 have C := Lib.hid (zC5 w.heap.size (w.heap.size + 1) q a b [] w w1 hm hq1 hql ha hb2 (by simp) (hm.below.block q hql).symm)
 clear hw1 hm hq1 hmk hmk0 c0 c1 s0 s1 s2
 go_wp2_with fail
 change Calls Tryz.prog 216 #[.pointer (some ⟨q, 0, none⟩), .pointer (some ⟨w.heap.size + 1, 0, none⟩)] w1 _
 refine C.out.mono ?_
 rintro e w2 ⟨rfl, v, hm, hb⟩
 rw [List.nil_append] at hm
 have M := Lib.hid hm
 have B := Lib.hid hb
 clear hm hb C
 go_wp2_with fail
 refine (zDZ w.heap.size (w.heap.size + 1) v (str (tl a) ++ str (tl b)) w2 M.out (by simp only [List.length_append, zAK]; omega) (by simp only [List.length_append, zAK, zAH]; omega)).mono ?_
 rintro e w3 ⟨rfl, k, hw3⟩
 have F := Lib.hid (show w3.ownsRow w.heap.size 5 1 v (str (tl a) ++ str (tl b)).length (u8s (str (tl a) ++ str (tl b))) from by rw [hw3]; exact M.out.own)
 have B3 := Lib.hid (show Below w.heap.size w w3 from by rw [hw3]; exact ⟨B.out.os, B.out.tape, B.out.output, B.out.size, B.out.block⟩)
 clear hw3 M B
 go_wp2_with fail
 go_ret2
 exact ⟨v, rfl, F.out, B3.out⟩
def zIL (L : List UInt8) (w : World) (e : Ending) (w' : World) : Prop :=
 ∃ A n c, e = .returned (.tuple #[.slice A n c, .nilIface]) ∧ L.length = n ∧ (A = none ∧ n = 0 ∧ c = 0 ∨ ∃ s o, A = some ⟨s, o, none⟩ ∧ w.heap.size ≤ s ∧ s < w'.heap.size ∧ Lies w' s o L) ∧ Below w.heap.size w w'
theorem zDh {L : List UInt8} (hL : 0 < L.length) {w : World} {e : Ending} {w' : World} (h : zCr L w e w') : zIL L w e w' := by
 obtain ⟨v, he, ho, hb⟩ := h
 obtain ⟨s, c, rfl, hl⟩ := zCp ho hL
 have h2 := ho.lt s rfl
 exact ⟨_, _, c, he, rfl, .inr ⟨s, 0, rfl, h2.1, h2.2, hl⟩, hb⟩
theorem zFi (q s c n : Nat) (L : List UInt8) (w : World) (hq : w.heap[q]? = some (.cells #[.slice (some ⟨s, 0, none⟩) n c, .int .i64 0, .nilIface] 83 (0, 0))) (hl : Lies w s 0 L) (hs : s < w.heap.size) (hLn : L.length = n) (hn : n ≤ 1000000) :
  Calls Tryz.prog 246 #[.pointer (some ⟨q, 0, none⟩)] w (zIL L w) := by
 have hql := zAC hq
 have hmk := zKm n (by omega)
 obtain ⟨W0, hW0⟩ : ∃ W, w.alloc (.cells (madeCells #[.int .u8 0] n) 5) = W := ⟨_, rfl⟩
 have hb0 : Below w.heap.size w W0 := by rw [← hW0]; exact (Below.refl _ _).alloc (Nat.le_refl _) _
 have hk0 : W0.heap[w.heap.size]? = some (.cells (madeCells #[.int .u8 0] n).toList.toArray 5 (0, 0)) := by rw [← hW0, Array.toArray_toList]; exact heap_alloc_new _ _
 have hq0 := (hb0.block q hql).trans hq
 have hl0 : Lies W0 s 0 L := hl.kept (hb0.block s hs)
 have c0 : w.cell? ⟨q, 0, none⟩ = some (.slice (some ⟨s, 0, none⟩) n c) := by rw [zAA hq]; rfl
 have d0 : W0.cell? ⟨q, 0, none⟩ = some (.slice (some ⟨s, 0, none⟩) n c) := by rw [zAA hq0]; rfl
 have hcl : (madeCells #[Value.int .u8 0] n).toList.length = n := by simp [madeCells]
 have hcs : (u8s L).length = n := by rw [zBC]; exact hLn
 have hone : ∀ v ∈ u8s L, v.oneCell' = true := by
  intro v hv
  simp only [u8s, List.mem_map] at hv
  obtain ⟨b, _, rfl⟩ := hv
  rfl
 have hsrc : ∀ j v, (u8s L)[j]? = some v → W0.cell? (Addr.add ⟨s, 0, none⟩ j) = some v := fun j v hj => by
  simp only [u8s, List.getElem?_map, Option.map_eq_some_iff] at hj
  obtain ⟨b, hb, rfl⟩ := hj
  rw [add_plain]
  exact hl0 j b hb
 have H0 := Lib.hid hb0
 have X0 := Lib.hid hW0
 have K0 := Lib.hid hk0
 have HS := Lib.hid hsrc
 have HC := Lib.hid hcl
 have HU := Lib.hid hcs
 have H1 := Lib.hid hone
 have HN := Lib.hid hLn
 clear hq hl hW0 hb0 hk0 hq0 hl0 hsrc hcl hcs hone hLn
 go_enter Tryz.func246, Tryz.ntmps246
 go_upto_region 2 with fail
 rw [X0.out]
 go_wp2_with (refine wpList_copy_splice rfl (.tmp 12) (.tmp 16) 56 56 rfl 5 Tryz.underlying56 zCn (some ⟨w.heap.size, 0, none⟩) (some ⟨s, 0, none⟩) n n n c rfl rfl w.heap.size 0 (madeCells #[.int .u8 0] n).toList 5 K0.out (u8s L) (by rw [HU.out]; simp) (fun _ => ⟨rfl, _, rfl, HS.out⟩) (by rw [HU.out, HC.out]; omega) H1.out w.heap.size w H0.out (Nat.le_refl _) ?_; intro w1 hw1 hb1; rw [HU.out])
 go_ret2
 have hlt := zAC hw1.out
 refine ⟨_, n, n, rfl, HN.out, .inr ⟨w.heap.size, 0, rfl, Nat.le_refl _, hlt, fun j b hj => ?_⟩, hb1⟩
 have hjl : j < (u8s L).length := by rw [zBC]; exact (List.getElem?_eq_some_iff.1 hj).1
 rw [Nat.zero_add, zAA hw1.out, List.getElem?_toArray]
 unfold splice
 rw [List.take_zero, List.nil_append, List.getElem?_append_left hjl, u8s, List.getElem?_map, hj]
 rfl
theorem MBuf.after {base g : Nat} {w w' : World} {v : Value} {l : List UInt8} (h : MBuf base w g v l) (hb : Below w.heap.size w w') : MBuf base w' g v l :=
 ⟨(hb.block g (zAC h.blk)).trans h.blk, h.own.kept (row := some g) ⟨hb.os, hb.tape, hb.output, hb.size, fun k hk _ => hb.block k hk⟩ (.inr h.ne), h.le, h.ne⟩
theorem zKv {A : Option Addr} {n c : Nat} {pl : List UInt8} {B base g : Nat} {w5 wz : World} {v : Value} {l : List UInt8} (hm : MBuf base w5 g v l) (hlt : ∀ k, v.ownBlock = some k → k < B) (h : A = none ∧ n = 0 ∧ c = 0 ∨ ∃ s o, A = some ⟨s, o, none⟩ ∧ B ≤ s ∧ s < w5.heap.size ∧ Lies w5 s o pl) (hg : w5.grownBy wz v.ownBlock) :
  A = none ∧ n = 0 ∧ c = 0 ∨ ∃ s o, A = some ⟨s, o, none⟩ ∧ ∀ j b, pl[j]? = some b → wz.cell? ⟨s, o + j, none⟩ = some (u8 b) := by
 rcases h with h | ⟨s, o, rfl, h1, h2, h3⟩
 ·exact .inl h
 ·exact .inr ⟨s, o, rfl, h3.kept (hg.block s h2 (fun e => by have := hlt s e.symm; omega))⟩
theorem zFz (q x : Nat) (tp : TypeId) (F2 : Nat) (pl : List UInt8) (id : Int) (w : World) (hq : w.heap[q]? = some (.cells #[.iface tp (.pointer (some ⟨x, 0, none⟩))] 188 (0, 0)))
  (hm : ∀ (v : Value) (w : World), (Go.method 357 tp v "MarshalBinary").run Tryz.prog w = .ok (F2, v) w) (hc : ∀ (args : Array Value) (w : World), (callFunc F2 args).run Tryz.prog w = .ok (.enter F2 args) w)
  (hb : ∀ W, Below w.heap.size w W → Calls Tryz.prog F2 #[.pointer (some ⟨x, 0, none⟩)] W (zIL pl W)) (hp : pl.length ≤ 1000000) (i0 : 0 ≤ id) (i1 : id ≤ 4294967295) :
  Calls Tryz.prog 196 #[.pointer (some ⟨q, 0, none⟩), .int .u32 id, .slice none 0 0] w (zCf (zA5 201 id [] pl.length) pl w) := by
 have hql := zAC hq
 have H0 := Lib.hid hq
 have HB := Lib.hid hb
 clear hq hb
 go_enter Tryz.func196, Tryz.ntmps196
 go_wp2_with fail
 refine (zAZ _ _ _ _).mono ?_
 rintro e w1 ⟨rfl, hw⟩
 have cb : w1.cell? ⟨w.heap.size, 0, none⟩ = some (.slice none 0 0) := by rw [← hw, zAA (heap_alloc_new _ _)]; rfl
 have hb1 : Below w.heap.size w w1 := by rw [← hw]; exact (Below.refl _ _).alloc (Nat.le_refl _) _
 have z1 := hb1.size
 have B1 := Lib.hid hb1
 clear hb1 hw
 go_wp2_with fail
 refine (zBx _ _ _ _ _ cb).mono ?_
 rintro e w' ⟨rfl, rfl⟩
 go_wp2_with fail
 refine (zAf w.heap.size _ _ z1 (by omega) (by omega)).mono ?_
 rintro e w2 ⟨g, h, N, l, rfl, m2, hN, hb2⟩
 have M2 := Lib.hid m2
 have B2 := Lib.hid (B1.out.trans hb2)
 clear m2 hb2 cb
 go_wp2_with fail
 refine (zAa w.heap.size g h N N l _ _ _ M2.out (by omega) (by omega) (by omega) i0 i1).mono ?_
 rintro e w3 ⟨rfl, v3, m3, hb3⟩
 have hb4 := B2.out.trans hb3
 have h3 := (hb4.block q hql).trans H0.out
 have c0 : w3.cell? ⟨q, 0, none⟩ = some (.iface tp (.pointer (some ⟨x, 0, none⟩))) := by rw [zAA h3]; rfl
 have CB := Lib.hid (HB.out w3 hb4)
 have M3 := Lib.hid m3
 have B3 := Lib.hid hb4
 clear m3 hb3 h3 B2 M2 B1 HB hb4
 go_wp2_with fail
 refine CB.out.mono ?_
 rintro e w5 ⟨A, n, c, rfl, hn, hsrc, hb5⟩
 have M5 := Lib.hid (M3.out.after hb5)
 have B5 := Lib.hid (B3.out.trans (hb5.mono B3.out.size))
 have HS := Lib.hid hsrc
 have HL := Lib.hid (fun k hk => (M3.out.own.lt k hk).2)
 subst hn
 clear hsrc hb5 CB M3 B3 c0 hm hc
 generalize hgn : pl.length = n at *
 have HN := Lib.hid hgn
 clear hgn
 go_wp2_with fail
 refine (zBA w.heap.size g v3 _ A n c _ M5.out (by simp [zAQ]) (by simp [zAQ]) (by omega)).mono ?_
 rintro e wz ⟨rfl, m5, g5⟩
 have F := Lib.hid (show zCf (zA5 201 id [] n) pl w (.returned (.tuple #[v3, .slice A n c, .nilIface])) wz from by
  refine ⟨v3, A, n, c, rfl, ?_, HN.out, zKv M5.out HL.out HS.out g5, B5.out.grown g5 (by have := M5.out.baseLe; omega) (fun k hk => (M5.out.own.lt k hk).1)⟩
  have e := zBS 201 id [] (pk0 201 id) n (by simp)
  rw [← e]
  exact m5.own)
 clear m5 g5
 go_wp2_with fail
 go_ret3
 exact F.out
theorem zES (q x : Nat) (a : ByteArray) (tp : TypeId) (F2 : Nat) (pl : List UInt8) (id : Int) (w : World) (hq : w.heap[q]? = some (.cells #[.string a, .iface tp (.pointer (some ⟨x, 0, none⟩))] 185 (0, 0)))
  (hm : ∀ (v : Value) (w : World), (Go.method 357 tp v "MarshalBinary").run Tryz.prog w = .ok (F2, v) w) (hc : ∀ (args : Array Value) (w : World), (callFunc F2 args).run Tryz.prog w = .ok (.enter F2 args) w)
  (hb : ∀ W, Below w.heap.size w W → Calls Tryz.prog F2 #[.pointer (some ⟨x, 0, none⟩)] W (zIL pl W)) (ha : a.size ≤ 1000000) (hp : pl.length ≤ 1000000) (i0 : 0 ≤ id) (i1 : id ≤ 4294967295) :
  Calls Tryz.prog 192 #[.pointer (some ⟨q, 0, none⟩), .int .u32 id, .slice none 0 0] w (zCf (zA5 200 id (str (tl a)) pl.length) pl w) := by
 have hql := zAC hq
 have H0 := Lib.hid hq
 have HB := Lib.hid hb
 clear hq hb
 go_enter Tryz.func192, Tryz.ntmps192
 go_wp2_with fail
 refine (zAZ _ _ _ _).mono ?_
 rintro e w1 ⟨rfl, hw⟩
 have cb : w1.cell? ⟨w.heap.size, 0, none⟩ = some (.slice none 0 0) := by rw [← hw, zAA (heap_alloc_new _ _)]; rfl
 have hb1 : Below w.heap.size w w1 := by rw [← hw]; exact (Below.refl _ _).alloc (Nat.le_refl _) _
 have h1 := (hb1.block q hql).trans H0.out
 have c0 : w1.cell? ⟨q, 0, none⟩ = some (.string a) := by rw [zAA h1]; rfl
 have z1 := hb1.size
 have B1 := Lib.hid hb1
 clear hb1 hw h1
 go_wp2_with fail
 refine (zBx _ _ _ _ _ cb).mono ?_
 rintro e w' ⟨rfl, rfl⟩
 go_wp2_with fail
 refine (zAf w.heap.size _ _ z1 (by omega) (by omega)).mono ?_
 rintro e w2 ⟨g, h, N, l, rfl, m2, hN, hb2⟩
 have M2 := Lib.hid m2
 have B2 := Lib.hid (B1.out.trans hb2)
 clear m2 hb2 cb c0
 go_wp2_with fail
 refine (zAa w.heap.size g h N N l _ _ _ M2.out (by omega) (by omega) (by omega) i0 i1).mono ?_
 rintro e w3 ⟨rfl, v3, m3, hb3⟩
 have hb4 := B2.out.trans hb3
 have h3 := (hb4.block q hql).trans H0.out
 have c0 : w3.cell? ⟨q, 0, none⟩ = some (.string a) := by rw [zAA h3]; rfl
 have K3 := Lib.hid (show MB w.heap.size w w3 g (pk0 200 id) from ⟨v3, m3, hb4⟩)
 clear m3 hb3 h3 B2 M2 B1 hb4
 go_wp2_with fail
 refine (zB4 K3.out a (by simp only [zA3]; omega) (by omega)).mono ?_
 rintro e w4 ⟨rfl, v4, m4, hb4⟩
 have h4 := (hb4.block q hql).trans H0.out
 have c1 : w4.cell? ⟨q, 1, none⟩ = some (.iface tp (.pointer (some ⟨x, 0, none⟩))) := by rw [zAA h4]; rfl
 have CB := Lib.hid (HB.out w4 hb4)
 have M3 := Lib.hid m4
 have B3 := Lib.hid hb4
 clear m4 hb4 h4 K3 HB c0
 go_wp2_with fail
 refine CB.out.mono ?_
 rintro e w5 ⟨A, n, c, rfl, hn, hsrc, hb5⟩
 have M5 := Lib.hid (M3.out.after hb5)
 have B5 := Lib.hid (B3.out.trans (hb5.mono B3.out.size))
 have HS := Lib.hid hsrc
 have HL := Lib.hid (fun k hk => (M3.out.own.lt k hk).2)
 subst hn
 clear hsrc hb5 CB M3 B3 c1 hm hc
 generalize hgn : pl.length = n at *
 have HN := Lib.hid hgn
 clear hgn
 go_wp2_with fail
 refine (zBA w.heap.size g v4 _ A n c _ M5.out (by simp only [List.length_append, zA3]; omega) (by simp only [List.length_append, zA3, zAK, zAH]; omega) (by omega)).mono ?_
 rintro e wz ⟨rfl, m5, g5⟩
 have F := Lib.hid (show zCf (zA5 200 id (str (tl a)) n) pl w (.returned (.tuple #[v4, .slice A n c, .nilIface])) wz from by
  refine ⟨v4, A, n, c, rfl, ?_, HN.out, zKv M5.out HL.out HS.out g5, B5.out.grown g5 (by have := M5.out.baseLe; omega) (fun k hk => (M5.out.own.lt k hk).1)⟩
  have e := zBS 200 id (str (tl a)) (pk0 200 id ++ str (tl a)) n rfl
  rw [← e]
  exact m5.own)
 clear m5 g5
 go_wp2_with fail
 go_ret3
 exact F.out
end Go.Proofs.YtgnficcjnijdbaaGreat
namespace Go.Proofs.YtgnficcjnijdbaaGreat
open Go.RowKit Go.Great
theorem zIM (P : Array Value) (a : ByteArray) (w : World) (h0 : P[0]? = some (.int .i64 4)) (h4 : P[4]? = some (.string a)) :
  Calls Tryz.prog 26 #[.agg P] w fun e w' => (∃ q, e = .returned (.iface 120 (.pointer (some ⟨q, 0, none⟩))) ∧ w.heap.size ≤ q ∧ w'.heap[q]? = some (.cells #[.string a] 122 (0, 0))) ∧ Below w.heap.size w w' := by
 have hb := heap_alloc_new w (.cells P 29 (0, 0))
 have hbl : Below w.heap.size w (w.alloc (.cells P 29)) := (Below.refl _ _).alloc (Nat.le_refl _) _
 generalize hW : w.alloc (.cells P 29) = W at hb hbl
 have c0 : W.cell? ⟨w.heap.size, 0, none⟩ = some (.int .i64 4) := by rw [zAA hb]; exact h0
 have c4 : W.cell? ⟨w.heap.size, 4, none⟩ = some (.string a) := by rw [zAA hb]; exact h4
 have HB := Lib.hid hbl
 have HW := Lib.hid hW
 clear hb hbl hW h0 h4
 go_enter Tryz.func26, Tryz.ntmps26
 go_wp2_with (refine wpList_boxTo rfl 29 _ rfl (some 1) rfl w.heap.size rfl P rfl ?_; rw [HW.out])
 go_ret
 exact ⟨⟨_, rfl, HB.out.size, heap_alloc_new _ _⟩, HB.out.alloc HB.out.size _⟩
theorem zJi (P : Array Value) (a : ByteArray) (x : Int) (y : Int) (w : World) (h0 : P[0]? = some (.int .i64 5)) (h4 : P[4]? = some (.string a)) (h5 : P[5]? = some (.int .u64 x)) (h6 : P[6]? = some (.int .u32 y)) :
  Calls Tryz.prog 26 #[.agg P] w fun e w' => (∃ q, e = .returned (.iface 123 (.pointer (some ⟨q, 0, none⟩))) ∧ w.heap.size ≤ q ∧ w'.heap[q]? = some (.cells #[.string a, .int .u64 x, .int .u32 y] 125 (0, 0))) ∧ Below w.heap.size w w' := by
 have hb := heap_alloc_new w (.cells P 29 (0, 0))
 have hbl : Below w.heap.size w (w.alloc (.cells P 29)) := (Below.refl _ _).alloc (Nat.le_refl _) _
 generalize hW : w.alloc (.cells P 29) = W at hb hbl
 have c0 : W.cell? ⟨w.heap.size, 0, none⟩ = some (.int .i64 5) := by rw [zAA hb]; exact h0
 have c4 : W.cell? ⟨w.heap.size, 4, none⟩ = some (.string a) := by rw [zAA hb]; exact h4
 have c5 : W.cell? ⟨w.heap.size, 5, none⟩ = some (.int .u64 x) := by rw [zAA hb]; exact h5
 have c6 : W.cell? ⟨w.heap.size, 6, none⟩ = some (.int .u32 y) := by rw [zAA hb]; exact h6
 have HB := Lib.hid hbl
 have HW := Lib.hid hW
 clear hb hbl hW h0 h4 h5 h6
 go_enter Tryz.func26, Tryz.ntmps26
 go_wp2_with (refine wpList_boxTo rfl 29 _ rfl (some 1) rfl w.heap.size rfl P rfl ?_; rw [HW.out])
 go_ret
 exact ⟨⟨_, rfl, HB.out.size, heap_alloc_new _ _⟩, HB.out.alloc HB.out.size _⟩
theorem zIN (P : Array Value) (a : ByteArray) (w : World) (h0 : P[0]? = some (.int .i64 7)) (h2 : P[2]? = some (.string a)) :
  Calls Tryz.prog 26 #[.agg P] w fun e w' => (∃ q, e = .returned (.iface 129 (.pointer (some ⟨q, 0, none⟩))) ∧ w.heap.size ≤ q ∧ w'.heap[q]? = some (.cells #[.string a] 131 (0, 0))) ∧ Below w.heap.size w w' := by
 have hb := heap_alloc_new w (.cells P 29 (0, 0))
 have hbl : Below w.heap.size w (w.alloc (.cells P 29)) := (Below.refl _ _).alloc (Nat.le_refl _) _
 generalize hW : w.alloc (.cells P 29) = W at hb hbl
 have c0 : W.cell? ⟨w.heap.size, 0, none⟩ = some (.int .i64 7) := by rw [zAA hb]; exact h0
 have c2 : W.cell? ⟨w.heap.size, 2, none⟩ = some (.string a) := by rw [zAA hb]; exact h2
 have HB := Lib.hid hbl
 have HW := Lib.hid hW
 clear hb hbl hW h0 h2
 go_enter Tryz.func26, Tryz.ntmps26
 go_wp2_with (refine wpList_boxTo rfl 29 _ rfl (some 1) rfl w.heap.size rfl P rfl ?_; rw [HW.out])
 go_ret
 exact ⟨⟨_, rfl, HB.out.size, heap_alloc_new _ _⟩, HB.out.alloc HB.out.size _⟩
theorem zIO (P : Array Value) (a : ByteArray) (w : World) (h0 : P[0]? = some (.int .i64 8)) (h4 : P[4]? = some (.string a)) :
  Calls Tryz.prog 26 #[.agg P] w fun e w' => (∃ q, e = .returned (.iface 132 (.pointer (some ⟨q, 0, none⟩))) ∧ w.heap.size ≤ q ∧ w'.heap[q]? = some (.cells #[.string a] 133 (0, 0))) ∧ Below w.heap.size w w' := by
 have hb := heap_alloc_new w (.cells P 29 (0, 0))
 have hbl : Below w.heap.size w (w.alloc (.cells P 29)) := (Below.refl _ _).alloc (Nat.le_refl _) _
 generalize hW : w.alloc (.cells P 29) = W at hb hbl
 have c0 : W.cell? ⟨w.heap.size, 0, none⟩ = some (.int .i64 8) := by rw [zAA hb]; exact h0
 have c4 : W.cell? ⟨w.heap.size, 4, none⟩ = some (.string a) := by rw [zAA hb]; exact h4
 have HB := Lib.hid hbl
 have HW := Lib.hid hW
 clear hb hbl hW h0 h4
 go_enter Tryz.func26, Tryz.ntmps26
 go_wp2_with (refine wpList_boxTo rfl 29 _ rfl (some 1) rfl w.heap.size rfl P rfl ?_; rw [HW.out])
 go_ret
 exact ⟨⟨_, rfl, HB.out.size, heap_alloc_new _ _⟩, HB.out.alloc HB.out.size _⟩
theorem zGA (P : Array Value) (a : ByteArray) (w : World) (h0 : P[0]? = some (.int .i64 11)) (h2 : P[2]? = some (.string a)) :
  Calls Tryz.prog 26 #[.agg P] w fun e w' => (∃ q, e = .returned (.iface 140 (.pointer (some ⟨q, 0, none⟩))) ∧ w.heap.size ≤ q ∧ w'.heap[q]? = some (.cells #[.string a] 141 (0, 0))) ∧ Below w.heap.size w w' := by
 have hb := heap_alloc_new w (.cells P 29 (0, 0))
 have hbl : Below w.heap.size w (w.alloc (.cells P 29)) := (Below.refl _ _).alloc (Nat.le_refl _) _
 generalize hW : w.alloc (.cells P 29) = W at hb hbl
 have c0 : W.cell? ⟨w.heap.size, 0, none⟩ = some (.int .i64 11) := by rw [zAA hb]; exact h0
 have c2 : W.cell? ⟨w.heap.size, 2, none⟩ = some (.string a) := by rw [zAA hb]; exact h2
 have HB := Lib.hid hbl
 have HW := Lib.hid hW
 clear hb hbl hW h0 h2
 go_enter Tryz.func26, Tryz.ntmps26
 go_wp2_with (refine wpList_boxTo rfl 29 _ rfl (some 1) rfl w.heap.size rfl P rfl ?_; rw [HW.out])
 go_ret
 exact ⟨⟨_, rfl, HB.out.size, heap_alloc_new _ _⟩, HB.out.alloc HB.out.size _⟩
theorem zGB (P : Array Value) (a : ByteArray) (w : World) (h0 : P[0]? = some (.int .i64 12)) (h4 : P[4]? = some (.string a)) :
  Calls Tryz.prog 26 #[.agg P] w fun e w' => (∃ q, e = .returned (.iface 142 (.pointer (some ⟨q, 0, none⟩))) ∧ w.heap.size ≤ q ∧ w'.heap[q]? = some (.cells #[.string a] 143 (0, 0))) ∧ Below w.heap.size w w' := by
 have hb := heap_alloc_new w (.cells P 29 (0, 0))
 have hbl : Below w.heap.size w (w.alloc (.cells P 29)) := (Below.refl _ _).alloc (Nat.le_refl _) _
 generalize hW : w.alloc (.cells P 29) = W at hb hbl
 have c0 : W.cell? ⟨w.heap.size, 0, none⟩ = some (.int .i64 12) := by rw [zAA hb]; exact h0
 have c4 : W.cell? ⟨w.heap.size, 4, none⟩ = some (.string a) := by rw [zAA hb]; exact h4
 have HB := Lib.hid hbl
 have HW := Lib.hid hW
 clear hb hbl hW h0 h4
 go_enter Tryz.func26, Tryz.ntmps26
 go_wp2_with (refine wpList_boxTo rfl 29 _ rfl (some 1) rfl w.heap.size rfl P rfl ?_; rw [HW.out])
 go_ret
 exact ⟨⟨_, rfl, HB.out.size, heap_alloc_new _ _⟩, HB.out.alloc HB.out.size _⟩
theorem zHH (P : Array Value) (a : ByteArray) (w : World) (h0 : P[0]? = some (.int .i64 13)) (h2 : P[2]? = some (.string a)) :
  Calls Tryz.prog 26 #[.agg P] w fun e w' => (∃ q, e = .returned (.iface 144 (.pointer (some ⟨q, 0, none⟩))) ∧ w.heap.size ≤ q ∧ w'.heap[q]? = some (.cells #[.string a] 145 (0, 0))) ∧ Below w.heap.size w w' := by
 have hb := heap_alloc_new w (.cells P 29 (0, 0))
 have hbl : Below w.heap.size w (w.alloc (.cells P 29)) := (Below.refl _ _).alloc (Nat.le_refl _) _
 generalize hW : w.alloc (.cells P 29) = W at hb hbl
 have c0 : W.cell? ⟨w.heap.size, 0, none⟩ = some (.int .i64 13) := by rw [zAA hb]; exact h0
 have c2 : W.cell? ⟨w.heap.size, 2, none⟩ = some (.string a) := by rw [zAA hb]; exact h2
 have HB := Lib.hid hbl
 have HW := Lib.hid hW
 clear hb hbl hW h0 h2
 go_enter Tryz.func26, Tryz.ntmps26
 go_wp2_with (refine wpList_boxTo rfl 29 _ rfl (some 1) rfl w.heap.size rfl P rfl ?_; rw [HW.out])
 go_ret
 exact ⟨⟨_, rfl, HB.out.size, heap_alloc_new _ _⟩, HB.out.alloc HB.out.size _⟩
theorem zIP (P : Array Value) (a : ByteArray) (w : World) (h0 : P[0]? = some (.int .i64 15)) (h2 : P[2]? = some (.string a)) :
  Calls Tryz.prog 26 #[.agg P] w fun e w' => (∃ q, e = .returned (.iface 148 (.pointer (some ⟨q, 0, none⟩))) ∧ w.heap.size ≤ q ∧ w'.heap[q]? = some (.cells #[.string a] 149 (0, 0))) ∧ Below w.heap.size w w' := by
 have hb := heap_alloc_new w (.cells P 29 (0, 0))
 have hbl : Below w.heap.size w (w.alloc (.cells P 29)) := (Below.refl _ _).alloc (Nat.le_refl _) _
 generalize hW : w.alloc (.cells P 29) = W at hb hbl
 have c0 : W.cell? ⟨w.heap.size, 0, none⟩ = some (.int .i64 15) := by rw [zAA hb]; exact h0
 have c2 : W.cell? ⟨w.heap.size, 2, none⟩ = some (.string a) := by rw [zAA hb]; exact h2
 have HB := Lib.hid hbl
 have HW := Lib.hid hW
 clear hb hbl hW h0 h2
 go_enter Tryz.func26, Tryz.ntmps26
 go_wp2_with (refine wpList_boxTo rfl 29 _ rfl (some 1) rfl w.heap.size rfl P rfl ?_; rw [HW.out])
 go_ret
 exact ⟨⟨_, rfl, HB.out.size, heap_alloc_new _ _⟩, HB.out.alloc HB.out.size _⟩
theorem zFF (P : Array Value) (a : ByteArray) (w : World) (h0 : P[0]? = some (.int .i64 16)) (h2 : P[2]? = some (.string a)) :
  Calls Tryz.prog 26 #[.agg P] w fun e w' => (∃ q, e = .returned (.iface 150 (.pointer (some ⟨q, 0, none⟩))) ∧ w.heap.size ≤ q ∧ w'.heap[q]? = some (.cells #[.string a] 151 (0, 0))) ∧ Below w.heap.size w w' := by
 have hb := heap_alloc_new w (.cells P 29 (0, 0))
 have hbl : Below w.heap.size w (w.alloc (.cells P 29)) := (Below.refl _ _).alloc (Nat.le_refl _) _
 generalize hW : w.alloc (.cells P 29) = W at hb hbl
 have c0 : W.cell? ⟨w.heap.size, 0, none⟩ = some (.int .i64 16) := by rw [zAA hb]; exact h0
 have c2 : W.cell? ⟨w.heap.size, 2, none⟩ = some (.string a) := by rw [zAA hb]; exact h2
 have HB := Lib.hid hbl
 have HW := Lib.hid hW
 clear hb hbl hW h0 h2
 go_enter Tryz.func26, Tryz.ntmps26
 go_wp2_with (refine wpList_boxTo rfl 29 _ rfl (some 1) rfl w.heap.size rfl P rfl ?_; rw [HW.out])
 go_ret
 exact ⟨⟨_, rfl, HB.out.size, heap_alloc_new _ _⟩, HB.out.alloc HB.out.size _⟩
theorem zJj (P : Array Value) (a : ByteArray) (w : World) (h0 : P[0]? = some (.int .i64 17)) (h2 : P[2]? = some (.string a)) :
  Calls Tryz.prog 26 #[.agg P] w fun e w' => (∃ q, e = .returned (.iface 152 (.pointer (some ⟨q, 0, none⟩))) ∧ w.heap.size ≤ q ∧ w'.heap[q]? = some (.cells #[.string a] 153 (0, 0))) ∧ Below w.heap.size w w' := by
 have hb := heap_alloc_new w (.cells P 29 (0, 0))
 have hbl : Below w.heap.size w (w.alloc (.cells P 29)) := (Below.refl _ _).alloc (Nat.le_refl _) _
 generalize hW : w.alloc (.cells P 29) = W at hb hbl
 have c0 : W.cell? ⟨w.heap.size, 0, none⟩ = some (.int .i64 17) := by rw [zAA hb]; exact h0
 have c2 : W.cell? ⟨w.heap.size, 2, none⟩ = some (.string a) := by rw [zAA hb]; exact h2
 have HB := Lib.hid hbl
 have HW := Lib.hid hW
 clear hb hbl hW h0 h2
 go_enter Tryz.func26, Tryz.ntmps26
 go_wp2_with (refine wpList_boxTo rfl 29 _ rfl (some 1) rfl w.heap.size rfl P rfl ?_; rw [HW.out])
 go_ret
 exact ⟨⟨_, rfl, HB.out.size, heap_alloc_new _ _⟩, HB.out.alloc HB.out.size _⟩
theorem zHI (P : Array Value) (a : ByteArray) (b : ByteArray) (w : World) (h0 : P[0]? = some (.int .i64 18)) (h2 : P[2]? = some (.string a)) (h3 : P[3]? = some (.string b)) :
  Calls Tryz.prog 26 #[.agg P] w fun e w' => (∃ q, e = .returned (.iface 154 (.pointer (some ⟨q, 0, none⟩))) ∧ w.heap.size ≤ q ∧ w'.heap[q]? = some (.cells #[.string a, .string b] 156 (0, 0))) ∧ Below w.heap.size w w' := by
 have hb := heap_alloc_new w (.cells P 29 (0, 0))
 have hbl : Below w.heap.size w (w.alloc (.cells P 29)) := (Below.refl _ _).alloc (Nat.le_refl _) _
 generalize hW : w.alloc (.cells P 29) = W at hb hbl
 have c0 : W.cell? ⟨w.heap.size, 0, none⟩ = some (.int .i64 18) := by rw [zAA hb]; exact h0
 have c2 : W.cell? ⟨w.heap.size, 2, none⟩ = some (.string a) := by rw [zAA hb]; exact h2
 have c3 : W.cell? ⟨w.heap.size, 3, none⟩ = some (.string b) := by rw [zAA hb]; exact h3
 have HB := Lib.hid hbl
 have HW := Lib.hid hW
 clear hb hbl hW h0 h2 h3
 go_enter Tryz.func26, Tryz.ntmps26
 go_wp2_with (refine wpList_boxTo rfl 29 _ rfl (some 1) rfl w.heap.size rfl P rfl ?_; rw [HW.out])
 go_ret
 exact ⟨⟨_, rfl, HB.out.size, heap_alloc_new _ _⟩, HB.out.alloc HB.out.size _⟩
theorem zFG (P : Array Value) (a : ByteArray) (w : World) (h0 : P[0]? = some (.int .i64 19)) (h2 : P[2]? = some (.string a)) :
  Calls Tryz.prog 26 #[.agg P] w fun e w' => (∃ q, e = .returned (.iface 157 (.pointer (some ⟨q, 0, none⟩))) ∧ w.heap.size ≤ q ∧ w'.heap[q]? = some (.cells #[.string a] 158 (0, 0))) ∧ Below w.heap.size w w' := by
 have hb := heap_alloc_new w (.cells P 29 (0, 0))
 have hbl : Below w.heap.size w (w.alloc (.cells P 29)) := (Below.refl _ _).alloc (Nat.le_refl _) _
 generalize hW : w.alloc (.cells P 29) = W at hb hbl
 have c0 : W.cell? ⟨w.heap.size, 0, none⟩ = some (.int .i64 19) := by rw [zAA hb]; exact h0
 have c2 : W.cell? ⟨w.heap.size, 2, none⟩ = some (.string a) := by rw [zAA hb]; exact h2
 have HB := Lib.hid hbl
 have HW := Lib.hid hW
 clear hb hbl hW h0 h2
 go_enter Tryz.func26, Tryz.ntmps26
 go_wp2_with (refine wpList_boxTo rfl 29 _ rfl (some 1) rfl w.heap.size rfl P rfl ?_; rw [HW.out])
 go_ret
 exact ⟨⟨_, rfl, HB.out.size, heap_alloc_new _ _⟩, HB.out.alloc HB.out.size _⟩
theorem zGC (P : Array Value) (a : ByteArray) (b : ByteArray) (w : World) (h0 : P[0]? = some (.int .i64 20)) (h2 : P[2]? = some (.string a)) (h3 : P[3]? = some (.string b)) :
  Calls Tryz.prog 26 #[.agg P] w fun e w' => (∃ q, e = .returned (.iface 159 (.pointer (some ⟨q, 0, none⟩))) ∧ w.heap.size ≤ q ∧ w'.heap[q]? = some (.cells #[.string a, .string b] 161 (0, 0))) ∧ Below w.heap.size w w' := by
 have hb := heap_alloc_new w (.cells P 29 (0, 0))
 have hbl : Below w.heap.size w (w.alloc (.cells P 29)) := (Below.refl _ _).alloc (Nat.le_refl _) _
 generalize hW : w.alloc (.cells P 29) = W at hb hbl
 have c0 : W.cell? ⟨w.heap.size, 0, none⟩ = some (.int .i64 20) := by rw [zAA hb]; exact h0
 have c2 : W.cell? ⟨w.heap.size, 2, none⟩ = some (.string a) := by rw [zAA hb]; exact h2
 have c3 : W.cell? ⟨w.heap.size, 3, none⟩ = some (.string b) := by rw [zAA hb]; exact h3
 have HB := Lib.hid hbl
 have HW := Lib.hid hW
 clear hb hbl hW h0 h2 h3
 go_enter Tryz.func26, Tryz.ntmps26
 go_wp2_with (refine wpList_boxTo rfl 29 _ rfl (some 1) rfl w.heap.size rfl P rfl ?_; rw [HW.out])
 go_ret
 exact ⟨⟨_, rfl, HB.out.size, heap_alloc_new _ _⟩, HB.out.alloc HB.out.size _⟩
theorem zHJ (P : Array Value) (x : Int) (a : ByteArray) (b : ByteArray) (w : World) (h0 : P[0]? = some (.int .i64 101)) (h20 : P[20]? = some (.int .u32 x)) (h21 : P[21]? = some (.string a)) (h22 : P[22]? = some (.string b)) :
  Calls Tryz.prog 26 #[.agg P] w fun e w' => (∃ q, e = .returned (.iface 162 (.pointer (some ⟨q, 0, none⟩))) ∧ w.heap.size ≤ q ∧ w'.heap[q]? = some (.cells #[.int .u32 x, .string a, .string b] 165 (0, 0))) ∧ Below w.heap.size w w' := by
 have hb := heap_alloc_new w (.cells P 29 (0, 0))
 have hbl : Below w.heap.size w (w.alloc (.cells P 29)) := (Below.refl _ _).alloc (Nat.le_refl _) _
 generalize hW : w.alloc (.cells P 29) = W at hb hbl
 have c0 : W.cell? ⟨w.heap.size, 0, none⟩ = some (.int .i64 101) := by rw [zAA hb]; exact h0
 have c20 : W.cell? ⟨w.heap.size, 20, none⟩ = some (.int .u32 x) := by rw [zAA hb]; exact h20
 have c21 : W.cell? ⟨w.heap.size, 21, none⟩ = some (.string a) := by rw [zAA hb]; exact h21
 have c22 : W.cell? ⟨w.heap.size, 22, none⟩ = some (.string b) := by rw [zAA hb]; exact h22
 have HB := Lib.hid hbl
 have HW := Lib.hid hW
 clear hb hbl hW h0 h20 h21 h22
 go_enter Tryz.func26, Tryz.ntmps26
 go_wp2_with (refine wpList_boxTo rfl 29 _ rfl (some 1) rfl w.heap.size rfl P rfl ?_; rw [HW.out])
 go_ret
 exact ⟨⟨_, rfl, HB.out.size, heap_alloc_new _ _⟩, HB.out.alloc HB.out.size _⟩
theorem zHK (P : Array Value) (a : ByteArray) (w : World) (h0 : P[0]? = some (.int .i64 102)) (h4 : P[4]? = some (.string a)) :
  Calls Tryz.prog 26 #[.agg P] w fun e w' => (∃ q, e = .returned (.iface 166 (.pointer (some ⟨q, 0, none⟩))) ∧ w.heap.size ≤ q ∧ w'.heap[q]? = some (.cells #[.string a] 167 (0, 0))) ∧ Below w.heap.size w w' := by
 have hb := heap_alloc_new w (.cells P 29 (0, 0))
 have hbl : Below w.heap.size w (w.alloc (.cells P 29)) := (Below.refl _ _).alloc (Nat.le_refl _) _
 generalize hW : w.alloc (.cells P 29) = W at hb hbl
 have c0 : W.cell? ⟨w.heap.size, 0, none⟩ = some (.int .i64 102) := by rw [zAA hb]; exact h0
 have c4 : W.cell? ⟨w.heap.size, 4, none⟩ = some (.string a) := by rw [zAA hb]; exact h4
 have HB := Lib.hid hbl
 have HW := Lib.hid hW
 clear hb hbl hW h0 h4
 go_enter Tryz.func26, Tryz.ntmps26
 go_wp2_with (refine wpList_boxTo rfl 29 _ rfl (some 1) rfl w.heap.size rfl P rfl ?_; rw [HW.out])
 go_ret
 exact ⟨⟨_, rfl, HB.out.size, heap_alloc_new _ _⟩, HB.out.alloc HB.out.size _⟩
theorem zIQ (P : Array Value) (a : ByteArray) (x : Int) (d : ByteArray) (w : World) (h0 : P[0]? = some (.int .i64 6)) (h4 : P[4]? = some (.string a)) (h5 : P[5]? = some (.int .u64 x)) (h8 : P[8]? = some (.string d)) :
  Calls Tryz.prog 26 #[.agg P] w fun e w' => (∃ q s c, e = .returned (.iface 126 (.pointer (some ⟨q, 0, none⟩))) ∧ w.heap.size ≤ q ∧ w'.heap[q]? = some (.cells #[.string a, .int .u64 x, .slice (some ⟨s, 0, none⟩) d.size c] 128 (0, 0)) ∧ w.heap.size ≤ s ∧ s < w'.heap.size ∧ s ≠ q ∧ Lies w' s 0 (tl d)) ∧ Below w.heap.size w w' := by
 have kb := fun W => Lib.run_convert_string_bytes (P := Tryz.prog) W 9 56 5 d Tryz.underlying9 Tryz.underlying56 Tryz.underlying5
 have hb := heap_alloc_new w (.cells P 29 (0, 0))
 have hbl : Below w.heap.size w (w.alloc (.cells P 29)) := (Below.refl _ _).alloc (Nat.le_refl _) _
 generalize hW : w.alloc (.cells P 29) = W at hb hbl
 have c0 : W.cell? ⟨w.heap.size, 0, none⟩ = some (.int .i64 6) := by rw [zAA hb]; exact h0
 have c4 : W.cell? ⟨w.heap.size, 4, none⟩ = some (.string a) := by rw [zAA hb]; exact h4
 have c5 : W.cell? ⟨w.heap.size, 5, none⟩ = some (.int .u64 x) := by rw [zAA hb]; exact h5
 have c8 : W.cell? ⟨w.heap.size, 8, none⟩ = some (.string d) := by rw [zAA hb]; exact h8
 have hv : Below w.heap.size w (Lib.bytesWorld W 5 d) := bytes_below hbl hbl.size _ _
 have hvs : (Lib.bytesWorld W 5 d).heap.size = W.heap.size + 1 := Lib.bytesWorld_size _ _ _
 have hsr : Lies (Lib.bytesWorld W 5 d) W.heap.size 0 (tl d) := fun j b hj => zCB W _ d j b hj
 have HB := Lib.hid hbl
 have HW := Lib.hid hW
 have HV := Lib.hid hv
 have HS := Lib.hid hsr
 have HZ := Lib.hid hvs
 clear hb hbl hW h0 h8 h4 h5 hv hvs hsr
 go_enter Tryz.func26, Tryz.ntmps26
 go_wp2_with (refine wpList_boxTo rfl 29 _ rfl (some 1) rfl w.heap.size rfl P rfl ?_; rw [HW.out])
 go_ret
 have hz := HZ.out
 have hw0 := HB.out.size
 refine ⟨⟨_, W.heap.size, _, rfl, by rw [hz]; omega, heap_alloc_new _ _, hw0, by simp; omega, by rw [hz]; omega, HS.out.kept (heap_alloc_old _ _ (by omega))⟩, HV.out.alloc HV.out.size _⟩
theorem zJk (P : Array Value) (d : ByteArray) (w : World) (h0 : P[0]? = some (.int .i64 103)) (h8 : P[8]? = some (.string d)) :
  Calls Tryz.prog 26 #[.agg P] w fun e w' => (∃ q s c, e = .returned (.iface 168 (.pointer (some ⟨q, 0, none⟩))) ∧ w.heap.size ≤ q ∧ w'.heap[q]? = some (.cells #[.slice (some ⟨s, 0, none⟩) d.size c] 170 (0, 0)) ∧ w.heap.size ≤ s ∧ s < w'.heap.size ∧ s ≠ q ∧ Lies w' s 0 (tl d)) ∧ Below w.heap.size w w' := by
 have kb := fun W => Lib.run_convert_string_bytes (P := Tryz.prog) W 9 56 5 d Tryz.underlying9 Tryz.underlying56 Tryz.underlying5
 have hb := heap_alloc_new w (.cells P 29 (0, 0))
 have hbl : Below w.heap.size w (w.alloc (.cells P 29)) := (Below.refl _ _).alloc (Nat.le_refl _) _
 generalize hW : w.alloc (.cells P 29) = W at hb hbl
 have c0 : W.cell? ⟨w.heap.size, 0, none⟩ = some (.int .i64 103) := by rw [zAA hb]; exact h0

 have c8 : W.cell? ⟨w.heap.size, 8, none⟩ = some (.string d) := by rw [zAA hb]; exact h8
 have hv : Below w.heap.size w (Lib.bytesWorld W 5 d) := bytes_below hbl hbl.size _ _
 have hvs : (Lib.bytesWorld W 5 d).heap.size = W.heap.size + 1 := Lib.bytesWorld_size _ _ _
 have hsr : Lies (Lib.bytesWorld W 5 d) W.heap.size 0 (tl d) := fun j b hj => zCB W _ d j b hj
 have HB := Lib.hid hbl
 have HW := Lib.hid hW
 have HV := Lib.hid hv
 have HS := Lib.hid hsr
 have HZ := Lib.hid hvs
 clear hb hbl hW h0 h8 hv hvs hsr
 go_enter Tryz.func26, Tryz.ntmps26
 go_wp2_with (refine wpList_boxTo rfl 29 _ rfl (some 1) rfl w.heap.size rfl P rfl ?_; rw [HW.out])
 go_ret
 have hz := HZ.out
 have hw0 := HB.out.size
 refine ⟨⟨_, W.heap.size, _, rfl, by rw [hz]; omega, heap_alloc_new _ _, hw0, by simp; omega, by rw [hz]; omega, HS.out.kept (heap_alloc_old _ _ (by omega))⟩, HV.out.alloc HV.out.size _⟩
end Go.Proofs.YtgnficcjnijdbaaGreat
