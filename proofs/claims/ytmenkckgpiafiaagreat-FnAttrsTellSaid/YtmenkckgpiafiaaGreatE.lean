/-
  Contracts of the reading side: numbers of bytes, and the buffer's Consume functions.
-/
import Derived.Test.YtmenkckgpiafiaaGreatC
import Derived.Lib.EndianBits
import Derived.Deep.RegionWith
import Derived.RegionTactic
import Derived.ChangeAlike
namespace Go.Proofs.YtmenkckgpiafiaaGreat
open Go.RowKit

theorem ret_int {k : IntKind} {a b : Int} (h : a = b) : Ending.returned (.int k a) = .returned (.int k b) := by rw [h]
set_option maxHeartbeats 800000 in
theorem sysU32 (s p n c : Nat) (x0 x1 x2 x3 : UInt8) (w : World) (hn : 4 ≤ n) (hn2 : n ≤ 1000000000)
    (h0 : w.cell? ⟨s, p, none⟩ = some (.int .u8 (x0.toNat : Int))) (h1 : w.cell? ⟨s, p + 1, none⟩ = some (.int .u8 (x1.toNat : Int))) (h2 : w.cell? ⟨s, p + 2, none⟩ = some (.int .u8 (x2.toNat : Int))) (h3 : w.cell? ⟨s, p + 3, none⟩ = some (.int .u8 (x3.toNat : Int))) :
    Calls Tryz.prog 113 #[.slice (some ⟨s, p, none⟩) n c] w fun e w' => e = .returned (.int .u32 (x0.toNat * 16777216 + x1.toNat * 65536 + x2.toNat * 256 + x3.toNat)) ∧ ∃ k, w' = w.drewN k := by
  have b0 := x0.toNat_lt
  have b1 := x1.toNat_lt
  have b2 := x2.toNat_lt
  have b3 := x3.toNat_lt
  have i0 : (0 : Int) < (n : Int) := by omega
  have i1 : (1 : Int) < (n : Int) := by omega
  have i2 : (2 : Int) < (n : Int) := by omega
  have i3 : (3 : Int) < (n : Int) := by omega
  go_enter Tryz.func113, Tryz.ntmps113
  go_wp2
  go_quiet (fail)
  go_wp2
  go_ret
  refine ⟨ret_int ?_, _, rfl⟩
  have e1 : bits .or .u32 (x3.toNat : Int) ((x2.toNat : Int) * 256) = x3.toNat + x2.toNat * 256 := u32_or8 _ _ (by omega) (by omega) (by omega) (by omega) (by omega)
  have e2 : bits .or .u32 ((x3.toNat : Int) + x2.toNat * 256) ((x1.toNat : Int) * 65536) = x3.toNat + x2.toNat * 256 + x1.toNat * 65536 := u32_or16 _ _ (by omega) (by omega) (by omega) (by omega) (by omega)
  have e3 : bits .or .u32 ((x3.toNat : Int) + x2.toNat * 256 + x1.toNat * 65536) ((x0.toNat : Int) * 16777216) = x3.toNat + x2.toNat * 256 + x1.toNat * 65536 + x0.toNat * 16777216 := u32_or24 _ _ (by omega) (by omega) (by omega) (by omega) (by omega)
  rw [e1, e2, e3]
  omega

/-- What the first bytes say as a number. -/
def gi (l : List UInt8) (i : Nat) : Int := ((l.getD i 0).toNat : Int)
def rd8 (l : List UInt8) : Int := gi l 0
def rd16 (l : List UInt8) : Int := gi l 0 * 256 + gi l 1
def rd32 (l : List UInt8) : Int := gi l 0 * 16777216 + gi l 1 * 65536 + gi l 2 * 256 + gi l 3
def rd64 (l : List UInt8) : Int := rd32 l * 4294967296 + rd32 (l.drop 4)
theorem gi_range (l : List UInt8) (i : Nat) : 0 ≤ gi l i ∧ gi l i ≤ 255 := by
  unfold gi
  have := (l.getD i 0).toNat_lt
  omega
theorem rd32_range (l : List UInt8) : 0 ≤ rd32 l ∧ rd32 l ≤ 4294967295 := by
  have := gi_range l 0
  have := gi_range l 1
  have := gi_range l 2
  have := gi_range l 3
  unfold rd32
  omega
/-- Bytes lie in memory from an address on. -/
def Lies (w : World) (s p : Nat) (l : List UInt8) : Prop := ∀ j b, l[j]? = some b → w.cell? ⟨s, p + j, none⟩ = some (u8 b)
theorem Lies.at_ {w : World} {s p : Nat} {l : List UInt8} (h : Lies w s p l) (j : Nat) (hj : j < l.length) : w.cell? ⟨s, p + j, none⟩ = some (.int .u8 ((l.getD j 0).toNat : Int)) := by
  have := h j (l[j]) (by rw [List.getElem?_eq_getElem hj])
  rw [this]
  unfold u8
  rw [List.getD_eq_getElem?_getD, List.getElem?_eq_getElem hj]
  rfl
theorem Lies.drop {w : World} {s p : Nat} {l : List UInt8} (h : Lies w s p l) (k : Nat) : Lies w s (p + k) (l.drop k) := fun j b hj => by
  rw [List.getElem?_drop] at hj
  rw [Nat.add_assoc]
  exact h _ _ hj
theorem Lies.take {w : World} {s p : Nat} {l : List UInt8} (h : Lies w s p l) (k : Nat) : Lies w s p (l.take k) := fun j b hj => by
  rw [List.getElem?_take] at hj
  split at hj
  · exact h _ _ hj
  · cases hj
theorem Lies.kept {w w' : World} {s p : Nat} {l : List UInt8} (h : Lies w s p l) (hk : w'.heap[s]? = w.heap[s]?) : Lies w' s p l := fun j b hj => by
  rw [World.cell?_of_block (w := w) hk]
  exact h j b hj
theorem Lies.drewN {w : World} {s p : Nat} {l : List UInt8} (h : Lies w s p l) (n : Nat) : Lies (w.drewN n) s p l := h

theorem sysU32L (s p n c : Nat) (l : List UInt8) (w : World) (hn : 4 ≤ n) (hn2 : n ≤ 1000000000) (hl : 4 ≤ l.length) (h : Lies w s p l) :
    Calls Tryz.prog 113 #[.slice (some ⟨s, p, none⟩) n c] w fun e w' => e = .returned (.int .u32 (rd32 l)) ∧ ∃ k, w' = w.drewN k :=
  sysU32 s p n c _ _ _ _ w hn hn2 (h.at_ 0 (by omega)) (h.at_ 1 (by omega)) (h.at_ 2 (by omega)) (h.at_ 3 (by omega))

set_option maxHeartbeats 800000 in
theorem sysU16L (s p n c : Nat) (l : List UInt8) (w : World) (hn : 2 ≤ n) (hn2 : n ≤ 1000000000) (hl : 2 ≤ l.length) (h : Lies w s p l) :
    Calls Tryz.prog 148 #[.slice (some ⟨s, p, none⟩) n c] w fun e w' => e = .returned (.int .u16 (rd16 l)) ∧ ∃ k, w' = w.drewN k := by
  have h0 := h.at_ 0 (by omega)
  have h1 := h.at_ 1 (by omega)
  rw [Nat.add_zero] at h0
  unfold rd16 gi
  generalize l.getD 0 0 = x0 at *
  generalize l.getD 1 0 = x1 at *
  clear h
  have b0 := x0.toNat_lt
  have b1 := x1.toNat_lt
  have i0 : (0 : Int) < (n : Int) := by omega
  have i1 : (1 : Int) < (n : Int) := by omega
  go_enter Tryz.func148, Tryz.ntmps148
  go_wp2
  go_quiet (fail)
  go_wp2
  go_ret
  refine ⟨ret_int ?_, _, rfl⟩
  have e1 : bits .or .u16 (x1.toNat : Int) ((x0.toNat : Int) * 256) = x1.toNat + x0.toNat * 256 := u16_or8 _ _ (by omega) (by omega) (by omega) (by omega) (by omega)
  rw [e1]
  omega

set_option maxHeartbeats 800000 in
theorem sysU64L (s p n c : Nat) (l : List UInt8) (w : World) (hn : 8 ≤ n) (hc : n ≤ c) (hn2 : n ≤ 1000000000) (hl : 8 ≤ l.length) (h : Lies w s p l) :
    Calls Tryz.prog 149 #[.slice (some ⟨s, p, none⟩) n c] w fun e w' => e = .returned (.int .u64 (rd64 l)) ∧ ∃ k, w' = w.drewN k := by
  have HC := fun k => sysU32L s p n c l (w.drewN k) (by omega) hn2 (by omega) (h.drewN k)
  have HC2 := fun k => sysU32L s (p + 4) (n - 4) (c - 4) (l.drop 4) (w.drewN k) (by omega) (by omega) (by simp; omega) ((h.drop 4).drewN k)
  have r1 := rd32_range l
  have r2 := rd32_range (l.drop 4)
  unfold rd64
  generalize rd32 (l.drop 4) = y at *
  generalize rd32 l = x at *
  have H1 := Lib.hid HC
  have H2 := Lib.hid HC2
  clear HC HC2 h
  have i1 : (4 : Int) ≤ (n : Int) := by omega
  have i2 : 4 < c := by omega
  have i3 : ¬ (c = 4) := by omega
  go_enter Tryz.func149, Tryz.ntmps149
  go_wp2
  go_quiet ((first | (go_at_call_of 113 (Value.slice (some ⟨s, p, none⟩) n c); exact Calls.quiet_of (H1.out _)) | (go_at_call 113; exact Calls.quiet_of (H2.out _))))
  go_wp2
  go_ret
  refine ⟨ret_int ?_, _, rfl⟩
  exact bits_join .u64 64 (by decide) wraps_u64 32 (x * 4294967296) y (by omega) (by omega) (by omega) (by omega) (by omega) (by omega)

/-- A reading buffer at ⟨g, o⟩: what is left of it; none: its error is set. -/
structure RBuf (w : World) (g o s : Nat) (r : Option (List UInt8)) : Prop where
  ex : ∃ p n c off, w.cell? ⟨g, o, none⟩ = some (.slice (some ⟨s, p, none⟩) n c) ∧ w.cell? ⟨g, o + 1, none⟩ = some (.int .i64 ((off : Nat) : Int)) ∧ (s ≠ g ∧ s < w.heap.size) ∧ off ≤ n ∧ n ≤ c ∧ n ≤ 1000000000 ∧
    (match r with
      | some l => w.cell? ⟨g, o + 2, none⟩ = some .nilIface ∧ off + l.length = n ∧ Lies w s (p + off) l
      | none => ∃ t v, w.cell? ⟨g, o + 2, none⟩ = some (.iface t v))
  frz : ∀ i, w.frozen? ⟨g, i, none⟩ = false
/-- Of what was there only two cells of block g may have turned. -/
structure UpdR (g o : Nat) (w w' : World) : Prop where
  os : w'.os = w.os
  tape : w'.tape = w.tape
  output : w'.output = w.output
  size : w.heap.size ≤ w'.heap.size
  block : ∀ k, k < w.heap.size → k ≠ g → w'.heap[k]? = w.heap[k]?
  cell : ∀ i, i ≠ o + 1 → i ≠ o + 2 → w'.cell? ⟨g, i, none⟩ = w.cell? ⟨g, i, none⟩
  frz : ∀ i, w'.frozen? ⟨g, i, none⟩ = w.frozen? ⟨g, i, none⟩
theorem UpdR.refl (g o : Nat) (w : World) : UpdR g o w w := ⟨rfl, rfl, rfl, Nat.le_refl _, fun _ _ _ => rfl, fun _ _ _ => rfl, fun _ => rfl⟩
theorem UpdR.trans {g o : Nat} {w w1 w2 : World} (h1 : UpdR g o w w1) (h2 : UpdR g o w1 w2) : UpdR g o w w2 :=
  ⟨h2.os.trans h1.os, h2.tape.trans h1.tape, h2.output.trans h1.output, Nat.le_trans h1.size h2.size, fun k hk e => (h2.block k (by have := h1.size; omega) e).trans (h1.block k hk e),
    fun i e1 e2 => (h2.cell i e1 e2).trans (h1.cell i e1 e2), fun i => (h2.frz i).trans (h1.frz i)⟩
theorem UpdR.drewN {g o : Nat} {w w1 : World} (h : UpdR g o w w1) (n : Nat) : UpdR g o w (w1.drewN n) := ⟨h.os, h.tape, h.output, h.size, h.block, h.cell, h.frz⟩
theorem UpdR.below {g o : Nat} {w w1 : World} (h : UpdR g o w w1) {B : Nat} (hB : B ≤ g) (hB2 : B ≤ w.heap.size) : Below B w w1 := ⟨h.os, h.tape, h.output, h.size, fun k hk => h.block k (by omega) (by omega)⟩
/-- What is consumed. -/
def c8 : Option (List UInt8) → Int × Option (List UInt8)
  | some l => if 1 ≤ l.length then (rd8 l, some (l.drop 1)) else (0, none)
  | none => (0, none)
def c16 : Option (List UInt8) → Int × Option (List UInt8)
  | some l => if 2 ≤ l.length then (rd16 l, some (l.drop 2)) else (0, none)
  | none => (0, none)
def c32 : Option (List UInt8) → Int × Option (List UInt8)
  | some l => if 4 ≤ l.length then (rd32 l, some (l.drop 4)) else (0, none)
  | none => (0, none)
def c64 : Option (List UInt8) → Int × Option (List UInt8)
  | some l => if 8 ≤ l.length then (rd64 l, some (l.drop 8)) else (0, none)
  | none => (0, none)

set_option maxHeartbeats 800000 in
theorem lenB (g o s p n c off : Nat) (w : World) (h0 : w.cell? ⟨g, o, none⟩ = some (.slice (some ⟨s, p, none⟩) n c)) (h1 : w.cell? ⟨g, o + 1, none⟩ = some (.int .i64 ((off : Nat) : Int))) (ho : off ≤ n) (hn : n ≤ 1000000000) :
    Calls Tryz.prog 139 #[.pointer (some ⟨g, o, none⟩)] w fun e w' => e = .returned (.int .i64 ((n : Int) - (off : Int))) ∧ ∃ k, w' = w.drewN k := by
  go_enter Tryz.func139, Tryz.ntmps139
  go_wp2
  go_quiet (fail)
  go_wp2
  go_ret
  exact ⟨rfl, _, rfl⟩

set_option maxHeartbeats 400000 in
theorem newError (s : ByteArray) (w : World) :
    Calls Tryz.prog 151 #[.string s] w fun e w' => e = .returned (.iface 297 (.pointer (some ⟨w.heap.size, 0, none⟩))) ∧ w.alloc (.cells #[.string s] 299) = w' := by
  go_enter Tryz.func151, Tryz.ntmps151
  go_wp2
  go_ret
  exact ⟨rfl, rfl⟩
/-- An error that is not nil; of what was there nothing has turned. -/
def SomeErr (w : World) (e : Ending) (w' : World) : Prop := ∃ t v, e = .returned (.iface t v) ∧ Below w.heap.size w w'
set_option maxHeartbeats 400000 in
theorem errShort (w : World) : Calls Tryz.prog 144 #[] w (SomeErr w) := by
  go_enter Tryz.func144, Tryz.ntmps144
  go_wp2_with (go_at_call 151; refine (newError _ _).mono ?_; rintro e w' ⟨rfl, rfl⟩)
  go_ret
  exact ⟨_, _, rfl, (Below.refl _ _).alloc (Nat.le_refl _) _⟩
set_option maxHeartbeats 400000 in
theorem errLong (w : World) : Calls Tryz.prog 143 #[] w (SomeErr w) := by
  go_enter Tryz.func143, Tryz.ntmps143
  go_wp2_with (go_at_call 151; refine (newError _ _).mono ?_; rintro e w' ⟨rfl, rfl⟩)
  go_ret
  exact ⟨_, _, rfl, (Below.refl _ _).alloc (Nat.le_refl _) _⟩

theorem sc_same {w : World} {a : Addr} {v u : Value} (h : w.cell? a = some u) : (w.setCell a v).cell? a = some v := World.cell?_setCell_same (w := w) (a := a) (v := v) h
theorem sc_other {w : World} {a b : Addr} {v : Value} (h : a ≠ b) : (w.setCell a v).cell? b = w.cell? b := World.cell?_setCell_other w a b v h
theorem sc_frz {w : World} {a b : Addr} {v : Value} : (w.setCell a v).frozen? b = w.frozen? b := World.frozen?_setCell w a b v
theorem ne_off {g a b : Nat} (h : a ≠ b) : (⟨g, a, none⟩ : Addr) ≠ ⟨g, b, none⟩ := fun e => by injection e; omega
/-- The buffer goes on: its offset is stored. -/
theorem RBuf.adv {w : World} {g o s p n c off k : Nat} {l : List UInt8} (h0 : w.cell? ⟨g, o, none⟩ = some (.slice (some ⟨s, p, none⟩) n c)) (h1 : w.cell? ⟨g, o + 1, none⟩ = some (.int .i64 ((off : Nat) : Int)))
    (h2 : w.cell? ⟨g, o + 2, none⟩ = some .nilIface) (hsg : s ≠ g ∧ s < w.heap.size) (hl : off + l.length = n) (hnc : n ≤ c) (hn : n ≤ 1000000000) (hL : Lies w s (p + off) l) (hf : ∀ i, w.frozen? ⟨g, i, none⟩ = false) (hk : k ≤ l.length)
    {v : Value} (hv : v = .int .i64 (((off + k : Nat)) : Int)) :
    RBuf (w.setCell ⟨g, o + 1, none⟩ v) g o s (some (l.drop k)) ∧ UpdR g o w (w.setCell ⟨g, o + 1, none⟩ v) := by
  subst hv
  refine ⟨⟨⟨p, n, c, off + k, ?_, sc_same h1, ⟨hsg.1, by simpa [World.setCell] using hsg.2⟩, by omega, hnc, hn, ?_, by simp; omega, ?_⟩, fun i => by rw [sc_frz]; exact hf i⟩, ⟨rfl, rfl, rfl, by simp [World.setCell], fun j _ hj => Below.heap_setCell _ _ _ _ hj, fun i e1 _ => sc_other (ne_off (Ne.symm e1)), fun i => sc_frz⟩⟩
  · rw [sc_other (ne_off (by omega))]; exact h0
  · rw [sc_other (ne_off (by omega))]; exact h2
  · have := (hL.drop k).kept (w' := w.setCell ⟨g, o + 1, none⟩ (.int .i64 (((off + k : Nat)) : Int))) (Below.heap_setCell _ _ _ _ hsg.1)
    rwa [Nat.add_assoc] at this
/-- The buffer has too little: its error is set. -/
theorem RBuf.fail {w w1 : World} {g o s p n c off : Nat} {t : TypeId} {v : Value} (h0 : w.cell? ⟨g, o, none⟩ = some (.slice (some ⟨s, p, none⟩) n c)) (h1 : w.cell? ⟨g, o + 1, none⟩ = some (.int .i64 ((off : Nat) : Int)))
    (h2 : w.cell? ⟨g, o + 2, none⟩ = some .nilIface) (hsg : s ≠ g ∧ s < w.heap.size) (hnc : n ≤ c) (hn : n ≤ 1000000000) (hf : ∀ i, w.frozen? ⟨g, i, none⟩ = false) (hb : Below (w.setCell ⟨g, o + 1, none⟩ (.int .i64 (n : Int))).heap.size (w.setCell ⟨g, o + 1, none⟩ (.int .i64 (n : Int))) w1) :
    RBuf (w1.setCell ⟨g, o + 2, none⟩ (.iface t v)) g o s none ∧ UpdR g o w (w1.setCell ⟨g, o + 2, none⟩ (.iface t v)) := by
  have hs : (w.setCell ⟨g, o + 1, none⟩ (.int .i64 (n : Int))).heap.size = w.heap.size := by simp [World.setCell]
  have hg : g < w.heap.size := World.block_lt_of_cell? w _ h0
  rw [hs] at hb
  have hb1 : w1.heap[g]? = (w.setCell ⟨g, o + 1, none⟩ (.int .i64 (n : Int))).heap[g]? := hb.block g hg
  have c1 : ∀ i, w1.cell? ⟨g, i, none⟩ = (w.setCell ⟨g, o + 1, none⟩ (.int .i64 (n : Int))).cell? ⟨g, i, none⟩ := fun i => World.cell?_of_block (w := w.setCell ⟨g, o + 1, none⟩ (.int .i64 (n : Int))) hb1
  have f1 : ∀ i, w1.frozen? ⟨g, i, none⟩ = w.frozen? ⟨g, i, none⟩ := fun i => (World.frozen?_of_block (w := w.setCell ⟨g, o + 1, none⟩ (.int .i64 (n : Int))) hb1).trans sc_frz
  have k2 : w1.cell? ⟨g, o + 2, none⟩ = some .nilIface := by rw [c1, sc_other (ne_off (by omega))]; exact h2
  refine ⟨⟨⟨p, n, c, n, ?_, ?_, ⟨hsg.1, by have h1 := hb.size; have h2 := hsg.2; simp [World.setCell] at h1 ⊢; omega⟩, Nat.le_refl _, hnc, hn, t, v, sc_same k2⟩, fun i => by rw [sc_frz, f1]; exact hf i⟩, ⟨hb.os, hb.tape, hb.output, ?_, fun j hj e => ?_, fun i e1 e2 => ?_, fun i => by rw [sc_frz, f1]⟩⟩
  · rw [sc_other (ne_off (by omega)), c1, sc_other (ne_off (by omega))]; exact h0
  · rw [sc_other (ne_off (by omega)), c1]; exact sc_same h1
  · have := hb.size
    simp [World.setCell] at this ⊢
    exact this
  · rw [Below.heap_setCell _ _ _ _ e, hb.block j hj, Below.heap_setCell _ _ _ _ e]
  · rw [sc_other (ne_off (Ne.symm e2)), c1, sc_other (ne_off (Ne.symm e1))]

set_option maxHeartbeats 1600000 in
theorem consume32 (g o s : Nat) (r : Option (List UInt8)) (w : World) (hb : RBuf w g o s r) :
    Calls Tryz.prog 132 #[.pointer (some ⟨g, o, none⟩)] w fun e w' => e = .returned (.int .u32 (c32 r).1) ∧ RBuf w' g o s (c32 r).2 ∧ UpdR g o w w' := by
  obtain ⟨p, n, c, off, h0, h1, hsg, hon, hnc, hn, hr⟩ := hb.ex
  have f1 := hb.frz (o + 1)
  have f2 := hb.frz (o + 2)
  cases r with
  | none =>
    obtain ⟨t, v, h2⟩ := hr
    go_enter Tryz.func132, Tryz.ntmps132
    go_wp2_with fail
    go_ret
    exact ⟨rfl, hb, UpdR.refl _ _ _⟩
  | some l =>
    obtain ⟨h2, hl, hL⟩ := hr
    have HB := Lib.hid hb
    have HL := Lib.hid hL
    have HE := Lib.hid hl
    clear hb hL
    by_cases hlen : 4 ≤ l.length
    · have l1 : off + 4 ≤ n := by omega
      have l2 : ¬ (c = off) := by omega
      have l3 : (off : Int) ≤ (n : Int) := by omega
      clear hl
      go_enter Tryz.func132, Tryz.ntmps132
      go_wp2_with fail
      refine (lenB g o s p n c off _ h0 h1 hon hn).mono ?_
      rintro e W ⟨rfl, k, hW⟩
      have hu : UpdR g o w W := by rw [hW]; exact (UpdR.refl _ _ _).drewN k
      have hB : RBuf W g o s (some l) := by rw [hW]; exact ⟨HB.out.ex, HB.out.frz⟩
      have hLW : Lies W s (p + off) l := by rw [hW]; exact HL.out
      replace hsg : s ≠ g ∧ s < W.heap.size := by rw [hW]; exact hsg
      replace h0 : W.cell? ⟨g, o, none⟩ = some (.slice (some ⟨s, p, none⟩) n c) := by rw [hW]; exact h0
      replace h1 : W.cell? ⟨g, o + 1, none⟩ = some (.int .i64 ((off : Nat) : Int)) := by rw [hW]; exact h1
      replace h2 : W.cell? ⟨g, o + 2, none⟩ = some .nilIface := by rw [hW]; exact h2
      replace f1 : W.frozen? ⟨g, o + 1, none⟩ = false := by rw [hW]; exact f1
      replace f2 : W.frozen? ⟨g, o + 2, none⟩ = false := by rw [hW]; exact f2
      have HU := Lib.hid hu
      have HBW := Lib.hid hB
      have HLW := Lib.hid hLW
      clear hW hu hB hLW
      go_wp2_with fail
      have HC := Lib.hid (fun j => sysU32L s (p + off) (n - off) (c - off) l (W.drewN j) (by omega) (by omega) hlen (HLW.out.drewN j))
      go_quiet ((go_at_call 113; exact Calls.quiet_of (HC.out _)))
      go_wp2_with fail
      go_ret
      have hm := RBuf.adv (w := W.drewN nq) h0 h1 h2 hsg HE.out hnc hn HLW.out HBW.out.frz hlen (v := .int .i64 ((off : Int) + 4)) (by rw [Int.natCast_add]; rfl)
      refine ⟨ret_int (by simp [c32, hlen]), ?_, ?_⟩
      · simp only [c32, hlen, if_true]
        exact hm.1
      · exact (HU.out.drewN nq).trans hm.2
    · have l1 : (n : Int) - (off : Int) < 4 := by omega
      clear hl
      go_enter Tryz.func132, Tryz.ntmps132
      go_wp2_with fail
      refine (lenB g o s p n c off _ h0 h1 hon hn).mono ?_
      rintro e W ⟨rfl, k, hW⟩
      have hu : UpdR g o w W := by rw [hW]; exact (UpdR.refl _ _ _).drewN k
      have hB : RBuf W g o s (some l) := by rw [hW]; exact ⟨HB.out.ex, HB.out.frz⟩
      have hLW : Lies W s (p + off) l := by rw [hW]; exact HL.out
      replace hsg : s ≠ g ∧ s < W.heap.size := by rw [hW]; exact hsg
      replace h0 : W.cell? ⟨g, o, none⟩ = some (.slice (some ⟨s, p, none⟩) n c) := by rw [hW]; exact h0
      replace h1 : W.cell? ⟨g, o + 1, none⟩ = some (.int .i64 ((off : Nat) : Int)) := by rw [hW]; exact h1
      replace h2 : W.cell? ⟨g, o + 2, none⟩ = some .nilIface := by rw [hW]; exact h2
      replace f1 : W.frozen? ⟨g, o + 1, none⟩ = false := by rw [hW]; exact f1
      replace f2 : W.frozen? ⟨g, o + 2, none⟩ = false := by rw [hW]; exact f2
      have HU := Lib.hid hu
      have HBW := Lib.hid hB
      have HLW := Lib.hid hLW
      clear hW hu hB hLW
      go_wp2_with fail
      refine (errShort _).mono ?_
      rintro e w1 ⟨t, v, rfl, hb1⟩
      have hm := RBuf.fail (w := W) (w1 := w1) (t := t) (v := v) h0 h1 h2 hsg hnc hn HBW.out.frz hb1
      have hgl : g < W.heap.size := World.block_lt_of_cell? W _ h0
      have q2 : w1.cell? ⟨g, o + 2, none⟩ = some .nilIface := by
        rw [hb1.cell (by simpa [World.setCell] using hgl), sc_other (ne_off (by omega))]; exact h2
      have fq : w1.frozen? ⟨g, o + 2, none⟩ = false := by
        rw [hb1.frozen (by simpa [World.setCell] using hgl), sc_frz]; exact f2
      have HM := Lib.hid hm
      clear hm hb1
      go_wp2_with fail
      go_ret
      refine ⟨ret_int (by simp [c32, hlen]), ?_, ?_⟩
      · simp only [c32, hlen, if_false]
        exact HM.out.1
      · exact HU.out.trans HM.out.2

set_option maxHeartbeats 1600000 in
theorem consume16 (g o s : Nat) (r : Option (List UInt8)) (w : World) (hb : RBuf w g o s r) :
    Calls Tryz.prog 131 #[.pointer (some ⟨g, o, none⟩)] w fun e w' => e = .returned (.int .u16 (c16 r).1) ∧ RBuf w' g o s (c16 r).2 ∧ UpdR g o w w' := by
  obtain ⟨p, n, c, off, h0, h1, hsg, hon, hnc, hn, hr⟩ := hb.ex
  have f1 := hb.frz (o + 1)
  have f2 := hb.frz (o + 2)
  cases r with
  | none =>
    obtain ⟨t, v, h2⟩ := hr
    go_enter Tryz.func131, Tryz.ntmps131
    go_wp2_with fail
    go_ret
    exact ⟨rfl, hb, UpdR.refl _ _ _⟩
  | some l =>
    obtain ⟨h2, hl, hL⟩ := hr
    have HB := Lib.hid hb
    have HL := Lib.hid hL
    have HE := Lib.hid hl
    clear hb hL
    by_cases hlen : 2 ≤ l.length
    · have l1 : off + 2 ≤ n := by omega
      have l2 : ¬ (c = off) := by omega
      have l3 : (off : Int) ≤ (n : Int) := by omega
      clear hl
      go_enter Tryz.func131, Tryz.ntmps131
      go_wp2_with fail
      refine (lenB g o s p n c off _ h0 h1 hon hn).mono ?_
      rintro e W ⟨rfl, k, hW⟩
      have hu : UpdR g o w W := by rw [hW]; exact (UpdR.refl _ _ _).drewN k
      have hB : RBuf W g o s (some l) := by rw [hW]; exact ⟨HB.out.ex, HB.out.frz⟩
      have hLW : Lies W s (p + off) l := by rw [hW]; exact HL.out
      replace hsg : s ≠ g ∧ s < W.heap.size := by rw [hW]; exact hsg
      replace h0 : W.cell? ⟨g, o, none⟩ = some (.slice (some ⟨s, p, none⟩) n c) := by rw [hW]; exact h0
      replace h1 : W.cell? ⟨g, o + 1, none⟩ = some (.int .i64 ((off : Nat) : Int)) := by rw [hW]; exact h1
      replace h2 : W.cell? ⟨g, o + 2, none⟩ = some .nilIface := by rw [hW]; exact h2
      replace f1 : W.frozen? ⟨g, o + 1, none⟩ = false := by rw [hW]; exact f1
      replace f2 : W.frozen? ⟨g, o + 2, none⟩ = false := by rw [hW]; exact f2
      have HU := Lib.hid hu
      have HBW := Lib.hid hB
      have HLW := Lib.hid hLW
      clear hW hu hB hLW
      go_wp2_with fail
      have HC := Lib.hid (fun j => sysU16L s (p + off) (n - off) (c - off) l (W.drewN j) (by omega) (by omega) hlen (HLW.out.drewN j))
      go_quiet ((go_at_call 148; exact Calls.quiet_of (HC.out _)))
      go_wp2_with fail
      go_ret
      have hm := RBuf.adv (w := W.drewN nq) h0 h1 h2 hsg HE.out hnc hn HLW.out HBW.out.frz hlen (v := .int .i64 ((off : Int) + 2)) (by rw [Int.natCast_add]; rfl)
      refine ⟨ret_int (by simp [c16, hlen]), ?_, ?_⟩
      · simp only [c16, hlen, if_true]
        exact hm.1
      · exact (HU.out.drewN nq).trans hm.2
    · have l1 : (n : Int) - (off : Int) < 2 := by omega
      clear hl
      go_enter Tryz.func131, Tryz.ntmps131
      go_wp2_with fail
      refine (lenB g o s p n c off _ h0 h1 hon hn).mono ?_
      rintro e W ⟨rfl, k, hW⟩
      have hu : UpdR g o w W := by rw [hW]; exact (UpdR.refl _ _ _).drewN k
      have hB : RBuf W g o s (some l) := by rw [hW]; exact ⟨HB.out.ex, HB.out.frz⟩
      have hLW : Lies W s (p + off) l := by rw [hW]; exact HL.out
      replace hsg : s ≠ g ∧ s < W.heap.size := by rw [hW]; exact hsg
      replace h0 : W.cell? ⟨g, o, none⟩ = some (.slice (some ⟨s, p, none⟩) n c) := by rw [hW]; exact h0
      replace h1 : W.cell? ⟨g, o + 1, none⟩ = some (.int .i64 ((off : Nat) : Int)) := by rw [hW]; exact h1
      replace h2 : W.cell? ⟨g, o + 2, none⟩ = some .nilIface := by rw [hW]; exact h2
      replace f1 : W.frozen? ⟨g, o + 1, none⟩ = false := by rw [hW]; exact f1
      replace f2 : W.frozen? ⟨g, o + 2, none⟩ = false := by rw [hW]; exact f2
      have HU := Lib.hid hu
      have HBW := Lib.hid hB
      have HLW := Lib.hid hLW
      clear hW hu hB hLW
      go_wp2_with fail
      refine (errShort _).mono ?_
      rintro e w1 ⟨t, v, rfl, hb1⟩
      have hm := RBuf.fail (w := W) (w1 := w1) (t := t) (v := v) h0 h1 h2 hsg hnc hn HBW.out.frz hb1
      have hgl : g < W.heap.size := World.block_lt_of_cell? W _ h0
      have q2 : w1.cell? ⟨g, o + 2, none⟩ = some .nilIface := by
        rw [hb1.cell (by simpa [World.setCell] using hgl), sc_other (ne_off (by omega))]; exact h2
      have fq : w1.frozen? ⟨g, o + 2, none⟩ = false := by
        rw [hb1.frozen (by simpa [World.setCell] using hgl), sc_frz]; exact f2
      have HM := Lib.hid hm
      clear hm hb1
      go_wp2_with fail
      go_ret
      refine ⟨ret_int (by simp [c16, hlen]), ?_, ?_⟩
      · simp only [c16, hlen, if_false]
        exact HM.out.1
      · exact HU.out.trans HM.out.2

set_option maxHeartbeats 1600000 in
theorem consume64 (g o s : Nat) (r : Option (List UInt8)) (w : World) (hb : RBuf w g o s r) :
    Calls Tryz.prog 133 #[.pointer (some ⟨g, o, none⟩)] w fun e w' => e = .returned (.int .u64 (c64 r).1) ∧ RBuf w' g o s (c64 r).2 ∧ UpdR g o w w' := by
  obtain ⟨p, n, c, off, h0, h1, hsg, hon, hnc, hn, hr⟩ := hb.ex
  have f1 := hb.frz (o + 1)
  have f2 := hb.frz (o + 2)
  cases r with
  | none =>
    obtain ⟨t, v, h2⟩ := hr
    go_enter Tryz.func133, Tryz.ntmps133
    go_wp2_with fail
    go_ret
    exact ⟨rfl, hb, UpdR.refl _ _ _⟩
  | some l =>
    obtain ⟨h2, hl, hL⟩ := hr
    have HB := Lib.hid hb
    have HL := Lib.hid hL
    have HE := Lib.hid hl
    clear hb hL
    by_cases hlen : 8 ≤ l.length
    · have l1 : off + 8 ≤ n := by omega
      have l2 : ¬ (c = off) := by omega
      have l3 : (off : Int) ≤ (n : Int) := by omega
      clear hl
      go_enter Tryz.func133, Tryz.ntmps133
      go_wp2_with fail
      refine (lenB g o s p n c off _ h0 h1 hon hn).mono ?_
      rintro e W ⟨rfl, k, hW⟩
      have hu : UpdR g o w W := by rw [hW]; exact (UpdR.refl _ _ _).drewN k
      have hB : RBuf W g o s (some l) := by rw [hW]; exact ⟨HB.out.ex, HB.out.frz⟩
      have hLW : Lies W s (p + off) l := by rw [hW]; exact HL.out
      replace hsg : s ≠ g ∧ s < W.heap.size := by rw [hW]; exact hsg
      replace h0 : W.cell? ⟨g, o, none⟩ = some (.slice (some ⟨s, p, none⟩) n c) := by rw [hW]; exact h0
      replace h1 : W.cell? ⟨g, o + 1, none⟩ = some (.int .i64 ((off : Nat) : Int)) := by rw [hW]; exact h1
      replace h2 : W.cell? ⟨g, o + 2, none⟩ = some .nilIface := by rw [hW]; exact h2
      replace f1 : W.frozen? ⟨g, o + 1, none⟩ = false := by rw [hW]; exact f1
      replace f2 : W.frozen? ⟨g, o + 2, none⟩ = false := by rw [hW]; exact f2
      have HU := Lib.hid hu
      have HBW := Lib.hid hB
      have HLW := Lib.hid hLW
      clear hW hu hB hLW
      go_wp2_with fail
      have HC := Lib.hid (fun j => sysU64L s (p + off) (n - off) (c - off) l (W.drewN j) (by omega) (by omega) (by omega) hlen (HLW.out.drewN j))
      go_quiet ((go_at_call 149; exact Calls.quiet_of (HC.out _)))
      go_wp2_with fail
      go_ret
      have hm := RBuf.adv (w := W.drewN nq) h0 h1 h2 hsg HE.out hnc hn HLW.out HBW.out.frz hlen (v := .int .i64 ((off : Int) + 8)) (by rw [Int.natCast_add]; rfl)
      refine ⟨ret_int (by simp [c64, hlen]), ?_, ?_⟩
      · simp only [c64, hlen, if_true]
        exact hm.1
      · exact (HU.out.drewN nq).trans hm.2
    · have l1 : (n : Int) - (off : Int) < 8 := by omega
      clear hl
      go_enter Tryz.func133, Tryz.ntmps133
      go_wp2_with fail
      refine (lenB g o s p n c off _ h0 h1 hon hn).mono ?_
      rintro e W ⟨rfl, k, hW⟩
      have hu : UpdR g o w W := by rw [hW]; exact (UpdR.refl _ _ _).drewN k
      have hB : RBuf W g o s (some l) := by rw [hW]; exact ⟨HB.out.ex, HB.out.frz⟩
      have hLW : Lies W s (p + off) l := by rw [hW]; exact HL.out
      replace hsg : s ≠ g ∧ s < W.heap.size := by rw [hW]; exact hsg
      replace h0 : W.cell? ⟨g, o, none⟩ = some (.slice (some ⟨s, p, none⟩) n c) := by rw [hW]; exact h0
      replace h1 : W.cell? ⟨g, o + 1, none⟩ = some (.int .i64 ((off : Nat) : Int)) := by rw [hW]; exact h1
      replace h2 : W.cell? ⟨g, o + 2, none⟩ = some .nilIface := by rw [hW]; exact h2
      replace f1 : W.frozen? ⟨g, o + 1, none⟩ = false := by rw [hW]; exact f1
      replace f2 : W.frozen? ⟨g, o + 2, none⟩ = false := by rw [hW]; exact f2
      have HU := Lib.hid hu
      have HBW := Lib.hid hB
      have HLW := Lib.hid hLW
      clear hW hu hB hLW
      go_wp2_with fail
      refine (errShort _).mono ?_
      rintro e w1 ⟨t, v, rfl, hb1⟩
      have hm := RBuf.fail (w := W) (w1 := w1) (t := t) (v := v) h0 h1 h2 hsg hnc hn HBW.out.frz hb1
      have hgl : g < W.heap.size := World.block_lt_of_cell? W _ h0
      have q2 : w1.cell? ⟨g, o + 2, none⟩ = some .nilIface := by
        rw [hb1.cell (by simpa [World.setCell] using hgl), sc_other (ne_off (by omega))]; exact h2
      have fq : w1.frozen? ⟨g, o + 2, none⟩ = false := by
        rw [hb1.frozen (by simpa [World.setCell] using hgl), sc_frz]; exact f2
      have HM := Lib.hid hm
      clear hm hb1
      go_wp2_with fail
      go_ret
      refine ⟨ret_int (by simp [c64, hlen]), ?_, ?_⟩
      · simp only [c64, hlen, if_false]
        exact HM.out.1
      · exact HU.out.trans HM.out.2

set_option maxHeartbeats 1600000 in
theorem consume8 (g o s : Nat) (r : Option (List UInt8)) (w : World) (hb : RBuf w g o s r) :
    Calls Tryz.prog 130 #[.pointer (some ⟨g, o, none⟩)] w fun e w' => e = .returned (.int .u8 (c8 r).1) ∧ RBuf w' g o s (c8 r).2 ∧ UpdR g o w w' := by
  obtain ⟨p, n, c, off, h0, h1, hsg, hon, hnc, hn, hr⟩ := hb.ex
  have f1 := hb.frz (o + 1)
  have f2 := hb.frz (o + 2)
  cases r with
  | none =>
    obtain ⟨t, v, h2⟩ := hr
    go_enter Tryz.func130, Tryz.ntmps130
    go_wp2_with fail
    go_ret
    exact ⟨rfl, hb, UpdR.refl _ _ _⟩
  | some l =>
    obtain ⟨h2, hl, hL⟩ := hr
    have HB := Lib.hid hb
    have HL := Lib.hid hL
    have HE := Lib.hid hl
    clear hb hL
    by_cases hlen : 1 ≤ l.length
    · have l1 : off + 1 ≤ n := by omega
      have l2 : ¬ (c = off) := by omega
      have l3 : (off : Int) ≤ (n : Int) := by omega
      clear hl
      go_enter Tryz.func130, Tryz.ntmps130
      go_wp2_with fail
      refine (lenB g o s p n c off _ h0 h1 hon hn).mono ?_
      rintro e W ⟨rfl, k, hW⟩
      have hu : UpdR g o w W := by rw [hW]; exact (UpdR.refl _ _ _).drewN k
      have hB : RBuf W g o s (some l) := by rw [hW]; exact ⟨HB.out.ex, HB.out.frz⟩
      have hLW : Lies W s (p + off) l := by rw [hW]; exact HL.out
      replace hsg : s ≠ g ∧ s < W.heap.size := by rw [hW]; exact hsg
      replace h0 : W.cell? ⟨g, o, none⟩ = some (.slice (some ⟨s, p, none⟩) n c) := by rw [hW]; exact h0
      replace h1 : W.cell? ⟨g, o + 1, none⟩ = some (.int .i64 ((off : Nat) : Int)) := by rw [hW]; exact h1
      replace h2 : W.cell? ⟨g, o + 2, none⟩ = some .nilIface := by rw [hW]; exact h2
      replace f1 : W.frozen? ⟨g, o + 1, none⟩ = false := by rw [hW]; exact f1
      replace f2 : W.frozen? ⟨g, o + 2, none⟩ = false := by rw [hW]; exact f2
      have HU := Lib.hid hu
      have HBW := Lib.hid hB
      have HLW := Lib.hid hLW
      clear hW hu hB hLW
      go_wp2_with fail
      have HA := HLW.out.at_ 0 hlen
      rw [Nat.add_zero] at HA
      have l4 : (off : Int) < (n : Int) := by omega
      go_region
      go_wp2_with fail
      go_ret
      have hm := RBuf.adv (w := W) h0 h1 h2 hsg HE.out hnc hn HLW.out HBW.out.frz hlen (v := .int .i64 ((off : Int) + 1)) (by rw [Int.natCast_add]; rfl)
      refine ⟨ret_int (by simp [c8, hlen, rd8, gi]), ?_, ?_⟩
      · simp only [c8, hlen, if_true]
        exact ⟨hm.1.ex, hm.1.frz⟩
      · exact HU.out.trans (hm.2.drewN 1)
    · have l1 : (n : Int) - (off : Int) < 1 := by omega
      clear hl
      go_enter Tryz.func130, Tryz.ntmps130
      go_wp2_with fail
      refine (lenB g o s p n c off _ h0 h1 hon hn).mono ?_
      rintro e W ⟨rfl, k, hW⟩
      have hu : UpdR g o w W := by rw [hW]; exact (UpdR.refl _ _ _).drewN k
      have hB : RBuf W g o s (some l) := by rw [hW]; exact ⟨HB.out.ex, HB.out.frz⟩
      have hLW : Lies W s (p + off) l := by rw [hW]; exact HL.out
      replace hsg : s ≠ g ∧ s < W.heap.size := by rw [hW]; exact hsg
      replace h0 : W.cell? ⟨g, o, none⟩ = some (.slice (some ⟨s, p, none⟩) n c) := by rw [hW]; exact h0
      replace h1 : W.cell? ⟨g, o + 1, none⟩ = some (.int .i64 ((off : Nat) : Int)) := by rw [hW]; exact h1
      replace h2 : W.cell? ⟨g, o + 2, none⟩ = some .nilIface := by rw [hW]; exact h2
      replace f1 : W.frozen? ⟨g, o + 1, none⟩ = false := by rw [hW]; exact f1
      replace f2 : W.frozen? ⟨g, o + 2, none⟩ = false := by rw [hW]; exact f2
      have HU := Lib.hid hu
      have HBW := Lib.hid hB
      have HLW := Lib.hid hLW
      clear hW hu hB hLW
      go_wp2_with fail
      refine (errShort _).mono ?_
      rintro e w1 ⟨t, v, rfl, hb1⟩
      have hm := RBuf.fail (w := W) (w1 := w1) (t := t) (v := v) h0 h1 h2 hsg hnc hn HBW.out.frz hb1
      have hgl : g < W.heap.size := World.block_lt_of_cell? W _ h0
      have q2 : w1.cell? ⟨g, o + 2, none⟩ = some .nilIface := by
        rw [hb1.cell (by simpa [World.setCell] using hgl), sc_other (ne_off (by omega))]; exact h2
      have fq : w1.frozen? ⟨g, o + 2, none⟩ = false := by
        rw [hb1.frozen (by simpa [World.setCell] using hgl), sc_frz]; exact f2
      have HM := Lib.hid hm
      clear hm hb1
      go_wp2_with fail
      go_ret
      refine ⟨ret_int (by simp [c8, hlen]), ?_, ?_⟩
      · simp only [c8, hlen, if_false]
        exact HM.out.1
      · exact HU.out.trans HM.out.2

end Go.Proofs.YtmenkckgpiafiaaGreat
