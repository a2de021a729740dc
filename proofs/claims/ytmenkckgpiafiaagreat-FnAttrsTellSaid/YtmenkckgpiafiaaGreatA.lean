/-
  Plain words: bytes, numbers in several bytes, a marshalling buffer and a reading one.
-/
import Derived.WalkKit
import Derived.Lib.Hide
import Derived.Deep.Draws
namespace Go.Proofs.YtmenkckgpiafiaaGreat
open Go.RowKit

/-- A string's bytes, and back. -/
def tl (s : ByteArray) : List UInt8 := s.data.toList
def bs (l : List UInt8) : ByteArray := ⟨l.toArray⟩
theorem tl_bs (l : List UInt8) : tl (bs l) = l := rfl
theorem bs_tl (s : ByteArray) : bs (tl s) = s := rfl
theorem tl_length (s : ByteArray) : (tl s).length = s.size := by rw [tl, Array.length_toList]; rfl
theorem size_bs (l : List UInt8) : (bs l).size = l.length := by rw [← tl_length, tl_bs]
theorem tl_inj {s t : ByteArray} (h : tl s = tl t) : s = t := by rw [← bs_tl s, ← bs_tl t, h]
theorem tl_getElem (s : ByteArray) (i : Nat) (h : i < s.size) : (tl s)[i]? = some s[i] := by
  unfold tl
  rw [Array.getElem?_toList, Array.getElem?_eq_getElem (by exact h)]
  rfl
theorem tl_extract (s : ByteArray) (a b : Nat) : tl (s.extract a b) = ((tl s).take b).drop a := by
  unfold tl
  simp [ByteArray.data_extract, Array.toList_extract, List.extract_eq_take_drop, List.drop_take]
theorem tl_append (s t : ByteArray) : tl (s ++ t) = tl s ++ tl t := by
  unfold tl
  simp [ByteArray.data_append]

/-- A byte as a value. -/
def u8 (b : UInt8) : Value := .int .u8 (b.toNat : Int)
def u8s (l : List UInt8) : List Value := l.map u8
theorem u8s_length (l : List UInt8) : (u8s l).length = l.length := by simp [u8s]
theorem u8s_append (l m : List UInt8) : u8s (l ++ m) = u8s l ++ u8s m := by simp [u8s]
/-- The lowest byte of a number. -/
def bt (x : Int) : UInt8 := UInt8.ofNat (x % 256).toNat
theorem bt_int (x : Int) : ((bt x).toNat : Int) = x % 256 := by
  unfold bt
  have h := Int.emod_nonneg x (show (256 : Int) ≠ 0 by omega)
  have h2 := Int.emod_lt_of_pos x (show (0 : Int) < 256 by omega)
  rw [UInt8.toNat_ofNat']
  omega
/-- Numbers, the highest byte first. -/
def be16 (x : Int) : List UInt8 := [bt (x / 256), bt x]
def be32 (x : Int) : List UInt8 := [bt (x / 16777216), bt (x / 65536), bt (x / 256), bt x]
def be64 (x : Int) : List UInt8 := be32 (x / 4294967296) ++ be32 x
def str (s : List UInt8) : List UInt8 := be32 (s.length : Int) ++ s

theorem below_drewN {B : Nat} {w W : World} (h : Below B w W) (n : Nat) : Below B w (W.drewN n) := ⟨h.os, h.tape, h.output, h.size, h.block⟩
/-- Facts on cells outlive what lies above. -/
theorem bcell {W w1 : World} (hb : Below W.heap.size W w1) : (∀ b o, b < W.heap.size → w1.cell? ⟨b, o, none⟩ = W.cell? ⟨b, o, none⟩) ∧ (∀ b o, b < W.heap.size → w1.frozen? ⟨b, o, none⟩ = W.frozen? ⟨b, o, none⟩) :=
  ⟨fun b o h => hb.cell (p := ⟨b, o, none⟩) h, fun b o h => hb.frozen (p := ⟨b, o, none⟩) h⟩
theorem cell_below {B : Nat} {w w1 : World} (h : Below B w w1) {a : Addr} {v : Value} (ha : a.block < B) (hc : w.cell? a = some v) : w1.cell? a = some v := (h.cell ha).trans hc

/-- Of what was there only block g and the row of v may have turned. -/
structure Upd (g : Nat) (v : Value) (w w' : World) : Prop where
  os : w'.os = w.os
  tape : w'.tape = w.tape
  output : w'.output = w.output
  size : w.heap.size ≤ w'.heap.size
  block : ∀ k, k < w.heap.size → k ≠ g → v.ownBlock ≠ some k → w'.heap[k]? = w.heap[k]?
theorem Upd.below {g : Nat} {v : Value} {w w' : World} (h : Upd g v w w') {B : Nat} (hg : B ≤ g) (hv : ∀ k, v.ownBlock = some k → B ≤ k) (hB : B ≤ w.heap.size) : Below B w w' :=
  ⟨h.os, h.tape, h.output, h.size, fun k hk => h.block k (by omega) (by omega) (fun e => by have := hv k e; omega)⟩

/-- A marshalling buffer: block g holds it; its bytes are a row of the call's own. -/
structure MBuf (base : Nat) (w : World) (g : Nat) (v : Value) (l : List UInt8) : Prop where
  blk : w.heap[g]? = some (.cells #[v, .int .i64 0, .nilIface] 120 (0, 0))
  own : w.ownsRow base 5 1 v l.length (u8s l)
  le : base ≤ g
  ne : v.ownBlock ≠ some g
end Go.Proofs.YtmenkckgpiafiaaGreat
