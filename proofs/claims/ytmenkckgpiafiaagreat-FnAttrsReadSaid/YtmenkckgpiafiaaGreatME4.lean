/-
  laws.FnAttrsRead answers true for every input, and the input reads as it did. No conditions.
-/
import Derived.Outline
import Derived.Lib.Hide
import Derived.Great.Walk
import Derived.Deep.DeepCutAuto
import Derived.Deep.QuietTactic
import Derived.BigQuiet
import Derived.OneCell
import Derived.Deep.Slices
import Derived.Deep.Fields
import Derived.ChangeSame
import Derived.ChangeArms
import Derived.WideShapes
import Derived.Test.YtmenkckgpiafiaaGreatProg
import Derived.KernelRfl
import Derived.Laws.MakeOwn
import Derived.Deep.RegionHeld3
import Derived.Laws.BitsLemmas
import Derived.Lib.EndianBits
import Derived.Great.BuildSlice
import Derived.Deep.RegionLaw
import Derived.Lib.AppendZeros
import Derived.Deep.AppendLies
import Derived.Test.YtmenkckgpiafiaaGreatRows
import Derived.ChangeSlices
import Derived.ShutString
import Derived.Orders
import Derived.Lib.JoinLaws
import Derived.WalkKit
import Derived.StillTailTactics
import Derived.Test.YtmenkckgpiafiaaGreatME1
import Derived.Test.YtmenkckgpiafiaaGreatME2
import Derived.Test.YtmenkckgpiafiaaGreatME3
set_option linter.unusedVariables false
set_option linter.unusedSimpArgs false
namespace Go.Proofs.YtmenkckgpiafiaaGreat
open Go.RowKit Go.Great Go.Proofs.YtmenkckgpiafiaaGreatW.PrintWords Go.Proofs.YtmenkckgpiafiaaGreatW.PrintLast Go.Proofs.YtmenkckgpiafiaaGreatW.PrintMore Go.Proofs.YtmenkckgpiafiaaGreat.KK
def exTo (e : S266) : S89 := ⟨e.f0, e.f1⟩
theorem wrap_succ {i : Int} {n : Nat} (h0 : 0 ≤ i) (h : i < (n : Int)) (hn : n ≤ 4398046511104) : wrap64 (i + 1) = i + 1 := by
  unfold wrap64
  omega
theorem told_l0 (l : List S266) (hl : l.length ≤ 4398046511103) (a b c d e f g : Int) : ∀ (m : Nat) (k : Nat) (i : Nat) (acc : List S89), i + m = l.length → m < k → acc.length = i →
    PA.impl_told.l0 k l (l.length : Int) (i : Int) a b c d e f g acc = some (a, b, c, d, e, f, g, acc ++ (l.drop i).map exTo) := by
  intro m
  induction m with
  | zero =>
    intro k i acc hi hk ha
    obtain ⟨k, rfl⟩ : ∃ j, k = j + 1 := ⟨k - 1, by omega⟩
    simp only [PA.impl_told.l0]
    rw [if_neg (by omega), List.drop_of_length_le (by omega)]
    simp
  | succ m ih =>
    intro k i acc hi hk ha
    obtain ⟨k, rfl⟩ : ∃ j, k = j + 1 := ⟨k - 1, by omega⟩
    simp only [PA.impl_told.l0]
    rw [if_pos (by omega), if_pos (by omega), if_pos (by omega), if_pos (by omega), wrap_succ (by omega) (show (i : Int) < (l.length : Int) by omega) (by omega)]
    have hlt : i < l.length := by omega
    rw [show ((i : Int) + 1) = ((i + 1 : Nat) : Int) from by omega, ih k (i + 1) _ (by omega) (by omega) (by simp [ha])]
    rw [List.drop_eq_getElem_cons hlt, List.map_cons, List.append_assoc, List.singleton_append, show rd_T266 l (i : Int) = l[i] from by simp [rd_T266, List.getD_eq_getElem?_getD, List.getElem?_eq_getElem hlt]]
    rfl
theorem told_f (l : List S266) (hl : l.length ≤ 4398046511103) (a b c d e f g : Int) : PA.impl_told.f (l.length + 1) a b c d e f g l = some (a, b, c, d, e, f, g, l.map exTo) := by
  unfold PA.impl_told.f
  have h := told_l0 l hl a b c d e f g l.length (l.length + 1) 0 [] (by omega) (by omega) rfl
  simpa using h
/-- Eight cells: attributes whose extensions lie where a slice says. -/
def at8 (a b c d e f g : Int) (v : Value) : Array Value := #[.int .u32 a, .int .u64 b, .int .u32 c, .int .u32 d, .int .u32 e, .int .u32 f, .int .u32 g, v]
theorem toldC (a b c d e f g : Int) (A : Option Addr) (n cap : Nat) (l : List S266) (w : World) (hn : n = l.length) (hl : l.length ≤ 4398046511103) (hr : Kd.C k266 w A l.length l) (hc : l.length ≤ cap) :
    Calls Tryz.prog 74 #[.agg (at8 a b c d e f g (.slice A n cap))] w fun r w' => ∃ v, r = .returned (.agg (at8 a b c d e f g v)) ∧ Kd.R k89 89 w' w.heap.size (fun _ => True) v (l.map exTo) ∧ Below w.heap.size w w' := by
  subst hn
  exact PA.impl_told.calls (l.length + 1) a b c d e f g A cap l a b c d e f g (l.map exTo) w hr hc (told_f l hl a b c d e f g)
end Go.Proofs.YtmenkckgpiafiaaGreat
namespace Go.Proofs.YtmenkckgpiafiaaGreat
open Go.RowKit Go.Great Go.Proofs.YtmenkckgpiafiaaGreatW.PrintWords Go.Proofs.YtmenkckgpiafiaaGreatW.PrintLast Go.Proofs.YtmenkckgpiafiaaGreatW.PrintMore Go.Proofs.YtmenkckgpiafiaaGreat.KK
/-- A marshalling buffer over a base; beneath the base the world is as it was. -/
def Buf (base : Nat) (w0 w : World) (g : Nat) (l : List UInt8) : Prop := ∃ v, MBuf base w g v l ∧ Below base w0 w
theorem Buf.below {base : Nat} {w0 w : World} {g : Nat} {l : List UInt8} (h : Buf base w0 w g l) : Below base w0 w := by obtain ⟨_, _, h⟩ := h; exact h
theorem Buf.step {base : Nat} {w0 w w' : World} {g : Nat} {v : Value} {l l' : List UInt8} (hb : MBuf base w g v l) (h0 : Below base w0 w) (h : ∃ v', MBuf base w' g v' l' ∧ Upd g v w w' ∧ (v'.ownBlock = v.ownBlock ∨ ∃ k, v'.ownBlock = some k ∧ w.heap.size ≤ k)) : Buf base w0 w' g l' := by
  obtain ⟨v', m, u, _⟩ := h
  exact ⟨v', m, h0.trans (hb.below u)⟩
end Go.Proofs.YtmenkckgpiafiaaGreat
namespace Go.Proofs.YtmenkckgpiafiaaGreat
open Go.RowKit Go.Great Go.Proofs.YtmenkckgpiafiaaGreatW.PrintWords Go.Proofs.YtmenkckgpiafiaaGreatW.PrintLast Go.Proofs.YtmenkckgpiafiaaGreatW.PrintMore Go.Proofs.YtmenkckgpiafiaaGreat.KK
/-- Is a flag set? -/
def flg (f : Int) (k : Int) : Bool := bits .and .u32 f k != 0
theorem ainfo : (Tryz.prog.info? 26).map (·.size) = some 8 := by kernel_rfl
theorem sinfo : (Tryz.prog.info? 139).map (·.size) = some 8 := by kernel_rfl
theorem ainfo8 (a b c d e f g : Int) (v : Value) : (Tryz.prog.info? 26).map (·.size) = some (at8 a b c d e f g v).size := ainfo
theorem sinfo8 (a b c d e f g : Int) (v : Value) : (Tryz.prog.info? 139).map (·.size) = some (at8 a b c d e f g v).size := sinfo
theorem one8 (a b c d e f g : Int) (A : Option Addr) (n c' : Nat) : (at8 a b c d e f g (.slice A n c')).all (·.oneCell') = true := by kernel_rfl
/-- Attributes of zeros. -/
def z8 : Array Value := at8 0 0 0 0 0 0 0 (.slice none 0 0)
end Go.Proofs.YtmenkckgpiafiaaGreat
namespace Go.Proofs.YtmenkckgpiafiaaGreat
open Go.RowKit Go.ChangeShapes Go.WideShapes Go.Deep Go.Proofs.YtmenkckgpiafiaaGreatW.PrintWords
/-- The data of a Go type read as values of a kind, of which something is known. -/
structure Opn (P : Program) (t : TypeId) {α : Type} (d : Kd α) (G : α → Prop) : Prop where
  sz : P.cellsOf t = d.sz
  out : ∀ {H : Type} {enc : TypeId × Value → H} {w : World} {base : Nat} {sp : Nat → Bool} {held : Bool} {fuel : Nat} {cs : List Value} {x : DataW H × List MemPlace}, DataW.trod enc P w base sp held fuel t cs = some x → ∃ y, d.K w y cs ∧ G y
theorem Opn.iso {P : Program} {t : TypeId} {α β : Type} {d : Kd α} {G : α → Prop} (h : Opn P t d G) (f : β → α) (g : α → β) (hfg : ∀ a, f (g a) = a) : Opn P t (Kd.iso d f) (fun y => G (f y)) :=
  ⟨h.sz, fun hx => by
    obtain ⟨y, hK, hG⟩ := h.out hx
    refine ⟨g y, ?_, by rw [hfg]; exact hG⟩
    show d.K _ (f (g y)) _
    rw [hfg]
    exact hK⟩
theorem Opn.mono {P : Program} {t : TypeId} {α : Type} {d : Kd α} {G G' : α → Prop} (h : Opn P t d G) (hg : ∀ y, G y → G' y) : Opn P t d G' :=
  ⟨h.sz, fun hx => by
    obtain ⟨y, hK, hG⟩ := h.out hx
    exact ⟨y, hK, hg y hG⟩⟩
end Go.Proofs.YtmenkckgpiafiaaGreat
namespace Go.Proofs.YtmenkckgpiafiaaGreat
open Go.RowKit Go.Proofs.YtmenkckgpiafiaaGreatW.PrintWords Go.Proofs.YtmenkckgpiafiaaGreat.KK
def gU32 (y : Int) : Prop := 0 ≤ y ∧ y ≤ 4294967295
end Go.Proofs.YtmenkckgpiafiaaGreat
namespace Go.Proofs.YtmenkckgpiafiaaGreat
open Go.RowKit Go.Great Go.Proofs.YtmenkckgpiafiaaGreatW.PrintWords Go.Proofs.YtmenkckgpiafiaaGreatW.PrintLast Go.Proofs.YtmenkckgpiafiaaGreatW.PrintMore Go.Proofs.YtmenkckgpiafiaaGreat.KK
/-- Attributes' eight cells at a place. -/
structure At8 (w : World) (q o : Nat) (a b c d e f g : Int) (v : Value) : Prop where
  c0 : w.cell? ⟨q, o, none⟩ = some (.int .u32 a)
  c1 : w.cell? ⟨q, o + 1, none⟩ = some (.int .u64 b)
  c2 : w.cell? ⟨q, o + 2, none⟩ = some (.int .u32 c)
  c3 : w.cell? ⟨q, o + 3, none⟩ = some (.int .u32 d)
  c4 : w.cell? ⟨q, o + 4, none⟩ = some (.int .u32 e)
  c5 : w.cell? ⟨q, o + 5, none⟩ = some (.int .u32 f)
  c6 : w.cell? ⟨q, o + 6, none⟩ = some (.int .u32 g)
  c7 : w.cell? ⟨q, o + 7, none⟩ = some v
theorem At8.kept {w w' : World} {q o : Nat} {a b c d e f g : Int} {v : Value} (h : At8 w q o a b c d e f g v) (hk : w'.heap[q]? = w.heap[q]?) : At8 w' q o a b c d e f g v := by
  have k : ∀ i, w'.cell? ⟨q, i, none⟩ = w.cell? ⟨q, i, none⟩ := fun i => cell_kept hk
  exact ⟨by rw [k]; exact h.c0, by rw [k]; exact h.c1, by rw [k]; exact h.c2, by rw [k]; exact h.c3, by rw [k]; exact h.c4, by rw [k]; exact h.c5, by rw [k]; exact h.c6, by rw [k]; exact h.c7⟩
theorem At8.lt {w : World} {q o : Nat} {a b c d e f g : Int} {v : Value} (h : At8 w q o a b c d e f g v) : q < w.heap.size := World.block_lt_of_cell? w _ h.c0
theorem At8.below {w w' : World} {B q o : Nat} {a b c d e f g : Int} {v : Value} (h : At8 w q o a b c d e f g v) (hb : Below B w w') (hq : q < B) : At8 w' q o a b c d e f g v := h.kept (hb.block q hq)
/-- Attributes as bytes, part by part. -/
def p1 (a b : Int) : List UInt8 := if flg a 1 then be64 b else []
def p2 (a c d : Int) : List UInt8 := if flg a 2 then be32 c ++ be32 d else []
def p4 (a e : Int) : List UInt8 := if flg a 4 then be32 e else []
/-- Elements of extended attributes that lie in memory. -/
def ExtAt (w : World) (B : Nat) (A : Option Addr) (l : List S266) : Prop :=
  l = [] ∨ ∃ x p, A = some ⟨x, p, none⟩ ∧ x < B ∧ ∀ k e, l[k]? = some e → w.cell? ⟨x, p + k * 2, none⟩ = some (.string e.f0) ∧ w.cell? ⟨x, p + k * 2 + 1, none⟩ = some (.string e.f1)
theorem ExtAt.below {w w' : World} {B B' : Nat} {A : Option Addr} {l : List S266} (h : ExtAt w B A l) (hb : Below B' w w') (hB : B ≤ B') : ExtAt w' B A l := by
  rcases h with h | ⟨x, p, hA, hx, h⟩
  · exact .inl h
  · refine .inr ⟨x, p, hA, hx, fun k e he => ?_⟩
    have k2 : ∀ i, w'.cell? ⟨x, i, none⟩ = w.cell? ⟨x, i, none⟩ := fun i => cell_kept (hb.block x (by omega))
    rw [k2, k2]
    exact h k e he
theorem MBuf.alloc {base g : Nat} {w : World} {v : Value} {l : List UInt8} (hb : MBuf base w g v l) (o : Obj) : MBuf base (w.alloc o) g v l :=
  ⟨(heap_alloc_old _ _ (lt_of_blk hb.blk)).trans hb.blk, hb.own.alloc o, hb.le, hb.ne⟩
end Go.Proofs.YtmenkckgpiafiaaGreat
namespace Go.Proofs.YtmenkckgpiafiaaGreat
open Go.RowKit Go.Great Go.Proofs.YtmenkckgpiafiaaGreatW.PrintWords Go.Proofs.YtmenkckgpiafiaaGreatW.PrintLast Go.Proofs.YtmenkckgpiafiaaGreatW.PrintMore Go.Proofs.YtmenkckgpiafiaaGreat.KK
/-- A reading buffer and a block that is filled through a walk. -/
structure RSt (w0 w : World) (g o s q : Nat) (t : TypeId) (r : Option (List UInt8)) (cs : Array Value) : Prop where
  rb : RBuf w g o s r
  blk : w.heap[q]? = some (.cells cs t (0, 0))
  upd : UpdB (fun k => k = g ∨ k = q) w0 w
section
variable {w0 w w1 : World} {g o s q : Nat} {t : TypeId} {r r1 : Option (List UInt8)} {cs : Array Value}
theorem RSt.consumed (h : RSt w0 w g o s q t r cs) (hq : q ≠ g) (hb : RBuf w1 g o s r1) (u : UpdR g o w w1) : RSt w0 w1 g o s q t r1 cs :=
  ⟨hb, (u.block q (lt_of_blk h.blk) hq).trans h.blk, h.upd.trans (u.updB (.inl rfl))⟩
theorem RSt.set (h : RSt w0 w g o s q t r cs) (hq : q ≠ g) (hs : q ≠ s) (i : Nat) (v : Value) : RSt w0 (w.setCell ⟨q, i, none⟩ v) g o s q t r (cs.setIfInBounds i v) :=
  ⟨h.rb.kept (Below.heap_setCell _ _ _ _ (Ne.symm hq)) (Below.heap_setCell _ _ _ _ (Ne.symm hs)) (by simp [World.setCell]), setCell_blk h.blk _, h.upd.setCell (.inr rfl) _⟩
theorem RSt.cell (h : RSt w0 w g o s q t r cs) (i : Nat) : w.cell? ⟨q, i, none⟩ = cs[i]? := cell_of_blk h.blk i
theorem RSt.frz (h : RSt w0 w g o s q t r cs) (i : Nat) : w.frozen? ⟨q, i, none⟩ = false := frozen_of_blk h.blk i
theorem rs32 (h : RSt w0 w g o s q t r cs) (hq : q ≠ g) : Calls Tryz.prog 132 #[.pointer (some ⟨g, o, none⟩)] w fun e w' => e = .returned (.int .u32 (c32 r).1) ∧ RSt w0 w' g o s q t (c32 r).2 cs :=
  (consume32 g o s r w h.rb).mono fun _ _ ⟨he, hb, u⟩ => ⟨he, h.consumed hq hb u⟩
theorem rs64 (h : RSt w0 w g o s q t r cs) (hq : q ≠ g) : Calls Tryz.prog 133 #[.pointer (some ⟨g, o, none⟩)] w fun e w' => e = .returned (.int .u64 (c64 r).1) ∧ RSt w0 w' g o s q t (c64 r).2 cs :=
  (consume64 g o s r w h.rb).mono fun _ _ ⟨he, hb, u⟩ => ⟨he, h.consumed hq hb u⟩
theorem rsStr (h : RSt w0 w g o s q t r cs) (hq : q ≠ g) : Calls Tryz.prog 136 #[.pointer (some ⟨g, o, none⟩)] w fun e w' => e = .returned (.string (bs (cB r).1)) ∧ RSt w0 w' g o s q t (cB r).2 cs :=
  (consumeString g o s r w h.rb).mono fun _ _ ⟨he, hb, u⟩ => ⟨he, h.consumed hq hb u⟩
end
/-- Attributes' cells within a block. -/
def blk8 (pre : List Value) (a b c d e f g : Int) (v : Value) (post : List Value) : Array Value := (pre ++ (.int .u32 a :: .int .u64 b :: .int .u32 c :: .int .u32 d :: .int .u32 e :: .int .u32 f :: .int .u32 g :: v :: post)).toArray
section
variable (pre post : List Value) (a b c d e f g x : Int) (v u : Value)
theorem blk8_at (i : Nat) (h : i < 8) : (blk8 pre a b c d e f g v post)[pre.length + i]? = (at8 a b c d e f g v)[i]? := by
  unfold blk8
  rw [List.getElem?_toArray, List.getElem?_append_right (by omega)]
  rw [show pre.length + i - pre.length = i from by omega]
  rcases (by omega : i = 0 ∨ i = 1 ∨ i = 2 ∨ i = 3 ∨ i = 4 ∨ i = 5 ∨ i = 6 ∨ i = 7) with rfl | rfl | rfl | rfl | rfl | rfl | rfl | rfl <;> rfl
theorem setApp (l m : List Value) (i : Nat) (y : Value) : (l ++ m).toArray.setIfInBounds (l.length + i) y = (l ++ m.set i y).toArray := by
  rw [List.setIfInBounds_toArray, List.set_append_right _ _ (by omega)]
  rw [show l.length + i - l.length = i from by omega]
theorem set8_0 : (blk8 pre a b c d e f g v post).setIfInBounds (pre.length + 0) (.int .u32 x) = blk8 pre x b c d e f g v post := setApp _ _ _ _
theorem set8_1 : (blk8 pre a b c d e f g v post).setIfInBounds (pre.length + 1) (.int .u64 x) = blk8 pre a x c d e f g v post := setApp _ _ _ _
theorem set8_2 : (blk8 pre a b c d e f g v post).setIfInBounds (pre.length + 2) (.int .u32 x) = blk8 pre a b x d e f g v post := setApp _ _ _ _
theorem set8_3 : (blk8 pre a b c d e f g v post).setIfInBounds (pre.length + 3) (.int .u32 x) = blk8 pre a b c x e f g v post := setApp _ _ _ _
theorem set8_4 : (blk8 pre a b c d e f g v post).setIfInBounds (pre.length + 4) (.int .u32 x) = blk8 pre a b c d x f g v post := setApp _ _ _ _
theorem set8_5 : (blk8 pre a b c d e f g v post).setIfInBounds (pre.length + 5) (.int .u32 x) = blk8 pre a b c d e x g v post := setApp _ _ _ _
theorem set8_6 : (blk8 pre a b c d e f g v post).setIfInBounds (pre.length + 6) (.int .u32 x) = blk8 pre a b c d e f x v post := setApp _ _ _ _
theorem set8_7 : (blk8 pre a b c d e f g v post).setIfInBounds (pre.length + 7) u = blk8 pre a b c d e f g u post := setApp _ _ _ _
end
/-- What attributes' parts read as. -/
def d1 (a : Int) (r : Option (List UInt8)) : Int × Option (List UInt8) := if flg a 1 then c64 r else (0, r)
def dd (r : Option (List UInt8)) : (Int × Int) × Option (List UInt8) := (((c32 r).1, (c32 (c32 r).2).1), (c32 (c32 r).2).2)
def d2 (a : Int) (r : Option (List UInt8)) : (Int × Int) × Option (List UInt8) := if flg a 2 then dd r else ((0, 0), r)
def d4 (a : Int) (r : Option (List UInt8)) : Int × Option (List UInt8) := if flg a 4 then c32 r else (0, r)
def d8 (a : Int) (r : Option (List UInt8)) : (Int × Int) × Option (List UInt8) := if flg a 8 then dd r else ((0, 0), r)
def xD : Nat → Option (List UInt8) → List S266 × Option (List UInt8)
  | 0, r => ([], r)
  | n + 1, r => (⟨bs (cB r).1, bs (cB (cB r).2).1⟩ :: (xD n (cB (cB r).2).2).1, (xD n (cB (cB r).2).2).2)
def dX (a : Int) (r : Option (List UInt8)) : List S266 × Option (List UInt8) := if flg a 2147483648 then xD (c32 r).1.toNat (c32 r).2 else ([], r)
/-- Cells of extended attributes. -/
def exC : List S266 → List Value
  | [] => []
  | e :: r => .string e.f0 :: .string e.f1 :: exC r
theorem exC_len (l : List S266) : (exC l).length = 2 * l.length := by
  induction l with
  | nil => rfl
  | cons e r ih => simp [exC, ih]; omega
theorem exC_app (l m : List S266) : exC (l ++ m) = exC l ++ exC m := by
  induction l with
  | nil => rfl
  | cons e r ih => simp [exC, ih]
/-- A slice of extended attributes that has been made. -/
def ExtV (w : World) (B : Nat) (v : Value) (l : List S266) : Prop :=
  (v = .slice none 0 0 ∧ l = []) ∨ ∃ h, v = .slice (some ⟨h, 0, none⟩) l.length l.length ∧ B ≤ h ∧ h < w.heap.size ∧ w.heap[h]? = some (.cells (exC l).toArray 266 (0, 0))
theorem xD_len (n : Nat) (r : Option (List UInt8)) : (xD n r).1.length = n := by
  induction n generalizing r with
  | zero => rfl
  | succ n ih => simp [xD, ih]
def zl (m : Nat) : List Value := List.replicate m (.string ⟨#[]⟩)
theorem zl_cons2 (m : Nat) : zl (2 * (m + 1)) = .string ⟨#[]⟩ :: .string ⟨#[]⟩ :: zl (2 * m) := by
  rw [show 2 * (m + 1) = 2 * m + 1 + 1 from by omega]; rfl
theorem made2 (n : Nat) : madeCells #[.string ⟨#[]⟩, .string ⟨#[]⟩] (n * 2) = (zl (2 * n)).toArray := by
  apply Array.ext
  · simp [madeCells, zl]; omega
  · intro i h1 h2
    have hm : i % 2 = 0 ∨ i % 2 = 1 := by omega
    rcases hm with hm | hm <;> simp [madeCells, zl, hm]
theorem infoX : (Tryz.prog.info? 266).map (fun i => (i.zero, i.size, i.bytes)) = some (some (.agg #[.string ⟨#[]⟩, .string ⟨#[]⟩]), 2, 32) := by kernel_rfl
theorem makeX (n : Nat) (hn : n ≤ 4294967295) (w : World) : (Instr.makeSlice 137 (.int .i64 (n : Int)) (.int .i64 (n : Int))).run Tryz.prog w = .ok (.slice (some ⟨w.heap.size, 0, none⟩) n n) (w.alloc (.cells (zl (2 * n)).toArray 266)) := by
  obtain ⟨i, hi, hzz⟩ := Option.map_eq_some_iff.1 infoX
  simp only [Prod.mk.injEq] at hzz
  obtain ⟨hz, hs, hb⟩ := hzz
  have hr := run_make (P := Tryz.prog) w 137 266 i (.agg #[.string ⟨#[]⟩, .string ⟨#[]⟩]) Tryz.underlying137 hi hz .i64 .i64 n n (by omega) (Int.le_refl _) (by rw [hb]; omega) (by omega)
  simp only [Int.toNat_natCast, hs] at hr
  rw [hr, show (Value.agg #[.string ⟨#[]⟩, .string ⟨#[]⟩]).cells = #[.string ⟨#[]⟩, .string ⟨#[]⟩] from rfl, made2]
set_option maxHeartbeats 1600000 in
/-- One extended attribute is read into two cells. -/
theorem extFrom (x g o s : Nat) (P Q : List Value) (u0 u1 : Value) (r : Option (List UInt8)) (w : World) (hx : w.heap[x]? = some (.cells (P ++ u0 :: u1 :: Q).toArray 266 (0, 0))) (hxg : x ≠ g) (hxs : x ≠ s) (hb : RBuf w g o s r) :
    Calls Tryz.prog 152 #[.pointer (some ⟨x, P.length, none⟩), .pointer (some ⟨g, o, none⟩)] w fun e w' => (∃ v, e = .returned v) ∧ RSt w w' g o s x 266 (cB (cB r).2).2 (P ++ .string (bs (cB r).1) :: .string (bs (cB (cB r).2).1) :: Q).toArray := by
  have C := Lib.hid (rsStr (w0 := w) ⟨hb, hx, UpdB.refl _ _⟩ hxg)
  clear hx hb
  go_enter Tryz.func152, Tryz.ntmps152
  go_wp2_with fail
  refine C.out.mono ?_
  rintro e w1 ⟨rfl, h1⟩
  have D := Lib.hid (rsStr h1 hxg)
  clear h1 C
  generalize hA1 : (cB r).1 = s1 at *
  have A1 := Lib.hid hA1
  clear hA1
  generalize hA2 : (cB r).2 = r1 at *
  have A2 := Lib.hid hA2
  clear hA2
  go_wp2_with fail
  refine D.out.mono ?_
  rintro e w2 ⟨rfl, h2⟩
  generalize hA3 : (cB r1).1 = s2 at *
  have A3 := Lib.hid hA3
  clear hA3
  generalize hA4 : (cB r1).2 = r2 at *
  have A4 := Lib.hid hA4
  clear hA4
  have c0 : w2.cell? ⟨x, P.length, none⟩ = some u0 := by rw [h2.cell, List.getElem?_toArray, List.getElem?_append_right (by omega)]; simp
  have c1 : w2.cell? ⟨x, P.length + 1, none⟩ = some u1 := by rw [h2.cell, List.getElem?_toArray, List.getElem?_append_right (by omega)]; simp
  have f0 := h2.frz P.length
  have f1 := h2.frz (P.length + 1)
  have h3 := (h2.set hxg hxs P.length (.string (bs s1))).set hxg hxs (P.length + 1) (.string (bs s2))
  have hs : ((P ++ u0 :: u1 :: Q).toArray.setIfInBounds P.length (.string (bs s1))).setIfInBounds (P.length + 1) (.string (bs s2)) = (P ++ .string (bs s1) :: .string (bs s2) :: Q).toArray := by
    have e0 : (P ++ u0 :: u1 :: Q).toArray.setIfInBounds P.length (.string (bs s1)) = (P ++ .string (bs s1) :: u1 :: Q).toArray := setApp P (u0 :: u1 :: Q) 0 _
    rw [e0]
    exact setApp P (.string (bs s1) :: u1 :: Q) 1 _
  rw [hs] at h3
  obtain ⟨v, cv, _⟩ := h3.rb.err
  generalize hW : (w2.setCell ⟨x, P.length, none⟩ (.string (bs s1))).setCell ⟨x, P.length + 1, none⟩ (.string (bs s2)) = W at *
  have H3 := Lib.hid h3
  clear h2 h3 hs D
  go_wp2_with fail
  go_ret
  exact ⟨⟨_, rfl⟩, by rw [A1.out, A2.out, A3.out, A4.out]; exact H3.out⟩
theorem RSt.alloc {w0 w : World} {g o s q : Nat} {t : TypeId} {r : Option (List UInt8)} {cs : Array Value} (h : RSt w0 w g o s q t r cs) (x : Obj) : RSt w0 (w.alloc x) g o s q t r cs :=
  ⟨h.rb.kept (heap_alloc_old _ _ h.rb.lt.1) (heap_alloc_old _ _ h.rb.lt.2) (by simp), (heap_alloc_old _ _ (lt_of_blk h.blk)).trans h.blk, h.upd.trans ⟨rfl, rfl, rfl, by simp, fun k hk _ => heap_alloc_old _ _ hk⟩⟩
theorem rsCount {w0 w : World} {g o s q : Nat} {t : TypeId} {r : Option (List UInt8)} {cs : Array Value} (h : RSt w0 w g o s q t r cs) (hq : q ≠ g) : Calls Tryz.prog 137 #[.pointer (some ⟨g, o, none⟩)] w fun e w' => e = .returned (.int .i64 (c32 r).1) ∧ RSt w0 w' g o s q t (c32 r).2 cs := by
  have hx := c32_range r
  have C := Lib.hid (rs32 h hq)
  clear h
  generalize (c32 r).1 = x at *
  generalize (c32 r).2 = r1 at *
  obtain ⟨x0, x1⟩ := hx
  go_enter Tryz.func137, Tryz.ntmps137
  go_wp2_with fail
  refine C.out.mono ?_
  rintro e w1 ⟨rfl, h1⟩
  have H := Lib.hid h1
  clear h1 C
  go_wp2_with fail
  go_ret
  exact ⟨rfl, H.out⟩
theorem flg0 : flg 0 1 = false ∧ flg 0 2 = false ∧ flg 0 4 = false ∧ flg 0 8 = false ∧ flg 0 2147483648 = false := ⟨by kernel_rfl, by kernel_rfl, by kernel_rfl, by kernel_rfl, by kernel_rfl⟩
/-- What attributes read as, and what is left. -/
def adR (a : Int) (r : Option (List UInt8)) : Option (List UInt8) := (dX a (d8 a (d4 a (d2 a (d1 a r).2).2).2).2).2
def adL (a : Int) (r : Option (List UInt8)) : List S266 := (dX a (d8 a (d4 a (d2 a (d1 a r).2).2).2).2).1
def adC (pre : List Value) (a : Int) (r : Option (List UInt8)) (v : Value) (post : List Value) : Array Value :=
  blk8 pre a (d1 a r).1 (d2 a (d1 a r).2).1.1 (d2 a (d1 a r).2).1.2 (d4 a (d2 a (d1 a r).2).2).1 (d8 a (d4 a (d2 a (d1 a r).2).2).2).1.1 (d8 a (d4 a (d2 a (d1 a r).2).2).2).1.2 v post
/-- What the reader of attributes leaves. -/
def UnmA (q : Nat) (t : TypeId) (g o s : Nat) (pre : List Value) (a : Int) (r : Option (List UInt8)) (post : List Value) (w : World) (e : Ending) (w' : World) : Prop :=
  ∃ v ev, e = .returned ev ∧ errOf (adR a r) ev ∧ ExtV w' w.heap.size v (adL a r) ∧ RSt w w' g o s q t (adR a r) (adC pre a r v post)
/-- The extensions' loop, at a round. -/
def LInv (w wr : World) (g o s q h n : Nat) (t : TypeId) (cs : Array Value) (r0 : Option (List UInt8)) (k : Nat) : Prop :=
  ∃ done rk, done.length = k ∧ xD n r0 = (done ++ (xD (n - k) rk).1, (xD (n - k) rk).2) ∧ RSt w wr g o s q t rk cs ∧ wr.heap[h]? = some (.cells (exC done ++ zl (2 * (n - k))).toArray 266 (0, 0))
theorem LInv.step {w wr w' : World} {g o s q h n k : Nat} {t : TypeId} {cs : Array Value} {r0 rk : Option (List UInt8)} {done : List S266} (hk : k < n) (hd : done.length = k) (hx : xD n r0 = (done ++ (xD (n - k) rk).1, (xD (n - k) rk).2)) (hR : RSt w wr g o s q t rk cs)
    (hqh : q ≠ h) (hqg : q ≠ g) (hh : w.heap.size ≤ h) (h2 : RSt wr w' g o s h 266 (cB (cB rk).2).2 (exC done ++ .string (bs (cB rk).1) :: .string (bs (cB (cB rk).2).1) :: zl (2 * (n - (k + 1)))).toArray) : LInv w w' g o s q h n t cs r0 (k + 1) := by
  have e1 : n - k = (n - (k + 1)) + 1 := by omega
  refine ⟨done ++ [⟨bs (cB rk).1, bs (cB (cB rk).2).1⟩], (cB (cB rk).2).2, by simp [hd], ?_, ⟨h2.rb, ?_, ?_⟩, ?_⟩
  · rw [hx, e1, xD]; simp
  · rw [h2.upd.block q (lt_of_blk hR.blk) (by omega)]; exact hR.blk
  · exact ⟨h2.upd.os.trans hR.upd.os, h2.upd.tape.trans hR.upd.tape, h2.upd.output.trans hR.upd.output, Nat.le_trans hR.upd.size h2.upd.size, fun k hk e => (h2.upd.block k (by have := hR.upd.size; omega) (by omega)).trans (hR.upd.block k hk e)⟩
  · rw [h2.blk, exC_app]; simp [exC]
set_option maxRecDepth 100000 in
set_option maxHeartbeats 8000000 in
theorem byFlags (q g o s : Nat) (t : TypeId) (pre post : List Value) (a : Int) (r : Option (List UInt8)) (w : World) (hq : w.heap[q]? = some (.cells (blk8 pre 0 0 0 0 0 0 0 (.slice none 0 0) post) t (0, 0))) (hqg : q ≠ g) (hqs : q ≠ s) (hb : RBuf w g o s r) (ga : gU32 a) :
    Calls Tryz.prog 147 #[.pointer (some ⟨q, pre.length, none⟩), .int .u32 a, .pointer (some ⟨g, o, none⟩)] w (UnmA q t g o s pre a r post w) := by
  have h0 : RSt w w g o s q t r (blk8 pre 0 0 0 0 0 0 0 (.slice none 0 0) post) := ⟨hb, hq, UpdB.refl _ _⟩
  have hgs := hb.lt
  have hqs' := lt_of_blk hq
  have c0 : w.cell? ⟨q, pre.length, none⟩ = some (.int .u32 0) := by rw [h0.cell]; exact blk8_at pre post 0 0 0 0 0 0 0 _ 0 (by omega)
  have f0 := h0.frz pre.length
  have h1 := h0.set hqg hqs (pre.length + 0) (.int .u32 a)
  rw [set8_0] at h1
  obtain ⟨ga0, ga1⟩ := ga
  obtain ⟨W0, hW0⟩ : ∃ W, w.setCell ⟨q, pre.length, none⟩ (.int .u32 a) = W := ⟨_, rfl⟩
  have h1' : RSt w W0 g o s q t r (blk8 pre a 0 0 0 0 0 0 (.slice none 0 0) post) := by rw [← hW0]; exact h1
  have d0 : W0.cell? ⟨q, pre.length, none⟩ = some (.int .u32 a) := by rw [h1'.cell]; exact blk8_at pre post a 0 0 0 0 0 0 _ 0 (by omega)
  clear h0 h1 hq hb
  by_cases hz : a = 0
  · subst hz
    obtain ⟨z1, z2, z4, z8, zX⟩ := flg0
    have e1 : adR 0 r = r := by simp [adR, d1, d2, d4, d8, dX, z1, z2, z4, z8, zX]
    have e2 : adL 0 r = [] := by simp [adL, d1, d2, d4, d8, dX, z1, z2, z4, z8, zX]
    have e3 : adC pre 0 r (.slice none 0 0) post = blk8 pre 0 0 0 0 0 0 0 (.slice none 0 0) post := by simp [adC, d1, d2, d4, d8, z1, z2, z4, z8]
    obtain ⟨ev, cv, he⟩ := h1'.rb.err
    have F := Lib.hid (show UnmA q t g o s pre 0 r post w (.returned ev) W0 from ⟨_, ev, rfl, by rw [e1]; exact he, .inl ⟨rfl, e2⟩, by rw [e1, e3]; exact h1'⟩)
    clear e1 e2 e3 h1' he z1 z2 z4 z8 zX
    go_enter Tryz.func147, Tryz.ntmps147
    go_wp2_with fail
    go_ret
    exact F.out
  have hz2 : (a == 0) = false := by simp [hz]
  have H1 := Lib.hid h1'
  clear h1' hz
  go_enter Tryz.func147, Tryz.ntmps147
  go_upto_if 27 with (fail)
  go_cut [] (fun wx => RSt w wx g o s q t (d1 a r).2 (blk8 pre a (d1 a r).1 0 0 0 0 0 (.slice none 0 0) post))
  case first =>
    cases hf : (bits .and .u32 a 1 != 0) with
    | true =>
      have E := Lib.hid (show d1 a r = c64 r by unfold d1 flg; rw [hf]; rfl)
      go_wp2_with fail
      refine (rs64 H1.out hqg).mono ?_
      rintro e w2 ⟨rfl, h2⟩
      have c1 : w2.cell? ⟨q, pre.length + 1, none⟩ = some (.int .u64 0) := by rw [h2.cell]; exact blk8_at pre post _ _ _ _ _ _ _ _ 1 (by omega)
      have f1 := h2.frz (pre.length + 1)
      have h3 := h2.set hqg hqs (pre.length + 1) (.int .u64 (c64 r).1)
      rw [set8_1] at h3
      have G0 := Lib.hid h3
      clear h2 h3
      go_wp2_with fail
      go_meet
      rw [E.out]
      exact G0.out
    | false =>
      have E := Lib.hid (show d1 a r = (0, r) by unfold d1 flg; rw [hf]; rfl)
      go_wp2_with fail
      go_meet
      rw [E.out]
      exact H1.out
  case rest =>
    obtain ⟨V2, rfl⟩ : ∃ V : World, V = wc := ⟨_, rfl⟩
    have H2 := Lib.hid hcut
    have d0 : V2.cell? ⟨q, pre.length, none⟩ = some (.int .u32 a) := by rw [hcut.cell]; exact blk8_at pre post a _ _ _ _ _ _ _ 0 (by omega)
    clear hcut
    go_upto_if 38 with (fail)
    go_cut [] (fun wx => RSt w wx g o s q t (d2 a (d1 a r).2).2 (blk8 pre a (d1 a r).1 (d2 a (d1 a r).2).1.1 (d2 a (d1 a r).2).1.2 0 0 0 (.slice none 0 0) post))
    case first =>
      cases hf : (bits .and .u32 a 2 != 0) with
      | true =>
        have E := Lib.hid (show d2 a (d1 a r).2 = dd (d1 a r).2 by unfold d2 flg; rw [hf]; rfl)
        go_wp2_with fail
        refine (rs32 H2.out hqg).mono ?_
        rintro e w2 ⟨rfl, h2⟩
        have c2 : w2.cell? ⟨q, pre.length + 2, none⟩ = some (.int .u32 0) := by rw [h2.cell]; exact blk8_at pre post _ _ _ _ _ _ _ _ 2 (by omega)
        have f2 := h2.frz (pre.length + 2)
        have h3 := h2.set hqg hqs (pre.length + 2) (.int .u32 (c32 (d1 a r).2).1)
        rw [set8_2] at h3
        have G0 := Lib.hid h3
        clear h2 h3
        go_wp2_with fail
        refine (rs32 G0.out hqg).mono ?_
        rintro e w3 ⟨rfl, h2⟩
        have c3 : w3.cell? ⟨q, pre.length + 3, none⟩ = some (.int .u32 0) := by rw [h2.cell]; exact blk8_at pre post _ _ _ _ _ _ _ _ 3 (by omega)
        have f3 := h2.frz (pre.length + 3)
        have h3 := h2.set hqg hqs (pre.length + 3) (.int .u32 (c32 (c32 (d1 a r).2).2).1)
        rw [set8_3] at h3
        have G1 := Lib.hid h3
        clear h2 h3
        go_wp2_with fail
        go_meet
        rw [E.out]
        exact G1.out
      | false =>
        have E := Lib.hid (show d2 a (d1 a r).2 = ((0, 0), (d1 a r).2) by unfold d2 flg; rw [hf]; rfl)
        go_wp2_with fail
        go_meet
        rw [E.out]
        exact H2.out
    case rest =>
      obtain ⟨V3, rfl⟩ : ∃ V : World, V = wc := ⟨_, rfl⟩
      have H3 := Lib.hid hcut
      have d0 : V3.cell? ⟨q, pre.length, none⟩ = some (.int .u32 a) := by rw [hcut.cell]; exact blk8_at pre post a _ _ _ _ _ _ _ 0 (by omega)
      clear hcut
      go_upto_if 54 with (fail)
      go_cut [] (fun wx => RSt w wx g o s q t (d4 a (d2 a (d1 a r).2).2).2 (blk8 pre a (d1 a r).1 (d2 a (d1 a r).2).1.1 (d2 a (d1 a r).2).1.2 (d4 a (d2 a (d1 a r).2).2).1 0 0 (.slice none 0 0) post))
      case first =>
        cases hf : (bits .and .u32 a 4 != 0) with
        | true =>
          have E := Lib.hid (show d4 a (d2 a (d1 a r).2).2 = c32 (d2 a (d1 a r).2).2 by unfold d4 flg; rw [hf]; rfl)
          go_wp2_with fail
          refine (rs32 H3.out hqg).mono ?_
          rintro e w2 ⟨rfl, h2⟩
          have c4 : w2.cell? ⟨q, pre.length + 4, none⟩ = some (.int .u32 0) := by rw [h2.cell]; exact blk8_at pre post _ _ _ _ _ _ _ _ 4 (by omega)
          have f4 := h2.frz (pre.length + 4)
          have h3 := h2.set hqg hqs (pre.length + 4) (.int .u32 (c32 (d2 a (d1 a r).2).2).1)
          rw [set8_4] at h3
          have G0 := Lib.hid h3
          clear h2 h3
          go_wp2_with fail
          go_meet
          rw [E.out]
          exact G0.out
        | false =>
          have E := Lib.hid (show d4 a (d2 a (d1 a r).2).2 = (0, (d2 a (d1 a r).2).2) by unfold d4 flg; rw [hf]; rfl)
          go_wp2_with fail
          go_meet
          rw [E.out]
          exact H3.out
      case rest =>
        obtain ⟨V4, rfl⟩ : ∃ V : World, V = wc := ⟨_, rfl⟩
        have H4 := Lib.hid hcut
        have d0 : V4.cell? ⟨q, pre.length, none⟩ = some (.int .u32 a) := by rw [hcut.cell]; exact blk8_at pre post a _ _ _ _ _ _ _ 0 (by omega)
        clear hcut
        go_upto_if 65 with (fail)
        go_cut [] (fun wx => RSt w wx g o s q t (d8 a (d4 a (d2 a (d1 a r).2).2).2).2 (blk8 pre a (d1 a r).1 (d2 a (d1 a r).2).1.1 (d2 a (d1 a r).2).1.2 (d4 a (d2 a (d1 a r).2).2).1 (d8 a (d4 a (d2 a (d1 a r).2).2).2).1.1 (d8 a (d4 a (d2 a (d1 a r).2).2).2).1.2 (.slice none 0 0) post))
        case first =>
          cases hf : (bits .and .u32 a 8 != 0) with
          | true =>
            have E := Lib.hid (show d8 a (d4 a (d2 a (d1 a r).2).2).2 = dd (d4 a (d2 a (d1 a r).2).2).2 by unfold d8 flg; rw [hf]; rfl)
            go_wp2_with fail
            refine (rs32 H4.out hqg).mono ?_
            rintro e w2 ⟨rfl, h2⟩
            have c5 : w2.cell? ⟨q, pre.length + 5, none⟩ = some (.int .u32 0) := by rw [h2.cell]; exact blk8_at pre post _ _ _ _ _ _ _ _ 5 (by omega)
            have f5 := h2.frz (pre.length + 5)
            have h3 := h2.set hqg hqs (pre.length + 5) (.int .u32 (c32 (d4 a (d2 a (d1 a r).2).2).2).1)
            rw [set8_5] at h3
            have G0 := Lib.hid h3
            clear h2 h3
            go_wp2_with fail
            refine (rs32 G0.out hqg).mono ?_
            rintro e w3 ⟨rfl, h2⟩
            have c6 : w3.cell? ⟨q, pre.length + 6, none⟩ = some (.int .u32 0) := by rw [h2.cell]; exact blk8_at pre post _ _ _ _ _ _ _ _ 6 (by omega)
            have f6 := h2.frz (pre.length + 6)
            have h3 := h2.set hqg hqs (pre.length + 6) (.int .u32 (c32 (c32 (d4 a (d2 a (d1 a r).2).2).2).2).1)
            rw [set8_6] at h3
            have G1 := Lib.hid h3
            clear h2 h3
            go_wp2_with fail
            go_meet
            rw [E.out]
            exact G1.out
          | false =>
            have E := Lib.hid (show d8 a (d4 a (d2 a (d1 a r).2).2).2 = ((0, 0), (d4 a (d2 a (d1 a r).2).2).2) by unfold d8 flg; rw [hf]; rfl)
            go_wp2_with fail
            go_meet
            rw [E.out]
            exact H4.out
        case rest =>
          obtain ⟨V5, rfl⟩ : ∃ V : World, V = wc := ⟨_, rfl⟩
          have hcut' : RSt w V5 g o s q t (d8 a (d4 a (d2 a (d1 a r).2).2).2).2 (adC pre a r (.slice none 0 0) post) := hcut
          have d0 : V5.cell? ⟨q, pre.length, none⟩ = some (.int .u32 a) := by rw [hcut.cell]; exact blk8_at pre post a _ _ _ _ _ _ _ 0 (by omega)
          clear hcut
          have eR : adR a r = (dX a (d8 a (d4 a (d2 a (d1 a r).2).2).2).2).2 := rfl
          have eL : adL a r = (dX a (d8 a (d4 a (d2 a (d1 a r).2).2).2).2).1 := rfl
          generalize (d8 a (d4 a (d2 a (d1 a r).2).2).2).2 = r5 at hcut' eR eL
          cases hf : (bits .and .u32 a 2147483648 != 0) with
          | false =>
            have E : dX a r5 = ([], r5) := by unfold dX flg; rw [hf]; rfl
            rw [E] at eR eL
            obtain ⟨ev, cv, he⟩ := hcut'.rb.err
            have F := Lib.hid (show UnmA q t g o s pre a r post w (.returned ev) V5 from ⟨_, ev, rfl, by rw [eR]; exact he, .inl ⟨rfl, eL⟩, by rw [eR]; exact hcut'⟩)
            clear eR eL E hcut' he
            go_wp2_with fail
            go_ret
            exact F.out
          | true =>
            have E : dX a r5 = xD (c32 r5).1.toNat (c32 r5).2 := by unfold dX flg; rw [hf]; rfl
            rw [E] at eR eL
            have hx := c32_range r5
            have H5 := Lib.hid (rsCount hcut' hqg)
            generalize hn : (c32 r5).1 = N at *
            generalize (c32 r5).2 = r6 at *
            obtain ⟨n, rfl⟩ : ∃ n : Nat, N = (n : Int) := ⟨N.toNat, by omega⟩
            rw [Int.toNat_natCast] at eR eL
            have ER := Lib.hid eR
            have EL := Lib.hid eL
            have hn1 : n ≤ 4294967295 := by omega
            clear eR eL E hcut' hn hx
            go_wp2_with fail
            refine H5.out.mono ?_
            rintro e w2 ⟨rfl, h2⟩
            have hmk := makeX n hn1 w2
            have hz2 := h2.upd.size
            have hA : RSt w (w2.alloc (.cells (zl (2 * n)).toArray 266)) g o s q t r6 (adC pre a r (.slice none 0 0) post) := h2.alloc _
            have hH := heap_alloc_new w2 (.cells (zl (2 * n)).toArray 266 (0, 0))
            generalize hWA : w2.alloc (.cells (zl (2 * n)).toArray 266) = WA at *
            have c7 : WA.cell? ⟨q, pre.length + 7, none⟩ = some (.slice none 0 0) := by rw [hA.cell]; exact blk8_at pre post _ _ _ _ _ _ _ _ 7 (by omega)
            have f7 := hA.frz (pre.length + 7)
            have hB := hA.set hqg hqs (pre.length + 7) (.slice (some ⟨w2.heap.size, 0, none⟩) n n)
            have hlt1 := h2.rb.lt
            have hlt2 := lt_of_blk h2.blk
            have hqh : q ≠ w2.heap.size := by omega
            have hgh : w2.heap.size ≠ g := by omega
            have hsh : w2.heap.size ≠ s := by omega
            generalize hh : w2.heap.size = h at *
            have hB' : RSt w (WA.setCell ⟨q, pre.length + 7, none⟩ (.slice (some ⟨h, 0, none⟩) n n)) g o s q t r6 (adC pre a r (.slice (some ⟨h, 0, none⟩) n n) post) := by
              have := hB
              unfold adC at this
              rw [set8_7] at this
              exact this
            have hH2 : (WA.setCell ⟨q, pre.length + 7, none⟩ (.slice (some ⟨h, 0, none⟩) n n)).heap[h]? = some (.cells (zl (2 * n)).toArray 266 (0, 0)) := by rw [Below.heap_setCell _ _ _ _ (Ne.symm hqh)]; exact hH
            obtain ⟨WB, hWB⟩ : ∃ W, WA.setCell ⟨q, pre.length + 7, none⟩ (.slice (some ⟨h, 0, none⟩) n n) = W := ⟨_, rfl⟩
            rw [hWB] at hB' hH2
            have L0 := Lib.hid (show LInv w WB g o s q h n t (adC pre a r (.slice (some ⟨h, 0, none⟩) n n) post) r6 0 from ⟨[], r6, rfl, by simp, hB', by simpa [exC] using hH2⟩)
            have d7 : WB.cell? ⟨q, pre.length + 7, none⟩ = some (.slice (some ⟨h, 0, none⟩) n n) := by rw [hB'.cell]; exact blk8_at pre post _ _ _ _ _ _ _ _ 7 (by omega)
            clear h2 hA hH hB hB' hH2 H5 hWA hh hlt1 hlt2
            go_wp2_with fail
            go_loopw [94] (fun i wr => ∃ k : Nat, k ≤ n ∧ i = .int .i64 (k : Int) ∧ Hid (LInv w wr g o s q h n t (adC pre a r (.slice (some ⟨h, 0, none⟩) n n) post) r6 k)) (fun i _ => n - (intOf i).toNat)
            case atStart => exact ⟨0, Nat.zero_le _, rfl, L0⟩
            case round =>
              obtain ⟨k, hk, rfl, HR⟩ := hrel
              obtain ⟨done, rk, hd, hxd, hR, hB⟩ := HR.out
              clear HR
              have e7 : wr.cell? ⟨q, pre.length + 7, none⟩ = some (.slice (some ⟨h, 0, none⟩) n n) := by rw [hR.cell]; exact blk8_at pre post _ _ _ _ _ _ _ _ 7 (by omega)
              by_cases hlt : k < n
              · have hz3 : zl (2 * (n - k)) = .string ⟨#[]⟩ :: .string ⟨#[]⟩ :: zl (2 * (n - (k + 1))) := by rw [show n - k = (n - (k + 1)) + 1 from by omega, zl_cons2]
                rw [hz3] at hB
                have hpl : (exC done).length = k * 2 := by rw [exC_len, hd]; omega
                have C := Lib.hid (extFrom h g o s (exC done) (zl (2 * (n - (k + 1)))) _ _ rk wr hB hgh hsh hR.rb)
                rw [hpl] at C
                have S := Lib.hid (fun w' h2 => LInv.step (w' := w') hlt hd hxd hR hqh hqg hz2 h2)
                clear hd hxd hR hB hz3 hpl
                go_wp2_with fail
                refine C.out.mono ?_
                rintro e w4 ⟨⟨ve, rfl⟩, h4⟩
                have L1 := Lib.hid (S.out w4 h4)
                clear h4 S C
                go_wp2_with fail
                go_roundw
                case rel => exact ⟨k + 1, by omega, by go_num, L1⟩
                case measure => simp [intOf]; omega
              · obtain rfl : k = n := by omega
                obtain ⟨ev, cv, he⟩ := hR.rb.err
                rw [Nat.sub_self] at hxd hB
                have h1 : (xD k r6).2 = rk := by rw [hxd]; rfl
                have h2 : (xD k r6).1 = done := by rw [hxd]; simp [xD]
                have hhl := lt_of_blk hB
                have F := Lib.hid (show UnmA q t g o s pre a r post w (.returned ev) wr from by
                  refine ⟨.slice (some ⟨h, 0, none⟩) k k, ev, rfl, by rw [ER.out, h1]; exact he, .inr ⟨h, ?_, hz2, hhl, ?_⟩, by rw [ER.out, h1]; exact hR⟩
                  · rw [EL.out, h2, hd]
                  · rw [EL.out, h2, hB]; simp [zl])
                clear hd hxd hR hB he h1 h2
                go_wp2_with fail
                go_ret
                exact F.out
end Go.Proofs.YtmenkckgpiafiaaGreat
namespace Go.Proofs.YtmenkckgpiafiaaGreat
open Go.RowKit Go.Great Go.Proofs.YtmenkckgpiafiaaGreatW.PrintWords Go.Proofs.YtmenkckgpiafiaaGreatW.PrintLast Go.Proofs.YtmenkckgpiafiaaGreatW.PrintMore Go.Proofs.YtmenkckgpiafiaaGreat.KK
theorem attrsFrom (q g o s : Nat) (t : TypeId) (pre post : List Value) (r : Option (List UInt8)) (w : World) (hq : w.heap[q]? = some (.cells (blk8 pre 0 0 0 0 0 0 0 (.slice none 0 0) post) t (0, 0))) (hqg : q ≠ g) (hqs : q ≠ s) (hb : RBuf w g o s r) :
    Calls Tryz.prog 125 #[.pointer (some ⟨q, pre.length, none⟩), .pointer (some ⟨g, o, none⟩)] w (UnmA q t g o s pre (c32 r).1 (c32 r).2 post w) := by
  have C := Lib.hid (rs32 (w0 := w) ⟨hb, hq, UpdB.refl _ _⟩ hqg)
  have hx := c32_range r
  clear hb hq
  generalize (c32 r).1 = a at *
  generalize (c32 r).2 = r1 at *
  go_enter Tryz.func125, Tryz.ntmps125
  go_wp2_with fail
  refine C.out.mono ?_
  rintro e w1 ⟨rfl, h1⟩
  have D := Lib.hid (byFlags q g o s t pre post a r1 w1 h1.blk hqg hqs h1.rb hx)
  have U := Lib.hid h1.upd
  clear h1 C
  go_wp2_with fail
  refine D.out.mono ?_
  rintro e w2 ⟨v, ev, rfl, he, hv, h2⟩
  have F := Lib.hid (show UnmA q t g o s pre a r1 post w (.returned ev) w2 from by
    refine ⟨v, ev, rfl, he, ?_, h2.rb, h2.blk, U.out.trans h2.upd⟩
    rcases hv with hv | ⟨h, e1, e2, e3, e4⟩
    · exact .inl hv
    · exact .inr ⟨h, e1, Nat.le_trans U.out.size e2, e3, e4⟩)
  clear he hv h2 D U
  go_wp2_with fail
  go_ret
  exact F.out
/-- What attributes over bytes of their own leave. -/
def UnmB (q : Nat) (l : List UInt8) (w : World) (e : Ending) (w' : World) : Prop :=
  ∃ v ev, e = .returned ev ∧ errOf (adR (c32 (some l)).1 (c32 (some l)).2) ev ∧ ExtV w' w.heap.size v (adL (c32 (some l)).1 (c32 (some l)).2) ∧ w'.heap[q]? = some (.cells (adC [] (c32 (some l)).1 (c32 (some l)).2 v []) 139 (0, 0)) ∧ UpdB (fun k => k = q) w w'
set_option maxHeartbeats 1600000 in
theorem attrsBin (q h c : Nat) (l : List UInt8) (w : World) (hq : w.heap[q]? = some (.cells z8 139 (0, 0))) (hqh : q ≠ h) (hl : Lies w h 0 l) (hh : h < w.heap.size) (hc : l.length ≤ c) (hn : l.length ≤ 1000000000) :
    Calls Tryz.prog 73 #[.pointer (some ⟨q, 0, none⟩), .slice (some ⟨h, 0, none⟩) l.length c] w (UnmB q l w) := by
  have hql := lt_of_blk hq
  have hbel := (Below.refl w.heap.size w).alloc (Nat.le_refl _) (.cells #[.slice (some ⟨h, 0, none⟩) l.length c, .int .i64 0, .nilIface] 120)
  have hb := RBuf.new hl hh hc hn
  have hq2 := (hbel.block q hql).trans hq
  have C := Lib.hid (attrsFrom q w.heap.size 0 h 139 [] [] (some l) _ hq2 (by omega) hqh hb)
  have B := Lib.hid hbel
  clear hb hq2 hbel hl hq
  go_enter Tryz.func73, Tryz.ntmps73
  go_wp2_with fail
  refine (newBuffer _ _ _ _).mono ?_
  rintro e w2 ⟨rfl, hw2⟩
  rw [hw2] at C B
  clear hw2
  go_wp2_with fail
  refine C.out.mono ?_
  rintro e w3 ⟨v, ev, rfl, he, hv, h3⟩
  have F := Lib.hid (show UnmB q l w (.returned ev) w3 from by
    have hu := h3.upd
    have hs := B.out.size
    refine ⟨v, ev, rfl, he, ?_, h3.blk, ⟨hu.os.trans B.out.os, hu.tape.trans B.out.tape, hu.output.trans B.out.output, Nat.le_trans B.out.size hu.size, fun k hk e => (hu.block k (by omega) (by omega)).trans (B.out.block k hk)⟩⟩
    rcases hv with hv | ⟨x, e1, e2, e3, e4⟩
    · exact .inl hv
    · exact .inr ⟨x, e1, by omega, e3, e4⟩)
  clear he hv h3 C B
  go_wp2_with fail
  go_ret
  exact F.out
/-- Extended attributes that have been made are read. -/
theorem extV_C {w : World} {B : Nat} {v : Value} {l : List S266} (h : ExtV w B v l) (hl : l.length ≤ 4294967295) : ∃ A c, v = .slice A l.length c ∧ l.length ≤ c ∧ Kd.C k266 w A l.length l := by
  rcases h with ⟨rfl, rfl⟩ | ⟨x, rfl, _, _, hb⟩
  · exact ⟨none, 0, rfl, Nat.le_refl _, rfl, by simp, fun h => by simp at h⟩
  · refine ⟨_, _, rfl, Nat.le_refl _, rfl, by omega, fun _ => ⟨⟨x, 0, none⟩, rfl, fun j p hp => ?_⟩⟩
    refine ⟨[.string p.f0, .string p.f1], rfl, k266_mk w p, fun i u hu => ?_⟩
    have hc : ∀ (l : List S266) (j : Nat) (p : S266), l[j]? = some p → (exC l)[j * 2]? = some (.string p.f0) ∧ (exC l)[j * 2 + 1]? = some (.string p.f1) := by
      intro l
      induction l with
      | nil => intro j p h; simp at h
      | cons e r ih =>
        intro j p h
        match j with
        | 0 =>
          obtain rfl : e = p := by simpa using h
          exact ⟨rfl, rfl⟩
        | j + 1 =>
          have := ih j p (by simpa using h)
          rw [show (j + 1) * 2 = j * 2 + 1 + 1 from by omega]
          exact this
    obtain ⟨h1, h2⟩ := hc l j p hp
    rw [show k266.sz = 2 from rfl, add_plain, cell_of_blk hb, List.getElem?_toArray]
    match i with
    | 0 =>
      obtain rfl : Value.string p.f0 = u := by simpa using hu
      simpa using h1
    | 1 =>
      obtain rfl : Value.string p.f1 = u := by simpa using hu
      simpa using h2
    | i + 2 => simp at hu
theorem adL_len (a : Int) (r : Option (List UInt8)) : (adL a r).length ≤ 4294967295 := by
  unfold adL dX
  split
  · rw [xD_len]
    have := c32_range (d8 a (d4 a (d2 a (d1 a r).2).2).2).2
    omega
  · simp
theorem attrsIdle (p q : Addr) (w : World) :
    CallsD Tryz.prog 72 #[.pointer (some p), .pointer (some q)] .returning w fun e u' w' => e = .returned (.tuple #[]) ∧ u' = .returning ∧ w' = w := by
  refine callsD_of_wpS Tryz.func72 rfl fun c₀ cs hu => ?_
  apply wpS_seq
  apply wpS_region
  simp [wpOpsS, go_sem, recoverD, hu, Tryz.ntmps72, Exit.thenS]
  refine wpS_cond (t := false) (by simp [Act.eval, Array.replicate]) ?_
  simp only [Bool.false_eq_true, if_false]
  refine wpS_of_wp (wp_skip ?_)
  cases c₀
  simp_all [bodyPostS, results, Tryz.results72]
theorem one8' (a b c d e f g : Int) (v : Value) (hv : v.oneCell' = true) : (at8 a b c d e f g v).all (·.oneCell') = true := by
  have h : (at8 a b c d e f g v).all (·.oneCell') = (v.oneCell' && true) := by
    simp [at8, Value.oneCell']
  rw [h, hv]; rfl
/-- The worlds in which AttrsRead begins: two results, the attributes, the bytes. -/
theorem readW8 (w : World) (s : ByteArray) (W : World) (hW : ((w.alloc (.cells z8 26)).alloc (.cells #[.int .i64 0] 3)).alloc (.cells z8 139) = W) :
    W.heap.size = w.heap.size + 1 + 1 + 1 ∧ W.heap[w.heap.size]? = some (.cells z8 26 (0, 0)) ∧ W.heap[w.heap.size + 1]? = some (.cells #[.int .i64 0] 3 (0, 0)) ∧ W.heap[w.heap.size + 1 + 1]? = some (.cells z8 139 (0, 0)) ∧ Below w.heap.size w W := by
  obtain ⟨V, hV⟩ : ∃ V, w.alloc (.cells z8 26) = V := ⟨_, rfl⟩
  obtain ⟨U, hU⟩ : ∃ U, V.alloc (.cells #[.int .i64 0] 3) = U := ⟨_, rfl⟩
  rw [hV, hU] at hW
  have sV : V.heap.size = w.heap.size + 1 := by rw [← hV]; simp
  have sU : U.heap.size = w.heap.size + 1 + 1 := by rw [← hU]; simp [sV]
  have nV := heap_alloc_new w (.cells z8 26 (0, 0))
  have nU := heap_alloc_new V (.cells #[.int .i64 0] 3 (0, 0))
  have nW := heap_alloc_new U (.cells z8 139 (0, 0))
  rw [hV] at nV
  rw [hU, sV] at nU
  rw [hW, sU] at nW
  have oW : ∀ k, k < U.heap.size → W.heap[k]? = U.heap[k]? := fun k hk => by rw [← hW, heap_alloc_old _ _ hk]
  have oU : ∀ k, k < V.heap.size → U.heap[k]? = V.heap[k]? := fun k hk => by rw [← hU, heap_alloc_old _ _ hk]
  refine ⟨by rw [← hW]; simp [sU], ?_, ?_, nW, ?_⟩
  · rw [oW _ (by omega), oU _ (by omega)]; exact nV
  · rw [oW _ (by omega)]; exact nU
  · rw [← hW, ← hU, ← hV]
    exact (((Below.refl _ _).alloc (Nat.le_refl _) _).alloc (by simp) _).alloc (by simp; omega) _
/-- What attributes' bytes read as: flags and seven numbers. -/
def rdA (l : List UInt8) (v : Value) : Array Value := adC [] (c32 (some l)).1 (c32 (some l)).2 v []
def rdL (l : List UInt8) : List S266 := adL (c32 (some l)).1 (c32 (some l)).2
def rdR (l : List UInt8) : Option (List UInt8) := adR (c32 (some l)).1 (c32 (some l)).2
set_option maxRecDepth 100000 in
set_option maxHeartbeats 4000000 in
theorem attrsRead_no (s : ByteArray) (w : World) (hs : s.size ≤ 1000000) (hr : rdR (tl s) = none) :
    Calls Tryz.prog 32 #[.string s] w fun e w' => e = .returned (.tuple #[.agg z8, .int .i64 1]) ∧ Below w.heap.size w w' := by
  have hmf : ∀ (fn : Fn) (first cap : Array Value) (w : World), (Instr.makeFunc fn first cap).run Tryz.prog w = .ok (.func fn first cap) w := fun _ _ _ _ => rfl
  have kb := fun W => Lib.run_convert_string_bytes (P := Tryz.prog) W 9 93 5 s Tryz.underlying9 Tryz.underlying93 Tryz.underlying5
  obtain ⟨W0, hW0⟩ : ∃ W, ((w.alloc (.cells z8 26)).alloc (.cells #[.int .i64 0] 3)).alloc (.cells z8 139) = W := ⟨_, rfl⟩
  obtain ⟨s0, k0, k1, k2, b0⟩ := readW8 w s W0 hW0
  have o : ∀ k, k < W0.heap.size → (Lib.bytesWorld W0 5 s).heap[k]? = W0.heap[k]? := fun k hk => Lib.bytesWorld_at_old W0 _ s k hk
  have hl : Lies (Lib.bytesWorld W0 5 s) (w.heap.size + 1 + 1 + 1) 0 (tl s) := fun j b hj => by
    rw [← s0]; exact bytes_src W0 _ s j b hj
  have hz : (Lib.bytesWorld W0 5 s).heap.size = w.heap.size + 1 + 1 + 1 + 1 := by rw [Lib.bytesWorld_size, s0]
  have j0 := (o _ (by omega)).trans k0
  have j1 := (o _ (by omega)).trans k1
  have j2 := (o _ (by omega)).trans k2
  have b1 : Below w.heap.size w (Lib.bytesWorld W0 5 s) := bytes_below b0 (by omega) _ _
  have hsz : s.size = (tl s).length := (tl_length s).symm
  have C := Lib.hid (attrsBin (w.heap.size + 1 + 1) (w.heap.size + 1 + 1 + 1) (grownCap W0 s.size 0 5) (tl s) _ j2 (by omega) hl (by omega) (by rw [← hsz]; exact grownCap_ge _ _ _ _) (by omega))
  rw [← hsz, ← s0] at C
  have X0 := Lib.hid hW0
  have S0 := Lib.hid s0
  have J0 := Lib.hid j0
  have J1 := Lib.hid j1
  have B1 := Lib.hid b1
  have Z1 := Lib.hid hz
  clear hW0 s0 k0 k1 k2 b0 o hl hz j0 j1 j2 b1 hsz
  go_enter_defers Tryz.func32, Tryz.ntmps32
  go_wp2_with (first
    | (refine wpList_allocTo rfl (some 2) rfl (.pointer (some ⟨w.heap.size, 0, none⟩)) (.cells z8 26) (by as_aux_lemma => kernel_rfl) ?_)
    | (refine wpList_allocTo rfl (some 4) rfl (.pointer (some ⟨w.heap.size + 1 + 1, 0, none⟩)) (.cells z8 139) (by as_aux_lemma => kernel_rfl) ?_)
    | (refine at_dst 6 rfl ?_; rw [X0.out]))
  change Calls Tryz.prog 73 #[_, .slice (some ⟨w.heap.size + 1 + 1 + 1, 0, none⟩) s.size (grownCap (((w.alloc (.cells z8 26)).alloc (.cells #[.int .i64 0] 3)).alloc (.cells z8 139)) s.size 0 5)] (Lib.bytesWorld (((w.alloc (.cells z8 26)).alloc (.cells #[.int .i64 0] 3)).alloc (.cells z8 139)) 5 s) _
  rw [X0.out]
  have D := C.out
  rw [S0.out] at D
  refine D.mono ?_
  rintro e w1 ⟨v, ev, rfl, he, hv, hq, hu⟩
  have z0 := Z1.out
  have z1 := hu.size
  have y0 := (hu.block w.heap.size (by omega) (by omega)).trans J0.out
  have y1 := (hu.block (w.heap.size + 1) (by omega) (by omega)).trans J1.out
  have yb : Below w.heap.size w w1 := B1.out.trans ⟨hu.os, hu.tape, hu.output, hu.size, fun k hk => hu.block k (by omega) (by omega)⟩
  have he' : errOf (rdR (tl s)) ev := he
  rw [hr] at he'
  obtain ⟨te, xe, rfl⟩ := he'
  obtain ⟨W5, hW5⟩ : ∃ W, w1.setRow w.heap.size z8 = W := ⟨_, rfl⟩
  have a5 : W5.heap[w.heap.size]? = some (.cells z8 26 (0, 0)) := by rw [← hW5]; exact setRow_blk y0
  have b5 : W5.heap[w.heap.size + 1]? = some (.cells #[.int .i64 0] 3 (0, 0)) := by rw [← hW5, setRow_other _ _ _ _ (by omega)]; exact y1
  have t5 : Below w.heap.size w W5 := by rw [← hW5]; exact ⟨yb.os, yb.tape, yb.output, by rw [setRow_size]; exact yb.size, fun k hk => by rw [setRow_other _ _ _ _ (by omega)]; exact yb.block k hk⟩
  have c5 : W5.cell? ⟨w.heap.size + 1, 0, none⟩ = some (.int .i64 0) := by rw [cell_of_blk b5]; rfl
  have f5 : W5.frozen? ⟨w.heap.size + 1, 0, none⟩ = false := frozen_of_blk b5 0
  have V0 := Lib.hid y0
  have X5 := Lib.hid hW5
  have A5 := Lib.hid a5
  have T5 := Lib.hid t5
  clear he hv hq hu y0 y1 yb hW5 a5 b5 t5 C D J0 J1 B1 Z1 z0 z1 X0 S0 kb
  go_wp2_with (first
    | refine wpList_buildTo rfl 26 _ rfl (some 10) rfl z8 (by as_aux_lemma => kernel_rfl) ?_
    | (refine wpList_store_row rfl 26 _ _ rfl w.heap.size z8 rfl rfl 26 z8 V0.out (ainfo8 _ _ _ _ _ _ _ _) rfl (one8' _ _ _ _ _ _ _ _ rfl) ?_; rw [X5.out]))
  refine leaves_cons (f := 72) (args := #[.pointer (some ⟨w.heap.size, 0, none⟩), .pointer (some ⟨w.heap.size + 1, 0, none⟩)]) (by simp) (by simp [go_sem]) ?_
  refine (attrsIdle _ _ _).mono ?_
  rintro e u' w'' ⟨rfl, rfl, rfl⟩
  have r1 : (W5.setCell ⟨w.heap.size + 1, 0, none⟩ (.int .i64 1)).heap[w.heap.size]? = some (.cells z8 26 (0, 0)) := by rw [Below.heap_setCell _ _ _ _ (by show w.heap.size ≠ w.heap.size + 1; omega)]; exact A5.out
  have r2 : (W5.setCell ⟨w.heap.size + 1, 0, none⟩ (.int .i64 1)).cell? ⟨w.heap.size + 1, 0, none⟩ = some (.int .i64 1) := sc_same c5
  have hfin : Below w.heap.size w (W5.setCell ⟨w.heap.size + 1, 0, none⟩ (.int .i64 1)) := T5.out.setCell (by simp) _
  generalize W5.setCell ⟨w.heap.size + 1, 0, none⟩ (.int .i64 1) = W7 at *
  have hl : (loadVar 3 ⟨w.heap.size + 1, 0, none⟩).run Tryz.prog W7 = .ok (.int .i64 1) W7 := by simp [go_sem, r2]
  exact ⟨_, results_cc Tryz.results32 _ _ w.heap.size (w.heap.size + 1) 26 z8 (0, 0) _ _ rfl rfl r1 Tryz.underlying26 rfl ainfo hl, rfl, hfin⟩
set_option maxRecDepth 100000 in
set_option maxHeartbeats 4000000 in
theorem attrsRead_ok (s : ByteArray) (rest : List UInt8) (n0 n1 n2 n3 n4 n5 n6 : Int) (l : List S266) (w : World) (hs : s.size ≤ 1000000) (hr : rdR (tl s) = some rest) (hA : ∀ v, rdA (tl s) v = at8 n0 n1 n2 n3 n4 n5 n6 v) (hL : rdL (tl s) = l) :
    Calls Tryz.prog 32 #[.string s] w fun e w' => (∃ v, e = .returned (.tuple #[.agg (at8 n0 n1 n2 n3 n4 n5 n6 v), .int .i64 0]) ∧ Kd.R k89 89 w' w.heap.size (fun _ => True) v (l.map exTo)) ∧ Below w.heap.size w w' := by
  have hmf : ∀ (fn : Fn) (first cap : Array Value) (w : World), (Instr.makeFunc fn first cap).run Tryz.prog w = .ok (.func fn first cap) w := fun _ _ _ _ => rfl
  have kb := fun W => Lib.run_convert_string_bytes (P := Tryz.prog) W 9 93 5 s Tryz.underlying9 Tryz.underlying93 Tryz.underlying5
  obtain ⟨W0, hW0⟩ : ∃ W, ((w.alloc (.cells z8 26)).alloc (.cells #[.int .i64 0] 3)).alloc (.cells z8 139) = W := ⟨_, rfl⟩
  obtain ⟨s0, k0, k1, k2, b0⟩ := readW8 w s W0 hW0
  have o : ∀ k, k < W0.heap.size → (Lib.bytesWorld W0 5 s).heap[k]? = W0.heap[k]? := fun k hk => Lib.bytesWorld_at_old W0 _ s k hk
  have hl : Lies (Lib.bytesWorld W0 5 s) (w.heap.size + 1 + 1 + 1) 0 (tl s) := fun j b hj => by
    rw [← s0]; exact bytes_src W0 _ s j b hj
  have hz : (Lib.bytesWorld W0 5 s).heap.size = w.heap.size + 1 + 1 + 1 + 1 := by rw [Lib.bytesWorld_size, s0]
  have j0 := (o _ (by omega)).trans k0
  have j1 := (o _ (by omega)).trans k1
  have j2 := (o _ (by omega)).trans k2
  have b1 : Below w.heap.size w (Lib.bytesWorld W0 5 s) := bytes_below b0 (by omega) _ _
  have hsz : s.size = (tl s).length := (tl_length s).symm
  have C := Lib.hid (attrsBin (w.heap.size + 1 + 1) (w.heap.size + 1 + 1 + 1) (grownCap W0 s.size 0 5) (tl s) _ j2 (by omega) hl (by omega) (by rw [← hsz]; exact grownCap_ge _ _ _ _) (by omega))
  rw [← hsz, ← s0] at C
  have X0 := Lib.hid hW0
  have S0 := Lib.hid s0
  have J0 := Lib.hid j0
  have J1 := Lib.hid j1
  have B1 := Lib.hid b1
  have Z1 := Lib.hid hz
  clear hW0 s0 k0 k1 k2 b0 o hl hz j0 j1 j2 b1 hsz
  have HA := Lib.hid hA
  have HL := Lib.hid hL
  clear hA hL
  go_enter_defers Tryz.func32, Tryz.ntmps32
  go_wp2_with (first
    | (refine wpList_allocTo rfl (some 2) rfl (.pointer (some ⟨w.heap.size, 0, none⟩)) (.cells z8 26) (by as_aux_lemma => kernel_rfl) ?_)
    | (refine wpList_allocTo rfl (some 4) rfl (.pointer (some ⟨w.heap.size + 1 + 1, 0, none⟩)) (.cells z8 139) (by as_aux_lemma => kernel_rfl) ?_)
    | (refine at_dst 6 rfl ?_; rw [X0.out]))
  change Calls Tryz.prog 73 #[_, .slice (some ⟨w.heap.size + 1 + 1 + 1, 0, none⟩) s.size (grownCap (((w.alloc (.cells z8 26)).alloc (.cells #[.int .i64 0] 3)).alloc (.cells z8 139)) s.size 0 5)] (Lib.bytesWorld (((w.alloc (.cells z8 26)).alloc (.cells #[.int .i64 0] 3)).alloc (.cells z8 139)) 5 s) _
  rw [X0.out]
  have D := C.out
  rw [S0.out] at D
  refine D.mono ?_
  rintro e w1 ⟨v, ev, rfl, he, hv, hq, hu⟩
  have z0 := Z1.out
  have z1 := hu.size
  have y0 := (hu.block w.heap.size (by omega) (by omega)).trans J0.out
  have y1 := (hu.block (w.heap.size + 1) (by omega) (by omega)).trans J1.out
  have yb : Below w.heap.size w w1 := B1.out.trans ⟨hu.os, hu.tape, hu.output, hu.size, fun k hk => hu.block k (by omega) (by omega)⟩
  have he' : errOf (rdR (tl s)) ev := he
  rw [hr] at he'
  obtain rfl : ev = .nilIface := he'
  have hlL := adL_len (c32 (some (tl s))).1 (c32 (some (tl s))).2
  obtain ⟨A, c, rfl, hc, hC⟩ := extV_C hv hlL
  have hq' : w1.heap[w.heap.size + 1 + 1]? = some (.cells (rdA (tl s) (.slice A (rdL (tl s)).length c)) 139 (0, 0)) := hq
  have hC' : Kd.C k266 w1 A (rdL (tl s)).length (rdL (tl s)) := hC
  have hlL' : (rdL (tl s)).length ≤ 4294967295 := hlL
  have hc' : (rdL (tl s)).length ≤ c := hc
  rw [HA.out, HL.out] at hq'
  rw [HL.out] at hC' hlL' hc'
  have TC := Lib.hid (toldC n0 n1 n2 n3 n4 n5 n6 A l.length c l w1 rfl (by omega) hC' hc')
  have Q1 := Lib.hid hq'
  have Y0 := Lib.hid y0
  have Y1 := Lib.hid y1
  have YB := Lib.hid yb
  have zz : w.heap.size + 1 < w1.heap.size := by omega
  clear he hq hv hu hq' y0 y1 yb hC hC' hlL hlL' hc hc' C D J0 J1 B1 Z1 z0 z1 X0 S0 kb HA HL
  generalize hm : l.length = m at *
  clear hm
  go_wp2_with (refine wpList_load_row rfl 139 _ rfl (w.heap.size + 1 + 1) rfl 139 (at8 n0 n1 n2 n3 n4 n5 n6 (.slice A m c)) (0, 0) _ Q1.out Tryz.underlying139 rfl (sinfo8 _ _ _ _ _ _ _ _) ?_)
  refine TC.out.mono ?_
  rintro e w2 ⟨v, rfl, hv, hb2⟩
  have hvo : v.oneCell' = true := by
    obtain ⟨A', c', rfl⟩ := Kd.R_slice hv
    rfl
  have hR2 := Kd.R_lower (base' := w.heap.size) hv (by omega)
  have y0 := (hb2.block w.heap.size (by omega)).trans Y0.out
  have y1 := (hb2.block (w.heap.size + 1) (by omega)).trans Y1.out
  have yb : Below w.heap.size w w2 := YB.out.trans (hb2.mono (by omega))
  obtain ⟨W5, hW5⟩ : ∃ W, w2.setRow w.heap.size (at8 n0 n1 n2 n3 n4 n5 n6 v) = W := ⟨_, rfl⟩
  have a5 : W5.heap[w.heap.size]? = some (.cells (at8 n0 n1 n2 n3 n4 n5 n6 v) 26 (0, 0)) := by rw [← hW5]; exact setRow_blk y0
  have b5 : W5.heap[w.heap.size + 1]? = some (.cells #[.int .i64 0] 3 (0, 0)) := by rw [← hW5, setRow_other _ _ _ _ (by omega)]; exact y1
  have t5 : Below w.heap.size w W5 := by rw [← hW5]; exact ⟨yb.os, yb.tape, yb.output, by rw [setRow_size]; exact yb.size, fun k hk => by rw [setRow_other _ _ _ _ (by omega)]; exact yb.block k hk⟩
  have hR5 : Kd.R k89 89 ((W5.setCell ⟨w.heap.size + 1, 0, none⟩ (.int .i64 0))) w.heap.size (fun _ => True) v (l.map exTo) := by
    have h1 := Kd.R_types hR2 y0 (t := 26) (by decide)
    have h2 := Kd.R_types h1 y1 (t := 3) (by decide)
    refine Kd.R_mono (Kd.R_step h2 (fun k hk hlt => ?_)) (fun _ _ => trivial)
    rw [Below.heap_setCell _ _ _ _ (by show k ≠ w.heap.size + 1; exact hk.2), ← hW5, setRow_other _ _ _ _ (by exact hk.1.2)]
  have c5 : W5.cell? ⟨w.heap.size + 1, 0, none⟩ = some (.int .i64 0) := by rw [cell_of_blk b5]; rfl
  have f5 : W5.frozen? ⟨w.heap.size + 1, 0, none⟩ = false := frozen_of_blk b5 0
  have V0 := Lib.hid y0
  have X5 := Lib.hid hW5
  have A5 := Lib.hid a5
  have T5 := Lib.hid t5
  have R5 := Lib.hid hR5
  have HVO := Lib.hid hvo
  clear hv hb2 hR2 y0 y1 yb hW5 a5 b5 t5 hR5 TC Q1 Y0 Y1 YB zz hvo
  go_wp2_with (first
    | (refine wpList_store_row rfl 26 _ _ rfl w.heap.size (at8 n0 n1 n2 n3 n4 n5 n6 v) rfl rfl 26 z8 V0.out (ainfo8 _ _ _ _ _ _ _ _) rfl (one8' _ _ _ _ _ _ _ _ HVO.out) ?_; rw [X5.out]))
  refine leaves_cons (f := 72) (args := #[.pointer (some ⟨w.heap.size, 0, none⟩), .pointer (some ⟨w.heap.size + 1, 0, none⟩)]) (by simp) (by simp [go_sem]) ?_
  refine (attrsIdle _ _ _).mono ?_
  rintro e u' w'' ⟨rfl, rfl, rfl⟩
  have r1 : (W5.setCell ⟨w.heap.size + 1, 0, none⟩ (.int .i64 0)).heap[w.heap.size]? = some (.cells (at8 n0 n1 n2 n3 n4 n5 n6 v) 26 (0, 0)) := by rw [Below.heap_setCell _ _ _ _ (by show w.heap.size ≠ w.heap.size + 1; omega)]; exact A5.out
  have r2 : (W5.setCell ⟨w.heap.size + 1, 0, none⟩ (.int .i64 0)).cell? ⟨w.heap.size + 1, 0, none⟩ = some (.int .i64 0) := sc_same c5
  have hfin : Below w.heap.size w (W5.setCell ⟨w.heap.size + 1, 0, none⟩ (.int .i64 0)) := T5.out.setCell (by simp) _
  have hR7 := R5.out
  generalize W5.setCell ⟨w.heap.size + 1, 0, none⟩ (.int .i64 0) = W7 at *
  have hl : (loadVar 3 ⟨w.heap.size + 1, 0, none⟩).run Tryz.prog W7 = .ok (.int .i64 0) W7 := by simp [go_sem, r2]
  exact ⟨_, results_cc Tryz.results32 _ _ w.heap.size (w.heap.size + 1) 26 (at8 n0 n1 n2 n3 n4 n5 n6 v) (0, 0) _ _ rfl rfl r1 Tryz.underlying26 rfl (ainfo8 _ _ _ _ _ _ _ _) hl, ⟨v, rfl, hR7⟩, hfin⟩
end Go.Proofs.YtmenkckgpiafiaaGreat
namespace Go.Proofs.YtmenkckgpiafiaaGreat
open Go.RowKit Go.Great Go.Proofs.YtmenkckgpiafiaaGreatW.PrintWords Go.Proofs.YtmenkckgpiafiaaGreatW.PrintLast Go.Proofs.YtmenkckgpiafiaaGreatW.PrintMore Go.Proofs.YtmenkckgpiafiaaGreat.KK
/-- A reader eats just these bytes, and has too little with less. -/
structure Dec (B : List UInt8) (d : Option (List UInt8) → Option (List UInt8)) : Prop where
  eats : ∀ t, d (some (B ++ t)) = some t
  short : ∀ n, n < B.length → d (some (B.take n)) = none
  none : d none = none
theorem Dec.id : Dec [] (fun r => r) := ⟨fun _ => rfl, fun n h => by simp at h, rfl⟩
theorem c32_short (l : List UInt8) (h : ¬ 4 ≤ l.length) : c32 (some l) = (0, none) := by simp [c32, h]
section
variable {a b c d e f g : Int} {l : List S266}
end
end Go.Proofs.YtmenkckgpiafiaaGreat
namespace Go.Proofs.YtmenkckgpiafiaaGreat
open Go.RowKit Go.Great Go.Proofs.YtmenkckgpiafiaaGreatW.PrintWords Go.Proofs.YtmenkckgpiafiaaGreatW.PrintLast Go.Proofs.YtmenkckgpiafiaaGreatW.PrintMore Go.Proofs.YtmenkckgpiafiaaGreat.KK
theorem bs_size (a : List UInt8) : (bs a).size = a.length := by simp [bs, ByteArray.size]
/-- The reference's extensions as the library's. -/
def exSp (e : S147) : S266 := ⟨e.f0, e.f1⟩
end Go.Proofs.YtmenkckgpiafiaaGreat
namespace Go.Proofs.YtmenkckgpiafiaaGreat
open Go.RowKit Go.Great Go.Proofs.YtmenkckgpiafiaaGreatW.PrintWords Go.Proofs.YtmenkckgpiafiaaGreatW.PrintLast Go.Proofs.YtmenkckgpiafiaaGreatW.PrintMore Go.Proofs.YtmenkckgpiafiaaGreat.KK
theorem pinfo8 (a b c d e f g : Int) (v : Value) : (Tryz.prog.info? 40).map (·.size) = some (at8 a b c d e f g v).size := by kernel_rfl
end Go.Proofs.YtmenkckgpiafiaaGreat
namespace Go.Proofs.YtmenkckgpiafiaaGreat
open Go.RowKit Go.Great Go.Proofs.YtmenkckgpiafiaaGreatW.PrintWords Go.Proofs.YtmenkckgpiafiaaGreatW.PrintLast Go.Proofs.YtmenkckgpiafiaaGreatW.PrintMore Go.Proofs.YtmenkckgpiafiaaGreat.KK
/-- The reference's attributes lie in a block of the call's own. -/
def SpB (w wx : World) (cs : Array Value) : Prop := Below w.heap.size w wx ∧ wx.heap[w.heap.size]? = some (.cells cs 40 (0, 0))
theorem SpB.step {w wx wy : World} {cs : Array Value} (h : SpB w wx cs) (hb : Below wx.heap.size wx wy) : SpB w wy cs := ⟨h.1.trans (hb.mono h.1.size), (hb.block _ (lt_of_blk h.2)).trans h.2⟩
theorem SpB.left {w wx : World} {cs : Array Value} (h : SpB w wx cs) : Below w.heap.size w wx := h.1
theorem SpB.drew {w wx : World} {cs : Array Value} (h : SpB w wx cs) : SpB w wx.drew cs := And.intro (below_drew h.1) h.2
end Go.Proofs.YtmenkckgpiafiaaGreat
namespace Go.Proofs.YtmenkckgpiafiaaGreat
open Go.RowKit Go.Great Go.Proofs.YtmenkckgpiafiaaGreatW.PrintWords Go.Proofs.YtmenkckgpiafiaaGreatW.PrintLast Go.Proofs.YtmenkckgpiafiaaGreatW.PrintMore Go.Proofs.YtmenkckgpiafiaaGreat.KK
/-- The reader's cells: what is left, short, open. -/
def rdC (r : Option (List UInt8)) (op : Bool) : Array Value :=
  match r with
  | some l => #[.string (bs l), .bool false, .bool op]
  | none => #[.string ⟨#[]⟩, .bool true, .bool op]
/-- The number of the first bytes. -/
def vn (l : List UInt8) : Nat → Int
  | 0 => 0
  | k + 1 => vn l k * 256 + gi l k
theorem vn_range (l : List UInt8) (k : Nat) (hk : k ≤ 7) : 0 ≤ vn l k ∧ vn l k < 72057594037927936 := by
  have g := gi_range l
  have h0 := g 0
  have h1 := g 1
  have h2 := g 2
  have h3 := g 3
  have h4 := g 4
  have h5 := g 5
  have h6 := g 6
  rcases (by omega : k = 0 ∨ k = 1 ∨ k = 2 ∨ k = 3 ∨ k = 4 ∨ k = 5 ∨ k = 6 ∨ k = 7) with rfl | rfl | rfl | rfl | rfl | rfl | rfl | rfl <;> simp only [vn] <;> omega
theorem vn4 (l : List UInt8) : vn l 4 = rd32 l := by simp only [vn, rd32]; omega
theorem vn8 (l : List UInt8) : vn l 8 = rd64 l := by
  have e : ∀ i, gi (l.drop 4) i = gi l (4 + i) := fun i => by
    unfold gi
    rw [List.getD_eq_getElem?_getD, List.getD_eq_getElem?_getD, List.getElem?_drop]
  simp only [vn, rd64, rd32, e, Nat.reduceAdd]
  omega
theorem or_byte (x y : Int) (hx0 : 0 ≤ x) (hx1 : x < 72057594037927936) (hy0 : 0 ≤ y) (hy1 : y ≤ 255) : bits .or .u64 (x * 256) y = x * 256 + y :=
  bits_join .u64 64 (by decide) wraps_u64 8 (x * 256) y (by omega) (by omega) (by omega) hy0 (by omega) (by omega)
set_option maxRecDepth 5000 in
set_option maxHeartbeats 1600000 in
theorem numNone (g : Nat) (r : Option (List UInt8)) (op : Bool) (n : Nat) (w : World) (hg : w.heap[g]? = some (.cells (rdC r op) 143 (0, 0))) (hn : 0 < n) (hn8 : n ≤ 8) (hr : ∀ l, r = some l → l.length < n) :
    Calls Tryz.prog 94 #[.pointer (some ⟨g, 0, none⟩), .int .i64 (n : Int)] w fun e w' => e = .returned (.int .u64 0) ∧ w'.heap[g]? = some (.cells (rdC none op) 143 (0, 0)) ∧ UpdB (fun k => k = g) w w' := by
  obtain ⟨s, b, hs, hlt⟩ : ∃ s b, rdC r op = #[.string s, .bool b, .bool op] ∧ s.size < n := by
    cases r with
    | none => exact ⟨_, _, rfl, hn⟩
    | some l => exact ⟨_, _, rfl, by rw [bs_size]; exact hr l rfl⟩
  rw [hs] at hg
  clear hs hr
  have c0 : w.cell? ⟨g, 0, none⟩ = some (.string s) := by rw [cell_of_blk hg]; rfl
  have c1 : w.cell? ⟨g, 1, none⟩ = some (.bool b) := by rw [cell_of_blk hg]; rfl
  have f0 := frozen_of_blk hg 0
  have f1 := frozen_of_blk hg 1
  have d0 : decide ((s.size : Int) < (n : Int)) = true := by simp; omega
  have d1 : (s.size : Int) < (n : Int) := by omega
  have hfin : ((w.setCell ⟨g, 1, none⟩ (.bool true)).setCell ⟨g, 0, none⟩ (.string ⟨#[]⟩)).heap[g]? = some (.cells (rdC none op) 143 (0, 0)) := (setCell_blk (i := 0) (setCell_blk (i := 1) hg (.bool true)) (.string ⟨#[]⟩)).trans rfl
  have hup : UpdB (fun k => k = g) w ((w.setCell ⟨g, 1, none⟩ (.bool true)).setCell ⟨g, 0, none⟩ (.string ⟨#[]⟩)) := ((UpdB.refl (fun k => k = g) w).setCell (a := ⟨g, 1, none⟩) rfl _).setCell (a := ⟨g, 0, none⟩) rfl _
  have HF := Lib.hid hfin
  have HU := Lib.hid hup
  clear hg hfin hup hlt
  go_enter Tryz.func94, Tryz.ntmps94
  go_wp2_with fail
  go_ret
  exact ⟨rfl, HF.out, HU.out⟩
set_option maxRecDepth 5000 in
set_option maxHeartbeats 1600000 in
theorem numSome (g : Nat) (l : List UInt8) (op : Bool) (n : Nat) (w : World) (hg : w.heap[g]? = some (.cells (rdC (some l) op) 143 (0, 0))) (hn8 : n ≤ 8) (hr : n ≤ l.length) (hl : l.length ≤ 1000000) :
    Calls Tryz.prog 94 #[.pointer (some ⟨g, 0, none⟩), .int .i64 (n : Int)] w fun e w' => e = .returned (.int .u64 (vn l n)) ∧ w'.heap[g]? = some (.cells (rdC (some (l.drop n)) op) 143 (0, 0)) ∧ UpdB (fun k => k = g) w w' := by
  have c0 : w.cell? ⟨g, 0, none⟩ = some (.string (bs l)) := by rw [cell_of_blk hg]; rfl
  have f0 := frozen_of_blk hg 0
  have hsz : (bs l).size = l.length := bs_size l
  have d1 : ¬ ((bs l).size : Int) < (n : Int) := by omega
  have hfin : (w.setCell ⟨g, 0, none⟩ (.string (bs (l.drop n)))).heap[g]? = some (.cells (rdC (some (l.drop n)) op) 143 (0, 0)) := (setCell_blk (i := 0) hg _).trans rfl
  have hup : UpdB (fun k => k = g) w (w.setCell ⟨g, 0, none⟩ (.string (bs (l.drop n)))) := (UpdB.refl (fun k => k = g) w).setCell (a := ⟨g, 0, none⟩) rfl _
  have HF := Lib.hid hfin
  have HU := Lib.hid hup
  clear hg hfin hup
  go_enter Tryz.func94, Tryz.ntmps94
  go_wp2_with fail
  go_loopw [5, 21] (fun x i wr => wr = w ∧ ∃ k : Nat, k ≤ n ∧ i = .int .i64 (k : Int) ∧ x = .int .u64 (vn l k)) (fun _ i _ => n - (intOf i).toNat)
  case atStart => exact ⟨rfl, 0, Nat.zero_le _, rfl, rfl⟩
  case round =>
    obtain ⟨rfl, k, hk, rfl, rfl⟩ := hrel
    by_cases hlt : k < n
    · have hv := vn_range l k (by omega)
      have hb := gi_range l k
      have w1 : IntKind.u64.wrap (vn l k * 256) = vn l k * 256 := wraps_u64 _ (by omega) (by omega)
      have w2 := or_byte (vn l k) (gi l k) hv.1 hv.2 hb.1 hb.2
      have hkz : (k : Int) < ((bs l).size : Int) := by omega
      have hgi : ∀ h : k < (bs l).size, ((bs l)[k].toNat : Int) = gi l k := fun h => by
        have hkl : k < l.length := by omega
        unfold gi
        rw [List.getD_eq_getElem?_getD, List.getElem?_eq_getElem hkl]
        rfl
      have w3 : ∀ h : k < (bs l).size, IntKind.u64.wrap ((bs l)[k].toNat : Int) = gi l k := fun h => by rw [hgi h]; exact wraps_u64 _ (by omega) (by omega)
      have HQ := Lib.hid w3
      have W2 := Lib.hid w2
      clear hgi w3 w2
      go_wp2_with fail
      go_roundw
      case rel => exact ⟨trivial, k + 1, by omega, by go_num, by rw [HQ.out, W2.out]; rfl⟩
      case measure => simp [intOf]; omega
    · obtain rfl : k = n := by omega
      have hk0 : (0 : Int) ≤ (k : Int) := by omega
      have hk1 : (k : Int) ≤ ((bs l).size : Int) := by omega
      have hex : (bs l).extract k l.length = bs (l.drop k) := tl_inj (by rw [tl_extract, tl_bs, tl_bs, List.take_length])
      go_wp2_with fail
      go_ret
      exact ⟨rfl, HF.out, HU.out⟩
/-- What the reader's number is, as the library's. -/
theorem num4C (g : Nat) (r : Option (List UInt8)) (op : Bool) (w : World) (hg : w.heap[g]? = some (.cells (rdC r op) 143 (0, 0))) (hl : ∀ l, r = some l → l.length ≤ 1000000) :
    Calls Tryz.prog 94 #[.pointer (some ⟨g, 0, none⟩), .int .i64 4] w fun e w' => e = .returned (.int .u64 (c32 r).1) ∧ w'.heap[g]? = some (.cells (rdC (c32 r).2 op) 143 (0, 0)) ∧ UpdB (fun k => k = g) w w' := by
  by_cases h : ∀ l, r = some l → l.length < 4
  · have e : c32 r = (0, none) := by
      cases r with
      | none => rfl
      | some l => exact c32_short l (by have := h l rfl; omega)
    rw [e]
    exact numNone g r op 4 w hg (by omega) (by omega) h
  · cases r with
    | none => exact absurd (fun l h => by cases h) h
    | some l =>
      have h4 : 4 ≤ l.length := by
        refine Nat.le_of_not_lt (fun h5 => h (fun m hm => ?_))
        cases hm
        exact h5
      have e : c32 (some l) = (rd32 l, some (l.drop 4)) := by simp [c32, h4]
      rw [e, ← vn4]
      exact numSome g l op 4 w hg (by omega) h4 (hl l rfl)
theorem num8C (g : Nat) (r : Option (List UInt8)) (op : Bool) (w : World) (hg : w.heap[g]? = some (.cells (rdC r op) 143 (0, 0))) (hl : ∀ l, r = some l → l.length ≤ 1000000) :
    Calls Tryz.prog 94 #[.pointer (some ⟨g, 0, none⟩), .int .i64 8] w fun e w' => e = .returned (.int .u64 (c64 r).1) ∧ w'.heap[g]? = some (.cells (rdC (c64 r).2 op) 143 (0, 0)) ∧ UpdB (fun k => k = g) w w' := by
  by_cases h : ∀ l, r = some l → l.length < 8
  · have e : c64 r = (0, none) := by
      cases r with
      | none => rfl
      | some l => have := h l rfl; simp [c64]; omega
    rw [e]
    exact numNone g r op 8 w hg (by omega) (by omega) h
  · cases r with
    | none => exact absurd (fun l h => by cases h) h
    | some l =>
      have h4 : 8 ≤ l.length := by
        refine Nat.le_of_not_lt (fun h5 => h (fun m hm => ?_))
        cases hm
        exact h5
      have e : c64 (some l) = (rd64 l, some (l.drop 8)) := by simp [c64, h4]
      rw [e, ← vn8]
      exact numSome g l op 8 w hg (by omega) h4 (hl l rfl)
end Go.Proofs.YtmenkckgpiafiaaGreat
namespace Go.Proofs.YtmenkckgpiafiaaGreat
open Go.RowKit Go.Great Go.Proofs.YtmenkckgpiafiaaGreatW.PrintWords Go.Proofs.YtmenkckgpiafiaaGreatW.PrintLast Go.Proofs.YtmenkckgpiafiaaGreatW.PrintMore Go.Proofs.YtmenkckgpiafiaaGreat.KK
def smallR (r : Option (List UInt8)) : Prop := ∀ l, r = some l → l.length ≤ 1000000
theorem small32 {r : Option (List UInt8)} (h : smallR r) : smallR (c32 r).2 := by
  intro l hl
  cases r with
  | none => cases hl
  | some m =>
    have := h m rfl
    simp only [c32] at hl
    split at hl
    · obtain rfl := Option.some.inj hl
      rw [List.length_drop]; omega
    · cases hl
theorem small64 {r : Option (List UInt8)} (h : smallR r) : smallR (c64 r).2 := by
  intro l hl
  cases r with
  | none => cases hl
  | some m =>
    have := h m rfl
    simp only [c64] at hl
    split at hl
    · obtain rfl := Option.some.inj hl
      rw [List.length_drop]; omega
    · cases hl
theorem smallB {r : Option (List UInt8)} (h : smallR r) : smallR (cB r).2 := by
  have h2 := small32 h
  intro l hl
  unfold cB at hl
  generalize c32 r = q at hl h2
  obtain ⟨x, r1⟩ := q
  cases r1 with
  | none => cases hl
  | some m =>
    have := h2 m rfl
    dsimp only at hl
    split at hl
    · obtain rfl := Option.some.inj hl
      rw [List.length_drop]; omega
    · cases hl
theorem c32_zero {r : Option (List UInt8)} (h : (c32 r).2 = none) : (c32 r).1 = 0 := by
  cases r with
  | none => rfl
  | some l =>
    simp only [c32] at h ⊢
    split at h
    · cases h
    · rw [if_neg (by assumption)]
set_option maxRecDepth 5000 in
set_option maxHeartbeats 1600000 in
theorem textC (g : Nat) (r : Option (List UInt8)) (op : Bool) (w : World) (hg : w.heap[g]? = some (.cells (rdC r op) 143 (0, 0))) (hs : smallR r) :
    Calls Tryz.prog 93 #[.pointer (some ⟨g, 0, none⟩)] w fun e w' => e = .returned (.string (bs (cB r).1)) ∧ w'.heap[g]? = some (.cells (rdC (cB r).2 op) 143 (0, 0)) ∧ UpdB (fun k => k = g) w w' := by
  have C := Lib.hid (num4C g r op w hg hs)
  have hs2 := small32 hs
  have hz := @c32_zero r
  have hx := c32_range r
  have hcB : cB r = (match c32 r with | (x, some l) => if x ≤ (l.length : Int) then (l.take x.toNat, some (l.drop x.toNat)) else ([], none) | (_, none) => ([], none)) := rfl
  clear hg hs
  generalize c32 r = p at *
  obtain ⟨x, r1⟩ := p
  obtain ⟨hx0, hx1⟩ := hx
  dsimp only at hx0 hx1 hz hs2 C
  cases r1 with
  | none =>
    obtain rfl : x = 0 := hz rfl
    rw [hcB]
    clear hcB hz
    go_enter Tryz.func93, Tryz.ntmps93
    go_wp2_with fail
    refine C.out.mono ?_
    rintro e w1 ⟨rfl, hg1, hu1⟩
    have c0 : w1.cell? ⟨g, 0, none⟩ = some (.string ⟨#[]⟩) := by rw [cell_of_blk hg1]; rfl
    have f0 := frozen_of_blk hg1 0
    have HF := Lib.hid (show (w1.setCell ⟨g, 0, none⟩ (.string ⟨#[]⟩)).heap[g]? = some (.cells (rdC none op) 143 (0, 0)) from (setCell_blk (i := 0) hg1 (.string ⟨#[]⟩)).trans rfl)
    have HU := Lib.hid (hu1.setCell (a := ⟨g, 0, none⟩) rfl (.string ⟨#[]⟩))
    clear hg1 hu1 C
    have z0 : (⟨#[]⟩ : ByteArray).size = 0 := rfl
    go_wp2_with fail
    go_ret
    exact ⟨rfl, HF.out, HU.out⟩
  | some l =>
    have hl := hs2 l rfl
    have hsz := bs_size l
    clear hz hs2
    by_cases hle : x ≤ (l.length : Int)
    · rw [hcB, show (match ((x, some l) : Int × Option (List UInt8)) with | (x, some l) => if x ≤ (l.length : Int) then (l.take x.toNat, some (l.drop x.toNat)) else ([], none) | (_, none) => ([], none)) = (l.take x.toNat, some (l.drop x.toNat)) from if_pos hle]
      clear hcB
      obtain ⟨n, rfl⟩ : ∃ n : Nat, x = (n : Int) := ⟨x.toNat, by omega⟩
      rw [Int.toNat_natCast]
      have hn : n ≤ l.length := by omega
      have hex : (bs l).extract n l.length = bs (l.drop n) := tl_inj (by rw [tl_extract, tl_bs, tl_bs, List.take_length])
      have hex0 : (bs l).extract 0 n = bs (l.take n) := tl_inj (by rw [tl_extract, tl_bs, tl_bs, List.drop_zero])
      have hk1 : (n : Int) ≤ ((bs l).size : Int) := by omega
      have hk0 : (0 : Int) ≤ (n : Int) := by omega
      have ul : IntKind.u64.wrap (l.length : Int) = (l.length : Int) := wraps_u64 _ (by omega) (by omega)
      have d1 : ¬ ((l.length : Int) < (n : Int)) := by omega
      go_enter Tryz.func93, Tryz.ntmps93
      go_wp2_with fail
      refine C.out.mono ?_
      rintro e w1 ⟨rfl, hg1, hu1⟩
      have c0 : w1.cell? ⟨g, 0, none⟩ = some (.string (bs l)) := by rw [cell_of_blk hg1]; rfl
      have f0 := frozen_of_blk hg1 0
      have HF := Lib.hid (show (w1.setCell ⟨g, 0, none⟩ (.string (bs (l.drop n)))).heap[g]? = some (.cells (rdC (some (l.drop n)) op) 143 (0, 0)) from (setCell_blk (i := 0) hg1 (.string (bs (l.drop n)))).trans rfl)
      have HU := Lib.hid (hu1.setCell (a := ⟨g, 0, none⟩) rfl (.string (bs (l.drop n))))
      clear hg1 hu1 C hx0 hx1 hle
      go_wp2_with fail
      go_ret
      exact ⟨rfl, HF.out, HU.out⟩
    · rw [hcB, show (match ((x, some l) : Int × Option (List UInt8)) with | (x, some l) => if x ≤ (l.length : Int) then (l.take x.toNat, some (l.drop x.toNat)) else ([], none) | (_, none) => ([], none)) = ([], none) from if_neg hle]
      clear hcB
      have ul : IntKind.u64.wrap (l.length : Int) = (l.length : Int) := wraps_u64 _ (by omega) (by omega)
      have d1 : (l.length : Int) < x := by omega
      go_enter Tryz.func93, Tryz.ntmps93
      go_wp2_with fail
      refine C.out.mono ?_
      rintro e w1 ⟨rfl, hg1, hu1⟩
      have c0 : w1.cell? ⟨g, 0, none⟩ = some (.string (bs l)) := by rw [cell_of_blk hg1]; rfl
      have c1 : w1.cell? ⟨g, 1, none⟩ = some (.bool false) := by rw [cell_of_blk hg1]; rfl
      have f0 := frozen_of_blk hg1 0
      have f1 := frozen_of_blk hg1 1
      have HF := Lib.hid (show ((w1.setCell ⟨g, 1, none⟩ (.bool true)).setCell ⟨g, 0, none⟩ (.string ⟨#[]⟩)).heap[g]? = some (.cells (rdC none op) 143 (0, 0)) from (setCell_blk (i := 0) (setCell_blk (i := 1) hg1 (.bool true)) (.string ⟨#[]⟩)).trans rfl)
      have HU := Lib.hid ((hu1.setCell (a := ⟨g, 1, none⟩) rfl (.bool true)).setCell (a := ⟨g, 0, none⟩) rfl (.string ⟨#[]⟩))
      clear hg1 hu1 C hx0 hx1 hle
      go_wp2_with fail
      go_ret
      exact ⟨rfl, HF.out, HU.out⟩
/-- What count says of a number and of what is left: it is let through. -/
def cntOk (x : Int) (r : Option (List UInt8)) : Bool := decide (x ≤ 1000) && decide (x * 8 ≤ ((r.getD []).length : Int))
set_option maxRecDepth 5000 in
set_option maxHeartbeats 1600000 in
theorem countC (g : Nat) (r : Option (List UInt8)) (op : Bool) (w : World) (hg : w.heap[g]? = some (.cells (rdC r op) 143 (0, 0))) (hs : smallR r) :
    Calls Tryz.prog 124 #[.pointer (some ⟨g, 0, none⟩), .int .i64 8] w fun e w' => (cntOk (c32 r).1 (c32 r).2 = true → e = .returned (.int .i64 (c32 r).1) ∧ w'.heap[g]? = some (.cells (rdC (c32 r).2 op) 143 (0, 0))) ∧
      (cntOk (c32 r).1 (c32 r).2 = false → e = .returned (.int .i64 0) ∧ w'.heap[g]? = some (.cells (rdC (c32 r).2 true) 143 (0, 0))) ∧ UpdB (fun k => k = g) w w' := by
  have C := Lib.hid (num4C g r op w hg hs)
  have hs2 := small32 hs
  have hx := c32_range r
  clear hg hs
  generalize c32 r = p at *
  obtain ⟨x, r1⟩ := p
  obtain ⟨hx0, hx1⟩ := hx
  dsimp only at hx0 hx1 hs2 C ⊢
  obtain ⟨s, b, hsb, hsz, hl⟩ : ∃ s b, (∀ op, rdC r1 op = #[.string s, .bool b, .bool op]) ∧ s.size = (r1.getD []).length ∧ s.size ≤ 1000000 := by
    cases r1 with
    | none => exact ⟨_, _, fun _ => rfl, rfl, by decide⟩
    | some l => exact ⟨_, _, fun _ => rfl, bs_size l, by rw [bs_size]; exact hs2 l rfl⟩
  simp only [hsb] at C ⊢
  unfold cntOk
  rw [← hsz]
  clear hsb hsz hs2
  have ux : IntKind.u64.wrap (x * 8) = x * 8 := wraps_u64 _ (by omega) (by omega)
  have us : IntKind.u64.wrap (s.size : Int) = (s.size : Int) := wraps_u64 _ (by omega) (by omega)
  have ui : IntKind.i64.wrap x = x := IntWalk.i64_in _ (by omega)
  by_cases h1 : x ≤ 1000
  · by_cases h2 : x * 8 ≤ (s.size : Int)
    · have d1 : ¬ ((1000 : Int) < x) := by omega
      have d2 : ¬ ((s.size : Int) < x * 8) := by omega
      have d3 : decide ((1000 : Int) < x) = false := by simp; omega
      have d4 : decide ((s.size : Int) < x * 8) = false := by simp; omega
      have H := Lib.hid (show (decide (x ≤ 1000) && decide (x * 8 ≤ (s.size : Int))) = true by simp [h1, h2])
      clear h1 h2 hx0 hx1 hl
      go_enter Tryz.func124, Tryz.ntmps124
      go_wp2_with fail
      refine C.out.mono ?_
      rintro e w1 ⟨rfl, hg1, hu1⟩
      have c0 : w1.cell? ⟨g, 0, none⟩ = some (.string s) := by rw [cell_of_blk hg1]; rfl
      have HF := Lib.hid hg1
      have HU := Lib.hid hu1
      clear hg1 hu1 C
      go_wp2_with fail
      go_ret
      exact ⟨fun _ => ⟨rfl, HF.out⟩, (fun h => by rw [H.out] at h; cases h), HU.out⟩
    · have d1 : ¬ ((1000 : Int) < x) := by omega
      have d2 : ((s.size : Int) < x * 8) := by omega
      have d3 : decide ((1000 : Int) < x) = false := by simp; omega
      have d4 : decide ((s.size : Int) < x * 8) = true := by simp; omega
      have H := Lib.hid (show (decide (x ≤ 1000) && decide (x * 8 ≤ (s.size : Int))) = false by simp [h2])
      clear h1 h2 hx0 hx1 hl
      go_enter Tryz.func124, Tryz.ntmps124
      go_wp2_with fail
      refine C.out.mono ?_
      rintro e w1 ⟨rfl, hg1, hu1⟩
      have c0 : w1.cell? ⟨g, 0, none⟩ = some (.string s) := by rw [cell_of_blk hg1]; rfl
      have c2 : w1.cell? ⟨g, 2, none⟩ = some (.bool op) := by rw [cell_of_blk hg1]; rfl
      have f2 := frozen_of_blk hg1 2
      have HF := Lib.hid (show (w1.setCell ⟨g, 2, none⟩ (.bool true)).heap[g]? = some (.cells #[.string s, .bool b, .bool true] 143 (0, 0)) from (setCell_blk (i := 2) hg1 (.bool true)).trans rfl)
      have HU := Lib.hid (hu1.setCell (a := ⟨g, 2, none⟩) rfl (.bool true))
      clear hg1 hu1 C
      go_wp2_with fail
      go_ret
      exact ⟨(fun h => by rw [H.out] at h; cases h), fun _ => ⟨rfl, HF.out⟩, HU.out⟩
  · have d1 : ((1000 : Int) < x) := by omega
    have d3 : decide ((1000 : Int) < x) = true := by simp; omega
    have H := Lib.hid (show (decide (x ≤ 1000) && decide (x * 8 ≤ (s.size : Int))) = false by simp [h1])
    clear h1 hx0 hx1 hl
    go_enter Tryz.func124, Tryz.ntmps124
    go_wp2_with fail
    refine C.out.mono ?_
    rintro e w1 ⟨rfl, hg1, hu1⟩
    have c2 : w1.cell? ⟨g, 2, none⟩ = some (.bool op) := by rw [cell_of_blk hg1]; rfl
    have f2 := frozen_of_blk hg1 2
    have HF := Lib.hid (show (w1.setCell ⟨g, 2, none⟩ (.bool true)).heap[g]? = some (.cells #[.string s, .bool b, .bool true] 143 (0, 0)) from (setCell_blk (i := 2) hg1 (.bool true)).trans rfl)
    have HU := Lib.hid (hu1.setCell (a := ⟨g, 2, none⟩) rfl (.bool true))
    clear hg1 hu1 C
    go_wp2_with fail
    go_ret
    exact ⟨(fun h => by rw [H.out] at h; cases h), fun _ => ⟨rfl, HF.out⟩, HU.out⟩
end Go.Proofs.YtmenkckgpiafiaaGreat
namespace Go.Proofs.YtmenkckgpiafiaaGreat
open Go.RowKit Go.Great Go.Proofs.YtmenkckgpiafiaaGreatW.PrintWords Go.Proofs.YtmenkckgpiafiaaGreatW.PrintLast Go.Proofs.YtmenkckgpiafiaaGreatW.PrintMore Go.Proofs.YtmenkckgpiafiaaGreat.KK
structure RB (w0 w : World) (g p q : Nat) (r : Option (List UInt8)) (op : Bool) (cs : Array Value) (v : Value) (done : List S147) : Prop where
  rd : w.heap[g]? = some (.cells (rdC r op) 143 (0, 0))
  bp : w.heap[p]? = some (.cells z8 40 (0, 0))
  bq : w.heap[q]? = some (.cells cs 40 (0, 0))
  row : Kd.R k147 147 w w0.heap.size (fun k => k ≠ g) v done
  up : UpdB (fun k => k = g) w0 w
  sm : smallR r
  hp : w0.heap.size ≤ p
  hq : w0.heap.size ≤ q
  hg : g < w0.heap.size
  hpq : p ≠ q
section
variable {w0 w w1 : World} {g p q : Nat} {r r1 : Option (List UInt8)} {op op1 : Bool} {cs : Array Value} {v : Value} {done : List S147}
theorem RB.called (h : RB w0 w g p q r op cs v done) (hd : w1.heap[g]? = some (.cells (rdC r1 op1) 143 (0, 0))) (hu : UpdB (fun k => k = g) w w1) (hs : smallR r1) : RB w0 w1 g p q r1 op1 cs v done := by
  have h1 := h.hp
  have h2 := h.hq
  have h3 := h.hg
  exact ⟨hd, (hu.block _ (lt_of_blk h.bp) (by omega)).trans h.bp, (hu.block _ (lt_of_blk h.bq) (by omega)).trans h.bq, Kd.R_step h.row (fun k hk hlt => hu.block k hlt hk), h.up.trans hu, hs, h1, h2, h3, h.hpq⟩
theorem RB.num4 (h : RB w0 w g p q r op cs v done) : Calls Tryz.prog 94 #[.pointer (some ⟨g, 0, none⟩), .int .i64 4] w fun e w' => e = .returned (.int .u64 (c32 r).1) ∧ RB w0 w' g p q (c32 r).2 op cs v done :=
  (num4C g r op w h.rd h.sm).mono fun _ _ ⟨he, hd, hu⟩ => ⟨he, h.called hd hu (small32 h.sm)⟩
theorem RB.num8 (h : RB w0 w g p q r op cs v done) : Calls Tryz.prog 94 #[.pointer (some ⟨g, 0, none⟩), .int .i64 8] w fun e w' => e = .returned (.int .u64 (c64 r).1) ∧ RB w0 w' g p q (c64 r).2 op cs v done :=
  (num8C g r op w h.rd h.sm).mono fun _ _ ⟨he, hd, hu⟩ => ⟨he, h.called hd hu (small64 h.sm)⟩
theorem RB.text (h : RB w0 w g p q r op cs v done) : Calls Tryz.prog 93 #[.pointer (some ⟨g, 0, none⟩)] w fun e w' => e = .returned (.string (bs (cB r).1)) ∧ RB w0 w' g p q (cB r).2 op cs v done :=
  (textC g r op w h.rd h.sm).mono fun _ _ ⟨he, hd, hu⟩ => ⟨he, h.called hd hu (smallB h.sm)⟩
theorem RB.count (h : RB w0 w g p q r op cs v done) : Calls Tryz.prog 124 #[.pointer (some ⟨g, 0, none⟩), .int .i64 8] w fun e w' => (cntOk (c32 r).1 (c32 r).2 = true → e = .returned (.int .i64 (c32 r).1) ∧ RB w0 w' g p q (c32 r).2 op cs v done) ∧ (cntOk (c32 r).1 (c32 r).2 = false → e = .returned (.int .i64 0) ∧ RB w0 w' g p q (c32 r).2 true cs v done) :=
  (countC g r op w h.rd h.sm).mono fun _ _ ⟨h1, h2, hu⟩ => ⟨fun h0 => ⟨(h1 h0).1, h.called (h1 h0).2 hu (small32 h.sm)⟩, fun h0 => ⟨(h2 h0).1, h.called (h2 h0).2 hu (small32 h.sm)⟩⟩
theorem UpdB.setNew {ks : Nat → Prop} {a : Addr} (h : UpdB ks w0 w) (ha : w0.heap.size ≤ a.block) (u : Value) : UpdB ks w0 (w.setCell a u) :=
  ⟨h.os, h.tape, h.output, by have := h.size; simpa [World.setCell] using this, fun k hk e => (Below.heap_setCell _ _ _ _ (by omega)).trans (h.block k hk e)⟩
theorem RB.set (h : RB w0 w g p q r op cs v done) (i : Nat) (u : Value) : RB w0 (w.setCell ⟨q, i, none⟩ u) g p q r op (cs.setIfInBounds i u) v done := by
  have h1 := h.hp
  have h2 := h.hq
  have h3 := h.hg
  have h4 := h.hpq
  exact ⟨(Below.heap_setCell _ _ _ _ (by show g ≠ q; omega)).trans h.rd, (Below.heap_setCell _ _ _ _ h4).trans h.bp, setCell_blk h.bq u, Kd.R_set h.row h.bq (by decide) i u, h.up.setNew h2 u, h.sm, h1, h2, h3, h4⟩
theorem RB.alloc (h : RB w0 w g p q r op cs v done) (o : Obj) : RB w0 (w.alloc o) g p q r op cs v done :=
  ⟨(heap_alloc_old _ _ (lt_of_blk h.rd)).trans h.rd, (heap_alloc_old _ _ (lt_of_blk h.bp)).trans h.bp, (heap_alloc_old _ _ (lt_of_blk h.bq)).trans h.bq, Kd.R_alloc h.row o, h.up.trans ⟨rfl, rfl, rfl, by simp, fun k hk _ => heap_alloc_old _ _ hk⟩, h.sm, h.hp, h.hq, h.hg, h.hpq⟩
theorem RB.drew (h : RB w0 w g p q r op cs v done) : RB w0 w.drew g p q r op cs v done :=
  ⟨h.rd, h.bp, h.bq, Kd.R_drew h.row, h.up.trans ⟨rfl, rfl, rfl, Nat.le_refl _, fun _ _ _ => rfl⟩, h.sm, h.hp, h.hq, h.hg, h.hpq⟩
theorem RB.grown {v1 : Value} {done1 : List S147} (h : RB w0 w g p q r op cs v done) (hR : Kd.R k147 147 w1 w0.heap.size (fun k => k ≠ g) v1 done1) (hg : w.grownBy w1 v.ownBlock) : RB w0 w1 g p q r op cs v1 done1 := by
  have h1 := h.hp
  have h2 := h.hq
  have h3 := h.hg
  have np : some p ≠ v.ownBlock := Kd.R_ne h.row h.bp (by decide)
  have nq : some q ≠ v.ownBlock := Kd.R_ne h.row h.bq (by decide)
  have ng : some g ≠ v.ownBlock := Kd.R_ne h.row h.rd (by decide)
  obtain ⟨inner, ho⟩ := Kd.R_own h.row
  exact ⟨(hg.block _ (lt_of_blk h.rd) ng).trans h.rd, (hg.block _ (lt_of_blk h.bp) np).trans h.bp, (hg.block _ (lt_of_blk h.bq) nq).trans h.bq, hR, ⟨hg.os.trans h.up.os, hg.tape.trans h.up.tape, hg.output.trans h.up.output, Nat.le_trans h.up.size hg.size, fun k hk e =>
    (hg.block k (by have := h.up.size; omega) (fun e2 => by have hb := own_base ho k e2.symm; omega)).trans (h.up.block k hk e)⟩, h.sm, h1, h2, h3, h.hpq⟩
theorem RB.cell (h : RB w0 w g p q r op cs v done) (i : Nat) : w.cell? ⟨q, i, none⟩ = cs[i]? := cell_of_blk h.bq i
theorem RB.frz (h : RB w0 w g p q r op cs v done) (i : Nat) : w.frozen? ⟨q, i, none⟩ = false := frozen_of_blk h.bq i
end
theorem infoS : (Tryz.prog.info? 147).map (fun i => (i.zero, i.size, i.bytes)) = some (some (.agg #[.string ⟨#[]⟩, .string ⟨#[]⟩]), k147.sz, 32) := by kernel_rfl
theorem xD_none (m : Nat) : (xD m none).2 = none := by
  induction m with
  | zero => rfl
  | succ m ih => exact ih
/-- What attributes of the reference's reader are: numbers and flags as the library reads them; open; short; whole. -/
def SpRes (B : Nat) (w' : World) (g : Nat) (a : Int) (r1 : Option (List UInt8)) (v : Value) : Prop :=
  (∃ r, w'.heap[g]? = some (.cells (rdC r true) 143 (0, 0))) ∨
  (adR a r1 = none ∧ w'.heap[g]? = some (.cells (rdC none false) 143 (0, 0))) ∨
  (∃ rest l, adR a r1 = some rest ∧ w'.heap[g]? = some (.cells (rdC (some rest) false) 143 (0, 0)) ∧ Kd.R k147 147 w' B (fun _ => True) v l ∧ l.map exSp = adL a r1 ∧ l.length ≤ 1000)
def spC (a : Int) (r : Option (List UInt8)) (v : Value) : Array Value :=
  at8 a (d1 a r).1 (d2 a (d1 a r).2).1.1 (d2 a (d1 a r).2).1.2 (d4 a (d2 a (d1 a r).2).2).1 (d8 a (d4 a (d2 a (d1 a r).2).2).2).1.1 (d8 a (d4 a (d2 a (d1 a r).2).2).2).1.2 v
/-- What is known where attributes have been taken. -/
def FinI (a : Int) (r1 rr : Option (List UInt8)) (op : Bool) (l : List S147) : Prop :=
  op = true ∨ (op = false ∧ adR a r1 = none ∧ rr = none) ∨ (op = false ∧ ∃ rest, adR a r1 = some rest ∧ rr = some rest ∧ l.map exSp = adL a r1 ∧ l.length ≤ 1000)
theorem spFin {w0 w : World} {g p q : Nat} {a : Int} {r1 rr : Option (List UInt8)} {op : Bool} {cs cs' : Array Value} {v : Value} {l : List S147} (h : RB w0 w g p q rr op cs v l) (hf : FinI a r1 rr op l) :
    SpRes w0.heap.size (w.setRow p cs') g a r1 v ∧ UpdB (fun k => k = g) w0 (w.setRow p cs') := by
  have h1 := h.hp
  have h3 := h.hg
  have hgk : (w.setRow p cs').heap[g]? = w.heap[g]? := setRow_other _ _ _ _ (by omega)
  have hR : Kd.R k147 147 (w.setRow p cs') w0.heap.size (fun k => k ≠ g ∧ k ≠ p) v l := Kd.R_step (Kd.R_types h.row h.bp (by decide)) (fun k hk _ => setRow_other _ _ _ _ hk.2)
  refine ⟨?_, ⟨h.up.os, h.up.tape, h.up.output, by rw [setRow_size]; exact h.up.size, fun k hk e => (setRow_other _ _ _ _ (by omega)).trans (h.up.block k hk e)⟩⟩
  rcases hf with rfl | ⟨rfl, hn, rfl⟩ | ⟨rfl, rest, hr, rfl, hm, hl⟩
  · exact .inl ⟨_, hgk.trans h.rd⟩
  · exact .inr (.inl ⟨hn, hgk.trans h.rd⟩)
  · exact .inr (.inr ⟨rest, l, hr, hgk.trans h.rd, Kd.R_mono hR (fun _ _ => trivial), hm, hl⟩)
/-- The extensions' loop, at a round. -/
def LB (w0 wr : World) (g p q n : Nat) (C : Value → Array Value) (r0 : Option (List UInt8)) (k : Nat) : Prop :=
  ∃ done rk v, done.length = k ∧ k ≤ n ∧ xD n r0 = (done.map exSp ++ (xD (n - k) rk).1, (xD (n - k) rk).2) ∧ RB w0 wr g p q rk false (C v) v done
theorem LB.step {w0 w' : World} {g p q n k : Nat} {C : Value → Array Value} {r0 rk : Option (List UInt8)} {v1 : Value} {done : List S147} (hk : k < n) (hd : done.length = k) (hx : xD n r0 = (done.map exSp ++ (xD (n - k) rk).1, (xD (n - k) rk).2))
    (h : RB w0 w' g p q (cB (cB rk).2).2 false (C v1) v1 (done ++ [⟨bs (cB rk).1, bs (cB (cB rk).2).1⟩])) : LB w0 w' g p q n C r0 (k + 1) := by
  have e1 : n - k = (n - (k + 1)) + 1 := by omega
  refine ⟨_, _, v1, by simp [hd], hk, ?_, h⟩
  rw [hx, e1, xD]
  simp [exSp]
end Go.Proofs.YtmenkckgpiafiaaGreat
namespace Go.Proofs.YtmenkckgpiafiaaGreat
open Go.RowKit Go.Great Go.Proofs.YtmenkckgpiafiaaGreatW.PrintWords Go.Proofs.YtmenkckgpiafiaaGreatW.PrintLast Go.Proofs.YtmenkckgpiafiaaGreatW.PrintMore Go.Proofs.YtmenkckgpiafiaaGreat.KK
theorem results_c1A {P : Program} {fn : Func} {p : Tmp} {ty : TypeId} (h : fn.results = #[.cell p ty]) (tmps : Array Value) (w : World) (g : Nat) (t : TypeId) (cs : Array Value) (fr : Nat × Nat) (d : TypeDesc)
    (hp : tmps.getD p undef = .pointer (some ⟨g, 0, none⟩)) (hg : w.heap[g]? = some (.cells cs t fr))
    (hu : P.underlying ty = some d) (hd : (match d with | .struct _ | .array _ _ => true | _ => false) = true) (hi : (P.info? ty).map (·.size) = some cs.size) :
    (results fn tmps).run P w = .ok (.agg cs) w := by
  have hp' : tmps[p]?.getD undef = .pointer (some ⟨g, 0, none⟩) := by simpa using hp
  simp [results, h, hp', asAddr, run_loadVar_row w g t ty cs fr d hg hu hd hi]
end Go.Proofs.YtmenkckgpiafiaaGreat
namespace Go.Proofs.YtmenkckgpiafiaaGreat
open Go.RowKit Go.Great Go.Proofs.YtmenkckgpiafiaaGreatW.PrintWords Go.Proofs.YtmenkckgpiafiaaGreatW.PrintLast Go.Proofs.YtmenkckgpiafiaaGreatW.PrintMore Go.Proofs.YtmenkckgpiafiaaGreat.KK
theorem u32_id {x : Int} (h : 0 ≤ x ∧ x ≤ 4294967295) : IntKind.u32.wrap x = x := by obtain ⟨h0, h1⟩ := h; unfold IntKind.wrap; simp [IntKind.signed, IntKind.bits]; omega
theorem R_sliceN {α : Type} {d : Kd α} {e base : Nat} {ok : Nat → Prop} {w : World} {v : Value} {xs : List α} (h : d.R e w base ok v xs) : ∃ A n c, v = .slice A n c := by
  obtain ⟨A, c, h⟩ := Kd.R_slice h
  exact ⟨A, _, c, h⟩
set_option maxRecDepth 100000 in
set_option maxHeartbeats 8000000 in
theorem spAttrs (g : Nat) (r : Option (List UInt8)) (w : World) (hg : w.heap[g]? = some (.cells (rdC r false) 143 (0, 0))) (hs : smallR r) :
    Calls Tryz.prog 71 #[.pointer (some ⟨g, 0, none⟩)] w fun e w' => ∃ v, e = .returned (.agg (spC (c32 r).1 (c32 r).2 v)) ∧ v.oneCell' = true ∧ SpRes w.heap.size w' g (c32 r).1 (c32 r).2 v ∧ UpdB (fun k => k = g) w w' := by
  have hlt := lt_of_blk hg
  obtain ⟨W0, hW0⟩ : ∃ W, w.alloc (.cells z8 40) = W := ⟨_, rfl⟩
  have g0 : W0.heap[g]? = some (.cells (rdC r false) 143 (0, 0)) := by rw [← hW0, heap_alloc_old _ _ hlt]; exact hg
  have p0 : W0.heap[w.heap.size]? = some (.cells z8 40 (0, 0)) := by rw [← hW0]; exact heap_alloc_new _ _
  have u0 : UpdB (fun k => k = g) w W0 := by rw [← hW0]; exact ⟨rfl, rfl, rfl, by simp, fun k hk _ => heap_alloc_old _ _ hk⟩
  have C := Lib.hid (num4C g r false W0 g0 hs)
  have hs1 := small32 hs
  have ha := c32_range r
  clear hg hs g0
  generalize (c32 r).1 = a at *
  generalize (c32 r).2 = r1 at *
  have X0 := Lib.hid hW0
  have P0 := Lib.hid p0
  have U0 := Lib.hid u0
  clear hW0 p0 u0
  have ua := u32_id ha
  clear ha
  go_enter Tryz.func71, Tryz.ntmps71
  go_wp2_with (refine wpList_allocTo rfl (some 2) rfl (.pointer (some ⟨w.heap.size, 0, none⟩)) (.cells z8 40) (by as_aux_lemma => kernel_rfl) ?_; rw [X0.out])
  refine C.out.mono ?_
  rintro e w1 ⟨rfl, g1, u1⟩
  have p1' : w1.heap[w.heap.size]? = some (.cells z8 40 (0, 0)) := (u1.block _ (lt_of_blk P0.out) (by omega)).trans P0.out
  have u2 := U0.out.trans u1
  have sz1 : w.heap.size ≤ w1.heap.size := u2.size
  have pl := lt_of_blk p1'
  obtain ⟨W2, hW2⟩ : ∃ W, w1.alloc (.cells z8 40) = W := ⟨_, rfl⟩
  obtain ⟨W3, hW3⟩ : ∃ W, W2.setRow w1.heap.size (at8 a 0 0 0 0 0 0 (.slice none 0 0)) = W := ⟨_, rfl⟩
  have k2 : W2.heap[w1.heap.size]? = some (.cells z8 40 (0, 0)) := by rw [← hW2]; exact heap_alloc_new _ _
  have H0 : RB w W3 g w.heap.size w1.heap.size r1 false (at8 a 0 0 0 0 0 0 (.slice none 0 0)) (.slice none 0 0) [] := by
    have o2 : ∀ k, k < w1.heap.size → W3.heap[k]? = w1.heap[k]? := fun k hk => by rw [← hW3, setRow_other _ _ _ _ (by omega), ← hW2, heap_alloc_old _ _ hk]
    refine ⟨(o2 _ (by omega)).trans g1, (o2 _ pl).trans p1', by rw [← hW3]; exact setRow_blk k2, Kd.R_nil _ _ _ _ _, ⟨?_, ?_, ?_, ?_, fun k hk e => (o2 _ (by omega)).trans (u2.block k hk e)⟩, hs1, Nat.le_refl _, sz1, hlt, by omega⟩
    · rw [← hW3, ← hW2]; exact u2.os
    · rw [← hW3, ← hW2]; exact u2.tape
    · rw [← hW3, ← hW2]; exact u2.output
    · rw [← hW3, setRow_size, ← hW2]; simp; omega
  have X2 := Lib.hid hW2
  have X3 := Lib.hid hW3
  have K2 := Lib.hid k2
  generalize hq : w1.heap.size = q at *
  generalize hp : w.heap.size = p at *
  have H0 := Lib.hid H0
  have d0 : W3.cell? ⟨q, 0, none⟩ = some (.int .u32 a) := by rw [H0.out.cell]; rfl
  have HQ := Lib.hid hq
  clear hW2 hW3 k2 g1 u1 u2 p1' sz1 pl C P0 U0 hlt hs1 hq X0
  go_upto_if 12 with (first
    | refine wpList_buildTo rfl 40 _ rfl (some 8) rfl (at8 a 0 0 0 0 0 0 (.slice none 0 0)) (by as_aux_lemma => kernel_rfl) ?_
    | (refine wpList_allocTo rfl (some 3) rfl (.pointer (some ⟨q, 0, none⟩)) (.cells z8 40) (by rw [← HQ.out]; as_aux_lemma => kernel_rfl) ?_; rw [X2.out])
    | (refine wpList_store_row rfl 40 _ _ rfl q (at8 a 0 0 0 0 0 0 (.slice none 0 0)) rfl rfl 40 z8 K2.out (pinfo8 _ _ _ _ _ _ _ _) rfl (one8 _ _ _ _ _ _ _ _ _ _) ?_; rw [X3.out]))
  clear X2 X3 K2 HQ ua
  go_cut [] (fun wx => RB w wx g p q (d1 a r1).2 false (at8 a (d1 a r1).1 0 0 0 0 0 (.slice none 0 0)) (.slice none 0 0) [])
  case first =>
    cases hf : (bits .and .u32 a 1 != 0) with
    | true =>
      have E := Lib.hid (show d1 a r1 = c64 r1 by unfold d1 flg; rw [hf]; rfl)
      go_wp2_with fail
      refine H0.out.num8.mono ?_
      rintro e w2 ⟨rfl, h2⟩
      have c1 : w2.cell? ⟨q, 1, none⟩ = some (.int .u64 0) := by rw [h2.cell]; rfl
      have f1 := h2.frz 1
      have G := Lib.hid (h2.set 1 (.int .u64 (c64 r1).1))
      clear h2
      go_wp2_with fail
      go_meet
      rw [E.out]
      exact G.out
    | false =>
      have E := Lib.hid (show d1 a r1 = (0, r1) by unfold d1 flg; rw [hf]; rfl)
      go_wp2_with fail
      go_meet
      rw [E.out]
      exact H0.out
  case rest =>
    obtain ⟨V1, rfl⟩ : ∃ V : World, V = wc := ⟨_, rfl⟩
    have H1 := Lib.hid hcut
    have d0 : V1.cell? ⟨q, 0, none⟩ = some (.int .u32 a) := by rw [hcut.cell]; rfl
    clear hcut
    go_upto_if 19 with (fail)
    go_cut [] (fun wx => RB w wx g p q (d2 a (d1 a r1).2).2 false (at8 a (d1 a r1).1 (d2 a (d1 a r1).2).1.1 (d2 a (d1 a r1).2).1.2 0 0 0 (.slice none 0 0)) (.slice none 0 0) [])
    case first =>
      cases hf : (bits .and .u32 a 2 != 0) with
      | true =>
        have E := Lib.hid (show d2 a (d1 a r1).2 = dd (d1 a r1).2 by unfold d2 flg; rw [hf]; rfl)
        have ux := u32_id (c32_range (d1 a r1).2)
        have uy := u32_id (c32_range (c32 (d1 a r1).2).2)
        go_wp2_with fail
        refine H1.out.num4.mono ?_
        rintro e w2 ⟨rfl, h2⟩
        have G0 := Lib.hid h2
        clear h2
        go_wp2_with fail
        refine G0.out.num4.mono ?_
        rintro e w3 ⟨rfl, h2⟩
        have c1 : w3.cell? ⟨q, 2, none⟩ = some (.int .u32 0) := by rw [h2.cell]; rfl
        have f1 := h2.frz 2
        have h3 := h2.set 2 (.int .u32 (c32 (d1 a r1).2).1)
        have c2 : w3.cell? ⟨q, 3, none⟩ = some (.int .u32 0) := by rw [h2.cell]; rfl
        have f2 := h2.frz 3
        have G := Lib.hid (h3.set 3 (.int .u32 (c32 (c32 (d1 a r1).2).2).1))
        clear h2 h3
        go_wp2_with fail
        go_meet
        rw [E.out]
        exact G.out
      | false =>
        have E := Lib.hid (show d2 a (d1 a r1).2 = ((0, 0), (d1 a r1).2) by unfold d2 flg; rw [hf]; rfl)
        go_wp2_with fail
        go_meet
        rw [E.out]
        exact H1.out
    case rest =>
      obtain ⟨V2, rfl⟩ : ∃ V : World, V = wc := ⟨_, rfl⟩
      have H2 := Lib.hid hcut
      have d0 : V2.cell? ⟨q, 0, none⟩ = some (.int .u32 a) := by rw [hcut.cell]; rfl
      clear hcut
      go_upto_if 31 with (fail)
      go_cut [] (fun wx => RB w wx g p q (d4 a (d2 a (d1 a r1).2).2).2 false (at8 a (d1 a r1).1 (d2 a (d1 a r1).2).1.1 (d2 a (d1 a r1).2).1.2 (d4 a (d2 a (d1 a r1).2).2).1 0 0 (.slice none 0 0)) (.slice none 0 0) [])
      case first =>
        cases hf : (bits .and .u32 a 4 != 0) with
        | true =>
          have E := Lib.hid (show d4 a (d2 a (d1 a r1).2).2 = c32 (d2 a (d1 a r1).2).2 by unfold d4 flg; rw [hf]; rfl)
          have ux := u32_id (c32_range (d2 a (d1 a r1).2).2)
          go_wp2_with fail
          refine H2.out.num4.mono ?_
          rintro e w2 ⟨rfl, h2⟩
          have c1 : w2.cell? ⟨q, 4, none⟩ = some (.int .u32 0) := by rw [h2.cell]; rfl
          have f1 := h2.frz 4
          have G := Lib.hid (h2.set 4 (.int .u32 (c32 (d2 a (d1 a r1).2).2).1))
          clear h2
          go_wp2_with fail
          go_meet
          rw [E.out]
          exact G.out
        | false =>
          have E := Lib.hid (show d4 a (d2 a (d1 a r1).2).2 = (0, (d2 a (d1 a r1).2).2) by unfold d4 flg; rw [hf]; rfl)
          go_wp2_with fail
          go_meet
          rw [E.out]
          exact H2.out
      case rest =>
        obtain ⟨V3, rfl⟩ : ∃ V : World, V = wc := ⟨_, rfl⟩
        have H3 := Lib.hid hcut
        have d0 : V3.cell? ⟨q, 0, none⟩ = some (.int .u32 a) := by rw [hcut.cell]; rfl
        clear hcut
        go_upto_if 39 with (fail)
        go_cut [] (fun wx => RB w wx g p q (d8 a (d4 a (d2 a (d1 a r1).2).2).2).2 false (at8 a (d1 a r1).1 (d2 a (d1 a r1).2).1.1 (d2 a (d1 a r1).2).1.2 (d4 a (d2 a (d1 a r1).2).2).1 (d8 a (d4 a (d2 a (d1 a r1).2).2).2).1.1 (d8 a (d4 a (d2 a (d1 a r1).2).2).2).1.2 (.slice none 0 0)) (.slice none 0 0) [])
        case first =>
          cases hf : (bits .and .u32 a 8 != 0) with
          | true =>
            have E := Lib.hid (show d8 a (d4 a (d2 a (d1 a r1).2).2).2 = dd (d4 a (d2 a (d1 a r1).2).2).2 by unfold d8 flg; rw [hf]; rfl)
            have ux := u32_id (c32_range (d4 a (d2 a (d1 a r1).2).2).2)
            have uy := u32_id (c32_range (c32 (d4 a (d2 a (d1 a r1).2).2).2).2)
            go_wp2_with fail
            refine H3.out.num4.mono ?_
            rintro e w2 ⟨rfl, h2⟩
            have G0 := Lib.hid h2
            clear h2
            go_wp2_with fail
            refine G0.out.num4.mono ?_
            rintro e w3 ⟨rfl, h2⟩
            have c1 : w3.cell? ⟨q, 5, none⟩ = some (.int .u32 0) := by rw [h2.cell]; rfl
            have f1 := h2.frz 5
            have h3 := h2.set 5 (.int .u32 (c32 (d4 a (d2 a (d1 a r1).2).2).2).1)
            have c2 : w3.cell? ⟨q, 6, none⟩ = some (.int .u32 0) := by rw [h2.cell]; rfl
            have f2 := h2.frz 6
            have G := Lib.hid (h3.set 6 (.int .u32 (c32 (c32 (d4 a (d2 a (d1 a r1).2).2).2).2).1))
            clear h2 h3
            go_wp2_with fail
            go_meet
            rw [E.out]
            exact G.out
          | false =>
            have E := Lib.hid (show d8 a (d4 a (d2 a (d1 a r1).2).2).2 = ((0, 0), (d4 a (d2 a (d1 a r1).2).2).2) by unfold d8 flg; rw [hf]; rfl)
            go_wp2_with fail
            go_meet
            rw [E.out]
            exact H3.out
        case rest =>
          obtain ⟨V4, rfl⟩ : ∃ V : World, V = wc := ⟨_, rfl⟩
          have H4 := Lib.hid hcut
          have d0 : V4.cell? ⟨q, 0, none⟩ = some (.int .u32 a) := by rw [hcut.cell]; rfl
          clear hcut
          have HS : ∀ v, spC a r1 v = at8 a (d1 a r1).1 (d2 a (d1 a r1).2).1.1 (d2 a (d1 a r1).2).1.2 (d4 a (d2 a (d1 a r1).2).2).1 (d8 a (d4 a (d2 a (d1 a r1).2).2).2).1.1 (d8 a (d4 a (d2 a (d1 a r1).2).2).2).1.2 v := fun v => rfl
          have HL : adL a r1 = (dX a (d8 a (d4 a (d2 a (d1 a r1).2).2).2).2).1 := rfl
          have HR : adR a r1 = (dX a (d8 a (d4 a (d2 a (d1 a r1).2).2).2).2).2 := rfl
          have hgen : ∀ x0 : Value, x0 = .slice none 0 0 → True := fun _ _ => trivial
          have AS := Lib.hid HS
          have AL := Lib.hid HL
          have AR := Lib.hid HR
          clear HS HL HR hgen
          generalize (d8 a (d4 a (d2 a (d1 a r1).2).2).2).1.2 = n6 at *
          generalize (d8 a (d4 a (d2 a (d1 a r1).2).2).2).1.1 = n5 at *
          generalize (d8 a (d4 a (d2 a (d1 a r1).2).2).2).2 = r4 at *
          generalize (d4 a (d2 a (d1 a r1).2).2).1 = n4 at *
          generalize (d2 a (d1 a r1).2).1.2 = n3 at *
          generalize (d2 a (d1 a r1).2).1.1 = n2 at *
          generalize (d1 a r1).1 = n1 at *
          go_upto_if 51 with (fail)
          go_cut [] (fun wx => ∃ v l rr op, RB w wx g p q rr op (at8 a n1 n2 n3 n4 n5 n6 v) v l ∧ FinI a r1 rr op l)
          case first =>
            cases hf : (bits .and .u32 a 2147483648 != 0) with
            | false =>
              have E : dX a r4 = ([], r4) := by unfold dX flg; rw [hf]; rfl
              have F := Lib.hid (show FinI a r1 r4 false [] by
                cases r4 with
                | none => exact .inr (.inl ⟨rfl, by rw [AR.out, E], rfl⟩)
                | some rest => exact .inr (.inr ⟨rfl, rest, by rw [AR.out, E], rfl, by rw [AL.out, E]; rfl, by decide⟩))
              clear E
              go_wp2_with fail
              go_meet
              exact ⟨_, _, _, _, H4.out, F.out⟩
            | true =>
              have E : dX a r4 = xD (c32 r4).1.toNat (c32 r4).2 := by unfold dX flg; rw [hf]; rfl
              have CN := Lib.hid H4.out.count
              have hx := c32_range r4
              rw [E] at AL AR
              clear E H4
              generalize (c32 r4).1 = x at *
              generalize (c32 r4).2 = r5 at *
              go_wp2_with fail
              refine CN.out.mono ?_
              rintro e w2 ⟨c1, c2⟩
              clear CN
              cases hk : cntOk x r5 with
              | false =>
                obtain ⟨rfl, h2⟩ := c2 hk
                have H5 := Lib.hid h2
                clear c1 c2 h2
                go_wp2_with fail
                go_loop [4] (fun m => m = .int .i64 0) (fun _ => 0)
                case atStart => rfl
                case round =>
                  subst hrel
                  go_wp2_with fail
                  go_meet
                  exact ⟨_, _, _, _, H5.out, .inl rfl⟩
              | true =>
                obtain ⟨rfl, h2⟩ := c1 hk
                obtain ⟨n, rfl⟩ : ∃ n : Nat, x = (n : Int) := ⟨x.toNat, by omega⟩
                have hn : n ≤ 1000 := by
                  unfold cntOk at hk
                  simp only [Bool.and_eq_true, decide_eq_true_eq] at hk
                  omega
                rw [Int.toNat_natCast] at AL AR
                have L0 := Lib.hid (show LB w w2 g p q n (at8 a n1 n2 n3 n4 n5 n6) r5 0 from ⟨[], r5, .slice none 0 0, rfl, Nat.zero_le _, by simp, h2⟩)
                clear c1 c2 h2 hk hx
                go_wp2_with fail
                go_loopw [4] (fun m wr => ∃ k : Nat, k ≤ n ∧ m = .int .i64 ((n : Int) - (k : Int)) ∧ Hid (LB w wr g p q n (at8 a n1 n2 n3 n4 n5 n6) r5 k)) (fun m _ => (intOf m).toNat)
                case atStart => exact ⟨0, Nat.zero_le _, by simp, L0⟩
                case round =>
                  clear L0
                  obtain ⟨k, hk, rfl, HL⟩ := hrel
                  obtain ⟨done, rk, v, hd, _, hxD, hB⟩ := HL.out
                  clear HL
                  have HX := Lib.hid hxD
                  have HB := Lib.hid hB
                  clear hxD
                  by_cases hlt : k < n
                  · have z1 : (0 : Int) < (n : Int) - (k : Int) := by omega
                    have z2 : decide ((n : Int) - (k : Int) > 0) = true := by simp; omega
                    have z3 : decide ((0 : Int) < (n : Int) - (k : Int)) = true := by simp; omega
                    cases rk with
                    | none =>
                      have cs1 : wr.cell? ⟨g, 1, none⟩ = some (.bool true) := by rw [cell_of_blk hB.rd]; rfl
                      have F := Lib.hid (show FinI a r1 none false done from .inr (.inl ⟨rfl, by rw [AR.out, HX.out]; exact xD_none _, rfl⟩))
                      clear hB
                      go_wp2_with fail
                      go_meet
                      exact ⟨_, _, _, _, HB.out, F.out⟩
                    | some lk =>
                      have cs1 : wr.cell? ⟨g, 1, none⟩ = some (.bool false) := by rw [cell_of_blk hB.rd]; rfl
                      clear hB
                      go_upto_region 14 with (fail)
                      have hB := HB.out.drew
                      have hc7 : wr.cell? ⟨q, 7, none⟩ = some v := by rw [HB.out.cell]; rfl
                      have hlq := lt_of_blk HB.out.bq
                      clear cs1 z1 z2 z3
                      go_region_law (first
                          | (refine Kd.R_append_step k147 (w0 := _) w.heap.size (by rfl) (.tmp 66) (.tmp 72) 38 147 (.agg #[.string ⟨#[]⟩, .string ⟨#[]⟩]) 32 (by rfl) Tryz.underlying38 infoS rfl (by decide) (by omega) v done ⟨bs (cB (some lk)).1, bs (cB (cB (some lk)).2).1⟩ [.string (bs (cB (some lk)).1), .string (bs (cB (cB (some lk)).2).1)] (fun k => k ≠ g) (fun _ => False) (by rfl) (by rfl) (k147_mkM _ _ _ _) (fun _ h => h.elim) (fun k hk => by have := lt_of_blk (RB.rd (by assumption)); omega) (RB.row (by assumption)) (Below.refl _ _) (by have := (RB.up (by assumption)).size; assumption) (by omega) ?_; intro v1 w1 hR hbl hgr hat; obtain ⟨A1, m, c1, rfl⟩ := R_sliceN hR; have hG := RB.grown (by assumption) hR hgr; have c9 : w1.cell? ⟨q, 7, none⟩ = some v := (RB.cell hG 7).trans rfl; have f9 := RB.frz hG 7; have hS : RB w (w1.setCell ⟨q, 7, none⟩ (.slice A1 m c1)) g p q _ false (at8 a n1 n2 n3 n4 n5 n6 (.slice A1 m c1)) (.slice A1 m c1) _ := RB.set hG 7 _; have hT := Lib.hid (LB.step hlt hd HX.out hS))
                          | (rw [if_pos (by rfl)]; go_wp2_with (go_at_call 93; refine (RB.text (by assumption)).mono ?_; rintro e w' ⟨rfl, hb⟩; have hc : w'.cell? ⟨q, 7, none⟩ = some v := (RB.cell hb 7).trans rfl; have hlq := lt_of_blk hb.bq)))
                      all_goals
                        have wz : IntKind.i64.wrap ((n : Int) - (k : Int) - 1) = (n : Int) - ((k + 1 : Nat) : Int) := by rw [IntWalk.i64_in _ (by omega)]; omega
                        have wz2 : wrap64 ((n : Int) - (k : Int) - 1) = (n : Int) - ((k + 1 : Nat) : Int) := (i64_w _).symm.trans wz
                        clear hB hG hS hb hR hbl hgr hat
                        go_wp2_with fail
                        go_roundw
                        case rel => exact ⟨k + 1, hlt, rfl, by assumption⟩
                        case measure => simp [intOf]; omega
                  · obtain rfl : k = n := by omega
                    have z1 : ¬ ((0 : Int) < (k : Int) - (k : Int)) := by omega
                    have z2 : decide ((k : Int) - (k : Int) > 0) = false := by simp
                    have z3 : ((k : Int) - (k : Int)) = 0 := by omega
                    have F := Lib.hid (show FinI a r1 rk false done by
                      have hx2 := HX.out
                      rw [Nat.sub_self] at hx2
                      have e2 : xD k r5 = (done.map exSp, rk) := by rw [hx2]; simp [xD]
                      cases rk with
                      | none => exact .inr (.inl ⟨rfl, by rw [AR.out, e2], rfl⟩)
                      | some rest => exact .inr (.inr ⟨rfl, rest, by rw [AR.out, e2], rfl, by rw [AL.out, e2], by omega⟩))
                    clear hB
                    go_wp2_with fail
                    go_meet
                    exact ⟨_, _, _, _, HB.out, F.out⟩
          case rest =>
            obtain ⟨v, l, rr, op, hB, hF⟩ := hcut
            obtain ⟨V5, rfl⟩ : ∃ V : World, V = wc := ⟨_, rfl⟩
            obtain ⟨W5, hW5⟩ : ∃ W, V5.setRow p (at8 a n1 n2 n3 n4 n5 n6 v) = W := ⟨_, rfl⟩
            have hv : v.oneCell' = true := by
              obtain ⟨A, c, rfl⟩ := Kd.R_slice hB.row
              rfl
            have k5 : W5.heap[p]? = some (.cells (at8 a n1 n2 n3 n4 n5 n6 v) 40 (0, 0)) := by rw [← hW5]; exact setRow_blk hB.bp
            have fin := spFin (cs' := at8 a n1 n2 n3 n4 n5 n6 v) hB hF
            rw [hW5] at fin
            have X5 := Lib.hid hW5
            have K5 := Lib.hid k5
            have FN := Lib.hid fin
            have BP := Lib.hid hB.bp
            have BQ := Lib.hid hB.bq
            clear hB hF hW5 k5 fin H4
            go_wp2_with (first
              | refine wpList_load_row rfl 40 _ rfl q rfl 40 (at8 a n1 n2 n3 n4 n5 n6 v) (0, 0) _ BQ.out Tryz.underlying40 rfl (pinfo8 _ _ _ _ _ _ _ _) ?_
              | (refine wpList_store_row rfl 40 _ _ rfl p (at8 a n1 n2 n3 n4 n5 n6 v) rfl rfl 40 z8 BP.out (pinfo8 _ _ _ _ _ _ _ _) rfl (one8' _ _ _ _ _ _ _ _ hv) ?_; rw [X5.out]))
            refine bodyPost_ret (results_c1A Tryz.results71 _ _ p 40 (at8 a n1 n2 n3 n4 n5 n6 v) (0, 0) _ rfl K5.out Tryz.underlying40 rfl (pinfo8 _ _ _ _ _ _ _ _)) rfl ?_
            exact ⟨v, by rw [AS.out], hv, FN.out⟩
end Go.Proofs.YtmenkckgpiafiaaGreat
namespace Go.Proofs.YtmenkckgpiafiaaGreat
open Go.RowKit Go.Great Go.Proofs.YtmenkckgpiafiaaGreatW.PrintWords Go.Proofs.YtmenkckgpiafiaaGreatW.PrintLast Go.Proofs.YtmenkckgpiafiaaGreatW.PrintMore Go.Proofs.YtmenkckgpiafiaaGreat.KK
theorem results_ctt {P : Program} {fn : Func} {p r r2 : Tmp} {ty : TypeId} (h : fn.results = #[.cell p ty, .tmp r, .tmp r2]) (tmps : Array Value) (w : World) (g : Nat) (t : TypeId) (cs : Array Value) (fr : Nat × Nat) (d : TypeDesc) (v v2 : Value)
    (hp : tmps.getD p undef = .pointer (some ⟨g, 0, none⟩)) (hr : tmps.getD r undef = v) (hr2 : tmps.getD r2 undef = v2) (hg : w.heap[g]? = some (.cells cs t fr))
    (hu : P.underlying ty = some d) (hd : (match d with | .struct _ | .array _ _ => true | _ => false) = true) (hi : (P.info? ty).map (·.size) = some cs.size) :
    (results fn tmps).run P w = .ok (.tuple #[.agg cs, v, v2]) w := by
  have hp' : tmps[p]?.getD undef = .pointer (some ⟨g, 0, none⟩) := by simpa using hp
  have hr' : tmps[r]?.getD undef = v := by simpa using hr
  have hr2' : tmps[r2]?.getD undef = v2 := by simpa using hr2
  simp [results, h, hp', hr', hr2', asAddr, run_loadVar_row w g t ty cs fr d hg hu hd hi]
/-- What the reference says of attributes' bytes. -/
def SpRd (L : List UInt8) (e : Ending) (w' : World) : Prop :=
  (e = .returned (.tuple #[.agg z8, .bool false, .int .i64 2])) ∨
  (e = .returned (.tuple #[.agg z8, .bool false, .int .i64 1]) ∧ rdR L = none) ∨
  (∃ rest l A c, e = .returned (.tuple #[.agg (rdA L (.slice A l.length c)), .bool true, .int .i64 1]) ∧ rdR L = some rest ∧ l.length ≤ c ∧ Kd.C k147 w' A l.length l ∧ l.map exSp = rdL L ∧ l.length ≤ 1000)
set_option maxRecDepth 100000 in
set_option maxHeartbeats 4000000 in
theorem specAttrsRead (L : List UInt8) (w : World) (hL : L.length ≤ 1000000) :
    Calls Tryz.prog 31 #[.string (bs L)] w fun e w' => SpRd L e w' ∧ Below w.heap.size w w' := by
  obtain ⟨W0, hW0⟩ : ∃ W, w.alloc (.cells z8 40) = W := ⟨_, rfl⟩
  obtain ⟨W1, hW1⟩ : ∃ W, W0.alloc (.cells (rdC (some L) false) 143) = W := ⟨_, rfl⟩
  have s0 : W0.heap.size = w.heap.size + 1 := by rw [← hW0]; simp
  have s1 : W1.heap.size = w.heap.size + 1 + 1 := by rw [← hW1]; simp [s0]
  have g1 : W1.heap[w.heap.size + 1]? = some (.cells (rdC (some L) false) 143 (0, 0)) := by rw [← hW1, ← s0]; exact heap_alloc_new _ _
  have p1' : W1.heap[w.heap.size]? = some (.cells z8 40 (0, 0)) := by rw [← hW1, heap_alloc_old _ _ (by omega), ← hW0]; exact heap_alloc_new _ _
  have b1 : Below w.heap.size w W1 := by
    rw [← hW1, ← hW0]
    exact ((Below.refl _ _).alloc (Nat.le_refl _) _).alloc (by simp) _
  have C := Lib.hid (spAttrs (w.heap.size + 1) (some L) W1 g1 (fun l hl => by cases hl; exact hL))
  have AR : rdR L = adR (c32 (some L)).1 (c32 (some L)).2 := rfl
  have AL : rdL L = adL (c32 (some L)).1 (c32 (some L)).2 := rfl
  have AA : ∀ v, rdA L v = spC (c32 (some L)).1 (c32 (some L)).2 v := fun v => rfl
  generalize (c32 (some L)).1 = a at *
  generalize (c32 (some L)).2 = r1 at *
  have AS : ∀ v, spC a r1 v = at8 a (d1 a r1).1 (d2 a (d1 a r1).2).1.1 (d2 a (d1 a r1).2).1.2 (d4 a (d2 a (d1 a r1).2).2).1 (d8 a (d4 a (d2 a (d1 a r1).2).2).2).1.1 (d8 a (d4 a (d2 a (d1 a r1).2).2).2).1.2 v := fun v => rfl
  simp only [AS] at C AA
  clear AS
  generalize (d8 a (d4 a (d2 a (d1 a r1).2).2).2).1.2 = n6 at *
  generalize (d8 a (d4 a (d2 a (d1 a r1).2).2).2).1.1 = n5 at *
  generalize (d4 a (d2 a (d1 a r1).2).2).1 = n4 at *
  generalize (d2 a (d1 a r1).2).1.2 = n3 at *
  generalize (d2 a (d1 a r1).2).1.1 = n2 at *
  generalize (d1 a r1).1 = n1 at *
  have X0 := Lib.hid hW0
  have X1 := Lib.hid hW1
  have S0 := Lib.hid s0
  have S1 := Lib.hid s1
  have P1 := Lib.hid p1'
  have B1 := Lib.hid b1
  have RA := Lib.hid AA
  have RR := Lib.hid AR
  have RL := Lib.hid AL
  clear hW0 hW1 s0 s1 g1 p1' b1 AA AR AL hL
  go_enter Tryz.func31, Tryz.ntmps31
  go_wp2_with (first
    | (refine wpList_allocTo rfl (some 2) rfl (.pointer (some ⟨w.heap.size, 0, none⟩)) (.cells z8 40) (by as_aux_lemma => kernel_rfl) ?_; rw [X0.out])
    | refine wpList_buildTo rfl 143 _ rfl (some 8) rfl (rdC (some L) false) (by as_aux_lemma => kernel_rfl) ?_
    | (refine wpList_boxTo rfl 143 _ rfl (some 9) rfl (w.heap.size + 1) (by rw [S0.out]) (rdC (some L) false) rfl ?_; rw [X1.out]))
  refine C.out.mono ?_
  rintro e w2 ⟨v, rfl, hv, hres, hu⟩
  have p2 : w2.heap[w.heap.size]? = some (.cells z8 40 (0, 0)) := (hu.block _ (by have := S1.out; omega) (by omega)).trans P1.out
  have b2 : Below w.heap.size w w2 := B1.out.trans (hu.below (by have := S1.out; omega) (fun k hk => by omega))
  obtain ⟨q, hq⟩ : ∃ q, q = w2.heap.size := ⟨_, rfl⟩
  obtain ⟨W3, hW3⟩ : ∃ W, w2.alloc (.cells z8 40) = W := ⟨_, rfl⟩
  obtain ⟨W4, hW4⟩ : ∃ W, W3.setRow q (at8 a n1 n2 n3 n4 n5 n6 v) = W := ⟨_, rfl⟩
  have k3 : W3.heap[q]? = some (.cells z8 40 (0, 0)) := by rw [← hW3, hq]; exact heap_alloc_new _ _
  have o4 : ∀ k, k < w2.heap.size → W4.heap[k]? = w2.heap[k]? := fun k hk => by rw [← hW4, setRow_other _ _ _ _ (by omega), ← hW3, heap_alloc_old _ _ hk]
  have b4 : Below w2.heap.size w2 W4 := by rw [← hW4, ← hW3, hq]; exact below_allocRow (Below.refl _ _) (Nat.le_refl _) _ _ _
  have q4 : W4.heap[q]? = some (.cells (at8 a n1 n2 n3 n4 n5 n6 v) 40 (0, 0)) := by rw [← hW4]; exact setRow_blk k3
  have p4 : W4.heap[w.heap.size]? = some (.cells z8 40 (0, 0)) := (o4 _ (lt_of_blk p2)).trans p2
  have B4 := Lib.hid (b2.trans (b4.mono b2.size))
  have X3 := Lib.hid hW3
  have X4 := Lib.hid hW4
  have K3 := Lib.hid k3
  have Q4 := Lib.hid q4
  have P4 := Lib.hid p4
  have HQ := Lib.hid hq
  have finish : ∀ cs' : Array Value, Below w.heap.size w (W4.setRow w.heap.size cs') := fun cs' => ⟨B4.out.os, B4.out.tape, B4.out.output, by rw [setRow_size]; exact B4.out.size, fun k hk => by rw [setRow_other _ _ _ _ (by omega)]; exact B4.out.block k hk⟩
  have FI := Lib.hid finish
  have rd4 : ∀ cs, w2.heap[w.heap.size + 1]? = some (.cells cs 143 (0, 0)) → W4.heap[w.heap.size + 1]? = some (.cells cs 143 (0, 0)) := fun cs h => (o4 _ (lt_of_blk h)).trans h
  rcases hres with ⟨r, h⟩ | ⟨hn, h⟩ | ⟨rest, l, hr, h, hRow, hm, hl⟩
  · obtain ⟨s', b', hs'⟩ : ∃ s' b', rdC r true = #[.string s', .bool b', .bool true] := by cases r <;> exact ⟨_, _, rfl⟩
    rw [hs'] at h
    have c2 : W4.cell? ⟨w.heap.size + 1, 2, none⟩ = some (.bool true) := by rw [cell_of_blk (rd4 _ h)]; rfl
    obtain ⟨W5, hW5⟩ : ∃ W, W4.setRow w.heap.size z8 = W := ⟨_, rfl⟩
    have k5 : W5.heap[w.heap.size]? = some (.cells z8 40 (0, 0)) := by rw [← hW5]; exact setRow_blk P4.out
    have X5 := Lib.hid hW5
    have K5 := Lib.hid k5
    clear h hs' hu p2 b2 b4 o4 q4 p4 hW3 hW4 k3 hq finish rd4 hW5 k5 C X0 X1 P1 B1
    go_wp2_with (first
      | (refine wpList_allocTo rfl (some 6) rfl (.pointer (some ⟨q, 0, none⟩)) (.cells z8 40) (by rw [HQ.out]; as_aux_lemma => kernel_rfl) ?_; rw [X3.out])
      | (refine wpList_store_row rfl 40 _ _ rfl q (at8 a n1 n2 n3 n4 n5 n6 v) rfl rfl 40 z8 K3.out (pinfo8 _ _ _ _ _ _ _ _) rfl (one8' _ _ _ _ _ _ _ _ hv) ?_; rw [X4.out])
      | refine wpList_buildTo rfl 40 _ rfl (some 17) rfl z8 (by as_aux_lemma => kernel_rfl) ?_
      | (refine wpList_store_row rfl 40 _ _ rfl w.heap.size z8 rfl rfl 40 z8 P4.out (pinfo8 _ _ _ _ _ _ _ _) rfl (one8 _ _ _ _ _ _ _ _ _ _) ?_; rw [X5.out]))
    refine bodyPost_ret (results_ctt Tryz.results31 _ _ w.heap.size 40 z8 (0, 0) _ _ _ rfl rfl rfl K5.out Tryz.underlying40 rfl (pinfo8 _ _ _ _ _ _ _ _)) rfl ?_
    refine ⟨.inl rfl, ?_⟩
    rw [← X5.out]
    exact FI.out _
  · have c2 : W4.cell? ⟨w.heap.size + 1, 2, none⟩ = some (.bool false) := by rw [cell_of_blk (rd4 _ h)]; rfl
    have c1 : W4.cell? ⟨w.heap.size + 1, 1, none⟩ = some (.bool true) := by rw [cell_of_blk (rd4 _ h)]; rfl
    obtain ⟨W5, hW5⟩ : ∃ W, W4.setRow w.heap.size z8 = W := ⟨_, rfl⟩
    have k5 : W5.heap[w.heap.size]? = some (.cells z8 40 (0, 0)) := by rw [← hW5]; exact setRow_blk P4.out
    have X5 := Lib.hid hW5
    have K5 := Lib.hid k5
    clear h hu p2 b2 b4 o4 q4 p4 hW3 hW4 k3 hq finish rd4 hW5 k5 C X0 X1 P1 B1
    go_wp2_with (first
      | (refine wpList_allocTo rfl (some 6) rfl (.pointer (some ⟨q, 0, none⟩)) (.cells z8 40) (by rw [HQ.out]; as_aux_lemma => kernel_rfl) ?_; rw [X3.out])
      | (refine wpList_store_row rfl 40 _ _ rfl q (at8 a n1 n2 n3 n4 n5 n6 v) rfl rfl 40 z8 K3.out (pinfo8 _ _ _ _ _ _ _ _) rfl (one8' _ _ _ _ _ _ _ _ hv) ?_; rw [X4.out])
      | refine wpList_buildTo rfl 40 _ rfl (some 23) rfl z8 (by as_aux_lemma => kernel_rfl) ?_
      | (refine wpList_store_row rfl 40 _ _ rfl w.heap.size z8 rfl rfl 40 z8 P4.out (pinfo8 _ _ _ _ _ _ _ _) rfl (one8 _ _ _ _ _ _ _ _ _ _) ?_; rw [X5.out]))
    refine bodyPost_ret (results_ctt Tryz.results31 _ _ w.heap.size 40 z8 (0, 0) _ _ _ rfl rfl rfl K5.out Tryz.underlying40 rfl (pinfo8 _ _ _ _ _ _ _ _)) rfl ?_
    refine ⟨.inr (.inl ⟨rfl, by rw [RR.out]; exact hn⟩), ?_⟩
    rw [← X5.out]
    exact FI.out _
  · obtain ⟨A, c, rfl, hc, hC⟩ := Kd.R_reads hRow
    have c2 : W4.cell? ⟨w.heap.size + 1, 2, none⟩ = some (.bool false) := by rw [cell_of_blk (rd4 _ h)]; rfl
    have c1 : W4.cell? ⟨w.heap.size + 1, 1, none⟩ = some (.bool false) := by rw [cell_of_blk (rd4 _ h)]; rfl
    obtain ⟨W5, hW5⟩ : ∃ W, W4.setRow w.heap.size (at8 a n1 n2 n3 n4 n5 n6 (.slice A l.length c)) = W := ⟨_, rfl⟩
    have k5 : W5.heap[w.heap.size]? = some (.cells (at8 a n1 n2 n3 n4 n5 n6 (.slice A l.length c)) 40 (0, 0)) := by rw [← hW5]; exact setRow_blk P4.out
    have hC5 : Kd.C k147 W5 A l.length l := by
      have h1 := Kd.R_mono (ok' := fun k => W1.heap.size ≤ k) (Kd.R_bound hRow) (fun k hk => hk.2.1)
      have h2 : Kd.R k147 147 W5 W1.heap.size (fun k => W1.heap.size ≤ k) (.slice A l.length c) l := Kd.R_step h1 (fun k hk hlt => by
        have := S1.out
        rw [← hW5, setRow_other _ _ _ _ (by omega)]
        exact o4 k hlt)
      exact (Kd.R_reads' h2).2.2
    have X5 := Lib.hid hW5
    have K5 := Lib.hid k5
    have C5 := Lib.hid hC5
    clear h hu p2 b2 b4 o4 q4 p4 hW3 hW4 k3 hq finish rd4 hW5 k5 C X0 X1 P1 B1 hC hC5 hRow
    go_wp2_with (first
      | (refine wpList_allocTo rfl (some 6) rfl (.pointer (some ⟨q, 0, none⟩)) (.cells z8 40) (by rw [HQ.out]; as_aux_lemma => kernel_rfl) ?_; rw [X3.out])
      | (refine wpList_store_row rfl 40 _ _ rfl q (at8 a n1 n2 n3 n4 n5 n6 (.slice A l.length c)) rfl rfl 40 z8 K3.out (pinfo8 _ _ _ _ _ _ _ _) rfl (one8' _ _ _ _ _ _ _ _ hv) ?_; rw [X4.out])
      | refine wpList_load_row rfl 40 _ rfl q rfl 40 (at8 a n1 n2 n3 n4 n5 n6 (.slice A l.length c)) (0, 0) _ Q4.out Tryz.underlying40 rfl (pinfo8 _ _ _ _ _ _ _ _) ?_
      | (refine wpList_store_row rfl 40 _ _ rfl w.heap.size (at8 a n1 n2 n3 n4 n5 n6 (.slice A l.length c)) rfl rfl 40 z8 P4.out (pinfo8 _ _ _ _ _ _ _ _) rfl (one8' _ _ _ _ _ _ _ _ hv) ?_; rw [X5.out]))
    refine bodyPost_ret (results_ctt Tryz.results31 _ _ w.heap.size 40 (at8 a n1 n2 n3 n4 n5 n6 (.slice A l.length c)) (0, 0) _ _ _ rfl rfl rfl K5.out Tryz.underlying40 rfl (pinfo8 _ _ _ _ _ _ _ _)) rfl ?_
    refine ⟨.inr (.inr ⟨rest, l, A, c, by rw [RA.out]; rfl, by rw [RR.out]; exact hr, hc, C5.out, by rw [RL.out]; exact hm, hl⟩), ?_⟩
    rw [← X5.out]
    exact FI.out _
end Go.Proofs.YtmenkckgpiafiaaGreat
namespace Go.Proofs.YtmenkckgpiafiaaGreat
open Go.RowKit Go.Great Go.Proofs.YtmenkckgpiafiaaGreatW.PrintWords Go.Proofs.YtmenkckgpiafiaaGreatW.PrintLast Go.Proofs.YtmenkckgpiafiaaGreatW.PrintMore Go.Proofs.YtmenkckgpiafiaaGreat.KK
theorem sameExts_l0 (l : List S89) (hl : l.length ≤ 2147483647) : ∀ (m : Nat) (k : Nat) (i : Nat), i + m = l.length → m < k → PS.laws_sameExts.l0 k l l (l.length : Int) (i : Int) = some true := by
  intro m
  induction m with
  | zero =>
    intro k i hi hk
    obtain ⟨k, rfl⟩ : ∃ j, k = j + 1 := ⟨k - 1, by omega⟩
    simp only [PS.laws_sameExts.l0]
    rw [if_neg (by omega)]
  | succ m ih =>
    intro k i hi hk
    obtain ⟨k, rfl⟩ : ∃ j, k = j + 1 := ⟨k - 1, by omega⟩
    simp only [PS.laws_sameExts.l0]
    rw [if_pos (by omega), if_pos (by omega), if_pos (by omega), if_pos (by omega), wrap_succ (by omega) (show (i : Int) < (l.length : Int) by omega) (by omega), if_neg (by simp)]
    rw [show ((i : Int) + 1) = ((i + 1 : Nat) : Int) from by omega]
    exact ih k (i + 1) (by omega) (by omega)
theorem sameExts_f (l : List S89) (hl : l.length ≤ 2147483647) : PS.laws_sameExts.f (l.length + 1) l l = some true := by
  unfold PS.laws_sameExts.f
  rw [if_pos rfl]
  exact sameExts_l0 l hl l.length (l.length + 1) 0 (by omega) (by omega)
theorem sameAttrsE (a b c d e f g : Int) (A A' : Option Addr) (n cap cap' : Nat) (l : List S89) (w : World) (hn : n = l.length) (hl : l.length ≤ 2147483647) (hC : Kd.C k89 w A l.length l) (hC' : Kd.C k89 w A' l.length l) (hc : l.length ≤ cap) (hc' : l.length ≤ cap') :
    Calls Tryz.prog 33 #[.agg (at8 a b c d e f g (.slice A n cap)), .agg (at8 a b c d e f g (.slice A' n cap'))] w fun r w' => r = .returned (.bool true) ∧ Below w.heap.size w w' := by
  subst hn
  refine PS.laws_sameAttrs.calls (l.length + 1) a b c d e f g A cap l a b c d e f g A' cap' l true w hC hc hC' hc' ?_
  unfold PS.laws_sameAttrs.f
  rw [sameExts_f l hl]
  simp
end Go.Proofs.YtmenkckgpiafiaaGreat
namespace Go.Proofs.YtmenkckgpiafiaaGreat
open Go.RowKit Go.Great Go.Proofs.YtmenkckgpiafiaaGreatW.PrintWords Go.Proofs.YtmenkckgpiafiaaGreatW.PrintLast Go.Proofs.YtmenkckgpiafiaaGreatW.PrintMore Go.Proofs.YtmenkckgpiafiaaGreat.KK
section
variable {P : Program} {ops : Array Oper} {o : Oper} {a : Act} {w : World} {K : Act → World → Prop} {Q : Exit → Act → World → Prop} {E : Prop}
end
theorem yieldsIf_load_row {P : Program} {ops : Array Oper} {S : World → Prop} {op : Oper} {a : Act} (hw : Region.wanted op (yielded ops a.tmps) = true) (ty : TypeId) (x : Operand) (ho : op.op = .load ty x)
    (g : Nat) (hx : a.eval x = .pointer (some ⟨g, 0, none⟩)) (t : TypeId) (cs : Array Value) (fr : Nat × Nat) (d : TypeDesc) (hS : ∀ w, S w → w.heap[g]? = some (.cells cs t fr))
    (hu : P.underlying ty = some d) (hd : (match d with | .struct _ | .array _ _ => true | _ => false) = true) (hi : (P.info? ty).map (·.size) = some cs.size) : YieldsIf P ops S op (.agg cs) a :=
  .inl ⟨hw, fun w hw' => by
    unfold execOp
    simp only [ho, hx, Instr.loadAt, Instr.sureAddr, Sem.run_bind, Sem.run_pure, Result.andThen_ok, run_loadVar_row w g t ty cs fr d (hS w hw') hu hd hi]⟩
theorem wpAnyH_takeD {P : Program} {md : Region.Mode} {ops : Array Oper} {Q : Exit → Act → World → Prop} {S : World → Prop} (d : Option Tmp) {i : Nat} {oi : Oper} {v : Value} {fuel : Nat} {listed : Array Bool} {a : Act} {w : World} (hi : ops[i]? = some oi) (hd : oi.dst = d)
    (hs : Region.noSelect ops = true) (hf : Region.free md ops listed i = true) (hr : (Region.ready md ops listed).contains i = true)
    (hQ : ∀ c a w, Q (.panic c) (a.put oi.dst v) w → Q (.panic c) a w) (hy : YieldsIf P ops S oi v a) (hS : S w)
    (h : wpAnyH P md ops Q S fuel (listed.setIfInBounds i true) (a.put d v) w) : wpAnyH P md ops Q S (fuel + 1) listed a w := by
  subst hd
  exact wpAnyH_take hi hs hf hr hQ hy hS h
theorem blk_below {w w' : World} {b : Nat} {o : Obj} (hb : Below w.heap.size w w') (h : w.heap[b]? = some o) : w'.heap[b]? = some o := by
  have : b < w.heap.size := (Array.getElem?_eq_some_iff.1 h).1
  rw [hb.block _ this]; exact h
end Go.Proofs.YtmenkckgpiafiaaGreat
namespace Go.Proofs.YtmenkckgpiafiaaGreat
open Go.RowKit Go.Great Go.Proofs.YtmenkckgpiafiaaGreatW.PrintWords Go.Proofs.YtmenkckgpiafiaaGreatW.PrintLast Go.Proofs.YtmenkckgpiafiaaGreatW.PrintMore Go.Proofs.YtmenkckgpiafiaaGreat.KK
def exSi (e : S147) : S89 := ⟨e.f0, e.f1⟩
theorem implAttrs_l0 (a b c d e f g : Int) (l : List S147) (hl : l.length ≤ 1000) : ∀ (m k i : Nat), i + m = l.length → m < k → PE.laws_implAttrs.l0 k l (l.length : Int) (i : Int) a b c d e f g ((l.take i).map exSi) = some (a, b, c, d, e, f, g, l.map exSi) := by
  intro m
  induction m with
  | zero =>
    intro k i hi hk
    obtain ⟨k, rfl⟩ : ∃ j, k = j + 1 := ⟨k - 1, by omega⟩
    simp only [PE.laws_implAttrs.l0]
    rw [if_neg (by omega), List.take_of_length_le (by omega)]
  | succ m ih =>
    intro k i hi hk
    obtain ⟨k, rfl⟩ : ∃ j, k = j + 1 := ⟨k - 1, by omega⟩
    have hil : i < l.length := by omega
    simp only [PE.laws_implAttrs.l0]
    rw [if_pos (by omega), if_pos (by omega), if_pos (by omega), if_pos (by rw [List.length_map, List.length_take]; omega), wrap_succ (by omega) (show (i : Int) < (l.length : Int) by omega) (by omega)]
    have hr : rd_T147 l (i : Int) = l[i] := by
      unfold rd_T147
      rw [Int.toNat_natCast, List.getD_eq_getElem?_getD, List.getElem?_eq_getElem hil]
      rfl
    rw [hr, show ((i : Int) + 1) = ((i + 1 : Nat) : Int) from by omega]
    have h := ih k (i + 1) (by omega) (by omega)
    rw [List.take_succ_eq_append_getElem hil, List.map_append] at h
    exact h
theorem implAttrsC (a b c d e f g : Int) (A : Option Addr) (n cap : Nat) (l : List S147) (w : World) (hn : n = l.length) (hl : n ≤ 1000) (hC : Kd.C k147 w A l.length l) (hc : l.length ≤ cap) :
    Calls Tryz.prog 34 #[.agg (at8 a b c d e f g (.slice A n cap))] w fun r w' => (∃ A' c', r = .returned (.agg (at8 a b c d e f g (.slice A' n c'))) ∧ l.length ≤ c' ∧ Kd.C k89 w' A' (l.map exSi).length (l.map exSi)) ∧ Below w.heap.size w w' := by
  subst hn
  have h : PE.laws_implAttrs.f (l.length + 1) a b c d e f g l = some (a, b, c, d, e, f, g, l.map exSi) := by
    unfold PE.laws_implAttrs.f
    exact implAttrs_l0 a b c d e f g l hl l.length (l.length + 1) 0 (by omega) (by omega)
  refine (PE.laws_implAttrs.calls (l.length + 1) a b c d e f g A cap l a b c d e f g (l.map exSi) w hC hc h).mono ?_
  rintro r w' ⟨v, rfl, hv, hb⟩
  obtain ⟨A', c', rfl, h1, h2⟩ := Kd.R_reads hv
  refine ⟨⟨A', c', ?_, by simpa using h1, h2⟩, hb⟩
  rw [List.length_map]
  rfl
set_option maxRecDepth 5000 in
set_option maxHeartbeats 4000000 in
theorem readLaw (s : ByteArray) (w : World) (hs : s.size ≤ maxLen) :
    Calls Tryz.prog 9 #[.string s] w fun r w' => r = .returned (.bool true) ∧ Below w.heap.size w w' := by
  by_cases h1 : 2147483647 < s.size
  · have d1 : (2147483647 : Int) < (s.size : Int) := by omega
    have d2 : decide ((s.size : Int) > 2147483647) = true := by simp; omega
    go_enter Tryz.func9, Tryz.ntmps9
    go_wp2_with fail
    go_ret
    exact ⟨rfl, Below.refl _ _⟩
  have d1 : ¬ ((2147483647 : Int) < (s.size : Int)) := by omega
  have d2 : decide ((s.size : Int) > 2147483647) = false := by simp; omega
  by_cases h2 : 2000 < s.size
  · have d3 : (2000 : Int) < (s.size : Int) := by omega
    have d4 : decide ((s.size : Int) > 2000) = true := by simp; omega
    go_enter Tryz.func9, Tryz.ntmps9
    go_wp2_with fail
    go_ret
    exact ⟨rfl, Below.refl _ _⟩
  have d3 : ¬ ((2000 : Int) < (s.size : Int)) := by omega
  have d4 : decide ((s.size : Int) > 2000) = false := by simp; omega
  have hz : s.size ≤ 2000 := by omega
  have C := Lib.hid (specAttrsRead (tl s) w (by rw [tl_length]; omega))
  rw [bs_tl] at C
  clear h1 h2 hs
  go_enter Tryz.func9, Tryz.ntmps9
  go_wp2_with fail
  refine C.out.mono ?_
  rintro e w1 ⟨hres, hb1⟩
  clear C
  obtain ⟨x3, hx3⟩ : ∃ x3, x3 = w1.heap.size := ⟨_, rfl⟩
  obtain ⟨W2, hW2⟩ : ∃ W, w1.alloc (.cells z8 40) = W := ⟨_, rfl⟩
  have k2 : W2.heap[x3]? = some (.cells z8 40 (0, 0)) := by rw [← hW2, hx3]; exact heap_alloc_new _ _
  rcases hres with rfl | ⟨rfl, hR⟩ | ⟨rest, l, A, c, rfl, hR, hc, hC, hm, hl⟩
  · obtain ⟨W3, hW3⟩ : ∃ W, W2.setRow x3 z8 = W := ⟨_, rfl⟩
    have b3 : Below w.heap.size w W3 := by rw [← hW3, ← hW2, hx3]; exact below_allocRow hb1 hb1.size _ _ _
    have X2 := Lib.hid hW2
    have X3 := Lib.hid hW3
    have K2 := Lib.hid k2
    have B3 := Lib.hid b3
    have HQ := Lib.hid hx3
    clear hW2 hW3 k2 b3 hb1 hx3
    go_wp2_with (first
      | (refine wpList_allocTo rfl (some 3) rfl (.pointer (some ⟨x3, 0, none⟩)) (.cells z8 40) (by rw [HQ.out]; as_aux_lemma => kernel_rfl) ?_; rw [X2.out])
      | (refine wpList_store_row rfl 40 _ _ rfl x3 z8 rfl rfl 40 z8 K2.out (pinfo8 _ _ _ _ _ _ _ _) rfl (one8 _ _ _ _ _ _ _ _ _ _) ?_; rw [X3.out]))
    go_ret
    exact ⟨rfl, B3.out⟩
  · obtain ⟨W3, hW3⟩ : ∃ W, W2.setRow x3 z8 = W := ⟨_, rfl⟩
    have b3 : Below w.heap.size w W3 := by rw [← hW3, ← hW2, hx3]; exact below_allocRow hb1 hb1.size _ _ _
    have X2 := Lib.hid hW2
    have X3 := Lib.hid hW3
    have K2 := Lib.hid k2
    have B3 := Lib.hid b3
    have HQ := Lib.hid hx3
    have RN := Lib.hid (attrsRead_no s W3 (by omega) hR)
    clear hW2 hW3 k2 b3 hb1 hx3
    go_wp2_with (first
      | (refine wpList_allocTo rfl (some 3) rfl (.pointer (some ⟨x3, 0, none⟩)) (.cells z8 40) (by rw [HQ.out]; as_aux_lemma => kernel_rfl) ?_; rw [X2.out])
      | (refine wpList_store_row rfl 40 _ _ rfl x3 z8 rfl rfl 40 z8 K2.out (pinfo8 _ _ _ _ _ _ _ _) rfl (one8 _ _ _ _ _ _ _ _ _ _) ?_; rw [X3.out]))
    refine RN.out.mono ?_
    rintro r w4 ⟨rfl, hb4⟩
    have B4 := Lib.hid (B3.out.trans (hb4.mono B3.out.size))
    clear hb4 RN B3 X2 X3 K2 HQ
    obtain ⟨W5, hW5⟩ : ∃ W, w4.alloc (.cells z8 26) = W := ⟨_, rfl⟩
    obtain ⟨W6, hW6⟩ : ∃ W, W5.setRow w4.heap.size z8 = W := ⟨_, rfl⟩
    have k5 : W5.heap[w4.heap.size]? = some (.cells z8 26 (0, 0)) := by rw [← hW5]; exact heap_alloc_new _ _
    have hb6 : Below w.heap.size w W6 := by rw [← hW6, ← hW5]; exact below_allocRow B4.out B4.out.size _ _ _
    have X5 := Lib.hid hW5
    have X6 := Lib.hid hW6
    have K5 := Lib.hid k5
    have B6 := Lib.hid hb6
    clear hW5 hW6 k5 hb6 B4
    go_wp2_with (first
      | (go_at_call 23; refine (awake _).mono ?_; rintro e w' ⟨rfl, hb⟩)
      | (refine wpList_allocTo rfl (some 6) rfl (.pointer (some ⟨w4.heap.size, 0, none⟩)) (.cells z8 26) (by as_aux_lemma => kernel_rfl) ?_; rw [X5.out])
      | (refine wpList_store_row rfl 26 _ _ rfl w4.heap.size z8 rfl rfl 26 z8 K5.out (ainfo8 _ _ _ _ _ _ _ _) rfl (one8 _ _ _ _ _ _ _ _ _ _) ?_; rw [X6.out]))
    go_ret
    exact ⟨rfl, B6.out.trans (hb.mono B6.out.size)⟩
  · obtain ⟨n0, n1, n2, n3, n4, n5, n6, hA⟩ : ∃ n0 n1 n2 n3 n4 n5 n6, ∀ v, rdA (tl s) v = at8 n0 n1 n2 n3 n4 n5 n6 v := ⟨_, _, _, _, _, _, _, fun v => rfl⟩
    rw [hA]
    have hmap : (rdL (tl s)).map exTo = l.map exSi := by rw [← hm, List.map_map]; rfl
    obtain ⟨W3, hW3⟩ : ∃ W, W2.setRow x3 (at8 n0 n1 n2 n3 n4 n5 n6 (.slice A l.length c)) = W := ⟨_, rfl⟩
    have b13 : Below w1.heap.size w1 W3 := by rw [← hW3, ← hW2, hx3]; exact below_allocRow (Below.refl _ _) (Nat.le_refl _) _ _ _
    have k3 : W3.heap[x3]? = some (.cells (at8 n0 n1 n2 n3 n4 n5 n6 (.slice A l.length c)) 40 (0, 0)) := by rw [← hW3]; exact setRow_blk k2
    have RO := Lib.hid (attrsRead_ok s rest n0 n1 n2 n3 n4 n5 n6 (rdL (tl s)) W3 (by omega) hR hA rfl)
    rw [hmap] at RO
    have X2 := Lib.hid hW2
    have X3 := Lib.hid hW3
    have K2 := Lib.hid k2
    have K3 := Lib.hid k3
    have B3 := Lib.hid (hb1.trans (b13.mono hb1.size))
    have C3 := Lib.hid (Kd.C_below hC b13)
    have HQ := Lib.hid hx3
    clear hW2 hW3 k2 k3 b13 hb1 hx3 hA hmap hm hR hC
    go_wp2_with (first
      | (refine wpList_allocTo rfl (some 3) rfl (.pointer (some ⟨x3, 0, none⟩)) (.cells z8 40) (by rw [HQ.out]; as_aux_lemma => kernel_rfl) ?_; rw [X2.out])
      | (refine wpList_store_row rfl 40 _ _ rfl x3 (at8 n0 n1 n2 n3 n4 n5 n6 (.slice A l.length c)) rfl rfl 40 z8 K2.out (pinfo8 _ _ _ _ _ _ _ _) rfl (one8 _ _ _ _ _ _ _ _ _ _) ?_; rw [X3.out]))
    refine RO.out.mono ?_
    rintro r w4 ⟨⟨v, rfl, hv⟩, hb4⟩
    obtain ⟨A', c', rfl, hc', hC'⟩ := Kd.R_reads hv
    rw [show (l.map exSi).length = l.length from List.length_map ..]
    rw [List.length_map] at hc'
    have k4 := (hb4.block _ (lt_of_blk K3.out)).trans K3.out
    have B4 := Lib.hid (B3.out.trans (hb4.mono B3.out.size))
    have C4 := Lib.hid (Kd.C_below C3.out hb4)
    obtain ⟨x6, hx6⟩ : ∃ x6, x6 = w4.heap.size := ⟨_, rfl⟩
    obtain ⟨W5, hW5⟩ : ∃ W, w4.alloc (.cells z8 26) = W := ⟨_, rfl⟩
    obtain ⟨W6, hW6⟩ : ∃ W, W5.setRow x6 (at8 n0 n1 n2 n3 n4 n5 n6 (.slice A' l.length c')) = W := ⟨_, rfl⟩
    have k5 : W5.heap[x6]? = some (.cells z8 26 (0, 0)) := by rw [← hW5, hx6]; exact heap_alloc_new _ _
    have b46 : Below w4.heap.size w4 W6 := by rw [← hW6, ← hW5, hx6]; exact below_allocRow (Below.refl _ _) (Nat.le_refl _) _ _ _
    have k6 : W6.heap[x6]? = some (.cells (at8 n0 n1 n2 n3 n4 n5 n6 (.slice A' l.length c')) 26 (0, 0)) := by rw [← hW6]; exact setRow_blk k5
    have j6 := (b46.block _ (lt_of_blk k4)).trans k4
    have B6 := B4.out.trans (b46.mono B4.out.size)
    have CS := Kd.C_below C4.out b46
    have CI := Kd.C_below hC' b46
    have X5 := Lib.hid hW5
    have X6 := Lib.hid hW6
    have K5 := Lib.hid k5
    have K6 := Lib.hid k6
    have J6 := Lib.hid j6
    have B6 := Lib.hid B6
    have HQ6 := Lib.hid hx6
    have IM := Lib.hid (fun (w' : World) (h : Below W6.heap.size W6 w') => implAttrsC n0 n1 n2 n3 n4 n5 n6 A l.length c l w' rfl hl (Kd.C_below CS h) hc)
    have SA := Lib.hid (fun (w' : World) (A2 : Option Addr) (c2 : Nat) (h : Below W6.heap.size W6 w') (hl2 : l.length ≤ c2) (h2 : Kd.C k89 w' A2 (l.map exSi).length (l.map exSi)) =>
      sameAttrsE n0 n1 n2 n3 n4 n5 n6 A' A2 l.length c' c2 (l.map exSi) w' (by rw [List.length_map]) (by rw [List.length_map]; omega) (Kd.C_below CI h) h2 (by rw [List.length_map]; exact hc') (by rw [List.length_map]; exact hl2))
    clear hW5 hW6 k5 k6 j6 b46 hx6 hv hb4 k4 CS CI hC' C4 C3 B4 B3 K3 RO X2 X3 K2 HQ hc' hc hl
    go_upto_region 11 with (first
      | (refine wpList_allocTo rfl (some 6) rfl (.pointer (some ⟨x6, 0, none⟩)) (.cells z8 26) (by rw [HQ6.out]; as_aux_lemma => kernel_rfl) ?_; rw [X5.out])
      | (refine wpList_store_row rfl 26 _ _ rfl x6 (at8 n0 n1 n2 n3 n4 n5 n6 (.slice A' l.length c')) rfl rfl 26 z8 K5.out (ainfo8 _ _ _ _ _ _ _ _) rfl (one8 _ _ _ _ _ _ _ _ _ _) ?_; rw [X6.out]))
    refine wp_region_held_drew (S := fun w' => Below W6.heap.size W6 w') (by kernel_rfl) (below_drew (Below.refl _ _)) (fun hHeld => ?_)
    refine wpAnyH_takeD (some 34) (i := 0) (v := .int .i64 0) rfl rfl (by kernel_rfl) (by kernel_rfl) (by kernel_rfl) (fun _ _ _ h => h) (Or.inl ⟨by rfl, fun w' hw' => by rfl⟩) hHeld ?_
    try simp only [Act.put, List.setIfInBounds_toArray, List.set_cons_zero, List.set_cons_succ]
    refine wpAnyH_takeD (some 35) (i := 1) (v := .bool true) rfl rfl (by kernel_rfl) (by kernel_rfl) (by kernel_rfl) (fun _ _ _ h => h) (Or.inl ⟨by rfl, fun w' hw' => by go_simp⟩) hHeld ?_
    try simp only [Act.put, List.setIfInBounds_toArray, List.set_cons_zero, List.set_cons_succ]
    refine wpAnyH_takeD (some 36) (i := 2) (v := .bool true) rfl rfl (by kernel_rfl) (by kernel_rfl) (by kernel_rfl) (fun _ _ _ h => h) (Or.inl ⟨by rfl, fun w' hw' => by rfl⟩) hHeld ?_
    try simp only [Act.put, List.setIfInBounds_toArray, List.set_cons_zero, List.set_cons_succ]
    refine wpAnyH_takeD (some 37) (i := 3) (v := .agg (at8 n0 n1 n2 n3 n4 n5 n6 (.slice A' l.length c'))) rfl rfl (by kernel_rfl) (by kernel_rfl) (by kernel_rfl) (fun _ _ _ h => h) (yieldsIf_load_row (by rfl) 26 _ (by rfl) x6 (by rfl) 26 (at8 n0 n1 n2 n3 n4 n5 n6 (.slice A' l.length c')) (0, 0) _ (fun w' hw' => (hw'.block _ (lt_of_blk K6.out)).trans K6.out) Tryz.underlying26 rfl (ainfo8 _ _ _ _ _ _ _ _)) hHeld ?_
    try simp only [Act.put, List.setIfInBounds_toArray, List.set_cons_zero, List.set_cons_succ]
    refine wpAnyH_takeD (some 38) (i := 4) (v := .agg (at8 n0 n1 n2 n3 n4 n5 n6 (.slice A l.length c))) rfl rfl (by kernel_rfl) (by kernel_rfl) (by kernel_rfl) (fun _ _ _ h => h) (yieldsIf_load_row (by rfl) 40 _ (by rfl) x3 (by rfl) 40 (at8 n0 n1 n2 n3 n4 n5 n6 (.slice A l.length c)) (0, 0) _ (fun w' hw' => (hw'.block _ (lt_of_blk J6.out)).trans J6.out) Tryz.underlying40 rfl (pinfo8 _ _ _ _ _ _ _ _)) hHeld ?_
    try simp only [Act.put, List.setIfInBounds_toArray, List.set_cons_zero, List.set_cons_succ]
    refine wpAnyH_ready (rs := [5]) (by kernel_rfl) (by simp) (AllReadyH.cons rfl (fun K hK => ?_) AllReadyH.nil)
    rw [if_pos (by rfl)]
    go_wp2_with ((go_at_call 34; refine (IM.out _ hHeld).mono ?_; rintro e w7 ⟨⟨A2, c2, rfl, hl2, hC2⟩, hb⟩))
    refine hK.out _ _ (hHeld.trans (hb.mono hHeld.size)) (fun hHeld => ?_)
    clear hK K
    try simp only [Act.put, List.setIfInBounds_toArray, List.set_cons_zero, List.set_cons_succ]
    refine wpAnyH_ready (rs := [6]) (by kernel_rfl) (by simp) (AllReadyH.cons rfl (fun K hK => ?_) AllReadyH.nil)
    rw [if_pos (by rfl)]
    go_wp2_with ((go_at_call 33; refine (SA.out _ A2 c2 hHeld hl2 hC2).mono ?_; rintro e w8 ⟨rfl, hb⟩))
    refine hK.out _ _ (hHeld.trans (hb.mono hHeld.size)) (fun hHeld => ?_)
    clear hK K
    try simp only [Act.put, List.setIfInBounds_toArray, List.set_cons_zero, List.set_cons_succ]
    refine wpAnyH_takeD (some 41) (i := 7) (v := .bool true) rfl rfl (by kernel_rfl) (by kernel_rfl) (by kernel_rfl) (fun _ _ _ h => h) (Or.inl ⟨by rfl, fun w' hw' => by go_simp⟩) hHeld ?_
    try simp only [Act.put, List.setIfInBounds_toArray, List.set_cons_zero, List.set_cons_succ]
    refine wpAnyH_takeD (some 42) (i := 8) (v := .bool true) rfl rfl (by kernel_rfl) (by kernel_rfl) (by kernel_rfl) (fun _ _ _ h => h) (Or.inl ⟨by rfl, fun w' hw' => by rfl⟩) hHeld ?_
    try simp only [Act.put, List.setIfInBounds_toArray, List.set_cons_zero, List.set_cons_succ]
    refine wpAnyH_ready (rs := [9]) (by kernel_rfl) (by simp) (AllReadyH.cons rfl (fun K hK => ?_) AllReadyH.nil)
    rw [if_pos (by rfl)]
    go_wp2_with ((go_at_call 23; refine (awake _).mono ?_; rintro e w9 ⟨rfl, hb⟩))
    refine hK.out _ _ (hHeld.trans (hb.mono hHeld.size)) (fun hHeld => ?_)
    clear hK K
    try simp only [Act.put, List.setIfInBounds_toArray, List.set_cons_zero, List.set_cons_succ]
    refine wpAnyH_takeD (some 44) (i := 10) (v := .bool true) rfl rfl (by kernel_rfl) (by kernel_rfl) (by kernel_rfl) (fun _ _ _ h => h) (Or.inl ⟨by rfl, fun w' hw' => by go_simp⟩) hHeld ?_
    try simp only [Act.put, List.setIfInBounds_toArray, List.set_cons_zero, List.set_cons_succ]
    refine wpAnyH_takeD (some 2) (i := 11) (v := .bool true) rfl rfl (by kernel_rfl) (by kernel_rfl) (by kernel_rfl) (fun _ _ _ h => h) (Or.inl ⟨by rfl, fun w' hw' => by rfl⟩) hHeld ?_
    try simp only [Act.put, List.setIfInBounds_toArray, List.set_cons_zero, List.set_cons_succ]
    refine wpAnyH_done (by kernel_rfl) ?_ _
    go_wp2_with fail
    go_ret
    exact ⟨rfl, B6.out.trans (hHeld.mono B6.out.size)⟩
theorem readLawK (s : ByteArray) (W : World) (hs : s.size ≤ maxLen) : Calls Tryz.prog 9 #[.string s] W fun r w' => r = .returned (.bool true) ∧ Below W.heap.size W w' := readLaw s W hs
end Go.Proofs.YtmenkckgpiafiaaGreat
namespace Go.Proofs.YtmenkckgpiafiaaGreat
open Go.RowKit Go.Great Go.ChangeShapes Go.WideShapes Go.ChangeAt Go.Proofs.YtmenkckgpiafiaaGreatW.PrintWords Go.Proofs.YtmenkckgpiafiaaGreat.KK
open Go.ChangeMaps (open_string shut_string)
theorem readA_own : ownKnob Tryz.prog.godebug = none := by kernel_rfl
set_option maxRecDepth 100000 in
theorem readA_lifted (os : Os) (started : os.Started) (H : Type) (enc : TypeId × Value → H) :
    ReturnsInHanded {} Tryz.checked os 9 .any (Rows.fnAttrsReadSpec.pre6 enc Tryz.prog Tryz.f9 Rows.fnAttrsReadRow.domain false) (Rows.fnAttrsReadSpec.post enc Tryz.prog Tryz.f9 false true false false) := by
  refine returnsInHanded_of_change (C := Tryz.checked) readA_own started (by kernel_rfl) Tryz.func9
    (ChangeSpec.witness6 (enc := enc) (C := Tryz.checked) false ⟨#[], #[.string ByteArray.empty], []⟩ 8 (by kernel_rfl) (by kernel_rfl) (by kernel_rfl) (by kernel_rfl)) ?_
  intro W base args ds gs before hval0 hW hcnd _
  have hval : ∀ (j : Nat) t v, Tryz.f9.params[j]? = some t → args[j]? = some v → Value.okWide Tryz.prog W .any base t v := hval0
  have hW' := hW
  have hlt : ∀ x ∈ before, x.block < W.heap.size := fun x hx => hW.lt x hx
  obtain ⟨p, q, hA0, hV, rfl, hfz, hnd⟩ := hW
  have hA : DataW.TrodAll enc Tryz.prog W 0 (fun _ => true) true Tryz.f9.params.toList args.toList ds p := hA0
  rw [Tryz.params9] at hA hval
  obtain ⟨v0, vs0, d0, ds0, p0, q0, hargs, rfl, rfl, h0, r0⟩ := trodAll_cons hA
  obtain ⟨rfl, rfl, rfl⟩ := trodAll_nil r0
  obtain rfl : args = #[v0] := by cases args; simp_all
  obtain ⟨rfl, rfl⟩ := trodVars_none hV
  simp only [List.append_nil] at hW' hlt
  obtain ⟨a0, rfl, rfl, rfl, w0⟩ := open_string Tryz.underlying9 (hval 0 9 v0 rfl rfl) h0
  clear hA0 hval0
  refine (readLawK a0 W w0).mono fun e W' ⟨he, hg⟩ => ?_
  subst he
  exact ⟨_, rfl, post_of_below (pa := _) (pv := []) hW' (fun _ _ _ => (trodAll_cons_mk (shut_bool Tryz.underlying4 _) trodAll_mk0))
    (fun sp _ => trodAll_mk1 (shut_string Tryz.underlying9 w0)) (fun _ _ => rfl) (by simp)
    hg (ok_one (by kernel_rfl) rfl (okWide_bool_mk Tryz.underlying4 _))⟩
theorem readA_named : Tryz.pinned.checked.prog.funcNamed Rows.fnAttrsReadRow.func = some 9 := by kernel_rfl
set_option maxHeartbeats 8000000 in
theorem readA_facts : joinedFacts Tryz.pinned.checked.prog 9 Tryz.f9 Rows.fnAttrsReadSpec Rows.fnAttrsReadRow = true := by
  simp only [joinedFacts, Bool.and_eq_true]
  repeat' apply And.intro
  all_goals (as_aux_lemma => kernel_rfl)
theorem readA_inst : Tryz.f9.isInstance Tryz.pinned.checked.prog Rows.fnAttrsReadRow.origin Rows.fnAttrsReadRow.targs := of_decide_eq_true (by kernel_rfl)
theorem readA_wrap : Tryz.f9.isWrapper Tryz.pinned.checked.prog Rows.fnAttrsReadRow.wrapper Rows.fnAttrsReadRow.mainSum := by
  unfold Func.isWrapper
  rw [if_neg (by decide +kernel)]
  exact ⟨rfl, rfl⟩
/-- 'laws.FnAttrsRead': whatever the input: true; the input reads as it did. -/
theorem readA_holds : Rows.FnAttrsReadSaid :=
  OpenClaim.holds_of_wide 9 Tryz.f9 rfl rfl rfl rfl rfl rfl rfl ⟨rfl, rfl, rfl, rfl, rfl⟩ rfl rfl rfl rfl rfl readA_named Tryz.func9 readA_facts readA_inst readA_wrap
    (fun os started H enc _ => readA_lifted os started H enc)
end Go.Proofs.YtmenkckgpiafiaaGreat
