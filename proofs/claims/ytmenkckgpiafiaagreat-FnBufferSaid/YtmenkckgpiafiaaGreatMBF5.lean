/-
  Lemmas and contracts, part 5.
-/
import Derived.Outline
import Derived.Lib.Hide
import Derived.Great.Walk
import Derived.Deep.DeepCutAuto
import Derived.Deep.QuietTactic
import Derived.BigQuiet
import Derived.OneCell
import Derived.Deep.Slices
import Derived.Deep.Fields
import Derived.ChangeSame
import Derived.ChangeArms
import Derived.WideShapes
import Derived.Test.YtmenkckgpiafiaaGreatProg
import Derived.KernelRfl
import Derived.Laws.MakeOwn
import Derived.Deep.RegionHeld3
import Derived.Laws.BitsLemmas
import Derived.Lib.EndianBits
import Derived.ArgAppend
import Derived.Lib.AppendZeros
import Derived.Great.BuildSlice
import Derived.Defers
import Derived.Recover
import Derived.Deep.RegionLaw
import Derived.Deep.CutRange
import Derived.Orders
import Derived.Lib.JoinLaws
import Derived.StillTailTactics
import Derived.WalkKit
import Derived.Test.YtmenkckgpiafiaaGreatMBF1
import Derived.Test.YtmenkckgpiafiaaGreatMBF2
import Derived.Test.YtmenkckgpiafiaaGreatMBF4
set_option linter.unusedVariables false
set_option linter.unusedSimpArgs false
namespace Go.Proofs.YtmenkckgpiafiaaGreat
open Go.RowKit Go.Great Go.Proofs.YtmenkckgpiafiaaGreatW.PrintWords Go.Proofs.YtmenkckgpiafiaaGreatW.PrintLast Go.Proofs.YtmenkckgpiafiaaGreatW.PrintMore Go.Proofs.YtmenkckgpiafiaaGreat.KK
/-- Eight cells: attributes whose extensions lie where a slice says. -/
def at8 (a b c d e f g : Int) (v : Value) : Array Value := #[.int .u32 a, .int .u64 b, .int .u32 c, .int .u32 d, .int .u32 e, .int .u32 f, .int .u32 g, v]
end Go.Proofs.YtmenkckgpiafiaaGreat
namespace Go.Proofs.YtmenkckgpiafiaaGreat
open Go.RowKit Go.Great Go.Proofs.YtmenkckgpiafiaaGreatW.PrintWords Go.Proofs.YtmenkckgpiafiaaGreatW.PrintLast Go.Proofs.YtmenkckgpiafiaaGreatW.PrintMore Go.Proofs.YtmenkckgpiafiaaGreat.KK
/-- A marshalling buffer over a base; beneath the base the world is as it was. -/
def Buf (base : Nat) (w0 w : World) (g : Nat) (l : List UInt8) : Prop := ∃ v, MBuf base w g v l ∧ Below base w0 w
theorem Buf.below {base : Nat} {w0 w : World} {g : Nat} {l : List UInt8} (h : Buf base w0 w g l) : Below base w0 w := by obtain ⟨_, _, h⟩ := h; exact h
theorem Buf.step {base : Nat} {w0 w w' : World} {g : Nat} {v : Value} {l l' : List UInt8} (hb : MBuf base w g v l) (h0 : Below base w0 w) (h : ∃ v', MBuf base w' g v' l' ∧ Upd g v w w' ∧ (v'.ownBlock = v.ownBlock ∨ ∃ k, v'.ownBlock = some k ∧ w.heap.size ≤ k)) : Buf base w0 w' g l' := by
  obtain ⟨v', m, u, _⟩ := h
  exact ⟨v', m, h0.trans (hb.below u)⟩
theorem str_len (l : List UInt8) : (str l).length = 4 + l.length := by simp [str, be32]; omega
end Go.Proofs.YtmenkckgpiafiaaGreat
namespace Go.Proofs.YtmenkckgpiafiaaGreat
open Go.RowKit Go.Great Go.Proofs.YtmenkckgpiafiaaGreatW.PrintWords Go.Proofs.YtmenkckgpiafiaaGreatW.PrintLast Go.Proofs.YtmenkckgpiafiaaGreatW.PrintMore Go.Proofs.YtmenkckgpiafiaaGreat.KK
/-- Is a flag set? -/
def flg (f : Int) (k : Int) : Bool := bits .and .u32 f k != 0
/-- Attributes of zeros. -/
def z8 : Array Value := at8 0 0 0 0 0 0 0 (.slice none 0 0)
end Go.Proofs.YtmenkckgpiafiaaGreat
namespace Go.Proofs.YtmenkckgpiafiaaGreat
open Go.RowKit Go.ChangeShapes Go.WideShapes Go.Deep Go.Proofs.YtmenkckgpiafiaaGreatW.PrintWords
/-- The data of a Go type read as values of a kind, of which something is known. -/
structure Opn (P : Program) (t : TypeId) {α : Type} (d : Kd α) (G : α → Prop) : Prop where
  sz : P.cellsOf t = d.sz
  out : ∀ {H : Type} {enc : TypeId × Value → H} {w : World} {base : Nat} {sp : Nat → Bool} {held : Bool} {fuel : Nat} {cs : List Value} {x : DataW H × List MemPlace}, DataW.trod enc P w base sp held fuel t cs = some x → ∃ y, d.K w y cs ∧ G y
theorem opn_int {P : Program} {t : TypeId} {k : IntKind} (ht : P.underlying t = some (.int k)) (hs : P.cellsOf t = 1) : Opn P t (Kd.int k) (fun y => (Lit.int k y).wf = true) :=
  ⟨hs, fun h => by
    obtain ⟨n, rfl, _, hw⟩ := DataW.trod_int ht h
    exact ⟨n, rfl, hw⟩⟩
theorem opn_str {P : Program} {t : TypeId} (ht : P.underlying t = some .string) (hs : P.cellsOf t = 1) : Opn P t Kd.string (fun y => y.size ≤ maxLen) :=
  ⟨hs, fun h => by
    obtain ⟨s, rfl, _, hw⟩ := DataW.trod_string ht h
    exact ⟨s, rfl, hw⟩⟩
theorem opn_slice {P : Program} {t e : TypeId} {α : Type} {d : Kd α} {G : α → Prop} (ht : P.underlying t = some (.slice e)) (hs : P.cellsOf t = 1) (he : Opn P e d G) :
    Opn P t (Kd.slice e d) (fun l => l.length ≤ maxLen ∧ ∀ y ∈ l, G y) :=
  ⟨hs, fun {H enc w base sp held fuel cs x} h => by
    rcases open_slice ht h with ⟨rfl, _⟩ | ⟨a, len, cap, m, n, D, Pl, rfl, _, hl, hm, hmm, _, hi⟩
    · exact ⟨[], ⟨none, 0, rfl, Nat.le_refl _, rfl, by simp, fun h => by simp at h⟩, by simp, by simp⟩
    · have hlm : len ≤ m := by rw [hmm]; split <;> omega
      have key : ∀ j, j ≤ len → ∃ ys : List α, ys.length = j ∧ (∀ y ∈ ys, G y) ∧ ∀ i p, ys[i]? = some p → ∃ c, c.length = d.sz ∧ d.K w p c ∧ ∀ q u, c[q]? = some u → w.cell? (a.add (i * d.sz + q)) = some u := by
        intro j
        induction j with
        | zero => exact fun _ => ⟨[], rfl, by simp, fun i p hp => by simp at hp⟩
        | succ j ih =>
          intro hj
          obtain ⟨ys, hlen, hG, hc⟩ := ih (by omega)
          obtain ⟨cs', h1, h2⟩ := hi j (by omega)
          obtain ⟨y, hK, hy⟩ := he.out h2
          refine ⟨ys ++ [y], by simp [hlen], fun z hz => ?_, fun i p hp => ?_⟩
          · rcases List.mem_append.1 hz with hz | hz
            · exact hG z hz
            · rw [List.mem_singleton.1 hz]; exact hy
          · rcases Nat.lt_or_ge i ys.length with hlt | hge
            · rw [List.getElem?_append_left hlt] at hp
              exact hc i p hp
            · rw [List.getElem?_append_right hge] at hp
              have h0 : i - ys.length = 0 := by
                have := (List.getElem?_eq_some_iff.1 hp).1
                simp at this
                omega
              rw [h0] at hp
              simp at hp
              subst hp
              have hij : i = j := by omega
              subst hij
              rw [he.sz] at h1
              obtain ⟨_, hcl, hat⟩ := World.cells?_some h1
              refine ⟨cs', hcl, hK, fun q u hq => ?_⟩
              have hql := (List.getElem?_eq_some_iff.1 hq).1
              have := hat q (by omega)
              rw [← Go.Deep.add_add, this, hq]
      obtain ⟨ys, hlen, hG, hc⟩ := key len (Nat.le_refl _)
      exact ⟨ys, ⟨some a, cap, by rw [hlen], by omega, by rw [hlen], by rw [hlen]; simp only [maxLen] at hm; omega, fun _ => ⟨a, rfl, hc⟩⟩, by omega, hG⟩⟩
/-- A struct's fields, one behind the other, from an offset on. -/
def FOpn (P : Program) (fs : List Field) (off : Nat) {α : Type} (d : Kd α) (G : α → Prop) : Prop :=
  ∀ {H : Type} {enc : TypeId × Value → H} {w : World} {base : Nat} {sp : Nat → Bool} {held : Bool} {n : Nat} (cs : List Value) (xs : List (DataW H × List MemPlace)),
    (∀ (i : Nat) (f : Field), fs[i]? = some f → DataW.trod enc P w base sp held n f.type ((cs.drop f.offset).take (P.cellsOf f.type)) = xs[i]?) → xs.length = fs.length → cs.length = off + d.sz → ∃ y, d.K w y (cs.drop off) ∧ G y
theorem fopn_one {P : Program} {f : Field} {off : Nat} {α : Type} {d : Kd α} {G : α → Prop} (ho : f.offset = off) (h : Opn P f.type d G) : FOpn P [f] off d G := by
  intro H enc w base sp held n cs xs hx hl hc
  have h0 := hx 0 f rfl
  rw [ho, h.sz] at h0
  match xs, hl with
  | [x], _ =>
    obtain ⟨y, hK, hG⟩ := h.out (h0.trans rfl)
    rw [List.take_of_length_le (by rw [List.length_drop]; omega)] at hK
    exact ⟨y, hK, hG⟩
theorem fopn_cons {P : Program} {f : Field} {fs : List Field} {off : Nat} {α β : Type} {a : Kd α} {b : Kd β} {Ga : α → Prop} {Gb : β → Prop} (ho : f.offset = off) (h : Opn P f.type a Ga) (hr : FOpn P fs (off + a.sz) b Gb) :
    FOpn P (f :: fs) off (Kd.pair a b) (fun x => Ga x.1 ∧ Gb x.2) := by
  intro H enc w base sp held n cs xs hx hl hc
  have h0 := hx 0 f rfl
  rw [ho, h.sz] at h0
  match xs, hl with
  | x :: xs, hl =>
    obtain ⟨y, hK, hG⟩ := h.out (h0.trans rfl)
    obtain ⟨z, hK2, hG2⟩ := hr cs xs (fun i g hg => hx (i + 1) g hg) (by simpa using hl) (by rw [hc]; show off + (a.sz + b.sz) = _; omega)
    refine ⟨(y, z), ⟨_, _, ?_, hK, hK2⟩, hG, hG2⟩
    rw [← List.drop_drop, List.take_append_drop]
theorem opn_struct {P : Program} {t : TypeId} {fs : Array Field} {α : Type} {d : Kd α} {G : α → Prop} (ht : P.underlying t = some (.struct fs)) (hs : P.cellsOf t = d.sz) (h : FOpn P fs.toList 0 d G) : Opn P t d G :=
  ⟨hs, fun hx => by
    obtain ⟨xs, n, _, _, hcl, hxl, hf⟩ := DataW.trod_struct ht hx
    obtain ⟨y, hK, hG⟩ := h _ xs (fun i f hif => hf i f (by simpa using hif)) (by simpa using hxl) (by rw [hcl, hs]; omega)
    exact ⟨y, hK, hG⟩⟩
theorem Opn.iso {P : Program} {t : TypeId} {α β : Type} {d : Kd α} {G : α → Prop} (h : Opn P t d G) (f : β → α) (g : α → β) (hfg : ∀ a, f (g a) = a) : Opn P t (Kd.iso d f) (fun y => G (f y)) :=
  ⟨h.sz, fun hx => by
    obtain ⟨y, hK, hG⟩ := h.out hx
    refine ⟨g y, ?_, by rw [hfg]; exact hG⟩
    show d.K _ (f (g y)) _
    rw [hfg]
    exact hK⟩
theorem Opn.mono {P : Program} {t : TypeId} {α : Type} {d : Kd α} {G G' : α → Prop} (h : Opn P t d G) (hg : ∀ y, G y → G' y) : Opn P t d G' :=
  ⟨h.sz, fun hx => by
    obtain ⟨y, hK, hG⟩ := h.out hx
    exact ⟨y, hK, hg y hG⟩⟩
end Go.Proofs.YtmenkckgpiafiaaGreat
namespace Go.Proofs.YtmenkckgpiafiaaGreat
open Go.RowKit Go.Proofs.YtmenkckgpiafiaaGreatW.PrintWords Go.Proofs.YtmenkckgpiafiaaGreat.KK
def gI64 (y : Int) : Prop := -9223372036854775808 ≤ y ∧ y ≤ 9223372036854775807
def gU64 (y : Int) : Prop := 0 ≤ y ∧ y ≤ 18446744073709551615
def gStr (s : ByteArray) : Prop := s.size ≤ maxLen
def gOp (o : S79) : Prop := gI64 o.f0 ∧ gU64 o.f1 ∧ gStr o.f2
def gOps (l : List S79) : Prop := l.length ≤ maxLen ∧ ∀ e ∈ l, gOp e
theorem opnInt : Opn Tryz.prog 3 (Kd.int .i64) gI64 := (opn_int Tryz.underlying3 (by kernel_rfl)).mono fun y h => by simpa [gI64, Lit.wf, IntKind.min, IntKind.max, IntKind.signed, IntKind.bits] using h
theorem opnU64 : Opn Tryz.prog 23 (Kd.int .u64) gU64 := (opn_int Tryz.underlying23 (by kernel_rfl)).mono fun y h => by simpa [gU64, Lit.wf, IntKind.min, IntKind.max, IntKind.signed, IntKind.bits] using h
theorem opnStr : Opn Tryz.prog 9 Kd.string gStr := (opn_str Tryz.underlying9 (by kernel_rfl)).mono fun _ h => h
theorem opnOp : Opn Tryz.prog 79 k79 gOp := by
  have o := (opn_struct Tryz.underlying79 (by kernel_rfl) (fopn_cons rfl opnInt (fopn_cons rfl opnU64 (fopn_one rfl opnStr)))).iso (β := S79) (fun x => (x.f0, x.f1, x.f2)) (fun a => ⟨a.1, a.2.1, a.2.2⟩) (fun _ => rfl)
  exact o.mono fun _ h => h
theorem opnOps : Opn Tryz.prog 75 (Kd.slice 79 k79) gOps := (opn_slice Tryz.underlying75 (by kernel_rfl) opnOp).mono fun _ h => h
end Go.Proofs.YtmenkckgpiafiaaGreat
namespace Go.Proofs.YtmenkckgpiafiaaGreat
open Go.RowKit Go.Great Go.Proofs.YtmenkckgpiafiaaGreatW.PrintWords Go.Proofs.YtmenkckgpiafiaaGreatW.PrintLast Go.Proofs.YtmenkckgpiafiaaGreatW.PrintMore Go.Proofs.YtmenkckgpiafiaaGreat.KK
/-- Attributes' eight cells at a place. -/
structure At8 (w : World) (q o : Nat) (a b c d e f g : Int) (v : Value) : Prop where
  c0 : w.cell? ⟨q, o, none⟩ = some (.int .u32 a)
  c1 : w.cell? ⟨q, o + 1, none⟩ = some (.int .u64 b)
  c2 : w.cell? ⟨q, o + 2, none⟩ = some (.int .u32 c)
  c3 : w.cell? ⟨q, o + 3, none⟩ = some (.int .u32 d)
  c4 : w.cell? ⟨q, o + 4, none⟩ = some (.int .u32 e)
  c5 : w.cell? ⟨q, o + 5, none⟩ = some (.int .u32 f)
  c6 : w.cell? ⟨q, o + 6, none⟩ = some (.int .u32 g)
  c7 : w.cell? ⟨q, o + 7, none⟩ = some v
theorem At8.kept {w w' : World} {q o : Nat} {a b c d e f g : Int} {v : Value} (h : At8 w q o a b c d e f g v) (hk : w'.heap[q]? = w.heap[q]?) : At8 w' q o a b c d e f g v := by
  have k : ∀ i, w'.cell? ⟨q, i, none⟩ = w.cell? ⟨q, i, none⟩ := fun i => cell_kept hk
  exact ⟨by rw [k]; exact h.c0, by rw [k]; exact h.c1, by rw [k]; exact h.c2, by rw [k]; exact h.c3, by rw [k]; exact h.c4, by rw [k]; exact h.c5, by rw [k]; exact h.c6, by rw [k]; exact h.c7⟩
theorem At8.lt {w : World} {q o : Nat} {a b c d e f g : Int} {v : Value} (h : At8 w q o a b c d e f g v) : q < w.heap.size := World.block_lt_of_cell? w _ h.c0
theorem At8.below {w w' : World} {B q o : Nat} {a b c d e f g : Int} {v : Value} (h : At8 w q o a b c d e f g v) (hb : Below B w w') (hq : q < B) : At8 w' q o a b c d e f g v := h.kept (hb.block q hq)
/-- Attributes as bytes, part by part. -/
def p1 (a b : Int) : List UInt8 := if flg a 1 then be64 b else []
def p2 (a c d : Int) : List UInt8 := if flg a 2 then be32 c ++ be32 d else []
def p4 (a e : Int) : List UInt8 := if flg a 4 then be32 e else []
theorem be32_len (x : Int) : (be32 x).length = 4 := rfl
/-- Elements of extended attributes that lie in memory. -/
def ExtAt (w : World) (B : Nat) (A : Option Addr) (l : List S266) : Prop :=
  l = [] ∨ ∃ x p, A = some ⟨x, p, none⟩ ∧ x < B ∧ ∀ k e, l[k]? = some e → w.cell? ⟨x, p + k * 2, none⟩ = some (.string e.f0) ∧ w.cell? ⟨x, p + k * 2 + 1, none⟩ = some (.string e.f1)
theorem ExtAt.below {w w' : World} {B B' : Nat} {A : Option Addr} {l : List S266} (h : ExtAt w B A l) (hb : Below B' w w') (hB : B ≤ B') : ExtAt w' B A l := by
  rcases h with h | ⟨x, p, hA, hx, h⟩
  · exact .inl h
  · refine .inr ⟨x, p, hA, hx, fun k e he => ?_⟩
    have k2 : ∀ i, w'.cell? ⟨x, i, none⟩ = w.cell? ⟨x, i, none⟩ := fun i => cell_kept (hb.block x (by omega))
    rw [k2, k2]
    exact h k e he
theorem MBuf.alloc {base g : Nat} {w : World} {v : Value} {l : List UInt8} (hb : MBuf base w g v l) (o : Obj) : MBuf base (w.alloc o) g v l :=
  ⟨(heap_alloc_old _ _ (lt_of_blk hb.blk)).trans hb.blk, hb.own.alloc o, hb.le, hb.ne⟩
end Go.Proofs.YtmenkckgpiafiaaGreat
namespace Go.Proofs.YtmenkckgpiafiaaGreat
open Go.RowKit Go.Great Go.Proofs.YtmenkckgpiafiaaGreatW.PrintWords Go.Proofs.YtmenkckgpiafiaaGreatW.PrintLast Go.Proofs.YtmenkckgpiafiaaGreatW.PrintMore Go.Proofs.YtmenkckgpiafiaaGreat.KK
theorem spot0 {w : World} {a : Addr} {v : Value} (h : w.cell? a = some v) : a.spot = none := by
  unfold World.cell? at h
  split at h
  · split at h
    · cases h
    · rename_i hs
      simpa using hs
  · cases h
end Go.Proofs.YtmenkckgpiafiaaGreat
namespace Go.Proofs.YtmenkckgpiafiaaGreat
open Go.RowKit Go.Great Go.Proofs.YtmenkckgpiafiaaGreatW.PrintWords Go.Proofs.YtmenkckgpiafiaaGreatW.PrintLast Go.Proofs.YtmenkckgpiafiaaGreatW.PrintMore Go.Proofs.YtmenkckgpiafiaaGreat.KK
/-- A reading buffer and a block that is filled through a walk. -/
structure RSt (w0 w : World) (g o s q : Nat) (t : TypeId) (r : Option (List UInt8)) (cs : Array Value) : Prop where
  rb : RBuf w g o s r
  blk : w.heap[q]? = some (.cells cs t (0, 0))
  upd : UpdB (fun k => k = g ∨ k = q) w0 w
section
variable {w0 w w1 : World} {g o s q : Nat} {t : TypeId} {r r1 : Option (List UInt8)} {cs : Array Value}
theorem RSt.consumed (h : RSt w0 w g o s q t r cs) (hq : q ≠ g) (hb : RBuf w1 g o s r1) (u : UpdR g o w w1) : RSt w0 w1 g o s q t r1 cs :=
  ⟨hb, (u.block q (lt_of_blk h.blk) hq).trans h.blk, h.upd.trans (u.updB (.inl rfl))⟩
theorem RSt.set (h : RSt w0 w g o s q t r cs) (hq : q ≠ g) (hs : q ≠ s) (i : Nat) (v : Value) : RSt w0 (w.setCell ⟨q, i, none⟩ v) g o s q t r (cs.setIfInBounds i v) :=
  ⟨h.rb.kept (Below.heap_setCell _ _ _ _ (Ne.symm hq)) (Below.heap_setCell _ _ _ _ (Ne.symm hs)) (by simp [World.setCell]), setCell_blk h.blk _, h.upd.setCell (.inr rfl) _⟩
theorem RSt.cell (h : RSt w0 w g o s q t r cs) (i : Nat) : w.cell? ⟨q, i, none⟩ = cs[i]? := cell_of_blk h.blk i
theorem RSt.frz (h : RSt w0 w g o s q t r cs) (i : Nat) : w.frozen? ⟨q, i, none⟩ = false := frozen_of_blk h.blk i
end
section
variable (pre post : List Value) (a b c d e f g x : Int) (v u : Value)
end
/-- What attributes' parts read as. -/
def d1 (a : Int) (r : Option (List UInt8)) : Int × Option (List UInt8) := if flg a 1 then c64 r else (0, r)
def dd (r : Option (List UInt8)) : (Int × Int) × Option (List UInt8) := (((c32 r).1, (c32 (c32 r).2).1), (c32 (c32 r).2).2)
def d2 (a : Int) (r : Option (List UInt8)) : (Int × Int) × Option (List UInt8) := if flg a 2 then dd r else ((0, 0), r)
def d4 (a : Int) (r : Option (List UInt8)) : Int × Option (List UInt8) := if flg a 4 then c32 r else (0, r)
def d8 (a : Int) (r : Option (List UInt8)) : (Int × Int) × Option (List UInt8) := if flg a 8 then dd r else ((0, 0), r)
def xD : Nat → Option (List UInt8) → List S266 × Option (List UInt8)
  | 0, r => ([], r)
  | n + 1, r => (⟨bs (cB r).1, bs (cB (cB r).2).1⟩ :: (xD n (cB (cB r).2).2).1, (xD n (cB (cB r).2).2).2)
/-- Cells of extended attributes. -/
def exC : List S266 → List Value
  | [] => []
  | e :: r => .string e.f0 :: .string e.f1 :: exC r
theorem exC_app (l m : List S266) : exC (l ++ m) = exC l ++ exC m := by
  induction l with
  | nil => rfl
  | cons e r ih => simp [exC, ih]
def zl (m : Nat) : List Value := List.replicate m (.string ⟨#[]⟩)
theorem RSt.alloc {w0 w : World} {g o s q : Nat} {t : TypeId} {r : Option (List UInt8)} {cs : Array Value} (h : RSt w0 w g o s q t r cs) (x : Obj) : RSt w0 (w.alloc x) g o s q t r cs :=
  ⟨h.rb.kept (heap_alloc_old _ _ h.rb.lt.1) (heap_alloc_old _ _ h.rb.lt.2) (by simp), (heap_alloc_old _ _ (lt_of_blk h.blk)).trans h.blk, h.upd.trans ⟨rfl, rfl, rfl, by simp, fun k hk _ => heap_alloc_old _ _ hk⟩⟩
/-- The extensions' loop, at a round. -/
def LInv (w wr : World) (g o s q h n : Nat) (t : TypeId) (cs : Array Value) (r0 : Option (List UInt8)) (k : Nat) : Prop :=
  ∃ done rk, done.length = k ∧ xD n r0 = (done ++ (xD (n - k) rk).1, (xD (n - k) rk).2) ∧ RSt w wr g o s q t rk cs ∧ wr.heap[h]? = some (.cells (exC done ++ zl (2 * (n - k))).toArray 266 (0, 0))
theorem LInv.step {w wr w' : World} {g o s q h n k : Nat} {t : TypeId} {cs : Array Value} {r0 rk : Option (List UInt8)} {done : List S266} (hk : k < n) (hd : done.length = k) (hx : xD n r0 = (done ++ (xD (n - k) rk).1, (xD (n - k) rk).2)) (hR : RSt w wr g o s q t rk cs)
    (hqh : q ≠ h) (hqg : q ≠ g) (hh : w.heap.size ≤ h) (h2 : RSt wr w' g o s h 266 (cB (cB rk).2).2 (exC done ++ .string (bs (cB rk).1) :: .string (bs (cB (cB rk).2).1) :: zl (2 * (n - (k + 1)))).toArray) : LInv w w' g o s q h n t cs r0 (k + 1) := by
  have e1 : n - k = (n - (k + 1)) + 1 := by omega
  refine ⟨done ++ [⟨bs (cB rk).1, bs (cB (cB rk).2).1⟩], (cB (cB rk).2).2, by simp [hd], ?_, ⟨h2.rb, ?_, ?_⟩, ?_⟩
  · rw [hx, e1, xD]; simp
  · rw [h2.upd.block q (lt_of_blk hR.blk) (by omega)]; exact hR.blk
  · exact ⟨h2.upd.os.trans hR.upd.os, h2.upd.tape.trans hR.upd.tape, h2.upd.output.trans hR.upd.output, Nat.le_trans hR.upd.size h2.upd.size, fun k hk e => (h2.upd.block k (by have := hR.upd.size; omega) (by omega)).trans (hR.upd.block k hk e)⟩
  · rw [h2.blk, exC_app]; simp [exC]
end Go.Proofs.YtmenkckgpiafiaaGreat
namespace Go.Proofs.YtmenkckgpiafiaaGreat
open Go.RowKit Go.Great Go.Proofs.YtmenkckgpiafiaaGreatW.PrintWords Go.Proofs.YtmenkckgpiafiaaGreatW.PrintLast Go.Proofs.YtmenkckgpiafiaaGreatW.PrintMore Go.Proofs.YtmenkckgpiafiaaGreat.KK
/-- A reader eats just these bytes, and has too little with less. -/
structure Dec (B : List UInt8) (d : Option (List UInt8) → Option (List UInt8)) : Prop where
  eats : ∀ t, d (some (B ++ t)) = some t
  short : ∀ n, n < B.length → d (some (B.take n)) = none
  none : d none = none
theorem Dec.id : Dec [] (fun r => r) := ⟨fun _ => rfl, fun n h => by simp at h, rfl⟩
theorem c32_short (l : List UInt8) (h : ¬ 4 ≤ l.length) : c32 (some l) = (0, none) := by simp [c32, h]
section
variable {a b c d e f g : Int} {l : List S266}
end
end Go.Proofs.YtmenkckgpiafiaaGreat
namespace Go.Proofs.YtmenkckgpiafiaaGreat
open Go.RowKit Go.Great Go.Proofs.YtmenkckgpiafiaaGreatW.PrintWords Go.Proofs.YtmenkckgpiafiaaGreatW.PrintLast Go.Proofs.YtmenkckgpiafiaaGreatW.PrintMore Go.Proofs.YtmenkckgpiafiaaGreat.KK
/-- The first bytes of a number in n bytes, and zeros. -/
def nbs (n : Nat) (x : Int) (k : Nat) : List Int := (List.range k).map (fun i => x / 2 ^ (8 * (n - 1 - i)) % 256) ++ List.replicate (n - k) 0
theorem info5N : (Tryz.prog.info? 5).map (fun i => (i.zero, i.size, i.bytes)) = some (some (.int .u8 0), 1, 1) := by kernel_rfl
set_option maxRecDepth 5000 in
set_option maxHeartbeats 3200000 in
theorem specNum4 (x : Int) (w : World) : Calls Tryz.prog 64 #[.int .u64 x, .int .i64 4] w fun e w' => e = .returned (.string (strOfNums (nbs 4 x 4))) ∧ Below w.heap.size w w' := by
  have HB := Below.refl w.heap.size w
  go_enter Tryz.func64, Tryz.ntmps64
  go_wp2_with (first | ((with_reducible refine gate_dst (N := 8) rfl ?_); refine Kd.R_make (Kd.int .u8) _ 5 rfl (N := 8) rfl 93 _ _ rfl 4 rfl rfl Tryz.underlying93 (.int .u8 0) 1 info5N rfl (by decide) (by omega) 0 (ok := fun _ => True) (okp := fun _ => True) rfl (fun _ hk => hk) trivial (by decide) (by decide) (Below.refl _ _) (Nat.le_refl _) ?_; intro v w5 ho hb hg_ hnew_; clear hg_ hnew_; obtain ⟨g, c, rfl, hg1, hg2, cells, hcells⟩ := Kd.R_form ho (by decide)))
  have HO := Lib.hid ho
  have HW := Lib.hid hb
  have hw5 := hb.size
  clear ho hb HB hcells cells hg2
  simp only [show (List.replicate (Int.toNat 4) (0 : Int)).length = 4 from rfl] at HO ⊢
  go_loopw [11] (fun i wr => ∃ k : Nat, k ≤ 4 ∧ i = .int .i64 (k : Int) ∧ Hid ((Kd.int .u8).R 5 wr w.heap.size (fun _ => True) (.slice (some ⟨g, 0, none⟩) 4 c) (nbs 4 x k)) ∧ Hid (Below w.heap.size w wr)) (fun i _ => 4 - (intOf i).toNat)
  case atStart => exact ⟨0, by decide, rfl, HO, HW⟩
  case round =>
    clear HO HW
    obtain ⟨k, hk, rfl, HO, HB⟩ := hrel
    have hcell := fun (h : (k : Int) < 4) => Kd.R_celln 0 HO.out (k : Int) (by omega) h
    have hk5 : k = 0 ∨ k = 1 ∨ k = 2 ∨ k = 3 ∨ k = 4 := by omega
    rcases hk5 with rfl | rfl | rfl | rfl | rfl
    · obtain ⟨hx, hf⟩ := hcell (by decide)
      clear hcell hk
      simp at hx hf
      have HP := Lib.hid (Kd.R_putg HO.out (0 : Int) (x / 16777216 % 256)).1
      go_wp2_with fail
      go_roundw
      case rel => exact ⟨1, by decide, rfl, Lib.hid (by have h := HP.out; rw [show (nbs 4 x 0).set (Int.toNat 0) (x / 16777216 % 256) = nbs 4 x 1 from by simp [nbs, List.range_succ]] at h; exact h), Lib.hid (below_set HB.out hg1)⟩
      case measure => simp [intOf]
    · obtain ⟨hx, hf⟩ := hcell (by decide)
      clear hcell hk
      simp at hx hf
      have HP := Lib.hid (Kd.R_putg HO.out (1 : Int) (x / 65536 % 256)).1
      go_wp2_with fail
      go_roundw
      case rel => exact ⟨2, by decide, rfl, Lib.hid (by have h := HP.out; rw [show (nbs 4 x 1).set (Int.toNat 1) (x / 65536 % 256) = nbs 4 x 2 from by simp [nbs, List.range_succ]] at h; exact h), Lib.hid (below_set HB.out hg1)⟩
      case measure => simp [intOf]
    · obtain ⟨hx, hf⟩ := hcell (by decide)
      clear hcell hk
      simp at hx hf
      have HP := Lib.hid (Kd.R_putg HO.out (2 : Int) (x / 256 % 256)).1
      go_wp2_with fail
      go_roundw
      case rel => exact ⟨3, by decide, rfl, Lib.hid (by have h := HP.out; rw [show (nbs 4 x 2).set (Int.toNat 2) (x / 256 % 256) = nbs 4 x 3 from by simp [nbs, List.range_succ]] at h; exact h), Lib.hid (below_set HB.out hg1)⟩
      case measure => simp [intOf]
    · obtain ⟨hx, hf⟩ := hcell (by decide)
      clear hcell hk
      simp at hx hf
      have HP := Lib.hid (Kd.R_putg HO.out (3 : Int) (x % 256)).1
      go_wp2_with fail
      go_roundw
      case rel => exact ⟨4, by decide, rfl, Lib.hid (by have h := HP.out; rw [show (nbs 4 x 3).set (Int.toNat 3) (x % 256) = nbs 4 x 4 from by simp [nbs, List.range_succ]] at h; exact h), Lib.hid (below_set HB.out hg1)⟩
      case measure => simp [intOf]
    · clear hcell hk
      have hcv := own_string (P := Tryz.prog) Tryz.underlying93 Tryz.underlying5 Tryz.underlying9 (Kd.own_of_R HO.out)
      go_wp2_with fail
      go_ret
      exact ⟨rfl, HB.out⟩
set_option maxRecDepth 5000 in
set_option maxHeartbeats 3200000 in
theorem specNum8 (x : Int) (w : World) : Calls Tryz.prog 64 #[.int .u64 x, .int .i64 8] w fun e w' => e = .returned (.string (strOfNums (nbs 8 x 8))) ∧ Below w.heap.size w w' := by
  have HB := Below.refl w.heap.size w
  go_enter Tryz.func64, Tryz.ntmps64
  go_wp2_with (first | ((with_reducible refine gate_dst (N := 8) rfl ?_); refine Kd.R_make (Kd.int .u8) _ 5 rfl (N := 8) rfl 93 _ _ rfl 8 rfl rfl Tryz.underlying93 (.int .u8 0) 1 info5N rfl (by decide) (by omega) 0 (ok := fun _ => True) (okp := fun _ => True) rfl (fun _ hk => hk) trivial (by decide) (by decide) (Below.refl _ _) (Nat.le_refl _) ?_; intro v w5 ho hb hg_ hnew_; clear hg_ hnew_; obtain ⟨g, c, rfl, hg1, hg2, cells, hcells⟩ := Kd.R_form ho (by decide)))
  have HO := Lib.hid ho
  have HW := Lib.hid hb
  have hw5 := hb.size
  clear ho hb HB hcells cells hg2
  simp only [show (List.replicate (Int.toNat 8) (0 : Int)).length = 8 from rfl] at HO ⊢
  go_loopw [11] (fun i wr => ∃ k : Nat, k ≤ 8 ∧ i = .int .i64 (k : Int) ∧ Hid ((Kd.int .u8).R 5 wr w.heap.size (fun _ => True) (.slice (some ⟨g, 0, none⟩) 8 c) (nbs 8 x k)) ∧ Hid (Below w.heap.size w wr)) (fun i _ => 8 - (intOf i).toNat)
  case atStart => exact ⟨0, by decide, rfl, HO, HW⟩
  case round =>
    clear HO HW
    obtain ⟨k, hk, rfl, HO, HB⟩ := hrel
    have hcell := fun (h : (k : Int) < 8) => Kd.R_celln 0 HO.out (k : Int) (by omega) h
    have hk5 : k = 0 ∨ k = 1 ∨ k = 2 ∨ k = 3 ∨ k = 4 ∨ k = 5 ∨ k = 6 ∨ k = 7 ∨ k = 8 := by omega
    rcases hk5 with rfl | rfl | rfl | rfl | rfl | rfl | rfl | rfl | rfl
    · obtain ⟨hx, hf⟩ := hcell (by decide)
      clear hcell hk
      simp at hx hf
      have HP := Lib.hid (Kd.R_putg HO.out (0 : Int) (x / 72057594037927936 % 256)).1
      go_wp2_with fail
      go_roundw
      case rel => exact ⟨1, by decide, rfl, Lib.hid (by have h := HP.out; rw [show (nbs 8 x 0).set (Int.toNat 0) (x / 72057594037927936 % 256) = nbs 8 x 1 from by simp [nbs, List.range_succ]] at h; exact h), Lib.hid (below_set HB.out hg1)⟩
      case measure => simp [intOf]
    · obtain ⟨hx, hf⟩ := hcell (by decide)
      clear hcell hk
      simp at hx hf
      have HP := Lib.hid (Kd.R_putg HO.out (1 : Int) (x / 281474976710656 % 256)).1
      go_wp2_with fail
      go_roundw
      case rel => exact ⟨2, by decide, rfl, Lib.hid (by have h := HP.out; rw [show (nbs 8 x 1).set (Int.toNat 1) (x / 281474976710656 % 256) = nbs 8 x 2 from by simp [nbs, List.range_succ]] at h; exact h), Lib.hid (below_set HB.out hg1)⟩
      case measure => simp [intOf]
    · obtain ⟨hx, hf⟩ := hcell (by decide)
      clear hcell hk
      simp at hx hf
      have HP := Lib.hid (Kd.R_putg HO.out (2 : Int) (x / 1099511627776 % 256)).1
      go_wp2_with fail
      go_roundw
      case rel => exact ⟨3, by decide, rfl, Lib.hid (by have h := HP.out; rw [show (nbs 8 x 2).set (Int.toNat 2) (x / 1099511627776 % 256) = nbs 8 x 3 from by simp [nbs, List.range_succ]] at h; exact h), Lib.hid (below_set HB.out hg1)⟩
      case measure => simp [intOf]
    · obtain ⟨hx, hf⟩ := hcell (by decide)
      clear hcell hk
      simp at hx hf
      have HP := Lib.hid (Kd.R_putg HO.out (3 : Int) (x / 4294967296 % 256)).1
      go_wp2_with fail
      go_roundw
      case rel => exact ⟨4, by decide, rfl, Lib.hid (by have h := HP.out; rw [show (nbs 8 x 3).set (Int.toNat 3) (x / 4294967296 % 256) = nbs 8 x 4 from by simp [nbs, List.range_succ]] at h; exact h), Lib.hid (below_set HB.out hg1)⟩
      case measure => simp [intOf]
    · obtain ⟨hx, hf⟩ := hcell (by decide)
      clear hcell hk
      simp at hx hf
      have HP := Lib.hid (Kd.R_putg HO.out (4 : Int) (x / 16777216 % 256)).1
      go_wp2_with fail
      go_roundw
      case rel => exact ⟨5, by decide, rfl, Lib.hid (by have h := HP.out; rw [show (nbs 8 x 4).set (Int.toNat 4) (x / 16777216 % 256) = nbs 8 x 5 from by simp [nbs, List.range_succ]] at h; exact h), Lib.hid (below_set HB.out hg1)⟩
      case measure => simp [intOf]
    · obtain ⟨hx, hf⟩ := hcell (by decide)
      clear hcell hk
      simp at hx hf
      have HP := Lib.hid (Kd.R_putg HO.out (5 : Int) (x / 65536 % 256)).1
      go_wp2_with fail
      go_roundw
      case rel => exact ⟨6, by decide, rfl, Lib.hid (by have h := HP.out; rw [show (nbs 8 x 5).set (Int.toNat 5) (x / 65536 % 256) = nbs 8 x 6 from by simp [nbs, List.range_succ]] at h; exact h), Lib.hid (below_set HB.out hg1)⟩
      case measure => simp [intOf]
    · obtain ⟨hx, hf⟩ := hcell (by decide)
      clear hcell hk
      simp at hx hf
      have HP := Lib.hid (Kd.R_putg HO.out (6 : Int) (x / 256 % 256)).1
      go_wp2_with fail
      go_roundw
      case rel => exact ⟨7, by decide, rfl, Lib.hid (by have h := HP.out; rw [show (nbs 8 x 6).set (Int.toNat 6) (x / 256 % 256) = nbs 8 x 7 from by simp [nbs, List.range_succ]] at h; exact h), Lib.hid (below_set HB.out hg1)⟩
      case measure => simp [intOf]
    · obtain ⟨hx, hf⟩ := hcell (by decide)
      clear hcell hk
      simp at hx hf
      have HP := Lib.hid (Kd.R_putg HO.out (7 : Int) (x % 256)).1
      go_wp2_with fail
      go_roundw
      case rel => exact ⟨8, by decide, rfl, Lib.hid (by have h := HP.out; rw [show (nbs 8 x 7).set (Int.toNat 7) (x % 256) = nbs 8 x 8 from by simp [nbs, List.range_succ]] at h; exact h), Lib.hid (below_set HB.out hg1)⟩
      case measure => simp [intOf]
    · clear hcell hk
      have hcv := own_string (P := Tryz.prog) Tryz.underlying93 Tryz.underlying5 Tryz.underlying9 (Kd.own_of_R HO.out)
      go_wp2_with fail
      go_ret
      exact ⟨rfl, HB.out⟩
theorem nums4 (x : Int) : strOfNums (nbs 4 x 4) = bs (be32 x) := by
  simp [nbs, List.range_succ, strOfNums, bs, be32, bt]
theorem nums8 (x : Int) : strOfNums (nbs 8 x 8) = bs (be64 x) := by
  have h : ∀ a b : Int, 0 < a → x / (a * b) = x / a / b := fun a b ha => (Int.ediv_ediv_of_nonneg (by omega)).symm
  simp only [nbs, List.range_succ, strOfNums, bs, be64, be32, bt]
  have e1 := h 4294967296 16777216 (by omega)
  have e2 := h 4294967296 65536 (by omega)
  have e3 := h 4294967296 256 (by omega)
  simp at e1 e2 e3 ⊢
  rw [e1, e2, e3]
  simp
theorem bs_append (a b : List UInt8) : bs (a ++ b) = bs a ++ bs b := tl_inj (by rw [tl_append, tl_bs, tl_bs, tl_bs])
theorem bs_size (a : List UInt8) : (bs a).size = a.length := by simp [bs, ByteArray.size]
theorem specN4 (x : Int) (w : World) : Calls Tryz.prog 64 #[.int .u64 x, .int .i64 4] w fun e w' => e = .returned (.string (bs (be32 x))) ∧ Below w.heap.size w w' := by
  have h := specNum4 x w
  rwa [nums4] at h
theorem specN8 (x : Int) (w : World) : Calls Tryz.prog 64 #[.int .u64 x, .int .i64 8] w fun e w' => e = .returned (.string (bs (be64 x))) ∧ Below w.heap.size w w' := by
  have h := specNum8 x w
  rwa [nums8] at h
set_option maxRecDepth 5000 in
set_option maxHeartbeats 1600000 in
theorem specStr (s : ByteArray) (w : World) (hs : s.size ≤ 4294967295) : Calls Tryz.prog 66 #[.string s] w fun e w' => e = .returned (.string (bs (str (tl s)))) ∧ Below w.heap.size w w' := by
  obtain ⟨n, hn⟩ : ∃ n : Int, (s.size : Int) = n := ⟨_, rfl⟩
  have hn0 : 0 ≤ n := by omega
  have hn1 : n ≤ 4294967295 := by omega
  have u1 : IntKind.u64.wrap n = n := by unfold IntKind.wrap; simp [IntKind.signed, IntKind.bits]; omega
  have hsz : ¬ (9223372036854775807 < (bs (be32 n)).size + s.size) := by rw [bs_size, be32_len]; omega
  have hret : bs (be32 n) ++ s = bs (str (tl s)) := by
    unfold str
    rw [bs_append, bs_tl, tl_length, hn]
  go_enter Tryz.func66, Tryz.ntmps66
  go_wp2_with fail
  refine (specN4 n w).mono ?_
  rintro e w1 ⟨rfl, hb⟩
  have HB := Lib.hid hb
  clear hb
  go_wp2_with fail
  go_ret
  exact ⟨rfl, HB.out⟩
end Go.Proofs.YtmenkckgpiafiaaGreat
namespace Go.Proofs.YtmenkckgpiafiaaGreat
open Go.RowKit Go.Great Go.Proofs.YtmenkckgpiafiaaGreatW.PrintWords Go.Proofs.YtmenkckgpiafiaaGreatW.PrintLast Go.Proofs.YtmenkckgpiafiaaGreatW.PrintMore Go.Proofs.YtmenkckgpiafiaaGreat.KK
/-- The reference's attributes lie in a block of the call's own. -/
def SpB (w wx : World) (cs : Array Value) : Prop := Below w.heap.size w wx ∧ wx.heap[w.heap.size]? = some (.cells cs 40 (0, 0))
theorem SpB.step {w wx wy : World} {cs : Array Value} (h : SpB w wx cs) (hb : Below wx.heap.size wx wy) : SpB w wy cs := ⟨h.1.trans (hb.mono h.1.size), (hb.block _ (lt_of_blk h.2)).trans h.2⟩
theorem SpB.left {w wx : World} {cs : Array Value} (h : SpB w wx cs) : Below w.heap.size w wx := h.1
theorem SpB.drew {w wx : World} {cs : Array Value} (h : SpB w wx cs) : SpB w wx.drew cs := And.intro (below_drew h.1) h.2
end Go.Proofs.YtmenkckgpiafiaaGreat
namespace Go.Proofs.YtmenkckgpiafiaaGreat
open Go.RowKit Go.Great Go.Proofs.YtmenkckgpiafiaaGreatW.PrintWords Go.Proofs.YtmenkckgpiafiaaGreatW.PrintLast Go.Proofs.YtmenkckgpiafiaaGreatW.PrintMore Go.Proofs.YtmenkckgpiafiaaGreat.KK
/-- The reader's cells: what is left, short, open. -/
def rdC (r : Option (List UInt8)) (op : Bool) : Array Value :=
  match r with
  | some l => #[.string (bs l), .bool false, .bool op]
  | none => #[.string ⟨#[]⟩, .bool true, .bool op]
/-- The number of the first bytes. -/
def vn (l : List UInt8) : Nat → Int
  | 0 => 0
  | k + 1 => vn l k * 256 + gi l k
theorem vn_range (l : List UInt8) (k : Nat) (hk : k ≤ 7) : 0 ≤ vn l k ∧ vn l k < 72057594037927936 := by
  have g := gi_range l
  have h0 := g 0
  have h1 := g 1
  have h2 := g 2
  have h3 := g 3
  have h4 := g 4
  have h5 := g 5
  have h6 := g 6
  rcases (by omega : k = 0 ∨ k = 1 ∨ k = 2 ∨ k = 3 ∨ k = 4 ∨ k = 5 ∨ k = 6 ∨ k = 7) with rfl | rfl | rfl | rfl | rfl | rfl | rfl | rfl <;> simp only [vn] <;> omega
theorem vn4 (l : List UInt8) : vn l 4 = rd32 l := by simp only [vn, rd32]; omega
theorem vn8 (l : List UInt8) : vn l 8 = rd64 l := by
  have e : ∀ i, gi (l.drop 4) i = gi l (4 + i) := fun i => by
    unfold gi
    rw [List.getD_eq_getElem?_getD, List.getD_eq_getElem?_getD, List.getElem?_drop]
  simp only [vn, rd64, rd32, e, Nat.reduceAdd]
  omega
theorem or_byte (x y : Int) (hx0 : 0 ≤ x) (hx1 : x < 72057594037927936) (hy0 : 0 ≤ y) (hy1 : y ≤ 255) : bits .or .u64 (x * 256) y = x * 256 + y :=
  bits_join .u64 64 (by decide) wraps_u64 8 (x * 256) y (by omega) (by omega) (by omega) hy0 (by omega) (by omega)
set_option maxRecDepth 5000 in
set_option maxHeartbeats 1600000 in
theorem numNone (g : Nat) (r : Option (List UInt8)) (op : Bool) (n : Nat) (w : World) (hg : w.heap[g]? = some (.cells (rdC r op) 143 (0, 0))) (hn : 0 < n) (hn8 : n ≤ 8) (hr : ∀ l, r = some l → l.length < n) :
    Calls Tryz.prog 94 #[.pointer (some ⟨g, 0, none⟩), .int .i64 (n : Int)] w fun e w' => e = .returned (.int .u64 0) ∧ w'.heap[g]? = some (.cells (rdC none op) 143 (0, 0)) ∧ UpdB (fun k => k = g) w w' := by
  obtain ⟨s, b, hs, hlt⟩ : ∃ s b, rdC r op = #[.string s, .bool b, .bool op] ∧ s.size < n := by
    cases r with
    | none => exact ⟨_, _, rfl, hn⟩
    | some l => exact ⟨_, _, rfl, by rw [bs_size]; exact hr l rfl⟩
  rw [hs] at hg
  clear hs hr
  have c0 : w.cell? ⟨g, 0, none⟩ = some (.string s) := by rw [cell_of_blk hg]; rfl
  have c1 : w.cell? ⟨g, 1, none⟩ = some (.bool b) := by rw [cell_of_blk hg]; rfl
  have f0 := frozen_of_blk hg 0
  have f1 := frozen_of_blk hg 1
  have d0 : decide ((s.size : Int) < (n : Int)) = true := by simp; omega
  have d1 : (s.size : Int) < (n : Int) := by omega
  have hfin : ((w.setCell ⟨g, 1, none⟩ (.bool true)).setCell ⟨g, 0, none⟩ (.string ⟨#[]⟩)).heap[g]? = some (.cells (rdC none op) 143 (0, 0)) := (setCell_blk (i := 0) (setCell_blk (i := 1) hg (.bool true)) (.string ⟨#[]⟩)).trans rfl
  have hup : UpdB (fun k => k = g) w ((w.setCell ⟨g, 1, none⟩ (.bool true)).setCell ⟨g, 0, none⟩ (.string ⟨#[]⟩)) := ((UpdB.refl (fun k => k = g) w).setCell (a := ⟨g, 1, none⟩) rfl _).setCell (a := ⟨g, 0, none⟩) rfl _
  have HF := Lib.hid hfin
  have HU := Lib.hid hup
  clear hg hfin hup hlt
  go_enter Tryz.func94, Tryz.ntmps94
  go_wp2_with fail
  go_ret
  exact ⟨rfl, HF.out, HU.out⟩
set_option maxRecDepth 5000 in
set_option maxHeartbeats 1600000 in
theorem numSome (g : Nat) (l : List UInt8) (op : Bool) (n : Nat) (w : World) (hg : w.heap[g]? = some (.cells (rdC (some l) op) 143 (0, 0))) (hn8 : n ≤ 8) (hr : n ≤ l.length) (hl : l.length ≤ 1000000) :
    Calls Tryz.prog 94 #[.pointer (some ⟨g, 0, none⟩), .int .i64 (n : Int)] w fun e w' => e = .returned (.int .u64 (vn l n)) ∧ w'.heap[g]? = some (.cells (rdC (some (l.drop n)) op) 143 (0, 0)) ∧ UpdB (fun k => k = g) w w' := by
  have c0 : w.cell? ⟨g, 0, none⟩ = some (.string (bs l)) := by rw [cell_of_blk hg]; rfl
  have f0 := frozen_of_blk hg 0
  have hsz : (bs l).size = l.length := bs_size l
  have d1 : ¬ ((bs l).size : Int) < (n : Int) := by omega
  have hfin : (w.setCell ⟨g, 0, none⟩ (.string (bs (l.drop n)))).heap[g]? = some (.cells (rdC (some (l.drop n)) op) 143 (0, 0)) := (setCell_blk (i := 0) hg _).trans rfl
  have hup : UpdB (fun k => k = g) w (w.setCell ⟨g, 0, none⟩ (.string (bs (l.drop n)))) := (UpdB.refl (fun k => k = g) w).setCell (a := ⟨g, 0, none⟩) rfl _
  have HF := Lib.hid hfin
  have HU := Lib.hid hup
  clear hg hfin hup
  go_enter Tryz.func94, Tryz.ntmps94
  go_wp2_with fail
  go_loopw [5, 21] (fun x i wr => wr = w ∧ ∃ k : Nat, k ≤ n ∧ i = .int .i64 (k : Int) ∧ x = .int .u64 (vn l k)) (fun _ i _ => n - (intOf i).toNat)
  case atStart => exact ⟨rfl, 0, Nat.zero_le _, rfl, rfl⟩
  case round =>
    obtain ⟨rfl, k, hk, rfl, rfl⟩ := hrel
    by_cases hlt : k < n
    · have hv := vn_range l k (by omega)
      have hb := gi_range l k
      have w1 : IntKind.u64.wrap (vn l k * 256) = vn l k * 256 := wraps_u64 _ (by omega) (by omega)
      have w2 := or_byte (vn l k) (gi l k) hv.1 hv.2 hb.1 hb.2
      have hkz : (k : Int) < ((bs l).size : Int) := by omega
      have hgi : ∀ h : k < (bs l).size, ((bs l)[k].toNat : Int) = gi l k := fun h => by
        have hkl : k < l.length := by omega
        unfold gi
        rw [List.getD_eq_getElem?_getD, List.getElem?_eq_getElem hkl]
        rfl
      have w3 : ∀ h : k < (bs l).size, IntKind.u64.wrap ((bs l)[k].toNat : Int) = gi l k := fun h => by rw [hgi h]; exact wraps_u64 _ (by omega) (by omega)
      have HQ := Lib.hid w3
      have W2 := Lib.hid w2
      clear hgi w3 w2
      go_wp2_with fail
      go_roundw
      case rel => exact ⟨trivial, k + 1, by omega, by go_num, by rw [HQ.out, W2.out]; rfl⟩
      case measure => simp [intOf]; omega
    · obtain rfl : k = n := by omega
      have hk0 : (0 : Int) ≤ (k : Int) := by omega
      have hk1 : (k : Int) ≤ ((bs l).size : Int) := by omega
      have hex : (bs l).extract k l.length = bs (l.drop k) := tl_inj (by rw [tl_extract, tl_bs, tl_bs, List.take_length])
      go_wp2_with fail
      go_ret
      exact ⟨rfl, HF.out, HU.out⟩
/-- What the reader's number is, as the library's. -/
theorem num4C (g : Nat) (r : Option (List UInt8)) (op : Bool) (w : World) (hg : w.heap[g]? = some (.cells (rdC r op) 143 (0, 0))) (hl : ∀ l, r = some l → l.length ≤ 1000000) :
    Calls Tryz.prog 94 #[.pointer (some ⟨g, 0, none⟩), .int .i64 4] w fun e w' => e = .returned (.int .u64 (c32 r).1) ∧ w'.heap[g]? = some (.cells (rdC (c32 r).2 op) 143 (0, 0)) ∧ UpdB (fun k => k = g) w w' := by
  by_cases h : ∀ l, r = some l → l.length < 4
  · have e : c32 r = (0, none) := by
      cases r with
      | none => rfl
      | some l => exact c32_short l (by have := h l rfl; omega)
    rw [e]
    exact numNone g r op 4 w hg (by omega) (by omega) h
  · cases r with
    | none => exact absurd (fun l h => by cases h) h
    | some l =>
      have h4 : 4 ≤ l.length := by
        refine Nat.le_of_not_lt (fun h5 => h (fun m hm => ?_))
        cases hm
        exact h5
      have e : c32 (some l) = (rd32 l, some (l.drop 4)) := by simp [c32, h4]
      rw [e, ← vn4]
      exact numSome g l op 4 w hg (by omega) h4 (hl l rfl)
theorem num8C (g : Nat) (r : Option (List UInt8)) (op : Bool) (w : World) (hg : w.heap[g]? = some (.cells (rdC r op) 143 (0, 0))) (hl : ∀ l, r = some l → l.length ≤ 1000000) :
    Calls Tryz.prog 94 #[.pointer (some ⟨g, 0, none⟩), .int .i64 8] w fun e w' => e = .returned (.int .u64 (c64 r).1) ∧ w'.heap[g]? = some (.cells (rdC (c64 r).2 op) 143 (0, 0)) ∧ UpdB (fun k => k = g) w w' := by
  by_cases h : ∀ l, r = some l → l.length < 8
  · have e : c64 r = (0, none) := by
      cases r with
      | none => rfl
      | some l => have := h l rfl; simp [c64]; omega
    rw [e]
    exact numNone g r op 8 w hg (by omega) (by omega) h
  · cases r with
    | none => exact absurd (fun l h => by cases h) h
    | some l =>
      have h4 : 8 ≤ l.length := by
        refine Nat.le_of_not_lt (fun h5 => h (fun m hm => ?_))
        cases hm
        exact h5
      have e : c64 (some l) = (rd64 l, some (l.drop 8)) := by simp [c64, h4]
      rw [e, ← vn8]
      exact numSome g l op 8 w hg (by omega) h4 (hl l rfl)
end Go.Proofs.YtmenkckgpiafiaaGreat
namespace Go.Proofs.YtmenkckgpiafiaaGreat
open Go.RowKit Go.Great Go.Proofs.YtmenkckgpiafiaaGreatW.PrintWords Go.Proofs.YtmenkckgpiafiaaGreatW.PrintLast Go.Proofs.YtmenkckgpiafiaaGreatW.PrintMore Go.Proofs.YtmenkckgpiafiaaGreat.KK
def smallR (r : Option (List UInt8)) : Prop := ∀ l, r = some l → l.length ≤ 1000000
theorem small32 {r : Option (List UInt8)} (h : smallR r) : smallR (c32 r).2 := by
  intro l hl
  cases r with
  | none => cases hl
  | some m =>
    have := h m rfl
    simp only [c32] at hl
    split at hl
    · obtain rfl := Option.some.inj hl
      rw [List.length_drop]; omega
    · cases hl
theorem c32_zero {r : Option (List UInt8)} (h : (c32 r).2 = none) : (c32 r).1 = 0 := by
  cases r with
  | none => rfl
  | some l =>
    simp only [c32] at h ⊢
    split at h
    · cases h
    · rw [if_neg (by assumption)]
set_option maxRecDepth 5000 in
set_option maxHeartbeats 1600000 in
theorem textC (g : Nat) (r : Option (List UInt8)) (op : Bool) (w : World) (hg : w.heap[g]? = some (.cells (rdC r op) 143 (0, 0))) (hs : smallR r) :
    Calls Tryz.prog 93 #[.pointer (some ⟨g, 0, none⟩)] w fun e w' => e = .returned (.string (bs (cB r).1)) ∧ w'.heap[g]? = some (.cells (rdC (cB r).2 op) 143 (0, 0)) ∧ UpdB (fun k => k = g) w w' := by
  have C := Lib.hid (num4C g r op w hg hs)
  have hs2 := small32 hs
  have hz := @c32_zero r
  have hx := c32_range r
  have hcB : cB r = (match c32 r with | (x, some l) => if x ≤ (l.length : Int) then (l.take x.toNat, some (l.drop x.toNat)) else ([], none) | (_, none) => ([], none)) := rfl
  clear hg hs
  generalize c32 r = p at *
  obtain ⟨x, r1⟩ := p
  obtain ⟨hx0, hx1⟩ := hx
  dsimp only at hx0 hx1 hz hs2 C
  cases r1 with
  | none =>
    obtain rfl : x = 0 := hz rfl
    rw [hcB]
    clear hcB hz
    go_enter Tryz.func93, Tryz.ntmps93
    go_wp2_with fail
    refine C.out.mono ?_
    rintro e w1 ⟨rfl, hg1, hu1⟩
    have c0 : w1.cell? ⟨g, 0, none⟩ = some (.string ⟨#[]⟩) := by rw [cell_of_blk hg1]; rfl
    have f0 := frozen_of_blk hg1 0
    have HF := Lib.hid (show (w1.setCell ⟨g, 0, none⟩ (.string ⟨#[]⟩)).heap[g]? = some (.cells (rdC none op) 143 (0, 0)) from (setCell_blk (i := 0) hg1 (.string ⟨#[]⟩)).trans rfl)
    have HU := Lib.hid (hu1.setCell (a := ⟨g, 0, none⟩) rfl (.string ⟨#[]⟩))
    clear hg1 hu1 C
    have z0 : (⟨#[]⟩ : ByteArray).size = 0 := rfl
    go_wp2_with fail
    go_ret
    exact ⟨rfl, HF.out, HU.out⟩
  | some l =>
    have hl := hs2 l rfl
    have hsz := bs_size l
    clear hz hs2
    by_cases hle : x ≤ (l.length : Int)
    · rw [hcB, show (match ((x, some l) : Int × Option (List UInt8)) with | (x, some l) => if x ≤ (l.length : Int) then (l.take x.toNat, some (l.drop x.toNat)) else ([], none) | (_, none) => ([], none)) = (l.take x.toNat, some (l.drop x.toNat)) from if_pos hle]
      clear hcB
      obtain ⟨n, rfl⟩ : ∃ n : Nat, x = (n : Int) := ⟨x.toNat, by omega⟩
      rw [Int.toNat_natCast]
      have hn : n ≤ l.length := by omega
      have hex : (bs l).extract n l.length = bs (l.drop n) := tl_inj (by rw [tl_extract, tl_bs, tl_bs, List.take_length])
      have hex0 : (bs l).extract 0 n = bs (l.take n) := tl_inj (by rw [tl_extract, tl_bs, tl_bs, List.drop_zero])
      have hk1 : (n : Int) ≤ ((bs l).size : Int) := by omega
      have hk0 : (0 : Int) ≤ (n : Int) := by omega
      have ul : IntKind.u64.wrap (l.length : Int) = (l.length : Int) := wraps_u64 _ (by omega) (by omega)
      have d1 : ¬ ((l.length : Int) < (n : Int)) := by omega
      go_enter Tryz.func93, Tryz.ntmps93
      go_wp2_with fail
      refine C.out.mono ?_
      rintro e w1 ⟨rfl, hg1, hu1⟩
      have c0 : w1.cell? ⟨g, 0, none⟩ = some (.string (bs l)) := by rw [cell_of_blk hg1]; rfl
      have f0 := frozen_of_blk hg1 0
      have HF := Lib.hid (show (w1.setCell ⟨g, 0, none⟩ (.string (bs (l.drop n)))).heap[g]? = some (.cells (rdC (some (l.drop n)) op) 143 (0, 0)) from (setCell_blk (i := 0) hg1 (.string (bs (l.drop n)))).trans rfl)
      have HU := Lib.hid (hu1.setCell (a := ⟨g, 0, none⟩) rfl (.string (bs (l.drop n))))
      clear hg1 hu1 C hx0 hx1 hle
      go_wp2_with fail
      go_ret
      exact ⟨rfl, HF.out, HU.out⟩
    · rw [hcB, show (match ((x, some l) : Int × Option (List UInt8)) with | (x, some l) => if x ≤ (l.length : Int) then (l.take x.toNat, some (l.drop x.toNat)) else ([], none) | (_, none) => ([], none)) = ([], none) from if_neg hle]
      clear hcB
      have ul : IntKind.u64.wrap (l.length : Int) = (l.length : Int) := wraps_u64 _ (by omega) (by omega)
      have d1 : (l.length : Int) < x := by omega
      go_enter Tryz.func93, Tryz.ntmps93
      go_wp2_with fail
      refine C.out.mono ?_
      rintro e w1 ⟨rfl, hg1, hu1⟩
      have c0 : w1.cell? ⟨g, 0, none⟩ = some (.string (bs l)) := by rw [cell_of_blk hg1]; rfl
      have c1 : w1.cell? ⟨g, 1, none⟩ = some (.bool false) := by rw [cell_of_blk hg1]; rfl
      have f0 := frozen_of_blk hg1 0
      have f1 := frozen_of_blk hg1 1
      have HF := Lib.hid (show ((w1.setCell ⟨g, 1, none⟩ (.bool true)).setCell ⟨g, 0, none⟩ (.string ⟨#[]⟩)).heap[g]? = some (.cells (rdC none op) 143 (0, 0)) from (setCell_blk (i := 0) (setCell_blk (i := 1) hg1 (.bool true)) (.string ⟨#[]⟩)).trans rfl)
      have HU := Lib.hid ((hu1.setCell (a := ⟨g, 1, none⟩) rfl (.bool true)).setCell (a := ⟨g, 0, none⟩) rfl (.string ⟨#[]⟩))
      clear hg1 hu1 C hx0 hx1 hle
      go_wp2_with fail
      go_ret
      exact ⟨rfl, HF.out, HU.out⟩
end Go.Proofs.YtmenkckgpiafiaaGreat
namespace Go.Proofs.YtmenkckgpiafiaaGreat
open Go.RowKit Go.Great Go.Proofs.YtmenkckgpiafiaaGreatW.PrintWords Go.Proofs.YtmenkckgpiafiaaGreatW.PrintLast Go.Proofs.YtmenkckgpiafiaaGreatW.PrintMore Go.Proofs.YtmenkckgpiafiaaGreat.KK
/-- Bytes in a row of the call's own: its cells may be written. -/
def OwnR (base : Nat) (w : World) (v : Value) (l : List UInt8) : Prop :=
  ∃ s cap, v = .slice (some ⟨s, 0, none⟩) l.length cap ∧ base ≤ s ∧ (∃ cur fr, w.heap[s]? = some (.cells cur 5 fr)) ∧ l.length ≤ cap ∧
    (∀ i, i < cap → (w.cell? ⟨s, i, none⟩).isSome = true ∧ w.frozen? ⟨s, i, none⟩ = false) ∧ ∀ j b, l[j]? = some b → w.cell? ⟨s, j, none⟩ = some (u8 b)
theorem setCells_blk (b : Nat) : ∀ (vs : List Value) (o : Nat) (w : World) {cur : Array Value} {t : TypeId} {fr : Nat × Nat}, w.heap[b]? = some (.cells cur t fr) → ∃ cur', (w.setCells b o vs).heap[b]? = some (.cells cur' t fr)
  | [], _, _, _, _, _, h => ⟨_, h⟩
  | v :: r, o, w, cur, t, fr, h => by
    rw [World.setCells]
    refine setCells_blk b r (o + 1) _ (cur := cur.setIfInBounds o v) ?_
    simp [World.setCell, Array.getElem?_modify, h]
theorem setCells_other (b : Nat) : ∀ (vs : List Value) (o : Nat) (w : World) (k : Nat), k ≠ b → (w.setCells b o vs).heap[k]? = w.heap[k]?
  | [], _, _, _, _ => rfl
  | v :: r, o, w, k, hk => by
    rw [World.setCells, setCells_other b r (o + 1) _ k hk]
    exact Below.heap_setCell _ _ _ _ hk
theorem setCells_world (b : Nat) : ∀ (vs : List Value) (o : Nat) (w : World), (w.setCells b o vs).os = w.os ∧ (w.setCells b o vs).tape = w.tape ∧ (w.setCells b o vs).output = w.output ∧ (w.setCells b o vs).heap.size = w.heap.size
  | [], _, _ => ⟨rfl, rfl, rfl, rfl⟩
  | v :: r, o, w => by
    rw [World.setCells]
    obtain ⟨h1, h2, h3, h4⟩ := setCells_world b r (o + 1) (w.setCell ⟨b, o, none⟩ v)
    exact ⟨h1, h2, h3, by rw [h4]; simp [World.setCell]⟩
theorem OwnR.of_own {base : Nat} {w : World} {v : Value} {l : List UInt8} (h : w.ownsRow base 5 1 v l.length (u8s l)) (hl : l ≠ []) : OwnR base w v l := by
  rcases h.2 with ⟨_, h2⟩ | ⟨s, cap, cur, rfl, hs, hh, h1, h2, h3⟩
  · exact absurd (List.eq_nil_of_length_eq_zero h2) hl
  · refine ⟨s, cap, rfl, hs, ⟨cur, _, hh⟩, by omega, fun i hi => ⟨?_, frozen_of_blk hh i⟩, fun j b hj => ?_⟩
    · rw [cell_of_blk hh]
      simp
      omega
    · have hlt := (List.getElem?_eq_some_iff.1 hj).1
      rw [h.cellAt j (by omega)]
      simp [u8s, hj]
theorem OwnR.append {base : Nat} {w : World} {v : Value} {l : List UInt8} (h : OwnR base w v l) (ty : TypeId) (ad : Addr) (m c : Nat) (nb : List UInt8) (hm : nb.length = m) (hsrc : ∀ j b, nb[j]? = some b → w.cell? (ad.add j) = some (u8 b)) (hbase : base ≤ w.heap.size) (hlen : l.length + m ≤ 1000000000000) :
    ∃ v' w', (Builtin.append_ #[93, 93] ty #[v, .slice (some ad) m c]).run Tryz.prog w = .ok v' w' ∧ OwnR base w' v' (l ++ nb) ∧ w.grownBy w' v.ownBlock ∧ (v'.ownBlock = v.ownBlock ∨ ∃ k, v'.ownBlock = some k ∧ w.heap.size ≤ k) := by
  obtain ⟨i, hi, hzz⟩ := Option.map_eq_some_iff.1 info8
  simp only [Prod.mk.injEq] at hzz
  obtain ⟨hz, hs1, hb1⟩ := hzz
  obtain ⟨s, cap, rfl, hs, ⟨cur, fr, hh⟩, hcap, hcells, hat⟩ := h
  have hnl : (u8s nb).length = m := by simp [u8s, hm]
  have hnews : ∀ j u, (u8s nb)[j]? = some u → w.cell? (ad.add j) = some u := fun j u hj => by
    simp only [u8s, List.getElem?_map, Option.map_eq_some_iff] at hj
    obtain ⟨b, hb, rfl⟩ := hj
    exact hsrc j b hb
  have hone : ∀ u ∈ u8s nb, u.oneCell' = true := fun u hu => by
    simp only [u8s, List.mem_map] at hu
    obtain ⟨b, _, rfl⟩ := hu
    rfl
  by_cases hroom : l.length + m ≤ cap
  · have hr := run_append_room_cells (P := Tryz.prog) (w := w) 93 ty 5 i Tryz.underlying93 hi s 0 l.length cap ad m c (u8s nb) (by rw [hs1, hnl]; omega) hnews hone hroom
      (fun j hj => by rw [hs1]; have := (hcells (0 + l.length * 1 + j) (by omega)).1; exact this) (fun j hj => by rw [hs1]; exact (hcells (0 + l.length * 1 + j) (by omega)).2)
    rw [hs1] at hr
    have e0 : 0 + l.length * 1 = l.length := by omega
    rw [e0] at hr
    obtain ⟨w1, w2, w3, w4⟩ := setCells_world s (u8s nb) l.length w
    refine ⟨_, _, hr, ⟨s, cap, by rw [List.length_append, hm], hs, ?_, by rw [List.length_append]; omega, fun k hk => ⟨?_, ?_⟩, fun j b hj => ?_⟩, ⟨w1, w2, w3, by omega, fun k _ hk => setCells_other s _ _ _ k (fun e => hk (by rw [e]; rfl))⟩, .inl rfl⟩
    · obtain ⟨cur', hc'⟩ := setCells_blk s (u8s nb) l.length w hh
      exact ⟨cur', fr, hc'⟩
    · by_cases hin : l.length ≤ k ∧ k < l.length + m
      · have := World.cell?_setCells_in s (u8s nb) l.length w (fun j hj => (hcells (l.length + j) (by omega)).1) (k - l.length) (by omega)
        rw [show l.length + (k - l.length) = k from by omega] at this
        rw [this]; rfl
      · rw [World.cell?_setCells_out s _ _ _ _ (fun _ _ => by show k < l.length ∨ l.length + (u8s nb).length ≤ k; omega)]
        exact (hcells k hk).1
    · rw [World.frozen?_setCells]
      exact (hcells k hk).2
    · rcases Nat.lt_or_ge j l.length with hlt | hge
      · rw [List.getElem?_append_left hlt] at hj
        rw [World.cell?_setCells_out s _ _ _ _ (fun _ _ => by show j < l.length ∨ _; omega)]
        exact hat j b hj
      · rw [List.getElem?_append_right hge] at hj
        have hlt := (List.getElem?_eq_some_iff.1 hj).1
        have := World.cell?_setCells_in s (u8s nb) l.length w (fun j hj => (hcells (l.length + j) (by omega)).1) (j - l.length) (by omega)
        rw [show l.length + (j - l.length) = j from by omega] at this
        rw [this]
        have e2 : (u8s nb)[j - l.length]? = some (u8 b) := by simp [u8s, hj]
        rw [List.getElem?_eq_getElem (by omega)] at e2
        exact e2
  · obtain ⟨v', w', hr, ho, hg⟩ := run_append_arg_grows (P := Tryz.prog) (w := w) 93 ty 5 i (.int .u8 0) 1 1 Tryz.underlying93 hi hz hs1 hb1 rfl (by decide) ⟨s, 0, none⟩ l.length cap (u8s l) (by simp [u8s])
      (fun j u hj => by
        simp only [u8s, List.getElem?_map, Option.map_eq_some_iff] at hj
        obtain ⟨b, hb, rfl⟩ := hj
        rw [add_plain, Nat.zero_add]
        exact hat j b hb) ad m c (u8s nb) (by omega) hnews (by omega) (by simp only [maxLen]; omega) (by omega)
    have hne : l ++ nb ≠ [] := fun e => by
      have h9 := congrArg List.length e
      rw [List.length_append, hm] at h9
      have h10 : ([] : List UInt8).length = 0 := rfl
      omega
    have ho2 : w'.ownsRow w.heap.size 5 1 v' (l ++ nb).length (u8s (l ++ nb)) := by
      rw [List.length_append, hm]
      have : u8s (l ++ nb) = u8s l ++ u8s nb := by simp [u8s]
      rw [this]
      exact ho
    refine ⟨v', w', hr, OwnR.of_own (own_weaken ho2 hbase) hne, ⟨hg.os, hg.tape, hg.output, hg.size, fun k hk _ => hg.block k hk (by simp)⟩, .inr ?_⟩
    rcases ho2.2 with ⟨_, h2⟩ | ⟨s', cap', cur', rfl, hs', _⟩
    · exact absurd (List.eq_nil_of_length_eq_zero h2) hne
    · exact ⟨s', rfl, hs'⟩
theorem OwnR.ofBytes (base : Nat) (W : World) (s : ByteArray) (hb : base ≤ W.heap.size) : OwnR base (Lib.bytesWorld W 5 s) (.slice (some ⟨W.heap.size, 0, none⟩) s.size (grownCap W s.size 0 5)) (tl s) := by
  have hge := grownCap_ge W s.size 0 5
  have hsz : (Lib.bytesCells W 5 s).size = grownCap W s.size 0 5 := by
    simp only [Lib.bytesCells, Array.size_append, Array.size_map, Array.size_replicate]
    have : s.data.size = s.size := rfl
    omega
  have hn := Lib.bytesWorld_at_new W 5 s
  refine ⟨W.heap.size, _, by rw [tl_length], hb, ⟨_, _, hn⟩, by rw [tl_length]; exact hge, fun i hi => ⟨?_, ?_⟩, fun j b hj => ?_⟩
  · have : (Lib.bytesWorld W 5 s).cell? ⟨W.heap.size, i, none⟩ = (Lib.bytesCells W 5 s)[i]? := by simp [World.cell?, hn]
    rw [this]
    simp
    omega
  · simp [World.frozen?, hn]
    omega
  · have := bytes_src W 5 s j b hj
    rwa [Nat.zero_add] at this
theorem OwnR.kept {base : Nat} {w w1 : World} {v : Value} {l : List UInt8} (h : OwnR base w v l) (hk : ∀ k, v.ownBlock = some k → w1.heap[k]? = w.heap[k]?) : OwnR base w1 v l := by
  obtain ⟨s, cap, rfl, hs, ⟨cur, fr, hh⟩, hcap, hcells, hat⟩ := h
  have hks := hk s rfl
  refine ⟨s, cap, rfl, hs, ⟨cur, fr, hks.trans hh⟩, hcap, fun i hi => ⟨?_, ?_⟩, fun j b hj => ?_⟩
  · rw [cell_kept hks]; exact (hcells i hi).1
  · exact (World.frozen?_of_block (a := ⟨s, i, none⟩) hks).trans (hcells i hi).2
  · rw [cell_kept hks]; exact hat j b hj
theorem OwnR.blk {base : Nat} {w : World} {v : Value} {l : List UInt8} (h : OwnR base w v l) (k : Nat) (hk : v.ownBlock = some k) : base ≤ k ∧ ∃ cur fr, w.heap[k]? = some (.cells cur 5 fr) := by
  obtain ⟨s, cap, rfl, hs, hh, _⟩ := h
  have : s = k := by simpa [Value.ownBlock] using hk
  subst this
  exact ⟨hs, hh⟩
theorem OwnR.lt {base : Nat} {w : World} {v : Value} {l : List UInt8} (h : OwnR base w v l) (k : Nat) (hk : v.ownBlock = some k) : k < w.heap.size := by
  obtain ⟨_, cur, fr, hh⟩ := h.blk k hk
  exact (Array.getElem?_eq_some_iff.1 hh).1
theorem OwnR.slice {base : Nat} {w : World} {v : Value} {l : List UInt8} (h : OwnR base w v l) : ∃ s cap, v = .slice (some ⟨s, 0, none⟩) l.length cap := by
  obtain ⟨s, cap, e, _⟩ := h
  exact ⟨s, cap, e⟩
section
variable {ops : Array Oper} {rest : List Oper} {o : Oper} {a : Act} {Q : Exit → Act → World → Prop}
theorem appR_src {W : World} (hgd : o.guard = none) (s x : Operand) (ho : o.op = .call { callee := .builtin .append, args := #[s, x], argTypes := #[93, 93] })
    (base : Nat) (v : Value) (l : List UInt8) (hs : a.eval s = v) (hown : OwnR base W v l)
    (ad : Addr) (m c : Nat) (nb : List UInt8) (hx : a.eval x = .slice (some ad) m c)
    (h : ∀ v' w', OwnR base w' v' (l ++ nb) → W.grownBy w' v.ownBlock → (v'.ownBlock = v.ownBlock ∨ ∃ k, v'.ownBlock = some k ∧ W.heap.size ≤ k) → wpList Tryz.prog ops Q rest (a.put o.dst v') w')
    (hm : nb.length = m) (hnews : ∀ j b, nb[j]? = some b → W.cell? (ad.add j) = some (u8 b)) (hlen : l.length + m ≤ 1000000000000) (hbase : base ≤ W.heap.size) :
    wpList Tryz.prog ops Q (o :: rest) a W := by
  obtain ⟨v', w', hr, hO, hg, hat⟩ := hown.append o.type ad m c nb hm hnews hbase hlen
  exact wpList_plain hgd fun K hK => Lib.wp_append_run W s x 93 93 ho v _ hs hx v' w' hr (hK _ _ (h v' w' hO hg hat))
theorem appR_lit {w : World} (hgd : o.guard = none) (s x : Operand) (ho : o.op = .call { callee := .builtin .append, args := #[s, x], argTypes := #[93, 93] })
    (base : Nat) (v : Value) (l : List UInt8) (hs : a.eval s = v) (hown : OwnR base w v l)
    (m c : Nat) (cs : Array Value) (nb : List UInt8) (hx : a.eval x = .slice (some ⟨w.heap.size, 0, none⟩) m c)
    (h : ∀ v' w', OwnR base w' v' (l ++ nb) → w.grownBy w' v.ownBlock → (v'.ownBlock = v.ownBlock ∨ ∃ k, v'.ownBlock = some k ∧ w.heap.size ≤ k) → wpList Tryz.prog ops Q rest (a.put o.dst v') w')
    (hm : nb.length = m) (hcs : cs.toList = u8s nb) (hlen : l.length + m ≤ 1000000000000) (hbase : base ≤ w.heap.size) :
    wpList Tryz.prog ops Q (o :: rest) a (w.alloc (.cells cs 5)) := by
  refine appR_src hgd s x ho base v l hs (hown.kept (fun k hk => heap_alloc_old _ _ (hown.lt k hk))) ⟨w.heap.size, 0, none⟩ m c nb hx ?_ hm ?_ hlen (by simp; omega)
  · intro v1 w1 hO hg hat
    refine h v1 w1 hO (World.grownBy.trans (World.grownBy_alloc w _ _) hg) (hat.imp id ?_)
    rintro ⟨k, e, hk⟩
    exact ⟨k, e, by simp at hk; omega⟩
  · intro j b hj
    rw [add_plain, Nat.zero_add, cell_of_blk (heap_alloc_new w _), ← Array.getElem?_toList, hcs]
    simp [u8s, hj]
end
end Go.Proofs.YtmenkckgpiafiaaGreat
namespace Go.Proofs.YtmenkckgpiafiaaGreat
open Go.RowKit Go.Great Go.Proofs.YtmenkckgpiafiaaGreatW.PrintWords Go.Proofs.YtmenkckgpiafiaaGreatW.PrintLast Go.Proofs.YtmenkckgpiafiaaGreatW.PrintMore Go.Proofs.YtmenkckgpiafiaaGreat.KK
/-- A Buffer's cells, and its bytes in a row of the call's own. -/
structure DBuf (base : Nat) (w : World) (g : Nat) (v : Value) (off : Nat) (ev : Value) (l : List UInt8) : Prop where
  c0 : w.cell? ⟨g, 0, none⟩ = some v
  c1 : w.cell? ⟨g, 1, none⟩ = some (.int .i64 ((off : Nat) : Int))
  c2 : w.cell? ⟨g, 2, none⟩ = some ev
  frz : ∀ i, w.frozen? ⟨g, i, none⟩ = false
  own : OwnR base w v l
  le : base ≤ g
  ne : v.ownBlock ≠ some g
section
variable {base g off : Nat} {w w1 : World} {v v1 ev : Value} {l nb : List UInt8}
theorem DBuf.lt (h : DBuf base w g v off ev l) : g < w.heap.size := World.block_lt_of_cell? w _ h.c0
theorem DBuf.baseLe (h : DBuf base w g v off ev l) : base ≤ w.heap.size := by have := h.lt; have := h.le; omega
theorem DBuf.keptG (h : DBuf base w g v off ev l) (hg : w.grownBy w1 v.ownBlock) : w1.heap[g]? = w.heap[g]? := hg.block g h.lt (fun e => h.ne e.symm)
theorem DBuf.cellAfter (h : DBuf base w g v off ev l) (hg : w.grownBy w1 v.ownBlock) : w1.cell? ⟨g, 0, none⟩ = some v := by rw [cell_kept (h.keptG hg)]; exact h.c0
theorem DBuf.frozenAfter (h : DBuf base w g v off ev l) (hg : w.grownBy w1 v.ownBlock) : w1.frozen? ⟨g, 0, none⟩ = false := (World.frozen?_of_block (a := ⟨g, 0, none⟩) (h.keptG hg)).trans (h.frz 0)
theorem DBuf.appended (hb : DBuf base w g v off ev l) (hown : OwnR base w1 v1 (l ++ nb)) (hg : w.grownBy w1 v.ownBlock) (hat : v1.ownBlock = v.ownBlock ∨ ∃ k, v1.ownBlock = some k ∧ w.heap.size ≤ k) :
    DBuf base (w1.setCell ⟨g, 0, none⟩ v1) g v1 off ev (l ++ nb) ∧ Upd g v w (w1.setCell ⟨g, 0, none⟩ v1) ∧ (v1.ownBlock = v.ownBlock ∨ ∃ k, v1.ownBlock = some k ∧ w.heap.size ≤ k) := by
  have hgl := hb.lt
  have hle := hb.le
  have hk := hb.keptG hg
  have hne : v1.ownBlock ≠ some g := by
    rcases hat with e | ⟨k, e, hk⟩
    · rw [e]; exact hb.ne
    · rw [e]; intro h; injection h with h; omega
  have e0 : w1.cell? ⟨g, 0, none⟩ = some v := by rw [cell_kept hk]; exact hb.c0
  refine ⟨⟨sc_same e0, ?_, ?_, fun i => ?_, ?_, hb.le, hne⟩, ⟨hg.os, hg.tape, hg.output, ?_, ?_⟩, hat⟩
  · rw [sc_other (by simp), cell_kept hk]; exact hb.c1
  · rw [sc_other (by simp), cell_kept hk]; exact hb.c2
  · rw [sc_frz]; exact (World.frozen?_of_block (a := ⟨g, i, none⟩) hk).trans (hb.frz i)
  · exact hown.kept (fun k hk => Below.heap_setCell _ _ _ _ (fun e => hne (by have e' : k = g := e; rw [← e']; exact hk)))
  · simpa [World.setCell] using hg.size
  · intro k hk h1 h2
    rw [Below.heap_setCell _ _ _ _ h1]
    exact hg.block k hk (fun e => h2 e.symm)
theorem DBuf.below (hb : DBuf base w g v off ev l) (u : Upd g v w w1) : Below base w w1 := by
  have hle := hb.le
  have hgl := hb.lt
  refine ⟨u.os, u.tape, u.output, u.size, fun k hk => u.block k (by omega) (by omega) (fun e => ?_)⟩
  have := (hb.own.blk k e).1
  omega
/-- Appended. -/
def DAppd (base g : Nat) (v : Value) (off : Nat) (ev : Value) (l nb : List UInt8) (w : World) (e : Ending) (w' : World) : Prop :=
  e = .returned (.tuple #[]) ∧ ∃ v', DBuf base w' g v' off ev (l ++ nb) ∧ Upd g v w w' ∧ (v'.ownBlock = v.ownBlock ∨ ∃ k, v'.ownBlock = some k ∧ w.heap.size ≤ k)
end
set_option maxHeartbeats 800000 in
theorem dapp8 (base g off : Nat) (v ev : Value) (l : List UInt8) (x : Int) (w : World) (hb : DBuf base w g v off ev l) (h0 : 0 ≤ x) (h1 : x ≤ 255) (hl : l.length ≤ 1000000000) :
    Calls Tryz.prog 97 #[.pointer (some ⟨g, 0, none⟩), .int .u8 x] w (DAppd base g v off ev l (b1 x) w) := by
  have c0 := hb.c0
  have hbl := hb.baseLe
  have HB := Lib.hid hb
  clear hb
  go_enter Tryz.func97, Tryz.ntmps97
  go_wp2_with (at_builtin; refine appR_lit rfl _ _ rfl base v l rfl HB.out.own 1 1 _ (b1 x) rfl ?_ rfl ?c1 ?c2 ?c3; intro v1 w1 hown hg hat; obtain ⟨A1, cap1, rfl⟩ := hown.slice; have cg := HB.out.cellAfter hg; have fg := HB.out.frozenAfter hg)
  · go_end0
    have hm := HB.out.appended hown hg hat
    simp only [List.length_append] at hm
    exact ⟨rfl, _, hm⟩
  case c1 => exact cons_eq (u8_bt (by omega)) rfl
  case c2 => omega
  case c3 => exact hbl
set_option maxHeartbeats 800000 in
theorem dapp16 (base g off : Nat) (v ev : Value) (l : List UInt8) (x : Int) (w : World) (hb : DBuf base w g v off ev l) (h0 : 0 ≤ x) (h1 : x ≤ 65535) (hl : l.length ≤ 1000000000) :
    Calls Tryz.prog 98 #[.pointer (some ⟨g, 0, none⟩), .int .u16 x] w (DAppd base g v off ev l (be16 x) w) := by
  have c0 := hb.c0
  have hbl := hb.baseLe
  have HB := Lib.hid hb
  clear hb
  go_enter Tryz.func98, Tryz.ntmps98
  go_wp2_with (at_builtin; refine appR_lit rfl _ _ rfl base v l rfl HB.out.own 2 2 _ (be16 x) rfl ?_ rfl ?c1 ?c2 ?c3; intro v1 w1 hown hg hat; obtain ⟨A1, cap1, rfl⟩ := hown.slice; have cg := HB.out.cellAfter hg; have fg := HB.out.frozenAfter hg)
  · go_end0
    have hm := HB.out.appended hown hg hat
    simp only [List.length_append] at hm
    exact ⟨rfl, _, hm⟩
  case c1 => exact cons_eq (u8_bt (by omega)) (cons_eq (u8_bt (by omega)) rfl)
  case c2 => omega
  case c3 => exact hbl
set_option maxHeartbeats 800000 in
theorem dapp32 (base g off : Nat) (v ev : Value) (l : List UInt8) (x : Int) (w : World) (hb : DBuf base w g v off ev l) (h0 : 0 ≤ x) (h1 : x ≤ 4294967295) (hl : l.length ≤ 1000000000) :
    Calls Tryz.prog 99 #[.pointer (some ⟨g, 0, none⟩), .int .u32 x] w (DAppd base g v off ev l (be32 x) w) := by
  have c0 := hb.c0
  have hbl := hb.baseLe
  have HB := Lib.hid hb
  clear hb
  go_enter Tryz.func99, Tryz.ntmps99
  go_wp2_with (at_builtin; refine appR_lit rfl _ _ rfl base v l rfl HB.out.own 4 4 _ (be32 x) rfl ?_ rfl ?c1 ?c2 ?c3; intro v1 w1 hown hg hat; obtain ⟨A1, cap1, rfl⟩ := hown.slice; have cg := HB.out.cellAfter hg; have fg := HB.out.frozenAfter hg)
  · go_end0
    have hm := HB.out.appended hown hg hat
    simp only [List.length_append] at hm
    exact ⟨rfl, _, hm⟩
  case c1 => exact cons_eq (u8_bt (by omega)) (cons_eq (u8_bt (by omega)) (cons_eq (u8_bt (by omega)) (cons_eq (u8_bt (by omega)) rfl)))
  case c2 => omega
  case c3 => exact hbl
set_option maxHeartbeats 800000 in
theorem dapp64 (base g off : Nat) (v ev : Value) (l : List UInt8) (x : Int) (w : World) (hb : DBuf base w g v off ev l) (h0 : 0 ≤ x) (h1 : x ≤ 18446744073709551615) (hl : l.length ≤ 1000000000) :
    Calls Tryz.prog 100 #[.pointer (some ⟨g, 0, none⟩), .int .u64 x] w (DAppd base g v off ev l (be64 x) w) := by
  have c0 := hb.c0
  have hbl := hb.baseLe
  have HB := Lib.hid hb
  clear hb
  go_enter Tryz.func100, Tryz.ntmps100
  go_wp2_with (at_builtin; refine appR_lit rfl _ _ rfl base v l rfl HB.out.own 8 8 _ (be64 x) rfl ?_ rfl ?c1 ?c2 ?c3; intro v1 w1 hown hg hat; obtain ⟨A1, cap1, rfl⟩ := hown.slice; have cg := HB.out.cellAfter hg; have fg := HB.out.frozenAfter hg)
  · go_end0
    have hm := HB.out.appended hown hg hat
    simp only [List.length_append] at hm
    exact ⟨rfl, _, hm⟩
  case c1 => exact cons_eq (u8_bt (by omega)) (cons_eq (u8_bt (by omega)) (cons_eq (u8_bt (by omega)) (cons_eq (u8_bt (by omega)) (cons_eq (u8_bt (by omega)) (cons_eq (u8_bt (by omega)) (cons_eq (u8_bt (by omega)) (cons_eq (u8_bt (by omega)) rfl)))))))
  case c2 => omega
  case c3 => exact hbl
set_option maxHeartbeats 800000 in
theorem dappBool (base g off : Nat) (v ev : Value) (l : List UInt8) (b : Bool) (w : World) (hb : DBuf base w g v off ev l) (hl : l.length ≤ 1000000000) :
    Calls Tryz.prog 102 #[.pointer (some ⟨g, 0, none⟩), .bool b] w (DAppd base g v off ev l (b1 (if b then 1 else 0)) w) := by
  have HB := Lib.hid hb
  clear hb
  cases b with
  | true =>
    go_enter Tryz.func102, Tryz.ntmps102
    go_wp2_with fail
    refine (dapp8 base g off v ev l 1 w HB.out (by omega) (by omega) hl).mono ?_
    rintro e w1 ⟨rfl, h⟩
    have H := Lib.hid h
    clear h
    go_wp2_with fail
    go_end0
    exact ⟨rfl, H.out⟩
  | false =>
    go_enter Tryz.func102, Tryz.ntmps102
    go_wp2_with fail
    refine (dapp8 base g off v ev l 0 w HB.out (by omega) (by omega) hl).mono ?_
    rintro e w1 ⟨rfl, h⟩
    have H := Lib.hid h
    clear h
    go_wp2_with fail
    go_end0
    exact ⟨rfl, H.out⟩
set_option maxHeartbeats 800000 in
theorem dappI64 (base g off : Nat) (v ev : Value) (l : List UInt8) (x y : Int) (w : World) (hb : DBuf base w g v off ev l) (hy : IntKind.u64.wrap x = y) (h0 : 0 ≤ y) (h1 : y ≤ 18446744073709551615) (hl : l.length ≤ 1000000000) :
    Calls Tryz.prog 101 #[.pointer (some ⟨g, 0, none⟩), .int .i64 x] w (DAppd base g v off ev l (be64 y) w) := by
  have HB := Lib.hid hb
  clear hb
  go_enter Tryz.func101, Tryz.ntmps101
  go_wp2_with fail
  refine (dapp64 base g off v ev l y w HB.out h0 h1 hl).mono ?_
  rintro e w1 ⟨rfl, h⟩
  have H := Lib.hid h
  clear h
  go_wp2_with fail
  go_end0
  exact ⟨rfl, H.out⟩
set_option maxHeartbeats 800000 in
theorem dappCount (base g off : Nat) (v ev : Value) (l : List UInt8) (x y : Int) (w : World) (hb : DBuf base w g v off ev l) (hy : IntKind.u32.wrap x = y) (h0 : 0 ≤ y) (h1 : y ≤ 4294967295) (hl : l.length ≤ 1000000000) :
    Calls Tryz.prog 104 #[.pointer (some ⟨g, 0, none⟩), .int .i64 x] w (DAppd base g v off ev l (be32 y) w) := by
  have HB := Lib.hid hb
  clear hb
  go_enter Tryz.func104, Tryz.ntmps104
  go_wp2_with fail
  refine (dapp32 base g off v ev l y w HB.out h0 h1 hl).mono ?_
  rintro e w1 ⟨rfl, h⟩
  have H := Lib.hid h
  clear h
  go_wp2_with fail
  go_end0
  exact ⟨rfl, H.out⟩
set_option maxHeartbeats 800000 in
theorem dappBytes (base g off : Nat) (v ev : Value) (l : List UInt8) (s o n c : Nat) (nb : List UInt8) (w : World) (hb : DBuf base w g v off ev l) (hl : l.length ≤ 900000000)
    (hn : nb.length = n) (hn2 : n ≤ 100000000) (hs : s < w.heap.size) (hsg : s ≠ g) (hsv : v.ownBlock ≠ some s) (hsrc : ∀ j b, nb[j]? = some b → w.cell? ⟨s, o + j, none⟩ = some (u8 b)) :
    Calls Tryz.prog 129 #[.pointer (some ⟨g, 0, none⟩), .slice (some ⟨s, o, none⟩) n c] w (DAppd base g v off ev l (be32 n ++ nb) w) := by
  have HS := Lib.hid hsrc
  have HN := Lib.hid hn
  have HV := Lib.hid hsv
  clear hsrc hn hsv
  go_enter Tryz.func129, Tryz.ntmps129
  go_wp2_with fail
  refine (dapp32 base g off v ev l _ _ hb (by omega) (by omega) (by omega)).mono ?_
  rintro e w1 ⟨rfl, v1, m1, u1, o1⟩
  have c1 := m1.c0
  have hbl := m1.baseLe
  have M1 := Lib.hid m1
  have U1 := Lib.hid u1
  have O1 := Lib.hid o1
  clear m1 u1 o1
  go_wp2_with (at_builtin; refine appR_src rfl _ _ rfl base v1 (l ++ be32 n) rfl M1.out.own ⟨s, o, none⟩ n c nb rfl ?_ HN.out ?c1 ?c2 ?c3; intro v2 w2 hown hg hat; obtain ⟨A1, cap1, rfl⟩ := hown.slice; have cg := M1.out.cellAfter hg; have fg := M1.out.frozenAfter hg)
  · go_end0
    have hm := M1.out.appended hown hg hat
    simp only [List.length_append, List.append_assoc] at hm
    exact ⟨rfl, _, hm.1, U1.out.trans O1.out hm.2.1, own_trans U1.out.size O1.out hm.2.2⟩
  case c1 =>
    intro j b hj
    rw [add_plain]
    exact U1.out.cell hs hsg HV.out (HS.out j b hj)
  case c2 => simp [be32]; omega
  case c3 => exact hbl
theorem DBuf.bytes {base g off : Nat} {w : World} {v ev : Value} {l : List UInt8} (h : DBuf base w g v off ev l) (s : ByteArray) : DBuf base (Lib.bytesWorld w 5 s) g v off ev l := by
  have hk : (Lib.bytesWorld w 5 s).heap[g]? = w.heap[g]? := Lib.bytesWorld_at_old w _ s g h.lt
  refine ⟨by rw [cell_kept hk]; exact h.c0, by rw [cell_kept hk]; exact h.c1, by rw [cell_kept hk]; exact h.c2, fun i => (World.frozen?_of_block (a := ⟨g, i, none⟩) hk).trans (h.frz i), ?_, h.le, h.ne⟩
  exact h.own.kept (fun k hk => Lib.bytesWorld_at_old w 5 s k (h.own.lt k hk))
set_option maxHeartbeats 800000 in
theorem dappString (base g off : Nat) (v ev : Value) (l : List UInt8) (s : ByteArray) (w : World) (hb : DBuf base w g v off ev l) (hl : l.length ≤ 900000000) (hs : s.size ≤ 100000000) :
    Calls Tryz.prog 103 #[.pointer (some ⟨g, 0, none⟩), .string s] w (DAppd base g v off ev l (str (tl s)) w) := by
  have kb := fun W => Lib.run_convert_string_bytes (P := Tryz.prog) W 9 93 5 s Tryz.underlying9 Tryz.underlying93 Tryz.underlying5
  go_enter Tryz.func103, Tryz.ntmps103
  go_wp2_with fail
  refine (dappBytes base g off v ev l w.heap.size 0 s.size _ (tl s) _ (hb.bytes s) hl (tl_length s) hs (by rw [Lib.bytesWorld_size]; omega) ?_ (fun e => by have := hb.own.lt _ e; omega) (bytes_src w _ s)).mono ?_
  · have := hb.lt
    omega
  · rintro e w1 ⟨rfl, v1, m1, u1, o1⟩
    have M1 := Lib.hid m1
    have U1 := Lib.hid u1
    have O1 := Lib.hid o1
    clear m1 u1 o1
    go_wp2_with fail
    go_end0
    refine ⟨rfl, _, ?_, (bytes_upd w _ s g v).trans (.inl rfl) U1.out, own_trans (bytes_upd w _ s g v).size (.inl rfl) O1.out⟩
    unfold str
    rw [tl_length]
    exact M1.out
end Go.Proofs.YtmenkckgpiafiaaGreat
namespace Go.Proofs.YtmenkckgpiafiaaGreat
open Go.RowKit Go.Great Go.Proofs.YtmenkckgpiafiaaGreatW.PrintWords Go.Proofs.YtmenkckgpiafiaaGreatW.PrintLast Go.Proofs.YtmenkckgpiafiaaGreatW.PrintMore Go.Proofs.YtmenkckgpiafiaaGreat.KK
/-- What is left of a Buffer of at most M bytes; none: its error is set. -/
def DS (base : Nat) (w : World) (g M : Nat) (r : Option (List UInt8)) : Prop :=
  ∃ s n c off ev l, DBuf base w g (.slice (some ⟨s, 0, none⟩) n c) off ev l ∧ off ≤ l.length ∧ l.length ≤ M ∧ errOf r ev ∧ ∀ m, r = some m → m = l.drop off
section
variable {base g M s n c off : Nat} {w w1 : World} {ev : Value} {l : List UInt8} {r r1 : Option (List UInt8)}
theorem OwnR.at_ {v : Value} (h : OwnR base w v l) {s n c : Nat} (e : v = .slice (some ⟨s, 0, none⟩) n c) : n = l.length ∧ n ≤ c ∧ base ≤ s ∧ s < w.heap.size ∧ ∀ j b, l[j]? = some b → w.cell? ⟨s, j, none⟩ = some (u8 b) := by
  obtain ⟨s', cap, e', hs, ⟨cur, fr, hh⟩, hcap, _, hat⟩ := h
  rw [e] at e'
  simp only [Value.slice.injEq, Option.some.injEq, Addr.mk.injEq, and_true] at e'
  obtain ⟨rfl, rfl, rfl⟩ := e'
  exact ⟨rfl, hcap, hs, (Array.getElem?_eq_some_iff.1 hh).1, hat⟩
theorem DBuf.len (h : DBuf base w g (.slice (some ⟨s, 0, none⟩) n c) off ev l) : n = l.length ∧ n ≤ c ∧ base ≤ s ∧ s < w.heap.size := by
  obtain ⟨h1, h2, h3, h4, _⟩ := h.own.at_ rfl
  exact ⟨h1, h2, h3, h4⟩
theorem DBuf.rbuf (h : DBuf base w g (.slice (some ⟨s, 0, none⟩) n c) off ev l) (ho : off ≤ l.length) (hl : l.length ≤ 1000000000) (he : errOf r ev) (hr : ∀ m, r = some m → m = l.drop off) : RBuf w g 0 s r := by
  obtain ⟨hn, hc, hs, hsz⟩ := h.len
  have hne : s ≠ g := fun e => h.ne (by rw [e]; rfl)
  refine ⟨⟨0, n, c, off, h.c0, h.c1, ⟨hne, hsz⟩, by omega, hc, by omega, ?_⟩, h.frz⟩
  cases r with
  | none =>
    obtain ⟨t, u, rfl⟩ := he
    exact ⟨t, u, h.c2⟩
  | some m =>
    obtain rfl := hr m rfl
    have he' : ev = .nilIface := he
    refine ⟨by rw [← he']; exact h.c2, by rw [List.length_drop]; omega, fun j b hj => ?_⟩
    rw [List.getElem?_drop] at hj
    have hlt := (List.getElem?_eq_some_iff.1 hj).1
    rw [Nat.zero_add]
    exact (h.own.at_ rfl).2.2.2.2 _ _ hj
theorem u8_inj {a b : UInt8} (h : u8 a = u8 b) : a = b := by
  unfold u8 at h
  have h2 : (a.toNat : Int) = (b.toNat : Int) := by injection h
  exact UInt8.toNat_inj.1 (by omega)
theorem DBuf.back (h : DBuf base w g (.slice (some ⟨s, 0, none⟩) n c) off ev l) (hb : RBuf w1 g 0 s r1) (u : UpdR g 0 w w1) :
    ∃ off' ev', DBuf base w1 g (.slice (some ⟨s, 0, none⟩) n c) off' ev' l ∧ off' ≤ l.length ∧ errOf r1 ev' ∧ ∀ m, r1 = some m → m = l.drop off' := by
  obtain ⟨hn, hc, hs, hsz⟩ := h.len
  have hown : OwnR base w1 (.slice (some ⟨s, 0, none⟩) n c) l := h.own.kept (fun k hk => u.block k (h.own.lt k hk) (fun e2 => h.ne (by rw [hk, e2])))
  have hc0 : w1.cell? ⟨g, 0, none⟩ = some (.slice (some ⟨s, 0, none⟩) n c) := (u.cell 0 (by decide) (by decide)).trans h.c0
  obtain ⟨p', n', c', off', h0, h1, hsg, hon, hnc, hn1, hr⟩ := hb.ex
  rw [hc0] at h0
  simp only [Option.some.injEq, Value.slice.injEq, Addr.mk.injEq, and_true, true_and] at h0
  obtain ⟨rfl, rfl, rfl⟩ := h0
  subst hn
  cases r1 with
  | none =>
    obtain ⟨t, x, h2⟩ := hr
    exact ⟨off', _, ⟨hc0, h1, h2, hb.frz, hown, h.le, h.ne⟩, hon, ⟨t, x, rfl⟩, fun m hm => by cases hm⟩
  | some m =>
    obtain ⟨h2, hlen, hlies⟩ := hr
    refine ⟨off', _, ⟨hc0, h1, h2, hb.frz, hown, h.le, h.ne⟩, hon, rfl, fun m' hm' => ?_⟩
    obtain rfl := Option.some.inj hm'
    apply List.ext_getElem?
    intro j
    rcases Nat.lt_or_ge j m.length with hj | hj
    · have e1 := hlies j m[j] (List.getElem?_eq_getElem hj)
      have hlt : off' + j < l.length := by omega
      have e2 := (hown.at_ rfl).2.2.2.2 (off' + j) l[off' + j] (List.getElem?_eq_getElem hlt)
      rw [Nat.zero_add, e2] at e1
      rw [List.getElem?_drop, List.getElem?_eq_getElem hj, List.getElem?_eq_getElem hlt]
      rw [u8_inj (Option.some.inj e1)]
    · rw [List.getElem?_eq_none hj, List.getElem?_eq_none (by rw [List.length_drop]; omega)]
/-- Blocks that are no bytes are kept, but the Buffer's own. -/
def Keep8 (g : Nat) (w w' : World) : Prop := ∀ k cells t, w.heap[k]? = some (.cells cells t (0, 0)) → t ≠ 5 → k ≠ g → w'.heap[k]? = w.heap[k]?
/-- A step that consumes. -/
theorem DS.eat {X : Type} {F : Nat} {V : X → Value} {f : Option (List UInt8) → X × Option (List UInt8)} (h : DS base w g M r) (hM : M ≤ 1000000000)
    (hc : ∀ s, RBuf w g 0 s r → Calls Tryz.prog F #[.pointer (some ⟨g, 0, none⟩)] w fun e w' => e = .returned (V (f r).1) ∧ RBuf w' g 0 s (f r).2 ∧ UpdR g 0 w w') :
    Calls Tryz.prog F #[.pointer (some ⟨g, 0, none⟩)] w fun e w' => e = .returned (V (f r).1) ∧ DS base w' g M (f r).2 ∧ Below base w w' ∧ Keep8 g w w' := by
  obtain ⟨s, n, c, off, ev, l, hD, ho, hl, he, hr⟩ := h
  refine (hc s (hD.rbuf ho (by omega) he hr)).mono ?_
  rintro e w' ⟨rfl, hb, u⟩
  obtain ⟨off', ev', hD', ho', he', hr'⟩ := hD.back hb u
  exact ⟨rfl, ⟨s, n, c, off', ev', l, hD', ho', hl, he', hr'⟩, u.below hD.le hD.baseLe, fun k cells t hk _ hne => u.block k (Array.getElem?_eq_some_iff.1 hk).1 hne⟩
theorem DS.eat8 (h : DS base w g M r) (hM : M ≤ 1000000000) : Calls Tryz.prog 130 #[.pointer (some ⟨g, 0, none⟩)] w fun e w' => e = .returned (.int .u8 (c8 r).1) ∧ DS base w' g M (c8 r).2 ∧ Below base w w' ∧ Keep8 g w w' :=
  h.eat (V := fun x => .int .u8 x) (f := c8) hM (fun s hb => consume8 g 0 s r w hb)
theorem DS.eat16 (h : DS base w g M r) (hM : M ≤ 1000000000) : Calls Tryz.prog 131 #[.pointer (some ⟨g, 0, none⟩)] w fun e w' => e = .returned (.int .u16 (c16 r).1) ∧ DS base w' g M (c16 r).2 ∧ Below base w w' ∧ Keep8 g w w' :=
  h.eat (V := fun x => .int .u16 x) (f := c16) hM (fun s hb => consume16 g 0 s r w hb)
theorem DS.eat32 (h : DS base w g M r) (hM : M ≤ 1000000000) : Calls Tryz.prog 132 #[.pointer (some ⟨g, 0, none⟩)] w fun e w' => e = .returned (.int .u32 (c32 r).1) ∧ DS base w' g M (c32 r).2 ∧ Below base w w' ∧ Keep8 g w w' :=
  h.eat (V := fun x => .int .u32 x) (f := c32) hM (fun s hb => consume32 g 0 s r w hb)
theorem DS.eat64 (h : DS base w g M r) (hM : M ≤ 1000000000) : Calls Tryz.prog 133 #[.pointer (some ⟨g, 0, none⟩)] w fun e w' => e = .returned (.int .u64 (c64 r).1) ∧ DS base w' g M (c64 r).2 ∧ Below base w w' ∧ Keep8 g w w' :=
  h.eat (V := fun x => .int .u64 x) (f := c64) hM (fun s hb => consume64 g 0 s r w hb)
theorem DS.eatStr (h : DS base w g M r) (hM : M ≤ 1000000000) : Calls Tryz.prog 136 #[.pointer (some ⟨g, 0, none⟩)] w fun e w' => e = .returned (.string (bs (cB r).1)) ∧ DS base w' g M (cB r).2 ∧ Below base w w' ∧ Keep8 g w w' :=
  h.eat (V := fun x => .string (bs x)) (f := cB) hM (fun s hb => consumeString g 0 s r w hb)
/-- A step that appends. -/
theorem DS.put {F : Nat} {args : Array Value} {nb : List UInt8} (h : DS base w g M r) (hM : M ≤ 800000000) (hnb : nb ≠ [])
    (hc : ∀ v off ev l, DBuf base w g v off ev l → l.length ≤ 800000000 → Calls Tryz.prog F args w (DAppd base g v off ev l nb w)) :
    Calls Tryz.prog F args w fun e w' => e = .returned (.tuple #[]) ∧ DS base w' g (M + nb.length) (r.map (· ++ nb)) ∧ Below base w w' ∧ Keep8 g w w' := by
  obtain ⟨s, n, c, off, ev, l, hD, ho, hl, he, hr⟩ := h
  refine (hc _ off ev l hD (by omega)).mono ?_
  rintro e w' ⟨rfl, v', hD', u, _⟩
  obtain ⟨s', c', rfl⟩ := hD'.own.slice
  refine ⟨rfl, ⟨s', _, c', off, ev, l ++ nb, hD', by rw [List.length_append]; omega, by rw [List.length_append]; omega, ?_, fun m hm => ?_⟩, hD.below u, fun k cells t hk ht hne => u.block k (Array.getElem?_eq_some_iff.1 hk).1 hne (fun e => ?_)⟩
  · cases r with
    | none => exact he
    | some m => exact he
  · cases r with
    | none => cases hm
    | some m0 =>
      obtain rfl := Option.some.inj hm
      rw [hr m0 rfl, List.drop_append_of_le_length ho]
  · obtain ⟨_, cells', fr', hc'⟩ := hD.own.blk k e
    rw [hc'] at hk
    simp only [Option.some.injEq, Obj.cells.injEq] at hk
    exact ht hk.2.1.symm
end
end Go.Proofs.YtmenkckgpiafiaaGreat
namespace Go.Proofs.YtmenkckgpiafiaaGreat
open Go.RowKit Go.Great Go.Proofs.YtmenkckgpiafiaaGreatW.PrintWords Go.Proofs.YtmenkckgpiafiaaGreatW.PrintLast Go.Proofs.YtmenkckgpiafiaaGreatW.PrintMore Go.Proofs.YtmenkckgpiafiaaGreat.KK
section
variable {base g M : Nat} {w : World} {r : Option (List UInt8)}
theorem DS.eatBool (h : DS base w g M r) (hM : M ≤ 1000000000) : Calls Tryz.prog 135 #[.pointer (some ⟨g, 0, none⟩)] w fun e w' => e = .returned (.bool ((c8 r).1 != 0)) ∧ DS base w' g M (c8 r).2 ∧ Below base w w' ∧ Keep8 g w w' := by
  have C := Lib.hid (h.eat8 hM)
  clear h
  generalize (c8 r).1 = x at *
  generalize (c8 r).2 = r1 at *
  go_enter Tryz.func135, Tryz.ntmps135
  go_wp2_with fail
  refine C.out.mono ?_
  rintro e w1 ⟨rfl, h1, hb, hk⟩
  have H := Lib.hid h1
  have B := Lib.hid hb
  have K := Lib.hid hk
  clear h1 hb hk C
  go_wp2_with fail
  go_ret
  exact ⟨rfl, H.out, B.out, K.out⟩
theorem DS.eatI64 (h : DS base w g M r) (hM : M ≤ 1000000000) : Calls Tryz.prog 134 #[.pointer (some ⟨g, 0, none⟩)] w fun e w' => e = .returned (.int .i64 (IntKind.i64.wrap (c64 r).1)) ∧ DS base w' g M (c64 r).2 ∧ Below base w w' ∧ Keep8 g w w' := by
  have C := Lib.hid (h.eat64 hM)
  clear h
  generalize (c64 r).1 = x at *
  generalize (c64 r).2 = r1 at *
  obtain ⟨y, hy⟩ : ∃ y, IntKind.i64.wrap x = y := ⟨_, rfl⟩
  rw [hy]
  go_enter Tryz.func134, Tryz.ntmps134
  go_wp2_with fail
  refine C.out.mono ?_
  rintro e w1 ⟨rfl, h1, hb, hk⟩
  have H := Lib.hid h1
  have B := Lib.hid hb
  have K := Lib.hid hk
  clear h1 hb hk C
  go_wp2_with fail
  go_ret
  exact ⟨rfl, H.out, B.out, K.out⟩
theorem DS.eatCount (h : DS base w g M r) (hM : M ≤ 1000000000) : Calls Tryz.prog 137 #[.pointer (some ⟨g, 0, none⟩)] w fun e w' => e = .returned (.int .i64 (c32 r).1) ∧ DS base w' g M (c32 r).2 ∧ Below base w w' ∧ Keep8 g w w' := by
  have C := Lib.hid (h.eat32 hM)
  have hx := c32_range r
  clear h
  generalize (c32 r).1 = x at *
  generalize (c32 r).2 = r1 at *
  obtain ⟨x0, x1⟩ := hx
  have ux : IntKind.i64.wrap x = x := IntWalk.i64_in _ (by omega)
  go_enter Tryz.func137, Tryz.ntmps137
  go_wp2_with fail
  refine C.out.mono ?_
  rintro e w1 ⟨rfl, h1, hb, hk⟩
  have H := Lib.hid h1
  have B := Lib.hid hb
  have K := Lib.hid hk
  clear h1 hb hk C
  go_wp2_with fail
  go_ret
  exact ⟨rfl, H.out, B.out, K.out⟩
end
end Go.Proofs.YtmenkckgpiafiaaGreat
namespace Go.Proofs.YtmenkckgpiafiaaGreat
open Go.RowKit Go.Great Go.Proofs.YtmenkckgpiafiaaGreatW.PrintWords Go.Proofs.YtmenkckgpiafiaaGreatW.PrintLast Go.Proofs.YtmenkckgpiafiaaGreatW.PrintMore Go.Proofs.YtmenkckgpiafiaaGreat.KK
/-- A step's cells. -/
def op3 (d n : Int) (s : ByteArray) : Array Value := #[.int .i64 d, .int .u64 n, .string s]
theorem oinfo (d n : Int) (s : ByteArray) : (Tryz.prog.info? 79).map (·.size) = some (op3 d n s).size := by kernel_rfl
theorem oone (d n : Int) (s : ByteArray) : (op3 d n s).all (·.oneCell') = true := by kernel_rfl
theorem DS.keep {base g M : Nat} {w w1 : World} {r : Option (List UInt8)} (h : DS base w g M r) (hk : ∀ k, k < w.heap.size → w1.heap[k]? = w.heap[k]?) (ho : w1.os = w.os) (ht : w1.tape = w.tape) (hp : w1.output = w.output) (hs : w.heap.size ≤ w1.heap.size) : DS base w1 g M r := by
  obtain ⟨s, n, c, off, ev, l, hD, h1, h2, h3, h4⟩ := h
  have hg := hk g hD.lt
  exact ⟨s, n, c, off, ev, l, ⟨by rw [cell_kept hg]; exact hD.c0, by rw [cell_kept hg]; exact hD.c1, by rw [cell_kept hg]; exact hD.c2, fun i => (World.frozen?_of_block (a := ⟨g, i, none⟩) hg).trans (hD.frz i), hD.own.kept (fun k e => hk k (hD.own.lt k e)), hD.le, hD.ne⟩, h1, h2, h3, h4⟩
theorem DS.keepT {base g M : Nat} {w w1 : World} {r : Option (List UInt8)} (h : DS base w g M r) (hg : w1.heap[g]? = w.heap[g]?) (hk : ∀ (k : Nat) (cells : Array Value) (fr : Nat × Nat), w.heap[k]? = some (Obj.cells cells 5 fr) → w1.heap[k]? = w.heap[k]?) : DS base w1 g M r := by
  obtain ⟨s, n, c, off, ev, l, hD, h1, h2, h3, h4⟩ := h
  exact ⟨s, n, c, off, ev, l, ⟨by rw [cell_kept hg]; exact hD.c0, by rw [cell_kept hg]; exact hD.c1, by rw [cell_kept hg]; exact hD.c2, fun i => (World.frozen?_of_block (a := ⟨g, i, none⟩) hg).trans (hD.frz i), hD.own.kept (fun k e => by obtain ⟨_, cells, fr, hc⟩ := hD.own.blk k e; exact hk k cells fr hc), hD.le, hD.ne⟩, h1, h2, h3, h4⟩
theorem DS.gl {base g M : Nat} {w : World} {r : Option (List UInt8)} (h : DS base w g M r) : base ≤ g ∧ g < w.heap.size := by
  obtain ⟨s, n, c, off, ev, l, hD, _⟩ := h
  exact ⟨hD.le, hD.lt⟩
set_option maxRecDepth 5000 in
set_option maxHeartbeats 1600000 in
theorem consumed10 (base g M : Nat) (r : Option (List UInt8)) (w : World) (h : DS base w g M r) (hM : M ≤ 1000000000) (hx : 0 ≤ (c8 r).1 ∧ (c8 r).1 ≤ 255) :
    Calls Tryz.prog 105 #[.pointer (some ⟨g, 0, none⟩), .int .i64 10] w fun e w' => e = .returned (.tuple #[.agg (op3 10 (c8 r).1 ⟨#[]⟩), .bool true]) ∧ DS base w' g M (c8 r).2 ∧ Below base w w' ∧ Keep8 g w w' := by
  obtain ⟨hg1, hg2⟩ := h.gl
  obtain ⟨W0, hW0⟩ : ∃ W, w.alloc (.cells (op3 0 0 ⟨#[]⟩) 79) = W := ⟨_, rfl⟩
  obtain ⟨W1, hW1⟩ : ∃ W, W0.alloc (.cells (op3 0 0 ⟨#[]⟩) 79) = W := ⟨_, rfl⟩
  obtain ⟨W2, hW2⟩ : ∃ W, W1.setRow (w.heap.size + 1) (op3 10 0 ⟨#[]⟩) = W := ⟨_, rfl⟩
  have s0 : W0.heap.size = w.heap.size + 1 := by rw [← hW0]; simp
  have s1 : W1.heap.size = w.heap.size + 1 + 1 := by rw [← hW1]; simp [s0]
  have s2 : W2.heap.size = w.heap.size + 1 + 1 := by rw [← hW2, setRow_size]; exact s1
  have q1 : W1.heap[w.heap.size + 1]? = some (.cells (op3 0 0 ⟨#[]⟩) 79 (0, 0)) := by rw [← hW1, ← s0]; exact heap_alloc_new _ _
  have q2 : W2.heap[w.heap.size + 1]? = some (.cells (op3 10 0 ⟨#[]⟩) 79 (0, 0)) := by rw [← hW2]; exact setRow_blk q1
  have p2 : W2.heap[w.heap.size]? = some (.cells (op3 0 0 ⟨#[]⟩) 79 (0, 0)) := by rw [← hW2, setRow_other _ _ _ _ (by omega), ← hW1, heap_alloc_old _ _ (by omega), ← hW0]; exact heap_alloc_new _ _
  have o2 : ∀ k, k < w.heap.size → W2.heap[k]? = w.heap[k]? := fun k hk => by rw [← hW2, setRow_other _ _ _ _ (by omega), ← hW1, heap_alloc_old _ _ (by omega), ← hW0, heap_alloc_old _ _ hk]
  have h2 : DS base W2 g M r := h.keep o2 (by rw [← hW2, ← hW1, ← hW0]; rfl) (by rw [← hW2, ← hW1, ← hW0]; rfl) (by rw [← hW2, ← hW1, ← hW0]; rfl) (by omega)
  have b2 : Below base w W2 := ⟨by rw [← hW2, ← hW1, ← hW0]; rfl, by rw [← hW2, ← hW1, ← hW0]; rfl, by rw [← hW2, ← hW1, ← hW0]; rfl, by omega, fun k hk => o2 k (by omega)⟩
  have C := Lib.hid (h2.eat8 hM)
  have X0 := Lib.hid hW0
  have X1 := Lib.hid hW1
  have X2 := Lib.hid hW2
  have S0 := Lib.hid s0
  have Q1 := Lib.hid q1
  have Q2 := Lib.hid q2
  have P2 := Lib.hid p2
  have O2 := Lib.hid o2
  have B2 := Lib.hid b2
  clear hW0 hW1 hW2 s0 s1 s2 q1 q2 p2 o2 b2 h2 h
  generalize (c8 r).1 = x at *
  generalize (c8 r).2 = r1 at *
  have ux := wraps_u64 x (by omega) (by omega)
  go_enter Tryz.func105, Tryz.ntmps105
  go_wp2_with (first
    | (refine wpList_allocTo rfl (some 4) rfl (.pointer (some ⟨w.heap.size, 0, none⟩)) (.cells (op3 0 0 ⟨#[]⟩) 79) (by as_aux_lemma => kernel_rfl) ?_; rw [X0.out])
    | refine wpList_buildTo rfl 79 _ rfl (some 8) rfl (op3 10 0 ⟨#[]⟩) (by as_aux_lemma => kernel_rfl) ?_
    | (refine wpList_allocTo rfl (some 6) rfl (.pointer (some ⟨w.heap.size + 1, 0, none⟩)) (.cells (op3 0 0 ⟨#[]⟩) 79) (by rw [← S0.out]; as_aux_lemma => kernel_rfl) ?_; rw [X1.out])
    | (refine wpList_store_row rfl 79 _ _ rfl (w.heap.size + 1) (op3 10 0 ⟨#[]⟩) rfl rfl 79 (op3 0 0 ⟨#[]⟩) Q1.out (oinfo _ _ _) rfl (oone _ _ _) ?_; rw [X2.out]))
  refine C.out.mono ?_
  rintro e w3 ⟨rfl, h3, b3, k3⟩
  have q3 := (k3 _ _ _ Q2.out (by decide) (by omega)).trans Q2.out
  have p3 := (k3 _ _ _ P2.out (by decide) (by omega)).trans P2.out
  have cq : w3.cell? ⟨w.heap.size + 1, 1, none⟩ = some (.int .u64 0) := by rw [cell_of_blk q3]; rfl
  have fq := frozen_of_blk q3 1
  have q4 : (w3.setCell ⟨w.heap.size + 1, 1, none⟩ (.int .u64 x)).heap[w.heap.size + 1]? = some (.cells (op3 10 x ⟨#[]⟩) 79 (0, 0)) := (setCell_blk (i := 1) q3 (.int .u64 x)).trans rfl
  obtain ⟨W4, hW4⟩ : ∃ W, w3.setCell ⟨w.heap.size + 1, 1, none⟩ (.int .u64 x) = W := ⟨_, rfl⟩
  have p4 : W4.heap[w.heap.size]? = some (.cells (op3 0 0 ⟨#[]⟩) 79 (0, 0)) := by rw [← hW4, Below.heap_setCell _ _ _ _ (by show w.heap.size ≠ w.heap.size + 1; omega)]; exact p3
  rw [hW4] at q4
  obtain ⟨W5, hW5⟩ : ∃ W, W4.setRow w.heap.size (op3 10 x ⟨#[]⟩) = W := ⟨_, rfl⟩
  have p5 : W5.heap[w.heap.size]? = some (.cells (op3 10 x ⟨#[]⟩) 79 (0, 0)) := by rw [← hW5]; exact setRow_blk p4
  have o5 : ∀ k, k ≠ w.heap.size → k ≠ w.heap.size + 1 → W5.heap[k]? = w3.heap[k]? := fun k e1 e2 => by rw [← hW5, setRow_other _ _ _ _ e1, ← hW4]; exact Below.heap_setCell _ _ _ _ e2
  have h5 : DS base W5 g M r1 := h3.keepT (o5 g (by omega) (by omega)) (fun k cells fr hc => o5 k (fun e => by rw [e, p3] at hc; simp at hc) (fun e => by rw [e, q3] at hc; simp at hc))
  have sz5 : W5.heap.size = w3.heap.size := by rw [← hW5, setRow_size, ← hW4]; simp [World.setCell]
  have b5 : Below base w W5 := by
    have hb := B2.out.trans b3
    refine ⟨by rw [← hW5, ← hW4]; exact hb.os, by rw [← hW5, ← hW4]; exact hb.tape, by rw [← hW5, ← hW4]; exact hb.output, by rw [sz5]; exact hb.size, fun k hk => by rw [o5 k (by omega) (by omega)]; exact hb.block k hk⟩
  have k5 : Keep8 g w W5 := fun k cells t hc ht hne => by
    have hlt := (Array.getElem?_eq_some_iff.1 hc).1
    rw [o5 k (by omega) (by omega), k3 k cells t ((O2.out k hlt).trans hc) ht hne]
    exact O2.out k hlt
  have X4 := Lib.hid hW4
  have X5 := Lib.hid hW5
  have Q4 := Lib.hid q4
  have P4 := Lib.hid p4
  have P5 := Lib.hid p5
  have FIN := Lib.hid (And.intro h5 (And.intro b5 k5))
  clear h3 b3 k3 q3 p3 hW5 q4 p4 p5 o5 h5 sz5 b5 k5 C X0 X1 X2 Q1 Q2 P2 B2
  go_wp2_with (first
    | refine wpList_load_row rfl 79 _ rfl (w.heap.size + 1) rfl 79 (op3 10 x ⟨#[]⟩) (0, 0) _ Q4.out Tryz.underlying79 rfl (oinfo _ _ _) ?_
    | (refine wpList_store_row rfl 79 _ _ rfl w.heap.size (op3 10 x ⟨#[]⟩) rfl rfl 79 (op3 0 0 ⟨#[]⟩) P4.out (oinfo _ _ _) rfl (oone _ _ _) ?_; rw [X5.out]))
  refine bodyPost_ret (results_ct Tryz.results105 _ _ w.heap.size 79 (op3 10 x ⟨#[]⟩) (0, 0) _ _ rfl rfl P5.out Tryz.underlying79 rfl (oinfo _ _ _)) rfl ?_
  exact ⟨rfl, FIN.out⟩
set_option maxRecDepth 5000 in
set_option maxHeartbeats 1600000 in
theorem consumed11 (base g M : Nat) (r : Option (List UInt8)) (w : World) (h : DS base w g M r) (hM : M ≤ 1000000000) (hx : 0 ≤ (c16 r).1 ∧ (c16 r).1 ≤ 65535) :
    Calls Tryz.prog 105 #[.pointer (some ⟨g, 0, none⟩), .int .i64 11] w fun e w' => e = .returned (.tuple #[.agg (op3 11 (c16 r).1 ⟨#[]⟩), .bool true]) ∧ DS base w' g M (c16 r).2 ∧ Below base w w' ∧ Keep8 g w w' := by
  obtain ⟨hg1, hg2⟩ := h.gl
  obtain ⟨W0, hW0⟩ : ∃ W, w.alloc (.cells (op3 0 0 ⟨#[]⟩) 79) = W := ⟨_, rfl⟩
  obtain ⟨W1, hW1⟩ : ∃ W, W0.alloc (.cells (op3 0 0 ⟨#[]⟩) 79) = W := ⟨_, rfl⟩
  obtain ⟨W2, hW2⟩ : ∃ W, W1.setRow (w.heap.size + 1) (op3 11 0 ⟨#[]⟩) = W := ⟨_, rfl⟩
  have s0 : W0.heap.size = w.heap.size + 1 := by rw [← hW0]; simp
  have s1 : W1.heap.size = w.heap.size + 1 + 1 := by rw [← hW1]; simp [s0]
  have s2 : W2.heap.size = w.heap.size + 1 + 1 := by rw [← hW2, setRow_size]; exact s1
  have q1 : W1.heap[w.heap.size + 1]? = some (.cells (op3 0 0 ⟨#[]⟩) 79 (0, 0)) := by rw [← hW1, ← s0]; exact heap_alloc_new _ _
  have q2 : W2.heap[w.heap.size + 1]? = some (.cells (op3 11 0 ⟨#[]⟩) 79 (0, 0)) := by rw [← hW2]; exact setRow_blk q1
  have p2 : W2.heap[w.heap.size]? = some (.cells (op3 0 0 ⟨#[]⟩) 79 (0, 0)) := by rw [← hW2, setRow_other _ _ _ _ (by omega), ← hW1, heap_alloc_old _ _ (by omega), ← hW0]; exact heap_alloc_new _ _
  have o2 : ∀ k, k < w.heap.size → W2.heap[k]? = w.heap[k]? := fun k hk => by rw [← hW2, setRow_other _ _ _ _ (by omega), ← hW1, heap_alloc_old _ _ (by omega), ← hW0, heap_alloc_old _ _ hk]
  have h2 : DS base W2 g M r := h.keep o2 (by rw [← hW2, ← hW1, ← hW0]; rfl) (by rw [← hW2, ← hW1, ← hW0]; rfl) (by rw [← hW2, ← hW1, ← hW0]; rfl) (by omega)
  have b2 : Below base w W2 := ⟨by rw [← hW2, ← hW1, ← hW0]; rfl, by rw [← hW2, ← hW1, ← hW0]; rfl, by rw [← hW2, ← hW1, ← hW0]; rfl, by omega, fun k hk => o2 k (by omega)⟩
  have C := Lib.hid (h2.eat16 hM)
  have X0 := Lib.hid hW0
  have X1 := Lib.hid hW1
  have X2 := Lib.hid hW2
  have S0 := Lib.hid s0
  have Q1 := Lib.hid q1
  have Q2 := Lib.hid q2
  have P2 := Lib.hid p2
  have O2 := Lib.hid o2
  have B2 := Lib.hid b2
  clear hW0 hW1 hW2 s0 s1 s2 q1 q2 p2 o2 b2 h2 h
  generalize (c16 r).1 = x at *
  generalize (c16 r).2 = r1 at *
  have ux := wraps_u64 x (by omega) (by omega)
  go_enter Tryz.func105, Tryz.ntmps105
  go_wp2_with (first
    | (refine wpList_allocTo rfl (some 4) rfl (.pointer (some ⟨w.heap.size, 0, none⟩)) (.cells (op3 0 0 ⟨#[]⟩) 79) (by as_aux_lemma => kernel_rfl) ?_; rw [X0.out])
    | refine wpList_buildTo rfl 79 _ rfl (some 8) rfl (op3 11 0 ⟨#[]⟩) (by as_aux_lemma => kernel_rfl) ?_
    | (refine wpList_allocTo rfl (some 6) rfl (.pointer (some ⟨w.heap.size + 1, 0, none⟩)) (.cells (op3 0 0 ⟨#[]⟩) 79) (by rw [← S0.out]; as_aux_lemma => kernel_rfl) ?_; rw [X1.out])
    | (refine wpList_store_row rfl 79 _ _ rfl (w.heap.size + 1) (op3 11 0 ⟨#[]⟩) rfl rfl 79 (op3 0 0 ⟨#[]⟩) Q1.out (oinfo _ _ _) rfl (oone _ _ _) ?_; rw [X2.out]))
  refine C.out.mono ?_
  rintro e w3 ⟨rfl, h3, b3, k3⟩
  have q3 := (k3 _ _ _ Q2.out (by decide) (by omega)).trans Q2.out
  have p3 := (k3 _ _ _ P2.out (by decide) (by omega)).trans P2.out
  have cq : w3.cell? ⟨w.heap.size + 1, 1, none⟩ = some (.int .u64 0) := by rw [cell_of_blk q3]; rfl
  have fq := frozen_of_blk q3 1
  have q4 : (w3.setCell ⟨w.heap.size + 1, 1, none⟩ (.int .u64 x)).heap[w.heap.size + 1]? = some (.cells (op3 11 x ⟨#[]⟩) 79 (0, 0)) := (setCell_blk (i := 1) q3 (.int .u64 x)).trans rfl
  obtain ⟨W4, hW4⟩ : ∃ W, w3.setCell ⟨w.heap.size + 1, 1, none⟩ (.int .u64 x) = W := ⟨_, rfl⟩
  have p4 : W4.heap[w.heap.size]? = some (.cells (op3 0 0 ⟨#[]⟩) 79 (0, 0)) := by rw [← hW4, Below.heap_setCell _ _ _ _ (by show w.heap.size ≠ w.heap.size + 1; omega)]; exact p3
  rw [hW4] at q4
  obtain ⟨W5, hW5⟩ : ∃ W, W4.setRow w.heap.size (op3 11 x ⟨#[]⟩) = W := ⟨_, rfl⟩
  have p5 : W5.heap[w.heap.size]? = some (.cells (op3 11 x ⟨#[]⟩) 79 (0, 0)) := by rw [← hW5]; exact setRow_blk p4
  have o5 : ∀ k, k ≠ w.heap.size → k ≠ w.heap.size + 1 → W5.heap[k]? = w3.heap[k]? := fun k e1 e2 => by rw [← hW5, setRow_other _ _ _ _ e1, ← hW4]; exact Below.heap_setCell _ _ _ _ e2
  have h5 : DS base W5 g M r1 := h3.keepT (o5 g (by omega) (by omega)) (fun k cells fr hc => o5 k (fun e => by rw [e, p3] at hc; simp at hc) (fun e => by rw [e, q3] at hc; simp at hc))
  have sz5 : W5.heap.size = w3.heap.size := by rw [← hW5, setRow_size, ← hW4]; simp [World.setCell]
  have b5 : Below base w W5 := by
    have hb := B2.out.trans b3
    refine ⟨by rw [← hW5, ← hW4]; exact hb.os, by rw [← hW5, ← hW4]; exact hb.tape, by rw [← hW5, ← hW4]; exact hb.output, by rw [sz5]; exact hb.size, fun k hk => by rw [o5 k (by omega) (by omega)]; exact hb.block k hk⟩
  have k5 : Keep8 g w W5 := fun k cells t hc ht hne => by
    have hlt := (Array.getElem?_eq_some_iff.1 hc).1
    rw [o5 k (by omega) (by omega), k3 k cells t ((O2.out k hlt).trans hc) ht hne]
    exact O2.out k hlt
  have X4 := Lib.hid hW4
  have X5 := Lib.hid hW5
  have Q4 := Lib.hid q4
  have P4 := Lib.hid p4
  have P5 := Lib.hid p5
  have FIN := Lib.hid (And.intro h5 (And.intro b5 k5))
  clear h3 b3 k3 q3 p3 hW5 q4 p4 p5 o5 h5 sz5 b5 k5 C X0 X1 X2 Q1 Q2 P2 B2
  go_wp2_with (first
    | refine wpList_load_row rfl 79 _ rfl (w.heap.size + 1) rfl 79 (op3 11 x ⟨#[]⟩) (0, 0) _ Q4.out Tryz.underlying79 rfl (oinfo _ _ _) ?_
    | (refine wpList_store_row rfl 79 _ _ rfl w.heap.size (op3 11 x ⟨#[]⟩) rfl rfl 79 (op3 0 0 ⟨#[]⟩) P4.out (oinfo _ _ _) rfl (oone _ _ _) ?_; rw [X5.out]))
  refine bodyPost_ret (results_ct Tryz.results105 _ _ w.heap.size 79 (op3 11 x ⟨#[]⟩) (0, 0) _ _ rfl rfl P5.out Tryz.underlying79 rfl (oinfo _ _ _)) rfl ?_
  exact ⟨rfl, FIN.out⟩
set_option maxRecDepth 5000 in
set_option maxHeartbeats 1600000 in
theorem consumed12 (base g M : Nat) (r : Option (List UInt8)) (w : World) (h : DS base w g M r) (hM : M ≤ 1000000000) (hx : 0 ≤ (c32 r).1 ∧ (c32 r).1 ≤ 4294967295) :
    Calls Tryz.prog 105 #[.pointer (some ⟨g, 0, none⟩), .int .i64 12] w fun e w' => e = .returned (.tuple #[.agg (op3 12 (c32 r).1 ⟨#[]⟩), .bool true]) ∧ DS base w' g M (c32 r).2 ∧ Below base w w' ∧ Keep8 g w w' := by
  obtain ⟨hg1, hg2⟩ := h.gl
  obtain ⟨W0, hW0⟩ : ∃ W, w.alloc (.cells (op3 0 0 ⟨#[]⟩) 79) = W := ⟨_, rfl⟩
  obtain ⟨W1, hW1⟩ : ∃ W, W0.alloc (.cells (op3 0 0 ⟨#[]⟩) 79) = W := ⟨_, rfl⟩
  obtain ⟨W2, hW2⟩ : ∃ W, W1.setRow (w.heap.size + 1) (op3 12 0 ⟨#[]⟩) = W := ⟨_, rfl⟩
  have s0 : W0.heap.size = w.heap.size + 1 := by rw [← hW0]; simp
  have s1 : W1.heap.size = w.heap.size + 1 + 1 := by rw [← hW1]; simp [s0]
  have s2 : W2.heap.size = w.heap.size + 1 + 1 := by rw [← hW2, setRow_size]; exact s1
  have q1 : W1.heap[w.heap.size + 1]? = some (.cells (op3 0 0 ⟨#[]⟩) 79 (0, 0)) := by rw [← hW1, ← s0]; exact heap_alloc_new _ _
  have q2 : W2.heap[w.heap.size + 1]? = some (.cells (op3 12 0 ⟨#[]⟩) 79 (0, 0)) := by rw [← hW2]; exact setRow_blk q1
  have p2 : W2.heap[w.heap.size]? = some (.cells (op3 0 0 ⟨#[]⟩) 79 (0, 0)) := by rw [← hW2, setRow_other _ _ _ _ (by omega), ← hW1, heap_alloc_old _ _ (by omega), ← hW0]; exact heap_alloc_new _ _
  have o2 : ∀ k, k < w.heap.size → W2.heap[k]? = w.heap[k]? := fun k hk => by rw [← hW2, setRow_other _ _ _ _ (by omega), ← hW1, heap_alloc_old _ _ (by omega), ← hW0, heap_alloc_old _ _ hk]
  have h2 : DS base W2 g M r := h.keep o2 (by rw [← hW2, ← hW1, ← hW0]; rfl) (by rw [← hW2, ← hW1, ← hW0]; rfl) (by rw [← hW2, ← hW1, ← hW0]; rfl) (by omega)
  have b2 : Below base w W2 := ⟨by rw [← hW2, ← hW1, ← hW0]; rfl, by rw [← hW2, ← hW1, ← hW0]; rfl, by rw [← hW2, ← hW1, ← hW0]; rfl, by omega, fun k hk => o2 k (by omega)⟩
  have C := Lib.hid (h2.eat32 hM)
  have X0 := Lib.hid hW0
  have X1 := Lib.hid hW1
  have X2 := Lib.hid hW2
  have S0 := Lib.hid s0
  have Q1 := Lib.hid q1
  have Q2 := Lib.hid q2
  have P2 := Lib.hid p2
  have O2 := Lib.hid o2
  have B2 := Lib.hid b2
  clear hW0 hW1 hW2 s0 s1 s2 q1 q2 p2 o2 b2 h2 h
  generalize (c32 r).1 = x at *
  generalize (c32 r).2 = r1 at *
  have ux := wraps_u64 x (by omega) (by omega)
  go_enter Tryz.func105, Tryz.ntmps105
  go_wp2_with (first
    | (refine wpList_allocTo rfl (some 4) rfl (.pointer (some ⟨w.heap.size, 0, none⟩)) (.cells (op3 0 0 ⟨#[]⟩) 79) (by as_aux_lemma => kernel_rfl) ?_; rw [X0.out])
    | refine wpList_buildTo rfl 79 _ rfl (some 8) rfl (op3 12 0 ⟨#[]⟩) (by as_aux_lemma => kernel_rfl) ?_
    | (refine wpList_allocTo rfl (some 6) rfl (.pointer (some ⟨w.heap.size + 1, 0, none⟩)) (.cells (op3 0 0 ⟨#[]⟩) 79) (by rw [← S0.out]; as_aux_lemma => kernel_rfl) ?_; rw [X1.out])
    | (refine wpList_store_row rfl 79 _ _ rfl (w.heap.size + 1) (op3 12 0 ⟨#[]⟩) rfl rfl 79 (op3 0 0 ⟨#[]⟩) Q1.out (oinfo _ _ _) rfl (oone _ _ _) ?_; rw [X2.out]))
  refine C.out.mono ?_
  rintro e w3 ⟨rfl, h3, b3, k3⟩
  have q3 := (k3 _ _ _ Q2.out (by decide) (by omega)).trans Q2.out
  have p3 := (k3 _ _ _ P2.out (by decide) (by omega)).trans P2.out
  have cq : w3.cell? ⟨w.heap.size + 1, 1, none⟩ = some (.int .u64 0) := by rw [cell_of_blk q3]; rfl
  have fq := frozen_of_blk q3 1
  have q4 : (w3.setCell ⟨w.heap.size + 1, 1, none⟩ (.int .u64 x)).heap[w.heap.size + 1]? = some (.cells (op3 12 x ⟨#[]⟩) 79 (0, 0)) := (setCell_blk (i := 1) q3 (.int .u64 x)).trans rfl
  obtain ⟨W4, hW4⟩ : ∃ W, w3.setCell ⟨w.heap.size + 1, 1, none⟩ (.int .u64 x) = W := ⟨_, rfl⟩
  have p4 : W4.heap[w.heap.size]? = some (.cells (op3 0 0 ⟨#[]⟩) 79 (0, 0)) := by rw [← hW4, Below.heap_setCell _ _ _ _ (by show w.heap.size ≠ w.heap.size + 1; omega)]; exact p3
  rw [hW4] at q4
  obtain ⟨W5, hW5⟩ : ∃ W, W4.setRow w.heap.size (op3 12 x ⟨#[]⟩) = W := ⟨_, rfl⟩
  have p5 : W5.heap[w.heap.size]? = some (.cells (op3 12 x ⟨#[]⟩) 79 (0, 0)) := by rw [← hW5]; exact setRow_blk p4
  have o5 : ∀ k, k ≠ w.heap.size → k ≠ w.heap.size + 1 → W5.heap[k]? = w3.heap[k]? := fun k e1 e2 => by rw [← hW5, setRow_other _ _ _ _ e1, ← hW4]; exact Below.heap_setCell _ _ _ _ e2
  have h5 : DS base W5 g M r1 := h3.keepT (o5 g (by omega) (by omega)) (fun k cells fr hc => o5 k (fun e => by rw [e, p3] at hc; simp at hc) (fun e => by rw [e, q3] at hc; simp at hc))
  have sz5 : W5.heap.size = w3.heap.size := by rw [← hW5, setRow_size, ← hW4]; simp [World.setCell]
  have b5 : Below base w W5 := by
    have hb := B2.out.trans b3
    refine ⟨by rw [← hW5, ← hW4]; exact hb.os, by rw [← hW5, ← hW4]; exact hb.tape, by rw [← hW5, ← hW4]; exact hb.output, by rw [sz5]; exact hb.size, fun k hk => by rw [o5 k (by omega) (by omega)]; exact hb.block k hk⟩
  have k5 : Keep8 g w W5 := fun k cells t hc ht hne => by
    have hlt := (Array.getElem?_eq_some_iff.1 hc).1
    rw [o5 k (by omega) (by omega), k3 k cells t ((O2.out k hlt).trans hc) ht hne]
    exact O2.out k hlt
  have X4 := Lib.hid hW4
  have X5 := Lib.hid hW5
  have Q4 := Lib.hid q4
  have P4 := Lib.hid p4
  have P5 := Lib.hid p5
  have FIN := Lib.hid (And.intro h5 (And.intro b5 k5))
  clear h3 b3 k3 q3 p3 hW5 q4 p4 p5 o5 h5 sz5 b5 k5 C X0 X1 X2 Q1 Q2 P2 B2
  go_wp2_with (first
    | refine wpList_load_row rfl 79 _ rfl (w.heap.size + 1) rfl 79 (op3 12 x ⟨#[]⟩) (0, 0) _ Q4.out Tryz.underlying79 rfl (oinfo _ _ _) ?_
    | (refine wpList_store_row rfl 79 _ _ rfl w.heap.size (op3 12 x ⟨#[]⟩) rfl rfl 79 (op3 0 0 ⟨#[]⟩) P4.out (oinfo _ _ _) rfl (oone _ _ _) ?_; rw [X5.out]))
  refine bodyPost_ret (results_ct Tryz.results105 _ _ w.heap.size 79 (op3 12 x ⟨#[]⟩) (0, 0) _ _ rfl rfl P5.out Tryz.underlying79 rfl (oinfo _ _ _)) rfl ?_
  exact ⟨rfl, FIN.out⟩
set_option maxRecDepth 5000 in
set_option maxHeartbeats 1600000 in
theorem consumed13 (base g M : Nat) (r : Option (List UInt8)) (w : World) (h : DS base w g M r) (hM : M ≤ 1000000000) (hx : 0 ≤ (c64 r).1 ∧ (c64 r).1 ≤ 18446744073709551615) :
    Calls Tryz.prog 105 #[.pointer (some ⟨g, 0, none⟩), .int .i64 13] w fun e w' => e = .returned (.tuple #[.agg (op3 13 (c64 r).1 ⟨#[]⟩), .bool true]) ∧ DS base w' g M (c64 r).2 ∧ Below base w w' ∧ Keep8 g w w' := by
  obtain ⟨hg1, hg2⟩ := h.gl
  obtain ⟨W0, hW0⟩ : ∃ W, w.alloc (.cells (op3 0 0 ⟨#[]⟩) 79) = W := ⟨_, rfl⟩
  obtain ⟨W1, hW1⟩ : ∃ W, W0.alloc (.cells (op3 0 0 ⟨#[]⟩) 79) = W := ⟨_, rfl⟩
  obtain ⟨W2, hW2⟩ : ∃ W, W1.setRow (w.heap.size + 1) (op3 13 0 ⟨#[]⟩) = W := ⟨_, rfl⟩
  have s0 : W0.heap.size = w.heap.size + 1 := by rw [← hW0]; simp
  have s1 : W1.heap.size = w.heap.size + 1 + 1 := by rw [← hW1]; simp [s0]
  have s2 : W2.heap.size = w.heap.size + 1 + 1 := by rw [← hW2, setRow_size]; exact s1
  have q1 : W1.heap[w.heap.size + 1]? = some (.cells (op3 0 0 ⟨#[]⟩) 79 (0, 0)) := by rw [← hW1, ← s0]; exact heap_alloc_new _ _
  have q2 : W2.heap[w.heap.size + 1]? = some (.cells (op3 13 0 ⟨#[]⟩) 79 (0, 0)) := by rw [← hW2]; exact setRow_blk q1
  have p2 : W2.heap[w.heap.size]? = some (.cells (op3 0 0 ⟨#[]⟩) 79 (0, 0)) := by rw [← hW2, setRow_other _ _ _ _ (by omega), ← hW1, heap_alloc_old _ _ (by omega), ← hW0]; exact heap_alloc_new _ _
  have o2 : ∀ k, k < w.heap.size → W2.heap[k]? = w.heap[k]? := fun k hk => by rw [← hW2, setRow_other _ _ _ _ (by omega), ← hW1, heap_alloc_old _ _ (by omega), ← hW0, heap_alloc_old _ _ hk]
  have h2 : DS base W2 g M r := h.keep o2 (by rw [← hW2, ← hW1, ← hW0]; rfl) (by rw [← hW2, ← hW1, ← hW0]; rfl) (by rw [← hW2, ← hW1, ← hW0]; rfl) (by omega)
  have b2 : Below base w W2 := ⟨by rw [← hW2, ← hW1, ← hW0]; rfl, by rw [← hW2, ← hW1, ← hW0]; rfl, by rw [← hW2, ← hW1, ← hW0]; rfl, by omega, fun k hk => o2 k (by omega)⟩
  have C := Lib.hid (h2.eat64 hM)
  have X0 := Lib.hid hW0
  have X1 := Lib.hid hW1
  have X2 := Lib.hid hW2
  have S0 := Lib.hid s0
  have Q1 := Lib.hid q1
  have Q2 := Lib.hid q2
  have P2 := Lib.hid p2
  have O2 := Lib.hid o2
  have B2 := Lib.hid b2
  clear hW0 hW1 hW2 s0 s1 s2 q1 q2 p2 o2 b2 h2 h
  generalize (c64 r).1 = x at *
  generalize (c64 r).2 = r1 at *
  have ux := wraps_u64 x (by omega) (by omega)
  go_enter Tryz.func105, Tryz.ntmps105
  go_wp2_with (first
    | (refine wpList_allocTo rfl (some 4) rfl (.pointer (some ⟨w.heap.size, 0, none⟩)) (.cells (op3 0 0 ⟨#[]⟩) 79) (by as_aux_lemma => kernel_rfl) ?_; rw [X0.out])
    | refine wpList_buildTo rfl 79 _ rfl (some 8) rfl (op3 13 0 ⟨#[]⟩) (by as_aux_lemma => kernel_rfl) ?_
    | (refine wpList_allocTo rfl (some 6) rfl (.pointer (some ⟨w.heap.size + 1, 0, none⟩)) (.cells (op3 0 0 ⟨#[]⟩) 79) (by rw [← S0.out]; as_aux_lemma => kernel_rfl) ?_; rw [X1.out])
    | (refine wpList_store_row rfl 79 _ _ rfl (w.heap.size + 1) (op3 13 0 ⟨#[]⟩) rfl rfl 79 (op3 0 0 ⟨#[]⟩) Q1.out (oinfo _ _ _) rfl (oone _ _ _) ?_; rw [X2.out]))
  refine C.out.mono ?_
  rintro e w3 ⟨rfl, h3, b3, k3⟩
  have q3 := (k3 _ _ _ Q2.out (by decide) (by omega)).trans Q2.out
  have p3 := (k3 _ _ _ P2.out (by decide) (by omega)).trans P2.out
  have cq : w3.cell? ⟨w.heap.size + 1, 1, none⟩ = some (.int .u64 0) := by rw [cell_of_blk q3]; rfl
  have fq := frozen_of_blk q3 1
  have q4 : (w3.setCell ⟨w.heap.size + 1, 1, none⟩ (.int .u64 x)).heap[w.heap.size + 1]? = some (.cells (op3 13 x ⟨#[]⟩) 79 (0, 0)) := (setCell_blk (i := 1) q3 (.int .u64 x)).trans rfl
  obtain ⟨W4, hW4⟩ : ∃ W, w3.setCell ⟨w.heap.size + 1, 1, none⟩ (.int .u64 x) = W := ⟨_, rfl⟩
  have p4 : W4.heap[w.heap.size]? = some (.cells (op3 0 0 ⟨#[]⟩) 79 (0, 0)) := by rw [← hW4, Below.heap_setCell _ _ _ _ (by show w.heap.size ≠ w.heap.size + 1; omega)]; exact p3
  rw [hW4] at q4
  obtain ⟨W5, hW5⟩ : ∃ W, W4.setRow w.heap.size (op3 13 x ⟨#[]⟩) = W := ⟨_, rfl⟩
  have p5 : W5.heap[w.heap.size]? = some (.cells (op3 13 x ⟨#[]⟩) 79 (0, 0)) := by rw [← hW5]; exact setRow_blk p4
  have o5 : ∀ k, k ≠ w.heap.size → k ≠ w.heap.size + 1 → W5.heap[k]? = w3.heap[k]? := fun k e1 e2 => by rw [← hW5, setRow_other _ _ _ _ e1, ← hW4]; exact Below.heap_setCell _ _ _ _ e2
  have h5 : DS base W5 g M r1 := h3.keepT (o5 g (by omega) (by omega)) (fun k cells fr hc => o5 k (fun e => by rw [e, p3] at hc; simp at hc) (fun e => by rw [e, q3] at hc; simp at hc))
  have sz5 : W5.heap.size = w3.heap.size := by rw [← hW5, setRow_size, ← hW4]; simp [World.setCell]
  have b5 : Below base w W5 := by
    have hb := B2.out.trans b3
    refine ⟨by rw [← hW5, ← hW4]; exact hb.os, by rw [← hW5, ← hW4]; exact hb.tape, by rw [← hW5, ← hW4]; exact hb.output, by rw [sz5]; exact hb.size, fun k hk => by rw [o5 k (by omega) (by omega)]; exact hb.block k hk⟩
  have k5 : Keep8 g w W5 := fun k cells t hc ht hne => by
    have hlt := (Array.getElem?_eq_some_iff.1 hc).1
    rw [o5 k (by omega) (by omega), k3 k cells t ((O2.out k hlt).trans hc) ht hne]
    exact O2.out k hlt
  have X4 := Lib.hid hW4
  have X5 := Lib.hid hW5
  have Q4 := Lib.hid q4
  have P4 := Lib.hid p4
  have P5 := Lib.hid p5
  have FIN := Lib.hid (And.intro h5 (And.intro b5 k5))
  clear h3 b3 k3 q3 p3 hW5 q4 p4 p5 o5 h5 sz5 b5 k5 C X0 X1 X2 Q1 Q2 P2 B2
  go_wp2_with (first
    | refine wpList_load_row rfl 79 _ rfl (w.heap.size + 1) rfl 79 (op3 13 x ⟨#[]⟩) (0, 0) _ Q4.out Tryz.underlying79 rfl (oinfo _ _ _) ?_
    | (refine wpList_store_row rfl 79 _ _ rfl w.heap.size (op3 13 x ⟨#[]⟩) rfl rfl 79 (op3 0 0 ⟨#[]⟩) P4.out (oinfo _ _ _) rfl (oone _ _ _) ?_; rw [X5.out]))
  refine bodyPost_ret (results_ct Tryz.results105 _ _ w.heap.size 79 (op3 13 x ⟨#[]⟩) (0, 0) _ _ rfl rfl P5.out Tryz.underlying79 rfl (oinfo _ _ _)) rfl ?_
  exact ⟨rfl, FIN.out⟩
set_option maxRecDepth 5000 in
set_option maxHeartbeats 1600000 in
theorem consumed17 (base g M : Nat) (r : Option (List UInt8)) (w : World) (h : DS base w g M r) (hM : M ≤ 1000000000) (hx : 0 ≤ (c32 r).1 ∧ (c32 r).1 ≤ 4294967295) :
    Calls Tryz.prog 105 #[.pointer (some ⟨g, 0, none⟩), .int .i64 17] w fun e w' => e = .returned (.tuple #[.agg (op3 17 (c32 r).1 ⟨#[]⟩), .bool true]) ∧ DS base w' g M (c32 r).2 ∧ Below base w w' ∧ Keep8 g w w' := by
  obtain ⟨hg1, hg2⟩ := h.gl
  obtain ⟨W0, hW0⟩ : ∃ W, w.alloc (.cells (op3 0 0 ⟨#[]⟩) 79) = W := ⟨_, rfl⟩
  obtain ⟨W1, hW1⟩ : ∃ W, W0.alloc (.cells (op3 0 0 ⟨#[]⟩) 79) = W := ⟨_, rfl⟩
  obtain ⟨W2, hW2⟩ : ∃ W, W1.setRow (w.heap.size + 1) (op3 17 0 ⟨#[]⟩) = W := ⟨_, rfl⟩
  have s0 : W0.heap.size = w.heap.size + 1 := by rw [← hW0]; simp
  have s1 : W1.heap.size = w.heap.size + 1 + 1 := by rw [← hW1]; simp [s0]
  have s2 : W2.heap.size = w.heap.size + 1 + 1 := by rw [← hW2, setRow_size]; exact s1
  have q1 : W1.heap[w.heap.size + 1]? = some (.cells (op3 0 0 ⟨#[]⟩) 79 (0, 0)) := by rw [← hW1, ← s0]; exact heap_alloc_new _ _
  have q2 : W2.heap[w.heap.size + 1]? = some (.cells (op3 17 0 ⟨#[]⟩) 79 (0, 0)) := by rw [← hW2]; exact setRow_blk q1
  have p2 : W2.heap[w.heap.size]? = some (.cells (op3 0 0 ⟨#[]⟩) 79 (0, 0)) := by rw [← hW2, setRow_other _ _ _ _ (by omega), ← hW1, heap_alloc_old _ _ (by omega), ← hW0]; exact heap_alloc_new _ _
  have o2 : ∀ k, k < w.heap.size → W2.heap[k]? = w.heap[k]? := fun k hk => by rw [← hW2, setRow_other _ _ _ _ (by omega), ← hW1, heap_alloc_old _ _ (by omega), ← hW0, heap_alloc_old _ _ hk]
  have h2 : DS base W2 g M r := h.keep o2 (by rw [← hW2, ← hW1, ← hW0]; rfl) (by rw [← hW2, ← hW1, ← hW0]; rfl) (by rw [← hW2, ← hW1, ← hW0]; rfl) (by omega)
  have b2 : Below base w W2 := ⟨by rw [← hW2, ← hW1, ← hW0]; rfl, by rw [← hW2, ← hW1, ← hW0]; rfl, by rw [← hW2, ← hW1, ← hW0]; rfl, by omega, fun k hk => o2 k (by omega)⟩
  have C := Lib.hid (h2.eatCount hM)
  have X0 := Lib.hid hW0
  have X1 := Lib.hid hW1
  have X2 := Lib.hid hW2
  have S0 := Lib.hid s0
  have Q1 := Lib.hid q1
  have Q2 := Lib.hid q2
  have P2 := Lib.hid p2
  have O2 := Lib.hid o2
  have B2 := Lib.hid b2
  clear hW0 hW1 hW2 s0 s1 s2 q1 q2 p2 o2 b2 h2 h
  generalize (c32 r).1 = x at *
  generalize (c32 r).2 = r1 at *
  have ux := wraps_u64 x (by omega) (by omega)
  go_enter Tryz.func105, Tryz.ntmps105
  go_wp2_with (first
    | (refine wpList_allocTo rfl (some 4) rfl (.pointer (some ⟨w.heap.size, 0, none⟩)) (.cells (op3 0 0 ⟨#[]⟩) 79) (by as_aux_lemma => kernel_rfl) ?_; rw [X0.out])
    | refine wpList_buildTo rfl 79 _ rfl (some 8) rfl (op3 17 0 ⟨#[]⟩) (by as_aux_lemma => kernel_rfl) ?_
    | (refine wpList_allocTo rfl (some 6) rfl (.pointer (some ⟨w.heap.size + 1, 0, none⟩)) (.cells (op3 0 0 ⟨#[]⟩) 79) (by rw [← S0.out]; as_aux_lemma => kernel_rfl) ?_; rw [X1.out])
    | (refine wpList_store_row rfl 79 _ _ rfl (w.heap.size + 1) (op3 17 0 ⟨#[]⟩) rfl rfl 79 (op3 0 0 ⟨#[]⟩) Q1.out (oinfo _ _ _) rfl (oone _ _ _) ?_; rw [X2.out]))
  refine C.out.mono ?_
  rintro e w3 ⟨rfl, h3, b3, k3⟩
  have q3 := (k3 _ _ _ Q2.out (by decide) (by omega)).trans Q2.out
  have p3 := (k3 _ _ _ P2.out (by decide) (by omega)).trans P2.out
  have cq : w3.cell? ⟨w.heap.size + 1, 1, none⟩ = some (.int .u64 0) := by rw [cell_of_blk q3]; rfl
  have fq := frozen_of_blk q3 1
  have q4 : (w3.setCell ⟨w.heap.size + 1, 1, none⟩ (.int .u64 x)).heap[w.heap.size + 1]? = some (.cells (op3 17 x ⟨#[]⟩) 79 (0, 0)) := (setCell_blk (i := 1) q3 (.int .u64 x)).trans rfl
  obtain ⟨W4, hW4⟩ : ∃ W, w3.setCell ⟨w.heap.size + 1, 1, none⟩ (.int .u64 x) = W := ⟨_, rfl⟩
  have p4 : W4.heap[w.heap.size]? = some (.cells (op3 0 0 ⟨#[]⟩) 79 (0, 0)) := by rw [← hW4, Below.heap_setCell _ _ _ _ (by show w.heap.size ≠ w.heap.size + 1; omega)]; exact p3
  rw [hW4] at q4
  obtain ⟨W5, hW5⟩ : ∃ W, W4.setRow w.heap.size (op3 17 x ⟨#[]⟩) = W := ⟨_, rfl⟩
  have p5 : W5.heap[w.heap.size]? = some (.cells (op3 17 x ⟨#[]⟩) 79 (0, 0)) := by rw [← hW5]; exact setRow_blk p4
  have o5 : ∀ k, k ≠ w.heap.size → k ≠ w.heap.size + 1 → W5.heap[k]? = w3.heap[k]? := fun k e1 e2 => by rw [← hW5, setRow_other _ _ _ _ e1, ← hW4]; exact Below.heap_setCell _ _ _ _ e2
  have h5 : DS base W5 g M r1 := h3.keepT (o5 g (by omega) (by omega)) (fun k cells fr hc => o5 k (fun e => by rw [e, p3] at hc; simp at hc) (fun e => by rw [e, q3] at hc; simp at hc))
  have sz5 : W5.heap.size = w3.heap.size := by rw [← hW5, setRow_size, ← hW4]; simp [World.setCell]
  have b5 : Below base w W5 := by
    have hb := B2.out.trans b3
    refine ⟨by rw [← hW5, ← hW4]; exact hb.os, by rw [← hW5, ← hW4]; exact hb.tape, by rw [← hW5, ← hW4]; exact hb.output, by rw [sz5]; exact hb.size, fun k hk => by rw [o5 k (by omega) (by omega)]; exact hb.block k hk⟩
  have k5 : Keep8 g w W5 := fun k cells t hc ht hne => by
    have hlt := (Array.getElem?_eq_some_iff.1 hc).1
    rw [o5 k (by omega) (by omega), k3 k cells t ((O2.out k hlt).trans hc) ht hne]
    exact O2.out k hlt
  have X4 := Lib.hid hW4
  have X5 := Lib.hid hW5
  have Q4 := Lib.hid q4
  have P4 := Lib.hid p4
  have P5 := Lib.hid p5
  have FIN := Lib.hid (And.intro h5 (And.intro b5 k5))
  clear h3 b3 k3 q3 p3 hW5 q4 p4 p5 o5 h5 sz5 b5 k5 C X0 X1 X2 Q1 Q2 P2 B2
  go_wp2_with (first
    | refine wpList_load_row rfl 79 _ rfl (w.heap.size + 1) rfl 79 (op3 17 x ⟨#[]⟩) (0, 0) _ Q4.out Tryz.underlying79 rfl (oinfo _ _ _) ?_
    | (refine wpList_store_row rfl 79 _ _ rfl w.heap.size (op3 17 x ⟨#[]⟩) rfl rfl 79 (op3 0 0 ⟨#[]⟩) P4.out (oinfo _ _ _) rfl (oone _ _ _) ?_; rw [X5.out]))
  refine bodyPost_ret (results_ct Tryz.results105 _ _ w.heap.size 79 (op3 17 x ⟨#[]⟩) (0, 0) _ _ rfl rfl P5.out Tryz.underlying79 rfl (oinfo _ _ _)) rfl ?_
  exact ⟨rfl, FIN.out⟩
set_option maxRecDepth 5000 in
set_option maxHeartbeats 1600000 in
theorem consumed14 (base g M : Nat) (r : Option (List UInt8)) (w : World) (h : DS base w g M r) (hM : M ≤ 1000000000) (hx : 0 ≤ (c64 r).1 ∧ (c64 r).1 ≤ 18446744073709551615) :
    Calls Tryz.prog 105 #[.pointer (some ⟨g, 0, none⟩), .int .i64 14] w fun e w' => e = .returned (.tuple #[.agg (op3 14 (c64 r).1 ⟨#[]⟩), .bool true]) ∧ DS base w' g M (c64 r).2 ∧ Below base w w' ∧ Keep8 g w w' := by
  obtain ⟨hg1, hg2⟩ := h.gl
  obtain ⟨W0, hW0⟩ : ∃ W, w.alloc (.cells (op3 0 0 ⟨#[]⟩) 79) = W := ⟨_, rfl⟩
  obtain ⟨W1, hW1⟩ : ∃ W, W0.alloc (.cells (op3 0 0 ⟨#[]⟩) 79) = W := ⟨_, rfl⟩
  obtain ⟨W2, hW2⟩ : ∃ W, W1.setRow (w.heap.size + 1) (op3 14 0 ⟨#[]⟩) = W := ⟨_, rfl⟩
  have s0 : W0.heap.size = w.heap.size + 1 := by rw [← hW0]; simp
  have s1 : W1.heap.size = w.heap.size + 1 + 1 := by rw [← hW1]; simp [s0]
  have s2 : W2.heap.size = w.heap.size + 1 + 1 := by rw [← hW2, setRow_size]; exact s1
  have q1 : W1.heap[w.heap.size + 1]? = some (.cells (op3 0 0 ⟨#[]⟩) 79 (0, 0)) := by rw [← hW1, ← s0]; exact heap_alloc_new _ _
  have q2 : W2.heap[w.heap.size + 1]? = some (.cells (op3 14 0 ⟨#[]⟩) 79 (0, 0)) := by rw [← hW2]; exact setRow_blk q1
  have p2 : W2.heap[w.heap.size]? = some (.cells (op3 0 0 ⟨#[]⟩) 79 (0, 0)) := by rw [← hW2, setRow_other _ _ _ _ (by omega), ← hW1, heap_alloc_old _ _ (by omega), ← hW0]; exact heap_alloc_new _ _
  have o2 : ∀ k, k < w.heap.size → W2.heap[k]? = w.heap[k]? := fun k hk => by rw [← hW2, setRow_other _ _ _ _ (by omega), ← hW1, heap_alloc_old _ _ (by omega), ← hW0, heap_alloc_old _ _ hk]
  have h2 : DS base W2 g M r := h.keep o2 (by rw [← hW2, ← hW1, ← hW0]; rfl) (by rw [← hW2, ← hW1, ← hW0]; rfl) (by rw [← hW2, ← hW1, ← hW0]; rfl) (by omega)
  have b2 : Below base w W2 := ⟨by rw [← hW2, ← hW1, ← hW0]; rfl, by rw [← hW2, ← hW1, ← hW0]; rfl, by rw [← hW2, ← hW1, ← hW0]; rfl, by omega, fun k hk => o2 k (by omega)⟩
  have C := Lib.hid (h2.eatI64 hM)
  have X0 := Lib.hid hW0
  have X1 := Lib.hid hW1
  have X2 := Lib.hid hW2
  have S0 := Lib.hid s0
  have Q1 := Lib.hid q1
  have Q2 := Lib.hid q2
  have P2 := Lib.hid p2
  have O2 := Lib.hid o2
  have B2 := Lib.hid b2
  clear hW0 hW1 hW2 s0 s1 s2 q1 q2 p2 o2 b2 h2 h
  generalize (c64 r).1 = x at *
  generalize (c64 r).2 = r1 at *
  obtain ⟨y, hy⟩ : ∃ y, IntKind.i64.wrap x = y := ⟨_, rfl⟩
  rw [hy] at C
  have ux : IntKind.u64.wrap y = x := by rw [← hy]; obtain ⟨x0, x1⟩ := hx; unfold IntKind.wrap; simp [IntKind.signed, IntKind.bits]; omega
  clear hy
  go_enter Tryz.func105, Tryz.ntmps105
  go_wp2_with (first
    | (refine wpList_allocTo rfl (some 4) rfl (.pointer (some ⟨w.heap.size, 0, none⟩)) (.cells (op3 0 0 ⟨#[]⟩) 79) (by as_aux_lemma => kernel_rfl) ?_; rw [X0.out])
    | refine wpList_buildTo rfl 79 _ rfl (some 8) rfl (op3 14 0 ⟨#[]⟩) (by as_aux_lemma => kernel_rfl) ?_
    | (refine wpList_allocTo rfl (some 6) rfl (.pointer (some ⟨w.heap.size + 1, 0, none⟩)) (.cells (op3 0 0 ⟨#[]⟩) 79) (by rw [← S0.out]; as_aux_lemma => kernel_rfl) ?_; rw [X1.out])
    | (refine wpList_store_row rfl 79 _ _ rfl (w.heap.size + 1) (op3 14 0 ⟨#[]⟩) rfl rfl 79 (op3 0 0 ⟨#[]⟩) Q1.out (oinfo _ _ _) rfl (oone _ _ _) ?_; rw [X2.out]))
  refine C.out.mono ?_
  rintro e w3 ⟨rfl, h3, b3, k3⟩
  have q3 := (k3 _ _ _ Q2.out (by decide) (by omega)).trans Q2.out
  have p3 := (k3 _ _ _ P2.out (by decide) (by omega)).trans P2.out
  have cq : w3.cell? ⟨w.heap.size + 1, 1, none⟩ = some (.int .u64 0) := by rw [cell_of_blk q3]; rfl
  have fq := frozen_of_blk q3 1
  have q4 : (w3.setCell ⟨w.heap.size + 1, 1, none⟩ (.int .u64 x)).heap[w.heap.size + 1]? = some (.cells (op3 14 x ⟨#[]⟩) 79 (0, 0)) := (setCell_blk (i := 1) q3 (.int .u64 x)).trans rfl
  obtain ⟨W4, hW4⟩ : ∃ W, w3.setCell ⟨w.heap.size + 1, 1, none⟩ (.int .u64 x) = W := ⟨_, rfl⟩
  have p4 : W4.heap[w.heap.size]? = some (.cells (op3 0 0 ⟨#[]⟩) 79 (0, 0)) := by rw [← hW4, Below.heap_setCell _ _ _ _ (by show w.heap.size ≠ w.heap.size + 1; omega)]; exact p3
  rw [hW4] at q4
  obtain ⟨W5, hW5⟩ : ∃ W, W4.setRow w.heap.size (op3 14 x ⟨#[]⟩) = W := ⟨_, rfl⟩
  have p5 : W5.heap[w.heap.size]? = some (.cells (op3 14 x ⟨#[]⟩) 79 (0, 0)) := by rw [← hW5]; exact setRow_blk p4
  have o5 : ∀ k, k ≠ w.heap.size → k ≠ w.heap.size + 1 → W5.heap[k]? = w3.heap[k]? := fun k e1 e2 => by rw [← hW5, setRow_other _ _ _ _ e1, ← hW4]; exact Below.heap_setCell _ _ _ _ e2
  have h5 : DS base W5 g M r1 := h3.keepT (o5 g (by omega) (by omega)) (fun k cells fr hc => o5 k (fun e => by rw [e, p3] at hc; simp at hc) (fun e => by rw [e, q3] at hc; simp at hc))
  have sz5 : W5.heap.size = w3.heap.size := by rw [← hW5, setRow_size, ← hW4]; simp [World.setCell]
  have b5 : Below base w W5 := by
    have hb := B2.out.trans b3
    refine ⟨by rw [← hW5, ← hW4]; exact hb.os, by rw [← hW5, ← hW4]; exact hb.tape, by rw [← hW5, ← hW4]; exact hb.output, by rw [sz5]; exact hb.size, fun k hk => by rw [o5 k (by omega) (by omega)]; exact hb.block k hk⟩
  have k5 : Keep8 g w W5 := fun k cells t hc ht hne => by
    have hlt := (Array.getElem?_eq_some_iff.1 hc).1
    rw [o5 k (by omega) (by omega), k3 k cells t ((O2.out k hlt).trans hc) ht hne]
    exact O2.out k hlt
  have X4 := Lib.hid hW4
  have X5 := Lib.hid hW5
  have Q4 := Lib.hid q4
  have P4 := Lib.hid p4
  have P5 := Lib.hid p5
  have FIN := Lib.hid (And.intro h5 (And.intro b5 k5))
  clear h3 b3 k3 q3 p3 hW5 q4 p4 p5 o5 h5 sz5 b5 k5 C X0 X1 X2 Q1 Q2 P2 B2
  go_wp2_with (first
    | refine wpList_load_row rfl 79 _ rfl (w.heap.size + 1) rfl 79 (op3 14 x ⟨#[]⟩) (0, 0) _ Q4.out Tryz.underlying79 rfl (oinfo _ _ _) ?_
    | (refine wpList_store_row rfl 79 _ _ rfl w.heap.size (op3 14 x ⟨#[]⟩) rfl rfl 79 (op3 0 0 ⟨#[]⟩) P4.out (oinfo _ _ _) rfl (oone _ _ _) ?_; rw [X5.out]))
  refine bodyPost_ret (results_ct Tryz.results105 _ _ w.heap.size 79 (op3 14 x ⟨#[]⟩) (0, 0) _ _ rfl rfl P5.out Tryz.underlying79 rfl (oinfo _ _ _)) rfl ?_
  exact ⟨rfl, FIN.out⟩
set_option maxRecDepth 5000 in
set_option maxHeartbeats 1600000 in
theorem consumed16 (base g M : Nat) (r : Option (List UInt8)) (w : World) (h : DS base w g M r) (hM : M ≤ 1000000000) :
    Calls Tryz.prog 105 #[.pointer (some ⟨g, 0, none⟩), .int .i64 16] w fun e w' => e = .returned (.tuple #[.agg (op3 16 0 (bs (cB r).1)), .bool true]) ∧ DS base w' g M (cB r).2 ∧ Below base w w' ∧ Keep8 g w w' := by
  obtain ⟨hg1, hg2⟩ := h.gl
  obtain ⟨W0, hW0⟩ : ∃ W, w.alloc (.cells (op3 0 0 ⟨#[]⟩) 79) = W := ⟨_, rfl⟩
  obtain ⟨W1, hW1⟩ : ∃ W, W0.alloc (.cells (op3 0 0 ⟨#[]⟩) 79) = W := ⟨_, rfl⟩
  obtain ⟨W2, hW2⟩ : ∃ W, W1.setRow (w.heap.size + 1) (op3 16 0 ⟨#[]⟩) = W := ⟨_, rfl⟩
  have s0 : W0.heap.size = w.heap.size + 1 := by rw [← hW0]; simp
  have s1 : W1.heap.size = w.heap.size + 1 + 1 := by rw [← hW1]; simp [s0]
  have s2 : W2.heap.size = w.heap.size + 1 + 1 := by rw [← hW2, setRow_size]; exact s1
  have q1 : W1.heap[w.heap.size + 1]? = some (.cells (op3 0 0 ⟨#[]⟩) 79 (0, 0)) := by rw [← hW1, ← s0]; exact heap_alloc_new _ _
  have q2 : W2.heap[w.heap.size + 1]? = some (.cells (op3 16 0 ⟨#[]⟩) 79 (0, 0)) := by rw [← hW2]; exact setRow_blk q1
  have p2 : W2.heap[w.heap.size]? = some (.cells (op3 0 0 ⟨#[]⟩) 79 (0, 0)) := by rw [← hW2, setRow_other _ _ _ _ (by omega), ← hW1, heap_alloc_old _ _ (by omega), ← hW0]; exact heap_alloc_new _ _
  have o2 : ∀ k, k < w.heap.size → W2.heap[k]? = w.heap[k]? := fun k hk => by rw [← hW2, setRow_other _ _ _ _ (by omega), ← hW1, heap_alloc_old _ _ (by omega), ← hW0, heap_alloc_old _ _ hk]
  have h2 : DS base W2 g M r := h.keep o2 (by rw [← hW2, ← hW1, ← hW0]; rfl) (by rw [← hW2, ← hW1, ← hW0]; rfl) (by rw [← hW2, ← hW1, ← hW0]; rfl) (by omega)
  have b2 : Below base w W2 := ⟨by rw [← hW2, ← hW1, ← hW0]; rfl, by rw [← hW2, ← hW1, ← hW0]; rfl, by rw [← hW2, ← hW1, ← hW0]; rfl, by omega, fun k hk => o2 k (by omega)⟩
  have C := Lib.hid (h2.eatStr hM)
  have X0 := Lib.hid hW0
  have X1 := Lib.hid hW1
  have X2 := Lib.hid hW2
  have S0 := Lib.hid s0
  have Q1 := Lib.hid q1
  have Q2 := Lib.hid q2
  have P2 := Lib.hid p2
  have O2 := Lib.hid o2
  have B2 := Lib.hid b2
  clear hW0 hW1 hW2 s0 s1 s2 q1 q2 p2 o2 b2 h2 h
  generalize bs (cB r).1 = x at *
  generalize (cB r).2 = r1 at *
  go_enter Tryz.func105, Tryz.ntmps105
  go_wp2_with (first
    | (refine wpList_allocTo rfl (some 4) rfl (.pointer (some ⟨w.heap.size, 0, none⟩)) (.cells (op3 0 0 ⟨#[]⟩) 79) (by as_aux_lemma => kernel_rfl) ?_; rw [X0.out])
    | refine wpList_buildTo rfl 79 _ rfl (some 8) rfl (op3 16 0 ⟨#[]⟩) (by as_aux_lemma => kernel_rfl) ?_
    | (refine wpList_allocTo rfl (some 6) rfl (.pointer (some ⟨w.heap.size + 1, 0, none⟩)) (.cells (op3 0 0 ⟨#[]⟩) 79) (by rw [← S0.out]; as_aux_lemma => kernel_rfl) ?_; rw [X1.out])
    | (refine wpList_store_row rfl 79 _ _ rfl (w.heap.size + 1) (op3 16 0 ⟨#[]⟩) rfl rfl 79 (op3 0 0 ⟨#[]⟩) Q1.out (oinfo _ _ _) rfl (oone _ _ _) ?_; rw [X2.out]))
  refine C.out.mono ?_
  rintro e w3 ⟨rfl, h3, b3, k3⟩
  have q3 := (k3 _ _ _ Q2.out (by decide) (by omega)).trans Q2.out
  have p3 := (k3 _ _ _ P2.out (by decide) (by omega)).trans P2.out
  have cq : w3.cell? ⟨w.heap.size + 1, 2, none⟩ = some (.string ⟨#[]⟩) := by rw [cell_of_blk q3]; rfl
  have fq := frozen_of_blk q3 2
  have q4 : (w3.setCell ⟨w.heap.size + 1, 2, none⟩ (.string x)).heap[w.heap.size + 1]? = some (.cells (op3 16 0 x) 79 (0, 0)) := (setCell_blk (i := 2) q3 (.string x)).trans rfl
  obtain ⟨W4, hW4⟩ : ∃ W, w3.setCell ⟨w.heap.size + 1, 2, none⟩ (.string x) = W := ⟨_, rfl⟩
  have p4 : W4.heap[w.heap.size]? = some (.cells (op3 0 0 ⟨#[]⟩) 79 (0, 0)) := by rw [← hW4, Below.heap_setCell _ _ _ _ (by show w.heap.size ≠ w.heap.size + 1; omega)]; exact p3
  rw [hW4] at q4
  obtain ⟨W5, hW5⟩ : ∃ W, W4.setRow w.heap.size (op3 16 0 x) = W := ⟨_, rfl⟩
  have p5 : W5.heap[w.heap.size]? = some (.cells (op3 16 0 x) 79 (0, 0)) := by rw [← hW5]; exact setRow_blk p4
  have o5 : ∀ k, k ≠ w.heap.size → k ≠ w.heap.size + 1 → W5.heap[k]? = w3.heap[k]? := fun k e1 e2 => by rw [← hW5, setRow_other _ _ _ _ e1, ← hW4]; exact Below.heap_setCell _ _ _ _ e2
  have h5 : DS base W5 g M r1 := h3.keepT (o5 g (by omega) (by omega)) (fun k cells fr hc => o5 k (fun e => by rw [e, p3] at hc; simp at hc) (fun e => by rw [e, q3] at hc; simp at hc))
  have sz5 : W5.heap.size = w3.heap.size := by rw [← hW5, setRow_size, ← hW4]; simp [World.setCell]
  have b5 : Below base w W5 := by
    have hb := B2.out.trans b3
    refine ⟨by rw [← hW5, ← hW4]; exact hb.os, by rw [← hW5, ← hW4]; exact hb.tape, by rw [← hW5, ← hW4]; exact hb.output, by rw [sz5]; exact hb.size, fun k hk => by rw [o5 k (by omega) (by omega)]; exact hb.block k hk⟩
  have k5 : Keep8 g w W5 := fun k cells t hc ht hne => by
    have hlt := (Array.getElem?_eq_some_iff.1 hc).1
    rw [o5 k (by omega) (by omega), k3 k cells t ((O2.out k hlt).trans hc) ht hne]
    exact O2.out k hlt
  have X4 := Lib.hid hW4
  have X5 := Lib.hid hW5
  have Q4 := Lib.hid q4
  have P4 := Lib.hid p4
  have P5 := Lib.hid p5
  have FIN := Lib.hid (And.intro h5 (And.intro b5 k5))
  clear h3 b3 k3 q3 p3 hW5 q4 p4 p5 o5 h5 sz5 b5 k5 C X0 X1 X2 Q1 Q2 P2 B2
  go_wp2_with (first
    | refine wpList_load_row rfl 79 _ rfl (w.heap.size + 1) rfl 79 (op3 16 0 x) (0, 0) _ Q4.out Tryz.underlying79 rfl (oinfo _ _ _) ?_
    | (refine wpList_store_row rfl 79 _ _ rfl w.heap.size (op3 16 0 x) rfl rfl 79 (op3 0 0 ⟨#[]⟩) P4.out (oinfo _ _ _) rfl (oone _ _ _) ?_; rw [X5.out]))
  refine bodyPost_ret (results_ct Tryz.results105 _ _ w.heap.size 79 (op3 16 0 x) (0, 0) _ _ rfl rfl P5.out Tryz.underlying79 rfl (oinfo _ _ _)) rfl ?_
  exact ⟨rfl, FIN.out⟩
set_option maxRecDepth 5000 in
set_option maxHeartbeats 1600000 in
theorem consumed15t (base g M : Nat) (r : Option (List UInt8)) (w : World) (h : DS base w g M r) (hM : M ≤ 1000000000) (hx : (c8 r).1 ≠ 0) :
    Calls Tryz.prog 105 #[.pointer (some ⟨g, 0, none⟩), .int .i64 15] w fun e w' => e = .returned (.tuple #[.agg (op3 15 1 ⟨#[]⟩), .bool true]) ∧ DS base w' g M (c8 r).2 ∧ Below base w w' ∧ Keep8 g w w' := by
  obtain ⟨hg1, hg2⟩ := h.gl
  obtain ⟨W0, hW0⟩ : ∃ W, w.alloc (.cells (op3 0 0 ⟨#[]⟩) 79) = W := ⟨_, rfl⟩
  obtain ⟨W1, hW1⟩ : ∃ W, W0.alloc (.cells (op3 0 0 ⟨#[]⟩) 79) = W := ⟨_, rfl⟩
  obtain ⟨W2, hW2⟩ : ∃ W, W1.setRow (w.heap.size + 1) (op3 15 0 ⟨#[]⟩) = W := ⟨_, rfl⟩
  have s0 : W0.heap.size = w.heap.size + 1 := by rw [← hW0]; simp
  have s1 : W1.heap.size = w.heap.size + 1 + 1 := by rw [← hW1]; simp [s0]
  have s2 : W2.heap.size = w.heap.size + 1 + 1 := by rw [← hW2, setRow_size]; exact s1
  have q1 : W1.heap[w.heap.size + 1]? = some (.cells (op3 0 0 ⟨#[]⟩) 79 (0, 0)) := by rw [← hW1, ← s0]; exact heap_alloc_new _ _
  have q2 : W2.heap[w.heap.size + 1]? = some (.cells (op3 15 0 ⟨#[]⟩) 79 (0, 0)) := by rw [← hW2]; exact setRow_blk q1
  have p2 : W2.heap[w.heap.size]? = some (.cells (op3 0 0 ⟨#[]⟩) 79 (0, 0)) := by rw [← hW2, setRow_other _ _ _ _ (by omega), ← hW1, heap_alloc_old _ _ (by omega), ← hW0]; exact heap_alloc_new _ _
  have o2 : ∀ k, k < w.heap.size → W2.heap[k]? = w.heap[k]? := fun k hk => by rw [← hW2, setRow_other _ _ _ _ (by omega), ← hW1, heap_alloc_old _ _ (by omega), ← hW0, heap_alloc_old _ _ hk]
  have h2 : DS base W2 g M r := h.keep o2 (by rw [← hW2, ← hW1, ← hW0]; rfl) (by rw [← hW2, ← hW1, ← hW0]; rfl) (by rw [← hW2, ← hW1, ← hW0]; rfl) (by omega)
  have b2 : Below base w W2 := ⟨by rw [← hW2, ← hW1, ← hW0]; rfl, by rw [← hW2, ← hW1, ← hW0]; rfl, by rw [← hW2, ← hW1, ← hW0]; rfl, by omega, fun k hk => o2 k (by omega)⟩
  have C := Lib.hid (h2.eatBool hM)
  have X0 := Lib.hid hW0
  have X1 := Lib.hid hW1
  have X2 := Lib.hid hW2
  have S0 := Lib.hid s0
  have Q1 := Lib.hid q1
  have Q2 := Lib.hid q2
  have P2 := Lib.hid p2
  have O2 := Lib.hid o2
  have B2 := Lib.hid b2
  clear hW0 hW1 hW2 s0 s1 s2 q1 q2 p2 o2 b2 h2 h
  generalize (c8 r).1 = x at *
  generalize (c8 r).2 = r1 at *
  have ux : (x != 0) = true := by simp [hx]
  rw [ux] at C
  go_enter Tryz.func105, Tryz.ntmps105
  go_wp2_with (first
    | (refine wpList_allocTo rfl (some 4) rfl (.pointer (some ⟨w.heap.size, 0, none⟩)) (.cells (op3 0 0 ⟨#[]⟩) 79) (by as_aux_lemma => kernel_rfl) ?_; rw [X0.out])
    | refine wpList_buildTo rfl 79 _ rfl (some 8) rfl (op3 15 0 ⟨#[]⟩) (by as_aux_lemma => kernel_rfl) ?_
    | (refine wpList_allocTo rfl (some 6) rfl (.pointer (some ⟨w.heap.size + 1, 0, none⟩)) (.cells (op3 0 0 ⟨#[]⟩) 79) (by rw [← S0.out]; as_aux_lemma => kernel_rfl) ?_; rw [X1.out])
    | (refine wpList_store_row rfl 79 _ _ rfl (w.heap.size + 1) (op3 15 0 ⟨#[]⟩) rfl rfl 79 (op3 0 0 ⟨#[]⟩) Q1.out (oinfo _ _ _) rfl (oone _ _ _) ?_; rw [X2.out]))
  refine C.out.mono ?_
  rintro e w3 ⟨rfl, h3, b3, k3⟩
  have q3 := (k3 _ _ _ Q2.out (by decide) (by omega)).trans Q2.out
  have p3 := (k3 _ _ _ P2.out (by decide) (by omega)).trans P2.out
  have cq : w3.cell? ⟨w.heap.size + 1, 1, none⟩ = some (.int .u64 0) := by rw [cell_of_blk q3]; rfl
  have fq := frozen_of_blk q3 1
  have q4 : (w3.setCell ⟨w.heap.size + 1, 1, none⟩ (.int .u64 1)).heap[w.heap.size + 1]? = some (.cells (op3 15 1 ⟨#[]⟩) 79 (0, 0)) := (setCell_blk (i := 1) q3 (.int .u64 1)).trans rfl
  obtain ⟨W4, hW4⟩ : ∃ W, w3.setCell ⟨w.heap.size + 1, 1, none⟩ (.int .u64 1) = W := ⟨_, rfl⟩
  have p4 : W4.heap[w.heap.size]? = some (.cells (op3 0 0 ⟨#[]⟩) 79 (0, 0)) := by rw [← hW4, Below.heap_setCell _ _ _ _ (by show w.heap.size ≠ w.heap.size + 1; omega)]; exact p3
  rw [hW4] at q4
  obtain ⟨W5, hW5⟩ : ∃ W, W4.setRow w.heap.size (op3 15 1 ⟨#[]⟩) = W := ⟨_, rfl⟩
  have p5 : W5.heap[w.heap.size]? = some (.cells (op3 15 1 ⟨#[]⟩) 79 (0, 0)) := by rw [← hW5]; exact setRow_blk p4
  have o5 : ∀ k, k ≠ w.heap.size → k ≠ w.heap.size + 1 → W5.heap[k]? = w3.heap[k]? := fun k e1 e2 => by rw [← hW5, setRow_other _ _ _ _ e1, ← hW4]; exact Below.heap_setCell _ _ _ _ e2
  have h5 : DS base W5 g M r1 := h3.keepT (o5 g (by omega) (by omega)) (fun k cells fr hc => o5 k (fun e => by rw [e, p3] at hc; simp at hc) (fun e => by rw [e, q3] at hc; simp at hc))
  have sz5 : W5.heap.size = w3.heap.size := by rw [← hW5, setRow_size, ← hW4]; simp [World.setCell]
  have b5 : Below base w W5 := by
    have hb := B2.out.trans b3
    refine ⟨by rw [← hW5, ← hW4]; exact hb.os, by rw [← hW5, ← hW4]; exact hb.tape, by rw [← hW5, ← hW4]; exact hb.output, by rw [sz5]; exact hb.size, fun k hk => by rw [o5 k (by omega) (by omega)]; exact hb.block k hk⟩
  have k5 : Keep8 g w W5 := fun k cells t hc ht hne => by
    have hlt := (Array.getElem?_eq_some_iff.1 hc).1
    rw [o5 k (by omega) (by omega), k3 k cells t ((O2.out k hlt).trans hc) ht hne]
    exact O2.out k hlt
  have X4 := Lib.hid hW4
  have X5 := Lib.hid hW5
  have Q4 := Lib.hid q4
  have P4 := Lib.hid p4
  have P5 := Lib.hid p5
  have FIN := Lib.hid (And.intro h5 (And.intro b5 k5))
  clear h3 b3 k3 q3 p3 hW5 q4 p4 p5 o5 h5 sz5 b5 k5 C X0 X1 X2 Q1 Q2 P2 B2
  go_wp2_with (first
    | refine wpList_load_row rfl 79 _ rfl (w.heap.size + 1) rfl 79 (op3 15 1 ⟨#[]⟩) (0, 0) _ Q4.out Tryz.underlying79 rfl (oinfo _ _ _) ?_
    | (refine wpList_store_row rfl 79 _ _ rfl w.heap.size (op3 15 1 ⟨#[]⟩) rfl rfl 79 (op3 0 0 ⟨#[]⟩) P4.out (oinfo _ _ _) rfl (oone _ _ _) ?_; rw [X5.out]))
  refine bodyPost_ret (results_ct Tryz.results105 _ _ w.heap.size 79 (op3 15 1 ⟨#[]⟩) (0, 0) _ _ rfl rfl P5.out Tryz.underlying79 rfl (oinfo _ _ _)) rfl ?_
  exact ⟨rfl, FIN.out⟩
set_option maxRecDepth 5000 in
set_option maxHeartbeats 1600000 in
theorem consumed15f (base g M : Nat) (r : Option (List UInt8)) (w : World) (h : DS base w g M r) (hM : M ≤ 1000000000) (hx : (c8 r).1 = 0) :
    Calls Tryz.prog 105 #[.pointer (some ⟨g, 0, none⟩), .int .i64 15] w fun e w' => e = .returned (.tuple #[.agg (op3 15 0 ⟨#[]⟩), .bool true]) ∧ DS base w' g M (c8 r).2 ∧ Below base w w' ∧ Keep8 g w w' := by
  obtain ⟨hg1, hg2⟩ := h.gl
  obtain ⟨W0, hW0⟩ : ∃ W, w.alloc (.cells (op3 0 0 ⟨#[]⟩) 79) = W := ⟨_, rfl⟩
  obtain ⟨W1, hW1⟩ : ∃ W, W0.alloc (.cells (op3 0 0 ⟨#[]⟩) 79) = W := ⟨_, rfl⟩
  obtain ⟨W2, hW2⟩ : ∃ W, W1.setRow (w.heap.size + 1) (op3 15 0 ⟨#[]⟩) = W := ⟨_, rfl⟩
  have s0 : W0.heap.size = w.heap.size + 1 := by rw [← hW0]; simp
  have s1 : W1.heap.size = w.heap.size + 1 + 1 := by rw [← hW1]; simp [s0]
  have s2 : W2.heap.size = w.heap.size + 1 + 1 := by rw [← hW2, setRow_size]; exact s1
  have q1 : W1.heap[w.heap.size + 1]? = some (.cells (op3 0 0 ⟨#[]⟩) 79 (0, 0)) := by rw [← hW1, ← s0]; exact heap_alloc_new _ _
  have q2 : W2.heap[w.heap.size + 1]? = some (.cells (op3 15 0 ⟨#[]⟩) 79 (0, 0)) := by rw [← hW2]; exact setRow_blk q1
  have p2 : W2.heap[w.heap.size]? = some (.cells (op3 0 0 ⟨#[]⟩) 79 (0, 0)) := by rw [← hW2, setRow_other _ _ _ _ (by omega), ← hW1, heap_alloc_old _ _ (by omega), ← hW0]; exact heap_alloc_new _ _
  have o2 : ∀ k, k < w.heap.size → W2.heap[k]? = w.heap[k]? := fun k hk => by rw [← hW2, setRow_other _ _ _ _ (by omega), ← hW1, heap_alloc_old _ _ (by omega), ← hW0, heap_alloc_old _ _ hk]
  have h2 : DS base W2 g M r := h.keep o2 (by rw [← hW2, ← hW1, ← hW0]; rfl) (by rw [← hW2, ← hW1, ← hW0]; rfl) (by rw [← hW2, ← hW1, ← hW0]; rfl) (by omega)
  have b2 : Below base w W2 := ⟨by rw [← hW2, ← hW1, ← hW0]; rfl, by rw [← hW2, ← hW1, ← hW0]; rfl, by rw [← hW2, ← hW1, ← hW0]; rfl, by omega, fun k hk => o2 k (by omega)⟩
  have C := Lib.hid (h2.eatBool hM)
  have X0 := Lib.hid hW0
  have X1 := Lib.hid hW1
  have X2 := Lib.hid hW2
  have S0 := Lib.hid s0
  have Q1 := Lib.hid q1
  have Q2 := Lib.hid q2
  have P2 := Lib.hid p2
  have O2 := Lib.hid o2
  have B2 := Lib.hid b2
  clear hW0 hW1 hW2 s0 s1 s2 q1 q2 p2 o2 b2 h2 h
  generalize (c8 r).1 = x at *
  generalize (c8 r).2 = r1 at *
  have ux : (x != 0) = false := by simp [hx]
  rw [ux] at C
  go_enter Tryz.func105, Tryz.ntmps105
  go_wp2_with (first
    | (refine wpList_allocTo rfl (some 4) rfl (.pointer (some ⟨w.heap.size, 0, none⟩)) (.cells (op3 0 0 ⟨#[]⟩) 79) (by as_aux_lemma => kernel_rfl) ?_; rw [X0.out])
    | refine wpList_buildTo rfl 79 _ rfl (some 8) rfl (op3 15 0 ⟨#[]⟩) (by as_aux_lemma => kernel_rfl) ?_
    | (refine wpList_allocTo rfl (some 6) rfl (.pointer (some ⟨w.heap.size + 1, 0, none⟩)) (.cells (op3 0 0 ⟨#[]⟩) 79) (by rw [← S0.out]; as_aux_lemma => kernel_rfl) ?_; rw [X1.out])
    | (refine wpList_store_row rfl 79 _ _ rfl (w.heap.size + 1) (op3 15 0 ⟨#[]⟩) rfl rfl 79 (op3 0 0 ⟨#[]⟩) Q1.out (oinfo _ _ _) rfl (oone _ _ _) ?_; rw [X2.out]))
  refine C.out.mono ?_
  rintro e w3 ⟨rfl, h3, b3, k3⟩
  have q3 := (k3 _ _ _ Q2.out (by decide) (by omega)).trans Q2.out
  have p3 := (k3 _ _ _ P2.out (by decide) (by omega)).trans P2.out
  have q4 := q3
  obtain ⟨W4, hW4⟩ : ∃ W, w3 = W := ⟨_, rfl⟩
  have p4 : W4.heap[w.heap.size]? = some (.cells (op3 0 0 ⟨#[]⟩) 79 (0, 0)) := by rw [← hW4]; exact p3
  rw [hW4] at q4
  obtain ⟨W5, hW5⟩ : ∃ W, W4.setRow w.heap.size (op3 15 0 ⟨#[]⟩) = W := ⟨_, rfl⟩
  have p5 : W5.heap[w.heap.size]? = some (.cells (op3 15 0 ⟨#[]⟩) 79 (0, 0)) := by rw [← hW5]; exact setRow_blk p4
  have o5 : ∀ k, k ≠ w.heap.size → k ≠ w.heap.size + 1 → W5.heap[k]? = w3.heap[k]? := fun k e1 e2 => by rw [← hW5, setRow_other _ _ _ _ e1, ← hW4]
  have h5 : DS base W5 g M r1 := h3.keepT (o5 g (by omega) (by omega)) (fun k cells fr hc => o5 k (fun e => by rw [e, p3] at hc; simp at hc) (fun e => by rw [e, q3] at hc; simp at hc))
  have sz5 : W5.heap.size = w3.heap.size := by rw [← hW5, setRow_size, ← hW4]
  have b5 : Below base w W5 := by
    have hb := B2.out.trans b3
    refine ⟨by rw [← hW5, ← hW4]; exact hb.os, by rw [← hW5, ← hW4]; exact hb.tape, by rw [← hW5, ← hW4]; exact hb.output, by rw [sz5]; exact hb.size, fun k hk => by rw [o5 k (by omega) (by omega)]; exact hb.block k hk⟩
  have k5 : Keep8 g w W5 := fun k cells t hc ht hne => by
    have hlt := (Array.getElem?_eq_some_iff.1 hc).1
    rw [o5 k (by omega) (by omega), k3 k cells t ((O2.out k hlt).trans hc) ht hne]
    exact O2.out k hlt
  have X4 := Lib.hid hW4
  have X5 := Lib.hid hW5
  have Q4 := Lib.hid q4
  have P4 := Lib.hid p4
  have P5 := Lib.hid p5
  have FIN := Lib.hid (And.intro h5 (And.intro b5 k5))
  clear h3 b3 k3 q3 p3 hW5 q4 p4 p5 o5 h5 sz5 b5 k5 C X0 X1 X2 Q1 Q2 P2 B2
  go_wp2_with (first
    | refine wpList_load_row rfl 79 _ rfl (w.heap.size + 1) rfl 79 (op3 15 0 ⟨#[]⟩) (0, 0) _ Q4.out Tryz.underlying79 rfl (oinfo _ _ _) ?_
    | (refine wpList_store_row rfl 79 _ _ rfl w.heap.size (op3 15 0 ⟨#[]⟩) rfl rfl 79 (op3 0 0 ⟨#[]⟩) P4.out (oinfo _ _ _) rfl (oone _ _ _) ?_; rw [X5.out]))
  refine bodyPost_ret (results_ct Tryz.results105 _ _ w.heap.size 79 (op3 15 0 ⟨#[]⟩) (0, 0) _ _ rfl rfl P5.out Tryz.underlying79 rfl (oinfo _ _ _)) rfl ?_
  exact ⟨rfl, FIN.out⟩
end Go.Proofs.YtmenkckgpiafiaaGreat
namespace Go.Proofs.YtmenkckgpiafiaaGreat
open Go.RowKit Go.Great Go.Proofs.YtmenkckgpiafiaaGreatW.PrintWords Go.Proofs.YtmenkckgpiafiaaGreatW.PrintLast Go.Proofs.YtmenkckgpiafiaaGreatW.PrintMore Go.Proofs.YtmenkckgpiafiaaGreat.KK
theorem vn1 (l : List UInt8) : vn l 1 = rd8 l := by simp only [vn, rd8]; omega
theorem vn2 (l : List UInt8) : vn l 2 = rd16 l := by simp only [vn, rd16]; omega
theorem num1C (g : Nat) (r : Option (List UInt8)) (op : Bool) (w : World) (hg : w.heap[g]? = some (.cells (rdC r op) 143 (0, 0))) (hl : smallR r) :
    Calls Tryz.prog 94 #[.pointer (some ⟨g, 0, none⟩), .int .i64 1] w fun e w' => e = .returned (.int .u64 (c8 r).1) ∧ w'.heap[g]? = some (.cells (rdC (c8 r).2 op) 143 (0, 0)) ∧ UpdB (fun k => k = g) w w' := by
  by_cases h : ∀ l, r = some l → l.length < 1
  · have e : c8 r = (0, none) := by
      cases r with
      | none => rfl
      | some l => have := h l rfl; simp only [c8]; rw [if_neg (by omega)]
    rw [e]
    exact numNone g r op 1 w hg (by omega) (by omega) h
  · cases r with
    | none => exact absurd (fun l h => by cases h) h
    | some l =>
      have h4 : 1 ≤ l.length := by
        refine Nat.le_of_not_lt (fun h5 => h (fun m hm => ?_))
        cases hm
        exact h5
      have e : c8 (some l) = (rd8 l, some (l.drop 1)) := by simp only [c8]; rw [if_pos h4]
      rw [e, ← vn1]
      exact numSome g l op 1 w hg (by omega) h4 (hl l rfl)
theorem num2C (g : Nat) (r : Option (List UInt8)) (op : Bool) (w : World) (hg : w.heap[g]? = some (.cells (rdC r op) 143 (0, 0))) (hl : smallR r) :
    Calls Tryz.prog 94 #[.pointer (some ⟨g, 0, none⟩), .int .i64 2] w fun e w' => e = .returned (.int .u64 (c16 r).1) ∧ w'.heap[g]? = some (.cells (rdC (c16 r).2 op) 143 (0, 0)) ∧ UpdB (fun k => k = g) w w' := by
  by_cases h : ∀ l, r = some l → l.length < 2
  · have e : c16 r = (0, none) := by
      cases r with
      | none => rfl
      | some l => have := h l rfl; simp only [c16]; rw [if_neg (by omega)]
    rw [e]
    exact numNone g r op 2 w hg (by omega) (by omega) h
  · cases r with
    | none => exact absurd (fun l h => by cases h) h
    | some l =>
      have h4 : 2 ≤ l.length := by
        refine Nat.le_of_not_lt (fun h5 => h (fun m hm => ?_))
        cases hm
        exact h5
      have e : c16 (some l) = (rd16 l, some (l.drop 2)) := by simp only [c16]; rw [if_pos h4]
      rw [e, ← vn2]
      exact numSome g l op 2 w hg (by omega) h4 (hl l rfl)
end Go.Proofs.YtmenkckgpiafiaaGreat
namespace Go.Proofs.YtmenkckgpiafiaaGreat
open Go.RowKit Go.Great Go.Proofs.YtmenkckgpiafiaaGreatW.PrintWords Go.Proofs.YtmenkckgpiafiaaGreatW.PrintLast Go.Proofs.YtmenkckgpiafiaaGreatW.PrintMore Go.Proofs.YtmenkckgpiafiaaGreat.KK
set_option maxRecDepth 5000 in
set_option maxHeartbeats 3200000 in
theorem specNum1 (x : Int) (w : World) : Calls Tryz.prog 64 #[.int .u64 x, .int .i64 1] w fun e w' => e = .returned (.string (strOfNums (nbs 1 x 1))) ∧ Below w.heap.size w w' := by
  have HB := Below.refl w.heap.size w
  go_enter Tryz.func64, Tryz.ntmps64
  go_wp2_with (first | ((with_reducible refine gate_dst (N := 8) rfl ?_); refine Kd.R_make (Kd.int .u8) _ 5 rfl (N := 8) rfl 93 _ _ rfl 1 rfl rfl Tryz.underlying93 (.int .u8 0) 1 info5N rfl (by decide) (by omega) 0 (ok := fun _ => True) (okp := fun _ => True) rfl (fun _ hk => hk) trivial (by decide) (by decide) (Below.refl _ _) (Nat.le_refl _) ?_; intro v w5 ho hb hg_ hnew_; clear hg_ hnew_; obtain ⟨g, c, rfl, hg1, hg2, cells, hcells⟩ := Kd.R_form ho (by decide)))
  have HO := Lib.hid ho
  have HW := Lib.hid hb
  have hw5 := hb.size
  clear ho hb HB hcells cells hg2
  simp only [show (List.replicate (Int.toNat 1) (0 : Int)).length = 1 from rfl] at HO ⊢
  go_loopw [11] (fun i wr => ∃ k : Nat, k ≤ 1 ∧ i = .int .i64 (k : Int) ∧ Hid ((Kd.int .u8).R 5 wr w.heap.size (fun _ => True) (.slice (some ⟨g, 0, none⟩) 1 c) (nbs 1 x k)) ∧ Hid (Below w.heap.size w wr)) (fun i _ => 1 - (intOf i).toNat)
  case atStart => exact ⟨0, by decide, rfl, HO, HW⟩
  case round =>
    clear HO HW
    obtain ⟨k, hk, rfl, HO, HB⟩ := hrel
    have hcell := fun (h : (k : Int) < 1) => Kd.R_celln 0 HO.out (k : Int) (by omega) h
    have hk5 : k = 0 ∨ k = 1 := by omega
    rcases hk5 with rfl | rfl
    · obtain ⟨hx, hf⟩ := hcell (by decide)
      clear hcell hk
      simp at hx hf
      have HP := Lib.hid (Kd.R_putg HO.out (0 : Int) (x % 256)).1
      go_wp2_with fail
      go_roundw
      case rel => exact ⟨1, by decide, rfl, Lib.hid (by have h := HP.out; rw [show (nbs 1 x 0).set (Int.toNat 0) (x % 256) = nbs 1 x 1 from by simp [nbs, List.range_succ]] at h; exact h), Lib.hid (below_set HB.out hg1)⟩
      case measure => simp [intOf]
    · clear hcell hk
      have hcv := own_string (P := Tryz.prog) Tryz.underlying93 Tryz.underlying5 Tryz.underlying9 (Kd.own_of_R HO.out)
      go_wp2_with fail
      go_ret
      exact ⟨rfl, HB.out⟩
set_option maxRecDepth 5000 in
set_option maxHeartbeats 3200000 in
theorem specNum2 (x : Int) (w : World) : Calls Tryz.prog 64 #[.int .u64 x, .int .i64 2] w fun e w' => e = .returned (.string (strOfNums (nbs 2 x 2))) ∧ Below w.heap.size w w' := by
  have HB := Below.refl w.heap.size w
  go_enter Tryz.func64, Tryz.ntmps64
  go_wp2_with (first | ((with_reducible refine gate_dst (N := 8) rfl ?_); refine Kd.R_make (Kd.int .u8) _ 5 rfl (N := 8) rfl 93 _ _ rfl 2 rfl rfl Tryz.underlying93 (.int .u8 0) 1 info5N rfl (by decide) (by omega) 0 (ok := fun _ => True) (okp := fun _ => True) rfl (fun _ hk => hk) trivial (by decide) (by decide) (Below.refl _ _) (Nat.le_refl _) ?_; intro v w5 ho hb hg_ hnew_; clear hg_ hnew_; obtain ⟨g, c, rfl, hg1, hg2, cells, hcells⟩ := Kd.R_form ho (by decide)))
  have HO := Lib.hid ho
  have HW := Lib.hid hb
  have hw5 := hb.size
  clear ho hb HB hcells cells hg2
  simp only [show (List.replicate (Int.toNat 2) (0 : Int)).length = 2 from rfl] at HO ⊢
  go_loopw [11] (fun i wr => ∃ k : Nat, k ≤ 2 ∧ i = .int .i64 (k : Int) ∧ Hid ((Kd.int .u8).R 5 wr w.heap.size (fun _ => True) (.slice (some ⟨g, 0, none⟩) 2 c) (nbs 2 x k)) ∧ Hid (Below w.heap.size w wr)) (fun i _ => 2 - (intOf i).toNat)
  case atStart => exact ⟨0, by decide, rfl, HO, HW⟩
  case round =>
    clear HO HW
    obtain ⟨k, hk, rfl, HO, HB⟩ := hrel
    have hcell := fun (h : (k : Int) < 2) => Kd.R_celln 0 HO.out (k : Int) (by omega) h
    have hk5 : k = 0 ∨ k = 1 ∨ k = 2 := by omega
    rcases hk5 with rfl | rfl | rfl
    · obtain ⟨hx, hf⟩ := hcell (by decide)
      clear hcell hk
      simp at hx hf
      have HP := Lib.hid (Kd.R_putg HO.out (0 : Int) (x / 256 % 256)).1
      go_wp2_with fail
      go_roundw
      case rel => exact ⟨1, by decide, rfl, Lib.hid (by have h := HP.out; rw [show (nbs 2 x 0).set (Int.toNat 0) (x / 256 % 256) = nbs 2 x 1 from by simp [nbs, List.range_succ]] at h; exact h), Lib.hid (below_set HB.out hg1)⟩
      case measure => simp [intOf]
    · obtain ⟨hx, hf⟩ := hcell (by decide)
      clear hcell hk
      simp at hx hf
      have HP := Lib.hid (Kd.R_putg HO.out (1 : Int) (x % 256)).1
      go_wp2_with fail
      go_roundw
      case rel => exact ⟨2, by decide, rfl, Lib.hid (by have h := HP.out; rw [show (nbs 2 x 1).set (Int.toNat 1) (x % 256) = nbs 2 x 2 from by simp [nbs, List.range_succ]] at h; exact h), Lib.hid (below_set HB.out hg1)⟩
      case measure => simp [intOf]
    · clear hcell hk
      have hcv := own_string (P := Tryz.prog) Tryz.underlying93 Tryz.underlying5 Tryz.underlying9 (Kd.own_of_R HO.out)
      go_wp2_with fail
      go_ret
      exact ⟨rfl, HB.out⟩
theorem nums1 (x : Int) : strOfNums (nbs 1 x 1) = bs (b1 x) := by
  simp [nbs, List.range_succ, strOfNums, bs, b1, bt]
theorem nums2 (x : Int) : strOfNums (nbs 2 x 2) = bs (be16 x) := by
  simp [nbs, List.range_succ, strOfNums, bs, be16, bt]
theorem specN1 (x : Int) (w : World) : Calls Tryz.prog 64 #[.int .u64 x, .int .i64 1] w fun e w' => e = .returned (.string (bs (b1 x))) ∧ Below w.heap.size w w' := by
  have h := specNum1 x w
  rwa [nums1] at h
theorem specN2 (x : Int) (w : World) : Calls Tryz.prog 64 #[.int .u64 x, .int .i64 2] w fun e w' => e = .returned (.string (bs (be16 x))) ∧ Below w.heap.size w w' := by
  have h := specNum2 x w
  rwa [nums2] at h
theorem width0 (w : World) : Calls Tryz.prog 92 #[.int .i64 0] w fun e w' => e = .returned (.int .i64 1) ∧ w' = w := by
  go_enter Tryz.func92, Tryz.ntmps92
  go_wp2_with fail
  go_ret
  exact ⟨rfl, rfl⟩
theorem width1 (w : World) : Calls Tryz.prog 92 #[.int .i64 1] w fun e w' => e = .returned (.int .i64 2) ∧ w' = w := by
  go_enter Tryz.func92, Tryz.ntmps92
  go_wp2_with fail
  go_ret
  exact ⟨rfl, rfl⟩
theorem width2 (w : World) : Calls Tryz.prog 92 #[.int .i64 2] w fun e w' => e = .returned (.int .i64 4) ∧ w' = w := by
  go_enter Tryz.func92, Tryz.ntmps92
  go_wp2_with fail
  go_ret
  exact ⟨rfl, rfl⟩
theorem width3 (w : World) : Calls Tryz.prog 92 #[.int .i64 3] w fun e w' => e = .returned (.int .i64 8) ∧ w' = w := by
  go_enter Tryz.func92, Tryz.ntmps92
  go_wp2_with fail
  go_ret
  exact ⟨rfl, rfl⟩
theorem width4 (w : World) : Calls Tryz.prog 92 #[.int .i64 4] w fun e w' => e = .returned (.int .i64 8) ∧ w' = w := by
  go_enter Tryz.func92, Tryz.ntmps92
  go_wp2_with fail
  go_ret
  exact ⟨rfl, rfl⟩
theorem width5 (w : World) : Calls Tryz.prog 92 #[.int .i64 5] w fun e w' => e = .returned (.int .i64 1) ∧ w' = w := by
  go_enter Tryz.func92, Tryz.ntmps92
  go_wp2_with fail
  go_ret
  exact ⟨rfl, rfl⟩
theorem width7 (w : World) : Calls Tryz.prog 92 #[.int .i64 7] w fun e w' => e = .returned (.int .i64 4) ∧ w' = w := by
  go_enter Tryz.func92, Tryz.ntmps92
  go_wp2_with fail
  go_ret
  exact ⟨rfl, rfl⟩
end Go.Proofs.YtmenkckgpiafiaaGreat
namespace Go.Proofs.YtmenkckgpiafiaaGreat
open Go.RowKit Go.Great Go.Proofs.YtmenkckgpiafiaaGreatW.PrintWords Go.Proofs.YtmenkckgpiafiaaGreatW.PrintLast Go.Proofs.YtmenkckgpiafiaaGreatW.PrintMore Go.Proofs.YtmenkckgpiafiaaGreat.KK
/-- The bytes that an appending step puts. -/
def putB (d n : Int) (s : ByteArray) : List UInt8 :=
  if d = 0 then b1 n else if d = 1 then be16 n else if d = 2 then be32 n else if d = 3 then be64 n else if d = 4 then be64 n else if d = 5 then b1 (if n = 0 then 0 else 1) else if d = 6 then str (tl s) else be32 n
/-- What a consuming step takes: its number, its text, what is left. -/
def eatB (d : Int) (r : Option (List UInt8)) : Int × ByteArray × Option (List UInt8) :=
  if d = 10 then ((c8 r).1, ⟨#[]⟩, (c8 r).2) else if d = 11 then ((c16 r).1, ⟨#[]⟩, (c16 r).2) else if d = 12 then ((c32 r).1, ⟨#[]⟩, (c32 r).2)
  else if d = 13 then ((c64 r).1, ⟨#[]⟩, (c64 r).2) else if d = 14 then ((c64 r).1, ⟨#[]⟩, (c64 r).2) else if d = 15 then ((if (c8 r).1 = 0 then 0 else 1), ⟨#[]⟩, (c8 r).2)
  else if d = 16 then (0, bs (cB r).1, (cB r).2) else ((c32 r).1, ⟨#[]⟩, (c32 r).2)
def okOp (d : Int) : Bool := (decide (0 ≤ d) && decide (d ≤ 7)) || (decide (10 ≤ d) && decide (d ≤ 17))
/-- One step: what is left, and what has been consumed. -/
def bstep (d n : Int) (s : ByteArray) (st : Option (List UInt8) × List (Int × Int × ByteArray)) : Option (List UInt8) × List (Int × Int × ByteArray) :=
  if d < 10 then (st.1.map (· ++ putB d n s), st.2)
  else ((eatB d st.1).2.2, if (eatB d st.1).2.2.isSome then st.2 ++ [(d, (eatB d st.1).1, (eatB d st.1).2.1)] else st.2)
theorem eatB_none (d : Int) : (eatB d none).2.2 = none := by
  unfold eatB
  repeat' split
  all_goals rfl
theorem bstep_none (d n : Int) (s : ByteArray) (vs : List (Int × Int × ByteArray)) : bstep d n s (none, vs) = (none, vs) := by
  unfold bstep
  split
  · rfl
  · rw [eatB_none]; rfl
end Go.Proofs.YtmenkckgpiafiaaGreat
namespace Go.Proofs.YtmenkckgpiafiaaGreat
open Go.RowKit Go.Great Go.Proofs.YtmenkckgpiafiaaGreatW.PrintWords Go.Proofs.YtmenkckgpiafiaaGreatW.PrintLast Go.Proofs.YtmenkckgpiafiaaGreatW.PrintMore Go.Proofs.YtmenkckgpiafiaaGreat.KK
theorem bt_mod (x m : Int) (h : m % 256 = 0) : bt (x % m) = bt x := by
  unfold bt
  rw [Int.emod_emod_of_dvd x (Int.dvd_of_emod_eq_zero h)]
theorem b1_mod (x : Int) : b1 (x % 256) = b1 x := by unfold b1; rw [bt_mod x 256 (by omega)]
section
variable {base g M : Nat} {w : World} {r : Option (List UInt8)}
theorem DS.put8 (h : DS base w g M r) (hM : M ≤ 800000000) (x : Int) (h0 : 0 ≤ x) (h1 : x ≤ 255) :
    Calls Tryz.prog 97 #[.pointer (some ⟨g, 0, none⟩), .int .u8 x] w fun e w' => e = .returned (.tuple #[]) ∧ DS base w' g (M + (b1 x).length) (r.map (· ++ b1 x)) ∧ Below base w w' ∧ Keep8 g w w' :=
  h.put hM (by simp [b1]) (fun v off ev l hD hl => dapp8 base g off v ev l x w hD h0 h1 (by omega))
theorem DS.put16 (h : DS base w g M r) (hM : M ≤ 800000000) (x : Int) (h0 : 0 ≤ x) (h1 : x ≤ 65535) :
    Calls Tryz.prog 98 #[.pointer (some ⟨g, 0, none⟩), .int .u16 x] w fun e w' => e = .returned (.tuple #[]) ∧ DS base w' g (M + (be16 x).length) (r.map (· ++ be16 x)) ∧ Below base w w' ∧ Keep8 g w w' :=
  h.put hM (by simp [be16]) (fun v off ev l hD hl => dapp16 base g off v ev l x w hD h0 h1 (by omega))
theorem DS.put32 (h : DS base w g M r) (hM : M ≤ 800000000) (x : Int) (h0 : 0 ≤ x) (h1 : x ≤ 4294967295) :
    Calls Tryz.prog 99 #[.pointer (some ⟨g, 0, none⟩), .int .u32 x] w fun e w' => e = .returned (.tuple #[]) ∧ DS base w' g (M + (be32 x).length) (r.map (· ++ be32 x)) ∧ Below base w w' ∧ Keep8 g w w' :=
  h.put hM (by simp [be32]) (fun v off ev l hD hl => dapp32 base g off v ev l x w hD h0 h1 (by omega))
theorem DS.put64 (h : DS base w g M r) (hM : M ≤ 800000000) (x : Int) (h0 : 0 ≤ x) (h1 : x ≤ 18446744073709551615) :
    Calls Tryz.prog 100 #[.pointer (some ⟨g, 0, none⟩), .int .u64 x] w fun e w' => e = .returned (.tuple #[]) ∧ DS base w' g (M + (be64 x).length) (r.map (· ++ be64 x)) ∧ Below base w w' ∧ Keep8 g w w' :=
  h.put hM (by simp [be64, be32]) (fun v off ev l hD hl => dapp64 base g off v ev l x w hD h0 h1 (by omega))
theorem DS.putI64 (h : DS base w g M r) (hM : M ≤ 800000000) (x y : Int) (hy : IntKind.u64.wrap x = y) (h0 : 0 ≤ y) (h1 : y ≤ 18446744073709551615) :
    Calls Tryz.prog 101 #[.pointer (some ⟨g, 0, none⟩), .int .i64 x] w fun e w' => e = .returned (.tuple #[]) ∧ DS base w' g (M + (be64 y).length) (r.map (· ++ be64 y)) ∧ Below base w w' ∧ Keep8 g w w' :=
  h.put hM (by simp [be64, be32]) (fun v off ev l hD hl => dappI64 base g off v ev l x y w hD hy h0 h1 (by omega))
theorem DS.putCount (h : DS base w g M r) (hM : M ≤ 800000000) (x y : Int) (hy : IntKind.u32.wrap x = y) (h0 : 0 ≤ y) (h1 : y ≤ 4294967295) :
    Calls Tryz.prog 104 #[.pointer (some ⟨g, 0, none⟩), .int .i64 x] w fun e w' => e = .returned (.tuple #[]) ∧ DS base w' g (M + (be32 y).length) (r.map (· ++ be32 y)) ∧ Below base w w' ∧ Keep8 g w w' :=
  h.put hM (by simp [be32]) (fun v off ev l hD hl => dappCount base g off v ev l x y w hD hy h0 h1 (by omega))
theorem DS.putBool (h : DS base w g M r) (hM : M ≤ 800000000) (b : Bool) :
    Calls Tryz.prog 102 #[.pointer (some ⟨g, 0, none⟩), .bool b] w fun e w' => e = .returned (.tuple #[]) ∧ DS base w' g (M + (b1 (if b then 1 else 0)).length) (r.map (· ++ b1 (if b then 1 else 0))) ∧ Below base w w' ∧ Keep8 g w w' :=
  h.put hM (by simp [b1]) (fun v off ev l hD hl => dappBool base g off v ev l b w hD (by omega))
theorem DS.putStr (h : DS base w g M r) (hM : M ≤ 800000000) (s : ByteArray) (hs : s.size ≤ 100000000) :
    Calls Tryz.prog 103 #[.pointer (some ⟨g, 0, none⟩), .string s] w fun e w' => e = .returned (.tuple #[]) ∧ DS base w' g (M + (str (tl s)).length) (r.map (· ++ str (tl s))) ∧ Below base w w' ∧ Keep8 g w w' :=
  h.put hM (by simp [str, be32]) (fun v off ev l hD hl => dappString base g off v ev l s w hD (by omega) hs)
end
end Go.Proofs.YtmenkckgpiafiaaGreat
namespace Go.Proofs.YtmenkckgpiafiaaGreat
open Go.RowKit Go.Great Go.Proofs.YtmenkckgpiafiaaGreatW.PrintWords Go.Proofs.YtmenkckgpiafiaaGreatW.PrintLast Go.Proofs.YtmenkckgpiafiaaGreatW.PrintMore Go.Proofs.YtmenkckgpiafiaaGreat.KK
/-- A step as the pure law has it. -/
def opT (o : S79) : Int × Int × ByteArray := (o.f0, o.f1, o.f2)
structure IB (w0 w : World) (g p4 p5 p6 M : Nat) (r : Option (List UInt8)) (vv : Value) (vals : List S79) : Prop where
  ds : DS w0.heap.size w g M r
  b4 : w.heap[p4]? = some (.cells #[vv] 75 (0, 0))
  b5 : w.heap[p5]? = some (.cells #[.string ⟨#[]⟩] 9 (0, 0))
  b6 : w.heap[p6]? = some (.cells #[.int .i64 0] 3 (0, 0))
  row : Kd.R k79 79 w w0.heap.size (fun k => k ≠ g) vv vals
  bel : Below w0.heap.size w0 w
  n4 : w0.heap.size ≤ p4 ∧ p4 ≠ g
  n5 : p5 ≠ g
  n6 : p6 ≠ g
section
variable {w0 w w1 : World} {g p4 p5 p6 M M1 : Nat} {r r1 : Option (List UInt8)} {vv : Value} {vals : List S79}
/-- Behind a step of the Buffer. -/
theorem IB.stepped (h : IB w0 w g p4 p5 p6 M r vv vals) (hd : DS w0.heap.size w1 g M1 r1) (hb : Below w0.heap.size w w1) (hk : Keep8 g w w1) : IB w0 w1 g p4 p5 p6 M1 r1 vv vals := by
  have hg := h.ds.gl.1
  have hR : Kd.R k79 79 w w0.heap.size (fun k => k ≠ g ∧ ∃ cells t, w.heap[k]? = some (.cells cells t (0, 0)) ∧ t ≠ 5) vv vals := by
    have ht : ∀ q, q ∈ 79 :: k79.E → q ≠ 5 := by decide
    refine Kd.R_mono (Kd.R_bound h.row) (fun k hk => ?_)
    obtain ⟨hg1, _, _, q, hq, cells, hc⟩ := hk
    exact ⟨hg1, cells, q, hc, ht q hq⟩
  exact ⟨hd, (hk _ _ _ h.b4 (by decide) h.n4.2).trans h.b4, (hk _ _ _ h.b5 (by decide) h.n5).trans h.b5, (hk _ _ _ h.b6 (by decide) h.n6).trans h.b6,
    Kd.R_mono (Kd.R_step hR (fun k ho _ => by obtain ⟨hne, cells, t, hc, ht⟩ := ho; exact hk k cells t hc ht hne)) (fun _ ho => ho.1), h.bel.trans hb, h.n4, h.n5, h.n6⟩
end
end Go.Proofs.YtmenkckgpiafiaaGreat
namespace Go.Proofs.YtmenkckgpiafiaaGreat
open Go.RowKit Go.Great Go.Proofs.YtmenkckgpiafiaaGreatW.PrintWords Go.Proofs.YtmenkckgpiafiaaGreatW.PrintLast Go.Proofs.YtmenkckgpiafiaaGreatW.PrintMore Go.Proofs.YtmenkckgpiafiaaGreat.KK
theorem gi_r (l : List UInt8) : 0 ≤ rd16 l ∧ rd16 l ≤ 65535 := by
  have h0 := gi_range l 0
  have h1 := gi_range l 1
  unfold rd16
  omega
theorem c8_range (r : Option (List UInt8)) : 0 ≤ (c8 r).1 ∧ (c8 r).1 ≤ 255 := by
  unfold c8
  split
  · split
    · exact gi_range _ 0
    · exact ⟨by decide, by decide⟩
  · exact ⟨by decide, by decide⟩
theorem c16_range (r : Option (List UInt8)) : 0 ≤ (c16 r).1 ∧ (c16 r).1 ≤ 65535 := by
  unfold c16
  split
  · split
    · exact gi_r _
    · exact ⟨by decide, by decide⟩
  · exact ⟨by decide, by decide⟩
theorem c64_range (r : Option (List UInt8)) : 0 ≤ (c64 r).1 ∧ (c64 r).1 ≤ 18446744073709551615 := by
  unfold c64
  split
  · split
    · rename_i l _
      have h0 := rd32_range l
      have h1 := rd32_range (l.drop 4)
      show 0 ≤ rd64 l ∧ rd64 l ≤ _
      unfold rd64
      omega
    · exact ⟨by decide, by decide⟩
  · exact ⟨by decide, by decide⟩
section
variable {base g M : Nat} {w : World} {r : Option (List UInt8)}
theorem consumedC (h : DS base w g M r) (hM : M ≤ 1000000000) (d : Int) (hd : 10 ≤ d ∧ d ≤ 17) :
    Calls Tryz.prog 105 #[.pointer (some ⟨g, 0, none⟩), .int .i64 d] w fun e w' => e = .returned (.tuple #[.agg (op3 d (eatB d r).1 (eatB d r).2.1), .bool true]) ∧ DS base w' g M (eatB d r).2.2 ∧ Below base w w' ∧ Keep8 g w w' := by
  obtain rfl | rfl | rfl | rfl | rfl | rfl | rfl | rfl : d = 10 ∨ d = 11 ∨ d = 12 ∨ d = 13 ∨ d = 14 ∨ d = 15 ∨ d = 16 ∨ d = 17 := by omega
  · exact consumed10 base g M r w h hM (c8_range r)
  · exact consumed11 base g M r w h hM (c16_range r)
  · exact consumed12 base g M r w h hM (c32_range r)
  · exact consumed13 base g M r w h hM (c64_range r)
  · exact consumed14 base g M r w h hM (c64_range r)
  · have e : eatB 15 r = ((if (c8 r).1 = 0 then 0 else 1), ⟨#[]⟩, (c8 r).2) := rfl
    rw [e]
    by_cases hx : (c8 r).1 = 0
    · rw [if_pos hx]; exact consumed15f base g M r w h hM hx
    · rw [if_neg hx]; exact consumed15t base g M r w h hM hx
  · exact consumed16 base g M r w h hM
  · exact consumed17 base g M r w h hM (c32_range r)
theorem DS.err (h : DS base w g M r) : ∃ ev, w.cell? ⟨g, 2, none⟩ = some ev ∧ errOf r ev := by
  obtain ⟨s, n, c, off, ev, l, hD, ho, hl, he, hr⟩ := h
  exact ⟨ev, hD.c2, he⟩
theorem dsBytes (h : DS base w g M r) (hM : M ≤ 1000000000) :
    ∃ s o c L, Lies w s o L ∧ (∃ cells fr, w.heap[s]? = some (.cells cells 5 fr)) ∧ (∀ m, r = some m → m = L) ∧ ∀ w1 : World, w1.heap[g]? = w.heap[g]? → Calls Tryz.prog 106 #[.pointer (some ⟨g, 0, none⟩)] w1 fun e w' => e = .returned (.slice (some ⟨s, o, none⟩) (List.length (α := UInt8) L) c) ∧ ∃ k, w' = w1.drewN k := by
  obtain ⟨s, n, c, off, ev, l, hD, ho, hl, he, hr⟩ := h
  obtain ⟨hn, hc, hs, hsz⟩ := hD.len
  have hbk := (hD.own.blk s rfl).2
  subst hn
  have H0 := Lib.hid hD.c0
  have H1 := Lib.hid hD.c1
  have hlies : Lies w s off (l.drop off) := fun j b hj => by
    rw [List.getElem?_drop] at hj
    exact (hD.own.at_ rfl).2.2.2.2 _ _ hj
  have hlen : l.length - off = (l.drop off).length := by rw [List.length_drop]
  have HN := Lib.hid hlen
  by_cases hco : c = off
  · obtain rfl : off = l.length := by omega
    obtain rfl : c = l.length := by omega
    refine ⟨s, 0, 0, [], fun j b hj => by simp at hj, hbk, fun m hm => by rw [hr m hm, List.drop_length], fun w1 hk => ?_⟩
    have h0 := (cell_kept (i := 0) hk).trans H0.out
    have h1 := (cell_kept (i := 1) hk).trans H1.out
    clear hD he hlies hlen hr hco HN H0 H1 hk hbk
    generalize hnn : l.length = n at *
    clear hnn
    go_enter Tryz.func106, Tryz.ntmps106
    go_wp2_with fail
    go_quiet (fail)
    go_wp2_with fail
    go_ret
    exact ⟨rfl, _, rfl⟩
  · refine ⟨s, off, c - off, l.drop off, hlies, hbk, hr, fun w1 hk => ?_⟩
    have hco2 : ¬ (off = c) := fun e => hco e.symm
    have h0 := (cell_kept (i := 0) hk).trans H0.out
    have h1 := (cell_kept (i := 1) hk).trans H1.out
    clear hD he hlies hlen hr H0 H1 hk hbk
    rw [← HN.out]
    clear HN
    generalize hnn : l.length = n at *
    clear hnn
    go_enter Tryz.func106, Tryz.ntmps106
    go_wp2_with fail
    go_quiet (fail)
    go_wp2_with fail
    go_ret
    exact ⟨rfl, _, rfl⟩
end
section
variable {w0 w w1 : World} {g p4 p5 p6 M M1 : Nat} {r r1 : Option (List UInt8)} {vv v1 : Value} {vals vals1 : List S79}
theorem DS.up {base : Nat} (h : DS base w g M r) (hM : M ≤ M1) : DS base w g M1 r := by
  obtain ⟨s, n, c, off, ev, l, hD, ho, hl, he, hr⟩ := h
  exact ⟨s, n, c, off, ev, l, hD, ho, Nat.le_trans hl hM, he, hr⟩
theorem IB.up (h : IB w0 w g p4 p5 p6 M r vv vals) (hM : M ≤ M1) : IB w0 w g p4 p5 p6 M1 r vv vals :=
  ⟨h.ds.up hM, h.b4, h.b5, h.b6, h.row, h.bel, h.n4, h.n5, h.n6⟩
theorem IB.old (h : IB w0 w g p4 p5 p6 M r vv vals) (hk : ∀ k, k < w.heap.size → w1.heap[k]? = w.heap[k]?) (ho : w1.os = w.os) (ht : w1.tape = w.tape) (hp : w1.output = w.output) (hs : w.heap.size ≤ w1.heap.size) : IB w0 w1 g p4 p5 p6 M r vv vals :=
  ⟨h.ds.keep hk ho ht hp hs, (hk _ (lt_of_blk h.b4)).trans h.b4, (hk _ (lt_of_blk h.b5)).trans h.b5, (hk _ (lt_of_blk h.b6)).trans h.b6, Kd.R_step h.row (fun k _ hlt => hk k hlt), h.bel.trans ⟨ho, ht, hp, hs, fun k hlt => hk k (by have := h.bel.size; omega)⟩, h.n4, h.n5, h.n6⟩
theorem IB.rowTyped (h : IB w0 w g p4 p5 p6 M r vv vals) {k : Nat} (hk : vv.ownBlock = some k) : ∃ cells, w.heap[k]? = some (.cells cells 79 (0, 0)) := by
  obtain ⟨inner, ho⟩ := Kd.R_own h.row
  exact own_typed ho k hk
theorem IB.put (h : IB w0 w g p4 p5 p6 M r vv vals) (h5 : p4 ≠ p5) (h6 : p4 ≠ p6) (hR : Kd.R k79 79 w1 w0.heap.size (fun k => k ≠ g) v1 vals1) (hg : w.grownBy w1 vv.ownBlock) : IB w0 (w1.setCell ⟨p4, 0, none⟩ v1) g p4 p5 p6 M r v1 vals1 := by
  have hgl := h.ds.gl
  have ng : some g ≠ vv.ownBlock := fun e => h.row.1 _ e.symm rfl
  have n4 : some p4 ≠ vv.ownBlock := Kd.R_ne h.row h.b4 (by decide)
  have n5 : some p5 ≠ vv.ownBlock := Kd.R_ne h.row h.b5 (by decide)
  have n6 : some p6 ≠ vv.ownBlock := Kd.R_ne h.row h.b6 (by decide)
  have b4 := (hg.block _ (lt_of_blk h.b4) n4).trans h.b4
  have b5 := (hg.block _ (lt_of_blk h.b5) n5).trans h.b5
  have b6 := (hg.block _ (lt_of_blk h.b6) n6).trans h.b6
  have d1 : DS w0.heap.size w1 g M r := h.ds.keepT (hg.block g hgl.2 ng) (fun k cells fr hc => hg.block k (Array.getElem?_eq_some_iff.1 hc).1 (fun e => by
    obtain ⟨cells', hc'⟩ := h.rowTyped e.symm
    rw [hc'] at hc
    simp only [Option.some.injEq, Obj.cells.injEq] at hc
    exact absurd hc.2.1 (by decide)))
  have o : ∀ k, k ≠ p4 → (w1.setCell ⟨p4, 0, none⟩ v1).heap[k]? = w1.heap[k]? := fun k hk => Below.heap_setCell _ _ _ _ hk
  have bel1 : Below w0.heap.size w0 w1 := h.bel.grown hg (by have := h.bel.size; omega) (fun k hk => by
    obtain ⟨inner, ho⟩ := Kd.R_own h.row
    exact own_base ho k hk)
  refine ⟨d1.keepT (o g (Ne.symm h.n4.2)) (fun k cells fr hc => o k (fun e => by rw [e, b4] at hc; simp at hc)), setCell_blk b4 v1, (o _ (Ne.symm h5)).trans b5, (o _ (Ne.symm h6)).trans b6, Kd.R_set hR b4 (by decide) 0 v1, bel1.setCell h.n4.1 _, h.n4, h.n5, h.n6⟩
end
theorem IB.rowAfter {w0 w w1 : World} {g p4 p5 p6 M : Nat} {r : Option (List UInt8)} {vv : Value} {vals : List S79} (h : IB w0 w g p4 p5 p6 M r vv vals) (hg : w.grownBy w1 vv.ownBlock) : w1.cell? ⟨p4, 0, none⟩ = some vv ∧ w1.frozen? ⟨p4, 0, none⟩ = false := by
  have n4 : some p4 ≠ vv.ownBlock := Kd.R_ne h.row h.b4 (by decide)
  have b4 := (hg.block _ (lt_of_blk h.b4) n4).trans h.b4
  exact ⟨by rw [cell_of_blk b4]; rfl, frozen_of_blk b4 0⟩
theorem R_slN {α : Type} {d : Kd α} {e base : Nat} {ok : Nat → Prop} {w : World} {v : Value} {xs : List α} (h : d.R e w base ok v xs) : ∃ A n c, v = .slice A n c := by
  obtain ⟨A, c, h⟩ := Kd.R_slice h
  exact ⟨A, _, c, h⟩
end Go.Proofs.YtmenkckgpiafiaaGreat
namespace Go.Proofs.YtmenkckgpiafiaaGreat
open Go.RowKit Go.Great Go.Proofs.YtmenkckgpiafiaaGreatW.PrintWords Go.Proofs.YtmenkckgpiafiaaGreatW.PrintLast Go.Proofs.YtmenkckgpiafiaaGreatW.PrintMore Go.Proofs.YtmenkckgpiafiaaGreat.KK
def bfold (s0 : Option (List UInt8)) (l : List S79) : Option (List UInt8) × List (Int × Int × ByteArray) := l.foldl (fun st o => bstep o.f0 o.f1 o.f2 st) (s0, [])
theorem bfold_snoc (s0 : Option (List UInt8)) (l : List S79) (o : S79) : bfold s0 (l ++ [o]) = bstep o.f0 o.f1 o.f2 (bfold s0 l) := by
  unfold bfold
  rw [List.foldl_append]
  rfl
/-- The loop at a round. -/
def BL (w0 wr : World) (g p4 p5 p6 : Nat) (s0 : Option (List UInt8)) (l : List S79) (k : Nat) : Prop :=
  ∃ r vv vals, IB w0 wr g p4 p5 p6 (400 + 200 * k) r vv vals ∧ (r, vals.map opT) = bfold s0 (l.take k) ∧ vals.length ≤ k
theorem BL.step {w0 w' : World} {g p4 p5 p6 M1 k : Nat} {s0 r r1 : Option (List UInt8)} {vv1 : Value} {vals vals1 : List S79} {l : List S79} {d x : Int} {s : ByteArray} (hk : l[k]? = some ⟨d, x, s⟩) (hE : (r, vals.map opT) = bfold s0 (l.take k)) (hI : IB w0 w' g p4 p5 p6 M1 r1 vv1 vals1) (hM : M1 ≤ 400 + 200 * (k + 1))
    (hb : (r1, vals1.map opT) = bstep d x s (r, vals.map opT)) (hn : vals1.length ≤ k + 1) : BL w0 w' g p4 p5 p6 s0 l (k + 1) := by
  have hlt := (List.getElem?_eq_some_iff.1 hk).1
  have he : l[k] = ⟨d, x, s⟩ := (List.getElem?_eq_some_iff.1 hk).2
  refine ⟨r1, vv1, vals1, hI.up hM, ?_, hn⟩
  rw [List.take_succ_eq_append_getElem hlt, bfold_snoc, ← hE, he, hb]
theorem infoO : (Tryz.prog.info? 79).map (fun i => (i.zero, i.size, i.bytes)) = some (some (.agg #[.int .i64 0, .int .u64 0, .string ⟨#[]⟩]), k79.sz, 32) := by kernel_rfl
theorem opS_of_C {w : World} {A : Option Addr} {l : List S79} (h : Kd.C k79 w A l.length l) : l = [] ∨ ∃ x p, A = some ⟨x, p, none⟩ ∧ x < w.heap.size ∧ ∀ k e, l[k]? = some e → w.cell? ⟨x, p + k * 3, none⟩ = some (.int .i64 e.f0) ∧ w.cell? ⟨x, p + k * 3 + 1, none⟩ = some (.int .u64 e.f1) ∧ w.cell? ⟨x, p + k * 3 + 2, none⟩ = some (.string e.f2) := by
  cases hl : l with
  | nil => exact .inl rfl
  | cons e r =>
    rw [← hl]
    have hlen : 0 < l.length := by rw [hl]; simp
    obtain ⟨ad, rfl, h0, _⟩ := at_T79 h 0 (by omega) (by omega)
    have hsp : ad.spot = none := by
      have := spot0 h0
      simpa [Addr.add] using this
    obtain ⟨x, p, sp⟩ := ad
    have hsp' : sp = none := hsp
    subst hsp'
    refine .inr ⟨x, p, rfl, ?_, fun k e he => ?_⟩
    · have := World.block_lt_of_cell? w _ h0
      simpa [Addr.add] using this
    · have hk : k < l.length := (List.getElem?_eq_some_iff.1 he).1
      obtain ⟨ad, e1, h1, h2, h3⟩ := at_T79 h (k : Int) (by omega) (by omega)
      obtain rfl := Option.some.inj e1
      have hr : rd_T79 l (k : Int) = e := by
        unfold rd_T79
        rw [Int.toNat_natCast, List.getD_eq_getElem?_getD, he]
        rfl
      rw [hr, Int.toNat_natCast] at h1 h2 h3
      rw [add_plain] at h1 h2 h3
      exact ⟨h1, h2, h3⟩
theorem be16_mod (x : Int) : be16 (x % 65536) = be16 x := by
  unfold be16
  have e1 : bt (x % 65536 / 256) = bt (x / 256) := by unfold bt; congr 2; omega
  have e2 : bt (x % 65536) = bt x := bt_mod x 65536 (by omega)
  rw [e1, e2]
theorem be32_mod (x : Int) : be32 (x % 4294967296) = be32 x := by
  unfold be32
  have e0 : bt (x % 4294967296 / 16777216) = bt (x / 16777216) := by unfold bt; congr 2; omega
  have e1 : bt (x % 4294967296 / 65536) = bt (x / 65536) := by unfold bt; congr 2; omega
  have e3 : bt (x % 4294967296 / 256) = bt (x / 256) := by unfold bt; congr 2; omega
  have e2 : bt (x % 4294967296) = bt x := bt_mod x 4294967296 (by omega)
  rw [e0, e1, e2, e3]
theorem okOp_cases {d : Int} (h : okOp d = true) : d = 0 ∨ d = 1 ∨ d = 2 ∨ d = 3 ∨ d = 4 ∨ d = 5 ∨ d = 6 ∨ d = 7 ∨ (10 ≤ d ∧ d ≤ 17) := by
  unfold okOp at h
  simp only [Bool.or_eq_true, Bool.and_eq_true, decide_eq_true_eq] at h
  omega
/-- The world in which a step is copied. -/
theorem stepW {w0 wr : World} {g p4 p5 p6 M : Nat} {r : Option (List UInt8)} {vv : Value} {vals : List S79} (h : IB w0 wr g p4 p5 p6 M r vv vals) (d x : Int) (s : ByteArray) (W1 W2 : World) (h1 : wr.alloc (.cells (op3 0 0 ⟨#[]⟩) 79) = W1) (h2 : W1.setRow wr.heap.size (op3 d x s) = W2) :
    W1.heap[wr.heap.size]? = some (.cells (op3 0 0 ⟨#[]⟩) 79 (0, 0)) ∧ W2.heap[wr.heap.size]? = some (.cells (op3 d x s) 79 (0, 0)) ∧ IB w0 W2 g p4 p5 p6 M r vv vals := by
  have k1 : W1.heap[wr.heap.size]? = some (.cells (op3 0 0 ⟨#[]⟩) 79 (0, 0)) := by rw [← h1]; exact heap_alloc_new _ _
  refine ⟨k1, by rw [← h2]; exact setRow_blk k1, h.old (fun k hk => ?_) (by rw [← h2, ← h1]; rfl) (by rw [← h2, ← h1]; rfl) (by rw [← h2, ← h1]; rfl) (by rw [← h2, setRow_size, ← h1]; simp)⟩
  rw [← h2, setRow_other _ _ _ _ (by omega), ← h1, heap_alloc_old _ _ hk]
theorem bufIdle (p q t : Addr) (w : World) :
    CallsD Tryz.prog 95 #[.pointer (some p), .pointer (some q), .pointer (some t)] .returning w fun e u' w' => e = .returned (.tuple #[]) ∧ u' = .returning ∧ w' = w := by
  refine callsD_of_wpS Tryz.func95 rfl fun c₀ cs hu => ?_
  apply wpS_seq
  apply wpS_region
  simp [wpOpsS, go_sem, recoverD, hu, Tryz.ntmps95, Exit.thenS]
  refine wpS_cond (t := false) (by simp [Act.eval, Array.replicate]) ?_
  simp only [Bool.false_eq_true, if_false]
  refine wpS_of_wp (wp_skip ?_)
  cases c₀
  simp_all [bodyPostS, results, Tryz.results95]
/-- What impl.Buffer answers. -/
def BufRes (w0 w' : World) (s0 : Option (List UInt8)) (l : List S79) (e : Ending) : Prop :=
  ∃ r vv vals left code, e = .returned (.tuple #[vv, .string left, .int .i64 code]) ∧ Kd.R k79 79 w' w0.heap.size (fun _ => True) vv vals ∧ (r, vals.map opT) = bfold s0 l ∧ (r = none → code = 1) ∧ (∀ m, r = some m → code = 0 ∧ left = bs m)
/-- Behind the loop: the variables, the Buffer, the row of what was consumed. -/
structure BE (w0 wr wx : World) (g p4 p5 p6 : Nat) (vv : Value) (vals : List S79) (cd : Int) : Prop where
  b4 : wx.heap[p4]? = some (.cells #[vv] 75 (0, 0))
  b5 : wx.heap[p5]? = some (.cells #[.string ⟨#[]⟩] 9 (0, 0))
  b6 : wx.heap[p6]? = some (.cells #[.int .i64 cd] 3 (0, 0))
  row : Kd.R k79 79 wx w0.heap.size (fun k => k ≠ g) vv vals
  bel : Below w0.heap.size w0 wx
  keep : ∀ k, k ≠ p6 → wx.heap[k]? = wr.heap[k]?
theorem IB.be {w0 w : World} {g p4 p5 p6 M : Nat} {r : Option (List UInt8)} {vv : Value} {vals : List S79} (h : IB w0 w g p4 p5 p6 M r vv vals) : BE w0 w w g p4 p5 p6 vv vals 0 :=
  ⟨h.b4, h.b5, h.b6, h.row, h.bel, fun _ _ => rfl⟩
theorem IB.be1 {w0 w : World} {g p4 p5 p6 M : Nat} {r : Option (List UInt8)} {vv : Value} {vals : List S79} (h : IB w0 w g p4 p5 p6 M r vv vals) (h4 : p4 ≠ p6) (h5 : p5 ≠ p6) (h6 : w0.heap.size ≤ p6) : BE w0 w (w.setCell ⟨p6, 0, none⟩ (.int .i64 1)) g p4 p5 p6 vv vals 1 :=
  ⟨(Below.heap_setCell _ _ _ _ h4).trans h.b4, (Below.heap_setCell _ _ _ _ h5).trans h.b5, setCell_blk h.b6 _, Kd.R_set h.row h.b6 (by decide) 0 _, h.bel.setCell h6 _, fun k hk => Below.heap_setCell _ _ _ _ hk⟩
/-- What is returned lies in the variables. -/
theorem BE.fin {w0 wr wx : World} {g p4 p5 p6 : Nat} {vv : Value} {vals : List S79} {cd : Int} (h : BE w0 wr wx g p4 p5 p6 vv vals cd) (k : Nat) (left : ByteArray) (h45 : p4 ≠ p5) (h46 : p4 ≠ p6) (h56 : p5 ≠ p6) (l4 : w0.heap.size ≤ p4) (l5 : w0.heap.size ≤ p5) (l6 : w0.heap.size ≤ p6) (W : World)
    (hW : (((wx.drewN k).setCell ⟨p4, 0, none⟩ vv).setCell ⟨p5, 0, none⟩ (.string left)).setCell ⟨p6, 0, none⟩ (.int .i64 cd) = W) :
    W.cell? ⟨p4, 0, none⟩ = some vv ∧ W.cell? ⟨p5, 0, none⟩ = some (.string left) ∧ W.cell? ⟨p6, 0, none⟩ = some (.int .i64 cd) ∧ Kd.R k79 79 W w0.heap.size (fun _ => True) vv vals ∧ Below w0.heap.size w0 W := by
  have a4 : (wx.drewN k).heap[p4]? = some (.cells #[vv] 75 (0, 0)) := h.b4
  have a5 : (wx.drewN k).heap[p5]? = some (.cells #[.string ⟨#[]⟩] 9 (0, 0)) := h.b5
  have a6 : (wx.drewN k).heap[p6]? = some (.cells #[.int .i64 cd] 3 (0, 0)) := h.b6
  have ar := Kd.R_drewN h.row k
  have ab : Below w0.heap.size w0 (wx.drewN k) := below_drewN h.bel k
  generalize wx.drewN k = V at *
  obtain ⟨V1, hV1⟩ : ∃ V1, V.setCell ⟨p4, 0, none⟩ vv = V1 := ⟨_, rfl⟩
  obtain ⟨V2, hV2⟩ : ∃ V2, V1.setCell ⟨p5, 0, none⟩ (.string left) = V2 := ⟨_, rfl⟩
  rw [hV1, hV2] at hW
  have o1 : ∀ k, k ≠ p4 → V1.heap[k]? = V.heap[k]? := fun k hk => by rw [← hV1]; exact Below.heap_setCell _ _ _ _ hk
  have o2 : ∀ k, k ≠ p5 → V2.heap[k]? = V1.heap[k]? := fun k hk => by rw [← hV2]; exact Below.heap_setCell _ _ _ _ hk
  have o3 : ∀ k, k ≠ p6 → W.heap[k]? = V2.heap[k]? := fun k hk => by rw [← hW]; exact Below.heap_setCell _ _ _ _ hk
  have c4 : V1.heap[p4]? = some (.cells #[vv] 75 (0, 0)) := by rw [← hV1]; exact setCell_blk a4 _
  have c5 : V1.heap[p5]? = some (.cells #[.string ⟨#[]⟩] 9 (0, 0)) := (o1 _ (Ne.symm h45)).trans a5
  have c6 : V1.heap[p6]? = some (.cells #[.int .i64 cd] 3 (0, 0)) := (o1 _ (Ne.symm h46)).trans a6
  have d4 := (o2 _ h45).trans c4
  have d5 : V2.heap[p5]? = some (.cells #[.string left] 9 (0, 0)) := by rw [← hV2]; exact setCell_blk c5 _
  have d6 := (o2 _ (Ne.symm h56)).trans c6
  have e4 := (o3 _ h46).trans d4
  have e5 := (o3 _ h56).trans d5
  have e6 : W.heap[p6]? = some (.cells #[.int .i64 cd] 3 (0, 0)) := by rw [← hW]; exact setCell_blk d6 _
  have r1 := Kd.R_set ar a4 (by decide) 0 vv
  rw [hV1] at r1
  have r2 := Kd.R_set r1 c5 (by decide) 0 (.string left)
  rw [hV2] at r2
  have r3 := Kd.R_set r2 d6 (by decide) 0 (.int .i64 cd)
  rw [hW] at r3
  refine ⟨by rw [cell_of_blk e4]; rfl, by rw [cell_of_blk e5]; rfl, by rw [cell_of_blk e6]; rfl, Kd.R_mono r3 (fun _ _ => trivial), ?_⟩
  rw [← hW, ← hV2, ← hV1]
  exact ((ab.setCell l4 _).setCell l5 _).setCell l6 _
set_option maxRecDepth 100000 in
set_option maxHeartbeats 16000000 in
theorem bufferC (first : ByteArray) (A : Option Addr) (n cap : Nat) (l : List S79) (w : World) (hC : Kd.C k79 w A l.length l) (hnl : n = l.length) (hn : n ≤ 30) (hf : first.size ≤ 400) (hs : ∀ e ∈ l, e.f2.size ≤ 100) (hg : ∀ e ∈ l, 0 ≤ e.f1 ∧ e.f1 ≤ 18446744073709551615) (hok : ∀ e ∈ l, okOp e.f0 = true) :
    Calls Tryz.prog 46 #[.string first, .slice A n cap] w fun e w' => BufRes w w' (some (tl first)) l e ∧ Below w.heap.size w w' := by
  have hmf : ∀ (fn : Fn) (first cap : Array Value) (w : World), (Instr.makeFunc fn first cap).run Tryz.prog w = .ok (.func fn first cap) w := fun _ _ _ _ => rfl
  have kb := fun W => Lib.run_convert_string_bytes (P := Tryz.prog) W 9 93 5 first Tryz.underlying9 Tryz.underlying93 Tryz.underlying5
  have hC0 := opS_of_C hC
  obtain ⟨W0, hW0⟩ : ∃ W, ((w.alloc (.cells #[.slice none 0 0] 75)).alloc (.cells #[.string ⟨#[]⟩] 9)).alloc (.cells #[.int .i64 0] 3) = W := ⟨_, rfl⟩
  have s0 : W0.heap.size = w.heap.size + 1 + 1 + 1 := by rw [← hW0]; simp
  have z4 : W0.heap[w.heap.size]? = some (.cells #[.slice none 0 0] 75 (0, 0)) := by
    rw [← hW0, heap_alloc_old _ _ (by simp; omega), heap_alloc_old _ _ (by simp)]; exact heap_alloc_new _ _
  have z5 : W0.heap[w.heap.size + 1]? = some (.cells #[.string ⟨#[]⟩] 9 (0, 0)) := by
    rw [← hW0, heap_alloc_old _ _ (by simp)]
    have := heap_alloc_new (w.alloc (.cells #[.slice none 0 0] 75)) (.cells #[.string ⟨#[]⟩] 9 (0, 0))
    rwa [show (w.alloc (.cells #[.slice none 0 0] 75)).heap.size = w.heap.size + 1 from by simp] at this
  have z6 : W0.heap[w.heap.size + 1 + 1]? = some (.cells #[.int .i64 0] 3 (0, 0)) := by
    rw [← hW0]
    have := heap_alloc_new ((w.alloc (.cells #[.slice none 0 0] 75)).alloc (.cells #[.string ⟨#[]⟩] 9 (0, 0))) (.cells #[.int .i64 0] 3 (0, 0))
    rwa [show ((w.alloc (.cells #[.slice none 0 0] 75)).alloc (.cells #[.string ⟨#[]⟩] 9 (0, 0))).heap.size = w.heap.size + 1 + 1 from by simp] at this
  have zb : Below w.heap.size w W0 := by rw [← hW0]; exact (((Below.refl _ _).alloc (Nat.le_refl _) _).alloc (by simp) _).alloc (by simp; omega) _
  -- the bytes, and the Buffer over them
  obtain ⟨V0, hV0⟩ : ∃ W, Lib.bytesWorld W0 5 first = W := ⟨_, rfl⟩
  have v0s : V0.heap.size = w.heap.size + 1 + 1 + 1 + 1 := by rw [← hV0, Lib.bytesWorld_size, s0]
  have vo : ∀ k, k < W0.heap.size → V0.heap[k]? = W0.heap[k]? := fun k hk => by rw [← hV0]; exact Lib.bytesWorld_at_old W0 _ first k hk
  have hO : OwnR w.heap.size V0 (.slice (some ⟨w.heap.size + 1 + 1 + 1, 0, none⟩) first.size (grownCap W0 first.size 0 5)) (tl first) := by
    have h := OwnR.ofBytes w.heap.size W0 first (by omega)
    rw [hV0, s0] at h
    exact h
  have vb : Below w.heap.size w V0 := by rw [← hV0]; exact bytes_below zb (by omega) _ _
  obtain ⟨V1, hV1⟩ : ∃ W, V0.alloc (.cells #[.slice (some ⟨w.heap.size + 1 + 1 + 1, 0, none⟩) first.size (grownCap W0 first.size 0 5), .int .i64 0, .nilIface] 120) = W := ⟨_, rfl⟩
  have v1o : ∀ k, k < V0.heap.size → V1.heap[k]? = V0.heap[k]? := fun k hk => by rw [← hV1, heap_alloc_old _ _ hk]
  have v1g : V1.heap[w.heap.size + 1 + 1 + 1 + 1]? = some (.cells #[.slice (some ⟨w.heap.size + 1 + 1 + 1, 0, none⟩) first.size (grownCap W0 first.size 0 5), .int .i64 0, .nilIface] 120 (0, 0)) := by rw [← hV1, ← v0s]; exact heap_alloc_new _ _
  have hI : IB w V1 (w.heap.size + 1 + 1 + 1 + 1) w.heap.size (w.heap.size + 1) (w.heap.size + 1 + 1) (400 + 200 * 0) (some (tl first)) (.slice none 0 0) [] := by
    refine ⟨⟨_, _, _, 0, .nilIface, tl first, ⟨by rw [cell_of_blk v1g]; rfl, by rw [cell_of_blk v1g]; rfl, by rw [cell_of_blk v1g]; rfl, frozen_of_blk v1g, hO.kept (fun k hk => v1o k (hO.lt k hk)), by omega, ?_⟩, Nat.zero_le _, by rw [tl_length]; omega, rfl, fun m hm => by rw [Option.some.inj hm]; rfl⟩, ?_, ?_, ?_, Kd.R_nil _ _ _ _ _, ?_, ⟨Nat.le_refl _, by omega⟩, by omega, by omega⟩
    · intro e
      have e' : w.heap.size + 1 + 1 + 1 = w.heap.size + 1 + 1 + 1 + 1 := Option.some.inj e
      omega
    · rw [v1o _ (by omega), vo _ (by omega)]; exact z4
    · rw [v1o _ (by omega), vo _ (by omega)]; exact z5
    · rw [v1o _ (by omega), vo _ (by omega)]; exact z6
    · rw [← hV1]; exact vb.alloc (by omega) _
  have L0 := Lib.hid (show BL w V1 (w.heap.size + 1 + 1 + 1 + 1) w.heap.size (w.heap.size + 1) (w.heap.size + 1 + 1) (some (tl first)) l 0 from ⟨_, _, _, hI, by simp [bfold], by simp⟩)
  have X0 := Lib.hid hW0
  have Y0 := Lib.hid hV0
  have Y1 := Lib.hid hV1
  have T0 := Lib.hid s0
  have S0 := Lib.hid v0s
  have HC := Lib.hid hC0
  have HN := Lib.hid hnl
  have HS := Lib.hid hs
  have HG := Lib.hid hg
  have HK := Lib.hid hok
  have n64 : (n : Int) < 9223372036854775807 := by omega
  clear hW0 s0 z4 z5 z6 zb hV0 v0s vo hO vb hV1 v1o v1g hI hC hC0 hnl hs hg hok hf
  go_enter_defers Tryz.func46, Tryz.ntmps46
  go_wp2_with (refine at_dst 12 rfl ?_; rw [X0.out])
  rw [Y0.out, T0.out]
  refine (newBuffer _ _ _ _).mono ?_
  rintro e wn ⟨rfl, hwn⟩
  rw [Y1.out] at hwn
  subst hwn
  rw [S0.out]
  clear kb X0 Y0 Y1 T0 S0
  generalize hg0 : w.heap.size + 1 + 1 + 1 + 1 = g at *
  have G0 := Lib.hid hg0
  clear hg0
  go_wp2_with fail

  go_loopw [18] (fun i wr => ∃ k : Nat, k ≤ n ∧ i = .int .i64 (k : Int) ∧ Hid (BL w wr g w.heap.size (w.heap.size + 1) (w.heap.size + 1 + 1) (some (tl first)) l k)) (fun i _ => n - (intOf i).toNat)
  case atStart => exact ⟨0, Nat.zero_le _, rfl, L0⟩
  case round =>
    clear L0
    obtain ⟨k, hk, rfl, HR⟩ := hrel
    obtain ⟨r, vv, vals, hI, hE, hvl⟩ := HR.out
    clear HR
    by_cases hlt : k < n
    · have hkl : k < l.length := by have := HN.out; omega
      obtain ⟨x, p, rfl, hx, hc0⟩ := HC.out.resolve_left (by intro h; rw [h] at hkl; simp at hkl)
      have he : l[k]? = some l[k] := List.getElem?_eq_getElem hkl
      have m1 := HS.out _ (List.getElem_mem hkl)
      have m2 := HG.out _ (List.getElem_mem hkl)
      have m3 := HK.out _ (List.getElem_mem hkl)
      obtain ⟨e1, e2, e3⟩ := hc0 _ _ he
      have kx : ∀ i, wr.cell? ⟨x, i, none⟩ = w.cell? ⟨x, i, none⟩ := fun i => cell_kept (hI.bel.block x hx)
      rw [← kx] at e1 e2 e3
      generalize l[k] = o at *
      obtain ⟨d, y, s⟩ := o
      simp only [] at e1 e2 e3 m1 m2 m3
      obtain ⟨W1, hW1⟩ : ∃ W, wr.alloc (.cells (op3 0 0 ⟨#[]⟩) 79) = W := ⟨_, rfl⟩
      obtain ⟨W2, hW2⟩ : ∃ W, W1.setRow wr.heap.size (op3 d y s) = W := ⟨_, rfl⟩
      obtain ⟨k1, k2, hI2⟩ := stepW hI d y s W1 W2 hW1 hW2
      have q0 : W2.cell? ⟨wr.heap.size, 0, none⟩ = some (.int .i64 d) := by rw [cell_of_blk k2]; rfl
      have q1 : W2.cell? ⟨wr.heap.size, 1, none⟩ = some (.int .u64 y) := by rw [cell_of_blk k2]; rfl
      have q2 : W2.cell? ⟨wr.heap.size, 2, none⟩ = some (.string s) := by rw [cell_of_blk k2]; rfl
      have X1 := Lib.hid hW1
      have X2 := Lib.hid hW2
      have K1 := Lib.hid k1
      have H2 := Lib.hid hI2
      have HE := Lib.hid hE
      have HL := Lib.hid he
      have hM : 400 + 200 * k ≤ 800000000 := by omega
      have g5 : w.heap.size ≠ w.heap.size + 1 := by omega
      have g6 : w.heap.size ≠ w.heap.size + 1 + 1 := by omega
      have kn : wrap64 ((k : Int) + 1) = ((k + 1 : Nat) : Int) := by rw [wrap64]; omega
      clear hW1 hW2 k1 k2 hI2 hE he hI hc0 kx hx hkl
      rcases okOp_cases m3 with rfl | rfl | rfl | rfl | rfl | rfl | rfl | rfl | hd
      · -- 0
        obtain ⟨z, hz⟩ : ∃ z, IntKind.u8.wrap y = z := ⟨_, rfl⟩
        have hz2 : z = y % 256 := by rw [← hz, IntKind.wrap_u8]
        have z0 : 0 ≤ z := by omega
        have z1 : z ≤ 255 := by omega
        have HZ := Lib.hid hz2
        clear hz2
        go_wp2_with (first
          | (refine wpList_allocTo rfl (some 9) rfl (.pointer (some ⟨wr.heap.size, 0, none⟩)) (.cells (op3 0 0 ⟨#[]⟩) 79) (by as_aux_lemma => kernel_rfl) ?_; rw [X1.out])
          | (refine wpList_store_row rfl 79 _ _ rfl wr.heap.size (op3 0 y s) rfl rfl 79 (op3 0 0 ⟨#[]⟩) K1.out (oinfo _ _ _) rfl (oone _ _ _) ?_; rw [X2.out]))
        refine (H2.out.ds.put8 hM z z0 z1).mono ?_
        rintro e w3 ⟨rfl, h3, b3, k3⟩
        have F := Lib.hid (BL.step HL.out HE.out (H2.out.stepped h3 b3 k3) (by simp only [b1, List.length_cons, List.length_nil]; omega) (by rw [HZ.out, b1_mod]; rfl) (by omega))
        clear h3 b3 k3
        go_wp2_with fail
        go_roundw
        case rel => exact ⟨k + 1, by omega, by go_num, F⟩
        case measure => simp [intOf]; omega
      · -- 1
        obtain ⟨z, hz⟩ : ∃ z, IntKind.u16.wrap y = z := ⟨_, rfl⟩
        have hz2 : z = y % 65536 := by rw [← hz, IntKind.wrap_u16]
        have z0 : 0 ≤ z := by omega
        have z1 : z ≤ 65535 := by omega
        have HZ := Lib.hid hz2
        clear hz2
        go_wp2_with (first
          | (refine wpList_allocTo rfl (some 9) rfl (.pointer (some ⟨wr.heap.size, 0, none⟩)) (.cells (op3 0 0 ⟨#[]⟩) 79) (by as_aux_lemma => kernel_rfl) ?_; rw [X1.out])
          | (refine wpList_store_row rfl 79 _ _ rfl wr.heap.size (op3 1 y s) rfl rfl 79 (op3 0 0 ⟨#[]⟩) K1.out (oinfo _ _ _) rfl (oone _ _ _) ?_; rw [X2.out]))
        refine (H2.out.ds.put16 hM z z0 z1).mono ?_
        rintro e w3 ⟨rfl, h3, b3, k3⟩
        have F := Lib.hid (BL.step HL.out HE.out (H2.out.stepped h3 b3 k3) (by simp only [be16, List.length_cons, List.length_nil]; omega) (by rw [HZ.out, be16_mod]; rfl) (by omega))
        clear h3 b3 k3
        go_wp2_with fail
        go_roundw
        case rel => exact ⟨k + 1, by omega, by go_num, F⟩
        case measure => simp [intOf]; omega
      · -- 2
        obtain ⟨z, hz⟩ : ∃ z, IntKind.u32.wrap y = z := ⟨_, rfl⟩
        have hz2 : z = y % 4294967296 := by rw [← hz, IntKind.wrap_u32]
        have z0 : 0 ≤ z := by omega
        have z1 : z ≤ 4294967295 := by omega
        have HZ := Lib.hid hz2
        clear hz2
        go_wp2_with (first
          | (refine wpList_allocTo rfl (some 9) rfl (.pointer (some ⟨wr.heap.size, 0, none⟩)) (.cells (op3 0 0 ⟨#[]⟩) 79) (by as_aux_lemma => kernel_rfl) ?_; rw [X1.out])
          | (refine wpList_store_row rfl 79 _ _ rfl wr.heap.size (op3 2 y s) rfl rfl 79 (op3 0 0 ⟨#[]⟩) K1.out (oinfo _ _ _) rfl (oone _ _ _) ?_; rw [X2.out]))
        refine (H2.out.ds.put32 hM z z0 z1).mono ?_
        rintro e w3 ⟨rfl, h3, b3, k3⟩
        have F := Lib.hid (BL.step HL.out HE.out (H2.out.stepped h3 b3 k3) (by simp only [be32, List.length_cons, List.length_nil]; omega) (by rw [HZ.out, be32_mod]; rfl) (by omega))
        clear h3 b3 k3
        go_wp2_with fail
        go_roundw
        case rel => exact ⟨k + 1, by omega, by go_num, F⟩
        case measure => simp [intOf]; omega
      · -- 3
        go_wp2_with (first
          | (refine wpList_allocTo rfl (some 9) rfl (.pointer (some ⟨wr.heap.size, 0, none⟩)) (.cells (op3 0 0 ⟨#[]⟩) 79) (by as_aux_lemma => kernel_rfl) ?_; rw [X1.out])
          | (refine wpList_store_row rfl 79 _ _ rfl wr.heap.size (op3 3 y s) rfl rfl 79 (op3 0 0 ⟨#[]⟩) K1.out (oinfo _ _ _) rfl (oone _ _ _) ?_; rw [X2.out]))
        refine (H2.out.ds.put64 hM y m2.1 m2.2).mono ?_
        rintro e w3 ⟨rfl, h3, b3, k3⟩
        have F := Lib.hid (BL.step HL.out HE.out (H2.out.stepped h3 b3 k3) (by simp only [be64, be32, List.length_append, List.length_cons, List.length_nil]; omega) (by rfl) (by omega))
        clear h3 b3 k3
        go_wp2_with fail
        go_roundw
        case rel => exact ⟨k + 1, by omega, by go_num, F⟩
        case measure => simp [intOf]; omega
      · -- 4
        obtain ⟨z, hz⟩ : ∃ z, IntKind.i64.wrap y = z := ⟨_, rfl⟩
        have hz2 : IntKind.u64.wrap z = y := by rw [← hz, IntKind.wrap_u64, IntKind.wrap_i64]; omega
        have HZ := Lib.hid hz2
        clear hz2
        go_wp2_with (first
          | (refine wpList_allocTo rfl (some 9) rfl (.pointer (some ⟨wr.heap.size, 0, none⟩)) (.cells (op3 0 0 ⟨#[]⟩) 79) (by as_aux_lemma => kernel_rfl) ?_; rw [X1.out])
          | (refine wpList_store_row rfl 79 _ _ rfl wr.heap.size (op3 4 y s) rfl rfl 79 (op3 0 0 ⟨#[]⟩) K1.out (oinfo _ _ _) rfl (oone _ _ _) ?_; rw [X2.out]))
        refine (H2.out.ds.putI64 hM z y HZ.out m2.1 m2.2).mono ?_
        rintro e w3 ⟨rfl, h3, b3, k3⟩
        have F := Lib.hid (BL.step HL.out HE.out (H2.out.stepped h3 b3 k3) (by simp only [be64, be32, List.length_append, List.length_cons, List.length_nil]; omega) (by rfl) (by omega))
        clear h3 b3 k3
        go_wp2_with fail
        go_roundw
        case rel => exact ⟨k + 1, by omega, by go_num, F⟩
        case measure => simp [intOf]; omega
      · -- 5
        go_wp2_with (first
          | (refine wpList_allocTo rfl (some 9) rfl (.pointer (some ⟨wr.heap.size, 0, none⟩)) (.cells (op3 0 0 ⟨#[]⟩) 79) (by as_aux_lemma => kernel_rfl) ?_; rw [X1.out])
          | (refine wpList_store_row rfl 79 _ _ rfl wr.heap.size (op3 5 y s) rfl rfl 79 (op3 0 0 ⟨#[]⟩) K1.out (oinfo _ _ _) rfl (oone _ _ _) ?_; rw [X2.out]))
        refine (H2.out.ds.putBool hM (y != 0)).mono ?_
        rintro e w3 ⟨rfl, h3, b3, k3⟩
        have F := Lib.hid (BL.step HL.out HE.out (H2.out.stepped h3 b3 k3) (by simp only [b1, List.length_cons, List.length_nil]; omega) (by by_cases hy : y = 0 <;> simp [bstep, putB, hy]) (by omega))
        clear h3 b3 k3
        go_wp2_with fail
        go_roundw
        case rel => exact ⟨k + 1, by omega, by go_num, F⟩
        case measure => simp [intOf]; omega
      · -- 6
        go_wp2_with (first
          | (refine wpList_allocTo rfl (some 9) rfl (.pointer (some ⟨wr.heap.size, 0, none⟩)) (.cells (op3 0 0 ⟨#[]⟩) 79) (by as_aux_lemma => kernel_rfl) ?_; rw [X1.out])
          | (refine wpList_store_row rfl 79 _ _ rfl wr.heap.size (op3 6 y s) rfl rfl 79 (op3 0 0 ⟨#[]⟩) K1.out (oinfo _ _ _) rfl (oone _ _ _) ?_; rw [X2.out]))
        refine (H2.out.ds.putStr hM s (by omega)).mono ?_
        rintro e w3 ⟨rfl, h3, b3, k3⟩
        have F := Lib.hid (BL.step HL.out HE.out (H2.out.stepped h3 b3 k3) (by simp only [str_len, tl_length]; omega) (by rfl) (by omega))
        clear h3 b3 k3
        go_wp2_with fail
        go_roundw
        case rel => exact ⟨k + 1, by omega, by go_num, F⟩
        case measure => simp [intOf]; omega
      · -- 7
        obtain ⟨z, hz⟩ : ∃ z, IntKind.i64.wrap y = z := ⟨_, rfl⟩
        have hz2 : IntKind.u32.wrap z = y % 4294967296 := by rw [← hz, IntKind.wrap_u32, IntKind.wrap_i64]; omega
        have HZ := Lib.hid hz2
        clear hz2
        go_wp2_with (first
          | (refine wpList_allocTo rfl (some 9) rfl (.pointer (some ⟨wr.heap.size, 0, none⟩)) (.cells (op3 0 0 ⟨#[]⟩) 79) (by as_aux_lemma => kernel_rfl) ?_; rw [X1.out])
          | (refine wpList_store_row rfl 79 _ _ rfl wr.heap.size (op3 7 y s) rfl rfl 79 (op3 0 0 ⟨#[]⟩) K1.out (oinfo _ _ _) rfl (oone _ _ _) ?_; rw [X2.out]))
        refine (H2.out.ds.putCount hM z (y % 4294967296) HZ.out (by omega) (by omega)).mono ?_
        rintro e w3 ⟨rfl, h3, b3, k3⟩
        have F := Lib.hid (BL.step HL.out HE.out (H2.out.stepped h3 b3 k3) (by simp only [be32, List.length_cons, List.length_nil]; omega) (by rw [be32_mod]; rfl) (by omega))
        clear h3 b3 k3
        go_wp2_with fail
        go_roundw
        case rel => exact ⟨k + 1, by omega, by go_num, F⟩
        case measure => simp [intOf]; omega
      · -- 10 to 17
        have EQ : bstep d y s (r, vals.map opT) = ((eatB d r).2.2, if (eatB d r).2.2.isSome then vals.map opT ++ [(d, (eatB d r).1, (eatB d r).2.1)] else vals.map opT) := by unfold bstep; rw [if_neg (by omega)]
        have CN := Lib.hid (consumedC H2.out.ds (by omega) d hd)
        have EQ := Lib.hid EQ
        generalize (eatB d r).1 = u1 at *
        generalize (eatB d r).2.1 = u2 at *
        generalize (eatB d r).2.2 = r1 at *
        have n0 : (d == 0) = false := by simp; omega
        have n1 : (d == 1) = false := by simp; omega
        have n2 : (d == 2) = false := by simp; omega
        have n3 : (d == 3) = false := by simp; omega
        have n4 : (d == 4) = false := by simp; omega
        have n5 : (d == 5) = false := by simp; omega
        have n6 : (d == 6) = false := by simp; omega
        have n7 : (d == 7) = false := by simp; omega
        go_wp2_with (first
          | (refine wpList_allocTo rfl (some 9) rfl (.pointer (some ⟨wr.heap.size, 0, none⟩)) (.cells (op3 0 0 ⟨#[]⟩) 79) (by as_aux_lemma => kernel_rfl) ?_; rw [X1.out])
          | (refine wpList_store_row rfl 79 _ _ rfl wr.heap.size (op3 d y s) rfl rfl 79 (op3 0 0 ⟨#[]⟩) K1.out (oinfo _ _ _) rfl (oone _ _ _) ?_; rw [X2.out]))
        refine CN.out.mono ?_
        rintro e w3 ⟨rfl, h3, b3, k3⟩
        have hI3 := H2.out.stepped h3 b3 k3
        obtain ⟨W4, hW4⟩ : ∃ W, w3.alloc (.cells (op3 0 0 ⟨#[]⟩) 79) = W := ⟨_, rfl⟩
        obtain ⟨W5, hW5⟩ : ∃ W, W4.setRow w3.heap.size (op3 d u1 u2) = W := ⟨_, rfl⟩
        obtain ⟨k4, k5, hI5⟩ := stepW hI3 d u1 u2 W4 W5 hW4 hW5
        obtain ⟨ev, ce, hev⟩ := hI5.ds.err
        have c4 : W5.cell? ⟨w.heap.size, 0, none⟩ = some vv := by rw [cell_of_blk hI5.b4]; rfl
        have hgl := hI5.ds.gl.2
        have hws := hI5.bel.size
        have X4 := Lib.hid hW4
        have X5 := Lib.hid hW5
        have K4 := Lib.hid k4
        have K5 := Lib.hid k5
        have H5 := Lib.hid hI5
        clear h3 b3 k3 hI3 hW4 hW5 k4 k5 hI5 CN q0 q1 q2 X1 X2 K1 e1 e2 e3
        cases r1 with
        | none =>
          obtain ⟨et, eu, rfl⟩ := hev
          have F := Lib.hid (BL.step HL.out HE.out H5.out (by omega) (by rw [EQ.out]; rfl) (by omega))
          go_wp2_with (first
          | (refine wpList_allocTo rfl (some 10) rfl (.pointer (some ⟨w3.heap.size, 0, none⟩)) (.cells (op3 0 0 ⟨#[]⟩) 79) (by as_aux_lemma => kernel_rfl) ?_; rw [X4.out])
          | (refine wpList_store_row rfl 79 _ _ rfl w3.heap.size (op3 d u1 u2) rfl rfl 79 (op3 0 0 ⟨#[]⟩) K4.out (oinfo _ _ _) rfl (oone _ _ _) ?_; rw [X5.out]))
          go_roundw
          case rel => exact ⟨k + 1, by omega, by go_num, F⟩
          case measure => simp [intOf]; omega
        | some m =>
          obtain rfl : ev = .nilIface := hev
          go_upto_region 9 with (first
          | (refine wpList_allocTo rfl (some 10) rfl (.pointer (some ⟨w3.heap.size, 0, none⟩)) (.cells (op3 0 0 ⟨#[]⟩) 79) (by as_aux_lemma => kernel_rfl) ?_; rw [X4.out])
          | (refine wpList_store_row rfl 79 _ _ rfl w3.heap.size (op3 d u1 u2) rfl rfl 79 (op3 0 0 ⟨#[]⟩) K4.out (oinfo _ _ _) rfl (oone _ _ _) ?_; rw [X5.out]))
          clear ce X4 X5 K4
          go_wp2_with (first
          | refine wpList_load_row rfl 79 _ rfl w3.heap.size rfl 79 (op3 d u1 u2) (0, 0) _ K5.out Tryz.underlying79 rfl (oinfo _ _ _) ?_
          | refine wpList_buildSliceTo rfl 75 79 1 _ rfl W5.heap.size rfl (some 41) rfl Tryz.underlying75 (op3 d u1 u2) (by as_aux_lemma => kernel_rfl) ?_
          | (at_builtin; refine Kd.R_append k79 (w0 := w) w.heap.size rfl (.tmp 39) (.tmp 41) 75 79 (.agg #[.int .i64 0, .int .u64 0, .string ⟨#[]⟩]) 32 rfl Tryz.underlying75 infoO rfl (by decide) (by omega) vv vals ⟨d, u1, u2⟩ [.int .i64 d, .int .u64 u1, .string u2] (fun k => k ≠ g) (fun _ => False) rfl (by first | rfl | (go_simp; done)) (k79_mkM _ _ _ _) (fun _ h => h.elim) (fun k hk => by omega) H5.out.row H5.out.bel hws (by omega) ?_; intro v1 w6 hR hbl hgr hat; obtain ⟨A1, m1, c1, rfl⟩ := R_slN hR; obtain ⟨c9, f9⟩ := H5.out.rowAfter hgr; have H6 := Lib.hid (H5.out.put g5 g6 hR hgr); clear hR hbl hgr hat))
          have F := Lib.hid (BL.step HL.out HE.out H6.out (by omega) (by rw [EQ.out]; simp [opT]) (by simp; omega))
          clear c9 f9 H6
          go_roundw
          case rel => exact ⟨k + 1, by omega, by go_num, F⟩
          case measure => simp [intOf]; omega
    · obtain rfl : k = n := by omega
      have hfull : l.take k = l := List.take_of_length_le (by have := HN.out; omega)
      rw [hfull] at hE
      clear hfull
      obtain ⟨A2, n2, c2, rfl⟩ := R_slN hI.row
      obtain ⟨ev, ce, hev⟩ := hI.ds.err
      obtain ⟨s1, o1, c1, L, hlies, hs1, hL, CB⟩ := dsBytes hI.ds (by omega)
      have hgl := hI.ds.gl
      have m4 : w.heap.size ≠ w.heap.size + 1 := by omega
      have m5 : w.heap.size ≠ w.heap.size + 1 + 1 := by omega
      have m6 : w.heap.size + 1 ≠ w.heap.size + 1 + 1 := by omega
      have c6 : wr.cell? ⟨w.heap.size + 1 + 1, 0, none⟩ = some (.int .i64 0) := by rw [cell_of_blk hI.b6]; rfl
      have f6 : wr.frozen? ⟨w.heap.size + 1 + 1, 0, none⟩ = false := frozen_of_blk hI.b6 0
      have hg6 : g ≠ w.heap.size + 1 + 1 := by have := G0.out; omega
      have hsa : s1 ≠ w.heap.size := fun e => by
        obtain ⟨cells, fr, hc⟩ := hs1
        rw [e, hI.b4] at hc
        simp at hc
      have hsb : s1 ≠ w.heap.size + 1 + 1 := fun e => by
        obtain ⟨cells, fr, hc⟩ := hs1
        rw [e, hI.b6] at hc
        simp at hc
      have HI := Lib.hid hI
      have HE := Lib.hid hE
      have HL := Lib.hid hlies
      have HM := Lib.hid hL
      have HB := Lib.hid CB
      clear hI hE hlies hL CB
      cases r with
      | none =>
        obtain ⟨et, eu, rfl⟩ := hev
        go_upto_region 31 with (fail)
        have hB := HI.out.be1 (w0 := w) m5 m6 (by omega)
        generalize wr.setCell ⟨w.heap.size + 1 + 1, 0, none⟩ (.int .i64 1) = V at hB ⊢
        have v4 : V.cell? ⟨w.heap.size, 0, none⟩ = some (.slice A2 n2 c2) := by rw [cell_of_blk hB.b4]; rfl
        have v5 : V.cell? ⟨w.heap.size + 1, 0, none⟩ = some (.string ⟨#[]⟩) := by rw [cell_of_blk hB.b5]; rfl
        have v6 := cell_of_blk hB.b6 0
        have y4 : V.frozen? ⟨w.heap.size, 0, none⟩ = false := frozen_of_blk hB.b4 0
        have y5 : V.frozen? ⟨w.heap.size + 1, 0, none⟩ = false := frozen_of_blk hB.b5 0
        have y6 : V.frozen? ⟨w.heap.size + 1 + 1, 0, none⟩ = false := frozen_of_blk hB.b6 0
        have hcv : ∀ j, (convert 93 9 (.slice (some ⟨s1, o1, none⟩) L.length c1)).run Tryz.prog (V.drewN j) = .ok (.string (bs L)) (V.drewN j) := fun j => conv_str _ s1 o1 c1 L (show Lies (V.drewN j) s1 o1 L from HL.out.kept (hB.keep _ hsb)) 93 9 5 Tryz.underlying93 Tryz.underlying5 Tryz.underlying9
        have hcw : ∀ j u, (convert 93 9 (.slice (some ⟨s1, o1, none⟩) L.length c1)).run Tryz.prog ((V.drewN j).setCell ⟨w.heap.size, 0, none⟩ u) = .ok (.string (bs L)) ((V.drewN j).setCell ⟨w.heap.size, 0, none⟩ u) := fun j u => conv_str _ s1 o1 c1 L (show Lies ((V.drewN j).setCell ⟨w.heap.size, 0, none⟩ u) s1 o1 L from HL.out.kept ((Below.heap_setCell _ _ _ _ hsa).trans (hB.keep _ hsb))) 93 9 5 Tryz.underlying93 Tryz.underlying5 Tryz.underlying9
        have BB := Lib.hid (fun j => HB.out (V.drewN j) (hB.keep g hg6))
        have HV := Lib.hid hB
        clear hB c6 f6 ce HB HI HL
        go_cut [] from 105 to 109 (fun wx => ∃ j, (((V.drewN j).setCell ⟨w.heap.size, 0, none⟩ (.slice A2 n2 c2)).setCell ⟨w.heap.size + 1, 0, none⟩ (.string (bs L))).setCell ⟨w.heap.size + 1 + 1, 0, none⟩ (.int .i64 1) = wx)
        case first =>
          refine wp_region_noPanic ?_
          go_region_law (rw [if_pos (by rfl)]; go_wp2_with (go_at_call 106; refine (BB.out 1).mono ?_; rintro e w' ⟨rfl, kk, rfl⟩))
          all_goals (refine NoPanic.normal ?_; go_wp2_with fail; go_meet; exact ⟨_, rfl⟩)
        case rest =>
          obtain ⟨j, hj⟩ := hcut
          obtain ⟨z4, z5, z6, z7, z8⟩ := HV.out.fin j (bs L) m4 m5 m6 (Nat.le_refl _) (by omega) (by omega) _ hj
          have Z7 := Lib.hid z7
          have Z8 := Lib.hid z8
          clear hj z7 z8 v4 v5 v6 y4 y5 y6 hcv hcw
          go_wp2_with fail
          refine leaves_cons (f := 95) (args := #[.pointer (some ⟨w.heap.size, 0, none⟩), .pointer (some ⟨w.heap.size + 1, 0, none⟩), .pointer (some ⟨w.heap.size + 1 + 1, 0, none⟩)]) (by simp) (by simp [go_sem]) ?_
          refine (bufIdle _ _ _ _).mono ?_
          rintro e u' w'' ⟨rfl, rfl, rfl⟩
          simp [Leaves, settle, results, Tryz.results46, go_sem, z4, z5, z6]
          exact ⟨⟨none, _, vals, bs L, 1, rfl, Z7.out, HE.out, fun _ => rfl, fun m hm => by cases hm⟩, Z8.out⟩
      | some m =>
        obtain rfl : ev = .nilIface := hev
        go_upto_region 31 with (fail)
        obtain ⟨V, hV, hB⟩ : ∃ V, V = wr ∧ BE w wr V g w.heap.size (w.heap.size + 1) (w.heap.size + 1 + 1) (.slice A2 n2 c2) vals 0 := ⟨_, rfl, HI.out.be⟩
        rw [← hV]
        clear hV
        have v4 : V.cell? ⟨w.heap.size, 0, none⟩ = some (.slice A2 n2 c2) := by rw [cell_of_blk hB.b4]; rfl
        have v5 : V.cell? ⟨w.heap.size + 1, 0, none⟩ = some (.string ⟨#[]⟩) := by rw [cell_of_blk hB.b5]; rfl
        have v6 := cell_of_blk hB.b6 0
        have y4 : V.frozen? ⟨w.heap.size, 0, none⟩ = false := frozen_of_blk hB.b4 0
        have y5 : V.frozen? ⟨w.heap.size + 1, 0, none⟩ = false := frozen_of_blk hB.b5 0
        have y6 : V.frozen? ⟨w.heap.size + 1 + 1, 0, none⟩ = false := frozen_of_blk hB.b6 0
        have hcv : ∀ j, (convert 93 9 (.slice (some ⟨s1, o1, none⟩) L.length c1)).run Tryz.prog (V.drewN j) = .ok (.string (bs L)) (V.drewN j) := fun j => conv_str _ s1 o1 c1 L (show Lies (V.drewN j) s1 o1 L from HL.out.kept (hB.keep _ hsb)) 93 9 5 Tryz.underlying93 Tryz.underlying5 Tryz.underlying9
        have hcw : ∀ j u, (convert 93 9 (.slice (some ⟨s1, o1, none⟩) L.length c1)).run Tryz.prog ((V.drewN j).setCell ⟨w.heap.size, 0, none⟩ u) = .ok (.string (bs L)) ((V.drewN j).setCell ⟨w.heap.size, 0, none⟩ u) := fun j u => conv_str _ s1 o1 c1 L (show Lies ((V.drewN j).setCell ⟨w.heap.size, 0, none⟩ u) s1 o1 L from HL.out.kept ((Below.heap_setCell _ _ _ _ hsa).trans (hB.keep _ hsb))) 93 9 5 Tryz.underlying93 Tryz.underlying5 Tryz.underlying9
        have BB := Lib.hid (fun j => HB.out (V.drewN j) (hB.keep g hg6))
        have HV := Lib.hid hB
        clear hB c6 f6 ce HB HI HL
        go_cut [] from 105 to 109 (fun wx => ∃ j, (((V.drewN j).setCell ⟨w.heap.size, 0, none⟩ (.slice A2 n2 c2)).setCell ⟨w.heap.size + 1, 0, none⟩ (.string (bs L))).setCell ⟨w.heap.size + 1 + 1, 0, none⟩ (.int .i64 0) = wx)
        case first =>
          refine wp_region_noPanic ?_
          go_region_law (rw [if_pos (by rfl)]; go_wp2_with (go_at_call 106; refine (BB.out 1).mono ?_; rintro e w' ⟨rfl, kk, rfl⟩))
          all_goals (refine NoPanic.normal ?_; go_wp2_with fail; go_meet; exact ⟨_, rfl⟩)
        case rest =>
          obtain ⟨j, hj⟩ := hcut
          obtain ⟨z4, z5, z6, z7, z8⟩ := HV.out.fin j (bs L) m4 m5 m6 (Nat.le_refl _) (by omega) (by omega) _ hj
          have Z7 := Lib.hid z7
          have Z8 := Lib.hid z8
          clear hj z7 z8 v4 v5 v6 y4 y5 y6 hcv hcw
          go_wp2_with fail
          refine leaves_cons (f := 95) (args := #[.pointer (some ⟨w.heap.size, 0, none⟩), .pointer (some ⟨w.heap.size + 1, 0, none⟩), .pointer (some ⟨w.heap.size + 1 + 1, 0, none⟩)]) (by simp) (by simp [go_sem]) ?_
          refine (bufIdle _ _ _ _).mono ?_
          rintro e u' w'' ⟨rfl, rfl, rfl⟩
          simp [Leaves, settle, results, Tryz.results46, go_sem, z4, z5, z6]
          exact ⟨⟨some m, _, vals, bs L, 0, rfl, Z7.out, HE.out, fun hm => (by cases hm), fun m' hm => ⟨rfl, by rw [HM.out m' hm]⟩⟩, Z8.out⟩
end Go.Proofs.YtmenkckgpiafiaaGreat
namespace Go.Proofs.YtmenkckgpiafiaaGreat
open Go.RowKit Go.Great Go.Proofs.YtmenkckgpiafiaaGreatW.PrintWords Go.Proofs.YtmenkckgpiafiaaGreatW.PrintLast Go.Proofs.YtmenkckgpiafiaaGreatW.PrintMore Go.Proofs.YtmenkckgpiafiaaGreat.KK
theorem results_4t {fn : Func} {a b c d : Tmp} (h : fn.results = #[.tmp a, .tmp b, .tmp c, .tmp d]) {P : Program} (tmps : Array Value) (w : World) :
    (results fn tmps).run P w = .ok (.tuple #[tmps.getD a undef, tmps.getD b undef, tmps.getD c undef, tmps.getD d undef]) w := by
  simp [results, h]
def opS (o : S80) : Int × Int × ByteArray := (o.f0, o.f1, o.f2)
def bfoldT (s0 : Option (List UInt8)) (l : List (Int × Int × ByteArray)) : Option (List UInt8) × List (Int × Int × ByteArray) := l.foldl (fun st o => bstep o.1 o.2.1 o.2.2 st) (s0, [])
theorem bfoldT_snoc (s0 : Option (List UInt8)) (l : List (Int × Int × ByteArray)) (o : Int × Int × ByteArray) : bfoldT s0 (l ++ [o]) = bstep o.1 o.2.1 o.2.2 (bfoldT s0 l) := by
  unfold bfoldT
  rw [List.foldl_append]
  rfl
theorem bfold_T (s0 : Option (List UInt8)) (l : List S79) : bfold s0 l = bfoldT s0 (l.map opT) := by
  unfold bfold bfoldT
  rw [List.foldl_map]
  rfl
/-- The reader's cells, whatever is left where it is short. -/
def rdX (b : ByteArray) (r : Option (List UInt8)) : Array Value := #[.string b, .bool r.isNone, .bool false]
structure SB (w0 w : World) (g M : Nat) (b : ByteArray) (r : Option (List UInt8)) (vv : Value) (vals : List S80) : Prop where
  rd : w.heap[g]? = some (.cells (rdX b r) 143 (0, 0))
  row : Kd.R k80 80 w w0.heap.size (fun k => k ≠ g) vv vals
  bel : Below w0.heap.size w0 w
  le : w0.heap.size ≤ g
  sz : b.size ≤ M
  is : ∀ l, r = some l → b = bs l
section
variable {w0 w w1 : World} {g M M1 : Nat} {b : ByteArray} {r r1 : Option (List UInt8)} {vv v1 : Value} {vals vals1 : List S80}
theorem SB.lt (h : SB w0 w g M b r vv vals) : g < w.heap.size := lt_of_blk h.rd
theorem SB.up (h : SB w0 w g M b r vv vals) (hM : M ≤ M1) : SB w0 w g M1 b r vv vals := ⟨h.rd, h.row, h.bel, h.le, Nat.le_trans h.sz hM, h.is⟩
theorem SB.old (h : SB w0 w g M b r vv vals) (hb : Below w.heap.size w w1) : SB w0 w1 g M b r vv vals :=
  ⟨(hb.block _ h.lt).trans h.rd, Kd.R_below h.row hb, h.bel.trans (hb.mono h.bel.size), h.le, h.sz, h.is⟩
theorem SB.set (h : SB w0 w g M b r vv vals) (c : ByteArray) (hM : c.size ≤ M1) (hr : ∀ l, r1 = some l → c = bs l) (hn : r1.isNone = r.isNone) : SB w0 (w.setCell ⟨g, 0, none⟩ (.string c)) g M1 c r1 vv vals := by
  refine ⟨?_, Kd.R_set h.row h.rd (by decide) 0 _, h.bel.setCell h.le _, h.le, hM, hr⟩
  rw [setCell_blk h.rd, rdX, rdX, hn]
  rfl
/-- Appended. -/
theorem SB.put (h : SB w0 w g M b r vv vals) (hb : Below w.heap.size w w1) (nb : List UInt8) : SB w0 (w1.setCell ⟨g, 0, none⟩ (.string (b ++ bs nb))) g (M + nb.length) (b ++ bs nb) (r.map (· ++ nb)) vv vals := by
  refine (h.old hb).set _ ?_ (fun l hl => ?_) (by cases r <;> rfl)
  · rw [ByteArray.size_append, bs_size]
    have := h.sz
    omega
  · cases r with
    | none => cases hl
    | some l0 =>
      obtain rfl := Option.some.inj hl
      rw [h.is l0 rfl, bs_append]
theorem rdX_some {l : List UInt8} (hb : b = bs l) : rdX b (some l) = rdC (some l) false := by rw [hb]; rfl
/-- Consumed. -/
theorem SB.ate {l : List UInt8} (h : SB w0 w g M b (some l) vv vals) (hd : w1.heap[g]? = some (.cells (rdC r1 false) 143 (0, 0))) (hu : UpdB (fun k => k = g) w w1) (hs : ∀ m, r1 = some m → m.length ≤ M) : ∃ b1, SB w0 w1 g M b1 r1 vv vals := by
  refine ⟨bs (r1.getD []), ?_, Kd.R_step h.row (fun k hk hlt => hu.block k hlt hk), h.bel.trans ⟨hu.os, hu.tape, hu.output, hu.size, fun k hk => hu.block k (by have := h.bel.size; omega) (by have := h.le; omega)⟩, h.le, ?_, fun m hm => by rw [hm]; rfl⟩
  · rw [hd]
    cases r1 <;> rfl
  · rw [bs_size]
    cases r1 with
    | none => exact Nat.zero_le _
    | some m => exact hs m rfl
theorem SB.rdc {l : List UInt8} (h : SB w0 w g M b (some l) vv vals) : w.heap[g]? = some (.cells (rdC (some l) false) 143 (0, 0)) := by
  have := h.rd
  rwa [rdX_some (h.is l rfl)] at this
theorem SB.small {l : List UInt8} (h : SB w0 w g M b (some l) vv vals) (hM : M ≤ 1000000) : smallR (some l) := fun m hm => by
  obtain rfl := Option.some.inj hm
  have := h.sz
  rw [h.is l rfl, bs_size] at this
  omega
theorem SB.len {l : List UInt8} (h : SB w0 w g M b (some l) vv vals) : l.length ≤ M := by
  have := h.sz
  rwa [h.is l rfl, bs_size] at this
theorem SB.row1 (h : SB w0 w g M b r vv vals) (hR : Kd.R k80 80 w1 w0.heap.size (fun k => k ≠ g) v1 vals1) (hg : w.grownBy w1 vv.ownBlock) : SB w0 w1 g M b r v1 vals1 :=
  ⟨(hg.block _ h.lt (fun e => h.row.1 _ e.symm rfl)).trans h.rd, hR, h.bel.grown hg h.bel.size (fun k hk => by obtain ⟨inner, ho⟩ := Kd.R_own h.row; exact own_base ho k hk), h.le, h.sz, h.is⟩
end
theorem SB.drew {w0 w : World} {g M : Nat} {b : ByteArray} {r : Option (List UInt8)} {vv : Value} {vals : List S80} (h : SB w0 w g M b r vv vals) : SB w0 w.drew g M b r vv vals :=
  ⟨h.rd, Kd.R_drew h.row, ⟨h.bel.os, h.bel.tape, h.bel.output, h.bel.size, h.bel.block⟩, h.le, h.sz, h.is⟩
theorem updB_new {ks : Nat → Prop} {w0 w : World} {a : Addr} (h : UpdB ks w0 w) (ha : w0.heap.size ≤ a.block) (u : Value) : UpdB ks w0 (w.setCell a u) :=
  ⟨h.os, h.tape, h.output, by have := h.size; simpa [World.setCell] using this, fun k hk e => (Below.heap_setCell _ _ _ _ (by omega)).trans (h.block k hk e)⟩
theorem updB_below {ks : Nat → Prop} {w0 w : World} (h : Below w0.heap.size w0 w) : UpdB ks w0 w := ⟨h.os, h.tape, h.output, h.size, fun k hk _ => h.block k hk⟩
theorem infoP : (Tryz.prog.info? 80).map (fun i => (i.zero, i.size, i.bytes)) = some (some (.agg #[.int .i64 0, .int .u64 0, .string ⟨#[]⟩]), k80.sz, 32) := by kernel_rfl
theorem opinfoS (d n : Int) (s : ByteArray) : (Tryz.prog.info? 80).map (·.size) = some (op3 d n s).size := by kernel_rfl
theorem spS_of_C {w : World} {A : Option Addr} {l : List S80} (h : Kd.C k80 w A l.length l) : l = [] ∨ ∃ x p, A = some ⟨x, p, none⟩ ∧ x < w.heap.size ∧ ∀ k e, l[k]? = some e → w.cell? ⟨x, p + k * 3, none⟩ = some (.int .i64 e.f0) ∧ w.cell? ⟨x, p + k * 3 + 1, none⟩ = some (.int .u64 e.f1) ∧ w.cell? ⟨x, p + k * 3 + 2, none⟩ = some (.string e.f2) := by
  cases hl : l with
  | nil => exact .inl rfl
  | cons e r =>
    rw [← hl]
    have hlen : 0 < l.length := by rw [hl]; simp
    obtain ⟨ad, rfl, h0, _⟩ := at_T80 h 0 (by omega) (by omega)
    have hsp : ad.spot = none := by
      have := spot0 h0
      simpa [Addr.add] using this
    obtain ⟨x, p, sp⟩ := ad
    have hsp' : sp = none := hsp
    subst hsp'
    refine .inr ⟨x, p, rfl, ?_, fun k e he => ?_⟩
    · have := World.block_lt_of_cell? w _ h0
      simpa [Addr.add] using this
    · have hk : k < l.length := (List.getElem?_eq_some_iff.1 he).1
      obtain ⟨ad, e1, h1, h2, h3⟩ := at_T80 h (k : Int) (by omega) (by omega)
      obtain rfl := Option.some.inj e1
      have hr : rd_T80 l (k : Int) = e := by
        unfold rd_T80
        rw [Int.toNat_natCast, List.getD_eq_getElem?_getD, he]
        rfl
      rw [hr, Int.toNat_natCast] at h1 h2 h3
      rw [add_plain] at h1 h2 h3
      exact ⟨h1, h2, h3⟩
/-- The loop at a round. -/
def SBL (w0 wr : World) (g : Nat) (s0 : Option (List UInt8)) (l : List S80) (vv : Value) (k : Nat) : Prop :=
  ∃ b r vals, SB w0 wr g (400 + 200 * k) b r vv vals ∧ (r, vals.map opS) = bfoldT s0 ((l.take k).map opS) ∧ vals.length ≤ k ∧ ∀ e ∈ l.take k, okOp e.f0 = true
theorem SBL.step {w0 w' : World} {g M1 k : Nat} {s0 r r1 : Option (List UInt8)} {b1 : ByteArray} {vv1 : Value} {vals vals1 : List S80} {l : List S80} {d x : Int} {s : ByteArray} (hk : l[k]? = some ⟨d, x, s⟩) (hE : (r, vals.map opS) = bfoldT s0 ((l.take k).map opS)) (hA : ∀ e ∈ l.take k, okOp e.f0 = true) (hd : okOp d = true) (hI : SB w0 w' g M1 b1 r1 vv1 vals1) (hM : M1 ≤ 400 + 200 * (k + 1))
    (hb : (r1, vals1.map opS) = bstep d x s (r, vals.map opS)) (hn : vals1.length ≤ k + 1) : SBL w0 w' g s0 l vv1 (k + 1) := by
  have hlt := (List.getElem?_eq_some_iff.1 hk).1
  have he : l[k] = ⟨d, x, s⟩ := (List.getElem?_eq_some_iff.1 hk).2
  refine ⟨b1, r1, vals1, hI.up hM, ?_, hn, fun e he2 => ?_⟩
  · rw [List.take_succ_eq_append_getElem hlt, List.map_append, List.map_singleton, bfoldT_snoc, ← hE, he, hb]
    rfl
  · rw [List.take_succ_eq_append_getElem hlt] at he2
    rcases List.mem_append.1 he2 with h | h
    · exact hA e h
    · rw [List.mem_singleton.1 h, he]; exact hd
/-- The worlds in which a step is copied, and what is consumed is begun. -/
theorem stepX {w0 wr : World} {g M : Nat} {b : ByteArray} {r : Option (List UInt8)} {vv : Value} {vals : List S80} (h : SB w0 wr g M b r vv vals) (d x : Int) (s : ByteArray) (W1 W2 W3 W4 : World) (h1 : wr.alloc (.cells (op3 0 0 ⟨#[]⟩) 80) = W1) (h2 : W1.setRow wr.heap.size (op3 d x s) = W2) (h3 : W2.alloc (.cells (op3 0 0 ⟨#[]⟩) 80) = W3) (h4 : W3.setRow (wr.heap.size + 1) (op3 d 0 ⟨#[]⟩) = W4) :
    W1.heap[wr.heap.size]? = some (.cells (op3 0 0 ⟨#[]⟩) 80 (0, 0)) ∧ W2.heap[wr.heap.size]? = some (.cells (op3 d x s) 80 (0, 0)) ∧ W2.heap.size = wr.heap.size + 1 ∧ SB w0 W2 g M b r vv vals ∧
    W3.heap[wr.heap.size + 1]? = some (.cells (op3 0 0 ⟨#[]⟩) 80 (0, 0)) ∧ W4.heap[wr.heap.size]? = some (.cells (op3 d x s) 80 (0, 0)) ∧ W4.heap[wr.heap.size + 1]? = some (.cells (op3 d 0 ⟨#[]⟩) 80 (0, 0)) ∧ SB w0 W4 g M b r vv vals ∧ Below W2.heap.size W2 W4 := by
  have k1 : W1.heap[wr.heap.size]? = some (.cells (op3 0 0 ⟨#[]⟩) 80 (0, 0)) := by rw [← h1]; exact heap_alloc_new _ _
  have k2 : W2.heap[wr.heap.size]? = some (.cells (op3 d x s) 80 (0, 0)) := by rw [← h2]; exact setRow_blk k1
  have z2 : W2.heap.size = wr.heap.size + 1 := by rw [← h2, setRow_size, ← h1]; simp
  have b2 : Below wr.heap.size wr W2 := ⟨by rw [← h2, ← h1]; rfl, by rw [← h2, ← h1]; rfl, by rw [← h2, ← h1]; rfl, by omega, fun k hk => by rw [← h2, setRow_other _ _ _ _ (by omega), ← h1, heap_alloc_old _ _ hk]⟩
  have k3 : W3.heap[wr.heap.size + 1]? = some (.cells (op3 0 0 ⟨#[]⟩) 80 (0, 0)) := by rw [← h3, ← z2]; exact heap_alloc_new _ _
  have k4 : W4.heap[wr.heap.size + 1]? = some (.cells (op3 d 0 ⟨#[]⟩) 80 (0, 0)) := by rw [← h4]; exact setRow_blk k3
  have b4 : Below W2.heap.size W2 W4 := ⟨by rw [← h4, ← h3]; rfl, by rw [← h4, ← h3]; rfl, by rw [← h4, ← h3]; rfl, by rw [← h4, setRow_size, ← h3]; simp, fun k hk => by rw [← h4, setRow_other _ _ _ _ (by omega), ← h3, heap_alloc_old _ _ hk]⟩
  have s2 := h.old b2
  exact ⟨k1, k2, z2, s2, k3, (b4.block _ (by omega)).trans k2, k4, s2.old b4, b4⟩
/-- What the reference's Buffer answers. -/
def SpBuf (w0 w' : World) (s0 : Option (List UInt8)) (l : List S80) (e : Ending) : Prop :=
  e = .returned (.tuple #[.slice none 0 0, .string ⟨#[]⟩, .bool false, .int .i64 2]) ∨
  ∃ r vv vals left, e = .returned (.tuple #[vv, .string left, .bool (Option.isSome r), .int .i64 1]) ∧ Kd.R k80 80 w' w0.heap.size (fun _ => True) vv vals ∧ (r, vals.map opS) = bfoldT s0 (l.map opS) ∧ (∀ m, r = some m → left = bs m) ∧ ∀ e ∈ l, okOp e.f0 = true
theorem c8_le {r : Option (List UInt8)} {M : Nat} (h : ∀ l, r = some l → l.length ≤ M) : ∀ l, (c8 r).2 = some l → l.length ≤ M := by
  cases r with
  | none => intro l hl; cases hl
  | some l0 =>
    intro l hl
    have := h l0 rfl
    by_cases hh : 1 ≤ l0.length
    · rw [show c8 (some l0) = (rd8 l0, some (l0.drop 1)) from if_pos hh] at hl
      obtain rfl := Option.some.inj hl
      rw [List.length_drop]; omega
    · rw [show c8 (some l0) = (0, none) from if_neg hh] at hl
      cases hl
theorem c16_le {r : Option (List UInt8)} {M : Nat} (h : ∀ l, r = some l → l.length ≤ M) : ∀ l, (c16 r).2 = some l → l.length ≤ M := by
  cases r with
  | none => intro l hl; cases hl
  | some l0 =>
    intro l hl
    have := h l0 rfl
    by_cases hh : 2 ≤ l0.length
    · rw [show c16 (some l0) = (rd16 l0, some (l0.drop 2)) from if_pos hh] at hl
      obtain rfl := Option.some.inj hl
      rw [List.length_drop]; omega
    · rw [show c16 (some l0) = (0, none) from if_neg hh] at hl
      cases hl
theorem c32_le {r : Option (List UInt8)} {M : Nat} (h : ∀ l, r = some l → l.length ≤ M) : ∀ l, (c32 r).2 = some l → l.length ≤ M := by
  cases r with
  | none => intro l hl; cases hl
  | some l0 =>
    intro l hl
    have := h l0 rfl
    by_cases hh : 4 ≤ l0.length
    · rw [show c32 (some l0) = (rd32 l0, some (l0.drop 4)) from if_pos hh] at hl
      obtain rfl := Option.some.inj hl
      rw [List.length_drop]; omega
    · rw [show c32 (some l0) = (0, none) from if_neg hh] at hl
      cases hl
theorem c64_le {r : Option (List UInt8)} {M : Nat} (h : ∀ l, r = some l → l.length ≤ M) : ∀ l, (c64 r).2 = some l → l.length ≤ M := by
  cases r with
  | none => intro l hl; cases hl
  | some l0 =>
    intro l hl
    have := h l0 rfl
    by_cases hh : 8 ≤ l0.length
    · rw [show c64 (some l0) = (rd64 l0, some (l0.drop 8)) from if_pos hh] at hl
      obtain rfl := Option.some.inj hl
      rw [List.length_drop]; omega
    · rw [show c64 (some l0) = (0, none) from if_neg hh] at hl
      cases hl
theorem cB_le {r : Option (List UInt8)} {M : Nat} (h : ∀ l, r = some l → l.length ≤ M) : ∀ l, (cB r).2 = some l → l.length ≤ M := by
  have h2 := c32_le h
  intro l hl
  unfold cB at hl
  generalize c32 r = x at *
  rcases x with ⟨x, _ | m⟩
  · cases hl
  · have := h2 m rfl
    by_cases hh : x ≤ (m.length : Int)
    · simp only [if_pos hh] at hl
      obtain rfl := Option.some.inj hl
      rw [List.length_drop]; omega
    · simp only [if_neg hh] at hl
      cases hl
end Go.Proofs.YtmenkckgpiafiaaGreat
namespace Go.Proofs.YtmenkckgpiafiaaGreat
open Go.RowKit Go.Great Go.Proofs.YtmenkckgpiafiaaGreatW.PrintWords Go.Proofs.YtmenkckgpiafiaaGreatW.PrintLast Go.Proofs.YtmenkckgpiafiaaGreatW.PrintMore Go.Proofs.YtmenkckgpiafiaaGreat.KK
set_option maxRecDepth 100000 in
set_option maxHeartbeats 16000000 in
theorem specBufferC (first : ByteArray) (A : Option Addr) (n cap : Nat) (l : List S80) (w : World) (hC : Kd.C k80 w A l.length l) (hnl : n = l.length) (hn : n ≤ 30) (hf : first.size ≤ 400) (hs : ∀ e ∈ l, e.f2.size ≤ 100) (hg : ∀ e ∈ l, 0 ≤ e.f1 ∧ e.f1 ≤ 18446744073709551615) :
    Calls Tryz.prog 45 #[.string first, .slice A n cap] w fun e w' => SpBuf w w' (some (tl first)) l e ∧ Below w.heap.size w w' := by
  have hC0 := spS_of_C hC
  obtain ⟨V1, hV1⟩ : ∃ W, w.alloc (.cells #[.string first, .bool false, .bool false] 143) = W := ⟨_, rfl⟩
  have hI : SB w V1 w.heap.size (400 + 200 * 0) first (some (tl first)) (.slice none 0 0) [] := by
    refine ⟨by rw [← hV1]; exact heap_alloc_new _ _, Kd.R_nil _ _ _ _ _, by rw [← hV1]; exact (Below.refl _ _).alloc (Nat.le_refl _) _, Nat.le_refl _, by omega, fun m hm => ?_⟩
    obtain rfl := Option.some.inj hm
    rw [bs_tl]
  have L0 := Lib.hid (show SBL w V1 w.heap.size (some (tl first)) l (.slice none 0 0) 0 from ⟨_, _, _, hI, by simp [bfoldT], by simp, by simp⟩)
  have Y1 := Lib.hid hV1
  have HC := Lib.hid hC0
  have HN := Lib.hid hnl
  have HS := Lib.hid hs
  have HG := Lib.hid hg
  have n64 : (n : Int) < 9223372036854775807 := by omega
  clear hV1 hI hC hC0 hnl hs hg hf
  go_enter Tryz.func45, Tryz.ntmps45
  go_upto_region 2 with (fail)
  rw [Y1.out]
  go_wp2_with fail
  go_loopw [4, 18] (fun v i wr => ∃ k : Nat, k ≤ n ∧ i = .int .i64 (k : Int) ∧ Hid (SBL w wr w.heap.size (some (tl first)) l v k)) (fun _ i _ => n - (intOf i).toNat)
  case atStart => exact ⟨0, Nat.zero_le _, rfl, L0⟩
  case round =>
    clear L0 Y1
    obtain ⟨k, hk, rfl, HR⟩ := hrel
    obtain ⟨b, r, vals, hI, hE, hvl, hA⟩ := HR.out
    clear HR
    obtain ⟨A9, n9, c9, rfl⟩ := R_slN hI.row
    by_cases hlt : k < n
    · have hkl : k < l.length := by have := HN.out; omega
      obtain ⟨x, p, rfl, hx, hc0⟩ := HC.out.resolve_left (by intro h; rw [h] at hkl; simp at hkl)
      have he : l[k]? = some l[k] := List.getElem?_eq_getElem hkl
      have m1 := HS.out _ (List.getElem_mem hkl)
      have m2 := HG.out _ (List.getElem_mem hkl)
      obtain ⟨e1, e2, e3⟩ := hc0 _ _ he
      have kx : ∀ i, wr.cell? ⟨x, i, none⟩ = w.cell? ⟨x, i, none⟩ := fun i => cell_kept (hI.bel.block x hx)
      rw [← kx] at e1 e2 e3
      generalize l[k] = o at *
      obtain ⟨d, y, s⟩ := o
      simp only [] at e1 e2 e3 m1 m2
      obtain ⟨W1, hW1⟩ : ∃ W, wr.alloc (.cells (op3 0 0 ⟨#[]⟩) 80) = W := ⟨_, rfl⟩
      obtain ⟨W2, hW2⟩ : ∃ W, W1.setRow wr.heap.size (op3 d y s) = W := ⟨_, rfl⟩
      obtain ⟨W3, hW3⟩ : ∃ W, W2.alloc (.cells (op3 0 0 ⟨#[]⟩) 80) = W := ⟨_, rfl⟩
      obtain ⟨W4, hW4⟩ : ∃ W, W3.setRow (wr.heap.size + 1) (op3 d 0 ⟨#[]⟩) = W := ⟨_, rfl⟩
      obtain ⟨k1, k2, z2, hI2, k3, k4, k5, hI4, b24⟩ := stepX hI d y s W1 W2 W3 W4 hW1 hW2 hW3 hW4
      have q0 : W2.cell? ⟨wr.heap.size, 0, none⟩ = some (.int .i64 d) := by rw [cell_of_blk k2]; rfl
      have t0 : W4.cell? ⟨wr.heap.size, 0, none⟩ = some (.int .i64 d) := by rw [cell_of_blk k4]; rfl
      have t1 : W4.cell? ⟨wr.heap.size, 1, none⟩ = some (.int .u64 y) := by rw [cell_of_blk k4]; rfl
      have t2 : W4.cell? ⟨wr.heap.size, 2, none⟩ = some (.string s) := by rw [cell_of_blk k4]; rfl
      have u0 : W4.cell? ⟨w.heap.size, 0, none⟩ = some (.string b) := by rw [cell_of_blk hI4.rd]; rfl
      have u1 : W4.cell? ⟨w.heap.size, 1, none⟩ = some (.bool r.isNone) := by rw [cell_of_blk hI4.rd]; rfl
      have uf : W4.frozen? ⟨w.heap.size, 0, none⟩ = false := frozen_of_blk hI4.rd 0
      have hbz := hI4.sz
      have hgl := hI4.lt
      have q64 : wr.heap.size + 1 < W4.heap.size := lt_of_blk k5
      have X1 := Lib.hid hW1
      have X2 := Lib.hid hW2
      have X3 := Lib.hid hW3
      have X4 := Lib.hid hW4
      have K1 := Lib.hid k1
      have K3 := Lib.hid k3
      have K5 := Lib.hid k5
      have H2 := Lib.hid hI2
      have H4 := Lib.hid hI4
      have B24 := Lib.hid b24
      have Z2 := Lib.hid z2
      have HE := Lib.hid hE
      have HA := Lib.hid hA
      have HL := Lib.hid he
      have HI := Lib.hid hI
      clear hW1 hW2 hW3 hW4 k1 k2 k3 k4 k5 hI2 hI4 b24 z2 hE he hI hc0 kx hx hkl hA
      cases hod : okOp d with
      | false =>
        have hno : d < 0 ∨ d > 17 ∨ d = 8 ∨ d = 9 := by
          unfold okOp at hod
          simp only [Bool.or_eq_false_iff, Bool.and_eq_false_iff, decide_eq_false_iff_not] at hod
          omega
        clear t0 t1 t2 u0 u1 uf hbz hgl q64 m1 m2 X3 X4 K3 K5 B24 Z2 H4 HE HA HL
        rcases hno with h1 | h1 | rfl | rfl
        · as_aux_lemma =>
          go_wp2_with (first
          | (refine wpList_allocTo rfl (some 10) rfl (.pointer (some ⟨wr.heap.size, 0, none⟩)) (.cells (op3 0 0 ⟨#[]⟩) 80) (by as_aux_lemma => kernel_rfl) ?_; rw [X1.out])
          | (refine wpList_store_row rfl 80 _ _ rfl wr.heap.size (op3 d y s) rfl rfl 80 (op3 0 0 ⟨#[]⟩) K1.out (opinfoS _ _ _) rfl (oone _ _ _) ?_; rw [X2.out]))
          exact bodyPost_ret (results_4t Tryz.results45 _ _) rfl ⟨.inl rfl, H2.out.bel⟩
        · as_aux_lemma =>
          have h0 : 0 ≤ d := by omega
          have h2 : ¬ (d < 0) := by omega
          have h3 : 17 < d := h1
          go_wp2_with (first
          | (refine wpList_allocTo rfl (some 10) rfl (.pointer (some ⟨wr.heap.size, 0, none⟩)) (.cells (op3 0 0 ⟨#[]⟩) 80) (by as_aux_lemma => kernel_rfl) ?_; rw [X1.out])
          | (refine wpList_store_row rfl 80 _ _ rfl wr.heap.size (op3 d y s) rfl rfl 80 (op3 0 0 ⟨#[]⟩) K1.out (opinfoS _ _ _) rfl (oone _ _ _) ?_; rw [X2.out]))
          exact bodyPost_ret (results_4t Tryz.results45 _ _) rfl ⟨.inl rfl, H2.out.bel⟩
        · as_aux_lemma =>
          go_wp2_with (first
          | (refine wpList_allocTo rfl (some 10) rfl (.pointer (some ⟨wr.heap.size, 0, none⟩)) (.cells (op3 0 0 ⟨#[]⟩) 80) (by as_aux_lemma => kernel_rfl) ?_; rw [X1.out])
          | (refine wpList_store_row rfl 80 _ _ rfl wr.heap.size (op3 8 y s) rfl rfl 80 (op3 0 0 ⟨#[]⟩) K1.out (opinfoS _ _ _) rfl (oone _ _ _) ?_; rw [X2.out]))
          exact bodyPost_ret (results_4t Tryz.results45 _ _) rfl ⟨.inl rfl, H2.out.bel⟩
        · as_aux_lemma =>
          go_wp2_with (first
          | (refine wpList_allocTo rfl (some 10) rfl (.pointer (some ⟨wr.heap.size, 0, none⟩)) (.cells (op3 0 0 ⟨#[]⟩) 80) (by as_aux_lemma => kernel_rfl) ?_; rw [X1.out])
          | (refine wpList_store_row rfl 80 _ _ rfl wr.heap.size (op3 9 y s) rfl rfl 80 (op3 0 0 ⟨#[]⟩) K1.out (opinfoS _ _ _) rfl (oone _ _ _) ?_; rw [X2.out]))
          exact bodyPost_ret (results_4t Tryz.results45 _ _) rfl ⟨.inl rfl, H2.out.bel⟩
      | true =>
        have OK := Lib.hid hod
        have d0 : 0 ≤ d := by rcases okOp_cases hod with h | h | h | h | h | h | h | h | h <;> omega
        have n1 : ¬ (d < 0) := by omega
        have n2 : ¬ (17 < d) := by rcases okOp_cases hod with h | h | h | h | h | h | h | h | h <;> omega
        have n3 : ¬ (7 < d % 10) := by rcases okOp_cases hod with h | h | h | h | h | h | h | h | h <;> omega
        have T0 := Lib.hid t0
        have T1 := Lib.hid t1
        have T2 := Lib.hid t2
        have U0 := Lib.hid u0
        have U1 := Lib.hid u1
        have UF := Lib.hid uf
        have BZ := Lib.hid hbz
        have GL := Lib.hid hgl
        have Q64 := Lib.hid q64
        have M1 := Lib.hid m1
        have M2 := Lib.hid m2
        clear hod t0 t1 t2 u0 u1 uf hbz hgl q64 m1 m2
        go_upto_region 10 with (first
          | (refine wpList_allocTo rfl (some 10) rfl (.pointer (some ⟨wr.heap.size, 0, none⟩)) (.cells (op3 0 0 ⟨#[]⟩) 80) (by as_aux_lemma => kernel_rfl) ?_; rw [X1.out])
          | (refine wpList_store_row rfl 80 _ _ rfl wr.heap.size (op3 d y s) rfl rfl 80 (op3 0 0 ⟨#[]⟩) K1.out (opinfoS _ _ _) rfl (oone _ _ _) ?_; rw [X2.out])
          | refine wpList_buildTo rfl 80 _ rfl (some 39) rfl (op3 d 0 ⟨#[]⟩) (by as_aux_lemma => kernel_rfl) ?_
          | (refine wpList_allocTo rfl (some 12) rfl (.pointer (some ⟨wr.heap.size + 1, 0, none⟩)) (.cells (op3 0 0 ⟨#[]⟩) 80) (by rw [← Z2.out]; as_aux_lemma => kernel_rfl) ?_; rw [X3.out])
          | (refine wpList_store_row rfl 80 _ _ rfl (wr.heap.size + 1) (op3 d 0 ⟨#[]⟩) rfl rfl 80 (op3 0 0 ⟨#[]⟩) K3.out (opinfoS _ _ _) rfl (oone _ _ _) ?_; rw [X4.out]))
        have t0 := T0.out
        have t1 := T1.out
        have t2 := T2.out
        have u0 := U0.out
        have u1 := U1.out
        have uf := UF.out
        have hbz := BZ.out
        have hgl := GL.out
        have q64 := Q64.out
        have m1 := M1.out
        have m2 := M2.out
        clear T0 T1 T2 U0 U1 UF BZ GL Q64 M1 M2 e1 e2 e3 q0 X1 X2 X3 X4 K1 K3 n1 n2 n3
        rcases okOp_cases OK.out with rfl | rfl | rfl | rfl | rfl | rfl | rfl | rfl | hd
        · as_aux_lemma =>
          have tm : Int.tmod 0 10 = 0 := rfl
          have hsz : ¬ (9223372036854775807 < b.size + (bs (b1 y)).size) := by rw [bs_size]; simp only [b1, List.length_cons, List.length_nil]; omega
          go_upto_region 15 with fail
          have hB := H4.out.drew
          go_region_law (rw [if_pos (by rfl)]; go_wp2_with (first
            | (go_at_call 92; refine (width0 _).mono ?_; rintro e w' ⟨rfl, rfl⟩)
            | (go_at_call 64; refine (specN1 y _).mono ?_; rintro e w' ⟨rfl, hb⟩; have h5 := SB.old (by assumption) hb; have hc : w'.cell? ⟨w.heap.size, 0, none⟩ = some (.string b) := (cell_of_blk h5.rd 0).trans rfl; have hfz := frozen_of_blk h5.rd 0; have F := Lib.hid (SBL.step HL.out HE.out HA.out OK.out (SB.put (by assumption) hb (b1 y)) (by simp only [b1, List.length_cons, List.length_nil]; omega) (by rfl) (by omega)))))
          all_goals
            clear hB h5 hb
            go_wp2_with fail
            go_roundw
            case rel => exact ⟨k + 1, by omega, by go_num, F⟩
            case measure => simp [intOf]; omega
        · as_aux_lemma =>
          have tm : Int.tmod 1 10 = 1 := rfl
          have hsz : ¬ (9223372036854775807 < b.size + (bs (be16 y)).size) := by rw [bs_size]; simp only [be16, List.length_cons, List.length_nil]; omega
          go_upto_region 15 with fail
          have hB := H4.out.drew
          go_region_law (rw [if_pos (by rfl)]; go_wp2_with (first
            | (go_at_call 92; refine (width1 _).mono ?_; rintro e w' ⟨rfl, rfl⟩)
            | (go_at_call 64; refine (specN2 y _).mono ?_; rintro e w' ⟨rfl, hb⟩; have h5 := SB.old (by assumption) hb; have hc : w'.cell? ⟨w.heap.size, 0, none⟩ = some (.string b) := (cell_of_blk h5.rd 0).trans rfl; have hfz := frozen_of_blk h5.rd 0; have F := Lib.hid (SBL.step HL.out HE.out HA.out OK.out (SB.put (by assumption) hb (be16 y)) (by simp only [be16, List.length_cons, List.length_nil]; omega) (by rfl) (by omega)))))
          all_goals
            clear hB h5 hb
            go_wp2_with fail
            go_roundw
            case rel => exact ⟨k + 1, by omega, by go_num, F⟩
            case measure => simp [intOf]; omega
        · as_aux_lemma =>
          have tm : Int.tmod 2 10 = 2 := rfl
          have hsz : ¬ (9223372036854775807 < b.size + (bs (be32 y)).size) := by rw [bs_size]; simp only [be32, List.length_cons, List.length_nil]; omega
          go_upto_region 15 with fail
          have hB := H4.out.drew
          go_region_law (rw [if_pos (by rfl)]; go_wp2_with (first
            | (go_at_call 92; refine (width2 _).mono ?_; rintro e w' ⟨rfl, rfl⟩)
            | (go_at_call 64; refine (specN4 y _).mono ?_; rintro e w' ⟨rfl, hb⟩; have h5 := SB.old (by assumption) hb; have hc : w'.cell? ⟨w.heap.size, 0, none⟩ = some (.string b) := (cell_of_blk h5.rd 0).trans rfl; have hfz := frozen_of_blk h5.rd 0; have F := Lib.hid (SBL.step HL.out HE.out HA.out OK.out (SB.put (by assumption) hb (be32 y)) (by simp only [be32, List.length_cons, List.length_nil]; omega) (by rfl) (by omega)))))
          all_goals
            clear hB h5 hb
            go_wp2_with fail
            go_roundw
            case rel => exact ⟨k + 1, by omega, by go_num, F⟩
            case measure => simp [intOf]; omega
        · as_aux_lemma =>
          have tm : Int.tmod 3 10 = 3 := rfl
          have hsz : ¬ (9223372036854775807 < b.size + (bs (be64 y)).size) := by rw [bs_size]; simp only [be64, be32, List.length_append, List.length_cons, List.length_nil]; omega
          go_upto_region 15 with fail
          have hB := H4.out.drew
          go_region_law (rw [if_pos (by rfl)]; go_wp2_with (first
            | (go_at_call 92; refine (width3 _).mono ?_; rintro e w' ⟨rfl, rfl⟩)
            | (go_at_call 64; refine (specN8 y _).mono ?_; rintro e w' ⟨rfl, hb⟩; have h5 := SB.old (by assumption) hb; have hc : w'.cell? ⟨w.heap.size, 0, none⟩ = some (.string b) := (cell_of_blk h5.rd 0).trans rfl; have hfz := frozen_of_blk h5.rd 0; have F := Lib.hid (SBL.step HL.out HE.out HA.out OK.out (SB.put (by assumption) hb (be64 y)) (by simp only [be64, be32, List.length_append, List.length_cons, List.length_nil]; omega) (by rfl) (by omega)))))
          all_goals
            clear hB h5 hb
            go_wp2_with fail
            go_roundw
            case rel => exact ⟨k + 1, by omega, by go_num, F⟩
            case measure => simp [intOf]; omega
        · as_aux_lemma =>
          have tm : Int.tmod 4 10 = 4 := rfl
          have hsz : ¬ (9223372036854775807 < b.size + (bs (be64 y)).size) := by rw [bs_size]; simp only [be64, be32, List.length_append, List.length_cons, List.length_nil]; omega
          go_upto_region 15 with fail
          have hB := H4.out.drew
          go_region_law (rw [if_pos (by rfl)]; go_wp2_with (first
            | (go_at_call 92; refine (width4 _).mono ?_; rintro e w' ⟨rfl, rfl⟩)
            | (go_at_call 64; refine (specN8 y _).mono ?_; rintro e w' ⟨rfl, hb⟩; have h5 := SB.old (by assumption) hb; have hc : w'.cell? ⟨w.heap.size, 0, none⟩ = some (.string b) := (cell_of_blk h5.rd 0).trans rfl; have hfz := frozen_of_blk h5.rd 0; have F := Lib.hid (SBL.step HL.out HE.out HA.out OK.out (SB.put (by assumption) hb (be64 y)) (by simp only [be64, be32, List.length_append, List.length_cons, List.length_nil]; omega) (by rfl) (by omega)))))
          all_goals
            clear hB h5 hb
            go_wp2_with fail
            go_roundw
            case rel => exact ⟨k + 1, by omega, by go_num, F⟩
            case measure => simp [intOf]; omega
        · as_aux_lemma =>
          have tm : Int.emod 5 10 = 5 := rfl
          by_cases hy : y = 0
          · subst hy
            have hsz : ¬ (9223372036854775807 < b.size + (bs (b1 0)).size) := by rw [bs_size]; simp only [b1, List.length_cons, List.length_nil]; omega
            go_upto_region 15 with fail
            have hB := H4.out.drew
            go_region_law (rw [if_pos (by rfl)]; go_wp2_with (first
              | (go_at_call 92; refine (width5 _).mono ?_; rintro e w' ⟨rfl, rfl⟩)
              | (go_at_call 64; refine (specN1 0 _).mono ?_; rintro e w' ⟨rfl, hb⟩; have h5 := SB.old (by assumption) hb; have hc : w'.cell? ⟨w.heap.size, 0, none⟩ = some (.string b) := (cell_of_blk h5.rd 0).trans rfl; have hfz := frozen_of_blk h5.rd 0; have F := Lib.hid (SBL.step HL.out HE.out HA.out OK.out (SB.put (by assumption) hb (b1 0)) (by simp only [b1, List.length_cons, List.length_nil]; omega) (by rfl) (by omega)))))
            all_goals
              clear hB h5 hb
              go_wp2_with fail
              go_roundw
              case rel => exact ⟨k + 1, by omega, by go_num, F⟩
              case measure => simp [intOf]; omega
          · have hy2 : (y != 0) = true := by simpa using hy
            have hsz : ¬ (9223372036854775807 < b.size + (⟨#[1]⟩ : ByteArray).size) := by show ¬ (9223372036854775807 < b.size + 1); omega
            have F := Lib.hid (SBL.step HL.out HE.out HA.out OK.out (SB.put H4.out (Below.refl _ _) (b1 1)) (by simp only [b1, List.length_cons, List.length_nil]; omega) (by simp [bstep, putB, hy]) (by omega))
            have hbs : bs (b1 1) = ⟨#[1]⟩ := rfl
            rw [hbs] at F
            clear hbs
            go_wp2_with fail
            go_roundw
            case rel => exact ⟨k + 1, by omega, by go_num, F⟩
            case measure => simp [intOf]; omega
        · as_aux_lemma =>
          have hsz : ¬ (9223372036854775807 < b.size + (bs (str (tl s))).size) := by rw [bs_size, str_len, tl_length]; omega
          have CS := Lib.hid (fun w => specStr s w (by omega))
          go_upto_region 11 with fail
          have hB := H4.out.drew
          go_region_law (rw [if_pos (by rfl)]; go_wp2_with (go_at_call 66; refine (CS.out _).mono ?_; rintro e w' ⟨rfl, hb⟩; have h5 := SB.old (by assumption) hb; have hc : w'.cell? ⟨w.heap.size, 0, none⟩ = some (.string b) := (cell_of_blk h5.rd 0).trans rfl; have hfz := frozen_of_blk h5.rd 0; have F := Lib.hid (SBL.step HL.out HE.out HA.out OK.out (SB.put (by assumption) hb (str (tl s))) (by rw [str_len, tl_length]; omega) (by rfl) (by omega))))
          all_goals
            clear hB h5 hb
            go_wp2_with fail
            go_roundw
            case rel => exact ⟨k + 1, by omega, by go_num, F⟩
            case measure => simp [intOf]; omega
        · as_aux_lemma =>
          have tm : Int.tmod 7 10 = 7 := rfl
          have hsz : ¬ (9223372036854775807 < b.size + (bs (be32 y)).size) := by rw [bs_size]; simp only [be32, List.length_cons, List.length_nil]; omega
          go_upto_region 15 with fail
          have hB := H4.out.drew
          go_region_law (rw [if_pos (by rfl)]; go_wp2_with (first
            | (go_at_call 92; refine (width7 _).mono ?_; rintro e w' ⟨rfl, rfl⟩)
            | (go_at_call 64; refine (specN4 y _).mono ?_; rintro e w' ⟨rfl, hb⟩; have h5 := SB.old (by assumption) hb; have hc : w'.cell? ⟨w.heap.size, 0, none⟩ = some (.string b) := (cell_of_blk h5.rd 0).trans rfl; have hfz := frozen_of_blk h5.rd 0; have F := Lib.hid (SBL.step HL.out HE.out HA.out OK.out (SB.put (by assumption) hb (be32 y)) (by simp only [be32, List.length_cons, List.length_nil]; omega) (by rfl) (by omega)))))
          all_goals
            clear hB h5 hb
            go_wp2_with fail
            go_roundw
            case rel => exact ⟨k + 1, by omega, by go_num, F⟩
            case measure => simp [intOf]; omega
        · cases r with
          | none =>
            have F := Lib.hid (SBL.step HL.out HE.out HA.out OK.out H4.out (by omega) (by rw [bstep_none]) (by omega))
            obtain rfl | rfl | rfl | rfl | rfl | rfl | rfl | rfl : d = 10 ∨ d = 11 ∨ d = 12 ∨ d = 13 ∨ d = 14 ∨ d = 15 ∨ d = 16 ∨ d = 17 := by omega
            all_goals
              go_wp2_with fail
              go_roundw
              case rel => exact ⟨k + 1, by omega, by go_num, F⟩
              case measure => simp [intOf]; omega
          | some lr =>
            have RD := Lib.hid H4.out.rdc
            have SM := Lib.hid (H4.out.small (by omega))
            have LE := Lib.hid (show ∀ m, some lr = some m → m.length ≤ 400 + 200 * k from fun m hm => by have h := H4.out.len; obtain rfl := Option.some.inj hm; exact h)
            obtain rfl | rfl | rfl | rfl | rfl | rfl | rfl | rfl : d = 10 ∨ d = 11 ∨ d = 12 ∨ d = 13 ∨ d = 14 ∨ d = 15 ∨ d = 16 ∨ d = 17 := by omega
            · as_aux_lemma =>
              have CN := Lib.hid (num1C w.heap.size (some lr) false W4 RD.out SM.out)
              have EB : bstep 10 y s (some lr, vals.map opS) = ((c8 (some lr)).2, if (c8 (some lr)).2.isSome then vals.map opS ++ [(10, (c8 (some lr)).1, ⟨#[]⟩)] else vals.map opS) := rfl
              have LE2 := Lib.hid (c8_le LE.out)
              have EB := Lib.hid EB
              generalize (c8 (some lr)).1 = x1 at *
              generalize (c8 (some lr)).2 = r1 at *
              go_wp2_with (first
                | (go_at_call 92; refine (width0 _).mono ?_; rintro e w' ⟨rfl, rfl⟩)
                | fail)
              refine CN.out.mono ?_
              rintro e w3 ⟨rfl, hd3, hu3⟩
              have hne : wr.heap.size + 1 ≠ w.heap.size := by have := HI.out.bel.size; omega
              have k6 : w3.heap[wr.heap.size + 1]? = some (.cells (op3 10 0 ⟨#[]⟩) 80 (0, 0)) := (hu3.block _ (lt_of_blk K5.out) hne).trans K5.out
              have hws := (H2.out.bel.size)
              have cq : w3.cell? ⟨wr.heap.size + 1, 1, none⟩ = some (.int .u64 0) := by rw [cell_of_blk k6]; rfl
              have fq := frozen_of_blk k6 1
              obtain ⟨W5, hW5⟩ : ∃ W, w3.setCell ⟨wr.heap.size + 1, 1, none⟩ (.int .u64 x1) = W := ⟨_, rfl⟩
              have k7 : W5.heap[wr.heap.size + 1]? = some (.cells (op3 10 x1 ⟨#[]⟩) 80 (0, 0)) := by rw [← hW5]; exact (setCell_blk (i := 1) k6 _).trans rfl
              have hu7 : UpdB (fun k => k = w.heap.size) W2 W5 := by rw [← hW5]; exact updB_new ((updB_below B24.out).trans hu3) (by have := Z2.out; show W2.heap.size ≤ wr.heap.size + 1; omega) _
              have hd7 : W5.heap[w.heap.size]? = some (.cells (rdC r1 false) 143 (0, 0)) := by rw [← hW5]; exact (Below.heap_setCell _ _ _ _ (Ne.symm hne)).trans hd3
              obtain ⟨b2, h7⟩ := SB.ate H2.out hd7 hu7 LE2.out
              have g1 : W5.cell? ⟨w.heap.size, 1, none⟩ = some (.bool r1.isNone) := by rw [cell_of_blk h7.rd]; rfl
              have gl7 := h7.lt
              have K7 := Lib.hid k7
              have H7 := Lib.hid h7
              clear k7 hu7 hd7 hd3 hu3 k6 h7
              cases r1 with
              | none =>
                have F := Lib.hid (SBL.step HL.out HE.out HA.out OK.out H7.out (by omega) (by rw [EB.out]; rfl) (by omega))
                go_wp2_with fail
                go_roundw
                case rel => exact ⟨k + 1, by omega, by go_num, F⟩
                case measure => simp [intOf]; omega
              | some mr =>
                go_wp2_with (first
                  | refine wpList_load_row rfl 80 _ rfl (wr.heap.size + 1) rfl 80 (op3 10 x1 ⟨#[]⟩) (0, 0) _ K7.out Tryz.underlying80 rfl (opinfoS _ _ _) ?_
                  | refine wpList_buildSliceTo rfl 77 80 1 _ rfl W5.heap.size rfl (some 117) rfl Tryz.underlying77 (op3 10 x1 ⟨#[]⟩) (by as_aux_lemma => kernel_rfl) ?_
                  | (at_builtin; refine Kd.R_append k80 (w0 := w) w.heap.size rfl (.tmp 115) (.tmp 117) 77 80 (.agg #[.int .i64 0, .int .u64 0, .string ⟨#[]⟩]) 32 rfl Tryz.underlying77 infoP rfl (by decide) (by omega) (.slice A9 n9 c9) vals ⟨10, x1, ⟨#[]⟩⟩ [.int .i64 10, .int .u64 x1, .string ⟨#[]⟩] (fun k => k ≠ w.heap.size) (fun _ => False) rfl (by first | rfl | (go_simp; done)) (k80_mkM _ _ _ _) (fun _ h => h.elim) (fun k hk => by omega) H7.out.row H7.out.bel (by omega) (by omega) ?_; intro v1 w6 hR hbl hgr hat; have F := Lib.hid (SBL.step HL.out HE.out HA.out OK.out (SB.row1 H7.out hR hgr) (by omega) (by rw [EB.out]; simp [opS]) (by simp; omega)); clear hR hbl hgr hat))
                go_roundw
                case rel => exact ⟨k + 1, by omega, by go_num, F⟩
                case measure => simp [intOf]; omega
            · as_aux_lemma =>
              have CN := Lib.hid (num2C w.heap.size (some lr) false W4 RD.out SM.out)
              have EB : bstep 11 y s (some lr, vals.map opS) = ((c16 (some lr)).2, if (c16 (some lr)).2.isSome then vals.map opS ++ [(11, (c16 (some lr)).1, ⟨#[]⟩)] else vals.map opS) := rfl
              have LE2 := Lib.hid (c16_le LE.out)
              have EB := Lib.hid EB
              generalize (c16 (some lr)).1 = x1 at *
              generalize (c16 (some lr)).2 = r1 at *
              go_wp2_with (first
                | (go_at_call 92; refine (width1 _).mono ?_; rintro e w' ⟨rfl, rfl⟩)
                | fail)
              refine CN.out.mono ?_
              rintro e w3 ⟨rfl, hd3, hu3⟩
              have hne : wr.heap.size + 1 ≠ w.heap.size := by have := HI.out.bel.size; omega
              have k6 : w3.heap[wr.heap.size + 1]? = some (.cells (op3 11 0 ⟨#[]⟩) 80 (0, 0)) := (hu3.block _ (lt_of_blk K5.out) hne).trans K5.out
              have hws := (H2.out.bel.size)
              have cq : w3.cell? ⟨wr.heap.size + 1, 1, none⟩ = some (.int .u64 0) := by rw [cell_of_blk k6]; rfl
              have fq := frozen_of_blk k6 1
              obtain ⟨W5, hW5⟩ : ∃ W, w3.setCell ⟨wr.heap.size + 1, 1, none⟩ (.int .u64 x1) = W := ⟨_, rfl⟩
              have k7 : W5.heap[wr.heap.size + 1]? = some (.cells (op3 11 x1 ⟨#[]⟩) 80 (0, 0)) := by rw [← hW5]; exact (setCell_blk (i := 1) k6 _).trans rfl
              have hu7 : UpdB (fun k => k = w.heap.size) W2 W5 := by rw [← hW5]; exact updB_new ((updB_below B24.out).trans hu3) (by have := Z2.out; show W2.heap.size ≤ wr.heap.size + 1; omega) _
              have hd7 : W5.heap[w.heap.size]? = some (.cells (rdC r1 false) 143 (0, 0)) := by rw [← hW5]; exact (Below.heap_setCell _ _ _ _ (Ne.symm hne)).trans hd3
              obtain ⟨b2, h7⟩ := SB.ate H2.out hd7 hu7 LE2.out
              have g1 : W5.cell? ⟨w.heap.size, 1, none⟩ = some (.bool r1.isNone) := by rw [cell_of_blk h7.rd]; rfl
              have gl7 := h7.lt
              have K7 := Lib.hid k7
              have H7 := Lib.hid h7
              clear k7 hu7 hd7 hd3 hu3 k6 h7
              cases r1 with
              | none =>
                have F := Lib.hid (SBL.step HL.out HE.out HA.out OK.out H7.out (by omega) (by rw [EB.out]; rfl) (by omega))
                go_wp2_with fail
                go_roundw
                case rel => exact ⟨k + 1, by omega, by go_num, F⟩
                case measure => simp [intOf]; omega
              | some mr =>
                go_wp2_with (first
                  | refine wpList_load_row rfl 80 _ rfl (wr.heap.size + 1) rfl 80 (op3 11 x1 ⟨#[]⟩) (0, 0) _ K7.out Tryz.underlying80 rfl (opinfoS _ _ _) ?_
                  | refine wpList_buildSliceTo rfl 77 80 1 _ rfl W5.heap.size rfl (some 117) rfl Tryz.underlying77 (op3 11 x1 ⟨#[]⟩) (by as_aux_lemma => kernel_rfl) ?_
                  | (at_builtin; refine Kd.R_append k80 (w0 := w) w.heap.size rfl (.tmp 115) (.tmp 117) 77 80 (.agg #[.int .i64 0, .int .u64 0, .string ⟨#[]⟩]) 32 rfl Tryz.underlying77 infoP rfl (by decide) (by omega) (.slice A9 n9 c9) vals ⟨11, x1, ⟨#[]⟩⟩ [.int .i64 11, .int .u64 x1, .string ⟨#[]⟩] (fun k => k ≠ w.heap.size) (fun _ => False) rfl (by first | rfl | (go_simp; done)) (k80_mkM _ _ _ _) (fun _ h => h.elim) (fun k hk => by omega) H7.out.row H7.out.bel (by omega) (by omega) ?_; intro v1 w6 hR hbl hgr hat; have F := Lib.hid (SBL.step HL.out HE.out HA.out OK.out (SB.row1 H7.out hR hgr) (by omega) (by rw [EB.out]; simp [opS]) (by simp; omega)); clear hR hbl hgr hat))
                go_roundw
                case rel => exact ⟨k + 1, by omega, by go_num, F⟩
                case measure => simp [intOf]; omega
            · as_aux_lemma =>
              have CN := Lib.hid (num4C w.heap.size (some lr) false W4 RD.out SM.out)
              have EB : bstep 12 y s (some lr, vals.map opS) = ((c32 (some lr)).2, if (c32 (some lr)).2.isSome then vals.map opS ++ [(12, (c32 (some lr)).1, ⟨#[]⟩)] else vals.map opS) := rfl
              have LE2 := Lib.hid (c32_le LE.out)
              have EB := Lib.hid EB
              generalize (c32 (some lr)).1 = x1 at *
              generalize (c32 (some lr)).2 = r1 at *
              go_wp2_with (first
                | (go_at_call 92; refine (width2 _).mono ?_; rintro e w' ⟨rfl, rfl⟩)
                | fail)
              refine CN.out.mono ?_
              rintro e w3 ⟨rfl, hd3, hu3⟩
              have hne : wr.heap.size + 1 ≠ w.heap.size := by have := HI.out.bel.size; omega
              have k6 : w3.heap[wr.heap.size + 1]? = some (.cells (op3 12 0 ⟨#[]⟩) 80 (0, 0)) := (hu3.block _ (lt_of_blk K5.out) hne).trans K5.out
              have hws := (H2.out.bel.size)
              have cq : w3.cell? ⟨wr.heap.size + 1, 1, none⟩ = some (.int .u64 0) := by rw [cell_of_blk k6]; rfl
              have fq := frozen_of_blk k6 1
              obtain ⟨W5, hW5⟩ : ∃ W, w3.setCell ⟨wr.heap.size + 1, 1, none⟩ (.int .u64 x1) = W := ⟨_, rfl⟩
              have k7 : W5.heap[wr.heap.size + 1]? = some (.cells (op3 12 x1 ⟨#[]⟩) 80 (0, 0)) := by rw [← hW5]; exact (setCell_blk (i := 1) k6 _).trans rfl
              have hu7 : UpdB (fun k => k = w.heap.size) W2 W5 := by rw [← hW5]; exact updB_new ((updB_below B24.out).trans hu3) (by have := Z2.out; show W2.heap.size ≤ wr.heap.size + 1; omega) _
              have hd7 : W5.heap[w.heap.size]? = some (.cells (rdC r1 false) 143 (0, 0)) := by rw [← hW5]; exact (Below.heap_setCell _ _ _ _ (Ne.symm hne)).trans hd3
              obtain ⟨b2, h7⟩ := SB.ate H2.out hd7 hu7 LE2.out
              have g1 : W5.cell? ⟨w.heap.size, 1, none⟩ = some (.bool r1.isNone) := by rw [cell_of_blk h7.rd]; rfl
              have gl7 := h7.lt
              have K7 := Lib.hid k7
              have H7 := Lib.hid h7
              clear k7 hu7 hd7 hd3 hu3 k6 h7
              cases r1 with
              | none =>
                have F := Lib.hid (SBL.step HL.out HE.out HA.out OK.out H7.out (by omega) (by rw [EB.out]; rfl) (by omega))
                go_wp2_with fail
                go_roundw
                case rel => exact ⟨k + 1, by omega, by go_num, F⟩
                case measure => simp [intOf]; omega
              | some mr =>
                go_wp2_with (first
                  | refine wpList_load_row rfl 80 _ rfl (wr.heap.size + 1) rfl 80 (op3 12 x1 ⟨#[]⟩) (0, 0) _ K7.out Tryz.underlying80 rfl (opinfoS _ _ _) ?_
                  | refine wpList_buildSliceTo rfl 77 80 1 _ rfl W5.heap.size rfl (some 117) rfl Tryz.underlying77 (op3 12 x1 ⟨#[]⟩) (by as_aux_lemma => kernel_rfl) ?_
                  | (at_builtin; refine Kd.R_append k80 (w0 := w) w.heap.size rfl (.tmp 115) (.tmp 117) 77 80 (.agg #[.int .i64 0, .int .u64 0, .string ⟨#[]⟩]) 32 rfl Tryz.underlying77 infoP rfl (by decide) (by omega) (.slice A9 n9 c9) vals ⟨12, x1, ⟨#[]⟩⟩ [.int .i64 12, .int .u64 x1, .string ⟨#[]⟩] (fun k => k ≠ w.heap.size) (fun _ => False) rfl (by first | rfl | (go_simp; done)) (k80_mkM _ _ _ _) (fun _ h => h.elim) (fun k hk => by omega) H7.out.row H7.out.bel (by omega) (by omega) ?_; intro v1 w6 hR hbl hgr hat; have F := Lib.hid (SBL.step HL.out HE.out HA.out OK.out (SB.row1 H7.out hR hgr) (by omega) (by rw [EB.out]; simp [opS]) (by simp; omega)); clear hR hbl hgr hat))
                go_roundw
                case rel => exact ⟨k + 1, by omega, by go_num, F⟩
                case measure => simp [intOf]; omega
            · as_aux_lemma =>
              have CN := Lib.hid (num8C w.heap.size (some lr) false W4 RD.out SM.out)
              have EB : bstep 13 y s (some lr, vals.map opS) = ((c64 (some lr)).2, if (c64 (some lr)).2.isSome then vals.map opS ++ [(13, (c64 (some lr)).1, ⟨#[]⟩)] else vals.map opS) := rfl
              have LE2 := Lib.hid (c64_le LE.out)
              have EB := Lib.hid EB
              generalize (c64 (some lr)).1 = x1 at *
              generalize (c64 (some lr)).2 = r1 at *
              go_wp2_with (first
                | (go_at_call 92; refine (width3 _).mono ?_; rintro e w' ⟨rfl, rfl⟩)
                | fail)
              refine CN.out.mono ?_
              rintro e w3 ⟨rfl, hd3, hu3⟩
              have hne : wr.heap.size + 1 ≠ w.heap.size := by have := HI.out.bel.size; omega
              have k6 : w3.heap[wr.heap.size + 1]? = some (.cells (op3 13 0 ⟨#[]⟩) 80 (0, 0)) := (hu3.block _ (lt_of_blk K5.out) hne).trans K5.out
              have hws := (H2.out.bel.size)
              have cq : w3.cell? ⟨wr.heap.size + 1, 1, none⟩ = some (.int .u64 0) := by rw [cell_of_blk k6]; rfl
              have fq := frozen_of_blk k6 1
              obtain ⟨W5, hW5⟩ : ∃ W, w3.setCell ⟨wr.heap.size + 1, 1, none⟩ (.int .u64 x1) = W := ⟨_, rfl⟩
              have k7 : W5.heap[wr.heap.size + 1]? = some (.cells (op3 13 x1 ⟨#[]⟩) 80 (0, 0)) := by rw [← hW5]; exact (setCell_blk (i := 1) k6 _).trans rfl
              have hu7 : UpdB (fun k => k = w.heap.size) W2 W5 := by rw [← hW5]; exact updB_new ((updB_below B24.out).trans hu3) (by have := Z2.out; show W2.heap.size ≤ wr.heap.size + 1; omega) _
              have hd7 : W5.heap[w.heap.size]? = some (.cells (rdC r1 false) 143 (0, 0)) := by rw [← hW5]; exact (Below.heap_setCell _ _ _ _ (Ne.symm hne)).trans hd3
              obtain ⟨b2, h7⟩ := SB.ate H2.out hd7 hu7 LE2.out
              have g1 : W5.cell? ⟨w.heap.size, 1, none⟩ = some (.bool r1.isNone) := by rw [cell_of_blk h7.rd]; rfl
              have gl7 := h7.lt
              have K7 := Lib.hid k7
              have H7 := Lib.hid h7
              clear k7 hu7 hd7 hd3 hu3 k6 h7
              cases r1 with
              | none =>
                have F := Lib.hid (SBL.step HL.out HE.out HA.out OK.out H7.out (by omega) (by rw [EB.out]; rfl) (by omega))
                go_wp2_with fail
                go_roundw
                case rel => exact ⟨k + 1, by omega, by go_num, F⟩
                case measure => simp [intOf]; omega
              | some mr =>
                go_wp2_with (first
                  | refine wpList_load_row rfl 80 _ rfl (wr.heap.size + 1) rfl 80 (op3 13 x1 ⟨#[]⟩) (0, 0) _ K7.out Tryz.underlying80 rfl (opinfoS _ _ _) ?_
                  | refine wpList_buildSliceTo rfl 77 80 1 _ rfl W5.heap.size rfl (some 117) rfl Tryz.underlying77 (op3 13 x1 ⟨#[]⟩) (by as_aux_lemma => kernel_rfl) ?_
                  | (at_builtin; refine Kd.R_append k80 (w0 := w) w.heap.size rfl (.tmp 115) (.tmp 117) 77 80 (.agg #[.int .i64 0, .int .u64 0, .string ⟨#[]⟩]) 32 rfl Tryz.underlying77 infoP rfl (by decide) (by omega) (.slice A9 n9 c9) vals ⟨13, x1, ⟨#[]⟩⟩ [.int .i64 13, .int .u64 x1, .string ⟨#[]⟩] (fun k => k ≠ w.heap.size) (fun _ => False) rfl (by first | rfl | (go_simp; done)) (k80_mkM _ _ _ _) (fun _ h => h.elim) (fun k hk => by omega) H7.out.row H7.out.bel (by omega) (by omega) ?_; intro v1 w6 hR hbl hgr hat; have F := Lib.hid (SBL.step HL.out HE.out HA.out OK.out (SB.row1 H7.out hR hgr) (by omega) (by rw [EB.out]; simp [opS]) (by simp; omega)); clear hR hbl hgr hat))
                go_roundw
                case rel => exact ⟨k + 1, by omega, by go_num, F⟩
                case measure => simp [intOf]; omega
            · as_aux_lemma =>
              have CN := Lib.hid (num8C w.heap.size (some lr) false W4 RD.out SM.out)
              have EB : bstep 14 y s (some lr, vals.map opS) = ((c64 (some lr)).2, if (c64 (some lr)).2.isSome then vals.map opS ++ [(14, (c64 (some lr)).1, ⟨#[]⟩)] else vals.map opS) := rfl
              have LE2 := Lib.hid (c64_le LE.out)
              have EB := Lib.hid EB
              generalize (c64 (some lr)).1 = x1 at *
              generalize (c64 (some lr)).2 = r1 at *
              go_wp2_with (first
                | (go_at_call 92; refine (width4 _).mono ?_; rintro e w' ⟨rfl, rfl⟩)
                | fail)
              refine CN.out.mono ?_
              rintro e w3 ⟨rfl, hd3, hu3⟩
              have hne : wr.heap.size + 1 ≠ w.heap.size := by have := HI.out.bel.size; omega
              have k6 : w3.heap[wr.heap.size + 1]? = some (.cells (op3 14 0 ⟨#[]⟩) 80 (0, 0)) := (hu3.block _ (lt_of_blk K5.out) hne).trans K5.out
              have hws := (H2.out.bel.size)
              have cq : w3.cell? ⟨wr.heap.size + 1, 1, none⟩ = some (.int .u64 0) := by rw [cell_of_blk k6]; rfl
              have fq := frozen_of_blk k6 1
              obtain ⟨W5, hW5⟩ : ∃ W, w3.setCell ⟨wr.heap.size + 1, 1, none⟩ (.int .u64 x1) = W := ⟨_, rfl⟩
              have k7 : W5.heap[wr.heap.size + 1]? = some (.cells (op3 14 x1 ⟨#[]⟩) 80 (0, 0)) := by rw [← hW5]; exact (setCell_blk (i := 1) k6 _).trans rfl
              have hu7 : UpdB (fun k => k = w.heap.size) W2 W5 := by rw [← hW5]; exact updB_new ((updB_below B24.out).trans hu3) (by have := Z2.out; show W2.heap.size ≤ wr.heap.size + 1; omega) _
              have hd7 : W5.heap[w.heap.size]? = some (.cells (rdC r1 false) 143 (0, 0)) := by rw [← hW5]; exact (Below.heap_setCell _ _ _ _ (Ne.symm hne)).trans hd3
              obtain ⟨b2, h7⟩ := SB.ate H2.out hd7 hu7 LE2.out
              have g1 : W5.cell? ⟨w.heap.size, 1, none⟩ = some (.bool r1.isNone) := by rw [cell_of_blk h7.rd]; rfl
              have gl7 := h7.lt
              have K7 := Lib.hid k7
              have H7 := Lib.hid h7
              clear k7 hu7 hd7 hd3 hu3 k6 h7
              cases r1 with
              | none =>
                have F := Lib.hid (SBL.step HL.out HE.out HA.out OK.out H7.out (by omega) (by rw [EB.out]; rfl) (by omega))
                go_wp2_with fail
                go_roundw
                case rel => exact ⟨k + 1, by omega, by go_num, F⟩
                case measure => simp [intOf]; omega
              | some mr =>
                go_wp2_with (first
                  | refine wpList_load_row rfl 80 _ rfl (wr.heap.size + 1) rfl 80 (op3 14 x1 ⟨#[]⟩) (0, 0) _ K7.out Tryz.underlying80 rfl (opinfoS _ _ _) ?_
                  | refine wpList_buildSliceTo rfl 77 80 1 _ rfl W5.heap.size rfl (some 117) rfl Tryz.underlying77 (op3 14 x1 ⟨#[]⟩) (by as_aux_lemma => kernel_rfl) ?_
                  | (at_builtin; refine Kd.R_append k80 (w0 := w) w.heap.size rfl (.tmp 115) (.tmp 117) 77 80 (.agg #[.int .i64 0, .int .u64 0, .string ⟨#[]⟩]) 32 rfl Tryz.underlying77 infoP rfl (by decide) (by omega) (.slice A9 n9 c9) vals ⟨14, x1, ⟨#[]⟩⟩ [.int .i64 14, .int .u64 x1, .string ⟨#[]⟩] (fun k => k ≠ w.heap.size) (fun _ => False) rfl (by first | rfl | (go_simp; done)) (k80_mkM _ _ _ _) (fun _ h => h.elim) (fun k hk => by omega) H7.out.row H7.out.bel (by omega) (by omega) ?_; intro v1 w6 hR hbl hgr hat; have F := Lib.hid (SBL.step HL.out HE.out HA.out OK.out (SB.row1 H7.out hR hgr) (by omega) (by rw [EB.out]; simp [opS]) (by simp; omega)); clear hR hbl hgr hat))
                go_roundw
                case rel => exact ⟨k + 1, by omega, by go_num, F⟩
                case measure => simp [intOf]; omega
            · as_aux_lemma =>
              have CN := Lib.hid (num1C w.heap.size (some lr) false W4 RD.out SM.out)
              have EB : bstep 15 y s (some lr, vals.map opS) = ((c8 (some lr)).2, if (c8 (some lr)).2.isSome then vals.map opS ++ [(15, (if (c8 (some lr)).1 = 0 then 0 else 1), ⟨#[]⟩)] else vals.map opS) := rfl
              have LE2 := Lib.hid (c8_le LE.out)
              have EB := Lib.hid EB
              have hx1 := (c8_range (some lr)).1
              generalize (c8 (some lr)).1 = x1 at *
              generalize (c8 (some lr)).2 = r1 at *
              go_wp2_with (first
                | (go_at_call 92; refine (width5 _).mono ?_; rintro e w' ⟨rfl, rfl⟩)
                | fail)
              refine CN.out.mono ?_
              rintro e w3 ⟨rfl, hd3, hu3⟩
              have hne : wr.heap.size + 1 ≠ w.heap.size := by have := HI.out.bel.size; omega
              have k6 : w3.heap[wr.heap.size + 1]? = some (.cells (op3 15 0 ⟨#[]⟩) 80 (0, 0)) := (hu3.block _ (lt_of_blk K5.out) hne).trans K5.out
              have hws := (H2.out.bel.size)
              have cq : w3.cell? ⟨wr.heap.size + 1, 1, none⟩ = some (.int .u64 0) := by rw [cell_of_blk k6]; rfl
              have fq := frozen_of_blk k6 1
              by_cases hx0 : x1 = 0
              · subst hx0
                obtain ⟨W5, hW5⟩ : ∃ W, w3.setCell ⟨wr.heap.size + 1, 1, none⟩ (.int .u64 0) = W := ⟨_, rfl⟩
                have k7 : W5.heap[wr.heap.size + 1]? = some (.cells (op3 15 0 ⟨#[]⟩) 80 (0, 0)) := by rw [← hW5]; exact (setCell_blk (i := 1) k6 _).trans rfl
                have hu7 : UpdB (fun k => k = w.heap.size) W2 W5 := by rw [← hW5]; exact updB_new ((updB_below B24.out).trans hu3) (by have := Z2.out; show W2.heap.size ≤ wr.heap.size + 1; omega) _
                have hd7 : W5.heap[w.heap.size]? = some (.cells (rdC r1 false) 143 (0, 0)) := by rw [← hW5]; exact (Below.heap_setCell _ _ _ _ (Ne.symm hne)).trans hd3
                obtain ⟨b2, h7⟩ := SB.ate H2.out hd7 hu7 LE2.out
                have g1 : W5.cell? ⟨w.heap.size, 1, none⟩ = some (.bool r1.isNone) := by rw [cell_of_blk h7.rd]; rfl
                have gl7 := h7.lt
                have g2 : W5.cell? ⟨wr.heap.size + 1, 1, none⟩ = some (.int .u64 0) := by rw [cell_of_blk k7]; rfl
                have K7 := Lib.hid k7
                have H7 := Lib.hid h7
                clear k7 hu7 hd7 hd3 hu3 k6 h7
                cases r1 with
                | none =>
                  have F := Lib.hid (SBL.step HL.out HE.out HA.out OK.out H7.out (by omega) (by rw [EB.out]; rfl) (by omega))
                  go_wp2_with fail
                  go_roundw
                  case rel => exact ⟨k + 1, by omega, by go_num, F⟩
                  case measure => simp [intOf]; omega
                | some mr =>
                  go_wp2_with (first
                    | refine wpList_load_row rfl 80 _ rfl (wr.heap.size + 1) rfl 80 (op3 15 0 ⟨#[]⟩) (0, 0) _ K7.out Tryz.underlying80 rfl (opinfoS _ _ _) ?_
                    | refine wpList_buildSliceTo rfl 77 80 1 _ rfl W5.heap.size rfl (some 117) rfl Tryz.underlying77 (op3 15 0 ⟨#[]⟩) (by as_aux_lemma => kernel_rfl) ?_
                    | (at_builtin; refine Kd.R_append k80 (w0 := w) w.heap.size rfl (.tmp 115) (.tmp 117) 77 80 (.agg #[.int .i64 0, .int .u64 0, .string ⟨#[]⟩]) 32 rfl Tryz.underlying77 infoP rfl (by decide) (by omega) (.slice A9 n9 c9) vals ⟨15, 0, ⟨#[]⟩⟩ [.int .i64 15, .int .u64 0, .string ⟨#[]⟩] (fun k => k ≠ w.heap.size) (fun _ => False) rfl (by first | rfl | (go_simp; done)) (k80_mkM _ _ _ _) (fun _ h => h.elim) (fun k hk => by omega) H7.out.row H7.out.bel (by omega) (by omega) ?_; intro v1 w6 hR hbl hgr hat; have F := Lib.hid (SBL.step HL.out HE.out HA.out OK.out (SB.row1 H7.out hR hgr) (by omega) (by rw [EB.out]; simp [opS]) (by simp; omega)); clear hR hbl hgr hat))
                  go_roundw
                  case rel => exact ⟨k + 1, by omega, by go_num, F⟩
                  case measure => simp [intOf]; omega
              · have hx2 : (0 : Int) < x1 := by omega
                obtain ⟨W5, hW5⟩ : ∃ W, (w3.setCell ⟨wr.heap.size + 1, 1, none⟩ (.int .u64 x1)).setCell ⟨wr.heap.size + 1, 1, none⟩ (.int .u64 1) = W := ⟨_, rfl⟩
                have k7 : W5.heap[wr.heap.size + 1]? = some (.cells (op3 15 1 ⟨#[]⟩) 80 (0, 0)) := by rw [← hW5]; exact (setCell_blk (i := 1) (setCell_blk (i := 1) k6 (.int .u64 x1)) _).trans rfl
                have hu7 : UpdB (fun k => k = w.heap.size) W2 W5 := by rw [← hW5]; exact updB_new (updB_new ((updB_below B24.out).trans hu3) (by have := Z2.out; show W2.heap.size ≤ wr.heap.size + 1; omega) _) (by have := Z2.out; show W2.heap.size ≤ wr.heap.size + 1; omega) _
                have hd7 : W5.heap[w.heap.size]? = some (.cells (rdC r1 false) 143 (0, 0)) := by rw [← hW5]; exact (Below.heap_setCell _ _ _ _ (Ne.symm hne)).trans ((Below.heap_setCell _ _ _ _ (Ne.symm hne)).trans hd3)
                obtain ⟨b2, h7⟩ := SB.ate H2.out hd7 hu7 LE2.out
                have g1 : W5.cell? ⟨w.heap.size, 1, none⟩ = some (.bool r1.isNone) := by rw [cell_of_blk h7.rd]; rfl
                have gl7 := h7.lt
                have K7 := Lib.hid k7
                have H7 := Lib.hid h7
                clear k7 hu7 hd7 hd3 hu3 k6 h7
                cases r1 with
                | none =>
                  have F := Lib.hid (SBL.step HL.out HE.out HA.out OK.out H7.out (by omega) (by rw [EB.out]; rfl) (by omega))
                  go_wp2_with fail
                  go_roundw
                  case rel => exact ⟨k + 1, by omega, by go_num, F⟩
                  case measure => simp [intOf]; omega
                | some mr =>
                  go_wp2_with (first
                    | refine wpList_load_row rfl 80 _ rfl (wr.heap.size + 1) rfl 80 (op3 15 1 ⟨#[]⟩) (0, 0) _ K7.out Tryz.underlying80 rfl (opinfoS _ _ _) ?_
                    | refine wpList_buildSliceTo rfl 77 80 1 _ rfl W5.heap.size rfl (some 117) rfl Tryz.underlying77 (op3 15 1 ⟨#[]⟩) (by as_aux_lemma => kernel_rfl) ?_
                    | (at_builtin; refine Kd.R_append k80 (w0 := w) w.heap.size rfl (.tmp 115) (.tmp 117) 77 80 (.agg #[.int .i64 0, .int .u64 0, .string ⟨#[]⟩]) 32 rfl Tryz.underlying77 infoP rfl (by decide) (by omega) (.slice A9 n9 c9) vals ⟨15, 1, ⟨#[]⟩⟩ [.int .i64 15, .int .u64 1, .string ⟨#[]⟩] (fun k => k ≠ w.heap.size) (fun _ => False) rfl (by first | rfl | (go_simp; done)) (k80_mkM _ _ _ _) (fun _ h => h.elim) (fun k hk => by omega) H7.out.row H7.out.bel (by omega) (by omega) ?_; intro v1 w6 hR hbl hgr hat; have F := Lib.hid (SBL.step HL.out HE.out HA.out OK.out (SB.row1 H7.out hR hgr) (by omega) (by rw [EB.out]; rw [if_neg hx0]; simp [opS]) (by simp; omega)); clear hR hbl hgr hat))
                  go_roundw
                  case rel => exact ⟨k + 1, by omega, by go_num, F⟩
                  case measure => simp [intOf]; omega
            · as_aux_lemma =>
              have CN := Lib.hid (textC w.heap.size (some lr) false W4 RD.out SM.out)
              have EB : bstep 16 y s (some lr, vals.map opS) = ((cB (some lr)).2, if (cB (some lr)).2.isSome then vals.map opS ++ [(16, 0, bs (cB (some lr)).1)] else vals.map opS) := rfl
              have LE2 := Lib.hid (cB_le LE.out)
              have EB := Lib.hid EB
              generalize (cB (some lr)).1 = x1 at *
              generalize (cB (some lr)).2 = r1 at *
              go_wp2_with (first
                | (go_at_call 92; refine (width0 _).mono ?_; rintro e w' ⟨rfl, rfl⟩)
                | fail)
              refine CN.out.mono ?_
              rintro e w3 ⟨rfl, hd3, hu3⟩
              have hne : wr.heap.size + 1 ≠ w.heap.size := by have := HI.out.bel.size; omega
              have k6 : w3.heap[wr.heap.size + 1]? = some (.cells (op3 16 0 ⟨#[]⟩) 80 (0, 0)) := (hu3.block _ (lt_of_blk K5.out) hne).trans K5.out
              have hws := (H2.out.bel.size)
              have cq : w3.cell? ⟨wr.heap.size + 1, 2, none⟩ = some (.string ⟨#[]⟩) := by rw [cell_of_blk k6]; rfl
              have fq := frozen_of_blk k6 2
              obtain ⟨W5, hW5⟩ : ∃ W, w3.setCell ⟨wr.heap.size + 1, 2, none⟩ (.string (bs x1)) = W := ⟨_, rfl⟩
              have k7 : W5.heap[wr.heap.size + 1]? = some (.cells (op3 16 0 (bs x1)) 80 (0, 0)) := by rw [← hW5]; exact (setCell_blk (i := 2) k6 _).trans rfl
              have hu7 : UpdB (fun k => k = w.heap.size) W2 W5 := by rw [← hW5]; exact updB_new ((updB_below B24.out).trans hu3) (by have := Z2.out; show W2.heap.size ≤ wr.heap.size + 1; omega) _
              have hd7 : W5.heap[w.heap.size]? = some (.cells (rdC r1 false) 143 (0, 0)) := by rw [← hW5]; exact (Below.heap_setCell _ _ _ _ (Ne.symm hne)).trans hd3
              obtain ⟨b2, h7⟩ := SB.ate H2.out hd7 hu7 LE2.out
              have g1 : W5.cell? ⟨w.heap.size, 1, none⟩ = some (.bool r1.isNone) := by rw [cell_of_blk h7.rd]; rfl
              have gl7 := h7.lt
              have K7 := Lib.hid k7
              have H7 := Lib.hid h7
              clear k7 hu7 hd7 hd3 hu3 k6 h7
              cases r1 with
              | none =>
                have F := Lib.hid (SBL.step HL.out HE.out HA.out OK.out H7.out (by omega) (by rw [EB.out]; rfl) (by omega))
                go_wp2_with fail
                go_roundw
                case rel => exact ⟨k + 1, by omega, by go_num, F⟩
                case measure => simp [intOf]; omega
              | some mr =>
                go_wp2_with (first
                  | refine wpList_load_row rfl 80 _ rfl (wr.heap.size + 1) rfl 80 (op3 16 0 (bs x1)) (0, 0) _ K7.out Tryz.underlying80 rfl (opinfoS _ _ _) ?_
                  | refine wpList_buildSliceTo rfl 77 80 1 _ rfl W5.heap.size rfl (some 117) rfl Tryz.underlying77 (op3 16 0 (bs x1)) (by as_aux_lemma => kernel_rfl) ?_
                  | (at_builtin; refine Kd.R_append k80 (w0 := w) w.heap.size rfl (.tmp 115) (.tmp 117) 77 80 (.agg #[.int .i64 0, .int .u64 0, .string ⟨#[]⟩]) 32 rfl Tryz.underlying77 infoP rfl (by decide) (by omega) (.slice A9 n9 c9) vals ⟨16, 0, bs x1⟩ [.int .i64 16, .int .u64 0, .string (bs x1)] (fun k => k ≠ w.heap.size) (fun _ => False) rfl (by first | rfl | (go_simp; done)) (k80_mkM _ _ _ _) (fun _ h => h.elim) (fun k hk => by omega) H7.out.row H7.out.bel (by omega) (by omega) ?_; intro v1 w6 hR hbl hgr hat; have F := Lib.hid (SBL.step HL.out HE.out HA.out OK.out (SB.row1 H7.out hR hgr) (by omega) (by rw [EB.out]; simp [opS]) (by simp; omega)); clear hR hbl hgr hat))
                go_roundw
                case rel => exact ⟨k + 1, by omega, by go_num, F⟩
                case measure => simp [intOf]; omega
            · as_aux_lemma =>
              have CN := Lib.hid (num4C w.heap.size (some lr) false W4 RD.out SM.out)
              have EB : bstep 17 y s (some lr, vals.map opS) = ((c32 (some lr)).2, if (c32 (some lr)).2.isSome then vals.map opS ++ [(17, (c32 (some lr)).1, ⟨#[]⟩)] else vals.map opS) := rfl
              have LE2 := Lib.hid (c32_le LE.out)
              have EB := Lib.hid EB
              generalize (c32 (some lr)).1 = x1 at *
              generalize (c32 (some lr)).2 = r1 at *
              go_wp2_with (first
                | (go_at_call 92; refine (width7 _).mono ?_; rintro e w' ⟨rfl, rfl⟩)
                | fail)
              refine CN.out.mono ?_
              rintro e w3 ⟨rfl, hd3, hu3⟩
              have hne : wr.heap.size + 1 ≠ w.heap.size := by have := HI.out.bel.size; omega
              have k6 : w3.heap[wr.heap.size + 1]? = some (.cells (op3 17 0 ⟨#[]⟩) 80 (0, 0)) := (hu3.block _ (lt_of_blk K5.out) hne).trans K5.out
              have hws := (H2.out.bel.size)
              have cq : w3.cell? ⟨wr.heap.size + 1, 1, none⟩ = some (.int .u64 0) := by rw [cell_of_blk k6]; rfl
              have fq := frozen_of_blk k6 1
              obtain ⟨W5, hW5⟩ : ∃ W, w3.setCell ⟨wr.heap.size + 1, 1, none⟩ (.int .u64 x1) = W := ⟨_, rfl⟩
              have k7 : W5.heap[wr.heap.size + 1]? = some (.cells (op3 17 x1 ⟨#[]⟩) 80 (0, 0)) := by rw [← hW5]; exact (setCell_blk (i := 1) k6 _).trans rfl
              have hu7 : UpdB (fun k => k = w.heap.size) W2 W5 := by rw [← hW5]; exact updB_new ((updB_below B24.out).trans hu3) (by have := Z2.out; show W2.heap.size ≤ wr.heap.size + 1; omega) _
              have hd7 : W5.heap[w.heap.size]? = some (.cells (rdC r1 false) 143 (0, 0)) := by rw [← hW5]; exact (Below.heap_setCell _ _ _ _ (Ne.symm hne)).trans hd3
              obtain ⟨b2, h7⟩ := SB.ate H2.out hd7 hu7 LE2.out
              have g1 : W5.cell? ⟨w.heap.size, 1, none⟩ = some (.bool r1.isNone) := by rw [cell_of_blk h7.rd]; rfl
              have gl7 := h7.lt
              have K7 := Lib.hid k7
              have H7 := Lib.hid h7
              clear k7 hu7 hd7 hd3 hu3 k6 h7
              cases r1 with
              | none =>
                have F := Lib.hid (SBL.step HL.out HE.out HA.out OK.out H7.out (by omega) (by rw [EB.out]; rfl) (by omega))
                go_wp2_with fail
                go_roundw
                case rel => exact ⟨k + 1, by omega, by go_num, F⟩
                case measure => simp [intOf]; omega
              | some mr =>
                go_wp2_with (first
                  | refine wpList_load_row rfl 80 _ rfl (wr.heap.size + 1) rfl 80 (op3 17 x1 ⟨#[]⟩) (0, 0) _ K7.out Tryz.underlying80 rfl (opinfoS _ _ _) ?_
                  | refine wpList_buildSliceTo rfl 77 80 1 _ rfl W5.heap.size rfl (some 117) rfl Tryz.underlying77 (op3 17 x1 ⟨#[]⟩) (by as_aux_lemma => kernel_rfl) ?_
                  | (at_builtin; refine Kd.R_append k80 (w0 := w) w.heap.size rfl (.tmp 115) (.tmp 117) 77 80 (.agg #[.int .i64 0, .int .u64 0, .string ⟨#[]⟩]) 32 rfl Tryz.underlying77 infoP rfl (by decide) (by omega) (.slice A9 n9 c9) vals ⟨17, x1, ⟨#[]⟩⟩ [.int .i64 17, .int .u64 x1, .string ⟨#[]⟩] (fun k => k ≠ w.heap.size) (fun _ => False) rfl (by first | rfl | (go_simp; done)) (k80_mkM _ _ _ _) (fun _ h => h.elim) (fun k hk => by omega) H7.out.row H7.out.bel (by omega) (by omega) ?_; intro v1 w6 hR hbl hgr hat; have F := Lib.hid (SBL.step HL.out HE.out HA.out OK.out (SB.row1 H7.out hR hgr) (by omega) (by rw [EB.out]; simp [opS]) (by simp; omega)); clear hR hbl hgr hat))
                go_roundw
                case rel => exact ⟨k + 1, by omega, by go_num, F⟩
                case measure => simp [intOf]; omega
    · obtain rfl : k = n := by omega
      have hfull : l.take k = l := List.take_of_length_le (by have := HN.out; omega)
      rw [hfull] at hE hA
      have u0 : wr.cell? ⟨w.heap.size, 0, none⟩ = some (.string b) := by rw [cell_of_blk hI.rd]; rfl
      have u1 : wr.cell? ⟨w.heap.size, 1, none⟩ = some (.bool r.isNone) := by rw [cell_of_blk hI.rd]; rfl
      have HI := Lib.hid hI
      have HE := Lib.hid hE
      have HA := Lib.hid hA
      clear hI hE hA hfull
      go_wp2_with fail
      go_quiet (fail)
      go_wp2_with fail
      refine bodyPost_ret (results_4t Tryz.results45 _ _) rfl ⟨.inr ⟨r, _, vals, b, ?_, Kd.R_mono (Kd.R_drewN HI.out.row _) (fun _ _ => trivial), HE.out, HI.out.is, HA.out⟩, below_drewN HI.out.bel _⟩
      cases r <;> rfl
end Go.Proofs.YtmenkckgpiafiaaGreat
