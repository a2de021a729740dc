/-
  Lemmas and contracts, part 5.
-/
import Derived.Outline
import Derived.Lib.Hide
import Derived.Great.Walk
import Derived.Deep.DeepCutAuto
import Derived.Deep.QuietTactic
import Derived.BigQuiet
import Derived.OneCell
import Derived.Deep.Slices
import Derived.Deep.Fields
import Derived.ChangeSame
import Derived.ChangeArms
import Derived.WideShapes
import Derived.Test.YtgnficcjnijdbaaGreatProg
import Derived.KernelRfl
import Derived.Lib.AppendZeros
import Derived.Deep.AppendLies
import Derived.Deep.RegionHeld3
import Derived.Laws.MakeOwn
import Derived.Shelf.Abstract
import Derived.Deep.MidRow
import Derived.Test.YtgnficcjnijdbaaGreatMWT1
import Derived.Test.YtgnficcjnijdbaaGreatMWT2
import Derived.Test.YtgnficcjnijdbaaGreatMWT3
set_option linter.unusedVariables false
set_option linter.unusedSimpArgs false
set_option maxHeartbeats 20000000
set_option maxRecDepth 5000
namespace Go.Proofs.YtgnficcjnijdbaaGreat
open Go.RowKit Go.Great Go.Proofs.YtgnficcjnijdbaaGreatW.PrintWords Go.Proofs.YtgnficcjnijdbaaGreatW.PrintLast Go.Proofs.YtgnficcjnijdbaaGreatW.PrintMore Go.Proofs.YtgnficcjnijdbaaGreat.KK
def zA0 (e : S52) : zAu := ⟨e.f0, e.f1⟩
def zHV (e : zAu) : S52 := ⟨e.f0, e.f1⟩
theorem zCC {i : Int} {n : Nat} (h0 : 0 ≤ i) (h : i < (n : Int)) (hn : n ≤ 4398046511104) : wrap64 (i + 1) = i + 1 := by
 unfold wrap64
 omega
theorem zKx (l : List S52) (hl : l.length ≤ 4398046511103) (a b c d e f g : Int) : ∀ (m : Nat) (k : Nat) (i : Nat) (acc : List zAu), i + m = l.length → m < k → acc.length = i →
  PA.impl_attrs.l0 k l (l.length : Int) (i : Int) a b c d e f g acc = some (a, b, c, d, e, f, g, acc ++ (l.drop i).map zA0) := by
 intro m
 induction m with
 | zero =>
  intro k i acc hi hk ha
  obtain ⟨k, rfl⟩ : ∃ j, k = j + 1 := ⟨k - 1, by omega⟩
  simp only [PA.impl_attrs.l0]
  rw [if_neg (by omega), List.drop_of_length_le (by omega)]
  simp
 | succ m ih =>
  intro k i acc hi hk ha
  obtain ⟨k, rfl⟩ : ∃ j, k = j + 1 := ⟨k - 1, by omega⟩
  simp only [PA.impl_attrs.l0]
  rw [if_pos (by omega), if_pos (by omega), if_pos (by omega), if_pos (by omega), zCC (by omega) (show (i : Int) < (l.length : Int) by omega) (by omega)]
  have hlt : i < l.length := by omega
  rw [show ((i : Int) + 1) = ((i + 1 : Nat) : Int) from by omega, ih k (i + 1) _ (by omega) (by omega) (by simp [ha])]
  rw [List.drop_eq_getElem_cons hlt, List.map_cons, List.append_assoc, List.singleton_append, show zA7 l (i : Int) = l[i] from by simp [zA7, List.getD_eq_getElem?_getD, List.getElem?_eq_getElem hlt]]
  rfl
theorem zMH (l : List S52) (hl : l.length ≤ 4398046511103) (a b c d e f g : Int) : PA.impl_attrs.f (l.length + 1) a b c d e f g l = some (a, b, c, d, e, f, g, l.map zA0) := by
 unfold PA.impl_attrs.f
 have h := zKx l hl a b c d e f g l.length (l.length + 1) 0 [] (by omega) (by omega) rfl
 simpa using h
theorem zMI (l : List zAu) (hl : l.length ≤ 4398046511103) (a b c d e f g : Int) : ∀ (m : Nat) (k : Nat) (i : Nat) (acc : List S52), i + m = l.length → m < k → acc.length = i →
  PA.impl_told.l0 k l (l.length : Int) (i : Int) a b c d e f g acc = some (a, b, c, d, e, f, g, acc ++ (l.drop i).map zHV) := by
 intro m
 induction m with
 | zero =>
  intro k i acc hi hk ha
  obtain ⟨k, rfl⟩ : ∃ j, k = j + 1 := ⟨k - 1, by omega⟩
  simp only [PA.impl_told.l0]
  rw [if_neg (by omega), List.drop_of_length_le (by omega)]
  simp
 | succ m ih =>
  intro k i acc hi hk ha
  obtain ⟨k, rfl⟩ : ∃ j, k = j + 1 := ⟨k - 1, by omega⟩
  simp only [PA.impl_told.l0]
  rw [if_pos (by omega), if_pos (by omega), if_pos (by omega), if_pos (by omega), zCC (by omega) (show (i : Int) < (l.length : Int) by omega) (by omega)]
  have hlt : i < l.length := by omega
  rw [show ((i : Int) + 1) = ((i + 1 : Nat) : Int) from by omega, ih k (i + 1) _ (by omega) (by omega) (by simp [ha])]
  rw [List.drop_eq_getElem_cons hlt, List.map_cons, List.append_assoc, List.singleton_append, show zBG l (i : Int) = l[i] from by simp [zBG, List.getD_eq_getElem?_getD, List.getElem?_eq_getElem hlt]]
  rfl
theorem zMz (l : List zAu) (hl : l.length ≤ 4398046511103) (a b c d e f g : Int) : PA.impl_told.f (l.length + 1) a b c d e f g l = some (a, b, c, d, e, f, g, l.map zHV) := by
 unfold PA.impl_told.f
 have h := zMI l hl a b c d e f g l.length (l.length + 1) 0 [] (by omega) (by omega) rfl
 simpa using h
def at8 (a b c d e f g : Int) (v : Value) : Array Value := #[.int .u32 a, .int .u64 b, .int .u32 c, .int .u32 d, .int .u32 e, .int .u32 f, .int .u32 g, v]
theorem zEB (a b c d e f g : Int) (A : Option Addr) (n cap : Nat) (l : List S52) (w : World) (hn : n = l.length) (hl : l.length ≤ 4398046511103) (hr : Kd.C k52 w A l.length l) (hc : l.length ≤ cap) :
  Calls Tryz.prog 52 #[.agg (at8 a b c d e f g (.slice A n cap))] w fun r w' => ∃ v, r = .returned (.agg (at8 a b c d e f g v)) ∧ Kd.R k206 206 w' w.heap.size (fun _ => True) v (l.map zA0) ∧ Below w.heap.size w w' := by
 subst hn
 exact PA.impl_attrs.calls (l.length + 1) a b c d e f g A cap l a b c d e f g (l.map zA0) w hr hc (zMH l hl a b c d e f g)
theorem zFk (a b c d e f g : Int) (A : Option Addr) (n cap : Nat) (l : List zAu) (w : World) (hn : n = l.length) (hl : l.length ≤ 4398046511103) (hr : Kd.C k206 w A l.length l) (hc : l.length ≤ cap) :
  Calls Tryz.prog 61 #[.agg (at8 a b c d e f g (.slice A n cap))] w fun r w' => ∃ v, r = .returned (.agg (at8 a b c d e f g v)) ∧ Kd.R k52 52 w' w.heap.size (fun _ => True) v (l.map zHV) ∧ Below w.heap.size w w' := by
 subst hn
 exact PA.impl_told.calls (l.length + 1) a b c d e f g A cap l a b c d e f g (l.map zHV) w hr hc (zMz l hl a b c d e f g)
def Buf (base : Nat) (w0 w : World) (g : Nat) (l : List UInt8) : Prop := ∃ v, MBuf base w g v l ∧ Below base w0 w
theorem Buf.below {base : Nat} {w0 w : World} {g : Nat} {l : List UInt8} (h : Buf base w0 w g l) : Below base w0 w := by obtain ⟨_, _, h⟩ := h; exact h
theorem Buf.step {base : Nat} {w0 w w' : World} {g : Nat} {v : Value} {l l' : List UInt8} (hb : MBuf base w g v l) (h0 : Below base w0 w) (h : ∃ v', MBuf base w' g v' l' ∧ Upd g v w w' ∧ (v'.ownBlock = v.ownBlock ∨ ∃ k, v'.ownBlock = some k ∧ w.heap.size ≤ k)) : Buf base w0 w' g l' := by
 obtain ⟨v', m, u, _⟩ := h
 exact ⟨v', m, h0.trans (hb.below u)⟩
theorem zEk {base : Nat} {w0 w : World} {g : Nat} {l : List UInt8} (hb : Buf base w0 w g l) (x : Int) (h0 : 0 ≤ x) (h1 : x ≤ 4294967295) (hl : l.length ≤ 900000000) :
  Calls Tryz.prog 48 #[.pointer (some ⟨g, 0, none⟩), .int .u32 x] w fun e w' => e = .returned (.tuple #[]) ∧ Buf base w0 w' g (l ++ zAQ x) := by
 obtain ⟨v, m, b⟩ := hb
 exact (zD8 base g v l x w m h0 h1 (by omega)).mono fun e w' ⟨he, h⟩ => ⟨he, .step m b h⟩
theorem zNt {base : Nat} {w0 w : World} {g : Nat} {l : List UInt8} (hb : Buf base w0 w g l) (x : Int) (h0 : 0 ≤ x) (h1 : x ≤ 18446744073709551615) (hl : l.length ≤ 900000000) :
  Calls Tryz.prog 109 #[.pointer (some ⟨g, 0, none⟩), .int .u64 x] w fun e w' => e = .returned (.tuple #[]) ∧ Buf base w0 w' g (l ++ zBN x) := by
 obtain ⟨v, m, b⟩ := hb
 exact (zGv base g v l x w m h0 h1 (by omega)).mono fun e w' ⟨he, h⟩ => ⟨he, .step m b h⟩
theorem zNA {base : Nat} {w0 w : World} {g : Nat} {l : List UInt8} (hb : Buf base w0 w g l) (s : ByteArray) (hl : l.length ≤ 900000000) (hs : s.size ≤ 100000000) :
  Calls Tryz.prog 66 #[.pointer (some ⟨g, 0, none⟩), .string s] w fun e w' => e = .returned (.tuple #[]) ∧ Buf base w0 w' g (l ++ str (tl s)) := by
 obtain ⟨v, m, b⟩ := hb
 exact (zAv base g v l s w m hl hs).mono fun e w' ⟨he, h⟩ => ⟨he, .step m b h⟩
def exB : List zAu → List UInt8
 | [] => []
 | e :: r => str (tl e.f0) ++ str (tl e.f1) ++ exB r
theorem zEl (l : List zAu) (e : zAu) : exB (l ++ [e]) = exB l ++ (str (tl e.f0) ++ str (tl e.f1)) := by
 induction l with
 | nil => simp [exB]
 | cons a r ih => simp [exB, ih]
theorem zDG (l : List UInt8) : (str l).length = 4 + l.length := by simp [str, zAQ]; omega
theorem zMJ (base g x : Nat) (v : Value) (l : List UInt8) (s1 s2 : ByteArray) (w0 w : World) (hb : MBuf base w g v l) (h0 : Below base w0 w) (hx : w.heap[x]? = some (.cells #[.string s1, .string s2] 206 (0, 0))) (hxg : x ≠ g) (hxv : v.ownBlock ≠ some x)
  (hl : l.length ≤ 800000000) (hs1 : s1.size ≤ 10000000) (hs2 : s2.size ≤ 10000000) :
  Calls Tryz.prog 110 #[.pointer (some ⟨x, 0, none⟩), .pointer (some ⟨g, 0, none⟩)] w fun e w' => e = .returned (.tuple #[]) ∧ Buf base w0 w' g (l ++ (str (tl s1) ++ str (tl s2))) := by
 have c0 : w.cell? ⟨x, 0, none⟩ = some (.string s1) := by rw [zAA hx]; rfl
 have hxs := zAC hx
 have l1 : (l ++ str (tl s1)).length ≤ 900000000 := by rw [List.length_append, zDG, zAH]; omega
 have C := Lib.hid (zAv base g v l s1 w hb (by omega) (by omega))
 have HX := Lib.hid hx
 have HV := Lib.hid hxv
 have HB := Lib.hid hb
 have H0 := Lib.hid h0
 clear hx hxv hb h0
 go_enter Tryz.func110, Tryz.ntmps110
 go_wp2_with fail
 refine C.out.mono ?_
 rintro e w1 ⟨rfl, v1, m1, u1, o1⟩
 have hx1 := (u1.block x hxs hxg HV.out).trans HX.out
 have c1 : w1.cell? ⟨x, 1, none⟩ = some (.string s2) := by rw [zAA hx1]; rfl
 have D := Lib.hid (zNA (w0 := w0) ⟨v1, m1, H0.out.trans (HB.out.below u1)⟩ s2 l1 (by omega))
 clear m1 u1 o1 hx1 C HX HV HB H0 c0
 go_wp2_with fail
 refine D.out.mono ?_
 rintro e w2 ⟨rfl, hb2⟩
 have B2 := Lib.hid hb2
 clear hb2 D
 go_wp2_with fail
 go_end0
 exact ⟨rfl, by have := B2.out; rwa [List.append_assoc] at this⟩
theorem zNB (x : Nat) (s1 s2 : ByteArray) (w : World) (hx : w.heap[x]? = some (.cells #[.string s1, .string s2] 206 (0, 0))) (hs1 : s1.size ≤ 10000000) (hs2 : s2.size ≤ 10000000) :
  Calls Tryz.prog 108 #[.pointer (some ⟨x, 0, none⟩)] w fun e w' => e = .returned (.int .i64 ((8 + s1.size + s2.size : Nat) : Int)) ∧ ∃ k, w' = w.drewN k := by
 have c0 : w.cell? ⟨x, 0, none⟩ = some (.string s1) := by rw [zAA hx]; rfl
 have c1 : w.cell? ⟨x, 1, none⟩ = some (.string s2) := by rw [zAA hx]; rfl
 clear hx
 have w1 : IntKind.i64.wrap (4 + (s1.size : Int)) = 4 + (s1.size : Int) := IntWalk.i64_in _ (by omega)
 have w2 : IntKind.i64.wrap (4 + (s1.size : Int) + 4) = 4 + (s1.size : Int) + 4 := IntWalk.i64_in _ (by omega)
 have w3 : IntKind.i64.wrap (4 + (s1.size : Int) + 4 + (s2.size : Int)) = 4 + (s1.size : Int) + 4 + (s2.size : Int) := IntWalk.i64_in _ (by omega)
 go_enter Tryz.func108, Tryz.ntmps108
 go_wp2
 go_quiet (fail)
 clear w1 w2 w3
 go_wp2
 go_ret
 exact ⟨zBa (by omega), _, rfl⟩
def flg (f : Int) (k : Int) : Bool := bits .and .u32 f k != 0
theorem zMf : (Tryz.prog.info? 26).map (·.size) = some 8 := by kernel_rfl
theorem zNu : (Tryz.prog.info? 116).map (·.size) = some 8 := by kernel_rfl
theorem zBQ (a b c d e f g : Int) (v : Value) : (Tryz.prog.info? 26).map (·.size) = some (at8 a b c d e f g v).size := zMf
theorem zNC (a b c d e f g : Int) (v : Value) : (Tryz.prog.info? 116).map (·.size) = some (at8 a b c d e f g v).size := zNu
theorem zFQ (a b c d e f g : Int) (A : Option Addr) (n c' : Nat) : (at8 a b c d e f g (.slice A n c')).all (·.oneCell') = true := by kernel_rfl
def z8 : Array Value := at8 0 0 0 0 0 0 0 (.slice none 0 0)
end Go.Proofs.YtgnficcjnijdbaaGreat
namespace Go.Proofs.YtgnficcjnijdbaaGreat
open Go.RowKit Go.ChangeShapes Go.WideShapes Go.Deep Go.Proofs.YtgnficcjnijdbaaGreatW.PrintWords
structure Opn (P : Program) (t : TypeId) {α : Type} (d : Kd α) (G : α → Prop) : Prop where
 sz : P.cellsOf t = d.sz
 out : ∀ {H : Type} {enc : TypeId × Value → H} {w : World} {base : Nat} {sp : Nat → Bool} {held : Bool} {fuel : Nat} {cs : List Value} {x : DataW H × List MemPlace}, DataW.trod enc P w base sp held fuel t cs = some x → ∃ y, d.K w y cs ∧ G y
theorem zGN {P : Program} {t : TypeId} {k : IntKind} (ht : P.underlying t = some (.int k)) (hs : P.cellsOf t = 1) : Opn P t (Kd.int k) (fun y => (Lit.int k y).wf = true) :=
 ⟨hs, fun h => by
  obtain ⟨n, rfl, _, hw⟩ := DataW.trod_int ht h
  exact ⟨n, rfl, hw⟩⟩
theorem zMK {P : Program} {t : TypeId} (ht : P.underlying t = some .string) (hs : P.cellsOf t = 1) : Opn P t Kd.string (fun y => y.size ≤ maxLen) :=
 ⟨hs, fun h => by
  obtain ⟨s, rfl, _, hw⟩ := DataW.trod_string ht h
  exact ⟨s, rfl, hw⟩⟩
theorem zFl {P : Program} {t e : TypeId} {α : Type} {d : Kd α} {G : α → Prop} (ht : P.underlying t = some (.slice e)) (hs : P.cellsOf t = 1) (he : Opn P e d G) :
  Opn P t (Kd.slice e d) (fun l => l.length ≤ maxLen ∧ ∀ y ∈ l, G y) :=
 ⟨hs, fun {H enc w base sp held fuel cs x} h => by
  rcases open_slice ht h with ⟨rfl, _⟩ | ⟨a, len, cap, m, n, D, Pl, rfl, _, hl, hm, hmm, _, hi⟩
  ·exact ⟨[], ⟨none, 0, rfl, Nat.le_refl _, rfl, by simp, fun h => by simp at h⟩, by simp, by simp⟩
  ·have hlm : len ≤ m := by rw [hmm]; split <;> omega
   have key : ∀ j, j ≤ len → ∃ ys : List α, ys.length = j ∧ (∀ y ∈ ys, G y) ∧ ∀ i p, ys[i]? = some p → ∃ c, c.length = d.sz ∧ d.K w p c ∧ ∀ q u, c[q]? = some u → w.cell? (a.add (i * d.sz + q)) = some u := by
    intro j
    induction j with
    | zero => exact fun _ => ⟨[], rfl, by simp, fun i p hp => by simp at hp⟩
    | succ j ih =>
     intro hj
     obtain ⟨ys, hlen, hG, hc⟩ := ih (by omega)
     obtain ⟨cs', h1, h2⟩ := hi j (by omega)
     obtain ⟨y, hK, hy⟩ := he.out h2
     refine ⟨ys ++ [y], by simp [hlen], fun z hz => ?_, fun i p hp => ?_⟩
     ·rcases List.mem_append.1 hz with hz | hz
      ·exact hG z hz
      ·rw [List.mem_singleton.1 hz]; exact hy
     ·rcases Nat.lt_or_ge i ys.length with hlt | hge
      ·rw [List.getElem?_append_left hlt] at hp
       exact hc i p hp
      ·rw [List.getElem?_append_right hge] at hp
       have h0 : i - ys.length = 0 := by
        have := (List.getElem?_eq_some_iff.1 hp).1
        simp at this
        omega
       rw [h0] at hp
       simp at hp
       subst hp
       have hij : i = j := by omega
       subst hij
       rw [he.sz] at h1
       obtain ⟨_, hcl, hat⟩ := World.cells?_some h1
       refine ⟨cs', hcl, hK, fun q u hq => ?_⟩
       have hql := (List.getElem?_eq_some_iff.1 hq).1
       have := hat q (by omega)
       rw [← Go.Deep.add_add, this, hq]
   obtain ⟨ys, hlen, hG, hc⟩ := key len (Nat.le_refl _)
   exact ⟨ys, ⟨some a, cap, by rw [hlen], by omega, by rw [hlen], by rw [hlen]; simp only [maxLen] at hm; omega, fun _ => ⟨a, rfl, hc⟩⟩, by omega, hG⟩⟩
def zML (P : Program) (fs : List Field) (off : Nat) {α : Type} (d : Kd α) (G : α → Prop) : Prop :=
 ∀ {H : Type} {enc : TypeId × Value → H} {w : World} {base : Nat} {sp : Nat → Bool} {held : Bool} {n : Nat} (cs : List Value) (xs : List (DataW H × List MemPlace)),
  (∀ (i : Nat) (f : Field), fs[i]? = some f → DataW.trod enc P w base sp held n f.type ((cs.drop f.offset).take (P.cellsOf f.type)) = xs[i]?) → xs.length = fs.length → cs.length = off + d.sz → ∃ y, d.K w y (cs.drop off) ∧ G y
theorem zDi {P : Program} {f : Field} {off : Nat} {α : Type} {d : Kd α} {G : α → Prop} (ho : f.offset = off) (h : Opn P f.type d G) : zML P [f] off d G := by
 intro H enc w base sp held n cs xs hx hl hc
 have h0 := hx 0 f rfl
 rw [ho, h.sz] at h0
 match xs, hl with
 | [x], _ =>
  obtain ⟨y, hK, hG⟩ := h.out (h0.trans rfl)
  rw [List.take_of_length_le (by rw [List.length_drop]; omega)] at hK
  exact ⟨y, hK, hG⟩
theorem zAm {P : Program} {f : Field} {fs : List Field} {off : Nat} {α β : Type} {a : Kd α} {b : Kd β} {Ga : α → Prop} {Gb : β → Prop} (ho : f.offset = off) (h : Opn P f.type a Ga) (hr : zML P fs (off + a.sz) b Gb) :
  zML P (f :: fs) off (Kd.pair a b) (fun x => Ga x.1 ∧ Gb x.2) := by
 intro H enc w base sp held n cs xs hx hl hc
 have h0 := hx 0 f rfl
 rw [ho, h.sz] at h0
 match xs, hl with
 | x :: xs, hl =>
  obtain ⟨y, hK, hG⟩ := h.out (h0.trans rfl)
  obtain ⟨z, hK2, hG2⟩ := hr cs xs (fun i g hg => hx (i + 1) g hg) (by simpa using hl) (by rw [hc]; show off + (a.sz + b.sz) = _; omega)
  refine ⟨(y, z), ⟨_, _, ?_, hK, hK2⟩, hG, hG2⟩
  rw [← List.drop_drop, List.take_append_drop]
theorem zCi {P : Program} {t : TypeId} {fs : Array Field} {α : Type} {d : Kd α} {G : α → Prop} (ht : P.underlying t = some (.struct fs)) (hs : P.cellsOf t = d.sz) (h : zML P fs.toList 0 d G) : Opn P t d G :=
 ⟨hs, fun hx => by
  obtain ⟨xs, n, _, _, hcl, hxl, hf⟩ := DataW.trod_struct ht hx
  obtain ⟨y, hK, hG⟩ := h _ xs (fun i f hif => hf i f (by simpa using hif)) (by simpa using hxl) (by rw [hcl, hs]; omega)
  exact ⟨y, hK, hG⟩⟩
theorem Opn.iso {P : Program} {t : TypeId} {α β : Type} {d : Kd α} {G : α → Prop} (h : Opn P t d G) (f : β → α) (g : α → β) (hfg : ∀ a, f (g a) = a) : Opn P t (Kd.iso d f) (fun y => G (f y)) :=
 ⟨h.sz, fun hx => by
  obtain ⟨y, hK, hG⟩ := h.out hx
  refine ⟨g y, ?_, by rw [hfg]; exact hG⟩
  show d.K _ (f (g y)) _
  rw [hfg]
  exact hK⟩
theorem Opn.mono {P : Program} {t : TypeId} {α : Type} {d : Kd α} {G G' : α → Prop} (h : Opn P t d G) (hg : ∀ y, G y → G' y) : Opn P t d G' :=
 ⟨h.sz, fun hx => by
  obtain ⟨y, hK, hG⟩ := h.out hx
  exact ⟨y, hK, hg y hG⟩⟩
end Go.Proofs.YtgnficcjnijdbaaGreat
namespace Go.Proofs.YtgnficcjnijdbaaGreat
open Go.RowKit Go.Proofs.YtgnficcjnijdbaaGreatW.PrintWords Go.Proofs.YtgnficcjnijdbaaGreat.KK
def zND (y : Int) : Prop := -9223372036854775808 ≤ y ∧ y ≤ 9223372036854775807
def zAc (y : Int) : Prop := 0 ≤ y ∧ y ≤ 4294967295
def zC6 (y : Int) : Prop := 0 ≤ y ∧ y ≤ 18446744073709551615
def zEW (s : ByteArray) : Prop := s.size ≤ maxLen
def zNv (e : S52) : Prop := zEW e.f0 ∧ zEW e.f1
def zKy (l : List S52) : Prop := l.length ≤ maxLen ∧ ∀ e ∈ l, zNv e
def zGO (a : S26) : Prop := zAc a.f0 ∧ zC6 a.f1 ∧ zAc a.f2 ∧ zAc a.f3 ∧ zAc a.f4 ∧ zAc a.f5 ∧ zAc a.f6 ∧ zKy a.f7
def zMg (a : S54) : Prop := zEW a.f0 ∧ zEW a.f1 ∧ zGO a.f2
def zKz (l : List S54) : Prop := l.length ≤ maxLen ∧ ∀ e ∈ l, zMg e
def zDH (p : S29) : Prop := zND p.f0 ∧ zAc p.f1 ∧ zEW p.f2 ∧ zEW p.f3 ∧ zEW p.f4 ∧ zC6 p.f5 ∧ zAc p.f6 ∧ zAc p.f7 ∧ zEW p.f8 ∧ zGO p.f9 ∧ zKz p.f10 ∧ zKy p.f11 ∧ zAc p.f12 ∧ zAc p.f13 ∧ zEW p.f14 ∧ zEW p.f15 ∧ zEW p.f16
theorem zNF : Opn Tryz.prog 3 (Kd.int .i64) zND := (zGN Tryz.underlying3 (by kernel_rfl)).mono fun y h => by simpa [zND, Lit.wf, IntKind.min, IntKind.max, IntKind.signed, IntKind.bits] using h
theorem zCO : Opn Tryz.prog 22 (Kd.int .u32) zAc := (zGN Tryz.underlying22 (by kernel_rfl)).mono fun y h => by simpa [zAc, Lit.wf, IntKind.min, IntKind.max, IntKind.signed, IntKind.bits] using h
theorem zLA : Opn Tryz.prog 23 (Kd.int .u64) zC6 := (zGN Tryz.underlying23 (by kernel_rfl)).mono fun y h => by simpa [zC6, Lit.wf, IntKind.min, IntKind.max, IntKind.signed, IntKind.bits] using h
theorem zCP : Opn Tryz.prog 9 Kd.string zEW := (zMK Tryz.underlying9 (by kernel_rfl)).mono fun _ h => h
theorem zNG : Opn Tryz.prog 52 k52 zNv := by
 have o := (zCi Tryz.underlying52 (by kernel_rfl) (zAm rfl zCP (zDi rfl zCP))).iso (β := S52) (fun x => (x.f0, x.f1)) (fun a => ⟨a.1, a.2⟩) (fun _ => rfl)
 exact o.mono fun _ h => h
theorem zJM : Opn Tryz.prog 24 (Kd.slice 52 k52) zKy := (zFl Tryz.underlying24 (by kernel_rfl) zNG).mono fun _ h => h
theorem zHW : Opn Tryz.prog 26 k26 zGO := by
 have o := (zCi Tryz.underlying26 (by kernel_rfl) (zAm rfl zCO (zAm rfl zLA (zAm rfl zCO (zAm rfl zCO (zAm rfl zCO (zAm rfl zCO (zAm rfl zCO (zDi rfl zJM))))))))).iso (β := S26) (fun x => (x.f0, x.f1, x.f2, x.f3, x.f4, x.f5, x.f6, x.f7)) (fun a => ⟨a.1, a.2.1, a.2.2.1, a.2.2.2.1, a.2.2.2.2.1, a.2.2.2.2.2.1, a.2.2.2.2.2.2.1, a.2.2.2.2.2.2.2⟩) (fun _ => rfl)
 exact o.mono fun _ h => h
theorem zMM : Opn Tryz.prog 54 k54 zMg := by
 have o := (zCi Tryz.underlying54 (by kernel_rfl) (zAm rfl zCP (zAm rfl zCP (zDi rfl zHW)))).iso (β := S54) (fun x => (x.f0, x.f1, x.f2)) (fun a => ⟨a.1, a.2.1, a.2.2⟩) (fun _ => rfl)
 exact o.mono fun _ h => h
theorem zLB : Opn Tryz.prog 27 (Kd.slice 54 k54) zKz := (zFl Tryz.underlying27 (by kernel_rfl) zMM).mono fun _ h => h
theorem opnPacket : Opn Tryz.prog 29 k29 zDH := by
 have o := (zCi Tryz.underlying29 (by kernel_rfl) (zAm rfl zNF (zAm rfl zCO (zAm rfl zCP (zAm rfl zCP (zAm rfl zCP (zAm rfl zLA (zAm rfl zCO (zAm rfl zCO (zAm rfl zCP (zAm rfl zHW (zAm rfl zLB (zAm rfl zJM
  (zAm rfl zCO (zAm rfl zCO (zAm rfl zCP (zAm rfl zCP (zDi rfl zCP)))))))))))))))))).iso (β := S29) (fun x => (x.f0, x.f1, x.f2, x.f3, x.f4, x.f5, x.f6, x.f7, x.f8, x.f9, x.f10, x.f11, x.f12, x.f13, x.f14, x.f15, x.f16)) (fun a => ⟨a.1, a.2.1, a.2.2.1, a.2.2.2.1, a.2.2.2.2.1, a.2.2.2.2.2.1, a.2.2.2.2.2.2.1, a.2.2.2.2.2.2.2.1, a.2.2.2.2.2.2.2.2.1, a.2.2.2.2.2.2.2.2.2.1, a.2.2.2.2.2.2.2.2.2.2.1, a.2.2.2.2.2.2.2.2.2.2.2.1, a.2.2.2.2.2.2.2.2.2.2.2.2.1, a.2.2.2.2.2.2.2.2.2.2.2.2.2.1, a.2.2.2.2.2.2.2.2.2.2.2.2.2.2.1, a.2.2.2.2.2.2.2.2.2.2.2.2.2.2.2.1, a.2.2.2.2.2.2.2.2.2.2.2.2.2.2.2.2⟩) (fun _ => rfl)
 exact o.mono fun _ h => h
end Go.Proofs.YtgnficcjnijdbaaGreat
namespace Go.Proofs.YtgnficcjnijdbaaGreat
open Go.RowKit Go.Great Go.Proofs.YtgnficcjnijdbaaGreatW.PrintWords Go.Proofs.YtgnficcjnijdbaaGreatW.PrintLast Go.Proofs.YtgnficcjnijdbaaGreatW.PrintMore Go.Proofs.YtgnficcjnijdbaaGreat.KK
structure At8 (w : World) (q o : Nat) (a b c d e f g : Int) (v : Value) : Prop where
 c0 : w.cell? ⟨q, o, none⟩ = some (.int .u32 a)
 c1 : w.cell? ⟨q, o + 1, none⟩ = some (.int .u64 b)
 c2 : w.cell? ⟨q, o + 2, none⟩ = some (.int .u32 c)
 c3 : w.cell? ⟨q, o + 3, none⟩ = some (.int .u32 d)
 c4 : w.cell? ⟨q, o + 4, none⟩ = some (.int .u32 e)
 c5 : w.cell? ⟨q, o + 5, none⟩ = some (.int .u32 f)
 c6 : w.cell? ⟨q, o + 6, none⟩ = some (.int .u32 g)
 c7 : w.cell? ⟨q, o + 7, none⟩ = some v
theorem At8.kept {w w' : World} {q o : Nat} {a b c d e f g : Int} {v : Value} (h : At8 w q o a b c d e f g v) (hk : w'.heap[q]? = w.heap[q]?) : At8 w' q o a b c d e f g v := by
 have k : ∀ i, w'.cell? ⟨q, i, none⟩ = w.cell? ⟨q, i, none⟩ := fun i => cell_kept hk
 exact ⟨by rw [k]; exact h.c0, by rw [k]; exact h.c1, by rw [k]; exact h.c2, by rw [k]; exact h.c3, by rw [k]; exact h.c4, by rw [k]; exact h.c5, by rw [k]; exact h.c6, by rw [k]; exact h.c7⟩
theorem At8.lt {w : World} {q o : Nat} {a b c d e f g : Int} {v : Value} (h : At8 w q o a b c d e f g v) : q < w.heap.size := World.block_lt_of_cell? w _ h.c0
theorem At8.below {w w' : World} {B q o : Nat} {a b c d e f g : Int} {v : Value} (h : At8 w q o a b c d e f g v) (hb : Below B w w') (hq : q < B) : At8 w' q o a b c d e f g v := h.kept (hb.block q hq)
def p1 (a b : Int) : List UInt8 := if flg a 1 then zBN b else []
def p2 (a c d : Int) : List UInt8 := if flg a 2 then zAQ c ++ zAQ d else []
def p4 (a e : Int) : List UInt8 := if flg a 4 then zAQ e else []
def p8 (a f g : Int) : List UInt8 := if flg a 8 then zAQ f ++ zAQ g else []
def pX (a : Int) (l : List zAu) : List UInt8 := if flg a 2147483648 then zAQ (l.length : Int) ++ exB l else []
def atB (a b c d e f g : Int) (l : List zAu) : List UInt8 := zAQ a ++ (p1 a b ++ (p2 a c d ++ (p4 a e ++ (p8 a f g ++ pX a l))))
theorem zAi (x : Int) : (zAQ x).length = 4 := rfl
def ExtAt (w : World) (B : Nat) (A : Option Addr) (l : List zAu) : Prop :=
 l = [] ∨ ∃ x p, A = some ⟨x, p, none⟩ ∧ x < B ∧ ∀ k e, l[k]? = some e → w.cell? ⟨x, p + k * 2, none⟩ = some (.string e.f0) ∧ w.cell? ⟨x, p + k * 2 + 1, none⟩ = some (.string e.f1)
theorem ExtAt.below {w w' : World} {B B' : Nat} {A : Option Addr} {l : List zAu} (h : ExtAt w B A l) (hb : Below B' w w') (hB : B ≤ B') : ExtAt w' B A l := by
 rcases h with h | ⟨x, p, hA, hx, h⟩
 ·exact .inl h
 ·refine .inr ⟨x, p, hA, hx, fun k e he => ?_⟩
  have k2 : ∀ i, w'.cell? ⟨x, i, none⟩ = w.cell? ⟨x, i, none⟩ := fun i => cell_kept (hb.block x (by omega))
  rw [k2, k2]
  exact h k e he
def gEx (l : List zAu) : Prop := l.length ≤ 1000000 ∧ (exB l).length ≤ 10000000 ∧ ∀ e ∈ l, e.f0.size ≤ 10000000 ∧ e.f1.size ≤ 10000000
theorem MBuf.alloc {base g : Nat} {w : World} {v : Value} {l : List UInt8} (hb : MBuf base w g v l) (o : Obj) : MBuf base (w.alloc o) g v l :=
 ⟨(heap_alloc_old _ _ (zAC hb.blk)).trans hb.blk, hb.own.alloc o, hb.le, hb.ne⟩
theorem zEm (l : List zAu) (k : Nat) : (exB (l.take k)).length ≤ (exB l).length := by
 have h : ∀ a b : List zAu, exB (a ++ b) = exB a ++ exB b := by
  intro a b
  induction a with
  | nil => rfl
  | cons e r ih => simp [exB, ih]
 conv => rhs; rw [← List.take_append_drop k l, h, List.length_append]
 omega
theorem zIX (a b c d e f g : Int) : (p1 a b).length ≤ 8 ∧ (p2 a c d).length ≤ 8 ∧ (p4 a e).length ≤ 4 ∧ (p8 a f g).length ≤ 8 := by
 unfold p1 p2 p4 p8
 refine ⟨?_, ?_, ?_, ?_⟩ <;> split <;> simp [zBN, zAQ]
set_option maxRecDepth 100000 in
theorem zJn (base gg q o : Nat) (L : List UInt8) (a b c d e f g : Int) (A : Option Addr) (n cap : Nat) (l : List zAu) (w : World) (hb : Buf base w w gg L) (hL : L.length ≤ 100000000) (hbs : base ≤ w.heap.size) (hq : q < base)
  (h8 : At8 w q o a b c d e f g (.slice A n cap)) (hn : n = l.length) (hx : ExtAt w base A l) (hl : gEx l) (hcap : l.length ≤ cap)
  (ga : zAc a) (gb : zC6 b) (gc : zAc c) (gd : zAc d) (ge : zAc e) (gf : zAc f) (gg' : zAc g) :
  Calls Tryz.prog 105 #[.pointer (some ⟨q, o, none⟩), .pointer (some ⟨gg, 0, none⟩)] w fun r w' => r = .returned (.tuple #[]) ∧ Buf base w w' gg (L ++ atB a b c d e f g l) := by
 have c0 := h8.c0
 have H8 := Lib.hid h8
 have HX := Lib.hid hx
 have HB := Lib.hid hb
 have HL := Lib.hid hl
 have HN := Lib.hid hn
 obtain ⟨ga0, ga1⟩ := ga
 obtain ⟨gb0, gb1⟩ := gb
 obtain ⟨gc0, gc1⟩ := gc
 obtain ⟨gd0, gd1⟩ := gd
 obtain ⟨ge0, ge1⟩ := ge
 obtain ⟨gf0, gf1⟩ := gf
 obtain ⟨gg0, gg1⟩ := gg'
 clear h8 hx hb hl hn
 go_enter Tryz.func105, Tryz.ntmps105
 go_wp2_with fail
 refine (zEk HB.out a ga0 ga1 (by omega)).mono ?_
 rintro r w1 ⟨rfl, hb1⟩
 have B1 := Lib.hid hb1
 have d0 := (H8.out.below hb1.below hq).c0
 have d1 := (H8.out.below hb1.below hq).c1
 clear hb1 HB c0
 go_upto_if 17 with (fail)
 go_cut [] (fun wx => Buf base w wx gg (L ++ zAQ a ++ p1 a b))
 case first =>
  cases hf : (bits .and .u32 a 1 != 0) with
  | true =>
   have E := Lib.hid (show p1 a b = zBN b by unfold p1 flg; rw [hf]; rfl)
   go_wp2_with fail
   refine (zNt B1.out b gb0 gb1 (by simp [zAi]; omega)).mono ?_
   rintro r w2 ⟨rfl, hb2⟩
   have B2 := Lib.hid hb2
   clear hb2
   go_wp2_with fail
   go_meet
   rw [E.out]
   exact B2.out
  | false =>
   have E := Lib.hid (show p1 a b = [] by unfold p1 flg; rw [hf]; rfl)
   go_wp2_with fail
   go_meet
   rw [E.out, List.append_nil]
   exact B1.out
 case rest =>
  obtain ⟨W1, rfl⟩ : ∃ W : World, W = wc := ⟨_, rfl⟩
  have B1 := Lib.hid hcut
  have k1 := H8.out.below hcut.below hq
  have d0 := k1.c0
  have d2 := k1.c2
  have hlen1 : (L ++ zAQ a ++ p1 a b).length ≤ 100000000 + 24 := by simp only [List.length_append, zAi]; have := zIX a b c d e f g; omega
  clear hcut
  go_upto_if 29 with (fail)
  go_cut [] (fun wx => Buf base w wx gg (L ++ zAQ a ++ p1 a b ++ p2 a c d))
  case first =>
   cases hf : (bits .and .u32 a 2 != 0) with
   | true =>
    have E := Lib.hid (show p2 a c d = zAQ c ++ zAQ d by unfold p2 flg; rw [hf]; rfl)
    go_wp2_with fail
    refine (zEk B1.out c gc0 gc1 (by omega)).mono ?_
    rintro r w2 ⟨rfl, hb2⟩
    have B2 := Lib.hid hb2
    have e3 := (H8.out.below hb2.below hq).c3
    clear hb2
    go_wp2_with fail
    refine (zEk B2.out d gd0 gd1 (by simp only [List.length_append, zAi] at hlen1 ⊢; omega)).mono ?_
    rintro r w3 ⟨rfl, hb3⟩
    have B3 := Lib.hid hb3
    clear hb3
    go_wp2_with fail
    go_meet
    rw [E.out, ← List.append_assoc]
    exact B3.out
   | false =>
    have E := Lib.hid (show p2 a c d = [] by unfold p2 flg; rw [hf]; rfl)
    go_wp2_with fail
    go_meet
    rw [E.out, List.append_nil]
    exact B1.out
  case rest =>
   obtain ⟨W2, rfl⟩ : ∃ W : World, W = wc := ⟨_, rfl⟩
   have B2 := Lib.hid hcut
   have k2 := H8.out.below hcut.below hq
   have d0 := k2.c0
   have d4 := k2.c4
   have hlen2 : (L ++ zAQ a ++ p1 a b ++ p2 a c d).length ≤ 100000000 + 48 := by simp only [List.length_append, zAi]; have := zIX a b c d e f g; omega
   clear hcut
   go_upto_if 47 with (fail)
   go_cut [] (fun wx => Buf base w wx gg (L ++ zAQ a ++ p1 a b ++ p2 a c d ++ p4 a e))
   case first =>
    cases hf : (bits .and .u32 a 4 != 0) with
    | true =>
     have E := Lib.hid (show p4 a e = zAQ e by unfold p4 flg; rw [hf]; rfl)
     go_wp2_with fail
     refine (zEk B2.out e ge0 ge1 (by omega)).mono ?_
     rintro r w2 ⟨rfl, hb2⟩
     have B2 := Lib.hid hb2
     clear hb2
     go_wp2_with fail
     go_meet
     rw [E.out]
     exact B2.out
    | false =>
     have E := Lib.hid (show p4 a e = [] by unfold p4 flg; rw [hf]; rfl)
     go_wp2_with fail
     go_meet
     rw [E.out, List.append_nil]
     exact B2.out
   case rest =>
    obtain ⟨W3, rfl⟩ : ∃ W : World, W = wc := ⟨_, rfl⟩
    have B3 := Lib.hid hcut
    have k3 := H8.out.below hcut.below hq
    have d0 := k3.c0
    have d5 := k3.c5
    have hlen3 : (L ++ zAQ a ++ p1 a b ++ p2 a c d ++ p4 a e).length ≤ 100000000 + 72 := by simp only [List.length_append, zAi]; have := zIX a b c d e f g; omega
    clear hcut
    go_upto_if 59 with (fail)
    go_cut [] (fun wx => Buf base w wx gg (L ++ zAQ a ++ p1 a b ++ p2 a c d ++ p4 a e ++ p8 a f g))
    case first =>
     cases hf : (bits .and .u32 a 8 != 0) with
     | true =>
      have E := Lib.hid (show p8 a f g = zAQ f ++ zAQ g by unfold p8 flg; rw [hf]; rfl)
      go_wp2_with fail
      refine (zEk B3.out f gf0 gf1 (by omega)).mono ?_
      rintro r w2 ⟨rfl, hb2⟩
      have B2 := Lib.hid hb2
      have e6 := (H8.out.below hb2.below hq).c6
      clear hb2
      go_wp2_with fail
      refine (zEk B2.out g gg0 gg1 (by simp only [List.length_append, zAi] at hlen3 ⊢; omega)).mono ?_
      rintro r w3 ⟨rfl, hb3⟩
      have B3 := Lib.hid hb3
      clear hb3
      go_wp2_with fail
      go_meet
      rw [E.out, ← List.append_assoc]
      exact B3.out
     | false =>
      have E := Lib.hid (show p8 a f g = [] by unfold p8 flg; rw [hf]; rfl)
      go_wp2_with fail
      go_meet
      rw [E.out, List.append_nil]
      exact B3.out
    case rest =>
     obtain ⟨W4, rfl⟩ : ∃ W : World, W = wc := ⟨_, rfl⟩
     have B4 := Lib.hid hcut
     have k4 := H8.out.below hcut.below hq
     have d0 := k4.c0
     have d7 := k4.c7
     have hlen4 : (L ++ zAQ a ++ p1 a b ++ p2 a c d ++ p4 a e ++ p8 a f g).length ≤ 100000000 + 96 := by simp only [List.length_append, zAi]; have := zIX a b c d e f g; omega
     clear hcut
     generalize hP : L ++ zAQ a ++ p1 a b ++ p2 a c d ++ p4 a e ++ p8 a f g = P at *
     have HP := Lib.hid hP
     clear hP
     cases hf : (bits .and .u32 a 2147483648 != 0) with
     | false =>
      have E := Lib.hid (show L ++ atB a b c d e f g l = P by
       rw [← HP.out]
       unfold atB
       rw [show pX a l = [] from by unfold pX flg; rw [hf]; rfl]
       simp only [List.append_assoc, List.append_nil])
      go_wp2_with fail
      go_end0
      exact ⟨rfl, by rw [E.out]; exact B4.out⟩
     | true =>
      have E := Lib.hid (show L ++ atB a b c d e f g l = P ++ zAQ (l.length : Int) ++ exB l by
       rw [← HP.out]
       unfold atB
       rw [show pX a l = zAQ (l.length : Int) ++ exB l from by unfold pX flg; rw [hf]; rfl]
       simp only [List.append_assoc])
      clear HP
      obtain ⟨hl1, hl2, hl3⟩ := HL.out
      have hnn := HN.out
      have n1 : (n : Int) ≤ 1000000 := by omega
      have n2 : n ≤ 1000000 := by omega
      clear hnn
      go_wp2_with fail
      refine (zEk B4.out (n : Int) (by omega) (by omega) (by omega)).mono ?_
      rintro r w2 ⟨rfl, hb2⟩
      have B2 := Lib.hid hb2
      have e7 := (H8.out.below hb2.below hq).c7
      clear hb2
      go_wp2_with fail
      have hlx : (P ++ zAQ (n : Int)).length ≤ 110000000 := by simp only [List.length_append, zAi]; omega
      have E2 := Lib.hid (show L ++ atB a b c d e f g l = P ++ zAQ (n : Int) ++ exB l by rw [E.out, HN.out])
      clear E B4 k4 d7 e7 hlen4
      generalize P ++ zAQ (n : Int) = P2 at *
      rcases HX.out with hx | ⟨x, p, rfl, hx, hc⟩
      ·subst hx
       have hn0 : n = 0 := HN.out
       subst hn0
       go_loopw [91] (fun i wr => i = .int .i64 ((0 : Nat) : Int) ∧ Hid (Buf base w wr gg P2)) (fun _ _ => 0)
       case atStart => exact ⟨rfl, B2⟩
       case round =>
        obtain ⟨rfl, HR⟩ := hrel
        go_wp2_with fail
        go_end0
        exact ⟨rfl, by rw [E2.out]; simpa [exB] using HR.out⟩
      ·have HC := Lib.hid hc
       clear hc
       go_loopw [91] (fun i wr => ∃ k : Nat, k ≤ n ∧ i = .int .i64 (k : Int) ∧ Hid (Buf base w wr gg (P2 ++ exB (l.take k)))) (fun i _ => n - (intOf i).toNat)
       case atStart => exact ⟨0, Nat.zero_le _, rfl, Lib.hid (by simpa [exB] using B2.out)⟩
       case round =>
        obtain ⟨k, hk, rfl, HR⟩ := hrel
        by_cases hlt : k < n
        ·have hkl : k < l.length := by have := HN.out; omega
         have he : l[k]? = some l[k] := List.getElem?_eq_getElem hkl
         obtain ⟨g1, g2⟩ := HC.out k _ he
         obtain ⟨hs1, hs2⟩ := hl3 _ (List.getElem_mem hkl)
         have ht : l.take (k + 1) = l.take k ++ [l[k]] := List.take_succ_eq_append_getElem hkl
         have hpre : (exB (l.take k)).length ≤ (exB l).length := zEm l k
         have HT := Lib.hid (show P2 ++ exB (l.take (k + 1)) = P2 ++ exB (l.take k) ++ (str (tl l[k].f0) ++ str (tl l[k].f1)) by rw [ht, zEl, List.append_assoc])
         obtain ⟨v, m, b⟩ := HR.out
         have kx : ∀ i, wr.cell? ⟨x, i, none⟩ = w.cell? ⟨x, i, none⟩ := fun i => cell_kept (b.block x hx)
         rw [← kx] at g1 g2
         have hlen5 : (P2 ++ exB (l.take k)).length ≤ 800000000 := by rw [List.length_append]; omega
         generalize P2 ++ exB (l.take k) = P3 at *
         generalize l[k].f0 = s1 at *
         generalize l[k].f1 = s2 at *
         have M := Lib.hid m
         have B := Lib.hid b
         clear he ht m b kx HR hpre
         go_wp2_with fail
         have hnew := heap_alloc_new wr (.cells #[.string s1, .string s2] 206 (0, 0))
         have hgl := zAC M.out.blk
         refine (zMJ base gg wr.heap.size v P3 s1 s2 w _ (M.out.alloc _) (B.out.alloc (by have := M.out.baseLe; omega) _) hnew (by omega) (zEK M.out.own (Nat.le_refl _)) (by omega) hs1 hs2).mono ?_
         rintro r w4 ⟨rfl, hb4⟩
         rw [← HT.out] at hb4
         have B5 := Lib.hid hb4
         clear hb4 hnew M B
         go_wp2_with fail
         go_roundw
         case rel => exact ⟨k + 1, by omega, by go_num, B5⟩
         case measure => simp [intOf]; omega
        ·obtain rfl : k = n := by omega
         have hfull : l.take k = l := List.take_of_length_le (by have := HN.out; omega)
         rw [hfull] at HR
         clear hfull
         go_wp2_with fail
         go_end0
         exact ⟨rfl, by rw [E2.out]; exact HR.out⟩
theorem zCQ {k : IntKind} {a b : Int} (h : a = b) : Value.int k a = .int k b := by rw [h]
set_option maxRecDepth 100000 in
theorem zC7 (base q o : Nat) (a b c d e f g : Int) (A : Option Addr) (n cap : Nat) (l : List zAu) (w : World) (hbs : base ≤ w.heap.size) (hq : q < base)
  (h8 : At8 w q o a b c d e f g (.slice A n cap)) (hn : n = l.length) (hx : ExtAt w base A l) (hl : gEx l) (hcap : l.length ≤ cap) :
  Calls Tryz.prog 102 #[.pointer (some ⟨q, o, none⟩)] w fun r w' => r = .returned (.int .i64 (((atB a b c d e f g l).length : Nat) : Int)) ∧ Below base w w' := by
 have d0 := h8.c0
 have d7 := h8.c7
 have HX := Lib.hid hx
 have HL := Lib.hid hl
 have HN := Lib.hid hn
 have pl := zIX a b c d e f g
 clear h8 hx hl hn
 go_enter Tryz.func102, Tryz.ntmps102
 go_upto_if 11 with (fail)
 go_cut [3] (fun s3 wx => s3 = .int .i64 ((4 + (p1 a b).length : Nat) : Int) ∧ w = wx)
 case first =>
  cases hf : (bits .and .u32 a 1 != 0) with
  | true =>
   have E := Lib.hid (show (p1 a b).length = 8 by unfold p1 flg; rw [hf]; rfl)
   go_wp2_with fail
   go_meet
   exact ⟨zCQ (by rw [E.out]; omega), rfl⟩
  | false =>
   have E := Lib.hid (show (p1 a b).length = 0 by unfold p1 flg; rw [hf]; rfl)
   go_wp2_with fail
   go_meet
   exact ⟨zCQ (by rw [E.out]; omega), rfl⟩
 case rest =>
  obtain ⟨rfl, rfl⟩ := hcut
  go_upto_if 19 with (fail)
  go_cut [3] (fun s3 wx => s3 = .int .i64 ((4 + (p1 a b).length + (p2 a c d).length : Nat) : Int) ∧ w = wx)
  case first =>
   cases hf : (bits .and .u32 a 2 != 0) with
   | true =>
    have E := Lib.hid (show (p2 a c d).length = 8 by unfold p2 flg; rw [hf]; rfl)
    go_wp2_with fail
    go_meet
    exact ⟨zCQ (by rw [E.out]; omega), rfl⟩
   | false =>
    have E := Lib.hid (show (p2 a c d).length = 0 by unfold p2 flg; rw [hf]; rfl)
    go_wp2_with fail
    go_meet
    exact ⟨zCQ (by rw [E.out]; omega), rfl⟩
  case rest =>
   obtain ⟨rfl, rfl⟩ := hcut
   go_upto_if 27 with (fail)
   go_cut [3] (fun s3 wx => s3 = .int .i64 ((4 + (p1 a b).length + (p2 a c d).length + (p4 a e).length : Nat) : Int) ∧ w = wx)
   case first =>
    cases hf : (bits .and .u32 a 4 != 0) with
    | true =>
     have E := Lib.hid (show (p4 a e).length = 4 by unfold p4 flg; rw [hf]; rfl)
     go_wp2_with fail
     go_meet
     exact ⟨zCQ (by rw [E.out]; omega), rfl⟩
    | false =>
     have E := Lib.hid (show (p4 a e).length = 0 by unfold p4 flg; rw [hf]; rfl)
     go_wp2_with fail
     go_meet
     exact ⟨zCQ (by rw [E.out]; omega), rfl⟩
   case rest =>
    obtain ⟨rfl, rfl⟩ := hcut
    go_upto_if 35 with (fail)
    go_cut [3] (fun s3 wx => s3 = .int .i64 ((4 + (p1 a b).length + (p2 a c d).length + (p4 a e).length + (p8 a f g).length : Nat) : Int) ∧ w = wx)
    case first =>
     cases hf : (bits .and .u32 a 8 != 0) with
     | true =>
      have E := Lib.hid (show (p8 a f g).length = 8 by unfold p8 flg; rw [hf]; rfl)
      go_wp2_with fail
      go_meet
      exact ⟨zCQ (by rw [E.out]; omega), rfl⟩
     | false =>
      have E := Lib.hid (show (p8 a f g).length = 0 by unfold p8 flg; rw [hf]; rfl)
      go_wp2_with fail
      go_meet
      exact ⟨zCQ (by rw [E.out]; omega), rfl⟩
    case rest =>
     obtain ⟨rfl, rfl⟩ := hcut
     obtain ⟨T, hT⟩ : ∃ T : Nat, 4 + (p1 a b).length + (p2 a c d).length + (p4 a e).length + (p8 a f g).length = T := ⟨_, rfl⟩
     rw [hT]
     have hTb : T ≤ 40 := by omega
     have HT := Lib.hid hT
     clear hT pl
     have hat : ∀ m, T + m = (atB a b c d e f g l).length ↔ m = (pX a l).length := by
      intro m
      unfold atB
      simp only [List.length_append, zAi]
      have := HT.out
      omega
     have HA := Lib.hid hat
     clear hat HT
     cases hf : (bits .and .u32 a 2147483648 != 0) with
     | false =>
      have E := Lib.hid (show T = (atB a b c d e f g l).length from (HA.out 0).2 (by unfold pX flg; rw [hf]; rfl))
      go_wp2_with fail
      go_ret
      exact ⟨zBa (by rw [E.out]), Below.refl _ _⟩
     | true =>
      have E := Lib.hid (show T + (4 + (exB l).length) = (atB a b c d e f g l).length from (HA.out _).2 (by unfold pX flg; rw [hf]; simp [zAi]))
      obtain ⟨hl1, hl2, hl3⟩ := HL.out
      have hnn := HN.out
      have n1 : (n : Int) ≤ 1000000 := by omega
      have n2 : n ≤ 1000000 := by omega
      clear hnn
      go_wp2_with fail
      rcases HX.out with hx | ⟨x, p, rfl, hx, hc⟩
      ·subst hx
       have hn0 : n = 0 := HN.out
       subst hn0
       go_loopw [3, 51] (fun s i wr => s = .int .i64 ((T + 4 : Nat) : Int) ∧ i = .int .i64 ((0 : Nat) : Int) ∧ Hid (Below base w wr)) (fun _ _ _ => 0)
       case atStart => exact ⟨zCQ (by omega), rfl, Lib.hid (Below.refl _ _)⟩
       case round =>
        obtain ⟨rfl, rfl, HR⟩ := hrel
        go_wp2_with fail
        go_ret
        exact ⟨zBa (by rw [← E.out]; simp [exB]), HR.out⟩
      ·have HC := Lib.hid hc
       clear hc
       go_loopw [3, 51] (fun s i wr => ∃ k : Nat, k ≤ n ∧ s = .int .i64 ((T + 4 + (exB (l.take k)).length : Nat) : Int) ∧ i = .int .i64 (k : Int) ∧ Hid (Below base w wr)) (fun _ i _ => n - (intOf i).toNat)
       case atStart => exact ⟨0, Nat.zero_le _, zCQ (by simp [exB]), rfl, Lib.hid (Below.refl _ _)⟩
       case round =>
        obtain ⟨k, hk, rfl, rfl, HR⟩ := hrel
        by_cases hlt : k < n
        ·have hkl : k < l.length := by have := HN.out; omega
         have he : l[k]? = some l[k] := List.getElem?_eq_getElem hkl
         obtain ⟨g1, g2⟩ := HC.out k _ he
         obtain ⟨hs1, hs2⟩ := hl3 _ (List.getElem_mem hkl)
         have ht : l.take (k + 1) = l.take k ++ [l[k]] := List.take_succ_eq_append_getElem hkl
         have hpre : (exB (l.take k)).length ≤ (exB l).length := zEm l k
         have HT := Lib.hid (show T + 4 + (exB (l.take (k + 1))).length = T + 4 + (exB (l.take k)).length + (8 + l[k].f0.size + l[k].f1.size) by rw [ht, zEl, List.length_append, List.length_append, zDG, zDG, zAH, zAH]; omega)
         have b := HR.out
         have kx : ∀ i, wr.cell? ⟨x, i, none⟩ = w.cell? ⟨x, i, none⟩ := fun i => cell_kept (b.block x hx)
         rw [← kx] at g1 g2
         have hmb : T + 4 + (exB (l.take k)).length ≤ 20000000 := by omega
         generalize T + 4 + (exB (l.take k)).length = M at *
         generalize l[k].f0 = s1 at *
         generalize l[k].f1 = s2 at *
         have B := Lib.hid b
         clear he ht b kx HR hpre
         go_wp2_with fail
         have hnew := heap_alloc_new wr (.cells #[.string s1, .string s2] 206 (0, 0))
         refine (zNB wr.heap.size s1 s2 _ hnew hs1 hs2).mono ?_
         rintro r w4 ⟨rfl, j4, hw4⟩
         have hb4 : Below base w w4 := by rw [hw4]; exact zBB (B.out.alloc (by have := B.out.size; omega) _) _
         have B5 := Lib.hid hb4
         clear hb4 hnew B hw4
         go_wp2_with fail
         go_roundw
         case rel => exact ⟨k + 1, by omega, zCQ (by rw [HT.out]; omega), by go_num, B5⟩
         case measure => simp [intOf]; omega
        ·obtain rfl : k = n := by omega
         have hfull : l.take k = l := List.take_of_length_le (by have := HN.out; omega)
         rw [hfull]
         have hmb : T + 4 + (exB l).length ≤ 20000000 := by omega
         have E3 := Lib.hid (show T + 4 + (exB l).length = (atB a b c d e f g l).length by rw [← E.out]; omega)
         clear hfull
         generalize T + 4 + (exB l).length = M at *
         go_wp2_with fail
         go_ret
         exact ⟨zBa (by rw [E3.out]), HR.out⟩
theorem zJN {w : World} {a : Addr} {v : Value} (h : w.cell? a = some v) : a.spot = none := by
 unfold World.cell? at h
 split at h
 ·split at h
  ·cases h
  ·rename_i hs
   simpa using hs
 ·cases h
theorem zBq {w : World} {A : Option Addr} {l : List zAu} (h : Kd.C k206 w A l.length l) : ExtAt w w.heap.size A l := by
 cases hl : l with
 | nil => exact .inl rfl
 | cons e r =>
  rw [← hl]
  have hlen : 0 < l.length := by rw [hl]; simp
  obtain ⟨ad, rfl, h0, _⟩ := zFv h 0 (by omega) (by omega)
  have hsp : ad.spot = none := by
   have := zJN h0
   simpa [Addr.add] using this
  obtain ⟨x, p, sp⟩ := ad
  have hsp' : sp = none := hsp
  subst hsp'
  refine .inr ⟨x, p, rfl, ?_, fun k e he => ?_⟩
  ·have := World.block_lt_of_cell? w _ h0
   simpa [Addr.add] using this
  ·have hk : k < l.length := (List.getElem?_eq_some_iff.1 he).1
   obtain ⟨ad, e1, h1, h2⟩ := zFv h (k : Int) (by omega) (by omega)
   obtain rfl := Option.some.inj e1
   have hr : zBG l (k : Int) = e := by
    unfold zBG
    rw [Int.toNat_natCast, List.getD_eq_getElem?_getD, he]
    rfl
   rw [hr, Int.toNat_natCast] at h1 h2
   rw [add_plain] at h1 h2
   exact ⟨h1, h2⟩
def zIY (l : List S52) : Prop := gEx (l.map zA0)
def zC8 (a b c d e f g : Int) (n : Nat) : Bool :=
 (bits .andNot .u32 a 2147483663 == 0) && !decide (8 < n) && ((((flg a 1 || b == 0) && (flg a 2 || (c == 0 && d == 0))) && (flg a 4 || e == 0)) && (flg a 8 || (f == 0 && g == 0))) && (flg a 2147483648 || n == 0)
def zMN (q : Nat) (W0 : World) (x : Bool) (a' : Act) (w' : World) : Prop := W0 = w' ∧ ∃ (x0 x2 x3 x4 x5 x6 x7 x8 x9 x10 x11 x12 x13 x14 x15 x16 x17 x18 x19 x20 x22 x23 x24 x25 x26 x27 x28 x29 x30 x31 x32 x33 x34 x35 x36 x37 x38 x39 x40 x41 x42 x43 x44 x45 x46 x47 x48 x49 x50 x51 x52 x53 x54 x55 x56 x57 x58 x59 x60 x61 x62 x63 x64 x65 x66 x67 x68 x69 x70 x71 x72 x73 x74 x75 x76 : Value) (u : Bool), u = x ∧ a' = ⟨#[x0, (.pointer (some ⟨q, 0, none⟩)), x2, x3, x4, x5, x6, x7, x8, x9, x10, x11, x12, x13, x14, x15, x16, x17, x18, x19, x20, (.bool u), x22, x23, x24, x25, x26, x27, x28, x29, x30, x31, x32, x33, x34, x35, x36, x37, x38, x39, x40, x41, x42, x43, x44, x45, x46, x47, x48, x49, x50, x51, x52, x53, x54, x55, x56, x57, x58, x59, x60, x61, x62, x63, x64, x65, x66, x67, x68, x69, x70, x71, x72, x73, x74, x75, x76], []⟩
def zMO (q : Nat) (W0 : World) (x : Bool) (a' : Act) (w' : World) : Prop := W0 = w' ∧ ∃ (x0 x2 x3 x4 x5 x6 x7 x8 x9 x10 x11 x12 x13 x14 x15 x16 x17 x18 x19 x20 x21 x22 x23 x24 x25 x26 x27 x28 x29 x30 x31 x32 x33 x34 x35 x36 x38 x39 x40 x41 x42 x43 x44 x45 x46 x47 x48 x49 x50 x51 x52 x53 x54 x55 x56 x57 x58 x59 x60 x61 x62 x63 x64 x65 x66 x67 x68 x69 x70 x71 x72 x73 x74 x75 x76 : Value) (u : Bool), u = x ∧ a' = ⟨#[x0, (.pointer (some ⟨q, 0, none⟩)), x2, x3, x4, x5, x6, x7, x8, x9, x10, x11, x12, x13, x14, x15, x16, x17, x18, x19, x20, x21, x22, x23, x24, x25, x26, x27, x28, x29, x30, x31, x32, x33, x34, x35, x36, (.bool u), x38, x39, x40, x41, x42, x43, x44, x45, x46, x47, x48, x49, x50, x51, x52, x53, x54, x55, x56, x57, x58, x59, x60, x61, x62, x63, x64, x65, x66, x67, x68, x69, x70, x71, x72, x73, x74, x75, x76], []⟩
def zMP (q : Nat) (W0 : World) (x : Bool) (a' : Act) (w' : World) : Prop := W0 = w' ∧ ∃ (x0 x2 x3 x4 x5 x6 x7 x8 x9 x10 x11 x12 x13 x14 x15 x16 x17 x18 x19 x20 x21 x22 x23 x24 x25 x26 x27 x28 x29 x30 x31 x32 x33 x34 x35 x36 x37 x38 x39 x40 x41 x42 x43 x44 x45 x46 x47 x49 x50 x51 x52 x53 x54 x55 x56 x57 x58 x59 x60 x61 x62 x63 x64 x65 x66 x67 x68 x69 x70 x71 x72 x73 x74 x75 x76 : Value) (u : Bool), u = x ∧ a' = ⟨#[x0, (.pointer (some ⟨q, 0, none⟩)), x2, x3, x4, x5, x6, x7, x8, x9, x10, x11, x12, x13, x14, x15, x16, x17, x18, x19, x20, x21, x22, x23, x24, x25, x26, x27, x28, x29, x30, x31, x32, x33, x34, x35, x36, x37, x38, x39, x40, x41, x42, x43, x44, x45, x46, x47, (.bool u), x49, x50, x51, x52, x53, x54, x55, x56, x57, x58, x59, x60, x61, x62, x63, x64, x65, x66, x67, x68, x69, x70, x71, x72, x73, x74, x75, x76], []⟩
def zMQ (q : Nat) (W0 : World) (x : Bool) (a' : Act) (w' : World) : Prop := W0 = w' ∧ ∃ (x0 x2 x3 x4 x5 x6 x7 x8 x9 x10 x11 x12 x13 x14 x15 x16 x17 x18 x19 x20 x21 x22 x23 x24 x25 x26 x27 x28 x29 x30 x31 x32 x33 x34 x35 x36 x37 x38 x39 x40 x41 x42 x43 x44 x45 x46 x47 x48 x49 x50 x51 x52 x53 x54 x55 x56 x57 x58 x59 x60 x61 x62 x63 x65 x66 x67 x68 x69 x70 x71 x72 x73 x74 x75 x76 : Value) (u : Bool), u = x ∧ a' = ⟨#[x0, (.pointer (some ⟨q, 0, none⟩)), x2, x3, x4, x5, x6, x7, x8, x9, x10, x11, x12, x13, x14, x15, x16, x17, x18, x19, x20, x21, x22, x23, x24, x25, x26, x27, x28, x29, x30, x31, x32, x33, x34, x35, x36, x37, x38, x39, x40, x41, x42, x43, x44, x45, x46, x47, x48, x49, x50, x51, x52, x53, x54, x55, x56, x57, x58, x59, x60, x61, x62, x63, (.bool u), x65, x66, x67, x68, x69, x70, x71, x72, x73, x74, x75, x76], []⟩
theorem zLC (a b c d e f g : Int) (A : Option Addr) (n cap : Nat) (w : World) :
  Calls Tryz.prog 20 #[.agg (at8 a b c d e f g (.slice A n cap))] w fun r w' => r = .returned (.bool (zC8 a b c d e f g n)) ∧ Below w.heap.size w w' := by
 obtain ⟨W0, hW0⟩ : ∃ W, w.alloc (.cells (at8 a b c d e f g (.slice A n cap)) 26) = W := ⟨_, rfl⟩
 have hb0 : Below w.heap.size w W0 := by rw [← hW0]; exact (Below.refl _ _).alloc (Nat.le_refl _) _
 have k0 : W0.heap[w.heap.size]? = some (.cells (at8 a b c d e f g (.slice A n cap)) 26 (0, 0)) := by rw [← hW0]; exact heap_alloc_new _ _
 obtain ⟨q, hq⟩ : ∃ q, q = w.heap.size := ⟨_, rfl⟩
 rw [← hq] at k0
 have c0 : W0.cell? ⟨q, 0, none⟩ = some (.int .u32 a) := by rw [zAA k0]; rfl
 have c1 : W0.cell? ⟨q, 1, none⟩ = some (.int .u64 b) := by rw [zAA k0]; rfl
 have c2 : W0.cell? ⟨q, 2, none⟩ = some (.int .u32 c) := by rw [zAA k0]; rfl
 have c3 : W0.cell? ⟨q, 3, none⟩ = some (.int .u32 d) := by rw [zAA k0]; rfl
 have c4 : W0.cell? ⟨q, 4, none⟩ = some (.int .u32 e) := by rw [zAA k0]; rfl
 have c5 : W0.cell? ⟨q, 5, none⟩ = some (.int .u32 f) := by rw [zAA k0]; rfl
 have c6 : W0.cell? ⟨q, 6, none⟩ = some (.int .u32 g) := by rw [zAA k0]; rfl
 have c7 : W0.cell? ⟨q, 7, none⟩ = some (.slice A n cap) := by rw [zAA k0]; rfl
 have X0 := Lib.hid hW0
 have B0 := Lib.hid hb0
 have Q0 := Lib.hid hq
 clear hW0 hb0 k0 hq
 by_cases hz : (bits .andNot .u32 a 2147483663 == 0) = true
 case neg =>
  have hz' : (bits .andNot .u32 a 2147483663 != 0) = true := by simpa using hz
  have e0 : zC8 a b c d e f g n = false := by simp [zC8, hz]
  rw [e0]
  clear hz e0
  go_enter Tryz.func20, Tryz.ntmps20
  go_wp2_with (refine wpList_boxTo rfl 26 _ rfl (some 1) rfl w.heap.size rfl (at8 a b c d e f g (.slice A n cap)) rfl ?_; rw [X0.out]; rw [← Q0.out])
  go_ret
  exact ⟨rfl, B0.out⟩
 case pos =>
 have hz' : (bits .andNot .u32 a 2147483663 != 0) = false := by simpa using hz
 by_cases hn : 8 < n
 ·have e0 : zC8 a b c d e f g n = false := by simp [zC8, hn]
  have d0 : decide ((n : Int) > 8) = true := by simp; omega
  have d1 : (8 : Int) < (n : Int) := by omega
  rw [e0]
  clear hz e0
  go_enter Tryz.func20, Tryz.ntmps20
  go_wp2_with (refine wpList_boxTo rfl 26 _ rfl (some 1) rfl w.heap.size rfl (at8 a b c d e f g (.slice A n cap)) rfl ?_; rw [X0.out]; rw [← Q0.out])
  go_ret
  exact ⟨rfl, B0.out⟩
 have d0 : decide ((n : Int) > 8) = false := by simp; omega
 have d1 : ¬ (8 : Int) < (n : Int) := by omega
 have e0 : zC8 a b c d e f g n = (((((flg a 1 || b == 0) && (flg a 2 || (c == 0 && d == 0))) && (flg a 4 || e == 0)) && (flg a 8 || (f == 0 && g == 0))) && (flg a 2147483648 || n == 0)) := by simp [zC8, hz, hn]
 rw [e0]
 clear hz e0 hn
 go_enter Tryz.func20, Tryz.ntmps20
 go_upto_region 3 with (refine wpList_boxTo rfl 26 _ rfl (some 1) rfl w.heap.size rfl (at8 a b c d e f g (.slice A n cap)) rfl ?_; rw [X0.out]; rw [← Q0.out])
 clear hz' d0 d1
 refine wp_region_lit ?_
 refine zCg 9 (zMN q W0 (flg a 1 || b == 0)) ?_ ?_
 ·simp only [List.append_eq, List.cons_append, List.nil_append, List.take_succ_cons, List.take_zero]
  by_cases h1 : flg a 1 = true
  ·have f1 : (bits .and .u32 a 1 != 0) = true := h1
   go_wp2_with fail
   exact ⟨rfl, _, _, _, _, _, _, _, _, _, _, _, _, _, _, _, _, _, _, _, _, _, _, _, _, _, _, _, _, _, _, _, _, _, _, _, _, _, _, _, _, _, _, _, _, _, _, _, _, _, _, _, _, _, _, _, _, _, _, _, _, _, _, _, _, _, _, _, _, _, _, _, _, _, _, _, true, by simp [h1], rfl⟩
  ·have f1 : (bits .and .u32 a 1 != 0) = false := by simpa [flg] using h1
   by_cases h2 : b = 0
   ·have g_b : (b == 0) = true := by simp [h2]
    go_wp2_with fail
    exact ⟨rfl, _, _, _, _, _, _, _, _, _, _, _, _, _, _, _, _, _, _, _, _, _, _, _, _, _, _, _, _, _, _, _, _, _, _, _, _, _, _, _, _, _, _, _, _, _, _, _, _, _, _, _, _, _, _, _, _, _, _, _, _, _, _, _, _, _, _, _, _, _, _, _, _, _, _, _, true, by simp [h2], rfl⟩
   ·have g_b : (b == 0) = false := by simp [h2]
    go_wp2_with fail
    exact ⟨rfl, _, _, _, _, _, _, _, _, _, _, _, _, _, _, _, _, _, _, _, _, _, _, _, _, _, _, _, _, _, _, _, _, _, _, _, _, _, _, _, _, _, _, _, _, _, _, _, _, _, _, _, _, _, _, _, _, _, _, _, _, _, _, _, _, _, _, _, _, _, _, _, _, _, _, _, false, by simp [h1, h2], rfl⟩
 rintro a' w' ⟨rfl, x0, x2, x3, x4, x5, x6, x7, x8, x9, x10, x11, x12, x13, x14, x15, x16, x17, x18, x19, x20, x22, x23, x24, x25, x26, x27, x28, x29, x30, x31, x32, x33, x34, x35, x36, x37, x38, x39, x40, x41, x42, x43, x44, x45, x46, x47, x48, x49, x50, x51, x52, x53, x54, x55, x56, x57, x58, x59, x60, x61, x62, x63, x64, x65, x66, x67, x68, x69, x70, x71, x72, x73, x74, x75, x76, u, hu, rfl⟩
 simp only [List.append_eq, List.cons_append, List.nil_append, List.drop_succ_cons, List.drop_zero]
 have HU21 := Lib.hid hu
 clear hu
 cases u
 ·go_wp2_with fail
  go_ret
  refine ⟨?_, B0.out⟩
  simp [← HU21.out]
 refine zCg 16 (zMO q W0 (flg a 2 || (c == 0 && d == 0))) ?_ ?_
 ·simp only [List.append_eq, List.cons_append, List.nil_append, List.take_succ_cons, List.take_zero]
  by_cases h1 : flg a 2 = true
  ·have f1 : (bits .and .u32 a 2 != 0) = true := h1
   go_wp2_with fail
   exact ⟨rfl, _, _, _, _, _, _, _, _, _, _, _, _, _, _, _, _, _, _, _, _, _, _, _, _, _, _, _, _, _, _, _, _, _, _, _, _, _, _, _, _, _, _, _, _, _, _, _, _, _, _, _, _, _, _, _, _, _, _, _, _, _, _, _, _, _, _, _, _, _, _, _, _, _, _, _, true, by simp [h1], rfl⟩
  ·have f1 : (bits .and .u32 a 2 != 0) = false := by simpa [flg] using h1
   by_cases h2 : c = 0
   ·have g_c : (c == 0) = true := by simp [h2]
    by_cases h3 : d = 0
    ·have g_d : (d == 0) = true := by simp [h3]
     go_wp2_with fail
     exact ⟨rfl, _, _, _, _, _, _, _, _, _, _, _, _, _, _, _, _, _, _, _, _, _, _, _, _, _, _, _, _, _, _, _, _, _, _, _, _, _, _, _, _, _, _, _, _, _, _, _, _, _, _, _, _, _, _, _, _, _, _, _, _, _, _, _, _, _, _, _, _, _, _, _, _, _, _, _, true, by simp [h2, h3], rfl⟩
    ·have g_d : (d == 0) = false := by simp [h3]
     go_wp2_with fail
     exact ⟨rfl, _, _, _, _, _, _, _, _, _, _, _, _, _, _, _, _, _, _, _, _, _, _, _, _, _, _, _, _, _, _, _, _, _, _, _, _, _, _, _, _, _, _, _, _, _, _, _, _, _, _, _, _, _, _, _, _, _, _, _, _, _, _, _, _, _, _, _, _, _, _, _, _, _, _, _, false, by simp [h1, h2, h3], rfl⟩
   ·have g_c : (c == 0) = false := by simp [h2]
    go_wp2_with fail
    exact ⟨rfl, _, _, _, _, _, _, _, _, _, _, _, _, _, _, _, _, _, _, _, _, _, _, _, _, _, _, _, _, _, _, _, _, _, _, _, _, _, _, _, _, _, _, _, _, _, _, _, _, _, _, _, _, _, _, _, _, _, _, _, _, _, _, _, _, _, _, _, _, _, _, _, _, _, _, _, false, by simp [h1, h2], rfl⟩
 rintro a' w' ⟨rfl, x0, x2, x3, x4, x5, x6, x7, x8, x9, x10, x11, x12, x13, x14, x15, x16, x17, x18, x19, x20, x21, x22, x23, x24, x25, x26, x27, x28, x29, x30, x31, x32, x33, x34, x35, x36, x38, x39, x40, x41, x42, x43, x44, x45, x46, x47, x48, x49, x50, x51, x52, x53, x54, x55, x56, x57, x58, x59, x60, x61, x62, x63, x64, x65, x66, x67, x68, x69, x70, x71, x72, x73, x74, x75, x76, u, hu, rfl⟩
 simp only [List.append_eq, List.cons_append, List.nil_append, List.drop_succ_cons, List.drop_zero]
 have HU37 := Lib.hid hu
 clear hu
 cases u
 ·go_wp2_with fail
  go_ret
  refine ⟨?_, B0.out⟩
  simp [← HU21.out, ← HU37.out]
 refine zCg 11 (zMP q W0 (flg a 4 || e == 0)) ?_ ?_
 ·simp only [List.append_eq, List.cons_append, List.nil_append, List.take_succ_cons, List.take_zero]
  by_cases h1 : flg a 4 = true
  ·have f1 : (bits .and .u32 a 4 != 0) = true := h1
   go_wp2_with fail
   exact ⟨rfl, _, _, _, _, _, _, _, _, _, _, _, _, _, _, _, _, _, _, _, _, _, _, _, _, _, _, _, _, _, _, _, _, _, _, _, _, _, _, _, _, _, _, _, _, _, _, _, _, _, _, _, _, _, _, _, _, _, _, _, _, _, _, _, _, _, _, _, _, _, _, _, _, _, _, _, true, by simp [h1], rfl⟩
  ·have f1 : (bits .and .u32 a 4 != 0) = false := by simpa [flg] using h1
   by_cases h2 : e = 0
   ·have g_e : (e == 0) = true := by simp [h2]
    go_wp2_with fail
    exact ⟨rfl, _, _, _, _, _, _, _, _, _, _, _, _, _, _, _, _, _, _, _, _, _, _, _, _, _, _, _, _, _, _, _, _, _, _, _, _, _, _, _, _, _, _, _, _, _, _, _, _, _, _, _, _, _, _, _, _, _, _, _, _, _, _, _, _, _, _, _, _, _, _, _, _, _, _, _, true, by simp [h2], rfl⟩
   ·have g_e : (e == 0) = false := by simp [h2]
    go_wp2_with fail
    exact ⟨rfl, _, _, _, _, _, _, _, _, _, _, _, _, _, _, _, _, _, _, _, _, _, _, _, _, _, _, _, _, _, _, _, _, _, _, _, _, _, _, _, _, _, _, _, _, _, _, _, _, _, _, _, _, _, _, _, _, _, _, _, _, _, _, _, _, _, _, _, _, _, _, _, _, _, _, _, false, by simp [h1, h2], rfl⟩
 rintro a' w' ⟨rfl, x0, x2, x3, x4, x5, x6, x7, x8, x9, x10, x11, x12, x13, x14, x15, x16, x17, x18, x19, x20, x21, x22, x23, x24, x25, x26, x27, x28, x29, x30, x31, x32, x33, x34, x35, x36, x37, x38, x39, x40, x41, x42, x43, x44, x45, x46, x47, x49, x50, x51, x52, x53, x54, x55, x56, x57, x58, x59, x60, x61, x62, x63, x64, x65, x66, x67, x68, x69, x70, x71, x72, x73, x74, x75, x76, u, hu, rfl⟩
 simp only [List.append_eq, List.cons_append, List.nil_append, List.drop_succ_cons, List.drop_zero]
 have HU48 := Lib.hid hu
 clear hu
 cases u
 ·go_wp2_with fail
  go_ret
  refine ⟨?_, B0.out⟩
  simp [← HU21.out, ← HU37.out, ← HU48.out]
 refine zCg 16 (zMQ q W0 (flg a 8 || (f == 0 && g == 0))) ?_ ?_
 ·simp only [List.append_eq, List.cons_append, List.nil_append, List.take_succ_cons, List.take_zero]
  by_cases h1 : flg a 8 = true
  ·have f1 : (bits .and .u32 a 8 != 0) = true := h1
   go_wp2_with fail
   exact ⟨rfl, _, _, _, _, _, _, _, _, _, _, _, _, _, _, _, _, _, _, _, _, _, _, _, _, _, _, _, _, _, _, _, _, _, _, _, _, _, _, _, _, _, _, _, _, _, _, _, _, _, _, _, _, _, _, _, _, _, _, _, _, _, _, _, _, _, _, _, _, _, _, _, _, _, _, _, true, by simp [h1], rfl⟩
  ·have f1 : (bits .and .u32 a 8 != 0) = false := by simpa [flg] using h1
   by_cases h2 : f = 0
   ·have g_f : (f == 0) = true := by simp [h2]
    by_cases h3 : g = 0
    ·have g_g : (g == 0) = true := by simp [h3]
     go_wp2_with fail
     exact ⟨rfl, _, _, _, _, _, _, _, _, _, _, _, _, _, _, _, _, _, _, _, _, _, _, _, _, _, _, _, _, _, _, _, _, _, _, _, _, _, _, _, _, _, _, _, _, _, _, _, _, _, _, _, _, _, _, _, _, _, _, _, _, _, _, _, _, _, _, _, _, _, _, _, _, _, _, _, true, by simp [h2, h3], rfl⟩
    ·have g_g : (g == 0) = false := by simp [h3]
     go_wp2_with fail
     exact ⟨rfl, _, _, _, _, _, _, _, _, _, _, _, _, _, _, _, _, _, _, _, _, _, _, _, _, _, _, _, _, _, _, _, _, _, _, _, _, _, _, _, _, _, _, _, _, _, _, _, _, _, _, _, _, _, _, _, _, _, _, _, _, _, _, _, _, _, _, _, _, _, _, _, _, _, _, _, false, by simp [h1, h2, h3], rfl⟩
   ·have g_f : (f == 0) = false := by simp [h2]
    go_wp2_with fail
    exact ⟨rfl, _, _, _, _, _, _, _, _, _, _, _, _, _, _, _, _, _, _, _, _, _, _, _, _, _, _, _, _, _, _, _, _, _, _, _, _, _, _, _, _, _, _, _, _, _, _, _, _, _, _, _, _, _, _, _, _, _, _, _, _, _, _, _, _, _, _, _, _, _, _, _, _, _, _, _, false, by simp [h1, h2], rfl⟩
 rintro a' w' ⟨rfl, x0, x2, x3, x4, x5, x6, x7, x8, x9, x10, x11, x12, x13, x14, x15, x16, x17, x18, x19, x20, x21, x22, x23, x24, x25, x26, x27, x28, x29, x30, x31, x32, x33, x34, x35, x36, x37, x38, x39, x40, x41, x42, x43, x44, x45, x46, x47, x48, x49, x50, x51, x52, x53, x54, x55, x56, x57, x58, x59, x60, x61, x62, x63, x65, x66, x67, x68, x69, x70, x71, x72, x73, x74, x75, x76, u, hu, rfl⟩
 simp only [List.append_eq, List.cons_append, List.nil_append, List.drop_succ_cons, List.drop_zero]
 have HU64 := Lib.hid hu
 clear hu
 cases u
 ·go_wp2_with fail
  go_ret
  refine ⟨?_, B0.out⟩
  simp [← HU21.out, ← HU37.out, ← HU48.out, ← HU64.out]
 by_cases h1 : flg a 2147483648 = true
 ·have f1 : (bits .and .u32 a 2147483648 != 0) = true := h1
  go_wp2_with fail
  go_ret
  refine ⟨?_, B0.out⟩
  simp [h1, ← HU21.out, ← HU37.out, ← HU48.out, ← HU64.out]
 ·have f1 : (bits .and .u32 a 2147483648 != 0) = false := by simpa [flg] using h1
  have h2 : flg a 2147483648 = false := by simpa using h1
  go_wp2_with fail
  go_ret
  refine ⟨?_, B0.out⟩
  simp [h2, ← HU21.out, ← HU37.out, ← HU48.out, ← HU64.out]
  rw [Bool.eq_iff_iff]
  simp
section
variable {P : Program} {ops : Array Oper} {o : Oper} {a : Act} {w : World} {K : Act → World → Prop} {Q : Exit → Act → World → Prop} {E : Prop}
end
def iC : List S52 → List Value
 | [] => []
 | e :: r => .string e.f0 :: .string e.f1 :: iC r
theorem zLD (l : List S52) : (iC l).length = l.length * 2 := by
 induction l with
 | nil => rfl
 | cons e r ih => simp [iC, ih]; omega
theorem zNH (l : List S52) : ∀ u ∈ iC l, u.oneCell' = true := by
 induction l with
 | nil => intro u h; simp [iC] at h
 | cons e r ih =>
  intro u h
  rcases List.mem_cons.1 h with rfl | h
  ·rfl
  ·rcases List.mem_cons.1 h with rfl | h
   ·rfl
   ·exact ih u h
theorem zLE (l : List S52) (j : Nat) (e : S52) (h : l[j]? = some e) : (iC l)[j * 2]? = some (.string e.f0) ∧ (iC l)[j * 2 + 1]? = some (.string e.f1) := by
 induction l generalizing j with
 | nil => simp at h
 | cons x r ih =>
  match j with
  | 0 =>
   obtain rfl : x = e := by simpa using h
   exact ⟨rfl, rfl⟩
  | j + 1 =>
   have := ih j (by simpa using h)
   rw [show (j + 1) * 2 = j * 2 + 1 + 1 from by omega]
   exact this
theorem zHX {w : World} {A : Option Addr} {l : List S52} (h : Kd.C k52 w A l.length l) (hl : 0 < l.length) : ∃ x p, A = some ⟨x, p, none⟩ ∧ x < w.heap.size ∧ ∀ j u, (iC l)[j]? = some u → w.cell? (Addr.add ⟨x, p, none⟩ j) = some u := by
 obtain ⟨ad, rfl, h0, _⟩ := zCI h 0 (by omega) (by omega)
 have hsp : ad.spot = none := by
  have := zJN h0
  simpa [Addr.add] using this
 obtain ⟨x, p, sp⟩ := ad
 have hsp' : sp = none := hsp
 subst hsp'
 refine ⟨x, p, rfl, by have := World.block_lt_of_cell? w _ h0; simpa [Addr.add] using this, fun j u hu => ?_⟩
 have hj : j < l.length * 2 := by rw [← zLD]; exact (List.getElem?_eq_some_iff.1 hu).1
 have hk : j / 2 < l.length := by omega
 obtain ⟨ad, e1, h1, h2⟩ := zCI h ((j / 2 : Nat) : Int) (by omega) (by omega)
 obtain rfl := Option.some.inj e1
 have he : l[j / 2]? = some l[j / 2] := List.getElem?_eq_getElem hk
 have hr : zA7 l ((j / 2 : Nat) : Int) = l[j / 2] := by
  unfold zA7
  rw [Int.toNat_natCast, List.getD_eq_getElem?_getD, he]
  rfl
 rw [hr, Int.toNat_natCast] at h1 h2
 rw [add_plain] at h1 h2 ⊢
 obtain ⟨g1, g2⟩ := zLE l _ _ he
 rcases Nat.mod_two_eq_zero_or_one j with hm | hm
 ·have e : j / 2 * 2 = j := by omega
  rw [e] at g1 h1
  rw [g1] at hu
  rw [h1, Option.some.inj hu]
 ·have e : j / 2 * 2 + 1 = j := by omega
  rw [e] at g2
  rw [show p + j / 2 * 2 + 1 = p + j from by omega] at h2
  rw [g2] at hu
  rw [h2, Option.some.inj hu]
theorem zNw : (Tryz.prog.info? 52).map (fun i => (i.zero, i.size, i.bytes)) = some (some (.agg #[.string ⟨#[]⟩, .string ⟨#[]⟩]), 2, 32) := by kernel_rfl
theorem blk_below {w w' : World} {b : Nat} {o : Obj} (hb : Below w.heap.size w w') (h : w.heap[b]? = some o) : w'.heap[b]? = some o := by
 have : b < w.heap.size := (Array.getElem?_eq_some_iff.1 h).1
 rw [hb.block _ this]; exact h
def zB3 : List S52 → Nat
 | [] => 0
 | e :: r => e.f0.size + e.f1.size + zB3 r
theorem zCw (a b : List S52) : zB3 (a ++ b) = zB3 a + zB3 b := by
 induction a with
 | nil => simp [zB3]
 | cons x r ih => simp [zB3, ih]; omega
theorem zJO (l : List S52) (h : ∀ e ∈ l, e.f0.size ≤ 2147483647 ∧ e.f1.size ≤ 2147483647) : zB3 l ≤ l.length * 4294967294 := by
 induction l with
 | nil => simp [zB3]
 | cons x r ih =>
  have h1 := h x List.mem_cons_self
  have h2 := ih (fun e he => h e (List.mem_cons_of_mem _ he))
  simp only [zB3, List.length_cons]
  omega
structure UpdG (g o q : Nat) (w w' : World) : Prop extends UpdB (fun k => k = g ∨ k = q) w w' where
 low : ∀ i, i < o → w'.cell? ⟨g, i, none⟩ = w.cell? ⟨g, i, none⟩
theorem UpdG.refl (g o q : Nat) (w : World) : UpdG g o q w w := ⟨UpdB.refl _ _, fun _ _ => rfl⟩
theorem UpdG.trans {g o q : Nat} {w w1 w2 : World} (h1 : UpdG g o q w w1) (h2 : UpdG g o q w1 w2) : UpdG g o q w w2 := ⟨h1.toUpdB.trans h2.toUpdB, fun i hi => (h2.low i hi).trans (h1.low i hi)⟩
theorem UpdG.keep {g o q : Nat} {w w1 w2 : World} (h1 : UpdG g o q w w1) (h2 : UpdB (fun k => k = g ∨ k = q) w1 w2) (hg : w2.heap[g]? = w1.heap[g]?) : UpdG g o q w w2 := ⟨h1.toUpdB.trans h2, fun i hi => (cell_kept hg).trans (h1.low i hi)⟩
theorem UpdR.updG {g o q : Nat} {w w1 : World} (h : UpdR g o w w1) : UpdG g o q w w1 := ⟨h.updB (.inl rfl), fun i hi => h.cell i (by omega) (by omega)⟩
structure RSt (w0 w : World) (g o s q : Nat) (t : TypeId) (r : Option (List UInt8)) (cs : Array Value) : Prop where
 rb : RBuf w g o s r
 blk : w.heap[q]? = some (.cells cs t (0, 0))
 upd : UpdG g o q w0 w
section
variable {w0 w w1 : World} {g o s q : Nat} {t : TypeId} {r r1 : Option (List UInt8)} {cs : Array Value}
theorem RSt.consumed (h : RSt w0 w g o s q t r cs) (hq : q ≠ g) (hb : RBuf w1 g o s r1) (u : UpdR g o w w1) : RSt w0 w1 g o s q t r1 cs :=
 ⟨hb, (u.block q (zAC h.blk) hq).trans h.blk, h.upd.trans u.updG⟩
theorem RSt.set (h : RSt w0 w g o s q t r cs) (hq : q ≠ g) (hs : q ≠ s) (i : Nat) (v : Value) : RSt w0 (w.setCell ⟨q, i, none⟩ v) g o s q t r (cs.setIfInBounds i v) :=
 ⟨h.rb.kept (Below.heap_setCell _ _ _ _ (Ne.symm hq)) (Below.heap_setCell _ _ _ _ (Ne.symm hs)) (by simp [World.setCell]), zAT h.blk _, h.upd.keep ((UpdB.refl _ _).setCell (.inr rfl) _) (Below.heap_setCell _ _ _ _ (Ne.symm hq))⟩
theorem RSt.cell (h : RSt w0 w g o s q t r cs) (i : Nat) : w.cell? ⟨q, i, none⟩ = cs[i]? := zAA h.blk i
theorem RSt.frz (h : RSt w0 w g o s q t r cs) (i : Nat) : w.frozen? ⟨q, i, none⟩ = false := zAP h.blk i
theorem zHY (h : RSt w0 w g o s q t r cs) (hq : q ≠ g) : Calls Tryz.prog 68 #[.pointer (some ⟨g, o, none⟩)] w fun e w' => e = .returned (.int .u32 (c32 r).1) ∧ RSt w0 w' g o s q t (c32 r).2 cs :=
 (zC3 g o s r w h.rb).mono fun _ _ ⟨he, hb, u⟩ => ⟨he, h.consumed hq hb u⟩
theorem zNx (h : RSt w0 w g o s q t r cs) (hq : q ≠ g) : Calls Tryz.prog 112 #[.pointer (some ⟨g, o, none⟩)] w fun e w' => e = .returned (.int .u64 (c64 r).1) ∧ RSt w0 w' g o s q t (c64 r).2 cs :=
 (zJd g o s r w h.rb).mono fun _ _ ⟨he, hb, u⟩ => ⟨he, h.consumed hq hb u⟩
theorem zLF (h : RSt w0 w g o s q t r cs) (hq : q ≠ g) : Calls Tryz.prog 78 #[.pointer (some ⟨g, o, none⟩)] w fun e w' => e = .returned (.string (bs (cB r).1)) ∧ RSt w0 w' g o s q t (cB r).2 cs :=
 (zDS g o s r w h.rb).mono fun _ _ ⟨he, hb, u⟩ => ⟨he, h.consumed hq hb u⟩
end
def zAg (pre : List Value) (a b c d e f g : Int) (v : Value) (post : List Value) : Array Value := (pre ++ (.int .u32 a :: .int .u64 b :: .int .u32 c :: .int .u32 d :: .int .u32 e :: .int .u32 f :: .int .u32 g :: v :: post)).toArray
section
variable (pre post : List Value) (a b c d e f g x : Int) (v u : Value)
theorem zBV (i : Nat) (h : i < 8) : (zAg pre a b c d e f g v post)[pre.length + i]? = (at8 a b c d e f g v)[i]? := by
 unfold zAg
 rw [List.getElem?_toArray, List.getElem?_append_right (by omega)]
 rw [show pre.length + i - pre.length = i from by omega]
 rcases (by omega : i = 0 ∨ i = 1 ∨ i = 2 ∨ i = 3 ∨ i = 4 ∨ i = 5 ∨ i = 6 ∨ i = 7) with rfl | rfl | rfl | rfl | rfl | rfl | rfl | rfl <;> rfl
theorem zCZ (l m : List Value) (i : Nat) (y : Value) : (l ++ m).toArray.setIfInBounds (l.length + i) y = (l ++ m.set i y).toArray := by
 rw [List.setIfInBounds_toArray, List.set_append_right _ _ (by omega)]
 rw [show l.length + i - l.length = i from by omega]
theorem zNI : (zAg pre a b c d e f g v post).setIfInBounds (pre.length + 0) (.int .u32 x) = zAg pre x b c d e f g v post := zCZ _ _ _ _
theorem zNJ : (zAg pre a b c d e f g v post).setIfInBounds (pre.length + 1) (.int .u64 x) = zAg pre a x c d e f g v post := zCZ _ _ _ _
theorem zNK : (zAg pre a b c d e f g v post).setIfInBounds (pre.length + 2) (.int .u32 x) = zAg pre a b x d e f g v post := zCZ _ _ _ _
theorem zNL : (zAg pre a b c d e f g v post).setIfInBounds (pre.length + 3) (.int .u32 x) = zAg pre a b c x e f g v post := zCZ _ _ _ _
theorem zNM : (zAg pre a b c d e f g v post).setIfInBounds (pre.length + 4) (.int .u32 x) = zAg pre a b c d x f g v post := zCZ _ _ _ _
theorem zNN : (zAg pre a b c d e f g v post).setIfInBounds (pre.length + 5) (.int .u32 x) = zAg pre a b c d e x g v post := zCZ _ _ _ _
theorem zNO : (zAg pre a b c d e f g v post).setIfInBounds (pre.length + 6) (.int .u32 x) = zAg pre a b c d e f x v post := zCZ _ _ _ _
theorem zNP : (zAg pre a b c d e f g v post).setIfInBounds (pre.length + 7) u = zAg pre a b c d e f g u post := zCZ _ _ _ _
end
def d1 (a : Int) (r : Option (List UInt8)) : Int × Option (List UInt8) := if flg a 1 then c64 r else (0, r)
def dd (r : Option (List UInt8)) : (Int × Int) × Option (List UInt8) := (((c32 r).1, (c32 (c32 r).2).1), (c32 (c32 r).2).2)
def d2 (a : Int) (r : Option (List UInt8)) : (Int × Int) × Option (List UInt8) := if flg a 2 then dd r else ((0, 0), r)
def d4 (a : Int) (r : Option (List UInt8)) : Int × Option (List UInt8) := if flg a 4 then c32 r else (0, r)
def d8 (a : Int) (r : Option (List UInt8)) : (Int × Int) × Option (List UInt8) := if flg a 8 then dd r else ((0, 0), r)
def xD : Nat → Option (List UInt8) → List zAu × Option (List UInt8)
 | 0, r => ([], r)
 | n + 1, r => (⟨bs (cB r).1, bs (cB (cB r).2).1⟩ :: (xD n (cB (cB r).2).2).1, (xD n (cB (cB r).2).2).2)
def dX (a : Int) (r : Option (List UInt8)) : List zAu × Option (List UInt8) := if flg a 2147483648 then xD (c32 r).1.toNat (c32 r).2 else ([], r)
def exC : List zAu → List Value
 | [] => []
 | e :: r => .string e.f0 :: .string e.f1 :: exC r
theorem zMR (l : List zAu) : (exC l).length = 2 * l.length := by
 induction l with
 | nil => rfl
 | cons e r ih => simp [exC, ih]; omega
theorem zMS (l m : List zAu) : exC (l ++ m) = exC l ++ exC m := by
 induction l with
 | nil => rfl
 | cons e r ih => simp [exC, ih]
def zCx (w : World) (B : Nat) (v : Value) (l : List zAu) : Prop :=
 (v = .slice none 0 0 ∧ l = []) ∨ ∃ h, v = .slice (some ⟨h, 0, none⟩) l.length l.length ∧ B ≤ h ∧ h < w.heap.size ∧ w.heap[h]? = some (.cells (exC l).toArray 206 (0, 0))
def zl (m : Nat) : List Value := List.replicate m (.string ⟨#[]⟩)
theorem zLG (m : Nat) : zl (2 * (m + 1)) = .string ⟨#[]⟩ :: .string ⟨#[]⟩ :: zl (2 * m) := by
 rw [show 2 * (m + 1) = 2 * m + 1 + 1 from by omega]; rfl
theorem zNy (n : Nat) : madeCells #[.string ⟨#[]⟩, .string ⟨#[]⟩] (n * 2) = (zl (2 * n)).toArray := by
 apply Array.ext
 ·simp [madeCells, zl]; omega
 ·intro i h1 h2
  have hm : i % 2 = 0 ∨ i % 2 = 1 := by omega
  rcases hm with hm | hm <;> simp [madeCells, zl, hm]
theorem zNz : (Tryz.prog.info? 206).map (fun i => (i.zero, i.size, i.bytes)) = some (some (.agg #[.string ⟨#[]⟩, .string ⟨#[]⟩]), 2, 32) := by kernel_rfl
theorem zOA (n : Nat) (hn : n ≤ 4294967295) (w : World) : (Instr.makeSlice 114 (.int .i64 (n : Int)) (.int .i64 (n : Int))).run Tryz.prog w = .ok (.slice (some ⟨w.heap.size, 0, none⟩) n n) (w.alloc (.cells (zl (2 * n)).toArray 206)) := by
 obtain ⟨i, hi, hzz⟩ := Option.map_eq_some_iff.1 zNz
 simp only [Prod.mk.injEq] at hzz
 obtain ⟨hz, hs, hb⟩ := hzz
 have hr := run_make (P := Tryz.prog) w 114 206 i (.agg #[.string ⟨#[]⟩, .string ⟨#[]⟩]) Tryz.underlying114 hi hz .i64 .i64 n n (by omega) (Int.le_refl _) (by rw [hb]; omega) (by omega)
 simp only [Int.toNat_natCast, hs] at hr
 rw [hr, show (Value.agg #[.string ⟨#[]⟩, .string ⟨#[]⟩]).cells = #[.string ⟨#[]⟩, .string ⟨#[]⟩] from rfl, zNy]
theorem zMT (x g o s : Nat) (P Q : List Value) (u0 u1 : Value) (r : Option (List UInt8)) (w : World) (hx : w.heap[x]? = some (.cells (P ++ u0 :: u1 :: Q).toArray 206 (0, 0))) (hxg : x ≠ g) (hxs : x ≠ s) (hb : RBuf w g o s r) :
  Calls Tryz.prog 114 #[.pointer (some ⟨x, P.length, none⟩), .pointer (some ⟨g, o, none⟩)] w fun e w' => (∃ v, e = .returned v) ∧ RSt w w' g o s x 206 (cB (cB r).2).2 (P ++ .string (bs (cB r).1) :: .string (bs (cB (cB r).2).1) :: Q).toArray := by
 have C := Lib.hid (zLF (w0 := w) ⟨hb, hx, UpdG.refl _ _ _ _⟩ hxg)
 clear hx hb
 go_enter Tryz.func114, Tryz.ntmps114
 go_wp2_with fail
 refine C.out.mono ?_
 rintro e w1 ⟨rfl, h1⟩
 have D := Lib.hid (zLF h1 hxg)
 clear h1 C
 generalize hA1 : (cB r).1 = s1 at *
 have A1 := Lib.hid hA1
 clear hA1
 generalize hA2 : (cB r).2 = r1 at *
 have A2 := Lib.hid hA2
 clear hA2
 go_wp2_with fail
 refine D.out.mono ?_
 rintro e w2 ⟨rfl, h2⟩
 generalize hA3 : (cB r1).1 = s2 at *
 have A3 := Lib.hid hA3
 clear hA3
 generalize hA4 : (cB r1).2 = r2 at *
 have A4 := Lib.hid hA4
 clear hA4
 have c0 : w2.cell? ⟨x, P.length, none⟩ = some u0 := by rw [h2.cell, List.getElem?_toArray, List.getElem?_append_right (by omega)]; simp
 have c1 : w2.cell? ⟨x, P.length + 1, none⟩ = some u1 := by rw [h2.cell, List.getElem?_toArray, List.getElem?_append_right (by omega)]; simp
 have f0 := h2.frz P.length
 have f1 := h2.frz (P.length + 1)
 have h3 := (h2.set hxg hxs P.length (.string (bs s1))).set hxg hxs (P.length + 1) (.string (bs s2))
 have hs : ((P ++ u0 :: u1 :: Q).toArray.setIfInBounds P.length (.string (bs s1))).setIfInBounds (P.length + 1) (.string (bs s2)) = (P ++ .string (bs s1) :: .string (bs s2) :: Q).toArray := by
  have e0 : (P ++ u0 :: u1 :: Q).toArray.setIfInBounds P.length (.string (bs s1)) = (P ++ .string (bs s1) :: u1 :: Q).toArray := zCZ P (u0 :: u1 :: Q) 0 _
  rw [e0]
  exact zCZ P (.string (bs s1) :: u1 :: Q) 1 _
 rw [hs] at h3
 obtain ⟨v, cv, _⟩ := h3.rb.err
 generalize hW : (w2.setCell ⟨x, P.length, none⟩ (.string (bs s1))).setCell ⟨x, P.length + 1, none⟩ (.string (bs s2)) = W at *
 have H3 := Lib.hid h3
 clear h2 h3 hs D
 go_wp2_with fail
 go_ret
 exact ⟨⟨_, rfl⟩, by rw [A1.out, A2.out, A3.out, A4.out]; exact H3.out⟩
theorem RSt.alloc {w0 w : World} {g o s q : Nat} {t : TypeId} {r : Option (List UInt8)} {cs : Array Value} (h : RSt w0 w g o s q t r cs) (x : Obj) : RSt w0 (w.alloc x) g o s q t r cs :=
 ⟨h.rb.kept (heap_alloc_old _ _ h.rb.lt.1) (heap_alloc_old _ _ h.rb.lt.2) (by simp), (heap_alloc_old _ _ (zAC h.blk)).trans h.blk, h.upd.keep ⟨rfl, rfl, rfl, by simp, fun k hk _ => heap_alloc_old _ _ hk⟩ (heap_alloc_old _ _ h.rb.lt.1)⟩
theorem zJP {w0 w : World} {g o s q : Nat} {t : TypeId} {r : Option (List UInt8)} {cs : Array Value} (h : RSt w0 w g o s q t r cs) (hq : q ≠ g) : Calls Tryz.prog 113 #[.pointer (some ⟨g, o, none⟩)] w fun e w' => e = .returned (.int .i64 (c32 r).1) ∧ RSt w0 w' g o s q t (c32 r).2 cs := by
 have hx := zDC r
 have C := Lib.hid (zHY h hq)
 clear h
 generalize (c32 r).1 = x at *
 generalize (c32 r).2 = r1 at *
 obtain ⟨x0, x1⟩ := hx
 go_enter Tryz.func113, Tryz.ntmps113
 go_wp2_with fail
 refine C.out.mono ?_
 rintro e w1 ⟨rfl, h1⟩
 have H := Lib.hid h1
 clear h1 C
 go_wp2_with fail
 go_ret
 exact ⟨rfl, H.out⟩
theorem zO9 : flg 0 1 = false ∧ flg 0 2 = false ∧ flg 0 4 = false ∧ flg 0 8 = false ∧ flg 0 2147483648 = false := ⟨by kernel_rfl, by kernel_rfl, by kernel_rfl, by kernel_rfl, by kernel_rfl⟩
def adR (a : Int) (r : Option (List UInt8)) : Option (List UInt8) := (dX a (d8 a (d4 a (d2 a (d1 a r).2).2).2).2).2
def adL (a : Int) (r : Option (List UInt8)) : List zAu := (dX a (d8 a (d4 a (d2 a (d1 a r).2).2).2).2).1
def adC (pre : List Value) (a : Int) (r : Option (List UInt8)) (v : Value) (post : List Value) : Array Value :=
 zAg pre a (d1 a r).1 (d2 a (d1 a r).2).1.1 (d2 a (d1 a r).2).1.2 (d4 a (d2 a (d1 a r).2).2).1 (d8 a (d4 a (d2 a (d1 a r).2).2).2).1.1 (d8 a (d4 a (d2 a (d1 a r).2).2).2).1.2 v post
def zJo (q : Nat) (t : TypeId) (g o s : Nat) (pre : List Value) (a : Int) (r : Option (List UInt8)) (post : List Value) (w : World) (e : Ending) (w' : World) : Prop :=
 ∃ v ev, e = .returned ev ∧ zGz (adR a r) ev ∧ zCx w' w.heap.size v (adL a r) ∧ RSt w w' g o s q t (adR a r) (adC pre a r v post)
def LInv (w wr : World) (g o s q h n : Nat) (t : TypeId) (cs : Array Value) (r0 : Option (List UInt8)) (k : Nat) : Prop :=
 ∃ done rk, done.length = k ∧ xD n r0 = (done ++ (xD (n - k) rk).1, (xD (n - k) rk).2) ∧ RSt w wr g o s q t rk cs ∧ wr.heap[h]? = some (.cells (exC done ++ zl (2 * (n - k))).toArray 206 (0, 0))
theorem LInv.step {w wr w' : World} {g o s q h n k : Nat} {t : TypeId} {cs : Array Value} {r0 rk : Option (List UInt8)} {done : List zAu} (hk : k < n) (hd : done.length = k) (hx : xD n r0 = (done ++ (xD (n - k) rk).1, (xD (n - k) rk).2)) (hR : RSt w wr g o s q t rk cs)
  (hqh : q ≠ h) (hqg : q ≠ g) (hh : w.heap.size ≤ h) (h2 : RSt wr w' g o s h 206 (cB (cB rk).2).2 (exC done ++ .string (bs (cB rk).1) :: .string (bs (cB (cB rk).2).1) :: zl (2 * (n - (k + 1)))).toArray) : LInv w w' g o s q h n t cs r0 (k + 1) := by
 have e1 : n - k = (n - (k + 1)) + 1 := by omega
 refine ⟨done ++ [⟨bs (cB rk).1, bs (cB (cB rk).2).1⟩], (cB (cB rk).2).2, by simp [hd], ?_, ⟨h2.rb, ?_, ?_⟩, ?_⟩
 ·rw [hx, e1, xD]; simp
 ·rw [h2.upd.block q (zAC hR.blk) (by omega)]; exact hR.blk
 ·exact ⟨⟨h2.upd.os.trans hR.upd.os, h2.upd.tape.trans hR.upd.tape, h2.upd.output.trans hR.upd.output, Nat.le_trans hR.upd.size h2.upd.size, fun k hk e => (h2.upd.block k (by have := hR.upd.size; omega) (by omega)).trans (hR.upd.block k hk e)⟩, fun i hi => (h2.upd.low i hi).trans (hR.upd.low i hi)⟩
 ·rw [h2.blk, zMS]; simp [exC]
set_option maxRecDepth 100000 in
theorem zMU (q g o s : Nat) (t : TypeId) (pre post : List Value) (a : Int) (r : Option (List UInt8)) (w : World) (hq : w.heap[q]? = some (.cells (zAg pre 0 0 0 0 0 0 0 (.slice none 0 0) post) t (0, 0))) (hqg : q ≠ g) (hqs : q ≠ s) (hb : RBuf w g o s r) (ga : zAc a) :
  Calls Tryz.prog 111 #[.pointer (some ⟨q, pre.length, none⟩), .int .u32 a, .pointer (some ⟨g, o, none⟩)] w (zJo q t g o s pre a r post w) := by
 have h0 : RSt w w g o s q t r (zAg pre 0 0 0 0 0 0 0 (.slice none 0 0) post) := ⟨hb, hq, UpdG.refl _ _ _ _⟩
 have hgs := hb.lt
 have hqs' := zAC hq
 have c0 : w.cell? ⟨q, pre.length, none⟩ = some (.int .u32 0) := by rw [h0.cell]; exact zBV pre post 0 0 0 0 0 0 0 _ 0 (by omega)
 have f0 := h0.frz pre.length
 have h1 := h0.set hqg hqs (pre.length + 0) (.int .u32 a)
 rw [zNI] at h1
 obtain ⟨ga0, ga1⟩ := ga
 obtain ⟨W0, hW0⟩ : ∃ W, w.setCell ⟨q, pre.length, none⟩ (.int .u32 a) = W := ⟨_, rfl⟩
 have h1' : RSt w W0 g o s q t r (zAg pre a 0 0 0 0 0 0 (.slice none 0 0) post) := by rw [← hW0]; exact h1
 have d0 : W0.cell? ⟨q, pre.length, none⟩ = some (.int .u32 a) := by rw [h1'.cell]; exact zBV pre post a 0 0 0 0 0 0 _ 0 (by omega)
 clear h0 h1 hq hb
 by_cases hz : a = 0
 ·subst hz
  obtain ⟨z1, z2, z4, z8, zX⟩ := zO9
  have e1 : adR 0 r = r := by simp [adR, d1, d2, d4, d8, dX, z1, z2, z4, z8, zX]
  have e2 : adL 0 r = [] := by simp [adL, d1, d2, d4, d8, dX, z1, z2, z4, z8, zX]
  have e3 : adC pre 0 r (.slice none 0 0) post = zAg pre 0 0 0 0 0 0 0 (.slice none 0 0) post := by simp [adC, d1, d2, d4, d8, z1, z2, z4, z8]
  obtain ⟨ev, cv, he⟩ := h1'.rb.err
  have F := Lib.hid (show zJo q t g o s pre 0 r post w (.returned ev) W0 from ⟨_, ev, rfl, by rw [e1]; exact he, .inl ⟨rfl, e2⟩, by rw [e1, e3]; exact h1'⟩)
  clear e1 e2 e3 h1' he z1 z2 z4 z8 zX
  go_enter Tryz.func111, Tryz.ntmps111
  go_wp2_with fail
  go_ret
  exact F.out
 have hz2 : (a == 0) = false := by simp [hz]
 have H1 := Lib.hid h1'
 clear h1' hz
 go_enter Tryz.func111, Tryz.ntmps111
 go_upto_if 27 with (fail)
 go_cut [] (fun wx => RSt w wx g o s q t (d1 a r).2 (zAg pre a (d1 a r).1 0 0 0 0 0 (.slice none 0 0) post))
 case first =>
  cases hf : (bits .and .u32 a 1 != 0) with
  | true =>
   have E := Lib.hid (show d1 a r = c64 r by unfold d1 flg; rw [hf]; rfl)
   go_wp2_with fail
   refine (zNx H1.out hqg).mono ?_
   rintro e w2 ⟨rfl, h2⟩
   have c1 : w2.cell? ⟨q, pre.length + 1, none⟩ = some (.int .u64 0) := by rw [h2.cell]; exact zBV pre post _ _ _ _ _ _ _ _ 1 (by omega)
   have f1 := h2.frz (pre.length + 1)
   have h3 := h2.set hqg hqs (pre.length + 1) (.int .u64 (c64 r).1)
   rw [zNJ] at h3
   have G0 := Lib.hid h3
   clear h2 h3
   go_wp2_with fail
   go_meet
   rw [E.out]
   exact G0.out
  | false =>
   have E := Lib.hid (show d1 a r = (0, r) by unfold d1 flg; rw [hf]; rfl)
   go_wp2_with fail
   go_meet
   rw [E.out]
   exact H1.out
 case rest =>
  obtain ⟨V2, rfl⟩ : ∃ V : World, V = wc := ⟨_, rfl⟩
  have H2 := Lib.hid hcut
  have d0 : V2.cell? ⟨q, pre.length, none⟩ = some (.int .u32 a) := by rw [hcut.cell]; exact zBV pre post a _ _ _ _ _ _ _ 0 (by omega)
  clear hcut
  go_upto_if 38 with (fail)
  go_cut [] (fun wx => RSt w wx g o s q t (d2 a (d1 a r).2).2 (zAg pre a (d1 a r).1 (d2 a (d1 a r).2).1.1 (d2 a (d1 a r).2).1.2 0 0 0 (.slice none 0 0) post))
  case first =>
   cases hf : (bits .and .u32 a 2 != 0) with
   | true =>
    have E := Lib.hid (show d2 a (d1 a r).2 = dd (d1 a r).2 by unfold d2 flg; rw [hf]; rfl)
    go_wp2_with fail
    refine (zHY H2.out hqg).mono ?_
    rintro e w2 ⟨rfl, h2⟩
    have c2 : w2.cell? ⟨q, pre.length + 2, none⟩ = some (.int .u32 0) := by rw [h2.cell]; exact zBV pre post _ _ _ _ _ _ _ _ 2 (by omega)
    have f2 := h2.frz (pre.length + 2)
    have h3 := h2.set hqg hqs (pre.length + 2) (.int .u32 (c32 (d1 a r).2).1)
    rw [zNK] at h3
    have G0 := Lib.hid h3
    clear h2 h3
    go_wp2_with fail
    refine (zHY G0.out hqg).mono ?_
    rintro e w3 ⟨rfl, h2⟩
    have c3 : w3.cell? ⟨q, pre.length + 3, none⟩ = some (.int .u32 0) := by rw [h2.cell]; exact zBV pre post _ _ _ _ _ _ _ _ 3 (by omega)
    have f3 := h2.frz (pre.length + 3)
    have h3 := h2.set hqg hqs (pre.length + 3) (.int .u32 (c32 (c32 (d1 a r).2).2).1)
    rw [zNL] at h3
    have G1 := Lib.hid h3
    clear h2 h3
    go_wp2_with fail
    go_meet
    rw [E.out]
    exact G1.out
   | false =>
    have E := Lib.hid (show d2 a (d1 a r).2 = ((0, 0), (d1 a r).2) by unfold d2 flg; rw [hf]; rfl)
    go_wp2_with fail
    go_meet
    rw [E.out]
    exact H2.out
  case rest =>
   obtain ⟨V3, rfl⟩ : ∃ V : World, V = wc := ⟨_, rfl⟩
   have H3 := Lib.hid hcut
   have d0 : V3.cell? ⟨q, pre.length, none⟩ = some (.int .u32 a) := by rw [hcut.cell]; exact zBV pre post a _ _ _ _ _ _ _ 0 (by omega)
   clear hcut
   go_upto_if 54 with (fail)
   go_cut [] (fun wx => RSt w wx g o s q t (d4 a (d2 a (d1 a r).2).2).2 (zAg pre a (d1 a r).1 (d2 a (d1 a r).2).1.1 (d2 a (d1 a r).2).1.2 (d4 a (d2 a (d1 a r).2).2).1 0 0 (.slice none 0 0) post))
   case first =>
    cases hf : (bits .and .u32 a 4 != 0) with
    | true =>
     have E := Lib.hid (show d4 a (d2 a (d1 a r).2).2 = c32 (d2 a (d1 a r).2).2 by unfold d4 flg; rw [hf]; rfl)
     go_wp2_with fail
     refine (zHY H3.out hqg).mono ?_
     rintro e w2 ⟨rfl, h2⟩
     have c4 : w2.cell? ⟨q, pre.length + 4, none⟩ = some (.int .u32 0) := by rw [h2.cell]; exact zBV pre post _ _ _ _ _ _ _ _ 4 (by omega)
     have f4 := h2.frz (pre.length + 4)
     have h3 := h2.set hqg hqs (pre.length + 4) (.int .u32 (c32 (d2 a (d1 a r).2).2).1)
     rw [zNM] at h3
     have G0 := Lib.hid h3
     clear h2 h3
     go_wp2_with fail
     go_meet
     rw [E.out]
     exact G0.out
    | false =>
     have E := Lib.hid (show d4 a (d2 a (d1 a r).2).2 = (0, (d2 a (d1 a r).2).2) by unfold d4 flg; rw [hf]; rfl)
     go_wp2_with fail
     go_meet
     rw [E.out]
     exact H3.out
   case rest =>
    obtain ⟨V4, rfl⟩ : ∃ V : World, V = wc := ⟨_, rfl⟩
    have H4 := Lib.hid hcut
    have d0 : V4.cell? ⟨q, pre.length, none⟩ = some (.int .u32 a) := by rw [hcut.cell]; exact zBV pre post a _ _ _ _ _ _ _ 0 (by omega)
    clear hcut
    go_upto_if 65 with (fail)
    go_cut [] (fun wx => RSt w wx g o s q t (d8 a (d4 a (d2 a (d1 a r).2).2).2).2 (zAg pre a (d1 a r).1 (d2 a (d1 a r).2).1.1 (d2 a (d1 a r).2).1.2 (d4 a (d2 a (d1 a r).2).2).1 (d8 a (d4 a (d2 a (d1 a r).2).2).2).1.1 (d8 a (d4 a (d2 a (d1 a r).2).2).2).1.2 (.slice none 0 0) post))
    case first =>
     cases hf : (bits .and .u32 a 8 != 0) with
     | true =>
      have E := Lib.hid (show d8 a (d4 a (d2 a (d1 a r).2).2).2 = dd (d4 a (d2 a (d1 a r).2).2).2 by unfold d8 flg; rw [hf]; rfl)
      go_wp2_with fail
      refine (zHY H4.out hqg).mono ?_
      rintro e w2 ⟨rfl, h2⟩
      have c5 : w2.cell? ⟨q, pre.length + 5, none⟩ = some (.int .u32 0) := by rw [h2.cell]; exact zBV pre post _ _ _ _ _ _ _ _ 5 (by omega)
      have f5 := h2.frz (pre.length + 5)
      have h3 := h2.set hqg hqs (pre.length + 5) (.int .u32 (c32 (d4 a (d2 a (d1 a r).2).2).2).1)
      rw [zNN] at h3
      have G0 := Lib.hid h3
      clear h2 h3
      go_wp2_with fail
      refine (zHY G0.out hqg).mono ?_
      rintro e w3 ⟨rfl, h2⟩
      have c6 : w3.cell? ⟨q, pre.length + 6, none⟩ = some (.int .u32 0) := by rw [h2.cell]; exact zBV pre post _ _ _ _ _ _ _ _ 6 (by omega)
      have f6 := h2.frz (pre.length + 6)
      have h3 := h2.set hqg hqs (pre.length + 6) (.int .u32 (c32 (c32 (d4 a (d2 a (d1 a r).2).2).2).2).1)
      rw [zNO] at h3
      have G1 := Lib.hid h3
      clear h2 h3
      go_wp2_with fail
      go_meet
      rw [E.out]
      exact G1.out
     | false =>
      have E := Lib.hid (show d8 a (d4 a (d2 a (d1 a r).2).2).2 = ((0, 0), (d4 a (d2 a (d1 a r).2).2).2) by unfold d8 flg; rw [hf]; rfl)
      go_wp2_with fail
      go_meet
      rw [E.out]
      exact H4.out
    case rest =>
     obtain ⟨V5, rfl⟩ : ∃ V : World, V = wc := ⟨_, rfl⟩
     have hcut' : RSt w V5 g o s q t (d8 a (d4 a (d2 a (d1 a r).2).2).2).2 (adC pre a r (.slice none 0 0) post) := hcut
     have d0 : V5.cell? ⟨q, pre.length, none⟩ = some (.int .u32 a) := by rw [hcut.cell]; exact zBV pre post a _ _ _ _ _ _ _ 0 (by omega)
     clear hcut
     have eR : adR a r = (dX a (d8 a (d4 a (d2 a (d1 a r).2).2).2).2).2 := rfl
     have eL : adL a r = (dX a (d8 a (d4 a (d2 a (d1 a r).2).2).2).2).1 := rfl
     generalize (d8 a (d4 a (d2 a (d1 a r).2).2).2).2 = r5 at hcut' eR eL
     cases hf : (bits .and .u32 a 2147483648 != 0) with
     | false =>
      have E : dX a r5 = ([], r5) := by unfold dX flg; rw [hf]; rfl
      rw [E] at eR eL
      obtain ⟨ev, cv, he⟩ := hcut'.rb.err
      have F := Lib.hid (show zJo q t g o s pre a r post w (.returned ev) V5 from ⟨_, ev, rfl, by rw [eR]; exact he, .inl ⟨rfl, eL⟩, by rw [eR]; exact hcut'⟩)
      clear eR eL E hcut' he
      go_wp2_with fail
      go_ret
      exact F.out
     | true =>
      have E : dX a r5 = xD (c32 r5).1.toNat (c32 r5).2 := by unfold dX flg; rw [hf]; rfl
      rw [E] at eR eL
      have hx := zDC r5
      have H5 := Lib.hid (zJP hcut' hqg)
      generalize hn : (c32 r5).1 = N at *
      generalize (c32 r5).2 = r6 at *
      obtain ⟨n, rfl⟩ : ∃ n : Nat, N = (n : Int) := ⟨N.toNat, by omega⟩
      rw [Int.toNat_natCast] at eR eL
      have ER := Lib.hid eR
      have EL := Lib.hid eL
      have hn1 : n ≤ 4294967295 := by omega
      clear eR eL E hcut' hn hx
      go_wp2_with fail
      refine H5.out.mono ?_
      rintro e w2 ⟨rfl, h2⟩
      have hmk := zOA n hn1 w2
      have hz2 := h2.upd.size
      have hA : RSt w (w2.alloc (.cells (zl (2 * n)).toArray 206)) g o s q t r6 (adC pre a r (.slice none 0 0) post) := h2.alloc _
      have hH := heap_alloc_new w2 (.cells (zl (2 * n)).toArray 206 (0, 0))
      generalize hWA : w2.alloc (.cells (zl (2 * n)).toArray 206) = WA at *
      have c7 : WA.cell? ⟨q, pre.length + 7, none⟩ = some (.slice none 0 0) := by rw [hA.cell]; exact zBV pre post _ _ _ _ _ _ _ _ 7 (by omega)
      have f7 := hA.frz (pre.length + 7)
      have hB := hA.set hqg hqs (pre.length + 7) (.slice (some ⟨w2.heap.size, 0, none⟩) n n)
      have hlt1 := h2.rb.lt
      have hlt2 := zAC h2.blk
      have hqh : q ≠ w2.heap.size := by omega
      have hgh : w2.heap.size ≠ g := by omega
      have hsh : w2.heap.size ≠ s := by omega
      generalize hh : w2.heap.size = h at *
      have hB' : RSt w (WA.setCell ⟨q, pre.length + 7, none⟩ (.slice (some ⟨h, 0, none⟩) n n)) g o s q t r6 (adC pre a r (.slice (some ⟨h, 0, none⟩) n n) post) := by
       have := hB
       unfold adC at this
       rw [zNP] at this
       exact this
      have hH2 : (WA.setCell ⟨q, pre.length + 7, none⟩ (.slice (some ⟨h, 0, none⟩) n n)).heap[h]? = some (.cells (zl (2 * n)).toArray 206 (0, 0)) := by rw [Below.heap_setCell _ _ _ _ (Ne.symm hqh)]; exact hH
      obtain ⟨WB, hWB⟩ : ∃ W, WA.setCell ⟨q, pre.length + 7, none⟩ (.slice (some ⟨h, 0, none⟩) n n) = W := ⟨_, rfl⟩
      rw [hWB] at hB' hH2
      have L0 := Lib.hid (show LInv w WB g o s q h n t (adC pre a r (.slice (some ⟨h, 0, none⟩) n n) post) r6 0 from ⟨[], r6, rfl, by simp, hB', by simpa [exC] using hH2⟩)
      have d7 : WB.cell? ⟨q, pre.length + 7, none⟩ = some (.slice (some ⟨h, 0, none⟩) n n) := by rw [hB'.cell]; exact zBV pre post _ _ _ _ _ _ _ _ 7 (by omega)
      clear h2 hA hH hB hB' hH2 H5 hWA hh hlt1 hlt2
      go_wp2_with fail
      go_loopw [94] (fun i wr => ∃ k : Nat, k ≤ n ∧ i = .int .i64 (k : Int) ∧ Hid (LInv w wr g o s q h n t (adC pre a r (.slice (some ⟨h, 0, none⟩) n n) post) r6 k)) (fun i _ => n - (intOf i).toNat)
      case atStart => exact ⟨0, Nat.zero_le _, rfl, L0⟩
      case round =>
       obtain ⟨k, hk, rfl, HR⟩ := hrel
       obtain ⟨done, rk, hd, hxd, hR, hB⟩ := HR.out
       clear HR
       have e7 : wr.cell? ⟨q, pre.length + 7, none⟩ = some (.slice (some ⟨h, 0, none⟩) n n) := by rw [hR.cell]; exact zBV pre post _ _ _ _ _ _ _ _ 7 (by omega)
       by_cases hlt : k < n
       ·have hz3 : zl (2 * (n - k)) = .string ⟨#[]⟩ :: .string ⟨#[]⟩ :: zl (2 * (n - (k + 1))) := by rw [show n - k = (n - (k + 1)) + 1 from by omega, zLG]
        rw [hz3] at hB
        have hpl : (exC done).length = k * 2 := by rw [zMR, hd]; omega
        have C := Lib.hid (zMT h g o s (exC done) (zl (2 * (n - (k + 1)))) _ _ rk wr hB hgh hsh hR.rb)
        rw [hpl] at C
        have S := Lib.hid (fun w' h2 => LInv.step (w' := w') hlt hd hxd hR hqh hqg hz2 h2)
        clear hd hxd hR hB hz3 hpl
        go_wp2_with fail
        refine C.out.mono ?_
        rintro e w4 ⟨⟨ve, rfl⟩, h4⟩
        have L1 := Lib.hid (S.out w4 h4)
        clear h4 S C
        go_wp2_with fail
        go_roundw
        case rel => exact ⟨k + 1, by omega, by go_num, L1⟩
        case measure => simp [intOf]; omega
       ·obtain rfl : k = n := by omega
        obtain ⟨ev, cv, he⟩ := hR.rb.err
        rw [Nat.sub_self] at hxd hB
        have h1 : (xD k r6).2 = rk := by rw [hxd]; rfl
        have h2 : (xD k r6).1 = done := by rw [hxd]; simp [xD]
        have hhl := zAC hB
        have F := Lib.hid (show zJo q t g o s pre a r post w (.returned ev) wr from by
         refine ⟨.slice (some ⟨h, 0, none⟩) k k, ev, rfl, by rw [ER.out, h1]; exact he, .inr ⟨h, ?_, hz2, hhl, ?_⟩, by rw [ER.out, h1]; exact hR⟩
         ·rw [EL.out, h2, hd]
         ·rw [EL.out, h2, hB]; simp [zl])
        clear hd hxd hR hB he h1 h2
        go_wp2_with fail
        go_ret
        exact F.out
theorem zJp (q g o s : Nat) (t : TypeId) (pre post : List Value) (r : Option (List UInt8)) (w : World) (hq : w.heap[q]? = some (.cells (zAg pre 0 0 0 0 0 0 0 (.slice none 0 0) post) t (0, 0))) (hqg : q ≠ g) (hqs : q ≠ s) (hb : RBuf w g o s r) :
  Calls Tryz.prog 107 #[.pointer (some ⟨q, pre.length, none⟩), .pointer (some ⟨g, o, none⟩)] w (zJo q t g o s pre (c32 r).1 (c32 r).2 post w) := by
 have C := Lib.hid (zHY (w0 := w) ⟨hb, hq, UpdG.refl _ _ _ _⟩ hqg)
 have hx := zDC r
 clear hb hq
 generalize (c32 r).1 = a at *
 generalize (c32 r).2 = r1 at *
 go_enter Tryz.func107, Tryz.ntmps107
 go_wp2_with fail
 refine C.out.mono ?_
 rintro e w1 ⟨rfl, h1⟩
 have D := Lib.hid (zMU q g o s t pre post a r1 w1 h1.blk hqg hqs h1.rb hx)
 have U := Lib.hid h1.upd
 clear h1 C
 go_wp2_with fail
 refine D.out.mono ?_
 rintro e w2 ⟨v, ev, rfl, he, hv, h2⟩
 have F := Lib.hid (show zJo q t g o s pre a r1 post w (.returned ev) w2 from by
  refine ⟨v, ev, rfl, he, ?_, h2.rb, h2.blk, U.out.trans h2.upd⟩
  rcases hv with hv | ⟨h, e1, e2, e3, e4⟩
  ·exact .inl hv
  ·exact .inr ⟨h, e1, Nat.le_trans U.out.size e2, e3, e4⟩)
 clear he hv h2 D U
 go_wp2_with fail
 go_ret
 exact F.out
theorem zEC {w : World} {B : Nat} {v : Value} {l : List zAu} (h : zCx w B v l) (hl : l.length ≤ 4294967295) : ∃ A c, v = .slice A l.length c ∧ l.length ≤ c ∧ Kd.C k206 w A l.length l := by
 rcases h with ⟨rfl, rfl⟩ | ⟨x, rfl, _, _, hb⟩
 ·exact ⟨none, 0, rfl, Nat.le_refl _, rfl, by simp, fun h => by simp at h⟩
 ·refine ⟨_, _, rfl, Nat.le_refl _, rfl, by omega, fun _ => ⟨⟨x, 0, none⟩, rfl, fun j p hp => ?_⟩⟩
  refine ⟨[.string p.f0, .string p.f1], rfl, zLz w p, fun i u hu => ?_⟩
  have hc : ∀ (l : List zAu) (j : Nat) (p : zAu), l[j]? = some p → (exC l)[j * 2]? = some (.string p.f0) ∧ (exC l)[j * 2 + 1]? = some (.string p.f1) := by
   intro l
   induction l with
   | nil => intro j p h; simp at h
   | cons e r ih =>
    intro j p h
    match j with
    | 0 =>
     obtain rfl : e = p := by simpa using h
     exact ⟨rfl, rfl⟩
    | j + 1 =>
     have := ih j p (by simpa using h)
     rw [show (j + 1) * 2 = j * 2 + 1 + 1 from by omega]
     exact this
  obtain ⟨h1, h2⟩ := hc l j p hp
  rw [show k206.sz = 2 from rfl, add_plain, zAA hb, List.getElem?_toArray]
  match i with
  | 0 =>
   obtain rfl : Value.string p.f0 = u := by simpa using hu
   simpa using h1
  | 1 =>
   obtain rfl : Value.string p.f1 = u := by simpa using hu
   simpa using h2
  | i + 2 => simp at hu
def rdL (l : List UInt8) : List zAu := adL (c32 (some l)).1 (c32 (some l)).2
def rdR (l : List UInt8) : Option (List UInt8) := adR (c32 (some l)).1 (c32 (some l)).2
structure Dec (B : List UInt8) (d : Option (List UInt8) → Option (List UInt8)) : Prop where
 eats : ∀ t, d (some (B ++ t)) = some t
 short : ∀ n, n < B.length → d (some (B.take n)) = none
 none : d none = none
theorem Dec.id : Dec [] (fun r => r) := ⟨fun _ => rfl, fun n h => by simp at h, rfl⟩
theorem Dec.comp {B C : List UInt8} {d e : Option (List UInt8) → Option (List UInt8)} (h : Dec B d) (k : Dec C e) : Dec (B ++ C) (fun r => e (d r)) :=
 ⟨fun t => by show e (d (some (B ++ C ++ t))) = _; rw [List.append_assoc, h.eats, k.eats], fun n hn => by
  show e (d (some ((B ++ C).take n))) = _
  rw [List.length_append] at hn
  rcases Nat.lt_or_ge n B.length with h1 | h1
  ·rw [List.take_append_of_le_length (by omega), h.short n h1, k.none]
  ·rw [List.take_append, List.take_of_length_le h1, h.eats, k.short _ (by omega)], by show e (d Option.none) = _; rw [h.none, k.none]⟩
theorem zBI (x : Int) (t : List UInt8) (h0 : 0 ≤ x) (h1 : x ≤ 4294967295) : c32 (some (zAQ x ++ t)) = (x, some t) := by
 have hl : 4 ≤ (zAQ x ++ t).length := by simp [zAQ]
 have e4 : (zAQ x ++ t).drop 4 = t := by simp [zAQ]
 simp only [c32, hl, if_true, e4]
 rw [zDF _ _ h0 h1]
theorem zED (l : List UInt8) (h : ¬ 4 ≤ l.length) : c32 (some l) = (0, none) := by simp [c32, h]
theorem zFm (x : Int) (h0 : 0 ≤ x) (h1 : x ≤ 4294967295) : Dec (zAQ x) (fun r => (c32 r).2) :=
 ⟨fun t => by rw [zBI x t h0 h1], fun n hn => by
  show (c32 _).2 = Option.none
  rw [zED _ (by rw [List.length_take]; rw [zAi] at hn ⊢; omega)], rfl⟩
theorem zJq (l : List UInt8) (h : ¬ 8 ≤ l.length) : (c64 (some l)).2 = none := by
 simp [c64, h]
theorem zOB (x : Int) (h0 : 0 ≤ x) (h1 : x ≤ 18446744073709551615) : Dec (zBN x) (fun r => (c64 r).2) :=
 ⟨fun t => by rw [zEb x t h0 h1], fun n hn => by
  rw [zHG] at hn
  exact zJq _ (by rw [List.length_take, zHG]; omega), rfl⟩
theorem zEn (s t : List UInt8) (h : s.length ≤ 4294967295) : cB (some (str s ++ t)) = (s, some t) := by
 unfold cB str
 rw [List.append_assoc, zBI _ _ (by omega) (by omega)]
 have hc : ((s.length : Int) ≤ ((s ++ t).length : Int)) := by rw [List.length_append]; omega
 simp only [hc, if_true, Int.toNat_natCast]
 simp
theorem zOC (s : List UInt8) (h : s.length ≤ 4294967295) : Dec (str s) (fun r => (cB r).2) :=
 ⟨fun t => by rw [zEn s t h], fun n hn => by
  show (cB (some ((str s).take n))).2 = Option.none
  rw [zDG] at hn
  rcases Nat.lt_or_ge n 4 with h4 | h4
  ·have h0 : (c32 (some ((str s).take n))).2 = Option.none := by
    have hl : ¬ 4 ≤ ((str s).take n).length := by rw [List.length_take, zDG]; omega
    rw [zED _ hl]
   unfold cB
   generalize c32 (some ((str s).take n)) = q at h0
   obtain ⟨x, r⟩ := q
   subst h0
   rfl
  ·have e : (str s).take n = zAQ (s.length : Int) ++ s.take (n - 4) := by
    unfold str
    rw [List.take_append, List.take_of_length_le (by rw [zAi]; omega), zAi]
   rw [e]
   unfold cB
   rw [zBI _ _ (by omega) (by omega)]
   have hc : ¬ ((s.length : Int) ≤ ((s.take (n - 4)).length : Int)) := by rw [List.length_take]; omega
   simp only [hc, if_false], rfl⟩
theorem zNQ (l : List zAu) (h : ∀ e ∈ l, e.f0.size ≤ 10000000 ∧ e.f1.size ≤ 10000000) : Dec (exB l) (fun r => (xD l.length r).2) := by
 induction l with
 | nil => exact Dec.id
 | cons e r ih =>
  have he := h e (by simp)
  have h1 := (zOC (tl e.f0) (by rw [zAH]; omega)).comp (zOC (tl e.f1) (by rw [zAH]; omega))
  have h2 := h1.comp (ih (fun x hx => h x (by simp [hx])))
  exact h2
theorem zNR (l : List zAu) (h : ∀ e ∈ l, e.f0.size ≤ 10000000 ∧ e.f1.size ≤ 10000000) (t : List UInt8) : (xD l.length (some (exB l ++ t))).1 = l := by
 induction l generalizing t with
 | nil => rfl
 | cons e r ih =>
  have he := h e (by simp)
  have e1 : exB (e :: r) ++ t = str (tl e.f0) ++ (str (tl e.f1) ++ (exB r ++ t)) := by simp [exB]
  rw [e1, List.length_cons]
  unfold xD
  rw [zEn _ _ (by rw [zAH]; omega)]
  show _ :: (xD r.length (cB (some _)).2).1 = _
  rw [zEn _ _ (by rw [zAH]; omega)]
  show _ :: (xD r.length (some _)).1 = _
  rw [ih (fun x hx => h x (by simp [hx]))]
  rfl
section
variable {a b c d e f g : Int} {l : List zAu}
structure AOk (a b c d e f g : Int) (l : List zAu) : Prop where
 ga : zAc a
 gb : zC6 b
 gc : zAc c
 gd : zAc d
 ge : zAc e
 gf : zAc f
 gg : zAc g
 gl : gEx l
theorem zNS (h : AOk a b c d e f g l) : Dec (p1 a b) (fun r => (d1 a r).2) := by
 unfold p1 d1
 split
 ·exact zOB b h.gb.1 h.gb.2
 ·exact Dec.id
theorem zNT (h : AOk a b c d e f g l) : Dec (p2 a c d) (fun r => (d2 a r).2) := by
 unfold p2 d2
 split
 ·exact (zFm c h.gc.1 h.gc.2).comp (zFm d h.gd.1 h.gd.2)
 ·exact Dec.id
theorem zNU (h : AOk a b c d e f g l) : Dec (p4 a e) (fun r => (d4 a r).2) := by
 unfold p4 d4
 split
 ·exact zFm e h.ge.1 h.ge.2
 ·exact Dec.id
theorem zNV (h : AOk a b c d e f g l) : Dec (p8 a f g) (fun r => (d8 a r).2) := by
 unfold p8 d8
 split
 ·exact (zFm f h.gf.1 h.gf.2).comp (zFm g h.gg.1 h.gg.2)
 ·exact Dec.id
theorem zNW (h : AOk a b c d e f g l) : Dec (pX a l) (fun r => (dX a r).2) := by
 obtain ⟨h1, h2, h3⟩ := h.gl
 have hd : Dec (zAQ (l.length : Int) ++ exB l) (fun r => (xD l.length (c32 r).2).2) := (zFm (l.length : Int) (by omega) (by omega)).comp (zNQ l h3)
 have hk := zBI (l.length : Int)
 unfold pX dX
 split
 ·have key : ∀ t, (c32 (some (zAQ (l.length : Int) ++ t))).1.toNat = l.length := fun t => by rw [hk t (by omega) (by omega)]; simp
  refine ⟨fun t => ?_, fun n hn => ?_, ?_⟩
  ·have := hd.eats t
   rw [List.append_assoc] at this ⊢
   rw [key]
   exact this
  ·have hs := hd.short n hn
   rcases Nat.lt_or_ge n 4 with h4 | h4
   ·have hl : ¬ 4 ≤ ((zAQ (l.length : Int) ++ exB l).take n).length := by rw [List.length_take]; omega
    have e0 : (c32 (some ((zAQ (l.length : Int) ++ exB l).take n))) = (0, Option.none) := zED _ hl
    rw [e0]
    rfl
   ·rw [List.take_append, List.take_of_length_le (by rw [zAi]; omega)] at hs ⊢
    rw [key]
    exact hs
  ·rfl
 ·exact Dec.id
theorem zLH (h : AOk a b c d e f g l) : Dec (p1 a b ++ (p2 a c d ++ (p4 a e ++ (p8 a f g ++ pX a l)))) (adR a) :=
 (zNS h).comp ((zNT h).comp ((zNU h).comp ((zNV h).comp (zNW h))))
theorem zMV (h : AOk a b c d e f g l) (t : List UInt8) : rdR (atB a b c d e f g l ++ t) = some t := by
 unfold rdR atB
 rw [List.append_assoc, zBI _ _ h.ga.1 h.ga.2]
 exact (zLH h).eats t
structure zEN (a b c d e f g : Int) (l : List zAu) : Prop where
 t1 : flg a 1 = false → b = 0
 t2 : flg a 2 = false → c = 0 ∧ d = 0
 t4 : flg a 4 = false → e = 0
 t8 : flg a 8 = false → f = 0 ∧ g = 0
 tX : flg a 2147483648 = false → l = []
theorem zOD (h : AOk a b c d e f g l) (ht : zEN a b c d e f g l) (t : List UInt8) : d1 a (some (p1 a b ++ t)) = (b, some t) := by
 unfold d1 p1
 cases hf : flg a 1 with
 | true => exact zEb b t h.gb.1 h.gb.2
 | false => simp [ht.t1 hf]
theorem zOE (h : AOk a b c d e f g l) (ht : zEN a b c d e f g l) (t : List UInt8) : d2 a (some (p2 a c d ++ t)) = ((c, d), some t) := by
 unfold d2 p2
 cases hf : flg a 2 with
 | true =>
  simp only [if_true, dd, List.append_assoc]
  rw [zBI c _ h.gc.1 h.gc.2]
  dsimp only
  rw [zBI d _ h.gd.1 h.gd.2]
 | false => simp [(ht.t2 hf).1, (ht.t2 hf).2]
theorem zOF (h : AOk a b c d e f g l) (ht : zEN a b c d e f g l) (t : List UInt8) : d4 a (some (p4 a e ++ t)) = (e, some t) := by
 unfold d4 p4
 cases hf : flg a 4 with
 | true => exact zBI e t h.ge.1 h.ge.2
 | false => simp [ht.t4 hf]
theorem zOG (h : AOk a b c d e f g l) (ht : zEN a b c d e f g l) (t : List UInt8) : d8 a (some (p8 a f g ++ t)) = ((f, g), some t) := by
 unfold d8 p8
 cases hf : flg a 8 with
 | true =>
  simp only [if_true, dd, List.append_assoc]
  rw [zBI f _ h.gf.1 h.gf.2]
  dsimp only
  rw [zBI g _ h.gg.1 h.gg.2]
 | false => simp [(ht.t8 hf).1, (ht.t8 hf).2]
theorem zOa (h : AOk a b c d e f g l) (ht : zEN a b c d e f g l) (t : List UInt8) : (dX a (some (pX a l ++ t))).1 = l := by
 obtain ⟨h1, h2, h3⟩ := h.gl
 unfold dX pX
 cases hf : flg a 2147483648 with
 | true =>
  simp only [if_true, List.append_assoc]
  rw [zBI _ _ (by omega) (by omega)]
  show (xD ((l.length : Int)).toNat (some _)).1 = _
  rw [Int.toNat_natCast]
  exact zNR l h3 t
 | false => simp [ht.tX hf]
theorem zMW (h : AOk a b c d e f g l) (ht : zEN a b c d e f g l) (t : List UInt8) : rdL (atB a b c d e f g l ++ t) = l := by
 unfold rdL atB
 rw [List.append_assoc, zBI _ _ h.ga.1 h.ga.2]
 dsimp only
 unfold adL
 simp only [List.append_assoc]
 rw [zOD h ht]
 dsimp only
 rw [zOE h ht]
 dsimp only
 rw [zOF h ht]
 dsimp only
 rw [zOG h ht]
 exact zOa h ht t
end
theorem zJQ (a b : ByteArray) : ∃ r, PF.laws_zzFits7.f a b = some r := by
 unfold PF.laws_zzFits7.f
 (repeat' split) <;> exact ⟨_, rfl⟩
theorem zLI (l : List S52) (hl : l.length ≤ 2147483647) : ∀ (m : Nat) (k : Nat) (i : Nat), i + m = l.length → m < k → ∃ r, PF.laws_zzFits6.l0 k l (l.length : Int) (i : Int) = some r := by
 intro m
 induction m with
 | zero =>
  intro k i hi hk
  obtain ⟨k, rfl⟩ : ∃ j, k = j + 1 := ⟨k - 1, by omega⟩
  simp only [PF.laws_zzFits6.l0]
  rw [if_neg (by omega)]
  exact ⟨_, rfl⟩
 | succ m ih =>
  intro k i hi hk
  obtain ⟨k, rfl⟩ : ∃ j, k = j + 1 := ⟨k - 1, by omega⟩
  simp only [PF.laws_zzFits6.l0]
  rw [if_pos (by omega), if_pos (by omega), if_pos (by omega), zCC (by omega) (show (i : Int) < (l.length : Int) by omega) (by omega)]
  obtain ⟨r, hr⟩ := zJQ (zA7 l (i : Int)).f0 (zA7 l (i : Int)).f1
  rw [hr]
  simp only [Option.bind_some]
  split
  ·rw [show ((i : Int) + 1) = ((i + 1 : Nat) : Int) from by omega]
   exact ih k (i + 1) (by omega) (by omega)
  ·exact ⟨_, rfl⟩
theorem zIZ (a b : ByteArray) (h : PF.laws_zzFits7.f a b = some true) : a.size ≤ 2147483647 ∧ b.size ≤ 2147483647 := by
 unfold PF.laws_zzFits7.f at h
 split at h
 ·cases h
 ·split at h
  ·cases h
  ·omega
theorem zI0 (l : List S52) (hl : l.length ≤ 2147483647) : ∀ (k i : Nat), PF.laws_zzFits6.l0 k l (l.length : Int) (i : Int) = some true → ∀ j (hj : j < l.length), i ≤ j → l[j].f0.size ≤ 2147483647 ∧ l[j].f1.size ≤ 2147483647 := by
 intro k
 induction k with
 | zero => intro i h; simp [PF.laws_zzFits6.l0] at h
 | succ k ih =>
  intro i h j hj hij
  have hi : i < l.length := by omega
  simp only [PF.laws_zzFits6.l0] at h
  rw [if_pos (by omega), if_pos (by omega), if_pos (by omega), zCC (by omega) (show (i : Int) < (l.length : Int) by omega) (by omega)] at h
  have hr : zA7 l (i : Int) = l[i] := by
   unfold zA7
   rw [Int.toNat_natCast, List.getD_eq_getElem?_getD, List.getElem?_eq_getElem hi]
   rfl
  rw [hr] at h
  obtain ⟨r, hf⟩ := zJQ l[i].f0 l[i].f1
  rw [hf] at h
  simp only [Option.bind_some] at h
  split at h
  ·next hr1 =>
   subst hr1
   by_cases he : i = j
   ·subst he; exact zIZ _ _ hf
   ·rw [show ((i : Int) + 1) = ((i + 1 : Nat) : Int) from by omega] at h
    exact ih (i + 1) h j hj (by omega)
  ·cases h
structure OkA (a b c d e f g : Int) (l : List S52) : Prop where
 ok : AOk a b c d e f g (l.map zA0)
 told : zEN a b c d e f g (l.map zA0)
 ex : zIY l
 few : l.length ≤ 8
 small : (atB a b c d e f g (l.map zA0)).length ≤ 3000
 big : 4 ≤ (atB a b c d e f g (l.map zA0)).length
theorem zEo (l : List S52) : (exB (l.map zA0)).length = l.length * 8 + zB3 l := by
 induction l with
 | nil => rfl
 | cons x r ih =>
  simp only [List.map_cons, exB, List.length_append, ih, zB3, List.length_cons, zDG, zAH, zA0]
  omega
theorem zHZ (l : List S52) (x : S52) (h : x ∈ l) : x.f0.size + x.f1.size ≤ zB3 l := by
 induction l with
 | nil => cases h
 | cons y r ih =>
  simp only [zB3]
  rcases List.mem_cons.1 h with rfl | h
  ·omega
  ·have := ih h; omega
theorem zNX {a b c d e f g : Int} {l : List S52} (ga : zAc a) (gb : zC6 b) (gc : zAc c) (gd : zAc d) (ge : zAc e) (gf : zAc f) (gg : zAc g) (ht : zC8 a b c d e f g l.length = true) (hs : zB3 l ≤ 2000) : OkA a b c d e f g l := by
 unfold zC8 at ht
 simp only [Bool.and_eq_true, Bool.or_eq_true, Bool.not_eq_true', decide_eq_false_iff_not, beq_iff_eq] at ht
 obtain ⟨⟨⟨_, h8⟩, ⟨⟨⟨t1, t2⟩, t4⟩, t8⟩⟩, tX⟩ := ht
 have hx : zIY l := by
  refine ⟨by simp; omega, by rw [zEo]; omega, fun x hx => ?_⟩
  obtain ⟨y, hy, rfl⟩ := List.mem_map.1 hx
  have := zHZ l y hy
  simp only [zA0]
  omega
 have hp := zIX a b c d e f g
 have hX : (pX a (l.map zA0)).length ≤ 2100 := by
  unfold pX
  split
  ·rw [List.length_append, zAi, zEo]; omega
  ·simp
 refine ⟨⟨ga, gb, gc, gd, ge, gf, gg, hx⟩, ⟨fun h => ?_, fun h => ?_, fun h => ?_, fun h => ?_, fun h => ?_⟩, hx, by omega, ?_, ?_⟩
 ·simpa [h] using t1
 ·simpa [h] using t2
 ·simpa [h] using t4
 ·simpa [h] using t8
 ·have := tX; rw [h] at this; have hl : l.length = 0 := by simpa using this
  rw [List.eq_nil_of_length_eq_zero hl]; rfl
 ·unfold atB
  simp only [List.length_append, zAi]
  omega
 ·unfold atB
  simp only [List.length_append, zAi]
  omega
abbrev Pk := S29
abbrev Ats := S26
abbrev Nm := S54
abbrev Ex := S52
def e0 : ByteArray := ⟨#[]⟩
def pkC (p : Pk) (A1 : Option Addr) (c1 : Nat) (A2 : Option Addr) (c2 : Nat) (A3 : Option Addr) (c3 : Nat) : Array Value :=
 #[.int .i64 p.f0, .int .u32 p.f1, .string p.f2, .string p.f3, .string p.f4, .int .u64 p.f5, .int .u32 p.f6, .int .u32 p.f7, .string p.f8,
   .int .u32 p.f9.f0, .int .u64 p.f9.f1, .int .u32 p.f9.f2, .int .u32 p.f9.f3, .int .u32 p.f9.f4, .int .u32 p.f9.f5, .int .u32 p.f9.f6, .slice A1 p.f9.f7.length c1,
   .slice A2 p.f10.length c2, .slice A3 p.f11.length c3, .int .u32 p.f12, .int .u32 p.f13, .string p.f14, .string p.f15, .string p.f16]
def SlE (w : World) (A : Option Addr) (c : Nat) (l : List Ex) : Prop := Kd.C k52 w A l.length l ∧ l.length ≤ c
def SlN (w : World) (A : Option Addr) (c : Nat) (l : List Nm) : Prop := Kd.C k54 w A l.length l ∧ l.length ≤ c
def PkV (w : World) (P : Array Value) (p : Pk) : Prop :=
 ∃ A1 c1 A2 c2 A3 c3, P = pkC p A1 c1 A2 c2 A3 c3 ∧ SlE w A1 c1 p.f9.f7 ∧ SlN w A2 c2 p.f10 ∧ SlE w A3 c3 p.f11
theorem SlE.below {w w' : World} {A : Option Addr} {c : Nat} {l : List Ex} (h : SlE w A c l) (hb : Below w.heap.size w w') : SlE w' A c l := ⟨Kd.C_below h.1 hb, h.2⟩
theorem SlN.below {w w' : World} {A : Option Addr} {c : Nat} {l : List Nm} (h : SlN w A c l) (hb : Below w.heap.size w w') : SlN w' A c l := ⟨Kd.C_below h.1 hb, h.2⟩
theorem PkV.below {w w' : World} {P : Array Value} {p : Pk} (h : PkV w P p) (hb : Below w.heap.size w w') : PkV w' P p := by
 obtain ⟨A1, c1, A2, c2, A3, c3, hP, h1, h2, h3⟩ := h
 exact ⟨A1, c1, A2, c2, A3, c3, hP, h1.below hb, h2.below hb, h3.below hb⟩
theorem PkV.size {w : World} {P : Array Value} {p : Pk} (h : PkV w P p) : P.size = 24 := by
 obtain ⟨A1, c1, A2, c2, A3, c3, rfl, _⟩ := h
 rfl
def zEO (m : List Nat) (p : Pk) : Pk :=
 ⟨p.f0, if m.contains 1 then p.f1 else 0, if m.contains 2 then p.f2 else e0, if m.contains 3 then p.f3 else e0, if m.contains 4 then p.f4 else e0, if m.contains 5 then p.f5 else 0, if m.contains 6 then p.f6 else 0, if m.contains 7 then p.f7 else 0, if m.contains 8 then p.f8 else e0,
  if m.contains 9 then p.f9 else ⟨0, 0, 0, 0, 0, 0, 0, []⟩, if m.contains 10 then p.f10 else [], if m.contains 11 then p.f11 else [], if m.contains 12 then p.f12 else 0, if m.contains 13 then p.f13 else 0, if m.contains 14 then p.f14 else e0, if m.contains 15 then p.f15 else e0, if m.contains 16 then p.f16 else e0⟩
def zEp (m : List Nat) (p : Pk) (A1 : Option Addr) (c1 : Nat) (A2 : Option Addr) (c2 : Nat) (A3 : Option Addr) (c3 : Nat) : Array Value :=
 pkC (zEO m p) (if m.contains 9 then A1 else none) (if m.contains 9 then c1 else 0) (if m.contains 10 then A2 else none) (if m.contains 10 then c2 else 0) (if m.contains 11 then A3 else none) (if m.contains 11 then c3 else 0)
theorem zDj {α : Type} (d : Kd α) (w : World) : Kd.C d w none 0 [] := ⟨rfl, by simp, fun h => by simp at h⟩
end Go.Proofs.YtgnficcjnijdbaaGreat
namespace Go.Proofs.YtgnficcjnijdbaaGreat
open Go.RowKit Go.Great Go.Proofs.YtgnficcjnijdbaaGreatW.PrintWords Go.Proofs.YtgnficcjnijdbaaGreatW.PrintLast Go.Proofs.YtgnficcjnijdbaaGreatW.PrintMore Go.Proofs.YtgnficcjnijdbaaGreat.KK
open Classical in
noncomputable def eqB {α : Type} (a b : α) : Bool := decide (a = b)
theorem zB6 {α : Type} {a b : α} (h : a = b) : eqB a b = true := by simp [eqB, h]
theorem zAr {α : Type} {a b : α} (h : a ≠ b) : eqB a b = false := by simp [eqB, h]
theorem eqB_iff {α : Type} {a b : α} : eqB a b = true ↔ a = b := by simp [eqB]
theorem zLJ {s t : ByteArray} (h : s.toList = t.toList) : s = t := by
 rw [ByteArray.toList_eq, ByteArray.toList_eq] at h
 exact zKl h
theorem zCy {s t : ByteArray} (h : s ≠ t) : (s.toList == t.toList) = false := by
 simp only [beq_eq_false_iff_ne, ne_eq]
 exact fun e => h (zLJ e)
theorem zNY {a b : Ex} (h0 : a.f0 = b.f0) (h1 : a.f1 = b.f1) : a = b := by
 cases a; cases b; simp_all
theorem zGP (l m : List Ex) (hl : l.length ≤ 2147483647) (hm : l.length = m.length) : ∀ (d : Nat) (k : Nat) (i : Nat), i + d = l.length → d < k → (∀ j, j < i → l[j]? = m[j]?) → PS.laws_sameExts.l0 k l m (l.length : Int) (i : Int) = some (eqB l m) := by
 intro d
 induction d with
 | zero =>
  intro k i hi hk he
  obtain ⟨k, rfl⟩ : ∃ j, k = j + 1 := ⟨k - 1, by omega⟩
  simp only [PS.laws_sameExts.l0]
  rw [if_neg (by omega)]
  rw [zB6]
  apply List.ext_getElem?
  intro j
  rcases Nat.lt_or_ge j i with h | h
  ·exact he j h
  ·rw [List.getElem?_eq_none (by omega), List.getElem?_eq_none (by omega)]
 | succ d ih =>
  intro k i hi hk he
  obtain ⟨k, rfl⟩ : ∃ j, k = j + 1 := ⟨k - 1, by omega⟩
  have h1 : i < l.length := by omega
  have h2 : i < m.length := by omega
  have r1 : zA7 l (i : Int) = l[i] := by
   unfold zA7
   rw [Int.toNat_natCast, List.getD_eq_getElem?_getD, List.getElem?_eq_getElem h1]
   rfl
  have r2 : zA7 m (i : Int) = m[i] := by
   unfold zA7
   rw [Int.toNat_natCast, List.getD_eq_getElem?_getD, List.getElem?_eq_getElem h2]
   rfl
  simp only [PS.laws_sameExts.l0]
  rw [if_pos (by omega), if_pos (by omega), if_pos (by omega), if_pos (by omega), zCC (by omega) (show (i : Int) < (l.length : Int) by omega) (by omega), r1, r2]
  by_cases hc : l[i] = m[i]
  ·rw [hc, if_neg (by simp), show ((i : Int) + 1) = ((i + 1 : Nat) : Int) from by omega]
   refine ih k (i + 1) (by omega) (by omega) (fun j hj => ?_)
   rcases Nat.lt_or_ge j i with h | h
   ·exact he j h
   ·obtain rfl : j = i := by omega
    rw [List.getElem?_eq_getElem h1, List.getElem?_eq_getElem h2, hc]
  ·have hne : (!(l[i].f0.toList == m[i].f0.toList) || !(l[i].f1.toList == m[i].f1.toList)) = true := by
    by_cases h0 : l[i].f0 = m[i].f0
    ·have h1 : l[i].f1 ≠ m[i].f1 := fun h => hc (zNY h0 h)
     rw [zCy h1]
     simp
    ·rw [zCy h0]
     simp
   rw [if_pos hne, zAr]
   intro e
   subst e
   exact hc rfl
theorem zEP (l m : List Ex) (hl : l.length ≤ 2147483647) : PS.laws_sameExts.f (l.length + 1) l m = some (eqB l m) := by
 unfold PS.laws_sameExts.f
 by_cases h : l.length = m.length
 ·rw [if_pos (by omega)]
  exact zGP l m hl h l.length (l.length + 1) 0 (by omega) (by omega) (fun j hj => by omega)
 ·rw [if_neg (by omega), zAr]
  intro e
  subst e
  exact h rfl
theorem zJr (A B : Option Addr) (c d : Nat) (l m : List Ex) (w : World) (hl : l.length ≤ 2147483647) (h : SlE w A c l) (h' : SlE w B d m) :
  Calls Tryz.prog 35 #[.slice A l.length c, .slice B m.length d] w fun e w' => e = .returned (.bool (eqB l m)) ∧ ∃ k, w' = w.drewN k :=
 (PS.laws_sameExts.calls (l.length + 1) A c l B d m _ w h.1 h.2 h'.1 h'.2 (zEP l m hl)).mono fun e w' ⟨he, hd⟩ => ⟨he, by obtain ⟨k, hk⟩ := hd; exact ⟨k, hk⟩⟩
theorem zNZ {a b : Ats} (h0 : a.f0 = b.f0) (h1 : a.f1 = b.f1) (h2 : a.f2 = b.f2) (h3 : a.f3 = b.f3) (h4 : a.f4 = b.f4) (h5 : a.f5 = b.f5) (h6 : a.f6 = b.f6) (h7 : a.f7 = b.f7) : a = b := by
 cases a; cases b; simp_all
def atC (a : Ats) (A : Option Addr) (c : Nat) : Array Value := at8 a.f0 a.f1 a.f2 a.f3 a.f4 a.f5 a.f6 (.slice A a.f7.length c)
theorem zD1 (a b : Ats) (A B : Option Addr) (c d : Nat) (w : World) (hl : a.f7.length ≤ 2147483647) (h : SlE w A c a.f7) (h' : SlE w B d b.f7) :
  Calls Tryz.prog 34 #[.agg (atC a A c), .agg (atC b B d)] w fun e w' => e = .returned (.bool (eqB a b)) ∧ Below w.heap.size w w' := by
 refine PS.laws_sameAttrs.calls (a.f7.length + 1) a.f0 a.f1 a.f2 a.f3 a.f4 a.f5 a.f6 A c a.f7 b.f0 b.f1 b.f2 b.f3 b.f4 b.f5 b.f6 B d b.f7 _ w h.1 h.2 h'.1 h'.2 ?_
 unfold PS.laws_sameAttrs.f
 rw [zEP a.f7 b.f7 hl]
 by_cases e0 : a.f0 = b.f0
 ·rw [if_pos e0]
  by_cases e1 : a.f1 = b.f1
  ·rw [if_pos e1]
   by_cases e2 : a.f2 = b.f2
   ·rw [if_pos e2]
    by_cases e3 : a.f3 = b.f3
    ·rw [if_pos e3]
     by_cases e4 : a.f4 = b.f4
     ·rw [if_pos e4]
      by_cases e5 : a.f5 = b.f5
      ·rw [if_pos e5]
       by_cases e6 : a.f6 = b.f6
       ·rw [if_pos e6]
        simp only [Option.bind_some]
        by_cases e7 : a.f7 = b.f7
        ·rw [zB6 e7, zB6 (zNZ e0 e1 e2 e3 e4 e5 e6 e7)]
        ·rw [zAr e7, zAr (fun e => e7 (by rw [e]))]
       ·rw [if_neg e6, zAr (fun e => e6 (by rw [e]))]
      ·rw [if_neg e5, zAr (fun e => e5 (by rw [e]))]
     ·rw [if_neg e4, zAr (fun e => e4 (by rw [e]))]
    ·rw [if_neg e3, zAr (fun e => e3 (by rw [e]))]
   ·rw [if_neg e2, zAr (fun e => e2 (by rw [e]))]
  ·rw [if_neg e1, zAr (fun e => e1 (by rw [e]))]
 ·rw [if_neg e0, zAr (fun e => e0 (by rw [e]))]
end Go.Proofs.YtgnficcjnijdbaaGreat
namespace Go.Proofs.YtgnficcjnijdbaaGreat
open Go.RowKit
section
variable {P : Program} {ops : Array Oper} {rest : List Oper} {a : Act} {w : World} {Q : Exit → Act → World → Prop}
theorem zAU {d : Nat} (v : Value) (h : d < a.tmps.size) : (a.put (some d) v).tmps[d]? = some v := by
 simp [Act.put, h]
theorem zJs {d k : Nat} (v : Value) (h : d ≠ k) : (a.put (some d) v).tmps[k]? = a.tmps[k]? := by
 simp [Act.put, h]
theorem po {d k : Nat} {v u : Value} (h : a.tmps[k]? = some v) (hd : d ≠ k) : (a.put (some d) u).tmps[k]? = some v := (zJs u hd).trans h
theorem zAe {d : Nat} (v : Value) : (a.put (some d) v).tmps.size = a.tmps.size := by simp [Act.put]
theorem zBg {d : Nat} (v : Value) : (a.put (some d) v).defers = a.defers := rfl
theorem zB1 {k : Nat} {v : Value} (h : a.tmps[k]? = some v) : a.eval (.tmp k) = v := by
 simp [Act.eval, h]
structure ChS (N : Nat) (P2 P3 V4 : Value) (a : Act) (pv : Nat) (b : Bool) : Prop where
 size : a.tmps.size = N
 defers : a.defers = []
 s2 : a.tmps[2]? = some P2
 s3 : a.tmps[3]? = some P3
 s4 : a.tmps[4]? = some V4
 pv : a.tmps[pv]? = some (.bool b)
theorem zEq {j s : Nat} {b : Bool} (hj : (ops[j]?).bind (·.dst) = some s) (h : a.tmps[s]? = some (.bool b)) : yielded ops a.tmps j = some b := by
 unfold yielded
 rw [hj]
 simp [h]
theorem zAy {o : Oper} {j s d : Nat} {b : Bool} (hg : o.guard = some (j, b)) (hd : o.dst = some d) (hj : (ops[j]?).bind (·.dst) = some s) (h : a.tmps[s]? = some (.bool (!b))) (hk : wpList P ops Q rest (a.put (some d) undef) w) : wpList P ops Q (o :: rest) a w := by
 have hw : Region.wanted o (yielded ops a.tmps) = false := by
  unfold Region.wanted
  rw [hg]
  simp only [zEq hj h]
  cases b <;> rfl
 unfold wpList
 rw [if_neg (by rw [hw]; simp), hd]
 exact hk
theorem zAl {o : Oper} {d : Nat} {v : Value} (hd : o.dst = some d) (hw : Region.wanted o (yielded ops a.tmps) = true) (hr : (execOp a.eval o).run P w = .ok (.value v) w) (hk : wpList P ops Q rest (a.put (some d) v) w) : wpList P ops Q (o :: rest) a w := by
 unfold wpList
 rw [if_pos hw]
 left
 unfold Oper.wp
 rw [hr, Oper.upon_value, hd]
 exact hk
theorem zAx {o : Oper} (hg : o.guard = none) : Region.wanted o (yielded ops a.tmps) = true := by
 unfold Region.wanted; rw [hg]
theorem zCz {o : Oper} {j s : Nat} {b : Bool} (hg : o.guard = some (j, b)) (hj : (ops[j]?).bind (·.dst) = some s) (h : a.tmps[s]? = some (.bool b)) : Region.wanted o (yielded ops a.tmps) = true := by
 unfold Region.wanted
 rw [hg]
 simp only [zEq hj h]
 cases b <;> rfl
theorem zEr {k d ty : Nat} {pos : String} {af : Array Edge} {g : Option (Nat × Bool)} {v : Value} (h : a.tmps[k]? = some v) : (execOp a.eval ⟨some d, .move (.tmp k), ty, pos, af, g⟩).run P w = .ok (.value v) w := by
 unfold execOp
 simp only [zB1 h]
 rfl
theorem zBi {k d ty T f i q : Nat} {pos : String} {af : Array Edge} {g : Option (Nat × Bool)} (h : a.tmps[k]? = some (.pointer (some ⟨q, 0, none⟩))) (hF : ∀ (q : Nat) (w : World), (Instr.fieldAt T (.pointer (some ⟨q, 0, none⟩)) f).run P w = .ok (.pointer (some ⟨q, i, none⟩)) w) :
  (execOp a.eval ⟨some d, .fieldAddr T (.tmp k) f, ty, pos, af, g⟩).run P w = .ok (.value (.pointer (some ⟨q, i, none⟩))) w := by
 unfold execOp
 simp only [zB1 h, Sem.run_bind, hF, Result.andThen_ok, Sem.run_pure]
theorem zBv {k d ty T i q : Nat} {pos : String} {af : Array Edge} {g : Option (Nat × Bool)} {v : Value} (h : a.tmps[k]? = some (.pointer (some ⟨q, i, none⟩))) (hl : (loadVar T ⟨q, i, none⟩).run P w = .ok v w) :
  (execOp a.eval ⟨some d, .load T (.tmp k), ty, pos, af, g⟩).run P w = .ok (.value v) w := by
 unfold execOp
 simp only [zB1 h, Instr.loadAt, Instr.sureAddr, Sem.run_bind, Sem.run_pure, Result.andThen_ok, hl]
def Cmp (P : Program) (op : BinOp) (T T2 : TypeId) (u v : Value) (n : Bool) : Prop := ∀ (x y : Operand) (w : World), ((do eqGuard op T x y u v; binOp op T u v : Sem Value).run P w) = .ok (.bool n) w
theorem zGQ {k k2 d ty T T2 : Nat} {op : BinOp} {pos : String} {af : Array Edge} {g : Option (Nat × Bool)} {u v : Value} {n : Bool} (h : a.tmps[k]? = some u) (h2 : a.tmps[k2]? = some v) (hc : Cmp P op T T2 u v n) :
  (execOp a.eval ⟨some d, .binOp op T (.tmp k) (.tmp k2) T2, ty, pos, af, g⟩).run P w = .ok (.value (.bool n)) w := by
 unfold execOp
 have h' := hc (.tmp k) (.tmp k2) w
 simp only [zB1 h, zB1 h2, Sem.run_bind] at h' ⊢
 rw [h']
 rfl
theorem zEE {k k2 d ty : Nat} {pos : String} {af : Array Edge} {g : Option (Nat × Bool)} {n : Bool} {v : Value} (h : a.tmps[k]? = some (.bool true)) :
  (execOp a.eval ⟨some d, .pick (.tmp k) (.const (.bool true)) (.tmp k2), ty, pos, af, g⟩).run P w = .ok (.value (.bool true)) w := by
 unfold execOp
 simp only [zB1 h]
 rfl
theorem zEF {k k2 d ty : Nat} {pos : String} {af : Array Edge} {g : Option (Nat × Bool)} {c : Value} {v : Value} (h : a.tmps[k]? = some (.bool false)) (h2 : a.tmps[k2]? = some v) :
  (execOp a.eval ⟨some d, .pick (.tmp k) (.const c) (.tmp k2), ty, pos, af, g⟩).run P w = .ok (.value v) w := by
 unfold execOp
 simp only [zB1 h, zB1 h2]
 rfl
theorem zBr {N q2 q3 : Nat} {V4 : Value} {b : Bool} (s pv j : Nat) (T f i tl : Nat) (tc tc2 : Nat) (u v : Value) (n : Bool) {R2 R3 : Array Value} {t : TypeId} {fr2 fr3 : Nat × Nat} {y1 y2 y3 y4 y5 y6 y7 : Nat} {x1 x2 x3 x4 x5 x6 x7 : String} {e1 e2 e3 e4 e5 e6 e7 : Array Edge}
  (hC : ChS N (.pointer (some ⟨q2, 0, none⟩)) (.pointer (some ⟨q3, 0, none⟩)) V4 a pv b) (hs : 5 ≤ s) (hps : pv < s) (hN : s + 6 < N) (hj : (ops[j]?).bind (·.dst) = some s)
  (hF : ∀ (q : Nat) (w : World), (Instr.fieldAt T (.pointer (some ⟨q, 0, none⟩)) f).run P w = .ok (.pointer (some ⟨q, i, none⟩)) w) (hfl : zDe P tl) (hcm : Cmp P .neq tc tc2 u v n)
  (h2 : w.heap[q2]? = some (.cells R2 t fr2)) (h3 : w.heap[q3]? = some (.cells R3 t fr3)) (hu : R2[i]? = some u) (hv : R3[i]? = some v)
  (hk : ∀ a', ChS N (.pointer (some ⟨q2, 0, none⟩)) (.pointer (some ⟨q3, 0, none⟩)) V4 a' (s + 6) (b || n) → wpList P ops Q rest a' w) :
  wpList P ops Q (⟨some s, .move (.tmp pv), y1, x1, e1, none⟩ :: ⟨some (s + 1), .fieldAddr T (.tmp 2) f, y2, x2, e2, some (j, false)⟩ :: ⟨some (s + 2), .load tl (.tmp (s + 1)), y3, x3, e3, some (j, false)⟩ :: ⟨some (s + 3), .fieldAddr T (.tmp 3) f, y4, x4, e4, some (j, false)⟩ :: ⟨some (s + 4), .load tl (.tmp (s + 3)), y5, x5, e5, some (j, false)⟩ :: ⟨some (s + 5), .binOp .neq tc (.tmp (s + 2)) (.tmp (s + 4)) tc2, y6, x6, e6, some (j, false)⟩ :: ⟨some (s + 6), .pick (.tmp s) (.const (.bool true)) (.tmp (s + 5)), y7, x7, e7, none⟩ :: rest) a w := by
 have z := hC.size
 refine zAl rfl (zAx rfl) (zEr hC.pv) ?_
 cases b with
 | true =>
  refine zAy (s := s) rfl rfl hj (zAU _ (by omega)) ?_
  refine zAy (s := s) rfl rfl hj (po (zAU _ (by omega)) (by omega)) ?_
  refine zAy (s := s) rfl rfl hj (po (po (zAU _ (by omega)) (by omega)) (by omega)) ?_
  refine zAy (s := s) rfl rfl hj (po (po (po (zAU _ (by omega)) (by omega)) (by omega)) (by omega)) ?_
  refine zAy (s := s) rfl rfl hj (po (po (po (po (zAU _ (by omega)) (by omega)) (by omega)) (by omega)) (by omega)) ?_
  refine zAl rfl (zAx rfl) (zEE (n := n) (v := undef) (po (po (po (po (po (zAU _ (by omega)) (by omega)) (by omega)) (by omega)) (by omega)) (by omega))) ?_
  refine hk _ ⟨?_, ?_, ?_, ?_, ?_, ?_⟩
  ·simp only [zAe]; exact z
  ·simp only [zBg]; exact hC.defers
  ·exact (po (po (po (po (po (po (po hC.s2 (by omega)) (by omega)) (by omega)) (by omega)) (by omega)) (by omega)) (by omega))
  ·exact (po (po (po (po (po (po (po hC.s3 (by omega)) (by omega)) (by omega)) (by omega)) (by omega)) (by omega)) (by omega))
  ·exact (po (po (po (po (po (po (po hC.s4 (by omega)) (by omega)) (by omega)) (by omega)) (by omega)) (by omega)) (by omega))
  ·exact zAU _ (by simp only [zAe]; omega)
 | false =>
  have hw0 : ∀ (a' : Act), a'.tmps[s]? = some (.bool false) → ∀ {o : Oper}, o.guard = some (j, false) → Region.wanted o (yielded ops a'.tmps) = true := fun a' h o hg => zCz hg hj h
  refine zAl rfl (hw0 _ (zAU _ (by omega)) rfl) (zBi (i := i) (q := q2) (po hC.s2 (by omega)) hF) ?_
  refine zAl rfl (hw0 _ (po (zAU _ (by omega)) (by omega)) rfl) (zBv (q := q2) (i := i) (v := u) (zAU _ (by simp only [zAe]; omega)) (zBs hfl w q2 i R2 t fr2 u h2 hu)) ?_
  refine zAl rfl (hw0 _ (po (po (zAU _ (by omega)) (by omega)) (by omega)) rfl) (zBi (i := i) (q := q3) (po (po (po hC.s3 (by omega)) (by omega)) (by omega)) hF) ?_
  refine zAl rfl (hw0 _ (po (po (po (zAU _ (by omega)) (by omega)) (by omega)) (by omega)) rfl) (zBv (q := q3) (i := i) (v := v) (zAU _ (by simp only [zAe]; omega)) (zBs hfl w q3 i R3 t fr3 v h3 hv)) ?_
  refine zAl rfl (hw0 _ (po (po (po (po (zAU _ (by omega)) (by omega)) (by omega)) (by omega)) (by omega)) rfl) (zGQ (u := u) (v := v) (po (po (zAU _ (by simp only [zAe]; omega)) (by omega)) (by omega)) (zAU _ (by simp only [zAe]; omega)) hcm) ?_
  refine zAl rfl (zAx rfl) (zEF (po (po (po (po (po (zAU _ (by omega)) (by omega)) (by omega)) (by omega)) (by omega)) (by omega)) (zAU _ (by simp only [zAe]; omega))) ?_
  refine hk _ ⟨?_, ?_, ?_, ?_, ?_, ?_⟩
  ·simp only [zAe]; exact z
  ·simp only [zBg]; exact hC.defers
  ·exact (po (po (po (po (po (po (po hC.s2 (by omega)) (by omega)) (by omega)) (by omega)) (by omega)) (by omega)) (by omega))
  ·exact (po (po (po (po (po (po (po hC.s3 (by omega)) (by omega)) (by omega)) (by omega)) (by omega)) (by omega)) (by omega))
  ·exact (po (po (po (po (po (po (po hC.s4 (by omega)) (by omega)) (by omega)) (by omega)) (by omega)) (by omega)) (by omega))
  ·exact zAU _ (by simp only [zAe]; omega)
theorem zJt {o : Oper} {d F : Nat} {args : Array Value} {r : Value} {Wp : World → Prop} (hd : o.dst = some d) (hw : Region.wanted o (yielded ops a.tmps) = true) (hr : (execOp a.eval o).run P w = .ok (.enter F args) w)
  (hc : Calls P F args w fun e w' => e = .returned r ∧ Wp w') (hk : ∀ w', Wp w' → wpList P ops Q rest (a.put (some d) r) w') : wpList P ops Q (o :: rest) a w := by
 unfold wpList
 rw [if_pos hw]
 left
 unfold Oper.wp
 rw [hr, Oper.upon_enter]
 refine hc.mono ?_
 rintro e w' ⟨rfl, h⟩
 rw [hd]
 exact hk w' h
theorem zJu {F k k2 d ty t1 t2 : Nat} {pos : String} {af : Array Edge} {g : Option (Nat × Bool)} {u v : Value} (hE : Enters P F) (h : a.tmps[k]? = some u) (h2 : a.tmps[k2]? = some v) :
  (execOp a.eval ⟨some d, .call { callee := .value (.func F), args := #[.tmp k, .tmp k2], argTypes := #[t1, t2] }, ty, pos, af, g⟩).run P w = .ok (.enter F #[u, v]) w := by
 unfold execOp
 simp only [resolve, Sem.run_bind, List.map_toArray, List.map_cons, List.map_nil, zB1 h, zB1 h2]
 have e : a.eval (.func F) = .func (.func F) #[] #[] := rfl
 rw [e]
 simp [Deferred.ofValue, invoke, hE #[u, v] w]
theorem zMX {k d ty T : Nat} {pos : String} {af : Array Edge} {g : Option (Nat × Bool)} {n : Bool} (h : a.tmps[k]? = some (.bool n)) :
  (execOp a.eval ⟨some d, .unOp .not T (.tmp k), ty, pos, af, g⟩).run P w = .ok (.value (.bool (!n))) w := by
 unfold execOp
 simp only [zB1 h]
 cases n <;> rfl
theorem zJR {k d ty T : Nat} {pos : String} {af : Array Edge} {g : Option (Nat × Bool)} {A : Option Addr} {n c e : Nat} (hT : P.underlying T = some (.slice e)) (h : a.tmps[k]? = some (.slice A n c)) :
  (execOp a.eval ⟨some d, .call { callee := .builtin .len, args := #[.tmp k], argTypes := #[T] }, ty, pos, af, g⟩).run P w = .ok (.value (.int .i64 (n : Int))) w := by
 unfold execOp
 simp only [resolve, Sem.run_bind, List.map_toArray, List.map_cons, List.map_nil, zB1 h]
 simp [invoke, builtin, Builtin.len_, run_underlying hT, go_sem]
theorem zJS {N q2 q3 F : Nat} {V4 : Value} {b : Bool} (s pv j : Nat) (T f i tl : Nat) (u v : Value) (r : Bool) {Wp : World → Prop} {y1 y2 y3 y4 y5 y6 y7 y8 t1 t2 tn : Nat} {x1 x2 x3 x4 x5 x6 x7 x8 : String} {e1 e2 e3 e4 e5 e6 e7 e8 : Array Edge}
  (hC : ChS N (.pointer (some ⟨q2, 0, none⟩)) (.pointer (some ⟨q3, 0, none⟩)) V4 a pv b) (hs : 5 ≤ s) (hps : pv < s) (hN : s + 7 < N) (hj : (ops[j]?).bind (·.dst) = some s)
  (hF : ∀ (q : Nat) (w : World), (Instr.fieldAt T (.pointer (some ⟨q, 0, none⟩)) f).run P w = .ok (.pointer (some ⟨q, i, none⟩)) w)
  (hu : (loadVar tl ⟨q2, i, none⟩).run P w = .ok u w) (hv : (loadVar tl ⟨q3, i, none⟩).run P w = .ok v w) (hE : Enters P F)
  (hc : Calls P F #[u, v] w fun e w' => e = .returned (.bool r) ∧ Wp w') (hW : Wp w)
  (hk : ∀ a' w', ChS N (.pointer (some ⟨q2, 0, none⟩)) (.pointer (some ⟨q3, 0, none⟩)) V4 a' (s + 7) (b || !r) → Wp w' → wpList P ops Q rest a' w') :
  wpList P ops Q (⟨some s, .move (.tmp pv), y1, x1, e1, none⟩ :: ⟨some (s + 1), .fieldAddr T (.tmp 2) f, y2, x2, e2, some (j, false)⟩ :: ⟨some (s + 2), .load tl (.tmp (s + 1)), y3, x3, e3, some (j, false)⟩ :: ⟨some (s + 3), .fieldAddr T (.tmp 3) f, y4, x4, e4, some (j, false)⟩ :: ⟨some (s + 4), .load tl (.tmp (s + 3)), y5, x5, e5, some (j, false)⟩ :: ⟨some (s + 5), .call { callee := .value (.func F), args := #[.tmp (s + 2), .tmp (s + 4)], argTypes := #[t1, t2] }, y6, x6, e6, some (j, false)⟩ :: ⟨some (s + 6), .unOp .not tn (.tmp (s + 5)), y7, x7, e7, some (j, false)⟩ :: ⟨some (s + 7), .pick (.tmp s) (.const (.bool true)) (.tmp (s + 6)), y8, x8, e8, none⟩ :: rest) a w := by
 have z := hC.size
 refine zAl rfl (zAx rfl) (zEr hC.pv) ?_
 cases b with
 | true =>
  refine zAy (s := s) rfl rfl hj (zAU _ (by omega)) ?_
  refine zAy (s := s) rfl rfl hj (po (zAU _ (by omega)) (by omega)) ?_
  refine zAy (s := s) rfl rfl hj (po (po (zAU _ (by omega)) (by omega)) (by omega)) ?_
  refine zAy (s := s) rfl rfl hj (po (po (po (zAU _ (by omega)) (by omega)) (by omega)) (by omega)) ?_
  refine zAy (s := s) rfl rfl hj (po (po (po (po (zAU _ (by omega)) (by omega)) (by omega)) (by omega)) (by omega)) ?_
  refine zAy (s := s) rfl rfl hj (po (po (po (po (po (zAU _ (by omega)) (by omega)) (by omega)) (by omega)) (by omega)) (by omega)) ?_
  refine zAl rfl (zAx rfl) (zEE (n := r) (v := undef) (po (po (po (po (po (po (zAU _ (by omega)) (by omega)) (by omega)) (by omega)) (by omega)) (by omega)) (by omega))) ?_
  refine hk _ _ ⟨?_, ?_, ?_, ?_, ?_, ?_⟩ hW
  ·simp only [zAe]; exact z
  ·simp only [zBg]; exact hC.defers
  ·exact (po (po (po (po (po (po (po (po hC.s2 (by omega)) (by omega)) (by omega)) (by omega)) (by omega)) (by omega)) (by omega)) (by omega))
  ·exact (po (po (po (po (po (po (po (po hC.s3 (by omega)) (by omega)) (by omega)) (by omega)) (by omega)) (by omega)) (by omega)) (by omega))
  ·exact (po (po (po (po (po (po (po (po hC.s4 (by omega)) (by omega)) (by omega)) (by omega)) (by omega)) (by omega)) (by omega)) (by omega))
  ·exact zAU _ (by simp only [zAe]; omega)
 | false =>
  have hw0 : ∀ (a' : Act), a'.tmps[s]? = some (.bool false) → ∀ {o : Oper}, o.guard = some (j, false) → Region.wanted o (yielded ops a'.tmps) = true := fun a' h o hg => zCz hg hj h
  refine zAl rfl (hw0 _ (zAU _ (by omega)) rfl) (zBi (i := i) (q := q2) (po hC.s2 (by omega)) hF) ?_
  refine zAl rfl (hw0 _ (po (zAU _ (by omega)) (by omega)) rfl) (zBv (q := q2) (i := i) (v := u) (zAU _ (by simp only [zAe]; omega)) hu) ?_
  refine zAl rfl (hw0 _ (po (po (zAU _ (by omega)) (by omega)) (by omega)) rfl) (zBi (i := i) (q := q3) (po (po (po hC.s3 (by omega)) (by omega)) (by omega)) hF) ?_
  refine zAl rfl (hw0 _ (po (po (po (zAU _ (by omega)) (by omega)) (by omega)) (by omega)) rfl) (zBv (q := q3) (i := i) (v := v) (zAU _ (by simp only [zAe]; omega)) hv) ?_
  refine zJt (Wp := Wp) rfl (hw0 _ (po (po (po (po (zAU _ (by omega)) (by omega)) (by omega)) (by omega)) (by omega)) rfl) (zJu (u := u) (v := v) hE (po (po (zAU _ (by simp only [zAe]; omega)) (by omega)) (by omega)) (zAU _ (by simp only [zAe]; omega))) hc (fun w' hw' => ?_)
  refine zAl rfl (hw0 _ (po (po (po (po (po (zAU _ (by omega)) (by omega)) (by omega)) (by omega)) (by omega)) (by omega)) rfl) (zMX (n := r) (zAU _ (by simp only [zAe]; omega))) ?_
  refine zAl rfl (zAx rfl) (zEF (po (po (po (po (po (po (zAU _ (by omega)) (by omega)) (by omega)) (by omega)) (by omega)) (by omega)) (by omega)) (zAU _ (by simp only [zAe]; omega))) ?_
  refine hk _ _ ⟨?_, ?_, ?_, ?_, ?_, ?_⟩ hw'
  ·simp only [zAe]; exact z
  ·simp only [zBg]; exact hC.defers
  ·exact (po (po (po (po (po (po (po (po hC.s2 (by omega)) (by omega)) (by omega)) (by omega)) (by omega)) (by omega)) (by omega)) (by omega))
  ·exact (po (po (po (po (po (po (po (po hC.s3 (by omega)) (by omega)) (by omega)) (by omega)) (by omega)) (by omega)) (by omega)) (by omega))
  ·exact (po (po (po (po (po (po (po (po hC.s4 (by omega)) (by omega)) (by omega)) (by omega)) (by omega)) (by omega)) (by omega)) (by omega))
  ·exact zAU _ (by simp only [zAe]; omega)
theorem zN0 {N q2 q3 : Nat} {V4 : Value} {b : Bool} (s pv j : Nat) (T f i tl : Nat) (tc tc2 : Nat) (A B : Option Addr) (l m c d : Nat) (n : Bool) {R2 R3 : Array Value} {t : TypeId} {fr2 fr3 : Nat × Nat} {y1 y2 y3 y4 y5 y6 y7 y8 y9 t1 t2 : Nat} {x1 x2 x3 x4 x5 x6 x7 x8 x9 : String} {e1 e2 e3 e4 e5 e6 e7 e8 e9 : Array Edge}
  (hC : ChS N (.pointer (some ⟨q2, 0, none⟩)) (.pointer (some ⟨q3, 0, none⟩)) V4 a pv b) (hs : 5 ≤ s) (hps : pv < s) (hN : s + 8 < N) (hj : (ops[j]?).bind (·.dst) = some s)
  (hF : ∀ (q : Nat) (w : World), (Instr.fieldAt T (.pointer (some ⟨q, 0, none⟩)) f).run P w = .ok (.pointer (some ⟨q, i, none⟩)) w) (hfl : zDe P tl) (hcm : Cmp P .neq tc tc2 (.int .i64 (l : Int)) (.int .i64 (m : Int)) n)
  (h2 : w.heap[q2]? = some (.cells R2 t fr2)) (h3 : w.heap[q3]? = some (.cells R3 t fr3)) (hu : R2[i]? = some (.slice A l c)) (hv : R3[i]? = some (.slice B m d)) {te1 te2 : Nat} (hT1 : P.underlying t1 = some (.slice te1)) (hT2 : P.underlying t2 = some (.slice te2))
  (hk : ∀ a', ChS N (.pointer (some ⟨q2, 0, none⟩)) (.pointer (some ⟨q3, 0, none⟩)) V4 a' (s + 8) (b || n) → wpList P ops Q rest a' w) :
  wpList P ops Q (⟨some s, .move (.tmp pv), y1, x1, e1, none⟩ :: ⟨some (s + 1), .fieldAddr T (.tmp 2) f, y2, x2, e2, some (j, false)⟩ :: ⟨some (s + 2), .load tl (.tmp (s + 1)), y3, x3, e3, some (j, false)⟩ :: ⟨some (s + 3), .call { callee := .builtin .len, args := #[.tmp (s + 2)], argTypes := #[t1] }, y4, x4, e4, some (j, false)⟩ :: ⟨some (s + 4), .fieldAddr T (.tmp 3) f, y5, x5, e5, some (j, false)⟩ :: ⟨some (s + 5), .load tl (.tmp (s + 4)), y6, x6, e6, some (j, false)⟩ :: ⟨some (s + 6), .call { callee := .builtin .len, args := #[.tmp (s + 5)], argTypes := #[t2] }, y7, x7, e7, some (j, false)⟩ :: ⟨some (s + 7), .binOp .neq tc (.tmp (s + 3)) (.tmp (s + 6)) tc2, y8, x8, e8, some (j, false)⟩ :: ⟨some (s + 8), .pick (.tmp s) (.const (.bool true)) (.tmp (s + 7)), y9, x9, e9, none⟩ :: rest) a w := by
 have z := hC.size
 refine zAl rfl (zAx rfl) (zEr hC.pv) ?_
 cases b with
 | true =>
  refine zAy (s := s) rfl rfl hj (zAU _ (by omega)) ?_
  refine zAy (s := s) rfl rfl hj (po (zAU _ (by omega)) (by omega)) ?_
  refine zAy (s := s) rfl rfl hj (po (po (zAU _ (by omega)) (by omega)) (by omega)) ?_
  refine zAy (s := s) rfl rfl hj (po (po (po (zAU _ (by omega)) (by omega)) (by omega)) (by omega)) ?_
  refine zAy (s := s) rfl rfl hj (po (po (po (po (zAU _ (by omega)) (by omega)) (by omega)) (by omega)) (by omega)) ?_
  refine zAy (s := s) rfl rfl hj (po (po (po (po (po (zAU _ (by omega)) (by omega)) (by omega)) (by omega)) (by omega)) (by omega)) ?_
  refine zAy (s := s) rfl rfl hj (po (po (po (po (po (po (zAU _ (by omega)) (by omega)) (by omega)) (by omega)) (by omega)) (by omega)) (by omega)) ?_
  refine zAl rfl (zAx rfl) (zEE (n := n) (v := undef) (po (po (po (po (po (po (po (zAU _ (by omega)) (by omega)) (by omega)) (by omega)) (by omega)) (by omega)) (by omega)) (by omega))) ?_
  refine hk _ ⟨?_, ?_, ?_, ?_, ?_, ?_⟩
  ·simp only [zAe]; exact z
  ·simp only [zBg]; exact hC.defers
  ·exact (po (po (po (po (po (po (po (po (po hC.s2 (by omega)) (by omega)) (by omega)) (by omega)) (by omega)) (by omega)) (by omega)) (by omega)) (by omega))
  ·exact (po (po (po (po (po (po (po (po (po hC.s3 (by omega)) (by omega)) (by omega)) (by omega)) (by omega)) (by omega)) (by omega)) (by omega)) (by omega))
  ·exact (po (po (po (po (po (po (po (po (po hC.s4 (by omega)) (by omega)) (by omega)) (by omega)) (by omega)) (by omega)) (by omega)) (by omega)) (by omega))
  ·exact zAU _ (by simp only [zAe]; omega)
 | false =>
  have hw0 : ∀ (a' : Act), a'.tmps[s]? = some (.bool false) → ∀ {o : Oper}, o.guard = some (j, false) → Region.wanted o (yielded ops a'.tmps) = true := fun a' h o hg => zCz hg hj h
  refine zAl rfl (hw0 _ (zAU _ (by omega)) rfl) (zBi (i := i) (q := q2) (po hC.s2 (by omega)) hF) ?_
  refine zAl rfl (hw0 _ (po (zAU _ (by omega)) (by omega)) rfl) (zBv (q := q2) (i := i) (v := .slice A l c) (zAU _ (by simp only [zAe]; omega)) (zBs hfl w q2 i R2 t fr2 _ h2 hu)) ?_
  refine zAl rfl (hw0 _ (po (po (zAU _ (by omega)) (by omega)) (by omega)) rfl) (zJR hT1 (zAU _ (by simp only [zAe]; omega))) ?_
  refine zAl rfl (hw0 _ (po (po (po (zAU _ (by omega)) (by omega)) (by omega)) (by omega)) rfl) (zBi (i := i) (q := q3) (po (po (po (po hC.s3 (by omega)) (by omega)) (by omega)) (by omega)) hF) ?_
  refine zAl rfl (hw0 _ (po (po (po (po (zAU _ (by omega)) (by omega)) (by omega)) (by omega)) (by omega)) rfl) (zBv (q := q3) (i := i) (v := .slice B m d) (zAU _ (by simp only [zAe]; omega)) (zBs hfl w q3 i R3 t fr3 _ h3 hv)) ?_
  refine zAl rfl (hw0 _ (po (po (po (po (po (zAU _ (by omega)) (by omega)) (by omega)) (by omega)) (by omega)) (by omega)) rfl) (zJR hT2 (zAU _ (by simp only [zAe]; omega))) ?_
  refine zAl rfl (hw0 _ (po (po (po (po (po (po (zAU _ (by omega)) (by omega)) (by omega)) (by omega)) (by omega)) (by omega)) (by omega)) rfl) (zGQ (po (po (po (zAU _ (by simp only [zAe]; omega)) (by omega)) (by omega)) (by omega)) (zAU _ (by simp only [zAe]; omega)) hcm) ?_
  refine zAl rfl (zAx rfl) (zEF (po (po (po (po (po (po (po (zAU _ (by omega)) (by omega)) (by omega)) (by omega)) (by omega)) (by omega)) (by omega)) (by omega)) (zAU _ (by simp only [zAe]; omega))) ?_
  refine hk _ ⟨?_, ?_, ?_, ?_, ?_, ?_⟩
  ·simp only [zAe]; exact z
  ·simp only [zBg]; exact hC.defers
  ·exact (po (po (po (po (po (po (po (po (po hC.s2 (by omega)) (by omega)) (by omega)) (by omega)) (by omega)) (by omega)) (by omega)) (by omega)) (by omega))
  ·exact (po (po (po (po (po (po (po (po (po hC.s3 (by omega)) (by omega)) (by omega)) (by omega)) (by omega)) (by omega)) (by omega)) (by omega)) (by omega))
  ·exact (po (po (po (po (po (po (po (po (po hC.s4 (by omega)) (by omega)) (by omega)) (by omega)) (by omega)) (by omega)) (by omega)) (by omega)) (by omega))
  ·exact zAU _ (by simp only [zAe]; omega)
theorem zN1 {N q2 q3 : Nat} {V4 : Value} (s : Nat) (T f i tl : Nat) (tc tc2 : Nat) (u v : Value) (n : Bool) {R2 R3 : Array Value} {t : TypeId} {fr2 fr3 : Nat × Nat} {y2 y3 y4 y5 y6 : Nat} {x2 x3 x4 x5 x6 : String} {e2 e3 e4 e5 e6 : Array Edge}
  (z : a.tmps.size = N) (hd : a.defers = []) (s2 : a.tmps[2]? = some (.pointer (some ⟨q2, 0, none⟩))) (s3 : a.tmps[3]? = some (.pointer (some ⟨q3, 0, none⟩))) (s4 : a.tmps[4]? = some V4) (hs : 5 ≤ s) (hN : s + 4 < N)
  (hF : ∀ (q : Nat) (w : World), (Instr.fieldAt T (.pointer (some ⟨q, 0, none⟩)) f).run P w = .ok (.pointer (some ⟨q, i, none⟩)) w) (hfl : zDe P tl) (hcm : Cmp P .neq tc tc2 u v n)
  (h2 : w.heap[q2]? = some (.cells R2 t fr2)) (h3 : w.heap[q3]? = some (.cells R3 t fr3)) (hu : R2[i]? = some u) (hv : R3[i]? = some v)
  (hk : ∀ a', ChS N (.pointer (some ⟨q2, 0, none⟩)) (.pointer (some ⟨q3, 0, none⟩)) V4 a' (s + 4) n → wpList P ops Q rest a' w) :
  wpList P ops Q (⟨some s, .fieldAddr T (.tmp 2) f, y2, x2, e2, none⟩ :: ⟨some (s + 1), .load tl (.tmp s), y3, x3, e3, none⟩ :: ⟨some (s + 2), .fieldAddr T (.tmp 3) f, y4, x4, e4, none⟩ :: ⟨some (s + 3), .load tl (.tmp (s + 2)), y5, x5, e5, none⟩ :: ⟨some (s + 4), .binOp .neq tc (.tmp (s + 1)) (.tmp (s + 3)) tc2, y6, x6, e6, none⟩ :: rest) a w := by
 refine zAl rfl (zAx rfl) (zBi (i := i) (q := q2) s2 hF) ?_
 refine zAl rfl (zAx rfl) (zBv (q := q2) (i := i) (v := u) (zAU _ (by omega)) (zBs hfl w q2 i R2 t fr2 u h2 hu)) ?_
 refine zAl rfl (zAx rfl) (zBi (i := i) (q := q3) (po (po s3 (by omega)) (by omega)) hF) ?_
 refine zAl rfl (zAx rfl) (zBv (q := q3) (i := i) (v := v) (zAU _ (by simp only [zAe]; omega)) (zBs hfl w q3 i R3 t fr3 v h3 hv)) ?_
 refine zAl rfl (zAx rfl) (zGQ (u := u) (v := v) (po (po (zAU _ (by simp only [zAe]; omega)) (by omega)) (by omega)) (zAU _ (by simp only [zAe]; omega)) hcm) ?_
 refine hk _ ⟨?_, ?_, ?_, ?_, ?_, ?_⟩
 ·simp only [zAe]; exact z
 ·simp only [zBg]; exact hd
 ·exact (po (po (po (po (po s2 (by omega)) (by omega)) (by omega)) (by omega)) (by omega))
 ·exact (po (po (po (po (po s3 (by omega)) (by omega)) (by omega)) (by omega)) (by omega))
 ·exact (po (po (po (po (po s4 (by omega)) (by omega)) (by omega)) (by omega)) (by omega))
 ·exact zAU _ (by simp only [zAe]; omega)
end
end Go.Proofs.YtgnficcjnijdbaaGreat
namespace Go.Proofs.YtgnficcjnijdbaaGreat
open Go.RowKit Go.Great Go.Proofs.YtgnficcjnijdbaaGreatW.PrintWords Go.Proofs.YtgnficcjnijdbaaGreatW.PrintLast Go.Proofs.YtgnficcjnijdbaaGreatW.PrintMore Go.Proofs.YtgnficcjnijdbaaGreat.KK
theorem zOb (t : Array Value) : t = ((List.range t.size).map (fun i => t.getD i undef)).toArray := by
 apply Array.ext'
 apply List.ext_getElem?
 intro i
 rw [List.getElem?_map]
 rcases Nat.lt_or_ge i t.size with h | h
 ·rw [List.getElem?_range h]
  simp [h]
 ·rw [List.getElem?_eq_none (by simpa using h), List.getElem?_eq_none (by simpa using h)]
  rfl
theorem zN2 (t : Array Value) (h : t.size = 178) : t = #[t.getD 0 undef, t.getD 1 undef, t.getD 2 undef, t.getD 3 undef, t.getD 4 undef, t.getD 5 undef, t.getD 6 undef, t.getD 7 undef, t.getD 8 undef, t.getD 9 undef, t.getD 10 undef, t.getD 11 undef, t.getD 12 undef, t.getD 13 undef, t.getD 14 undef, t.getD 15 undef, t.getD 16 undef, t.getD 17 undef, t.getD 18 undef, t.getD 19 undef, t.getD 20 undef, t.getD 21 undef, t.getD 22 undef, t.getD 23 undef, t.getD 24 undef, t.getD 25 undef, t.getD 26 undef, t.getD 27 undef, t.getD 28 undef, t.getD 29 undef, t.getD 30 undef, t.getD 31 undef, t.getD 32 undef, t.getD 33 undef, t.getD 34 undef, t.getD 35 undef, t.getD 36 undef, t.getD 37 undef, t.getD 38 undef, t.getD 39 undef, t.getD 40 undef, t.getD 41 undef, t.getD 42 undef, t.getD 43 undef, t.getD 44 undef, t.getD 45 undef, t.getD 46 undef, t.getD 47 undef, t.getD 48 undef, t.getD 49 undef, t.getD 50 undef, t.getD 51 undef, t.getD 52 undef, t.getD 53 undef, t.getD 54 undef, t.getD 55 undef, t.getD 56 undef, t.getD 57 undef, t.getD 58 undef, t.getD 59 undef, t.getD 60 undef, t.getD 61 undef, t.getD 62 undef, t.getD 63 undef, t.getD 64 undef, t.getD 65 undef, t.getD 66 undef, t.getD 67 undef, t.getD 68 undef, t.getD 69 undef, t.getD 70 undef, t.getD 71 undef, t.getD 72 undef, t.getD 73 undef, t.getD 74 undef, t.getD 75 undef, t.getD 76 undef, t.getD 77 undef, t.getD 78 undef, t.getD 79 undef, t.getD 80 undef, t.getD 81 undef, t.getD 82 undef, t.getD 83 undef, t.getD 84 undef, t.getD 85 undef, t.getD 86 undef, t.getD 87 undef, t.getD 88 undef, t.getD 89 undef, t.getD 90 undef, t.getD 91 undef, t.getD 92 undef, t.getD 93 undef, t.getD 94 undef, t.getD 95 undef, t.getD 96 undef, t.getD 97 undef, t.getD 98 undef, t.getD 99 undef, t.getD 100 undef, t.getD 101 undef, t.getD 102 undef, t.getD 103 undef, t.getD 104 undef, t.getD 105 undef, t.getD 106 undef, t.getD 107 undef, t.getD 108 undef, t.getD 109 undef, t.getD 110 undef, t.getD 111 undef, t.getD 112 undef, t.getD 113 undef, t.getD 114 undef, t.getD 115 undef, t.getD 116 undef, t.getD 117 undef, t.getD 118 undef, t.getD 119 undef, t.getD 120 undef, t.getD 121 undef, t.getD 122 undef, t.getD 123 undef, t.getD 124 undef, t.getD 125 undef, t.getD 126 undef, t.getD 127 undef, t.getD 128 undef, t.getD 129 undef, t.getD 130 undef, t.getD 131 undef, t.getD 132 undef, t.getD 133 undef, t.getD 134 undef, t.getD 135 undef, t.getD 136 undef, t.getD 137 undef, t.getD 138 undef, t.getD 139 undef, t.getD 140 undef, t.getD 141 undef, t.getD 142 undef, t.getD 143 undef, t.getD 144 undef, t.getD 145 undef, t.getD 146 undef, t.getD 147 undef, t.getD 148 undef, t.getD 149 undef, t.getD 150 undef, t.getD 151 undef, t.getD 152 undef, t.getD 153 undef, t.getD 154 undef, t.getD 155 undef, t.getD 156 undef, t.getD 157 undef, t.getD 158 undef, t.getD 159 undef, t.getD 160 undef, t.getD 161 undef, t.getD 162 undef, t.getD 163 undef, t.getD 164 undef, t.getD 165 undef, t.getD 166 undef, t.getD 167 undef, t.getD 168 undef, t.getD 169 undef, t.getD 170 undef, t.getD 171 undef, t.getD 172 undef, t.getD 173 undef, t.getD 174 undef, t.getD 175 undef, t.getD 176 undef, t.getD 177 undef] := by
 have e := zOb t
 rw [h] at e
 exact e.trans (by kernel_rfl)
theorem zOc (q : Nat) (w : World) : (Instr.fieldAt 29 (.pointer (some ⟨q, 0, none⟩)) 0).run Tryz.prog w = .ok (.pointer (some ⟨q, 0, none⟩)) w := by kernel_rfl
theorem zOd (q : Nat) (w : World) : (Instr.fieldAt 29 (.pointer (some ⟨q, 0, none⟩)) 1).run Tryz.prog w = .ok (.pointer (some ⟨q, 1, none⟩)) w := by kernel_rfl
theorem zOe (q : Nat) (w : World) : (Instr.fieldAt 29 (.pointer (some ⟨q, 0, none⟩)) 2).run Tryz.prog w = .ok (.pointer (some ⟨q, 2, none⟩)) w := by kernel_rfl
theorem zOf (q : Nat) (w : World) : (Instr.fieldAt 29 (.pointer (some ⟨q, 0, none⟩)) 3).run Tryz.prog w = .ok (.pointer (some ⟨q, 3, none⟩)) w := by kernel_rfl
theorem zOg (q : Nat) (w : World) : (Instr.fieldAt 29 (.pointer (some ⟨q, 0, none⟩)) 4).run Tryz.prog w = .ok (.pointer (some ⟨q, 4, none⟩)) w := by kernel_rfl
theorem zOh (q : Nat) (w : World) : (Instr.fieldAt 29 (.pointer (some ⟨q, 0, none⟩)) 5).run Tryz.prog w = .ok (.pointer (some ⟨q, 5, none⟩)) w := by kernel_rfl
theorem zOi (q : Nat) (w : World) : (Instr.fieldAt 29 (.pointer (some ⟨q, 0, none⟩)) 6).run Tryz.prog w = .ok (.pointer (some ⟨q, 6, none⟩)) w := by kernel_rfl
theorem zOj (q : Nat) (w : World) : (Instr.fieldAt 29 (.pointer (some ⟨q, 0, none⟩)) 7).run Tryz.prog w = .ok (.pointer (some ⟨q, 7, none⟩)) w := by kernel_rfl
theorem zOk (q : Nat) (w : World) : (Instr.fieldAt 29 (.pointer (some ⟨q, 0, none⟩)) 8).run Tryz.prog w = .ok (.pointer (some ⟨q, 8, none⟩)) w := by kernel_rfl
theorem zOl (q : Nat) (w : World) : (Instr.fieldAt 29 (.pointer (some ⟨q, 0, none⟩)) 9).run Tryz.prog w = .ok (.pointer (some ⟨q, 9, none⟩)) w := by kernel_rfl
theorem zOH (q : Nat) (w : World) : (Instr.fieldAt 29 (.pointer (some ⟨q, 0, none⟩)) 10).run Tryz.prog w = .ok (.pointer (some ⟨q, 17, none⟩)) w := by kernel_rfl
theorem zOI (q : Nat) (w : World) : (Instr.fieldAt 29 (.pointer (some ⟨q, 0, none⟩)) 11).run Tryz.prog w = .ok (.pointer (some ⟨q, 18, none⟩)) w := by kernel_rfl
theorem zOJ (q : Nat) (w : World) : (Instr.fieldAt 29 (.pointer (some ⟨q, 0, none⟩)) 12).run Tryz.prog w = .ok (.pointer (some ⟨q, 19, none⟩)) w := by kernel_rfl
theorem zOK (q : Nat) (w : World) : (Instr.fieldAt 29 (.pointer (some ⟨q, 0, none⟩)) 13).run Tryz.prog w = .ok (.pointer (some ⟨q, 20, none⟩)) w := by kernel_rfl
theorem zOL (q : Nat) (w : World) : (Instr.fieldAt 29 (.pointer (some ⟨q, 0, none⟩)) 14).run Tryz.prog w = .ok (.pointer (some ⟨q, 21, none⟩)) w := by kernel_rfl
theorem zOM (q : Nat) (w : World) : (Instr.fieldAt 29 (.pointer (some ⟨q, 0, none⟩)) 15).run Tryz.prog w = .ok (.pointer (some ⟨q, 22, none⟩)) w := by kernel_rfl
theorem zON (q : Nat) (w : World) : (Instr.fieldAt 29 (.pointer (some ⟨q, 0, none⟩)) 16).run Tryz.prog w = .ok (.pointer (some ⟨q, 23, none⟩)) w := by kernel_rfl
theorem zLK (x y : Int) : Cmp Tryz.prog .neq 3 3 (.int .i64 x) (.int .i64 y) (!eqB x y) := fun _ _ w => by
 by_cases h : x = y
 ·rw [zB6 h]; subst h; go_simp
 ·rw [zAr h]; go_simp
theorem zEs (x y : Int) : Cmp Tryz.prog .neq 22 22 (.int .u32 x) (.int .u32 y) (!eqB x y) := fun _ _ w => by
 by_cases h : x = y
 ·rw [zB6 h]; subst h; go_simp
 ·rw [zAr h]; go_simp
theorem zN3 (x y : Int) : Cmp Tryz.prog .neq 23 23 (.int .u64 x) (.int .u64 y) (!eqB x y) := fun _ _ w => by
 by_cases h : x = y
 ·rw [zB6 h]; subst h; go_simp
 ·rw [zAr h]; go_simp
theorem zD2 (x y : ByteArray) : Cmp Tryz.prog .neq 9 9 (.string x) (.string y) (!eqB x y) := fun _ _ w => by
 by_cases h : x = y
 ·rw [zB6 h]; subst h; go_simp
 ·have h2 := zCy h
  rw [zAr h]; go_simp
theorem zEt (a b c d e f g : Int) (l : List zAu) : 4 ≤ (atB a b c d e f g l).length := by unfold atB; rw [List.length_append, zAi]; omega
theorem zCR (a b c d e f g : Int) (l : List zAu) (hl : gEx l) : (atB a b c d e f g l).length ≤ 20000000 := by
 have := zIX a b c d e f g
 have hp : (pX a l).length ≤ 4 + (exB l).length := by unfold pX; split <;> simp [zAi]
 have := hl.2.1
 unfold atB
 simp only [List.length_append, zAi]
 omega
theorem zAp {B : Nat} {w W : World} (h : Below B w W) : Below B w W.drew := ⟨h.os, h.tape, h.output, h.size, h.block⟩
theorem zDI {w0 w : World} {base gg q o : Nat} {L : List UInt8} {a b c d e f g : Int} {A : Option Addr} {n cap : Nat} {l : List zAu} (hb : MB base w0 w gg L) (hL : L.length ≤ 100000000) (hq : q < base) (hbs : base ≤ w0.heap.size)
  (h8 : At8 w0 q o a b c d e f g (.slice A n cap)) (hn : n = l.length) (hx : ExtAt w0 base A l) (hl : gEx l) (hcap : l.length ≤ cap)
  (ga : zAc a) (gb : zC6 b) (gc : zAc c) (gd : zAc d) (ge : zAc e) (gf : zAc f) (gg' : zAc g) :
  Calls Tryz.prog 105 #[.pointer (some ⟨q, o, none⟩), .pointer (some ⟨gg, 0, none⟩)] w fun r w' => r = .returned (.tuple #[]) ∧ MB base w0 w' gg (L ++ atB a b c d e f g l) := by
 obtain ⟨v, m, bl⟩ := hb
 exact (zJn base gg q o L a b c d e f g A n cap l w ⟨v, m, Below.refl _ _⟩ hL (Nat.le_trans hbs bl.size) hq (h8.below bl hq) hn (hx.below bl (Nat.le_refl _)) hl hcap ga gb gc gd ge gf gg').mono fun r w' ⟨hr, v', m', b'⟩ => ⟨hr, v', m', bl.trans b'⟩
theorem zH0 (q : Nat) (s : ByteArray) (x : Int) (a b c d e f g : Int) (A : Option Addr) (n cap : Nat) (l : List zAu) (id : Int) (w : World) (hq : w.heap[q]? = some (.cells #[.string s, .int .u32 x, .int .u32 a, .int .u64 b, .int .u32 c, .int .u32 d, .int .u32 e, .int .u32 f, .int .u32 g, .slice A n cap] 119 (0, 0))) (hs : s.size ≤ 1000000) (x0 : 0 ≤ x) (x1 : x ≤ 4294967295)
  (hn : n = l.length) (hx : ExtAt w w.heap.size A l) (hl : gEx l) (hcap : l.length ≤ cap) (ga : zAc a) (gb : zC6 b) (gc : zAc c) (gd : zAc d) (ge : zAc e) (gf : zAc f) (gg' : zAc g) (i0 : 0 ≤ id) (i1 : id ≤ 4294967295) :
  Calls Tryz.prog 98 #[.pointer (some ⟨q, 0, none⟩), .int .u32 id, .slice none 0 0] w (zBk (zA5 3 id (str (tl s) ++ zAQ x ++ atB a b c d e f g l) 0) none 0 0 w) := by
 have hql := zAC hq
 have h8 : At8 w q 2 a b c d e f g (.slice A n cap) := ⟨by rw [zAA hq]; rfl, by rw [zAA hq]; rfl, by rw [zAA hq]; rfl, by rw [zAA hq]; rfl, by rw [zAA hq]; rfl, by rw [zAA hq]; rfl, by rw [zAA hq]; rfl, by rw [zAA hq]; rfl⟩
 have LC := Lib.hid (fun (W : World) (hW : Below w.heap.size w W) => zC7 w.heap.size q 2 a b c d e f g A n cap l W hW.size hql (h8.below hW hql) hn (hx.below hW (Nat.le_refl _)) hl hcap)
 have IC := Lib.hid (fun (W : World) (gg : Nat) (L : List UInt8) (hL : L.length ≤ 100000000) (hW : MB w.heap.size w W gg L) => zDI hW hL hql (Nat.le_refl _) h8 hn hx hl hcap ga gb gc gd ge gf gg')
 have HG := Lib.hid (zEt a b c d e f g l)
 have HM := Lib.hid (zCR a b c d e f g l hl)
 have H0 := Lib.hid hq
 clear hq h8 hx hl hn hcap ga gb gc gd ge gf gg'
 generalize atB a b c d e f g l = F at *
 obtain ⟨M, hM⟩ : ∃ M, F.length = M := ⟨_, rfl⟩
 have hM1 : 4 ≤ M := by rw [← hM]; exact HG.out
 have hM2 : M ≤ 20000000 := by rw [← hM]; exact HM.out
 rw [hM] at LC
 go_enter Tryz.func98, Tryz.ntmps98
 go_wp2_with fail
 refine (zAZ _ _ _ _).mono ?_
 rintro e w1 ⟨rfl, hw⟩
 have cb : w1.cell? ⟨w.heap.size, 0, none⟩ = some (.slice none 0 0) := by rw [← hw, zAA (heap_alloc_new _ _)]; rfl
 have hb1 : Below w.heap.size w w1 := by rw [← hw]; exact (Below.refl _ _).alloc (Nat.le_refl _) _
 have h1 := (hb1.block q hql).trans H0.out
 have c0 : w1.cell? ⟨q, 0, none⟩ = some (.string s) := by rw [zAA h1]; rfl
 have c1 : w1.cell? ⟨q, 1, none⟩ = some (.int .u32 x) := by rw [zAA h1]; rfl
 have z1 := hb1.size
 have B1 := Lib.hid hb1
 have HMM := Lib.hid hM
 clear hw h1 hM
 go_wp2_with fail
 refine (zBx _ _ _ _ _ cb).mono ?_
 rintro e w' ⟨rfl, rfl⟩
 have s0 : IntKind.i64.wrap (4 + (s.size : Int)) = 4 + (s.size : Int) := IntWalk.i64_in _ (by omega)
 have s1 : IntKind.i64.wrap (4 + (s.size : Int) + 4) = 4 + (s.size : Int) + 4 := IntWalk.i64_in _ (by omega)
 have s2 : IntKind.i64.wrap (4 + (s.size : Int) + 4 + (M : Int)) = 4 + (s.size : Int) + 4 + (M : Int) := IntWalk.i64_in _ (by omega)
 have zq : q < w1.heap.size := Nat.lt_of_lt_of_le hql z1
 have LD := Lib.hid (fun (w' : World) (hW : w'.cell? ⟨q, 0, none⟩ = some (.string s) ∧ w'.cell? ⟨q, 1, none⟩ = some (.int .u32 x) ∧ q < w'.heap.size ∧ Below w.heap.size w w') => LC.out w' hW.2.2.2)
 clear cb
 go_wp2_with fail
 go_region_held3 (fun w' => w'.cell? ⟨q, 0, none⟩ = some (.string s) ∧ w'.cell? ⟨q, 1, none⟩ = some (.int .u32 x) ∧ q < w'.heap.size ∧ Below w.heap.size w w')
  (((first | (go_split_ands) | skip); (repeat' apply And.intro) <;> first | assumption | exact zAW hb hql (by assumption) | exact zAp (by assumption) | exact Nat.lt_of_lt_of_le (by assumption) hb.size | exact Nat.lt_of_lt_of_le (by assumption) (Below.size hb) | exact Below.trans (by assumption) hb))
  (first
   | (go_at_call 102; refine (LD.out _ (by assumption)).mono ?_; rintro r w' ⟨rfl, hb⟩))
 all_goals
  go_split_ands
  clear LC LD
  try clear c0
  try clear c1
  go_wp2_with fail
  refine (zAf w.heap.size _ _ (Below.size (by assumption)) (by omega) (by omega)).mono ?_
  rintro e w2 ⟨gg, h, N, l2, rfl, m2, hN, hb2⟩
  have B2 := Lib.hid (Below.trans (by assumption : Below w.heap.size w _) hb2)

  have M2 := Lib.hid m2
  clear m2 hb2
  go_wp2_with fail
  refine (zAa w.heap.size gg h N N l2 _ _ _ M2.out (by omega) (by omega) (by omega) i0 i1).mono ?_
  rintro e w3 ⟨rfl, v3, m3, hb3⟩
  have K3 := Lib.hid (show MB w.heap.size w w3 gg (pk0 3 id) from ⟨v3, m3, B2.out.trans hb3⟩)
  clear m3 hb3 B2 M2
  have h3 := (K3.out.below.block q hql).trans H0.out
  have c0 : w3.cell? ⟨q, 0, none⟩ = some (.string s) := by rw [zAA h3]; rfl
  clear h3
  go_wp2_with fail
  refine (zB4 K3.out s (by simp only [List.length_append, zA3, zAK, zAM, zAH]; omega) (by omega)).mono ?_
  rintro e w4 ⟨rfl, hm⟩
  have K4 := Lib.hid hm
  clear hm K3 c0
  have h4 := (K4.out.below.block q hql).trans H0.out
  have c1 : w4.cell? ⟨q, 1, none⟩ = some (.int .u32 x) := by rw [zAA h4]; rfl
  clear h4
  go_wp2_with fail
  refine (zHE K4.out x x0 x1 (by simp only [List.length_append, zA3, zAK, zAM, zAH]; omega)).mono ?_
  rintro e w5 ⟨rfl, hm⟩
  have K5 := Lib.hid hm
  clear hm K4 c1
  go_wp2_with fail
  refine (IC.out _ gg _ (by simp only [List.length_append, zA3, zAK, zAM, zAH]; omega) K5.out).mono ?_
  rintro e w7 ⟨rfl, v9, m9, b9⟩
  have M9 := Lib.hid m9
  have B9 := Lib.hid b9
  have hM := HMM.out
  clear m9 b9 K5 IC
  go_wp2_with fail
  refine (zBA w.heap.size gg v9 _ _ _ _ _ M9.out (by simp only [List.length_append, zA3]; omega) (by simp only [List.length_append, zA3, zAK, zAM, zAH]; omega) (by omega)).mono ?_
  rintro e wz ⟨rfl, m5, g5⟩
  have M5 := Lib.hid m5
  have B5 := Lib.hid (B9.out.grown g5 (by have := M9.out.baseLe; omega) (fun k hk => (M9.out.own.lt k hk).1))
  clear m5 g5
  go_wp2_with fail
  go_ret3
  refine ⟨_, rfl, ?_, B5.out⟩
  have e := zBS 3 id (str (tl s) ++ zAQ x ++ F) (pk0 3 id ++ str (tl s) ++ zAQ x ++ F) 0 (by simp only [List.append_assoc])
  rw [← e]
  exact M5.out.own
theorem zEu (q : Nat) (s : ByteArray) (a b c d e f g : Int) (A : Option Addr) (n cap : Nat) (l : List zAu) (id : Int) (w : World) (hq : w.heap[q]? = some (.cells #[.string s, .int .u32 a, .int .u64 b, .int .u32 c, .int .u32 d, .int .u32 e, .int .u32 f, .int .u32 g, .slice A n cap] 136 (0, 0))) (hs : s.size ≤ 1000000)
  (hn : n = l.length) (hx : ExtAt w w.heap.size A l) (hl : gEx l) (hcap : l.length ≤ cap) (ga : zAc a) (gb : zC6 b) (gc : zAc c) (gd : zAc d) (ge : zAc e) (gf : zAc f) (gg' : zAc g) (i0 : 0 ≤ id) (i1 : id ≤ 4294967295) :
  Calls Tryz.prog 135 #[.pointer (some ⟨q, 0, none⟩), .int .u32 id, .slice none 0 0] w (zBk (zA5 9 id (str (tl s) ++ atB a b c d e f g l) 0) none 0 0 w) := by
 have hql := zAC hq
 have h8 : At8 w q 1 a b c d e f g (.slice A n cap) := ⟨by rw [zAA hq]; rfl, by rw [zAA hq]; rfl, by rw [zAA hq]; rfl, by rw [zAA hq]; rfl, by rw [zAA hq]; rfl, by rw [zAA hq]; rfl, by rw [zAA hq]; rfl, by rw [zAA hq]; rfl⟩
 have LC := Lib.hid (fun (W : World) (hW : Below w.heap.size w W) => zC7 w.heap.size q 1 a b c d e f g A n cap l W hW.size hql (h8.below hW hql) hn (hx.below hW (Nat.le_refl _)) hl hcap)
 have IC := Lib.hid (fun (W : World) (gg : Nat) (L : List UInt8) (hL : L.length ≤ 100000000) (hW : MB w.heap.size w W gg L) => zDI hW hL hql (Nat.le_refl _) h8 hn hx hl hcap ga gb gc gd ge gf gg')
 have HG := Lib.hid (zEt a b c d e f g l)
 have HM := Lib.hid (zCR a b c d e f g l hl)
 have H0 := Lib.hid hq
 clear hq h8 hx hl hn hcap ga gb gc gd ge gf gg'
 generalize atB a b c d e f g l = F at *
 obtain ⟨M, hM⟩ : ∃ M, F.length = M := ⟨_, rfl⟩
 have hM1 : 4 ≤ M := by rw [← hM]; exact HG.out
 have hM2 : M ≤ 20000000 := by rw [← hM]; exact HM.out
 rw [hM] at LC
 go_enter Tryz.func135, Tryz.ntmps135
 go_wp2_with fail
 refine (zAZ _ _ _ _).mono ?_
 rintro e w1 ⟨rfl, hw⟩
 have cb : w1.cell? ⟨w.heap.size, 0, none⟩ = some (.slice none 0 0) := by rw [← hw, zAA (heap_alloc_new _ _)]; rfl
 have hb1 : Below w.heap.size w w1 := by rw [← hw]; exact (Below.refl _ _).alloc (Nat.le_refl _) _
 have h1 := (hb1.block q hql).trans H0.out
 have c0 : w1.cell? ⟨q, 0, none⟩ = some (.string s) := by rw [zAA h1]; rfl
 have z1 := hb1.size
 have B1 := Lib.hid hb1
 have HMM := Lib.hid hM
 clear hw h1 hM
 go_wp2_with fail
 refine (zBx _ _ _ _ _ cb).mono ?_
 rintro e w' ⟨rfl, rfl⟩
 have s0 : IntKind.i64.wrap (4 + (s.size : Int)) = 4 + (s.size : Int) := IntWalk.i64_in _ (by omega)
 have s2 : IntKind.i64.wrap (4 + (s.size : Int) + (M : Int)) = 4 + (s.size : Int) + (M : Int) := IntWalk.i64_in _ (by omega)
 have zq : q < w1.heap.size := Nat.lt_of_lt_of_le hql z1
 have LD := Lib.hid (fun (w' : World) (hW : w'.cell? ⟨q, 0, none⟩ = some (.string s) ∧ q < w'.heap.size ∧ Below w.heap.size w w') => LC.out w' hW.2.2)
 clear cb
 go_wp2_with fail
 go_region_held3 (fun w' => w'.cell? ⟨q, 0, none⟩ = some (.string s) ∧ q < w'.heap.size ∧ Below w.heap.size w w')
  (((first | (go_split_ands) | skip); (repeat' apply And.intro) <;> first | assumption | exact zAW hb hql (by assumption) | exact zAp (by assumption) | exact Nat.lt_of_lt_of_le (by assumption) hb.size | exact Nat.lt_of_lt_of_le (by assumption) (Below.size hb) | exact Below.trans (by assumption) hb))
  (first
   | (go_at_call 102; refine (LD.out _ (by assumption)).mono ?_; rintro r w' ⟨rfl, hb⟩))
 all_goals
  go_split_ands
  clear LC LD
  try clear c0
  try clear c1
  go_wp2_with fail
  refine (zAf w.heap.size _ _ (Below.size (by assumption)) (by omega) (by omega)).mono ?_
  rintro e w2 ⟨gg, h, N, l2, rfl, m2, hN, hb2⟩
  have B2 := Lib.hid (Below.trans (by assumption : Below w.heap.size w _) hb2)

  have M2 := Lib.hid m2
  clear m2 hb2
  go_wp2_with fail
  refine (zAa w.heap.size gg h N N l2 _ _ _ M2.out (by omega) (by omega) (by omega) i0 i1).mono ?_
  rintro e w3 ⟨rfl, v3, m3, hb3⟩
  have K3 := Lib.hid (show MB w.heap.size w w3 gg (pk0 9 id) from ⟨v3, m3, B2.out.trans hb3⟩)
  clear m3 hb3 B2 M2
  have h3 := (K3.out.below.block q hql).trans H0.out
  have c0 : w3.cell? ⟨q, 0, none⟩ = some (.string s) := by rw [zAA h3]; rfl
  clear h3
  go_wp2_with fail
  refine (zB4 K3.out s (by simp only [List.length_append, zA3, zAK, zAM, zAH]; omega) (by omega)).mono ?_
  rintro e w4 ⟨rfl, hm⟩
  have K4 := Lib.hid hm
  clear hm K3 c0
  go_wp2_with fail
  refine (IC.out _ gg _ (by simp only [List.length_append, zA3, zAK, zAM, zAH]; omega) K4.out).mono ?_
  rintro e w7 ⟨rfl, v9, m9, b9⟩
  have M9 := Lib.hid m9
  have B9 := Lib.hid b9
  have hM := HMM.out
  clear m9 b9 K4 IC
  go_wp2_with fail
  refine (zBA w.heap.size gg v9 _ _ _ _ _ M9.out (by simp only [List.length_append, zA3]; omega) (by simp only [List.length_append, zA3, zAK, zAM, zAH]; omega) (by omega)).mono ?_
  rintro e wz ⟨rfl, m5, g5⟩
  have M5 := Lib.hid m5
  have B5 := Lib.hid (B9.out.grown g5 (by have := M9.out.baseLe; omega) (fun k hk => (M9.out.own.lt k hk).1))
  clear m5 g5
  go_wp2_with fail
  go_ret3
  refine ⟨_, rfl, ?_, B5.out⟩
  have e := zBS 9 id (str (tl s) ++ F) (pk0 9 id ++ str (tl s) ++ F) 0 (by simp only [List.append_assoc])
  rw [← e]
  exact M5.out.own
theorem zEX (q : Nat) (s : ByteArray) (a b c d e f g : Int) (A : Option Addr) (n cap : Nat) (l : List zAu) (id : Int) (w : World) (hq : w.heap[q]? = some (.cells #[.string s, .int .u32 a, .int .u64 b, .int .u32 c, .int .u32 d, .int .u32 e, .int .u32 f, .int .u32 g, .slice A n cap] 139 (0, 0))) (hs : s.size ≤ 1000000)
  (hn : n = l.length) (hx : ExtAt w w.heap.size A l) (hl : gEx l) (hcap : l.length ≤ cap) (ga : zAc a) (gb : zC6 b) (gc : zAc c) (gd : zAc d) (ge : zAc e) (gf : zAc f) (gg' : zAc g) (i0 : 0 ≤ id) (i1 : id ≤ 4294967295) :
  Calls Tryz.prog 138 #[.pointer (some ⟨q, 0, none⟩), .int .u32 id, .slice none 0 0] w (zBk (zA5 10 id (str (tl s) ++ atB a b c d e f g l) 0) none 0 0 w) := by
 have hql := zAC hq
 have h8 : At8 w q 1 a b c d e f g (.slice A n cap) := ⟨by rw [zAA hq]; rfl, by rw [zAA hq]; rfl, by rw [zAA hq]; rfl, by rw [zAA hq]; rfl, by rw [zAA hq]; rfl, by rw [zAA hq]; rfl, by rw [zAA hq]; rfl, by rw [zAA hq]; rfl⟩
 have LC := Lib.hid (fun (W : World) (hW : Below w.heap.size w W) => zC7 w.heap.size q 1 a b c d e f g A n cap l W hW.size hql (h8.below hW hql) hn (hx.below hW (Nat.le_refl _)) hl hcap)
 have IC := Lib.hid (fun (W : World) (gg : Nat) (L : List UInt8) (hL : L.length ≤ 100000000) (hW : MB w.heap.size w W gg L) => zDI hW hL hql (Nat.le_refl _) h8 hn hx hl hcap ga gb gc gd ge gf gg')
 have HG := Lib.hid (zEt a b c d e f g l)
 have HM := Lib.hid (zCR a b c d e f g l hl)
 have H0 := Lib.hid hq
 clear hq h8 hx hl hn hcap ga gb gc gd ge gf gg'
 generalize atB a b c d e f g l = F at *
 obtain ⟨M, hM⟩ : ∃ M, F.length = M := ⟨_, rfl⟩
 have hM1 : 4 ≤ M := by rw [← hM]; exact HG.out
 have hM2 : M ≤ 20000000 := by rw [← hM]; exact HM.out
 rw [hM] at LC
 go_enter Tryz.func138, Tryz.ntmps138
 go_wp2_with fail
 refine (zAZ _ _ _ _).mono ?_
 rintro e w1 ⟨rfl, hw⟩
 have cb : w1.cell? ⟨w.heap.size, 0, none⟩ = some (.slice none 0 0) := by rw [← hw, zAA (heap_alloc_new _ _)]; rfl
 have hb1 : Below w.heap.size w w1 := by rw [← hw]; exact (Below.refl _ _).alloc (Nat.le_refl _) _
 have h1 := (hb1.block q hql).trans H0.out
 have c0 : w1.cell? ⟨q, 0, none⟩ = some (.string s) := by rw [zAA h1]; rfl
 have z1 := hb1.size
 have B1 := Lib.hid hb1
 have HMM := Lib.hid hM
 clear hw h1 hM
 go_wp2_with fail
 refine (zBx _ _ _ _ _ cb).mono ?_
 rintro e w' ⟨rfl, rfl⟩
 have s0 : IntKind.i64.wrap (4 + (s.size : Int)) = 4 + (s.size : Int) := IntWalk.i64_in _ (by omega)
 have s2 : IntKind.i64.wrap (4 + (s.size : Int) + (M : Int)) = 4 + (s.size : Int) + (M : Int) := IntWalk.i64_in _ (by omega)
 have zq : q < w1.heap.size := Nat.lt_of_lt_of_le hql z1
 have LD := Lib.hid (fun (w' : World) (hW : w'.cell? ⟨q, 0, none⟩ = some (.string s) ∧ q < w'.heap.size ∧ Below w.heap.size w w') => LC.out w' hW.2.2)
 clear cb
 go_wp2_with fail
 go_region_held3 (fun w' => w'.cell? ⟨q, 0, none⟩ = some (.string s) ∧ q < w'.heap.size ∧ Below w.heap.size w w')
  (((first | (go_split_ands) | skip); (repeat' apply And.intro) <;> first | assumption | exact zAW hb hql (by assumption) | exact zAp (by assumption) | exact Nat.lt_of_lt_of_le (by assumption) hb.size | exact Nat.lt_of_lt_of_le (by assumption) (Below.size hb) | exact Below.trans (by assumption) hb))
  (first
   | (go_at_call 102; refine (LD.out _ (by assumption)).mono ?_; rintro r w' ⟨rfl, hb⟩))
 all_goals
  go_split_ands
  clear LC LD
  try clear c0
  try clear c1
  go_wp2_with fail
  refine (zAf w.heap.size _ _ (Below.size (by assumption)) (by omega) (by omega)).mono ?_
  rintro e w2 ⟨gg, h, N, l2, rfl, m2, hN, hb2⟩
  have B2 := Lib.hid (Below.trans (by assumption : Below w.heap.size w _) hb2)

  have M2 := Lib.hid m2
  clear m2 hb2
  go_wp2_with fail
  refine (zAa w.heap.size gg h N N l2 _ _ _ M2.out (by omega) (by omega) (by omega) i0 i1).mono ?_
  rintro e w3 ⟨rfl, v3, m3, hb3⟩
  have K3 := Lib.hid (show MB w.heap.size w w3 gg (pk0 10 id) from ⟨v3, m3, B2.out.trans hb3⟩)
  clear m3 hb3 B2 M2
  have h3 := (K3.out.below.block q hql).trans H0.out
  have c0 : w3.cell? ⟨q, 0, none⟩ = some (.string s) := by rw [zAA h3]; rfl
  clear h3
  go_wp2_with fail
  refine (zB4 K3.out s (by simp only [List.length_append, zA3, zAK, zAM, zAH]; omega) (by omega)).mono ?_
  rintro e w4 ⟨rfl, hm⟩
  have K4 := Lib.hid hm
  clear hm K3 c0
  go_wp2_with fail
  refine (IC.out _ gg _ (by simp only [List.length_append, zA3, zAK, zAM, zAH]; omega) K4.out).mono ?_
  rintro e w7 ⟨rfl, v9, m9, b9⟩
  have M9 := Lib.hid m9
  have B9 := Lib.hid b9
  have hM := HMM.out
  clear m9 b9 K4 IC
  go_wp2_with fail
  refine (zBA w.heap.size gg v9 _ _ _ _ _ M9.out (by simp only [List.length_append, zA3]; omega) (by simp only [List.length_append, zA3, zAK, zAM, zAH]; omega) (by omega)).mono ?_
  rintro e wz ⟨rfl, m5, g5⟩
  have M5 := Lib.hid m5
  have B5 := Lib.hid (B9.out.grown g5 (by have := M9.out.baseLe; omega) (fun k hk => (M9.out.own.lt k hk).1))
  clear m5 g5
  go_wp2_with fail
  go_ret3
  refine ⟨_, rfl, ?_, B5.out⟩
  have e := zBS 10 id (str (tl s) ++ F) (pk0 10 id ++ str (tl s) ++ F) 0 (by simp only [List.append_assoc])
  rw [← e]
  exact M5.out.own
theorem zGR (q : Nat) (s : ByteArray) (a b c d e f g : Int) (A : Option Addr) (n cap : Nat) (l : List zAu) (id : Int) (w : World) (hq : w.heap[q]? = some (.cells #[.string s, .int .u32 a, .int .u64 b, .int .u32 c, .int .u32 d, .int .u32 e, .int .u32 f, .int .u32 g, .slice A n cap] 147 (0, 0))) (hs : s.size ≤ 1000000)
  (hn : n = l.length) (hx : ExtAt w w.heap.size A l) (hl : gEx l) (hcap : l.length ≤ cap) (ga : zAc a) (gb : zC6 b) (gc : zAc c) (gd : zAc d) (ge : zAc e) (gf : zAc f) (gg' : zAc g) (i0 : 0 ≤ id) (i1 : id ≤ 4294967295) :
  Calls Tryz.prog 150 #[.pointer (some ⟨q, 0, none⟩), .int .u32 id, .slice none 0 0] w (zBk (zA5 14 id (str (tl s) ++ atB a b c d e f g l) 0) none 0 0 w) := by
 have hql := zAC hq
 have h8 : At8 w q 1 a b c d e f g (.slice A n cap) := ⟨by rw [zAA hq]; rfl, by rw [zAA hq]; rfl, by rw [zAA hq]; rfl, by rw [zAA hq]; rfl, by rw [zAA hq]; rfl, by rw [zAA hq]; rfl, by rw [zAA hq]; rfl, by rw [zAA hq]; rfl⟩
 have LC := Lib.hid (fun (W : World) (hW : Below w.heap.size w W) => zC7 w.heap.size q 1 a b c d e f g A n cap l W hW.size hql (h8.below hW hql) hn (hx.below hW (Nat.le_refl _)) hl hcap)
 have IC := Lib.hid (fun (W : World) (gg : Nat) (L : List UInt8) (hL : L.length ≤ 100000000) (hW : MB w.heap.size w W gg L) => zDI hW hL hql (Nat.le_refl _) h8 hn hx hl hcap ga gb gc gd ge gf gg')
 have HG := Lib.hid (zEt a b c d e f g l)
 have HM := Lib.hid (zCR a b c d e f g l hl)
 have H0 := Lib.hid hq
 clear hq h8 hx hl hn hcap ga gb gc gd ge gf gg'
 generalize atB a b c d e f g l = F at *
 obtain ⟨M, hM⟩ : ∃ M, F.length = M := ⟨_, rfl⟩
 have hM1 : 4 ≤ M := by rw [← hM]; exact HG.out
 have hM2 : M ≤ 20000000 := by rw [← hM]; exact HM.out
 rw [hM] at LC
 go_enter Tryz.func150, Tryz.ntmps150
 go_wp2_with fail
 refine (zAZ _ _ _ _).mono ?_
 rintro e w1 ⟨rfl, hw⟩
 have cb : w1.cell? ⟨w.heap.size, 0, none⟩ = some (.slice none 0 0) := by rw [← hw, zAA (heap_alloc_new _ _)]; rfl
 have hb1 : Below w.heap.size w w1 := by rw [← hw]; exact (Below.refl _ _).alloc (Nat.le_refl _) _
 have h1 := (hb1.block q hql).trans H0.out
 have c0 : w1.cell? ⟨q, 0, none⟩ = some (.string s) := by rw [zAA h1]; rfl
 have z1 := hb1.size
 have B1 := Lib.hid hb1
 have HMM := Lib.hid hM
 clear hw h1 hM
 go_wp2_with fail
 refine (zBx _ _ _ _ _ cb).mono ?_
 rintro e w' ⟨rfl, rfl⟩
 have s0 : IntKind.i64.wrap (4 + (s.size : Int)) = 4 + (s.size : Int) := IntWalk.i64_in _ (by omega)
 have s2 : IntKind.i64.wrap (4 + (s.size : Int) + (M : Int)) = 4 + (s.size : Int) + (M : Int) := IntWalk.i64_in _ (by omega)
 have zq : q < w1.heap.size := Nat.lt_of_lt_of_le hql z1
 have LD := Lib.hid (fun (w' : World) (hW : w'.cell? ⟨q, 0, none⟩ = some (.string s) ∧ q < w'.heap.size ∧ Below w.heap.size w w') => LC.out w' hW.2.2)
 clear cb
 go_wp2_with fail
 go_region_held3 (fun w' => w'.cell? ⟨q, 0, none⟩ = some (.string s) ∧ q < w'.heap.size ∧ Below w.heap.size w w')
  (((first | (go_split_ands) | skip); (repeat' apply And.intro) <;> first | assumption | exact zAW hb hql (by assumption) | exact zAp (by assumption) | exact Nat.lt_of_lt_of_le (by assumption) hb.size | exact Nat.lt_of_lt_of_le (by assumption) (Below.size hb) | exact Below.trans (by assumption) hb))
  (first
   | (go_at_call 102; refine (LD.out _ (by assumption)).mono ?_; rintro r w' ⟨rfl, hb⟩))
 all_goals
  go_split_ands
  clear LC LD
  try clear c0
  try clear c1
  go_wp2_with fail
  refine (zAf w.heap.size _ _ (Below.size (by assumption)) (by omega) (by omega)).mono ?_
  rintro e w2 ⟨gg, h, N, l2, rfl, m2, hN, hb2⟩
  have B2 := Lib.hid (Below.trans (by assumption : Below w.heap.size w _) hb2)

  have M2 := Lib.hid m2
  clear m2 hb2
  go_wp2_with fail
  refine (zAa w.heap.size gg h N N l2 _ _ _ M2.out (by omega) (by omega) (by omega) i0 i1).mono ?_
  rintro e w3 ⟨rfl, v3, m3, hb3⟩
  have K3 := Lib.hid (show MB w.heap.size w w3 gg (pk0 14 id) from ⟨v3, m3, B2.out.trans hb3⟩)
  clear m3 hb3 B2 M2
  have h3 := (K3.out.below.block q hql).trans H0.out
  have c0 : w3.cell? ⟨q, 0, none⟩ = some (.string s) := by rw [zAA h3]; rfl
  clear h3
  go_wp2_with fail
  refine (zB4 K3.out s (by simp only [List.length_append, zA3, zAK, zAM, zAH]; omega) (by omega)).mono ?_
  rintro e w4 ⟨rfl, hm⟩
  have K4 := Lib.hid hm
  clear hm K3 c0
  go_wp2_with fail
  refine (IC.out _ gg _ (by simp only [List.length_append, zA3, zAK, zAM, zAH]; omega) K4.out).mono ?_
  rintro e w7 ⟨rfl, v9, m9, b9⟩
  have M9 := Lib.hid m9
  have B9 := Lib.hid b9
  have hM := HMM.out
  clear m9 b9 K4 IC
  go_wp2_with fail
  refine (zBA w.heap.size gg v9 _ _ _ _ _ M9.out (by simp only [List.length_append, zA3]; omega) (by simp only [List.length_append, zA3, zAK, zAM, zAH]; omega) (by omega)).mono ?_
  rintro e wz ⟨rfl, m5, g5⟩
  have M5 := Lib.hid m5
  have B5 := Lib.hid (B9.out.grown g5 (by have := M9.out.baseLe; omega) (fun k hk => (M9.out.own.lt k hk).1))
  clear m5 g5
  go_wp2_with fail
  go_ret3
  refine ⟨_, rfl, ?_, B5.out⟩
  have e := zBS 14 id (str (tl s) ++ F) (pk0 14 id ++ str (tl s) ++ F) 0 (by simp only [List.append_assoc])
  rw [← e]
  exact M5.out.own
theorem zGS (q : Nat) (a b c d e f g : Int) (A : Option Addr) (n cap : Nat) (l : List zAu) (id : Int) (w : World) (hq : w.heap[q]? = some (.cells #[.int .u32 a, .int .u64 b, .int .u32 c, .int .u32 d, .int .u32 e, .int .u32 f, .int .u32 g, .slice A n cap] 180 (0, 0)))
  (hn : n = l.length) (hx : ExtAt w w.heap.size A l) (hl : gEx l) (hcap : l.length ≤ cap) (ga : zAc a) (gb : zC6 b) (gc : zAc c) (gd : zAc d) (ge : zAc e) (gf : zAc f) (gg' : zAc g) (i0 : 0 ≤ id) (i1 : id ≤ 4294967295) :
  Calls Tryz.prog 189 #[.pointer (some ⟨q, 0, none⟩), .int .u32 id, .slice none 0 0] w (zBk (zA5 105 id (atB a b c d e f g l) 0) none 0 0 w) := by
 have hql := zAC hq
 have h8 : At8 w q 0 a b c d e f g (.slice A n cap) := ⟨by rw [zAA hq]; rfl, by rw [zAA hq]; rfl, by rw [zAA hq]; rfl, by rw [zAA hq]; rfl, by rw [zAA hq]; rfl, by rw [zAA hq]; rfl, by rw [zAA hq]; rfl, by rw [zAA hq]; rfl⟩
 have LC := Lib.hid (fun (W : World) (hW : Below w.heap.size w W) => zC7 w.heap.size q 0 a b c d e f g A n cap l W hW.size hql (h8.below hW hql) hn (hx.below hW (Nat.le_refl _)) hl hcap)
 have IC := Lib.hid (fun (W : World) (gg : Nat) (L : List UInt8) (hL : L.length ≤ 100000000) (hW : MB w.heap.size w W gg L) => zDI hW hL hql (Nat.le_refl _) h8 hn hx hl hcap ga gb gc gd ge gf gg')
 have HG := Lib.hid (zEt a b c d e f g l)
 have HM := Lib.hid (zCR a b c d e f g l hl)
 have H0 := Lib.hid hq
 clear hq h8 hx hl hn hcap ga gb gc gd ge gf gg'
 generalize atB a b c d e f g l = F at *
 obtain ⟨M, hM⟩ : ∃ M, F.length = M := ⟨_, rfl⟩
 have hM1 : 4 ≤ M := by rw [← hM]; exact HG.out
 have hM2 : M ≤ 20000000 := by rw [← hM]; exact HM.out
 rw [hM] at LC
 go_enter Tryz.func189, Tryz.ntmps189
 go_wp2_with fail
 refine (zAZ _ _ _ _).mono ?_
 rintro e w1 ⟨rfl, hw⟩
 have cb : w1.cell? ⟨w.heap.size, 0, none⟩ = some (.slice none 0 0) := by rw [← hw, zAA (heap_alloc_new _ _)]; rfl
 have hb1 : Below w.heap.size w w1 := by rw [← hw]; exact (Below.refl _ _).alloc (Nat.le_refl _) _
 have h1 := (hb1.block q hql).trans H0.out
 have z1 := hb1.size
 have B1 := Lib.hid hb1
 have HMM := Lib.hid hM
 clear hw h1 hM
 go_wp2_with fail
 refine (zBx _ _ _ _ _ cb).mono ?_
 rintro e w' ⟨rfl, rfl⟩
 go_wp2_with fail
 refine (LC.out _ B1.out).mono ?_
 rintro r wl ⟨rfl, hbL⟩
 have BL := Lib.hid (B1.out.trans hbL)
 have zl := BL.out.size
 clear hbL B1 cb LC hb1
 go_wp2_with fail
 refine (zAf w.heap.size _ _ zl (by omega) (by omega)).mono ?_
 rintro e w2 ⟨gg, h, N, l2, rfl, m2, hN, hb2⟩
 have B2 := Lib.hid (BL.out.trans hb2)

 have M2 := Lib.hid m2
 clear m2 hb2
 go_wp2_with fail
 refine (zAa w.heap.size gg h N N l2 _ _ _ M2.out (by omega) (by omega) (by omega) i0 i1).mono ?_
 rintro e w3 ⟨rfl, v3, m3, hb3⟩
 have K3 := Lib.hid (show MB w.heap.size w w3 gg (pk0 105 id) from ⟨v3, m3, B2.out.trans hb3⟩)
 clear m3 hb3 B2 M2
 go_wp2_with fail
 refine (IC.out _ gg _ (by simp only [List.length_append, zA3, zAK, zAM, zAH]; omega) K3.out).mono ?_
 rintro e w7 ⟨rfl, v9, m9, b9⟩
 have M9 := Lib.hid m9
 have B9 := Lib.hid b9
 have hM := HMM.out
 clear m9 b9 K3 IC
 go_wp2_with fail
 refine (zBA w.heap.size gg v9 _ _ _ _ _ M9.out (by simp only [List.length_append, zA3]; omega) (by simp only [List.length_append, zA3, zAK, zAM, zAH]; omega) (by omega)).mono ?_
 rintro e wz ⟨rfl, m5, g5⟩
 have M5 := Lib.hid m5
 have B5 := Lib.hid (B9.out.grown g5 (by have := M9.out.baseLe; omega) (fun k hk => (M9.out.own.lt k hk).1))
 clear m5 g5
 go_wp2_with fail
 go_ret3
 refine ⟨_, rfl, ?_, B5.out⟩
 have e := zBS 105 id (F) (pk0 105 id ++ F) 0 (by simp only [List.append_assoc])
 rw [← e]
 exact M5.out.own
theorem zJv (base gg q : Nat) (L : List UInt8) (s t : ByteArray) (a b c d e f g : Int) (A : Option Addr) (n cap : Nat) (l : List zAu) (w0 w : World) (hb : MB base w0 w gg L) (hL : L.length ≤ 90000000)
  (hq : w0.heap[q]? = some (.cells #[.string s, .string t, .int .u32 a, .int .u64 b, .int .u32 c, .int .u32 d, .int .u32 e, .int .u32 f, .int .u32 g, .slice A n cap] 177 (0, 0))) (hqb : q < base) (hbs : base ≤ w0.heap.size) (hs : s.size ≤ 1000000) (ht : t.size ≤ 1000000)
  (hn : n = l.length) (hx : ExtAt w0 base A l) (hl : gEx l) (hcap : l.length ≤ cap) (ga : zAc a) (gb : zC6 b) (gc : zAc c) (gd : zAc d) (ge : zAc e) (gf : zAc f) (gg' : zAc g) :
  Calls Tryz.prog 187 #[.pointer (some ⟨q, 0, none⟩), .pointer (some ⟨gg, 0, none⟩)] w fun r w' => r = .returned (.tuple #[]) ∧ MB base w0 w' gg (L ++ str (tl s) ++ str (tl t) ++ atB a b c d e f g l) := by
 have h8 : At8 w0 q 2 a b c d e f g (.slice A n cap) := ⟨by rw [zAA hq]; rfl, by rw [zAA hq]; rfl, by rw [zAA hq]; rfl, by rw [zAA hq]; rfl, by rw [zAA hq]; rfl, by rw [zAA hq]; rfl, by rw [zAA hq]; rfl, by rw [zAA hq]; rfl⟩
 have IC := Lib.hid (fun (W : World) (L : List UInt8) (hL : L.length ≤ 100000000) (hW : MB base w0 W gg L) => zDI hW hL hqb hbs h8 hn hx hl hcap ga gb gc gd ge gf gg')
 have H0 := Lib.hid hq
 have h1 := (hb.below.block q hqb).trans hq
 have c0 : w.cell? ⟨q, 0, none⟩ = some (.string s) := by rw [zAA h1]; rfl
 have C := Lib.hid (zB4 hb s (by omega) (by omega))
 clear hq h8 hx hl hn hcap ga gb gc gd ge gf gg' hb h1
 go_enter Tryz.func187, Tryz.ntmps187
 go_wp2_with fail
 refine C.out.mono ?_
 rintro r w1 ⟨rfl, hm⟩
 have h1 := (hm.below.block q hqb).trans H0.out
 have c1 : w1.cell? ⟨q, 1, none⟩ = some (.string t) := by rw [zAA h1]; rfl
 have C1 := Lib.hid (zB4 hm t (by simp only [List.length_append, zAK, zAH]; omega) (by omega))
 clear hm h1 C c0
 go_wp2_with fail
 refine C1.out.mono ?_
 rintro r w2 ⟨rfl, hm⟩
 have C2 := Lib.hid (IC.out w2 _ (by simp only [List.length_append, zAK, zAH]; omega) hm)
 clear hm C1 c1 IC
 go_wp2_with fail
 refine C2.out.mono ?_
 rintro r w3 ⟨rfl, hm⟩
 have M := Lib.hid hm
 clear hm C2
 go_wp2_with fail
 go_end0
 exact ⟨rfl, M.out⟩
theorem zLL (base q : Nat) (s t : ByteArray) (a b c d e f g : Int) (A : Option Addr) (n cap : Nat) (l : List zAu) (w : World)
  (hq : w.heap[q]? = some (.cells #[.string s, .string t, .int .u32 a, .int .u64 b, .int .u32 c, .int .u32 d, .int .u32 e, .int .u32 f, .int .u32 g, .slice A n cap] 177 (0, 0))) (hqb : q < base) (hbs : base ≤ w.heap.size) (hs : s.size ≤ 1000000) (ht : t.size ≤ 1000000)
  (hn : n = l.length) (hx : ExtAt w base A l) (hl : gEx l) (hcap : l.length ≤ cap) :
  Calls Tryz.prog 186 #[.pointer (some ⟨q, 0, none⟩)] w fun r w' => r = .returned (.int .i64 (((str (tl s) ++ str (tl t) ++ atB a b c d e f g l).length : Nat) : Int)) ∧ Below base w w' := by
 have h8 : At8 w q 2 a b c d e f g (.slice A n cap) := ⟨by rw [zAA hq]; rfl, by rw [zAA hq]; rfl, by rw [zAA hq]; rfl, by rw [zAA hq]; rfl, by rw [zAA hq]; rfl, by rw [zAA hq]; rfl, by rw [zAA hq]; rfl, by rw [zAA hq]; rfl⟩
 have c0 : w.cell? ⟨q, 0, none⟩ = some (.string s) := by rw [zAA hq]; rfl
 have c1 : w.cell? ⟨q, 1, none⟩ = some (.string t) := by rw [zAA hq]; rfl
 have hM2 := zCR a b c d e f g l hl
 have hL : (str (tl s) ++ str (tl t) ++ atB a b c d e f g l).length = 4 + s.size + 4 + t.size + (atB a b c d e f g l).length := by simp only [List.length_append, zAK, zAH]; omega
 rw [hL]
 have LD := Lib.hid (fun (w' : World) (hW : w'.cell? ⟨q, 0, none⟩ = some (.string s) ∧ w'.cell? ⟨q, 1, none⟩ = some (.string t) ∧ Below base w w') => zC7 base q 2 a b c d e f g A n cap l w' (Nat.le_trans hbs hW.2.2.size) hqb (h8.below hW.2.2 hqb) hn (hx.below hW.2.2 (Nat.le_refl _)) hl hcap)
 clear h8 hx hl hn hcap hq hL
 generalize (atB a b c d e f g l).length = M at *
 have hgoal : (((4 + s.size + 4 + t.size + M : Nat) : Nat) : Int) = 4 + (s.size : Int) + 4 + (t.size : Int) + (M : Int) := by omega
 rw [hgoal]
 have s0 : IntKind.i64.wrap (4 + (s.size : Int)) = 4 + (s.size : Int) := IntWalk.i64_in _ (by omega)
 have s1 : IntKind.i64.wrap (4 + (s.size : Int) + 4) = 4 + (s.size : Int) + 4 := IntWalk.i64_in _ (by omega)
 have s2 : IntKind.i64.wrap (4 + (s.size : Int) + 4 + (t.size : Int)) = 4 + (s.size : Int) + 4 + (t.size : Int) := IntWalk.i64_in _ (by omega)
 have s3 : IntKind.i64.wrap (4 + (s.size : Int) + 4 + (t.size : Int) + (M : Int)) = 4 + (s.size : Int) + 4 + (t.size : Int) + (M : Int) := IntWalk.i64_in _ (by omega)
 have hb0 := Below.refl base w
 clear hgoal
 go_enter Tryz.func186, Tryz.ntmps186
 go_wp2_with fail
 go_region_held3 (fun w' => w'.cell? ⟨q, 0, none⟩ = some (.string s) ∧ w'.cell? ⟨q, 1, none⟩ = some (.string t) ∧ Below base w w')
  (((first | (go_split_ands) | skip); (repeat' apply And.intro) <;> first | assumption | exact zAW hb hqb (by assumption) | exact zAp (by assumption) | exact Below.trans (by assumption) hb))
  (first
   | (go_at_call 102; refine (LD.out _ (by assumption)).mono ?_; rintro r w' ⟨rfl, hb⟩))
 all_goals
  go_split_ands
  go_wp2_with fail
  go_ret
  exact ⟨rfl, by assumption⟩
structure NE where
 s : ByteArray
 t : ByteArray
 a : Int
 b : Int
 c : Int
 d : Int
 e : Int
 f : Int
 g : Int
 l : List zAu
structure NE.Ok (x : NE) : Prop where
 hs : x.s.size ≤ 1000000
 ht : x.t.size ≤ 1000000
 hl : gEx x.l
 ga : zAc x.a
 gb : zC6 x.b
 gc : zAc x.c
 gd : zAc x.d
 ge : zAc x.e
 gf : zAc x.f
 gg : zAc x.g
def neB (x : NE) : List UInt8 := str (tl x.s) ++ str (tl x.t) ++ atB x.a x.b x.c x.d x.e x.f x.g x.l
def zBR : List NE → List UInt8
 | [] => []
 | e :: r => neB e ++ zBR r
theorem zFn (l : List NE) (e : NE) : zBR (l ++ [e]) = zBR l ++ neB e := by
 induction l with
 | nil => simp [zBR]
 | cons a r ih => simp only [List.cons_append, zBR, ih, List.append_assoc]
theorem zFo (l : List NE) (k : Nat) : (zBR (l.take k)).length ≤ (zBR l).length := by
 have h : ∀ a b : List NE, zBR (a ++ b) = zBR a ++ zBR b := by
  intro a b
  induction a with
  | nil => simp [zBR]
  | cons x r ih => simp only [List.cons_append, zBR, ih, List.append_assoc]
 have e := h (l.take k) (l.drop k)
 rw [List.take_append_drop] at e
 rw [e, List.length_append]
 omega
def neAt (w : World) (B q : Nat) (x : NE) : Prop :=
 ∃ A c, w.heap[q]? = some (.cells #[.string x.s, .string x.t, .int .u32 x.a, .int .u64 x.b, .int .u32 x.c, .int .u32 x.d, .int .u32 x.e, .int .u32 x.f, .int .u32 x.g, .slice A x.l.length c] 177 (0, 0)) ∧ q < B ∧ ExtAt w B A x.l ∧ x.l.length ≤ c
theorem neAt.below {w w' : World} {B q : Nat} {x : NE} (h : neAt w B q x) (hb : Below B w w') : neAt w' B q x := by
 obtain ⟨A, c, h1, h2, h3, h4⟩ := h
 exact ⟨A, c, (hb.block q h2).trans h1, h2, h3.below hb (Nat.le_refl _), h4⟩
def NmAt (w : World) (B : Nat) (A : Option Addr) (l : List NE) : Prop :=
 l = [] ∨ ∃ x p, A = some ⟨x, p, none⟩ ∧ x < B ∧ ∀ k e, l[k]? = some e → ∃ q, w.cell? ⟨x, p + k, none⟩ = some (.pointer (some ⟨q, 0, none⟩)) ∧ neAt w B q e
theorem NmAt.below {w w' : World} {B : Nat} {A : Option Addr} {l : List NE} (h : NmAt w B A l) (hb : Below B w w') : NmAt w' B A l := by
 rcases h with h | ⟨x, p, hA, hx, h⟩
 ·exact .inl h
 ·refine .inr ⟨x, p, hA, hx, fun k e he => ?_⟩
  obtain ⟨q, h1, h2⟩ := h k e he
  exact ⟨q, by rw [cell_kept (hb.block x hx)]; exact h1, h2.below hb⟩
theorem zOO {w : World} {B q : Nat} {x : NE} (h : neAt w B q x) (hB : B ≤ w.heap.size) (ok : x.Ok) :
  Calls Tryz.prog 186 #[.pointer (some ⟨q, 0, none⟩)] w fun r w' => r = .returned (.int .i64 (((neB x).length : Nat) : Int)) ∧ Below B w w' := by
 obtain ⟨A, c, h1, h2, h3, h4⟩ := h
 exact zLL B q x.s x.t x.a x.b x.c x.d x.e x.f x.g A _ c x.l w h1 h2 hB ok.hs ok.ht rfl h3 ok.hl h4
theorem zN4 {w0 w : World} {B q gg : Nat} {x : NE} {L : List UInt8} (hb : MB B w0 w gg L) (hL : L.length ≤ 90000000) (h : neAt w0 B q x) (hB : B ≤ w0.heap.size) (ok : x.Ok) :
  Calls Tryz.prog 187 #[.pointer (some ⟨q, 0, none⟩), .pointer (some ⟨gg, 0, none⟩)] w fun r w' => r = .returned (.tuple #[]) ∧ MB B w0 w' gg (L ++ neB x) := by
 obtain ⟨A, c, h1, h2, h3, h4⟩ := h
 refine (zJv B gg q L x.s x.t x.a x.b x.c x.d x.e x.f x.g A _ c x.l w0 w hb hL h1 h2 hB ok.hs ok.ht rfl h3 ok.hl h4 ok.ga ok.gb ok.gc ok.gd ok.ge ok.gf ok.gg).mono fun r w' ⟨hr, hm⟩ => ⟨hr, ?_⟩
 unfold neB
 rwa [← List.append_assoc, ← List.append_assoc]
end Go.Proofs.YtgnficcjnijdbaaGreat
namespace Go.Proofs.YtgnficcjnijdbaaGreat
open Go.RowKit Go.Great
def ptr (q : Nat) : Value := .pointer (some ⟨q, 0, none⟩)
section
variable {α : Type} {C : World → Nat → α → Prop} {X : Nat → Prop} {base : Nat} {E : TypeId}
def KAt (C : World → Nat → α → Prop) (X : Nat → Prop) (w : World) (v : Value) (q : Nat) (e : α) : Prop :=
 ∃ fr : Nat → Prop, (∀ k, fr k → k < w.heap.size ∧ v.ownBlock ≠ some k ∧ ¬ X k) ∧ ∀ w' : World, (∀ k, fr k → w'.heap[k]? = w.heap[k]?) → C w' q e
structure PRows (C : World → Nat → α → Prop) (X : Nat → Prop) (base : Nat) (E : TypeId) (w : World) (v : Value) (l : List α) : Prop where
 ex : ∃ ps : List Nat, w.ownsRow base E 1 v l.length (ps.map ptr) ∧ ∀ (i q : Nat) (e : α), ps[i]? = some q → l[i]? = some e → KAt C X w v q e
 nx : ∀ k, v.ownBlock = some k → ¬ X k
 xlt : ∀ k, X k → k < w.heap.size
theorem PRows.nil (w : World) (hX : ∀ k, X k → k < w.heap.size) : PRows C X base E w (.slice none 0 0) [] :=
 ⟨⟨[], World.ownsRow_nil w base E 1, fun i q e h => by simp at h⟩, fun k h => by simp [Value.ownBlock] at h, hX⟩
theorem zLM {w w' : World} {base : Nat} {e : TypeId} {size : Nat} {v : Value} {n : Nat} {xs : List Value} (h : w.ownsRow base e size v n xs) (hk : ∀ k, v.ownBlock = some k → w'.heap[k]? = w.heap[k]?) : w'.ownsRow base e size v n xs := by
 refine ⟨h.1, ?_⟩
 rcases h.2 with hn | ⟨g, cap, cur, rfl, hb, hgg, rest⟩
 ·exact .inl hn
 ·exact .inr ⟨g, cap, cur, rfl, hb, (hk g rfl).trans hgg, rest⟩
theorem zGT {w : World} {base : Nat} {e : TypeId} {size : Nat} {v : Value} {n : Nat} {xs : List Value} (h : w.ownsRow base e size v n xs) {k : Nat} (hk : v.ownBlock = some k) : base ≤ k ∧ k < w.heap.size := by
 rcases h.2 with ⟨rfl, _⟩ | ⟨g, cap, cur, rfl, hb, hgg, rest⟩
 ·simp [Value.ownBlock] at hk
 ·simp only [Value.ownBlock, Option.some.injEq] at hk
  subst hk
  exact ⟨hb, zAC hgg⟩
theorem PRows.kept {w w' : World} {v : Value} {l : List α} (h : PRows C X base E w v l) (hs : w.heap.size ≤ w'.heap.size) (hb : ∀ k, k < w.heap.size → ¬ X k → w'.heap[k]? = w.heap[k]?) : PRows C X base E w' v l := by
 obtain ⟨ps, hown, hk⟩ := h.ex
 refine ⟨⟨ps, zLM hown (fun k hk => hb k (zGT hown hk).2 (h.nx k hk)), fun i q e h1 h2 => ?_⟩, h.nx, fun k hk => Nat.lt_of_lt_of_le (h.xlt k hk) hs⟩
 obtain ⟨fr, f1, f2⟩ := hk i q e h1 h2
 exact ⟨fr, fun k hk => ⟨Nat.lt_of_lt_of_le (f1 k hk).1 hs, (f1 k hk).2⟩, fun w2 h2 => f2 w2 fun k hk => (h2 k hk).trans (hb k (f1 k hk).1 (f1 k hk).2.2)⟩
theorem PRows.alloc {w : World} {v : Value} {l : List α} (h : PRows C X base E w v l) (o : Obj) : PRows C X base E (w.alloc o) v l :=
 h.kept (by simp) (fun k hk _ => heap_alloc_old _ _ hk)
theorem PRows.below {w w' : World} {v : Value} {l : List α} (h : PRows C X base E w v l) (hb : Below w.heap.size w w') : PRows C X base E w' v l :=
 h.kept hb.size (fun k hk _ => hb.block k hk)
theorem PRows.setCell {w : World} {v : Value} {l : List α} (h : PRows C X base E w v l) {g i : Nat} (hg : X g) (u : Value) : PRows C X base E (w.setCell ⟨g, i, none⟩ u) v l :=
 h.kept (by simp [World.setCell]) (fun k _ hk => Below.heap_setCell _ _ _ _ (fun e => hk (e ▸ hg)))
theorem PRows.append {P : Program} {W : World} {v : Value} {l : List α} (h : PRows C X base E W v l) (t ty : TypeId) (ht : P.underlying t = some (.slice E)) (hinfo : (P.info? E).map (fun i => (i.zero, i.size, i.bytes)) = some (some (.pointer none), 1, 8))
  (e : α) (q : Nat) (ad : Addr) (c : Nat) (hq : W.cell? (ad.add 0) = some (ptr q)) (hk : KAt C X W v q e) (hl : l.length ≤ 1000000) (hbase : base ≤ W.heap.size) :
  ∃ v' w', (Builtin.append_ #[t, t] ty #[v, .slice (some ad) 1 c]).run P W = .ok v' w' ∧ PRows C X base E w' v' (l ++ [e]) ∧ W.grownBy w' v.ownBlock ∧ (v'.ownBlock = v.ownBlock ∨ v'.ownBlock = some W.heap.size) := by
 obtain ⟨i0, hi, hzz⟩ := Option.map_eq_some_iff.1 hinfo
 simp only [Prod.mk.injEq] at hzz
 obtain ⟨hz0, hz1, hz2⟩ := hzz
 obtain ⟨ps, hown, hks⟩ := h.ex
 have hpl : ps.length = l.length := by have := hown.1; simpa using this
 obtain ⟨v', w', hr, hown', hg, _, hat⟩ := run_append_own_at (P := P) W base t ty E i0 (.pointer none) 1 8 ht hi hz0 hz1 hz2 rfl (by omega) v l.length (ps.map ptr) hown ad 1 c [ptr q] (by simp)
  (fun j u hj => by
   match j, hj with
   | 0, hj => simp at hj; subst hj; exact hq) (fun u hu => by simp at hu; subst hu; rfl) (by simp only [maxLen]; omega) (by omega) hbase
 have keep : ∀ q' e', KAt C X W v q' e' → KAt C X w' v' q' e' := by
  rintro q' e' ⟨fr, f1, f2⟩
  refine ⟨fr, fun k hk => ⟨Nat.lt_of_lt_of_le (f1 k hk).1 hg.size, ?_, (f1 k hk).2.2⟩, fun w2 h2 => f2 w2 fun k hk => (h2 k hk).trans (hg.block k (f1 k hk).1 (fun e => (f1 k hk).2.1 e.symm))⟩
  rcases hat with e0 | e0
  ·rw [e0]; exact (f1 k hk).2.1
  ·rw [e0]; intro he; have := Option.some.inj he; have := (f1 k hk).1; omega
 refine ⟨v', w', hr, ⟨⟨ps ++ [q], ?_, fun i q' e' h1 h2 => ?_⟩, ?_, fun k hk => Nat.lt_of_lt_of_le (h.xlt k hk) hg.size⟩, hg, hat⟩
 ·simpa using hown'
 ·rcases Nat.lt_or_ge i l.length with hlt | hge
  ·rw [List.getElem?_append_left (by omega)] at h1 h2
   exact keep _ _ (hks i q' e' h1 h2)
  ·rw [List.getElem?_append_right (by omega)] at h1 h2
   have h0 : i - l.length = 0 := by have := (List.getElem?_eq_some_iff.1 h2).1; simp at this; omega
   rw [hpl, h0] at h1
   rw [h0] at h2
   simp at h1 h2
   subst h1 h2
   exact keep _ _ hk
 ·intro k hk
  rcases hat with e0 | e0
  ·exact h.nx k (e0 ▸ hk)
  ·rw [e0] at hk
   have := Option.some.inj hk
   intro hX
   have := h.xlt k hX
   omega
def PAt (C : World → Nat → α → Prop) (w : World) (A : Option Addr) (l : List α) : Prop :=
 ∀ (k : Nat) (e : α), l[k]? = some e → ∃ x p q, A = some ⟨x, p, none⟩ ∧ x < w.heap.size ∧ w.cell? ⟨x, p + k, none⟩ = some (ptr q) ∧ C w q e
theorem PRows.shown {w : World} {v : Value} {l : List α} (h : PRows C X base E w v l) : ∃ A c, v = .slice A l.length c ∧ PAt C w A l ∧ l.length ≤ c := by
 obtain ⟨ps, hown, hks⟩ := h.ex
 have hpl : ps.length = l.length := by have := hown.1; simpa using this
 rcases hown.2 with ⟨rfl, h0⟩ | ⟨g, cap, cur, rfl, hb, hgg, hnc, hcm, hcs, htake⟩
 ·have hl : l = [] := List.length_eq_zero_iff.1 h0
  subst hl
  exact ⟨none, 0, rfl, fun k e he => by simp at he, by simp⟩
 ·refine ⟨some ⟨g, 0, none⟩, cap, rfl, fun k e he => ?_, hnc⟩
  have hk := (List.getElem?_eq_some_iff.1 he).1
  obtain ⟨q, hq⟩ : ∃ q, ps[k]? = some q := ⟨ps[k], List.getElem?_eq_getElem (by omega)⟩
  refine ⟨g, 0, q, rfl, zAC hgg, ?_, ?_⟩
  ·rw [zAA hgg, Nat.zero_add]
   have h1 : (ps.map ptr)[k]? = some (ptr q) := by rw [List.getElem?_map, hq]; rfl
   rw [← htake, List.getElem?_take] at h1
   split at h1
   ·simpa using h1
   ·cases h1
  ·obtain ⟨fr, _, f2⟩ := hks k q e hq he
   exact f2 w fun _ _ => rfl
end
theorem zGU (q n cap : Nat) (A : Option Addr) (l : List NE) (id : Int) (w : World) (hq : w.heap[q]? = some (.cells #[.slice A n cap] 174 (0, 0))) (hn : n = l.length)
  (hp : PAt (fun w q e => neAt w w.heap.size q e) w A l) (ok : ∀ e ∈ l, e.Ok) (hB : (zBR l).length ≤ 1000000) (hn1 : n ≤ 100000) (i0 : 0 ≤ id) (i1 : id ≤ 4294967295) :
  Calls Tryz.prog 183 #[.pointer (some ⟨q, 0, none⟩), .int .u32 id, .slice none 0 0] w (zBk (zA5 104 id (zAQ (n : Int) ++ zBR l) 0) none 0 0 w) := by
 have hql := zAC hq
 have H0 := Lib.hid hq
 have HP := Lib.hid hp
 have HN := Lib.hid hn
 have HK := Lib.hid ok
 clear hq hp hn ok
 go_enter Tryz.func183, Tryz.ntmps183
 go_wp2_with fail
 refine (zAZ _ _ _ _).mono ?_
 rintro e w1 ⟨rfl, hw⟩
 have cb : w1.cell? ⟨w.heap.size, 0, none⟩ = some (.slice none 0 0) := by rw [← hw, zAA (heap_alloc_new _ _)]; rfl
 have hb1 : Below w.heap.size w w1 := by rw [← hw]; exact (Below.refl _ _).alloc (Nat.le_refl _) _
 have h1 := (hb1.block q hql).trans H0.out
 have c0 : w1.cell? ⟨q, 0, none⟩ = some (.slice A n cap) := by rw [zAA h1]; rfl
 have B1 := Lib.hid hb1
 clear hb1 hw h1
 go_wp2_with fail
 refine (zBx _ _ _ _ _ cb).mono ?_
 rintro e w' ⟨rfl, rfl⟩
 go_wp2_with fail
 go_loopw [10, 25] (fun s i wr => ∃ k : Nat, k ≤ n ∧ s = .int .i64 (((4 + (zBR (l.take k)).length : Nat) : Nat) : Int) ∧ i = .int .i64 (k : Int) ∧ Hid (Below w.heap.size w wr)) (fun _ i _ => n - (intOf i).toNat)
 case atStart => exact ⟨0, Nat.zero_le _, rfl, rfl, B1⟩
 case round =>
  obtain ⟨k, hk, rfl, rfl, HR⟩ := hrel
  by_cases hlt : k < n
  ·have hkl : k < l.length := by have := HN.out; omega
   have he : l[k]? = some l[k] := List.getElem?_eq_getElem hkl
   obtain ⟨x, p, qe, rfl, hx, g1, g2⟩ := HP.out k _ he
   have ok1 := HK.out _ (List.getElem_mem hkl)
   have g3 : wr.cell? ⟨x, p + k, none⟩ = some (.pointer (some ⟨qe, 0, none⟩)) := by rw [cell_kept (HR.out.block x hx)]; exact g1
   have C := Lib.hid (zOO (g2.below HR.out) HR.out.size ok1)
   have ht : zBR (l.take (k + 1)) = zBR (l.take k) ++ neB l[k] := by rw [List.take_succ_eq_append_getElem hkl, zFn]
   have hle := zFo l (k + 1)
   rw [ht, List.length_append] at hle
   have HT := Lib.hid ((congrArg List.length ht).trans List.length_append)
   clear he g1 g2 ht ok1
   generalize (neB l[k]).length = E at *
   generalize (zBR (l.take k)).length = M at *
   clear hkl
   obtain ⟨S, hS⟩ : ∃ S : Int, ((4 + M : Nat) : Int) = S := ⟨_, rfl⟩
   rw [hS]
   have s0 : IntKind.i64.wrap (S + (E : Int)) = S + (E : Int) := IntWalk.i64_in _ (by omega)
   go_wp2_with fail
   refine C.out.mono ?_
   rintro r w4 ⟨rfl, hb4⟩
   have B4 := Lib.hid (HR.out.trans hb4)
   clear hb4 HR C g3
   go_wp2_with fail
   go_roundw
   case rel => exact ⟨k + 1, by omega, by rw [HT.out]; congr 1; omega, by go_num, B4⟩
   case measure => simp [intOf]; omega
  ·obtain rfl : k = n := by omega
   have hfull : l.take k = l := List.take_of_length_le (by have := HN.out; omega)
   rw [hfull]
   have zr := HR.out.size
   clear hfull hk hlt c0 cb B1
   go_wp2_with fail
   refine (zAf w.heap.size _ _ zr (by omega) (by omega)).mono ?_
   rintro e w2 ⟨gg, h, N, l2, rfl, m2, hN, hb2⟩
   have B2 := Lib.hid (HR.out.trans hb2)
   have M2 := Lib.hid m2
   clear m2 hb2 HR
   go_wp2_with fail
   refine (zAa w.heap.size gg h N N l2 _ _ _ M2.out (by omega) (by omega) (by omega) i0 i1).mono ?_
   rintro e w3 ⟨rfl, v3, m3, hb3⟩
   have K3 := Lib.hid (show MB w.heap.size w w3 gg (pk0 104 id) from ⟨v3, m3, B2.out.trans hb3⟩)
   clear m3 hb3 B2 M2
   have h3 := (K3.out.below.block q hql).trans H0.out
   have c0 : w3.cell? ⟨q, 0, none⟩ = some (.slice A k cap) := by rw [zAA h3]; rfl
   have s5 : IntKind.u32.wrap (k : Int) = (k : Int) := by unfold IntKind.wrap; simp [IntKind.signed, IntKind.bits]; omega
   clear h3
   go_wp2_with fail
   refine (zHE K3.out (k : Int) (by omega) (by omega) (by rw [zA3]; omega)).mono ?_
   rintro e w4 ⟨rfl, hm⟩
   have h4 := (hm.below.block q hql).trans H0.out
   have K4 := Lib.hid hm
   clear hm K3 c0
   have c0 : w4.cell? ⟨q, 0, none⟩ = some (.slice A k cap) := by rw [zAA h4]; rfl
   clear h4
   go_wp2_with fail
   go_loopw [52] (fun i wr => ∃ j : Nat, j ≤ k ∧ i = .int .i64 (j : Int) ∧ Hid (MB w.heap.size w wr gg (pk0 104 id ++ zAQ (k : Int) ++ zBR (l.take j)))) (fun i _ => k - (intOf i).toNat)
   case atStart => exact ⟨0, Nat.zero_le _, rfl, Lib.hid (by simpa [zBR] using K4.out)⟩
   case round =>
    obtain ⟨j, hj, rfl, HM⟩ := hrel
    by_cases hlt : j < k
    ·have hjl : j < l.length := by have := HN.out; omega
     have he : l[j]? = some l[j] := List.getElem?_eq_getElem hjl
     obtain ⟨x, p, qe, rfl, hx, g1, g2⟩ := HP.out j _ he
     have ok1 := HK.out _ (List.getElem_mem hjl)
     have g3 : wr.cell? ⟨x, p + j, none⟩ = some (.pointer (some ⟨qe, 0, none⟩)) := by rw [cell_kept (HM.out.below.block x hx)]; exact g1
     have hle := zFo l j
     have C := Lib.hid (zN4 HM.out (by simp only [List.length_append, zA3, zAM]; omega) g2 (Nat.le_refl _) ok1)
     have HT := Lib.hid (show pk0 104 id ++ zAQ (k : Int) ++ zBR (l.take (j + 1)) = pk0 104 id ++ zAQ (k : Int) ++ zBR (l.take j) ++ neB l[j] by rw [List.take_succ_eq_append_getElem hjl, zFn]; simp only [List.append_assoc])
     clear he g1 g2 ok1 hle HM
     generalize pk0 104 id ++ zAQ (k : Int) ++ zBR (l.take j) = P3 at *
     generalize neB l[j] = E at *
     clear hjl
     go_wp2_with fail
     refine C.out.mono ?_
     rintro r w5 ⟨rfl, hm⟩
     rw [← HT.out] at hm
     have B5 := Lib.hid hm
     clear hm C g3
     go_wp2_with fail
     go_roundw
     case rel => exact ⟨j + 1, by omega, by go_num, B5⟩
     case measure => simp [intOf]; omega
    ·obtain rfl : j = k := by omega
     have hfull : l.take j = l := List.take_of_length_le (by have := HN.out; omega)
     rw [hfull] at HM
     obtain ⟨v9, m9, b9⟩ := HM.out
     have M9 := Lib.hid m9
     have B9 := Lib.hid b9
     clear m9 b9 HM hfull K4 c0
     go_wp2_with fail
     refine (zBA w.heap.size gg v9 _ _ _ _ _ M9.out (by simp only [List.length_append, zA3]; omega) (by simp only [List.length_append, zA3, zAM]; omega) (by omega)).mono ?_
     rintro e wz ⟨rfl, m5, g5⟩
     have M5 := Lib.hid m5
     have B5 := Lib.hid (B9.out.grown g5 (by have := M9.out.baseLe; omega) (fun k hk => (M9.out.own.lt k hk).1))
     clear m5 g5
     go_wp2_with fail
     go_ret3
     refine ⟨_, rfl, ?_, B5.out⟩
     have e := zBS 104 id (zAQ (j : Int) ++ zBR l) (pk0 104 id ++ zAQ (j : Int) ++ zBR l) 0 (by simp only [List.append_assoc])
     rw [← e]
     exact M5.out.own
end Go.Proofs.YtgnficcjnijdbaaGreat
namespace Go.Proofs.YtgnficcjnijdbaaGreat
open Go.RowKit Go.Great Go.Proofs.YtgnficcjnijdbaaGreatW.PrintWords Go.Proofs.YtgnficcjnijdbaaGreatW.PrintLast Go.Proofs.YtgnficcjnijdbaaGreatW.PrintMore Go.Proofs.YtgnficcjnijdbaaGreat.KK
def zDk (w : World) (q : Nat) (e : S52) : Prop := w.heap[q]? = some (.cells #[.string e.f0, .string e.f1] 104 (0, 0))
def NoX : Nat → Prop := fun _ => False
theorem zOP : (Tryz.prog.info? 103).map (fun i => (i.zero, i.size, i.bytes)) = some (some (.pointer none), 1, 8) := by kernel_rfl
section
variable {P : Program} {ops : Array Oper} {rest : List Oper} {o : Oper} {a : Act} {Q : Exit → Act → World → Prop} {W : World}
theorem zCV {α : Type} {C : World → Nat → α → Prop} {X : Nat → Prop} {base : Nat} {E : TypeId} (hgd : o.guard = none) (s x : Operand) (t : TypeId) (ho : o.op = .call { callee := .builtin .append, args := #[s, x], argTypes := #[t, t] })
  (ht : P.underlying t = some (.slice E)) (hinfo : (P.info? E).map (fun i => (i.zero, i.size, i.bytes)) = some (some (.pointer none), 1, 8)) (v : Value) (hs : a.eval s = v) (ad : Addr) (c : Nat) (hx : a.eval x = .slice (some ad) 1 c) {l : List α} (h : PRows C X base E W v l)
  (e : α) (q : Nat) (hq : W.cell? (ad.add 0) = some (ptr q)) (hk : KAt C X W v q e) (hl : l.length ≤ 1000000) (hbase : base ≤ W.heap.size)
  (hK : ∀ v' w', PRows C X base E w' v' (l ++ [e]) → W.grownBy w' v.ownBlock → (v'.ownBlock = v.ownBlock ∨ v'.ownBlock = some W.heap.size) → wpList P ops Q rest (a.put o.dst v') w') : wpList P ops Q (o :: rest) a W := by
 obtain ⟨v', w', hr, h1, h2, h3⟩ := h.append t o.type ht hinfo e q ad c hq hk hl hbase
 exact Lib.wpList_append_run W hgd s x t t ho v _ hs hx v' w' hr (hK v' w' h1 h2 h3)
end
theorem zBw (W : World) (cs : Array Value) (t : TypeId) (n : Nat) (h : n = W.heap.size) : (W.alloc (.cells cs t)).heap[n]? = some (.cells cs t (0, 0)) := by subst h; exact heap_alloc_new _ _
theorem PRows.low {α : Type} {C : World → Nat → α → Prop} {X : Nat → Prop} {base : Nat} {E : TypeId} {w : World} {v : Value} {l : List α} (h : PRows C X base E w v l) {k : Nat} (hk : v.ownBlock = some k) : base ≤ k ∧ k < w.heap.size := by
 obtain ⟨ps, hown, _⟩ := h.ex
 exact zGT hown hk
theorem zOQ {base : Nat} {E : TypeId} {w W : World} {v : Value} {l : List S52} {e : S52} (h : PRows zDk NoX base E w v l) (q : Nat) (hq : w.heap.size ≤ q) (hb : W.heap[q]? = some (.cells #[.string e.f0, .string e.f1] 104 (0, 0))) : KAt zDk NoX W v q e :=
 ⟨fun k => k = q, fun k hk => ⟨by rw [hk]; exact zAC hb, fun e => by have := (h.low e).2; omega, fun h => h.elim⟩, fun w' h' => by unfold zDk; rw [h' q rfl]; exact hb⟩
theorem zJT {w : World} {A : Option Addr} {l : List S52} (h : Kd.C k52 w A l.length l) (k : Nat) (e : S52) (he : l[k]? = some e) :
  ∃ x p, A = some ⟨x, p, none⟩ ∧ x < w.heap.size ∧ w.cell? ⟨x, p + k * 2, none⟩ = some (.string e.f0) ∧ w.cell? ⟨x, p + k * 2 + 1, none⟩ = some (.string e.f1) := by
 have hk : k < l.length := (List.getElem?_eq_some_iff.1 he).1
 obtain ⟨ad, rfl, h0, _⟩ := zCI h 0 (by omega) (by omega)
 have hsp : ad.spot = none := by
  have := zJN h0
  simpa [Addr.add] using this
 obtain ⟨x, p, sp⟩ := ad
 obtain rfl : sp = none := hsp
 obtain ⟨ad, e1, h1, h2⟩ := zCI h (k : Int) (by omega) (by omega)
 obtain rfl := Option.some.inj e1
 have hr : zA7 l (k : Int) = e := by
  unfold zA7
  rw [Int.toNat_natCast, List.getD_eq_getElem?_getD, he]
  rfl
 rw [hr, Int.toNat_natCast] at h1 h2
 rw [add_plain] at h1 h2
 refine ⟨x, p, rfl, ?_, h1, h2⟩
 have := World.block_lt_of_cell? w _ h0
 simpa [Addr.add] using this
theorem zLN (A : Option Addr) (n cap : Nat) (l : List S52) (w : World) (hn : n = l.length) (hl : n ≤ 100000) (hr : Kd.C k52 w A l.length l) :
  Calls Tryz.prog 23 #[.slice A n cap] w fun e w' => ∃ v, e = .returned v ∧ PRows zDk NoX w.heap.size 103 w' v l ∧ Below w.heap.size w w' := by
 have HP := Lib.hid (fun k e he => zJT hr k e he)
 have HN := Lib.hid hn
 clear hr hn
 go_enter Tryz.func23, Tryz.ntmps23
 go_wp2_with fail
 go_loopw [3, 8] (fun v i wr => ∃ (k : Nat) (v0 : Value), k ≤ n ∧ v = v0 ∧ i = .int .i64 (k : Int) ∧ Hid (PRows zDk NoX w.heap.size 103 wr v0 (l.take k)) ∧ Hid (Below w.heap.size w wr)) (fun _ i _ => n - (intOf i).toNat)
 case atStart => exact ⟨0, _, Nat.zero_le _, rfl, rfl, Lib.hid (PRows.nil _ fun _ h => h.elim), Lib.hid (Below.refl _ _)⟩
 case round =>
  obtain ⟨k, v0, hk, rfl, rfl, HR, HB⟩ := hrel
  by_cases hlt : k < n
  ·have hkl : k < l.length := by have := HN.out; omega
   have he : l[k]? = some l[k] := List.getElem?_eq_getElem hkl
   obtain ⟨x, p, rfl, hx, g1, g2⟩ := HP.out k _ he
   have g3 : wr.cell? ⟨x, p + k * 2, none⟩ = some (.string l[k].f0) := by rw [cell_kept (HB.out.block x hx)]; exact g1
   have g4 : wr.cell? ⟨x, p + k * 2 + 1, none⟩ = some (.string l[k].f1) := by rw [cell_kept (HB.out.block x hx)]; exact g2
   have HT := Lib.hid (show l.take (k + 1) = l.take k ++ [l[k]] from List.take_succ_eq_append_getElem hkl)
   have hle : (l.take k).length ≤ 100000 := by rw [List.length_take]; omega
   have hz := HB.out.size
   generalize l[k] = e0 at *
   generalize l.take k = L0 at *
   clear he g1 g2 hkl
   go_wp2_with (at_builtin; refine zCV rfl _ _ _ rfl Tryz.underlying61 zOP _ rfl _ _ rfl (((HR.out.alloc _).alloc _).alloc _) e0 (wr.heap.size + 1) (by rw [add_plain, zAA (zBw _ _ _ _ (by simp))]; rfl) (zOQ HR.out _ (by omega) (by rw [heap_alloc_old _ _ (by simp)]; exact zBw _ _ _ _ (by simp))) (by omega) (by simp; omega) ?_)
   intro v' w' hp hg hat
   have hz9 := hg.size
   have HB9 := Lib.hid (show Below w.heap.size w w' from (((HB.out.alloc hz _).alloc (by simp; omega) _).alloc (by simp; omega) _).grown hg (by simp; omega) (fun k hk => (HR.out.low hk).1))
   rw [← HT.out] at hp
   have HP9 := Lib.hid hp
   clear hp hg hat HR HB g3 g4
   go_wp2_with fail
   go_roundw
   case rel => exact ⟨k + 1, _, by omega, rfl, by go_num, HP9, HB9⟩
   case measure => simp [intOf]; omega
  ·obtain rfl : k = n := by omega
   have hfull : l.take k = l := List.take_of_length_le (by have := HN.out; omega)
   rw [hfull] at HR
   clear hfull hk hlt
   go_wp2_with fail
   go_ret
   exact ⟨_, rfl, HR.out, HB.out⟩
theorem zH1 (base g q : Nat) (L : List UInt8) (s1 s2 : ByteArray) (w0 w : World) (hb : MB base w0 w g L) (hq : w.heap[q]? = some (.cells #[.string s1, .string s2] 104 (0, 0))) (hqb : q < base) (hw0 : base ≤ w0.heap.size)
  (hl : L.length ≤ 100000000) (hs1 : s1.size ≤ 10000000) (hs2 : s2.size ≤ 10000000) :
  Calls Tryz.prog 49 #[.pointer (some ⟨q, 0, none⟩), .pointer (some ⟨g, 0, none⟩)] w fun e w' => e = .returned (.tuple #[]) ∧ MB base w0 w' g (L ++ (str (tl s1) ++ str (tl s2))) := by
 have c0 : w.cell? ⟨q, 0, none⟩ = some (.string s1) := by rw [zAA hq]; rfl
 have HQ := Lib.hid ((hb.below.block q hqb).symm.trans hq)
 have C := Lib.hid (zB4 hb s1 (by omega) (by omega))
 clear hq hb
 go_enter Tryz.func49, Tryz.ntmps49
 go_wp2_with fail
 refine C.out.mono ?_
 rintro r w1 ⟨rfl, hm⟩
 have h1 := (hm.below.block q hqb).trans HQ.out
 have c1 : w1.cell? ⟨q, 1, none⟩ = some (.string s2) := by rw [zAA h1]; rfl
 have C1 := Lib.hid (zB4 hm s2 (by simp only [List.length_append, zAK, zAH]; omega) (by omega))
 clear hm h1 C c0
 go_wp2_with fail
 refine C1.out.mono ?_
 rintro r w2 ⟨rfl, hm⟩
 rw [List.append_assoc] at hm
 have M := Lib.hid hm
 clear hm C1 c1
 go_wp2_with fail
 go_end0
 exact ⟨rfl, M.out⟩
theorem zJU (q : Nat) (s1 s2 : ByteArray) (w : World) (hq : w.heap[q]? = some (.cells #[.string s1, .string s2] 104 (0, 0))) (hs1 : s1.size ≤ 10000000) (hs2 : s2.size ≤ 10000000) :
  Calls Tryz.prog 45 #[.pointer (some ⟨q, 0, none⟩)] w fun e w' => e = .returned (.int .i64 (8 + (s1.size : Int) + (s2.size : Int))) ∧ ∃ k, w' = w.drewN k := by
 have c0 : w.cell? ⟨q, 0, none⟩ = some (.string s1) := by rw [zAA hq]; rfl
 have c1 : w.cell? ⟨q, 1, none⟩ = some (.string s2) := by rw [zAA hq]; rfl
 clear hq
 have w1 : IntKind.i64.wrap (4 + (s1.size : Int)) = 4 + (s1.size : Int) := IntWalk.i64_in _ (by omega)
 have w2 : IntKind.i64.wrap (4 + (s1.size : Int) + 4) = 4 + (s1.size : Int) + 4 := IntWalk.i64_in _ (by omega)
 have w3 : IntKind.i64.wrap (4 + (s1.size : Int) + 4 + (s2.size : Int)) = 4 + (s1.size : Int) + 4 + (s2.size : Int) := IntWalk.i64_in _ (by omega)
 go_enter Tryz.func45, Tryz.ntmps45
 go_wp2
 go_quiet (fail)
 clear w1 w2 w3
 go_wp2
 go_ret
 exact ⟨zBa (by omega), _, rfl⟩
def zBb (t x : Int) (l : List S52) : List UInt8 := zAQ ((5 + (exB (l.map zA0)).length : Nat) : Int) ++ (bt t :: zAQ x) ++ exB (l.map zA0)
theorem zMh (n : Nat) (hn : n ≤ 100000000) (w : World) (S : Int) (hS : S = ((4 + n : Nat) : Int)) : (Instr.makeSlice 56 (.int .i64 4) (.int .i64 S)).run Tryz.prog w = .ok (.slice (some ⟨w.heap.size, 0, none⟩) 4 (4 + n)) (w.alloc (.cells (madeCells #[.int .u8 0] (4 + n)) 5)) := by
 obtain ⟨i, hi, hzz⟩ := Option.map_eq_some_iff.1 zBt
 simp only [Prod.mk.injEq] at hzz
 obtain ⟨hz, hs, hb⟩ := hzz
 have hr := run_make (P := Tryz.prog) w 56 5 i (.int .u8 0) Tryz.underlying56 hi hz .i64 .i64 4 S (by omega) (by omega) (by rw [hb]; omega) (by omega)
 subst hS
 simp only [Int.toNat_natCast, hs, Nat.mul_one] at hr
 exact hr
theorem zLO (base : Nat) (w0 w : World) (n : Nat) (hn : n ≤ 100000000) (hb : Below base w0 w) (hbs : base ≤ w.heap.size) (w2 : World)
  (h2 : (w.alloc (.cells (madeCells #[.int .u8 0] (4 + n)) 5)).alloc (.cells #[.slice (some ⟨w.heap.size, 0, none⟩) 4 (4 + n), .int .i64 0, .nilIface] 83) = w2) : MB base w0 w2 (w.heap.size + 1) [0, 0, 0, 0] := by
 have hown : (w.alloc (.cells (madeCells #[.int .u8 0] (4 + n)) 5)).ownsRow base 5 1 (.slice (some ⟨w.heap.size, 0, none⟩) 4 (4 + n)) 4 (u8s [0, 0, 0, 0]) := by
  refine ⟨rfl, .inr ⟨w.heap.size, 4 + n, madeCells #[.int .u8 0] (4 + n), rfl, hbs, heap_alloc_new _ _, by omega, by simp only [maxLen]; omega, by simp [size_madeCells], ?_⟩⟩
  have hm := zIG w (4 + n)
  rw [heap_alloc_new] at hm
  have hc := (Obj.cells.inj (Option.some.inj hm)).1
  rw [hc, List.take_replicate, show min (4 * 1) (4 + n) = 4 from by omega]
  rfl
 refine ⟨.slice (some ⟨w.heap.size, 0, none⟩) 4 (4 + n), ?_, ?_⟩
 ·rw [← h2]
  refine ⟨?_, hown.alloc _, by omega, ?_⟩
  ·have := heap_alloc_new (w.alloc (.cells (madeCells #[.int .u8 0] (4 + n)) 5)) (.cells #[.slice (some ⟨w.heap.size, 0, none⟩) 4 (4 + n), .int .i64 0, .nilIface] 83 (0, 0))
   rwa [show (w.alloc (.cells (madeCells #[.int .u8 0] (4 + n)) 5)).heap.size = w.heap.size + 1 from by simp] at this
  ·intro e
   have h9 : w.heap.size = w.heap.size + 1 := Option.some.inj e
   omega
 ·rw [← h2]
  exact (hb.alloc hbs _).alloc (by simp; omega) _
theorem mb8 {base : Nat} {w0 w : World} {g : Nat} {l : List UInt8} (hb : MB base w0 w g l) (x : Int) (h0 : 0 ≤ x) (h1 : x ≤ 255) (hl : l.length ≤ 900000000) :
  Calls Tryz.prog 47 #[.pointer (some ⟨g, 0, none⟩), .int .u8 x] w fun e w' => e = .returned (.tuple #[]) ∧ MB base w0 w' g (l ++ [bt x]) := by
 obtain ⟨v, m, b⟩ := hb
 exact (zJG base g v l x w m h0 h1 (by omega)).mono fun e w' ⟨he, h⟩ => ⟨he, .step m b h⟩
theorem zMi {base : Nat} {w0 w : World} {g : Nat} {l : List UInt8} (hb : MB base w0 w g l) (hbs : base ≤ w0.heap.size) (x : Int) (hl : 4 ≤ l.length) (hl2 : l.length ≤ 100000000) (x0 : 0 ≤ x) (x1 : x ≤ 4294967295) :
  Calls Tryz.prog 50 #[.pointer (some ⟨g, 0, none⟩), .int .i64 x] w fun e w' => e = .returned (.tuple #[]) ∧ MB base w0 w' g (zAQ x ++ l.drop 4) := by
 obtain ⟨v, m, b⟩ := hb
 exact (zFh base g v l x w m hl hl2 x0 x1).mono fun e w' ⟨he, hm, hg⟩ => ⟨he, v, hm, b.grown hg m.baseLe (fun k hk => (m.own.lt k hk).1)⟩
def gExB (l : List S52) : Prop := gEx (l.map zA0)
theorem gExB.at {l : List S52} (h : gExB l) (e : S52) (he : e ∈ l) : e.f0.size ≤ 10000000 ∧ e.f1.size ≤ 10000000 :=
 h.2.2 (zA0 e) (List.mem_map_of_mem he)
theorem zDl (l : List S52) (k : Nat) (hk : k < l.length) : exB ((l.take (k + 1)).map zA0) = exB ((l.take k).map zA0) ++ (str (tl l[k].f0) ++ str (tl l[k].f1)) := by
 rw [List.take_succ_eq_append_getElem hk, List.map_append]
 exact zEl _ _
theorem zGV (l : List S52) (k : Nat) : (exB ((l.take k).map zA0)).length ≤ (exB (l.map zA0)).length := by
 rw [List.map_take]
 exact zEm _ _
theorem zMY (q : Nat) (x : Int) (A : Option Addr) (n cap : Nat) (l : List S52) (w : World) (hq : w.heap[q]? = some (.cells #[.int .u32 x, .slice A n cap] 64 (0, 0))) (hn : n = l.length) (hn1 : n ≤ 100000) (x0 : 0 ≤ x) (x1 : x ≤ 4294967295)
  (hp : PAt zDk w A l) (hl : gExB l) (hq9 : ∀ q e, zDk w q e → q < w.heap.size) :
  Calls Tryz.prog 24 #[.pointer (some ⟨q, 0, none⟩)] w (zCr (zBb 1 x l) w) := by
 have hql := zAC hq
 have H0 := Lib.hid hq
 have HP := Lib.hid hp
 have HN := Lib.hid hn
 have HL := Lib.hid hl
 have H9 := Lib.hid hq9
 have c0 : w.cell? ⟨q, 1, none⟩ = some (.slice A n cap) := by rw [zAA hq]; rfl
 have hL : (exB (l.map zA0)).length ≤ 10000000 := hl.2.1
 clear hq hp hn hl hq9
 go_enter Tryz.func24, Tryz.ntmps24
 go_wp2_with fail
 go_loopw [4, 15] (fun s i wr => ∃ k : Nat, k ≤ n ∧ s = .int .i64 (((5 + (exB ((l.take k).map zA0)).length : Nat) : Nat) : Int) ∧ i = .int .i64 (k : Int) ∧ Hid (Below w.heap.size w wr)) (fun _ i _ => n - (intOf i).toNat)
 case atStart => exact ⟨0, Nat.zero_le _, rfl, rfl, Lib.hid (Below.refl _ _)⟩
 case round =>
  obtain ⟨k, hk, rfl, rfl, HR⟩ := hrel
  by_cases hlt : k < n
  ·have hkl : k < l.length := by have := HN.out; omega
   have he : l[k]? = some l[k] := List.getElem?_eq_getElem hkl
   obtain ⟨x', p, qe, rfl, hx, g1, g2⟩ := HP.out k _ he
   obtain ⟨hs1, hs2⟩ := HL.out.at _ (List.getElem_mem hkl)
   have g3 : wr.cell? ⟨x', p + k, none⟩ = some (.pointer (some ⟨qe, 0, none⟩)) := by rw [cell_kept (HR.out.block x' hx)]; exact g1
   have g4 : wr.heap[qe]? = some (.cells #[.string l[k].f0, .string l[k].f1] 104 (0, 0)) := (HR.out.block qe (H9.out _ _ g2)).trans g2
   have C := Lib.hid (zJU qe l[k].f0 l[k].f1 wr g4 hs1 hs2)
   have ht := zDl l k hkl
   have hle := zGV l (k + 1)
   rw [ht, List.length_append, List.length_append, zAK, zAK, zAH, zAH] at hle
   have HT := Lib.hid (show (exB ((l.take (k + 1)).map zA0)).length = (exB ((l.take k).map zA0)).length + (8 + l[k].f0.size + l[k].f1.size) by rw [ht, List.length_append, List.length_append, zAK, zAK, zAH, zAH]; omega)
   clear he g1 g2 g4 ht
   generalize (exB ((l.take k).map zA0)).length = M at *
   generalize l[k].f0.size = E1 at *
   generalize l[k].f1.size = E2 at *
   clear hkl
   obtain ⟨S, hS⟩ : ∃ S : Int, ((5 + M : Nat) : Int) = S := ⟨_, rfl⟩
   rw [hS]
   have s0 : IntKind.i64.wrap (S + (8 + (E1 : Int) + (E2 : Int))) = S + (8 + (E1 : Int) + (E2 : Int)) := IntWalk.i64_in _ (by omega)
   go_wp2_with fail
   refine C.out.mono ?_
   rintro r w4 ⟨rfl, kk, rfl⟩
   have B4 := Lib.hid (zBB HR.out kk)
   clear HR C g3
   go_wp2_with fail
   go_roundw
   case rel => exact ⟨k + 1, by omega, by rw [HT.out]; congr 1; omega, by go_num, B4⟩
   case measure => simp [intOf]; omega
  ·obtain rfl : k = n := by omega
   have hfull : l.take k = l := List.take_of_length_le (by have := HN.out; omega)
   rw [hfull]
   have zr := HR.out.size
   generalize hM : (exB (l.map zA0)).length = M at *
   have HM := Lib.hid hM
   clear hfull hk hlt c0 hM
   obtain ⟨S, hS⟩ : ∃ S : Int, ((5 + M : Nat) : Int) = S := ⟨_, rfl⟩
   rw [hS]
   have s0 : IntKind.i64.wrap (4 + S) = 4 + S := IntWalk.i64_in _ (by omega)
   have hmk := zMh (5 + M) (by omega) wr (4 + S) (by omega)
   have S0 := Lib.hid (show (4 + S).toNat = 4 + (5 + M) by omega)
   have S1 := Lib.hid hS
   have z0 : 0 ≤ S := by omega
   have z1 : S ≤ 4294967295 := by omega
   clear hS
   go_wp2_with fail
   refine (zAZ _ _ _ _).mono ?_
   rintro e w2 ⟨rfl, hw2⟩
   have K2 := Lib.hid (zLO w.heap.size w wr (5 + M) (by omega) HR.out zr w2 hw2)
   have zs : (wr.alloc (.cells (madeCells #[.int .u8 0] (4 + (5 + M))) 5)).heap.size = wr.heap.size + 1 := by simp
   generalize (wr.alloc (.cells (madeCells #[.int .u8 0] (4 + (5 + M))) 5)).heap.size = gg at *
   subst zs
   clear hw2 hmk s0
   go_wp2_with fail
   refine (mb8 K2.out 1 (by omega) (by omega) (by simp)).mono ?_
   rintro e w3 ⟨rfl, hm⟩
   have h3 := (hm.below.block q hql).trans H0.out
   have c0 : w3.cell? ⟨q, 0, none⟩ = some (.int .u32 x) := by rw [zAA h3]; rfl
   have K3 := Lib.hid hm
   clear hm h3 K2
   go_wp2_with fail
   refine (zHE K3.out x x0 x1 (by simp)).mono ?_
   rintro e w4 ⟨rfl, hm⟩
   have h4 := (hm.below.block q hql).trans H0.out
   have K4 := Lib.hid hm
   clear hm K3 c0
   have c0 : w4.cell? ⟨q, 1, none⟩ = some (.slice A k cap) := by rw [zAA h4]; rfl
   clear h4
   go_wp2_with fail
   go_loopw [41] (fun i wr' => ∃ j : Nat, j ≤ k ∧ i = .int .i64 (j : Int) ∧ Hid (MB w.heap.size w wr' (wr.heap.size + 1) ([0, 0, 0, 0] ++ [bt 1] ++ zAQ x ++ exB ((l.take j).map zA0)))) (fun i _ => k - (intOf i).toNat)
   case atStart => exact ⟨0, Nat.zero_le _, rfl, Lib.hid (by simpa [exB] using K4.out)⟩
   case round =>
    obtain ⟨j, hj, rfl, HMB⟩ := hrel
    by_cases hlt : j < k
    ·have hjl : j < l.length := by have := HN.out; omega
     have he : l[j]? = some l[j] := List.getElem?_eq_getElem hjl
     obtain ⟨x', p, qe, rfl, hx, g1, g2⟩ := HP.out j _ he
     obtain ⟨hs1, hs2⟩ := HL.out.at _ (List.getElem_mem hjl)
     have hqe := H9.out _ _ g2
     have g3 : wr.cell? ⟨x', p + j, none⟩ = some (.pointer (some ⟨qe, 0, none⟩)) := by rw [cell_kept (HMB.out.below.block x' hx)]; exact g1
     have g4 : wr.heap[qe]? = some (.cells #[.string l[j].f0, .string l[j].f1] 104 (0, 0)) := (HMB.out.below.block qe hqe).trans g2
     have hle := zGV l j
     have hM9 := HM.out
     have C := Lib.hid (zH1 w.heap.size _ qe _ l[j].f0 l[j].f1 w wr HMB.out g4 hqe (Nat.le_refl _) (by simp only [List.length_append, zAM, List.length_cons, List.length_nil]; omega) hs1 hs2)
     have HT := Lib.hid (show [0, 0, 0, 0] ++ [bt 1] ++ zAQ x ++ exB ((l.take (j + 1)).map zA0) = [0, 0, 0, 0] ++ [bt 1] ++ zAQ x ++ exB ((l.take j).map zA0) ++ (str (tl l[j].f0) ++ str (tl l[j].f1)) by rw [zDl l j hjl]; simp only [List.append_assoc])
     clear he g1 g2 g4 hle hM9 HMB hqe
     generalize [0, 0, 0, 0] ++ [bt 1] ++ zAQ x ++ exB ((l.take j).map zA0) = P3 at *
     generalize l[j].f0 = s1 at *
     generalize l[j].f1 = s2 at *
     clear hjl
     go_wp2_with fail
     refine C.out.mono ?_
     rintro r w5 ⟨rfl, hm⟩
     rw [← HT.out] at hm
     have B5 := Lib.hid hm
     clear hm C g3
     go_wp2_with fail
     go_roundw
     case rel => exact ⟨j + 1, by omega, by go_num, B5⟩
     case measure => simp [intOf]; omega
    ·obtain rfl : j = k := by omega
     have hfull : l.take j = l := List.take_of_length_le (by have := HN.out; omega)
     rw [hfull] at HMB
     have hM9 := HM.out
     have C := Lib.hid (zMi HMB.out (Nat.le_refl _) S (by simp) (by simp only [List.length_append, zAM, List.length_cons, List.length_nil]; omega) z0 z1)
     have E := Lib.hid (show zAQ S ++ ([0, 0, 0, 0] ++ [bt 1] ++ zAQ x ++ exB (l.map zA0)).drop 4 = zBb 1 x l by rw [← S1.out, ← HM.out]; unfold zBb; simp)
     have hlen : (zAQ S ++ ([0, 0, 0, 0] ++ [bt 1] ++ zAQ x ++ exB (l.map zA0)).drop 4).length ≤ 100000000 := by simp only [List.length_append, zAM, List.length_cons, List.length_nil, List.length_drop]; omega
     have hlen0 : 0 < (zAQ S ++ ([0, 0, 0, 0] ++ [bt 1] ++ zAQ x ++ exB (l.map zA0)).drop 4).length := by simp only [List.length_append, zAM]; omega
     clear hfull HMB hM9 K4 c0
     generalize zAQ S ++ ([0, 0, 0, 0] ++ [bt 1] ++ zAQ x ++ exB (l.map zA0)).drop 4 = F at *
     go_wp2_with fail
     refine C.out.mono ?_
     rintro r w5 ⟨rfl, v, hm, hb⟩
     have M := Lib.hid hm
     have B := Lib.hid hb
     clear hm hb C
     go_wp2_with fail
     refine (zDZ w.heap.size _ v F w5 M.out hlen0 (by omega)).mono ?_
     rintro e w6 ⟨rfl, kk, hw3⟩
     have F3 := Lib.hid (show w6.ownsRow w.heap.size 5 1 v F.length (u8s F) from by rw [hw3]; exact M.out.own)
     have B3 := Lib.hid (show Below w.heap.size w w6 from by rw [hw3]; exact zBB B.out kk)
     clear hw3 M B
     go_wp2_with fail
     go_ret2
     rw [← E.out]
     exact ⟨v, rfl, F3.out, B3.out⟩
theorem zI1 (q : Nat) (x : Int) (A : Option Addr) (n cap : Nat) (l : List S52) (w : World) (hq : w.heap[q]? = some (.cells #[.int .u32 x, .slice A n cap] 67 (0, 0))) (hn : n = l.length) (hn1 : n ≤ 100000) (x0 : 0 ≤ x) (x1 : x ≤ 4294967295)
  (hp : PAt zDk w A l) (hl : gExB l) (hq9 : ∀ q e, zDk w q e → q < w.heap.size) :
  Calls Tryz.prog 25 #[.pointer (some ⟨q, 0, none⟩)] w (zCr (zBb 2 x l) w) := by
 have hql := zAC hq
 have H0 := Lib.hid hq
 have HP := Lib.hid hp
 have HN := Lib.hid hn
 have HL := Lib.hid hl
 have H9 := Lib.hid hq9
 have c0 : w.cell? ⟨q, 1, none⟩ = some (.slice A n cap) := by rw [zAA hq]; rfl
 have hL : (exB (l.map zA0)).length ≤ 10000000 := hl.2.1
 clear hq hp hn hl hq9
 go_enter Tryz.func25, Tryz.ntmps25
 go_wp2_with fail
 go_loopw [4, 15] (fun s i wr => ∃ k : Nat, k ≤ n ∧ s = .int .i64 (((5 + (exB ((l.take k).map zA0)).length : Nat) : Nat) : Int) ∧ i = .int .i64 (k : Int) ∧ Hid (Below w.heap.size w wr)) (fun _ i _ => n - (intOf i).toNat)
 case atStart => exact ⟨0, Nat.zero_le _, rfl, rfl, Lib.hid (Below.refl _ _)⟩
 case round =>
  obtain ⟨k, hk, rfl, rfl, HR⟩ := hrel
  by_cases hlt : k < n
  ·have hkl : k < l.length := by have := HN.out; omega
   have he : l[k]? = some l[k] := List.getElem?_eq_getElem hkl
   obtain ⟨x', p, qe, rfl, hx, g1, g2⟩ := HP.out k _ he
   obtain ⟨hs1, hs2⟩ := HL.out.at _ (List.getElem_mem hkl)
   have g3 : wr.cell? ⟨x', p + k, none⟩ = some (.pointer (some ⟨qe, 0, none⟩)) := by rw [cell_kept (HR.out.block x' hx)]; exact g1
   have g4 : wr.heap[qe]? = some (.cells #[.string l[k].f0, .string l[k].f1] 104 (0, 0)) := (HR.out.block qe (H9.out _ _ g2)).trans g2
   have C := Lib.hid (zJU qe l[k].f0 l[k].f1 wr g4 hs1 hs2)
   have ht := zDl l k hkl
   have hle := zGV l (k + 1)
   rw [ht, List.length_append, List.length_append, zAK, zAK, zAH, zAH] at hle
   have HT := Lib.hid (show (exB ((l.take (k + 1)).map zA0)).length = (exB ((l.take k).map zA0)).length + (8 + l[k].f0.size + l[k].f1.size) by rw [ht, List.length_append, List.length_append, zAK, zAK, zAH, zAH]; omega)
   clear he g1 g2 g4 ht
   generalize (exB ((l.take k).map zA0)).length = M at *
   generalize l[k].f0.size = E1 at *
   generalize l[k].f1.size = E2 at *
   clear hkl
   obtain ⟨S, hS⟩ : ∃ S : Int, ((5 + M : Nat) : Int) = S := ⟨_, rfl⟩
   rw [hS]
   have s0 : IntKind.i64.wrap (S + (8 + (E1 : Int) + (E2 : Int))) = S + (8 + (E1 : Int) + (E2 : Int)) := IntWalk.i64_in _ (by omega)
   go_wp2_with fail
   refine C.out.mono ?_
   rintro r w4 ⟨rfl, kk, rfl⟩
   have B4 := Lib.hid (zBB HR.out kk)
   clear HR C g3
   go_wp2_with fail
   go_roundw
   case rel => exact ⟨k + 1, by omega, by rw [HT.out]; congr 1; omega, by go_num, B4⟩
   case measure => simp [intOf]; omega
  ·obtain rfl : k = n := by omega
   have hfull : l.take k = l := List.take_of_length_le (by have := HN.out; omega)
   rw [hfull]
   have zr := HR.out.size
   generalize hM : (exB (l.map zA0)).length = M at *
   have HM := Lib.hid hM
   clear hfull hk hlt c0 hM
   obtain ⟨S, hS⟩ : ∃ S : Int, ((5 + M : Nat) : Int) = S := ⟨_, rfl⟩
   rw [hS]
   have s0 : IntKind.i64.wrap (4 + S) = 4 + S := IntWalk.i64_in _ (by omega)
   have hmk := zMh (5 + M) (by omega) wr (4 + S) (by omega)
   have S0 := Lib.hid (show (4 + S).toNat = 4 + (5 + M) by omega)
   have S1 := Lib.hid hS
   have z0 : 0 ≤ S := by omega
   have z1 : S ≤ 4294967295 := by omega
   clear hS
   go_wp2_with fail
   refine (zAZ _ _ _ _).mono ?_
   rintro e w2 ⟨rfl, hw2⟩
   have K2 := Lib.hid (zLO w.heap.size w wr (5 + M) (by omega) HR.out zr w2 hw2)
   have zs : (wr.alloc (.cells (madeCells #[.int .u8 0] (4 + (5 + M))) 5)).heap.size = wr.heap.size + 1 := by simp
   generalize (wr.alloc (.cells (madeCells #[.int .u8 0] (4 + (5 + M))) 5)).heap.size = gg at *
   subst zs
   clear hw2 hmk s0
   go_wp2_with fail
   refine (mb8 K2.out 2 (by omega) (by omega) (by simp)).mono ?_
   rintro e w3 ⟨rfl, hm⟩
   have h3 := (hm.below.block q hql).trans H0.out
   have c0 : w3.cell? ⟨q, 0, none⟩ = some (.int .u32 x) := by rw [zAA h3]; rfl
   have K3 := Lib.hid hm
   clear hm h3 K2
   go_wp2_with fail
   refine (zHE K3.out x x0 x1 (by simp)).mono ?_
   rintro e w4 ⟨rfl, hm⟩
   have h4 := (hm.below.block q hql).trans H0.out
   have K4 := Lib.hid hm
   clear hm K3 c0
   have c0 : w4.cell? ⟨q, 1, none⟩ = some (.slice A k cap) := by rw [zAA h4]; rfl
   clear h4
   go_wp2_with fail
   go_loopw [41] (fun i wr' => ∃ j : Nat, j ≤ k ∧ i = .int .i64 (j : Int) ∧ Hid (MB w.heap.size w wr' (wr.heap.size + 1) ([0, 0, 0, 0] ++ [bt 2] ++ zAQ x ++ exB ((l.take j).map zA0)))) (fun i _ => k - (intOf i).toNat)
   case atStart => exact ⟨0, Nat.zero_le _, rfl, Lib.hid (by simpa [exB] using K4.out)⟩
   case round =>
    obtain ⟨j, hj, rfl, HMB⟩ := hrel
    by_cases hlt : j < k
    ·have hjl : j < l.length := by have := HN.out; omega
     have he : l[j]? = some l[j] := List.getElem?_eq_getElem hjl
     obtain ⟨x', p, qe, rfl, hx, g1, g2⟩ := HP.out j _ he
     obtain ⟨hs1, hs2⟩ := HL.out.at _ (List.getElem_mem hjl)
     have hqe := H9.out _ _ g2
     have g3 : wr.cell? ⟨x', p + j, none⟩ = some (.pointer (some ⟨qe, 0, none⟩)) := by rw [cell_kept (HMB.out.below.block x' hx)]; exact g1
     have g4 : wr.heap[qe]? = some (.cells #[.string l[j].f0, .string l[j].f1] 104 (0, 0)) := (HMB.out.below.block qe hqe).trans g2
     have hle := zGV l j
     have hM9 := HM.out
     have C := Lib.hid (zH1 w.heap.size _ qe _ l[j].f0 l[j].f1 w wr HMB.out g4 hqe (Nat.le_refl _) (by simp only [List.length_append, zAM, List.length_cons, List.length_nil]; omega) hs1 hs2)
     have HT := Lib.hid (show [0, 0, 0, 0] ++ [bt 2] ++ zAQ x ++ exB ((l.take (j + 1)).map zA0) = [0, 0, 0, 0] ++ [bt 2] ++ zAQ x ++ exB ((l.take j).map zA0) ++ (str (tl l[j].f0) ++ str (tl l[j].f1)) by rw [zDl l j hjl]; simp only [List.append_assoc])
     clear he g1 g2 g4 hle hM9 HMB hqe
     generalize [0, 0, 0, 0] ++ [bt 2] ++ zAQ x ++ exB ((l.take j).map zA0) = P3 at *
     generalize l[j].f0 = s1 at *
     generalize l[j].f1 = s2 at *
     clear hjl
     go_wp2_with fail
     refine C.out.mono ?_
     rintro r w5 ⟨rfl, hm⟩
     rw [← HT.out] at hm
     have B5 := Lib.hid hm
     clear hm C g3
     go_wp2_with fail
     go_roundw
     case rel => exact ⟨j + 1, by omega, by go_num, B5⟩
     case measure => simp [intOf]; omega
    ·obtain rfl : j = k := by omega
     have hfull : l.take j = l := List.take_of_length_le (by have := HN.out; omega)
     rw [hfull] at HMB
     have hM9 := HM.out
     have C := Lib.hid (zMi HMB.out (Nat.le_refl _) S (by simp) (by simp only [List.length_append, zAM, List.length_cons, List.length_nil]; omega) z0 z1)
     have E := Lib.hid (show zAQ S ++ ([0, 0, 0, 0] ++ [bt 2] ++ zAQ x ++ exB (l.map zA0)).drop 4 = zBb 2 x l by rw [← S1.out, ← HM.out]; unfold zBb; simp)
     have hlen : (zAQ S ++ ([0, 0, 0, 0] ++ [bt 2] ++ zAQ x ++ exB (l.map zA0)).drop 4).length ≤ 100000000 := by simp only [List.length_append, zAM, List.length_cons, List.length_nil, List.length_drop]; omega
     have hlen0 : 0 < (zAQ S ++ ([0, 0, 0, 0] ++ [bt 2] ++ zAQ x ++ exB (l.map zA0)).drop 4).length := by simp only [List.length_append, zAM]; omega
     clear hfull HMB hM9 K4 c0
     generalize zAQ S ++ ([0, 0, 0, 0] ++ [bt 2] ++ zAQ x ++ exB (l.map zA0)).drop 4 = F at *
     go_wp2_with fail
     refine C.out.mono ?_
     rintro r w5 ⟨rfl, v, hm, hb⟩
     have M := Lib.hid hm
     have B := Lib.hid hb
     clear hm hb C
     go_wp2_with fail
     refine (zDZ w.heap.size _ v F w5 M.out hlen0 (by omega)).mono ?_
     rintro e w6 ⟨rfl, kk, hw3⟩
     have F3 := Lib.hid (show w6.ownsRow w.heap.size 5 1 v F.length (u8s F) from by rw [hw3]; exact M.out.own)
     have B3 := Lib.hid (show Below w.heap.size w w6 from by rw [hw3]; exact zBB B.out kk)
     clear hw3 M B
     go_wp2_with fail
     go_ret2
     rw [← E.out]
     exact ⟨v, rfl, F3.out, B3.out⟩
end Go.Proofs.YtgnficcjnijdbaaGreat
namespace Go.Proofs.YtgnficcjnijdbaaGreat
open Go.RowKit Go.Great Go.Shelf Go.Proofs.YtgnficcjnijdbaaGreatW.PrintWords Go.Proofs.YtgnficcjnijdbaaGreatW.PrintLast Go.Proofs.YtgnficcjnijdbaaGreatW.PrintMore Go.Proofs.YtgnficcjnijdbaaGreat.KK
theorem zCS {w : World} {B B' : Nat} {A : Option Addr} {l : List zAu} (h : ExtAt w B A l) (hB : B ≤ B') : ExtAt w B' A l := by
 rcases h with h | ⟨x, p, hA, hx, h⟩
 ·exact .inl h
 ·exact .inr ⟨x, p, hA, by omega, h⟩
theorem below_alloc (w : World) (o : Obj) : Below w.heap.size w (w.alloc o) := (Below.refl _ _).alloc (Nat.le_refl _) _
theorem zGW (P : Array Value) (s : ByteArray) (a b c d e f g : Int) (A : Option Addr) (n cap : Nat) (l : List S52) (w : World) (h0 : P[0]? = some (.int .i64 9)) (h2 : P[2]? = some (.string s)) (h9 : ∀ j v, (at8 a b c d e f g (.slice A n cap)).toList[j]? = some v → P[9 + j]? = some v)
  (hn : n = l.length) (hl : l.length ≤ 4398046511103) (hr : Kd.C k52 w A l.length l) (hc : l.length ≤ cap) :
  Calls Tryz.prog 26 #[.agg P] w fun r w' => (∃ q A' c', r = .returned (.iface 134 (.pointer (some ⟨q, 0, none⟩))) ∧ w'.heap[q]? = some (.cells #[.string s, .int .u32 a, .int .u64 b, .int .u32 c, .int .u32 d, .int .u32 e, .int .u32 f, .int .u32 g, .slice A' (l.map zA0).length c'] 136 (0, 0)) ∧ ExtAt w' w'.heap.size A' (l.map zA0) ∧ (l.map zA0).length ≤ c') ∧ Below w.heap.size w w' := by
 have EC := Lib.hid (fun (W : World) (hW : Below w.heap.size w W) => zEB a b c d e f g A n cap l W hn hl (Kd.C_below hr hW) hc)
 have hb := heap_alloc_new w (.cells P 29 (0, 0))
 have hbl : Below w.heap.size w (w.alloc (.cells P 29)) := (Below.refl _ _).alloc (Nat.le_refl _) _
 generalize hW : w.alloc (.cells P 29) = W at hb hbl
 have c0 : W.cell? ⟨w.heap.size, 0, none⟩ = some (.int .i64 9) := by rw [zAA hb]; exact h0
 have HB := Lib.hid hbl
 have HK := Lib.hid hb
 have HW := Lib.hid hW
 have X9 := Lib.hid h9
 have X22 := Lib.hid h2
 clear hb hbl hW h0 h9 hr hn hl hc h2
 go_enter Tryz.func26, Tryz.ntmps26
 go_wp2_with (refine wpList_boxTo rfl 29 _ rfl (some 1) rfl w.heap.size rfl P rfl ?_; rw [HW.out])
 refine wp_region_held_drew (S := fun w' => Below w.heap.size w w' ∧ w'.heap[w.heap.size]? = some (.cells P 29 (0, 0))) (by kernel_rfl) ⟨zBH HB.out, HK.out⟩ (fun hHeld => ?_)
 refine tkE 66 0 (.pointer (some ⟨w.heap.size, 2, none⟩)) hHeld ?_
 try simp only [zAJ]
 refine tkY 67 1 (.string s) rfl (Or.inl ⟨by rfl, fun w' hw' => by
  have c : w'.cell? ⟨w.heap.size, 2, none⟩ = some (.string s) := by rw [zAA hw'.2]; exact X22.out
  go_simp⟩) hHeld ?_
 try simp only [zAJ]
 refine tkE 68 2 (.pointer (some ⟨w.heap.size, 9, none⟩)) hHeld ?_
 try simp only [zAJ]
 refine tkY 69 3 (.agg (at8 a b c d e f g (.slice A n cap)).toList.toArray) rfl (yieldsIf_load_mid (by rfl) 26 _ (by rfl) w.heap.size 9 (by rfl) (at8 a b c d e f g (.slice A n cap)).toList _ (fun w' hw' j v hj => by rw [zAA hw'.2]; exact X9.out j v hj) Tryz.underlying26 rfl (zBQ _ _ _ _ _ _ _ _)) hHeld ?_
 try simp only [zAJ]
 rw [Array.toArray_toList]
 refine wpAnyH_ready (rs := [4]) (by kernel_rfl) (by simp) (AllReadyH.cons rfl (fun K hK => ?_) AllReadyH.nil)
 rw [if_pos (by rfl)]
 go_wp2_with ((go_at_call 52; refine (EC.out _ hHeld.1).mono ?_; rintro e w5 ⟨v, rfl, hR, hb5⟩))
 refine hK.out _ _ ⟨hHeld.1.trans (hb5.mono hHeld.1.size), zBO hb5 hHeld.2⟩ (fun hHeld => ?_)
 obtain ⟨A', c', rfl, hc', hC'⟩ := Kd.R_reads hR
 have HC := Lib.hid hC'
 have HZ := Lib.hid hc'
 clear hK K hR hb5 hC' hc'
 generalize hn2 : (l.map zA0).length = n2 at *
 have HN2 := Lib.hid hn2
 clear hn2
 try simp only [zAJ]
 refine tkY 71 5 (.agg #[.string s, .int .u32 a, .int .u64 b, .int .u32 c, .int .u32 d, .int .u32 e, .int .u32 f, .int .u32 g, .slice A' n2 c']) rfl (Or.inl ⟨by rfl, fun w' hw' => by first | rfl | kernel_rfl⟩) hHeld ?_
 try simp only [zAJ]
 refine wpAnyH_ready (rs := [6]) (by kernel_rfl) (by simp) (AllReadyH.cons rfl (fun K hK => ?_) AllReadyH.nil)
 rw [if_pos (by rfl)]
 go_wp2_with fail
 refine hK.out _ _ ⟨hHeld.1.alloc hHeld.1.size _, by rw [heap_alloc_old _ _ (zAC hHeld.2)]; exact hHeld.2⟩ (fun hHeld => ?_)
 clear hK K
 try simp only [zAJ]
 refine tkE 73 7 (.iface 134 (.pointer (some ⟨w5.heap.size, 0, none⟩))) hHeld ?_
 try simp only [zAJ]
 refine tkE 2 8 (.iface 134 (.pointer (some ⟨w5.heap.size, 0, none⟩))) hHeld ?_
 try simp only [zAJ]
 refine wpAnyH_done (by kernel_rfl) ?_ _
 go_wp2_with fail
 go_ret
 have hC := HC.out
 have hZ := HZ.out
 have hn2 := HN2.out
 subst hn2
 refine ⟨⟨_, A', c', rfl, heap_alloc_new _ _, zCS ((zBq hC).below (below_alloc w5 _) (Nat.le_refl _)) (by simp), ?_⟩, hHeld.1⟩
 exact hZ
theorem zFR (P : Array Value) (s : ByteArray) (a b c d e f g : Int) (A : Option Addr) (n cap : Nat) (l : List S52) (w : World) (h0 : P[0]? = some (.int .i64 10)) (h4 : P[4]? = some (.string s)) (h9 : ∀ j v, (at8 a b c d e f g (.slice A n cap)).toList[j]? = some v → P[9 + j]? = some v)
  (hn : n = l.length) (hl : l.length ≤ 4398046511103) (hr : Kd.C k52 w A l.length l) (hc : l.length ≤ cap) :
  Calls Tryz.prog 26 #[.agg P] w fun r w' => (∃ q A' c', r = .returned (.iface 137 (.pointer (some ⟨q, 0, none⟩))) ∧ w'.heap[q]? = some (.cells #[.string s, .int .u32 a, .int .u64 b, .int .u32 c, .int .u32 d, .int .u32 e, .int .u32 f, .int .u32 g, .slice A' (l.map zA0).length c'] 139 (0, 0)) ∧ ExtAt w' w'.heap.size A' (l.map zA0) ∧ (l.map zA0).length ≤ c') ∧ Below w.heap.size w w' := by
 have EC := Lib.hid (fun (W : World) (hW : Below w.heap.size w W) => zEB a b c d e f g A n cap l W hn hl (Kd.C_below hr hW) hc)
 have hb := heap_alloc_new w (.cells P 29 (0, 0))
 have hbl : Below w.heap.size w (w.alloc (.cells P 29)) := (Below.refl _ _).alloc (Nat.le_refl _) _
 generalize hW : w.alloc (.cells P 29) = W at hb hbl
 have c0 : W.cell? ⟨w.heap.size, 0, none⟩ = some (.int .i64 10) := by rw [zAA hb]; exact h0
 have HB := Lib.hid hbl
 have HK := Lib.hid hb
 have HW := Lib.hid hW
 have X9 := Lib.hid h9
 have X24 := Lib.hid h4
 clear hb hbl hW h0 h9 hr hn hl hc h4
 go_enter Tryz.func26, Tryz.ntmps26
 go_wp2_with (refine wpList_boxTo rfl 29 _ rfl (some 1) rfl w.heap.size rfl P rfl ?_; rw [HW.out])
 refine wp_region_held_drew (S := fun w' => Below w.heap.size w w' ∧ w'.heap[w.heap.size]? = some (.cells P 29 (0, 0))) (by kernel_rfl) ⟨zBH HB.out, HK.out⟩ (fun hHeld => ?_)
 refine tkE 76 0 (.pointer (some ⟨w.heap.size, 4, none⟩)) hHeld ?_
 try simp only [zAJ]
 refine tkY 77 1 (.string s) rfl (Or.inl ⟨by rfl, fun w' hw' => by
  have c : w'.cell? ⟨w.heap.size, 4, none⟩ = some (.string s) := by rw [zAA hw'.2]; exact X24.out
  go_simp⟩) hHeld ?_
 try simp only [zAJ]
 refine tkE 78 2 (.pointer (some ⟨w.heap.size, 9, none⟩)) hHeld ?_
 try simp only [zAJ]
 refine tkY 79 3 (.agg (at8 a b c d e f g (.slice A n cap)).toList.toArray) rfl (yieldsIf_load_mid (by rfl) 26 _ (by rfl) w.heap.size 9 (by rfl) (at8 a b c d e f g (.slice A n cap)).toList _ (fun w' hw' j v hj => by rw [zAA hw'.2]; exact X9.out j v hj) Tryz.underlying26 rfl (zBQ _ _ _ _ _ _ _ _)) hHeld ?_
 try simp only [zAJ]
 rw [Array.toArray_toList]
 refine wpAnyH_ready (rs := [4]) (by kernel_rfl) (by simp) (AllReadyH.cons rfl (fun K hK => ?_) AllReadyH.nil)
 rw [if_pos (by rfl)]
 go_wp2_with ((go_at_call 52; refine (EC.out _ hHeld.1).mono ?_; rintro e w5 ⟨v, rfl, hR, hb5⟩))
 refine hK.out _ _ ⟨hHeld.1.trans (hb5.mono hHeld.1.size), zBO hb5 hHeld.2⟩ (fun hHeld => ?_)
 obtain ⟨A', c', rfl, hc', hC'⟩ := Kd.R_reads hR
 have HC := Lib.hid hC'
 have HZ := Lib.hid hc'
 clear hK K hR hb5 hC' hc'
 generalize hn2 : (l.map zA0).length = n2 at *
 have HN2 := Lib.hid hn2
 clear hn2
 try simp only [zAJ]
 refine tkY 81 5 (.agg #[.string s, .int .u32 a, .int .u64 b, .int .u32 c, .int .u32 d, .int .u32 e, .int .u32 f, .int .u32 g, .slice A' n2 c']) rfl (Or.inl ⟨by rfl, fun w' hw' => by first | rfl | kernel_rfl⟩) hHeld ?_
 try simp only [zAJ]
 refine wpAnyH_ready (rs := [6]) (by kernel_rfl) (by simp) (AllReadyH.cons rfl (fun K hK => ?_) AllReadyH.nil)
 rw [if_pos (by rfl)]
 go_wp2_with fail
 refine hK.out _ _ ⟨hHeld.1.alloc hHeld.1.size _, by rw [heap_alloc_old _ _ (zAC hHeld.2)]; exact hHeld.2⟩ (fun hHeld => ?_)
 clear hK K
 try simp only [zAJ]
 refine tkE 83 7 (.iface 137 (.pointer (some ⟨w5.heap.size, 0, none⟩))) hHeld ?_
 try simp only [zAJ]
 refine tkE 2 8 (.iface 137 (.pointer (some ⟨w5.heap.size, 0, none⟩))) hHeld ?_
 try simp only [zAJ]
 refine wpAnyH_done (by kernel_rfl) ?_ _
 go_wp2_with fail
 go_ret
 have hC := HC.out
 have hZ := HZ.out
 have hn2 := HN2.out
 subst hn2
 refine ⟨⟨_, A', c', rfl, heap_alloc_new _ _, zCS ((zBq hC).below (below_alloc w5 _) (Nat.le_refl _)) (by simp), ?_⟩, hHeld.1⟩
 exact hZ
theorem zI2 (P : Array Value) (s : ByteArray) (a b c d e f g : Int) (A : Option Addr) (n cap : Nat) (l : List S52) (w : World) (h0 : P[0]? = some (.int .i64 14)) (h2 : P[2]? = some (.string s)) (h9 : ∀ j v, (at8 a b c d e f g (.slice A n cap)).toList[j]? = some v → P[9 + j]? = some v)
  (hn : n = l.length) (hl : l.length ≤ 4398046511103) (hr : Kd.C k52 w A l.length l) (hc : l.length ≤ cap) :
  Calls Tryz.prog 26 #[.agg P] w fun r w' => (∃ q A' c', r = .returned (.iface 146 (.pointer (some ⟨q, 0, none⟩))) ∧ w'.heap[q]? = some (.cells #[.string s, .int .u32 a, .int .u64 b, .int .u32 c, .int .u32 d, .int .u32 e, .int .u32 f, .int .u32 g, .slice A' (l.map zA0).length c'] 147 (0, 0)) ∧ ExtAt w' w'.heap.size A' (l.map zA0) ∧ (l.map zA0).length ≤ c') ∧ Below w.heap.size w w' := by
 have EC := Lib.hid (fun (W : World) (hW : Below w.heap.size w W) => zEB a b c d e f g A n cap l W hn hl (Kd.C_below hr hW) hc)
 have hb := heap_alloc_new w (.cells P 29 (0, 0))
 have hbl : Below w.heap.size w (w.alloc (.cells P 29)) := (Below.refl _ _).alloc (Nat.le_refl _) _
 generalize hW : w.alloc (.cells P 29) = W at hb hbl
 have c0 : W.cell? ⟨w.heap.size, 0, none⟩ = some (.int .i64 14) := by rw [zAA hb]; exact h0
 have HB := Lib.hid hbl
 have HK := Lib.hid hb
 have HW := Lib.hid hW
 have X9 := Lib.hid h9
 have X22 := Lib.hid h2
 clear hb hbl hW h0 h9 hr hn hl hc h2
 go_enter Tryz.func26, Tryz.ntmps26
 go_wp2_with (refine wpList_boxTo rfl 29 _ rfl (some 1) rfl w.heap.size rfl P rfl ?_; rw [HW.out])
 refine wp_region_held_drew (S := fun w' => Below w.heap.size w w' ∧ w'.heap[w.heap.size]? = some (.cells P 29 (0, 0))) (by kernel_rfl) ⟨zBH HB.out, HK.out⟩ (fun hHeld => ?_)
 refine tkE 107 0 (.pointer (some ⟨w.heap.size, 2, none⟩)) hHeld ?_
 try simp only [zAJ]
 refine tkY 108 1 (.string s) rfl (Or.inl ⟨by rfl, fun w' hw' => by
  have c : w'.cell? ⟨w.heap.size, 2, none⟩ = some (.string s) := by rw [zAA hw'.2]; exact X22.out
  go_simp⟩) hHeld ?_
 try simp only [zAJ]
 refine tkE 109 2 (.pointer (some ⟨w.heap.size, 9, none⟩)) hHeld ?_
 try simp only [zAJ]
 refine tkY 110 3 (.agg (at8 a b c d e f g (.slice A n cap)).toList.toArray) rfl (yieldsIf_load_mid (by rfl) 26 _ (by rfl) w.heap.size 9 (by rfl) (at8 a b c d e f g (.slice A n cap)).toList _ (fun w' hw' j v hj => by rw [zAA hw'.2]; exact X9.out j v hj) Tryz.underlying26 rfl (zBQ _ _ _ _ _ _ _ _)) hHeld ?_
 try simp only [zAJ]
 rw [Array.toArray_toList]
 refine wpAnyH_ready (rs := [4]) (by kernel_rfl) (by simp) (AllReadyH.cons rfl (fun K hK => ?_) AllReadyH.nil)
 rw [if_pos (by rfl)]
 go_wp2_with ((go_at_call 52; refine (EC.out _ hHeld.1).mono ?_; rintro e w5 ⟨v, rfl, hR, hb5⟩))
 refine hK.out _ _ ⟨hHeld.1.trans (hb5.mono hHeld.1.size), zBO hb5 hHeld.2⟩ (fun hHeld => ?_)
 obtain ⟨A', c', rfl, hc', hC'⟩ := Kd.R_reads hR
 have HC := Lib.hid hC'
 have HZ := Lib.hid hc'
 clear hK K hR hb5 hC' hc'
 generalize hn2 : (l.map zA0).length = n2 at *
 have HN2 := Lib.hid hn2
 clear hn2
 try simp only [zAJ]
 refine tkY 112 5 (.agg #[.string s, .int .u32 a, .int .u64 b, .int .u32 c, .int .u32 d, .int .u32 e, .int .u32 f, .int .u32 g, .slice A' n2 c']) rfl (Or.inl ⟨by rfl, fun w' hw' => by first | rfl | kernel_rfl⟩) hHeld ?_
 try simp only [zAJ]
 refine wpAnyH_ready (rs := [6]) (by kernel_rfl) (by simp) (AllReadyH.cons rfl (fun K hK => ?_) AllReadyH.nil)
 rw [if_pos (by rfl)]
 go_wp2_with fail
 refine hK.out _ _ ⟨hHeld.1.alloc hHeld.1.size _, by rw [heap_alloc_old _ _ (zAC hHeld.2)]; exact hHeld.2⟩ (fun hHeld => ?_)
 clear hK K
 try simp only [zAJ]
 refine tkE 114 7 (.iface 146 (.pointer (some ⟨w5.heap.size, 0, none⟩))) hHeld ?_
 try simp only [zAJ]
 refine tkE 2 8 (.iface 146 (.pointer (some ⟨w5.heap.size, 0, none⟩))) hHeld ?_
 try simp only [zAJ]
 refine wpAnyH_done (by kernel_rfl) ?_ _
 go_wp2_with fail
 go_ret
 have hC := HC.out
 have hZ := HZ.out
 have hn2 := HN2.out
 subst hn2
 refine ⟨⟨_, A', c', rfl, heap_alloc_new _ _, zCS ((zBq hC).below (below_alloc w5 _) (Nat.le_refl _)) (by simp), ?_⟩, hHeld.1⟩
 exact hZ
theorem zJw (P : Array Value) (s : ByteArray) (x : Int) (a b c d e f g : Int) (A : Option Addr) (n cap : Nat) (l : List S52) (w : World) (h0 : P[0]? = some (.int .i64 3)) (h2 : P[2]? = some (.string s)) (h7 : P[7]? = some (.int .u32 x)) (h9 : ∀ j v, (at8 a b c d e f g (.slice A n cap)).toList[j]? = some v → P[9 + j]? = some v)
  (hn : n = l.length) (hl : l.length ≤ 4398046511103) (hr : Kd.C k52 w A l.length l) (hc : l.length ≤ cap) :
  Calls Tryz.prog 26 #[.agg P] w fun r w' => (∃ q A' c', r = .returned (.iface 112 (.pointer (some ⟨q, 0, none⟩))) ∧ w'.heap[q]? = some (.cells #[.string s, .int .u32 x, .int .u32 a, .int .u64 b, .int .u32 c, .int .u32 d, .int .u32 e, .int .u32 f, .int .u32 g, .slice A' (l.map zA0).length c'] 119 (0, 0)) ∧ ExtAt w' w'.heap.size A' (l.map zA0) ∧ (l.map zA0).length ≤ c') ∧ Below w.heap.size w w' := by
 have EC := Lib.hid (fun (W : World) (hW : Below w.heap.size w W) => zEB a b c d e f g A n cap l W hn hl (Kd.C_below hr hW) hc)
 have hb := heap_alloc_new w (.cells P 29 (0, 0))
 have hbl : Below w.heap.size w (w.alloc (.cells P 29)) := (Below.refl _ _).alloc (Nat.le_refl _) _
 generalize hW : w.alloc (.cells P 29) = W at hb hbl
 have c0 : W.cell? ⟨w.heap.size, 0, none⟩ = some (.int .i64 3) := by rw [zAA hb]; exact h0
 have HB := Lib.hid hbl
 have HK := Lib.hid hb
 have HW := Lib.hid hW
 have X9 := Lib.hid h9
 have X22 := Lib.hid h2
 have X27 := Lib.hid h7
 clear hb hbl hW h0 h9 hr hn hl hc h2 h7
 go_enter Tryz.func26, Tryz.ntmps26
 go_wp2_with (refine wpList_boxTo rfl 29 _ rfl (some 1) rfl w.heap.size rfl P rfl ?_; rw [HW.out])
 refine wp_region_held_drew (S := fun w' => Below w.heap.size w w' ∧ w'.heap[w.heap.size]? = some (.cells P 29 (0, 0))) (by kernel_rfl) ⟨zBH HB.out, HK.out⟩ (fun hHeld => ?_)
 refine tkE 10 0 (.pointer (some ⟨w.heap.size, 2, none⟩)) hHeld ?_
 try simp only [zAJ]
 refine tkY 11 1 (.string s) rfl (Or.inl ⟨by rfl, fun w' hw' => by
  have c : w'.cell? ⟨w.heap.size, 2, none⟩ = some (.string s) := by rw [zAA hw'.2]; exact X22.out
  go_simp⟩) hHeld ?_
 try simp only [zAJ]
 refine tkE 12 2 (.pointer (some ⟨w.heap.size, 7, none⟩)) hHeld ?_
 try simp only [zAJ]
 refine tkY 13 3 (.int .u32 x) rfl (Or.inl ⟨by rfl, fun w' hw' => by
  have c : w'.cell? ⟨w.heap.size, 7, none⟩ = some (.int .u32 x) := by rw [zAA hw'.2]; exact X27.out
  go_simp⟩) hHeld ?_
 try simp only [zAJ]
 refine tkE 14 4 (.pointer (some ⟨w.heap.size, 9, none⟩)) hHeld ?_
 try simp only [zAJ]
 refine tkY 15 5 (.agg (at8 a b c d e f g (.slice A n cap)).toList.toArray) rfl (yieldsIf_load_mid (by rfl) 26 _ (by rfl) w.heap.size 9 (by rfl) (at8 a b c d e f g (.slice A n cap)).toList _ (fun w' hw' j v hj => by rw [zAA hw'.2]; exact X9.out j v hj) Tryz.underlying26 rfl (zBQ _ _ _ _ _ _ _ _)) hHeld ?_
 try simp only [zAJ]
 rw [Array.toArray_toList]
 refine wpAnyH_ready (rs := [6]) (by kernel_rfl) (by simp) (AllReadyH.cons rfl (fun K hK => ?_) AllReadyH.nil)
 rw [if_pos (by rfl)]
 go_wp2_with ((go_at_call 52; refine (EC.out _ hHeld.1).mono ?_; rintro e w5 ⟨v, rfl, hR, hb5⟩))
 refine hK.out _ _ ⟨hHeld.1.trans (hb5.mono hHeld.1.size), zBO hb5 hHeld.2⟩ (fun hHeld => ?_)
 obtain ⟨A', c', rfl, hc', hC'⟩ := Kd.R_reads hR
 have HC := Lib.hid hC'
 have HZ := Lib.hid hc'
 clear hK K hR hb5 hC' hc'
 generalize hn2 : (l.map zA0).length = n2 at *
 have HN2 := Lib.hid hn2
 clear hn2
 try simp only [zAJ]
 refine tkY 17 7 (.agg #[.string s, .int .u32 x, .int .u32 a, .int .u64 b, .int .u32 c, .int .u32 d, .int .u32 e, .int .u32 f, .int .u32 g, .slice A' n2 c']) rfl (Or.inl ⟨by rfl, fun w' hw' => by first | rfl | kernel_rfl⟩) hHeld ?_
 try simp only [zAJ]
 refine wpAnyH_ready (rs := [8]) (by kernel_rfl) (by simp) (AllReadyH.cons rfl (fun K hK => ?_) AllReadyH.nil)
 rw [if_pos (by rfl)]
 go_wp2_with fail
 refine hK.out _ _ ⟨hHeld.1.alloc hHeld.1.size _, by rw [heap_alloc_old _ _ (zAC hHeld.2)]; exact hHeld.2⟩ (fun hHeld => ?_)
 clear hK K
 try simp only [zAJ]
 refine tkE 19 9 (.iface 112 (.pointer (some ⟨w5.heap.size, 0, none⟩))) hHeld ?_
 try simp only [zAJ]
 refine tkE 2 10 (.iface 112 (.pointer (some ⟨w5.heap.size, 0, none⟩))) hHeld ?_
 try simp only [zAJ]
 refine wpAnyH_done (by kernel_rfl) ?_ _
 go_wp2_with fail
 go_ret
 have hC := HC.out
 have hZ := HZ.out
 have hn2 := HN2.out
 subst hn2
 refine ⟨⟨_, A', c', rfl, heap_alloc_new _ _, zCS ((zBq hC).below (below_alloc w5 _) (Nat.le_refl _)) (by simp), ?_⟩, hHeld.1⟩
 exact hZ
theorem zFS (P : Array Value) (s : ByteArray) (a b c d e f g : Int) (A : Option Addr) (n cap : Nat) (l : List S52) (id : Int) (w : World) (hsz : P.size = 24) (h0 : P[0]? = some (.int .i64 9)) (h1 : P[1]? = some (.int .u32 id)) (h2 : P[2]? = some (.string s)) (h9 : ∀ j v, (at8 a b c d e f g (.slice A n cap)).toList[j]? = some v → P[9 + j]? = some v)
  (hn : n = l.length) (hl : zIY l) (hr : Kd.C k52 w A l.length l) (hc : l.length ≤ cap) (hs : s.size ≤ 1000000) (ga : zAc a) (gb : zC6 b) (gc : zAc c) (gd : zAc d) (ge : zAc e) (gf : zAc f) (gg' : zAc g) (i0 : 0 ≤ id) (i1 : id ≤ 4294967295) :
  Calls Tryz.prog 10 #[.agg P] w fun r w' => r = .returned (.tuple #[.string (bs (zA2 9 id (str (tl s) ++ atB a b c d e f g (l.map zA0)))), .int .i64 0]) ∧ Below w.heap.size w w' := by
 have hl1 : l.length ≤ 4398046511103 := by have := hl.1; simp at this; omega
 have hm := zCR a b c d e f g (l.map zA0) hl
 have h := zBo P 9 134 135 id (zA5 9 id (str (tl s) ++ atB a b c d e f g (l.map zA0)) 0) [] w hsz h0 rfl rfl h1 (fun _ _ => by kernel_rfl) (enters_of Tryz.func135 (by kernel_rfl) rfl)
  (fun W hW => (zGW P s a b c d e f g A n cap l W h0 h2 h9 hn hl1 (Kd.C_below hr hW) hc).mono fun r w' ⟨⟨q, A', c', he, hb, hx, hc'⟩, hB⟩ => ⟨⟨q, he, (zEu q s a b c d e f g A' _ c' (l.map zA0) id w' hb hs rfl hx hl hc' ga gb gc gd ge gf gg' i0 i1).mono fun _ _ hm => zBe hm⟩, hB⟩) (by simp only [zA5, List.length_append, List.length_cons, List.length_nil, zAM, zAS, zAK, zAH]; omega) (by simp) (by simp only [zA5, List.length_append, List.length_cons, List.length_nil, zAM, zAS, zAK, zAH]; omega)
 rwa [zBT, List.append_nil] at h
theorem zEv (P : Array Value) (s : ByteArray) (a b c d e f g : Int) (A : Option Addr) (n cap : Nat) (l : List S52) (id : Int) (w : World) (hsz : P.size = 24) (h0 : P[0]? = some (.int .i64 10)) (h1 : P[1]? = some (.int .u32 id)) (h4 : P[4]? = some (.string s)) (h9 : ∀ j v, (at8 a b c d e f g (.slice A n cap)).toList[j]? = some v → P[9 + j]? = some v)
  (hn : n = l.length) (hl : zIY l) (hr : Kd.C k52 w A l.length l) (hc : l.length ≤ cap) (hs : s.size ≤ 1000000) (ga : zAc a) (gb : zC6 b) (gc : zAc c) (gd : zAc d) (ge : zAc e) (gf : zAc f) (gg' : zAc g) (i0 : 0 ≤ id) (i1 : id ≤ 4294967295) :
  Calls Tryz.prog 10 #[.agg P] w fun r w' => r = .returned (.tuple #[.string (bs (zA2 10 id (str (tl s) ++ atB a b c d e f g (l.map zA0)))), .int .i64 0]) ∧ Below w.heap.size w w' := by
 have hl1 : l.length ≤ 4398046511103 := by have := hl.1; simp at this; omega
 have hm := zCR a b c d e f g (l.map zA0) hl
 have h := zBo P 10 137 138 id (zA5 10 id (str (tl s) ++ atB a b c d e f g (l.map zA0)) 0) [] w hsz h0 rfl rfl h1 (fun _ _ => by kernel_rfl) (enters_of Tryz.func138 (by kernel_rfl) rfl)
  (fun W hW => (zFR P s a b c d e f g A n cap l W h0 h4 h9 hn hl1 (Kd.C_below hr hW) hc).mono fun r w' ⟨⟨q, A', c', he, hb, hx, hc'⟩, hB⟩ => ⟨⟨q, he, (zEX q s a b c d e f g A' _ c' (l.map zA0) id w' hb hs rfl hx hl hc' ga gb gc gd ge gf gg' i0 i1).mono fun _ _ hm => zBe hm⟩, hB⟩) (by simp only [zA5, List.length_append, List.length_cons, List.length_nil, zAM, zAS, zAK, zAH]; omega) (by simp) (by simp only [zA5, List.length_append, List.length_cons, List.length_nil, zAM, zAS, zAK, zAH]; omega)
 rwa [zBT, List.append_nil] at h
theorem zH2 (P : Array Value) (s : ByteArray) (a b c d e f g : Int) (A : Option Addr) (n cap : Nat) (l : List S52) (id : Int) (w : World) (hsz : P.size = 24) (h0 : P[0]? = some (.int .i64 14)) (h1 : P[1]? = some (.int .u32 id)) (h2 : P[2]? = some (.string s)) (h9 : ∀ j v, (at8 a b c d e f g (.slice A n cap)).toList[j]? = some v → P[9 + j]? = some v)
  (hn : n = l.length) (hl : zIY l) (hr : Kd.C k52 w A l.length l) (hc : l.length ≤ cap) (hs : s.size ≤ 1000000) (ga : zAc a) (gb : zC6 b) (gc : zAc c) (gd : zAc d) (ge : zAc e) (gf : zAc f) (gg' : zAc g) (i0 : 0 ≤ id) (i1 : id ≤ 4294967295) :
  Calls Tryz.prog 10 #[.agg P] w fun r w' => r = .returned (.tuple #[.string (bs (zA2 14 id (str (tl s) ++ atB a b c d e f g (l.map zA0)))), .int .i64 0]) ∧ Below w.heap.size w w' := by
 have hl1 : l.length ≤ 4398046511103 := by have := hl.1; simp at this; omega
 have hm := zCR a b c d e f g (l.map zA0) hl
 have h := zBo P 14 146 150 id (zA5 14 id (str (tl s) ++ atB a b c d e f g (l.map zA0)) 0) [] w hsz h0 rfl rfl h1 (fun _ _ => by kernel_rfl) (enters_of Tryz.func150 (by kernel_rfl) rfl)
  (fun W hW => (zI2 P s a b c d e f g A n cap l W h0 h2 h9 hn hl1 (Kd.C_below hr hW) hc).mono fun r w' ⟨⟨q, A', c', he, hb, hx, hc'⟩, hB⟩ => ⟨⟨q, he, (zGR q s a b c d e f g A' _ c' (l.map zA0) id w' hb hs rfl hx hl hc' ga gb gc gd ge gf gg' i0 i1).mono fun _ _ hm => zBe hm⟩, hB⟩) (by simp only [zA5, List.length_append, List.length_cons, List.length_nil, zAM, zAS, zAK, zAH]; omega) (by simp) (by simp only [zA5, List.length_append, List.length_cons, List.length_nil, zAM, zAS, zAK, zAH]; omega)
 rwa [zBT, List.append_nil] at h
theorem zI3 (P : Array Value) (s : ByteArray) (x : Int) (a b c d e f g : Int) (A : Option Addr) (n cap : Nat) (l : List S52) (id : Int) (w : World) (hsz : P.size = 24) (h0 : P[0]? = some (.int .i64 3)) (h1 : P[1]? = some (.int .u32 id)) (h2 : P[2]? = some (.string s)) (h7 : P[7]? = some (.int .u32 x)) (h9 : ∀ j v, (at8 a b c d e f g (.slice A n cap)).toList[j]? = some v → P[9 + j]? = some v)
  (hn : n = l.length) (hl : zIY l) (hr : Kd.C k52 w A l.length l) (hc : l.length ≤ cap) (hs : s.size ≤ 1000000) (x0 : 0 ≤ x) (x1 : x ≤ 4294967295) (ga : zAc a) (gb : zC6 b) (gc : zAc c) (gd : zAc d) (ge : zAc e) (gf : zAc f) (gg' : zAc g) (i0 : 0 ≤ id) (i1 : id ≤ 4294967295) :
  Calls Tryz.prog 10 #[.agg P] w fun r w' => r = .returned (.tuple #[.string (bs (zA2 3 id (str (tl s) ++ zAQ x ++ atB a b c d e f g (l.map zA0)))), .int .i64 0]) ∧ Below w.heap.size w w' := by
 have hl1 : l.length ≤ 4398046511103 := by have := hl.1; simp at this; omega
 have hm := zCR a b c d e f g (l.map zA0) hl
 have h := zBo P 3 112 98 id (zA5 3 id (str (tl s) ++ zAQ x ++ atB a b c d e f g (l.map zA0)) 0) [] w hsz h0 rfl rfl h1 (fun _ _ => by kernel_rfl) (enters_of Tryz.func98 (by kernel_rfl) rfl)
  (fun W hW => (zJw P s x a b c d e f g A n cap l W h0 h2 h7 h9 hn hl1 (Kd.C_below hr hW) hc).mono fun r w' ⟨⟨q, A', c', he, hb, hx, hc'⟩, hB⟩ => ⟨⟨q, he, (zH0 q s x a b c d e f g A' _ c' (l.map zA0) id w' hb hs x0 x1 rfl hx hl hc' ga gb gc gd ge gf gg' i0 i1).mono fun _ _ hm => zBe hm⟩, hB⟩) (by simp only [zA5, List.length_append, List.length_cons, List.length_nil, zAM, zAS, zAK, zAH]; omega) (by simp) (by simp only [zA5, List.length_append, List.length_cons, List.length_nil, zAM, zAS, zAK, zAH]; omega)
 rwa [zBT, List.append_nil] at h
theorem zI4 (P : Array Value) (a b c d e f g : Int) (A : Option Addr) (n cap : Nat) (l : List S52) (w : World) (h0 : P[0]? = some (.int .i64 105)) (h9 : ∀ j v, (at8 a b c d e f g (.slice A n cap)).toList[j]? = some v → P[9 + j]? = some v)
  (hn : n = l.length) (hl : l.length ≤ 4398046511103) (hr : Kd.C k52 w A l.length l) (hc : l.length ≤ cap) :
  Calls Tryz.prog 26 #[.agg P] w fun r w' => (∃ q A' c', r = .returned (.iface 178 (.pointer (some ⟨q, 0, none⟩))) ∧ w'.heap[q]? = some (.cells #[.int .u32 a, .int .u64 b, .int .u32 c, .int .u32 d, .int .u32 e, .int .u32 f, .int .u32 g, .slice A' (l.map zA0).length c'] 180 (0, 0)) ∧ ExtAt w' w'.heap.size A' (l.map zA0) ∧ (l.map zA0).length ≤ c') ∧ Below w.heap.size w w' := by
 have EC := Lib.hid (fun (W : World) (hW : Below w.heap.size w W) => zEB a b c d e f g A n cap l W hn hl (Kd.C_below hr hW) hc)
 have hb := heap_alloc_new w (.cells P 29 (0, 0))
 have hbl : Below w.heap.size w (w.alloc (.cells P 29)) := (Below.refl _ _).alloc (Nat.le_refl _) _
 generalize hW : w.alloc (.cells P 29) = W at hb hbl
 have c0 : W.cell? ⟨w.heap.size, 0, none⟩ = some (.int .i64 105) := by rw [zAA hb]; exact h0
 have hrg : W.rangeAt w.heap.size 9 (at8 a b c d e f g (.slice A n cap)).toList := fun j v hj => by rw [zAA hb]; exact h9 j v hj
 have HB := Lib.hid hbl
 have HR := Lib.hid hrg
 have HW := Lib.hid hW
 clear hb hbl hW h0 h9 hr hn hl hc hrg
 go_enter Tryz.func26, Tryz.ntmps26
 go_wp2_with (first
  | (refine wpList_boxTo rfl 29 _ rfl (some 1) rfl w.heap.size rfl P rfl ?_; rw [HW.out])
  | (refine wpList_load_mid rfl 26 _ rfl w.heap.size 9 rfl (at8 a b c d e f g (.slice A n cap)).toList _ HR.out Tryz.underlying26 rfl (zBQ _ _ _ _ _ _ _ _) ?_; rw [Array.toArray_toList]))
 refine (EC.out _ HB.out).mono ?_
 rintro r w5 ⟨v, rfl, hR, hb5⟩
 obtain ⟨A', c', rfl, hc', hC'⟩ := Kd.R_reads hR
 have B5 := Lib.hid (HB.out.trans (hb5.mono HB.out.size))
 have HC := Lib.hid hC'
 have HZ := Lib.hid hc'
 clear hR hb5 hC' hc' HR
 generalize hn2 : (l.map zA0).length = n2 at *
 have HN2 := Lib.hid hn2
 clear hn2
 unfold at8
 go_wp2_with fail
 go_ret
 have hC := HC.out
 have hZ := HZ.out
 have hn2 := HN2.out
 subst hn2
 exact ⟨⟨_, A', c', rfl, heap_alloc_new _ _, zCS ((zBq hC).below (below_alloc w5 _) (Nat.le_refl _)) (by simp), hZ⟩, B5.out.alloc B5.out.size _⟩
theorem zH3 (P : Array Value) (a b c d e f g : Int) (A : Option Addr) (n cap : Nat) (l : List S52) (id : Int) (w : World) (hsz : P.size = 24) (h0 : P[0]? = some (.int .i64 105)) (h1 : P[1]? = some (.int .u32 id)) (h9 : ∀ j v, (at8 a b c d e f g (.slice A n cap)).toList[j]? = some v → P[9 + j]? = some v)
  (hn : n = l.length) (hl : zIY l) (hr : Kd.C k52 w A l.length l) (hc : l.length ≤ cap) (ga : zAc a) (gb : zC6 b) (gc : zAc c) (gd : zAc d) (ge : zAc e) (gf : zAc f) (gg' : zAc g) (i0 : 0 ≤ id) (i1 : id ≤ 4294967295) :
  Calls Tryz.prog 10 #[.agg P] w fun r w' => r = .returned (.tuple #[.string (bs (zA2 105 id (atB a b c d e f g (l.map zA0)))), .int .i64 0]) ∧ Below w.heap.size w w' := by
 have hl1 : l.length ≤ 4398046511103 := by have := hl.1; simp at this; omega
 have hm := zCR a b c d e f g (l.map zA0) hl
 have h := zBo P 105 178 189 id (zA5 105 id (atB a b c d e f g (l.map zA0)) 0) [] w hsz h0 rfl rfl h1 (fun _ _ => by kernel_rfl) (enters_of Tryz.func189 (by kernel_rfl) rfl)
  (fun W hW => (zI4 P a b c d e f g A n cap l W h0 h9 hn hl1 (Kd.C_below hr hW) hc).mono fun r w' ⟨⟨q, A', c', he, hb, hx, hc'⟩, hB⟩ => ⟨⟨q, he, (zGS q a b c d e f g A' _ c' (l.map zA0) id w' hb rfl hx hl hc' ga gb gc gd ge gf gg' i0 i1).mono fun _ _ hm => zBe hm⟩, hB⟩) (by simp only [zA5, List.length_append, List.length_cons, List.length_nil, zAM]; omega) (by simp) (by simp only [zA5, List.length_append, List.length_cons, List.length_nil, zAM]; omega)
 rwa [zBT, List.append_nil] at h
end Go.Proofs.YtgnficcjnijdbaaGreat
