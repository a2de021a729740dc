/-
  laws.FnAttrsForm answers true for every input, and the input reads as it did. No conditions.
-/
import Derived.Outline
import Derived.Lib.Hide
import Derived.Great.Walk
import Derived.Deep.DeepCutAuto
import Derived.Deep.QuietTactic
import Derived.BigQuiet
import Derived.OneCell
import Derived.Deep.Slices
import Derived.Deep.Fields
import Derived.ChangeSame
import Derived.ChangeArms
import Derived.WideShapes
import Derived.Test.YtmenkckgpiafiaaGreatProg
import Derived.KernelRfl
import Derived.Lib.AppendZeros
import Derived.Deep.AppendLies
import Derived.Deep.RegionHeld3
import Derived.Laws.MakeOwn
import Derived.Great.BuildSlice
import Derived.Test.YtmenkckgpiafiaaGreatRows
import Derived.ChangeSlices
import Derived.ShutString
import Derived.StillTailTactics
import Derived.Test.YtmenkckgpiafiaaGreatMF1
import Derived.Test.YtmenkckgpiafiaaGreatMF2
import Derived.Test.YtmenkckgpiafiaaGreatMF3
import Derived.Test.YtmenkckgpiafiaaGreatMF4
set_option linter.unusedVariables false
set_option linter.unusedSimpArgs false
namespace Go.Proofs.YtmenkckgpiafiaaGreat
open Go.RowKit Go.Great Go.Proofs.YtmenkckgpiafiaaGreatW.PrintWords Go.Proofs.YtmenkckgpiafiaaGreatW.PrintLast Go.Proofs.YtmenkckgpiafiaaGreatW.PrintMore Go.Proofs.YtmenkckgpiafiaaGreat.KK
/-- An extension of the program's. -/
def exOf (e : S89) : S266 := ⟨e.f0, e.f1⟩
theorem wrap_succ {i : Int} {n : Nat} (h0 : 0 ≤ i) (h : i < (n : Int)) (hn : n ≤ 4398046511104) : wrap64 (i + 1) = i + 1 := by
  unfold wrap64
  omega
theorem attrs_l0 (l : List S89) (hl : l.length ≤ 4398046511103) (a b c d e f g : Int) : ∀ (m : Nat) (k : Nat) (i : Nat) (acc : List S266), i + m = l.length → m < k → acc.length = i →
    PA.impl_attrs.l0 k l (l.length : Int) (i : Int) a b c d e f g acc = some (a, b, c, d, e, f, g, acc ++ (l.drop i).map exOf) := by
  intro m
  induction m with
  | zero =>
    intro k i acc hi hk ha
    obtain ⟨k, rfl⟩ : ∃ j, k = j + 1 := ⟨k - 1, by omega⟩
    simp only [PA.impl_attrs.l0]
    rw [if_neg (by omega), List.drop_of_length_le (by omega)]
    simp
  | succ m ih =>
    intro k i acc hi hk ha
    obtain ⟨k, rfl⟩ : ∃ j, k = j + 1 := ⟨k - 1, by omega⟩
    simp only [PA.impl_attrs.l0]
    rw [if_pos (by omega), if_pos (by omega), if_pos (by omega), if_pos (by omega), wrap_succ (by omega) (show (i : Int) < (l.length : Int) by omega) (by omega)]
    have hlt : i < l.length := by omega
    rw [show ((i : Int) + 1) = ((i + 1 : Nat) : Int) from by omega, ih k (i + 1) _ (by omega) (by omega) (by simp [ha])]
    rw [List.drop_eq_getElem_cons hlt, List.map_cons, List.append_assoc, List.singleton_append, show rd_T89 l (i : Int) = l[i] from by simp [rd_T89, List.getD_eq_getElem?_getD, List.getElem?_eq_getElem hlt]]
    rfl
theorem attrs_f (l : List S89) (hl : l.length ≤ 4398046511103) (a b c d e f g : Int) : PA.impl_attrs.f (l.length + 1) a b c d e f g l = some (a, b, c, d, e, f, g, l.map exOf) := by
  unfold PA.impl_attrs.f
  have h := attrs_l0 l hl a b c d e f g l.length (l.length + 1) 0 [] (by omega) (by omega) rfl
  simpa using h
/-- Eight cells: attributes whose extensions lie where a slice says. -/
def at8 (a b c d e f g : Int) (v : Value) : Array Value := #[.int .u32 a, .int .u64 b, .int .u32 c, .int .u32 d, .int .u32 e, .int .u32 f, .int .u32 g, v]
theorem attrsC (a b c d e f g : Int) (A : Option Addr) (n cap : Nat) (l : List S89) (w : World) (hn : n = l.length) (hl : l.length ≤ 4398046511103) (hr : Kd.C k89 w A l.length l) (hc : l.length ≤ cap) :
    Calls Tryz.prog 69 #[.agg (at8 a b c d e f g (.slice A n cap))] w fun r w' => ∃ v, r = .returned (.agg (at8 a b c d e f g v)) ∧ Kd.R k266 266 w' w.heap.size (fun _ => True) v (l.map exOf) ∧ Below w.heap.size w w' := by
  subst hn
  exact PA.impl_attrs.calls (l.length + 1) a b c d e f g A cap l a b c d e f g (l.map exOf) w hr hc (attrs_f l hl a b c d e f g)
end Go.Proofs.YtmenkckgpiafiaaGreat
namespace Go.Proofs.YtmenkckgpiafiaaGreat
open Go.RowKit Go.Great Go.Proofs.YtmenkckgpiafiaaGreatW.PrintWords Go.Proofs.YtmenkckgpiafiaaGreatW.PrintLast Go.Proofs.YtmenkckgpiafiaaGreatW.PrintMore Go.Proofs.YtmenkckgpiafiaaGreat.KK
/-- A marshalling buffer over a base; beneath the base the world is as it was. -/
def Buf (base : Nat) (w0 w : World) (g : Nat) (l : List UInt8) : Prop := ∃ v, MBuf base w g v l ∧ Below base w0 w
theorem Buf.below {base : Nat} {w0 w : World} {g : Nat} {l : List UInt8} (h : Buf base w0 w g l) : Below base w0 w := by obtain ⟨_, _, h⟩ := h; exact h
theorem Buf.step {base : Nat} {w0 w w' : World} {g : Nat} {v : Value} {l l' : List UInt8} (hb : MBuf base w g v l) (h0 : Below base w0 w) (h : ∃ v', MBuf base w' g v' l' ∧ Upd g v w w' ∧ (v'.ownBlock = v.ownBlock ∨ ∃ k, v'.ownBlock = some k ∧ w.heap.size ≤ k)) : Buf base w0 w' g l' := by
  obtain ⟨v', m, u, _⟩ := h
  exact ⟨v', m, h0.trans (hb.below u)⟩
theorem buf32 {base : Nat} {w0 w : World} {g : Nat} {l : List UInt8} (hb : Buf base w0 w g l) (x : Int) (h0 : 0 ≤ x) (h1 : x ≤ 4294967295) (hl : l.length ≤ 900000000) :
    Calls Tryz.prog 99 #[.pointer (some ⟨g, 0, none⟩), .int .u32 x] w fun e w' => e = .returned (.tuple #[]) ∧ Buf base w0 w' g (l ++ be32 x) := by
  obtain ⟨v, m, b⟩ := hb
  exact (append32 base g v l x w m h0 h1 (by omega)).mono fun e w' ⟨he, h⟩ => ⟨he, .step m b h⟩
theorem buf64 {base : Nat} {w0 w : World} {g : Nat} {l : List UInt8} (hb : Buf base w0 w g l) (x : Int) (h0 : 0 ≤ x) (h1 : x ≤ 18446744073709551615) (hl : l.length ≤ 900000000) :
    Calls Tryz.prog 100 #[.pointer (some ⟨g, 0, none⟩), .int .u64 x] w fun e w' => e = .returned (.tuple #[]) ∧ Buf base w0 w' g (l ++ be64 x) := by
  obtain ⟨v, m, b⟩ := hb
  exact (append64 base g v l x w m h0 h1 (by omega)).mono fun e w' ⟨he, h⟩ => ⟨he, .step m b h⟩
theorem bufStr {base : Nat} {w0 w : World} {g : Nat} {l : List UInt8} (hb : Buf base w0 w g l) (s : ByteArray) (hl : l.length ≤ 900000000) (hs : s.size ≤ 100000000) :
    Calls Tryz.prog 103 #[.pointer (some ⟨g, 0, none⟩), .string s] w fun e w' => e = .returned (.tuple #[]) ∧ Buf base w0 w' g (l ++ str (tl s)) := by
  obtain ⟨v, m, b⟩ := hb
  exact (appendString base g v l s w m hl hs).mono fun e w' ⟨he, h⟩ => ⟨he, .step m b h⟩
/-- Extended attributes as bytes. -/
def exB : List S266 → List UInt8
  | [] => []
  | e :: r => str (tl e.f0) ++ str (tl e.f1) ++ exB r
theorem exB_snoc (l : List S266) (e : S266) : exB (l ++ [e]) = exB l ++ (str (tl e.f0) ++ str (tl e.f1)) := by
  induction l with
  | nil => simp [exB]
  | cons a r ih => simp [exB, ih]
theorem str_len (l : List UInt8) : (str l).length = 4 + l.length := by simp [str, be32]; omega
set_option maxHeartbeats 1600000 in
/-- One extended attribute, in a block of its own. -/
theorem extInto (base g x : Nat) (v : Value) (l : List UInt8) (s1 s2 : ByteArray) (w0 w : World) (hb : MBuf base w g v l) (h0 : Below base w0 w) (hx : w.heap[x]? = some (.cells #[.string s1, .string s2] 266 (0, 0))) (hxg : x ≠ g) (hxv : v.ownBlock ≠ some x)
    (hl : l.length ≤ 800000000) (hs1 : s1.size ≤ 10000000) (hs2 : s2.size ≤ 10000000) :
    Calls Tryz.prog 146 #[.pointer (some ⟨x, 0, none⟩), .pointer (some ⟨g, 0, none⟩)] w fun e w' => e = .returned (.tuple #[]) ∧ Buf base w0 w' g (l ++ (str (tl s1) ++ str (tl s2))) := by
  have c0 : w.cell? ⟨x, 0, none⟩ = some (.string s1) := by rw [cell_of_blk hx]; rfl
  have hxs := lt_of_blk hx
  have l1 : (l ++ str (tl s1)).length ≤ 900000000 := by rw [List.length_append, str_len, tl_length]; omega
  have C := Lib.hid (appendString base g v l s1 w hb (by omega) (by omega))
  have HX := Lib.hid hx
  have HV := Lib.hid hxv
  have HB := Lib.hid hb
  have H0 := Lib.hid h0
  clear hx hxv hb h0
  go_enter Tryz.func146, Tryz.ntmps146
  go_wp2_with fail
  refine C.out.mono ?_
  rintro e w1 ⟨rfl, v1, m1, u1, o1⟩
  have hx1 := (u1.block x hxs hxg HV.out).trans HX.out
  have c1 : w1.cell? ⟨x, 1, none⟩ = some (.string s2) := by rw [cell_of_blk hx1]; rfl
  have D := Lib.hid (bufStr (w0 := w0) ⟨v1, m1, H0.out.trans (HB.out.below u1)⟩ s2 l1 (by omega))
  clear m1 u1 o1 hx1 C HX HV HB H0 c0
  go_wp2_with fail
  refine D.out.mono ?_
  rintro e w2 ⟨rfl, hb2⟩
  have B2 := Lib.hid hb2
  clear hb2 D
  go_wp2_with fail
  go_end0
  exact ⟨rfl, by have := B2.out; rwa [List.append_assoc] at this⟩
set_option maxHeartbeats 1600000 in
theorem extLen (x : Nat) (s1 s2 : ByteArray) (w : World) (hx : w.heap[x]? = some (.cells #[.string s1, .string s2] 266 (0, 0))) (hs1 : s1.size ≤ 10000000) (hs2 : s2.size ≤ 10000000) :
    Calls Tryz.prog 128 #[.pointer (some ⟨x, 0, none⟩)] w fun e w' => e = .returned (.int .i64 ((8 + s1.size + s2.size : Nat) : Int)) ∧ ∃ k, w' = w.drewN k := by
  have c0 : w.cell? ⟨x, 0, none⟩ = some (.string s1) := by rw [cell_of_blk hx]; rfl
  have c1 : w.cell? ⟨x, 1, none⟩ = some (.string s2) := by rw [cell_of_blk hx]; rfl
  clear hx
  have w1 : IntKind.i64.wrap (4 + (s1.size : Int)) = 4 + (s1.size : Int) := IntWalk.i64_in _ (by omega)
  have w2 : IntKind.i64.wrap (4 + (s1.size : Int) + 4) = 4 + (s1.size : Int) + 4 := IntWalk.i64_in _ (by omega)
  have w3 : IntKind.i64.wrap (4 + (s1.size : Int) + 4 + (s2.size : Int)) = 4 + (s1.size : Int) + 4 + (s2.size : Int) := IntWalk.i64_in _ (by omega)
  go_enter Tryz.func128, Tryz.ntmps128
  go_wp2
  go_quiet (fail)
  clear w1 w2 w3
  go_wp2
  go_ret
  exact ⟨ret_int (by omega), _, rfl⟩
end Go.Proofs.YtmenkckgpiafiaaGreat
namespace Go.Proofs.YtmenkckgpiafiaaGreat
open Go.RowKit Go.Great Go.Proofs.YtmenkckgpiafiaaGreatW.PrintWords Go.Proofs.YtmenkckgpiafiaaGreatW.PrintLast Go.Proofs.YtmenkckgpiafiaaGreatW.PrintMore Go.Proofs.YtmenkckgpiafiaaGreat.KK
/-- Is a flag set? -/
def flg (f : Int) (k : Int) : Bool := bits .and .u32 f k != 0
theorem ainfo : (Tryz.prog.info? 26).map (·.size) = some 8 := by kernel_rfl
theorem sinfo : (Tryz.prog.info? 139).map (·.size) = some 8 := by kernel_rfl
theorem ainfo8 (a b c d e f g : Int) (v : Value) : (Tryz.prog.info? 26).map (·.size) = some (at8 a b c d e f g v).size := ainfo
theorem sinfo8 (a b c d e f g : Int) (v : Value) : (Tryz.prog.info? 139).map (·.size) = some (at8 a b c d e f g v).size := sinfo
theorem one8 (a b c d e f g : Int) (A : Option Addr) (n c' : Nat) : (at8 a b c d e f g (.slice A n c')).all (·.oneCell') = true := by kernel_rfl
/-- Attributes of zeros. -/
def z8 : Array Value := at8 0 0 0 0 0 0 0 (.slice none 0 0)
end Go.Proofs.YtmenkckgpiafiaaGreat
namespace Go.Proofs.YtmenkckgpiafiaaGreat
open Go.RowKit Go.ChangeShapes Go.WideShapes Go.Deep Go.Proofs.YtmenkckgpiafiaaGreatW.PrintWords
/-- The data of a Go type read as values of a kind, of which something is known. -/
structure Opn (P : Program) (t : TypeId) {α : Type} (d : Kd α) (G : α → Prop) : Prop where
  sz : P.cellsOf t = d.sz
  out : ∀ {H : Type} {enc : TypeId × Value → H} {w : World} {base : Nat} {sp : Nat → Bool} {held : Bool} {fuel : Nat} {cs : List Value} {x : DataW H × List MemPlace}, DataW.trod enc P w base sp held fuel t cs = some x → ∃ y, d.K w y cs ∧ G y
theorem opn_int {P : Program} {t : TypeId} {k : IntKind} (ht : P.underlying t = some (.int k)) (hs : P.cellsOf t = 1) : Opn P t (Kd.int k) (fun y => (Lit.int k y).wf = true) :=
  ⟨hs, fun h => by
    obtain ⟨n, rfl, _, hw⟩ := DataW.trod_int ht h
    exact ⟨n, rfl, hw⟩⟩
theorem opn_str {P : Program} {t : TypeId} (ht : P.underlying t = some .string) (hs : P.cellsOf t = 1) : Opn P t Kd.string (fun y => y.size ≤ maxLen) :=
  ⟨hs, fun h => by
    obtain ⟨s, rfl, _, hw⟩ := DataW.trod_string ht h
    exact ⟨s, rfl, hw⟩⟩
theorem opn_slice {P : Program} {t e : TypeId} {α : Type} {d : Kd α} {G : α → Prop} (ht : P.underlying t = some (.slice e)) (hs : P.cellsOf t = 1) (he : Opn P e d G) :
    Opn P t (Kd.slice e d) (fun l => l.length ≤ maxLen ∧ ∀ y ∈ l, G y) :=
  ⟨hs, fun {H enc w base sp held fuel cs x} h => by
    rcases open_slice ht h with ⟨rfl, _⟩ | ⟨a, len, cap, m, n, D, Pl, rfl, _, hl, hm, hmm, _, hi⟩
    · exact ⟨[], ⟨none, 0, rfl, Nat.le_refl _, rfl, by simp, fun h => by simp at h⟩, by simp, by simp⟩
    · have hlm : len ≤ m := by rw [hmm]; split <;> omega
      have key : ∀ j, j ≤ len → ∃ ys : List α, ys.length = j ∧ (∀ y ∈ ys, G y) ∧ ∀ i p, ys[i]? = some p → ∃ c, c.length = d.sz ∧ d.K w p c ∧ ∀ q u, c[q]? = some u → w.cell? (a.add (i * d.sz + q)) = some u := by
        intro j
        induction j with
        | zero => exact fun _ => ⟨[], rfl, by simp, fun i p hp => by simp at hp⟩
        | succ j ih =>
          intro hj
          obtain ⟨ys, hlen, hG, hc⟩ := ih (by omega)
          obtain ⟨cs', h1, h2⟩ := hi j (by omega)
          obtain ⟨y, hK, hy⟩ := he.out h2
          refine ⟨ys ++ [y], by simp [hlen], fun z hz => ?_, fun i p hp => ?_⟩
          · rcases List.mem_append.1 hz with hz | hz
            · exact hG z hz
            · rw [List.mem_singleton.1 hz]; exact hy
          · rcases Nat.lt_or_ge i ys.length with hlt | hge
            · rw [List.getElem?_append_left hlt] at hp
              exact hc i p hp
            · rw [List.getElem?_append_right hge] at hp
              have h0 : i - ys.length = 0 := by
                have := (List.getElem?_eq_some_iff.1 hp).1
                simp at this
                omega
              rw [h0] at hp
              simp at hp
              subst hp
              have hij : i = j := by omega
              subst hij
              rw [he.sz] at h1
              obtain ⟨_, hcl, hat⟩ := World.cells?_some h1
              refine ⟨cs', hcl, hK, fun q u hq => ?_⟩
              have hql := (List.getElem?_eq_some_iff.1 hq).1
              have := hat q (by omega)
              rw [← Go.Deep.add_add, this, hq]
      obtain ⟨ys, hlen, hG, hc⟩ := key len (Nat.le_refl _)
      exact ⟨ys, ⟨some a, cap, by rw [hlen], by omega, by rw [hlen], by rw [hlen]; simp only [maxLen] at hm; omega, fun _ => ⟨a, rfl, hc⟩⟩, by omega, hG⟩⟩
/-- A struct's fields, one behind the other, from an offset on. -/
def FOpn (P : Program) (fs : List Field) (off : Nat) {α : Type} (d : Kd α) (G : α → Prop) : Prop :=
  ∀ {H : Type} {enc : TypeId × Value → H} {w : World} {base : Nat} {sp : Nat → Bool} {held : Bool} {n : Nat} (cs : List Value) (xs : List (DataW H × List MemPlace)),
    (∀ (i : Nat) (f : Field), fs[i]? = some f → DataW.trod enc P w base sp held n f.type ((cs.drop f.offset).take (P.cellsOf f.type)) = xs[i]?) → xs.length = fs.length → cs.length = off + d.sz → ∃ y, d.K w y (cs.drop off) ∧ G y
theorem fopn_one {P : Program} {f : Field} {off : Nat} {α : Type} {d : Kd α} {G : α → Prop} (ho : f.offset = off) (h : Opn P f.type d G) : FOpn P [f] off d G := by
  intro H enc w base sp held n cs xs hx hl hc
  have h0 := hx 0 f rfl
  rw [ho, h.sz] at h0
  match xs, hl with
  | [x], _ =>
    obtain ⟨y, hK, hG⟩ := h.out (h0.trans rfl)
    rw [List.take_of_length_le (by rw [List.length_drop]; omega)] at hK
    exact ⟨y, hK, hG⟩
theorem fopn_cons {P : Program} {f : Field} {fs : List Field} {off : Nat} {α β : Type} {a : Kd α} {b : Kd β} {Ga : α → Prop} {Gb : β → Prop} (ho : f.offset = off) (h : Opn P f.type a Ga) (hr : FOpn P fs (off + a.sz) b Gb) :
    FOpn P (f :: fs) off (Kd.pair a b) (fun x => Ga x.1 ∧ Gb x.2) := by
  intro H enc w base sp held n cs xs hx hl hc
  have h0 := hx 0 f rfl
  rw [ho, h.sz] at h0
  match xs, hl with
  | x :: xs, hl =>
    obtain ⟨y, hK, hG⟩ := h.out (h0.trans rfl)
    obtain ⟨z, hK2, hG2⟩ := hr cs xs (fun i g hg => hx (i + 1) g hg) (by simpa using hl) (by rw [hc]; show off + (a.sz + b.sz) = _; omega)
    refine ⟨(y, z), ⟨_, _, ?_, hK, hK2⟩, hG, hG2⟩
    rw [← List.drop_drop, List.take_append_drop]
theorem opn_struct {P : Program} {t : TypeId} {fs : Array Field} {α : Type} {d : Kd α} {G : α → Prop} (ht : P.underlying t = some (.struct fs)) (hs : P.cellsOf t = d.sz) (h : FOpn P fs.toList 0 d G) : Opn P t d G :=
  ⟨hs, fun hx => by
    obtain ⟨xs, n, _, _, hcl, hxl, hf⟩ := DataW.trod_struct ht hx
    obtain ⟨y, hK, hG⟩ := h _ xs (fun i f hif => hf i f (by simpa using hif)) (by simpa using hxl) (by rw [hcl, hs]; omega)
    exact ⟨y, hK, hG⟩⟩
theorem Opn.iso {P : Program} {t : TypeId} {α β : Type} {d : Kd α} {G : α → Prop} (h : Opn P t d G) (f : β → α) (g : α → β) (hfg : ∀ a, f (g a) = a) : Opn P t (Kd.iso d f) (fun y => G (f y)) :=
  ⟨h.sz, fun hx => by
    obtain ⟨y, hK, hG⟩ := h.out hx
    refine ⟨g y, ?_, by rw [hfg]; exact hG⟩
    show d.K _ (f (g y)) _
    rw [hfg]
    exact hK⟩
theorem Opn.mono {P : Program} {t : TypeId} {α : Type} {d : Kd α} {G G' : α → Prop} (h : Opn P t d G) (hg : ∀ y, G y → G' y) : Opn P t d G' :=
  ⟨h.sz, fun hx => by
    obtain ⟨y, hK, hG⟩ := h.out hx
    exact ⟨y, hK, hg y hG⟩⟩
end Go.Proofs.YtmenkckgpiafiaaGreat
namespace Go.Proofs.YtmenkckgpiafiaaGreat
open Go.RowKit Go.Proofs.YtmenkckgpiafiaaGreatW.PrintWords Go.Proofs.YtmenkckgpiafiaaGreat.KK
def gU32 (y : Int) : Prop := 0 ≤ y ∧ y ≤ 4294967295
def gU64 (y : Int) : Prop := 0 ≤ y ∧ y ≤ 18446744073709551615
def gStr (s : ByteArray) : Prop := s.size ≤ maxLen
def gExt (e : S89) : Prop := gStr e.f0 ∧ gStr e.f1
def gExts (l : List S89) : Prop := l.length ≤ maxLen ∧ ∀ e ∈ l, gExt e
def gAttrs (a : S26) : Prop := gU32 a.f0 ∧ gU64 a.f1 ∧ gU32 a.f2 ∧ gU32 a.f3 ∧ gU32 a.f4 ∧ gU32 a.f5 ∧ gU32 a.f6 ∧ gExts a.f7
theorem opnU32 : Opn Tryz.prog 22 (Kd.int .u32) gU32 := (opn_int Tryz.underlying22 (by kernel_rfl)).mono fun y h => by simpa [gU32, Lit.wf, IntKind.min, IntKind.max, IntKind.signed, IntKind.bits] using h
theorem opnU64 : Opn Tryz.prog 23 (Kd.int .u64) gU64 := (opn_int Tryz.underlying23 (by kernel_rfl)).mono fun y h => by simpa [gU64, Lit.wf, IntKind.min, IntKind.max, IntKind.signed, IntKind.bits] using h
theorem opnStr : Opn Tryz.prog 9 Kd.string gStr := (opn_str Tryz.underlying9 (by kernel_rfl)).mono fun _ h => h
theorem opnExt : Opn Tryz.prog 89 k89 gExt := by
  have o := (opn_struct Tryz.underlying89 (by kernel_rfl) (fopn_cons rfl opnStr (fopn_one rfl opnStr))).iso (β := S89) (fun x => (x.f0, x.f1)) (fun a => ⟨a.1, a.2⟩) (fun _ => rfl)
  exact o.mono fun _ h => h
theorem opnExts : Opn Tryz.prog 24 (Kd.slice 89 k89) gExts := (opn_slice Tryz.underlying24 (by kernel_rfl) opnExt).mono fun _ h => h
theorem opnAttrs : Opn Tryz.prog 26 k26 gAttrs := by
  have o := (opn_struct Tryz.underlying26 (by kernel_rfl) (fopn_cons rfl opnU32 (fopn_cons rfl opnU64 (fopn_cons rfl opnU32 (fopn_cons rfl opnU32 (fopn_cons rfl opnU32 (fopn_cons rfl opnU32 (fopn_cons rfl opnU32 (fopn_one rfl opnExts))))))))).iso (β := S26) (fun x => (x.f0, x.f1, x.f2, x.f3, x.f4, x.f5, x.f6, x.f7)) (fun a => ⟨a.1, a.2.1, a.2.2.1, a.2.2.2.1, a.2.2.2.2.1, a.2.2.2.2.2.1, a.2.2.2.2.2.2.1, a.2.2.2.2.2.2.2⟩) (fun _ => rfl)
  exact o.mono fun _ h => h
end Go.Proofs.YtmenkckgpiafiaaGreat
namespace Go.Proofs.YtmenkckgpiafiaaGreat
open Go.RowKit Go.Great Go.Proofs.YtmenkckgpiafiaaGreatW.PrintWords Go.Proofs.YtmenkckgpiafiaaGreatW.PrintLast Go.Proofs.YtmenkckgpiafiaaGreatW.PrintMore Go.Proofs.YtmenkckgpiafiaaGreat.KK
/-- Attributes' eight cells at a place. -/
structure At8 (w : World) (q o : Nat) (a b c d e f g : Int) (v : Value) : Prop where
  c0 : w.cell? ⟨q, o, none⟩ = some (.int .u32 a)
  c1 : w.cell? ⟨q, o + 1, none⟩ = some (.int .u64 b)
  c2 : w.cell? ⟨q, o + 2, none⟩ = some (.int .u32 c)
  c3 : w.cell? ⟨q, o + 3, none⟩ = some (.int .u32 d)
  c4 : w.cell? ⟨q, o + 4, none⟩ = some (.int .u32 e)
  c5 : w.cell? ⟨q, o + 5, none⟩ = some (.int .u32 f)
  c6 : w.cell? ⟨q, o + 6, none⟩ = some (.int .u32 g)
  c7 : w.cell? ⟨q, o + 7, none⟩ = some v
theorem At8.kept {w w' : World} {q o : Nat} {a b c d e f g : Int} {v : Value} (h : At8 w q o a b c d e f g v) (hk : w'.heap[q]? = w.heap[q]?) : At8 w' q o a b c d e f g v := by
  have k : ∀ i, w'.cell? ⟨q, i, none⟩ = w.cell? ⟨q, i, none⟩ := fun i => cell_kept hk
  exact ⟨by rw [k]; exact h.c0, by rw [k]; exact h.c1, by rw [k]; exact h.c2, by rw [k]; exact h.c3, by rw [k]; exact h.c4, by rw [k]; exact h.c5, by rw [k]; exact h.c6, by rw [k]; exact h.c7⟩
theorem At8.lt {w : World} {q o : Nat} {a b c d e f g : Int} {v : Value} (h : At8 w q o a b c d e f g v) : q < w.heap.size := World.block_lt_of_cell? w _ h.c0
theorem At8.below {w w' : World} {B q o : Nat} {a b c d e f g : Int} {v : Value} (h : At8 w q o a b c d e f g v) (hb : Below B w w') (hq : q < B) : At8 w' q o a b c d e f g v := h.kept (hb.block q hq)
/-- Attributes as bytes, part by part. -/
def p1 (a b : Int) : List UInt8 := if flg a 1 then be64 b else []
def p2 (a c d : Int) : List UInt8 := if flg a 2 then be32 c ++ be32 d else []
def p4 (a e : Int) : List UInt8 := if flg a 4 then be32 e else []
def p8 (a f g : Int) : List UInt8 := if flg a 8 then be32 f ++ be32 g else []
def pX (a : Int) (l : List S266) : List UInt8 := if flg a 2147483648 then be32 (l.length : Int) ++ exB l else []
def atB (a b c d e f g : Int) (l : List S266) : List UInt8 := be32 a ++ (p1 a b ++ (p2 a c d ++ (p4 a e ++ (p8 a f g ++ pX a l))))
theorem be32_len (x : Int) : (be32 x).length = 4 := rfl
/-- Elements of extended attributes that lie in memory. -/
def ExtAt (w : World) (B : Nat) (A : Option Addr) (l : List S266) : Prop :=
  l = [] ∨ ∃ x p, A = some ⟨x, p, none⟩ ∧ x < B ∧ ∀ k e, l[k]? = some e → w.cell? ⟨x, p + k * 2, none⟩ = some (.string e.f0) ∧ w.cell? ⟨x, p + k * 2 + 1, none⟩ = some (.string e.f1)
theorem ExtAt.below {w w' : World} {B B' : Nat} {A : Option Addr} {l : List S266} (h : ExtAt w B A l) (hb : Below B' w w') (hB : B ≤ B') : ExtAt w' B A l := by
  rcases h with h | ⟨x, p, hA, hx, h⟩
  · exact .inl h
  · refine .inr ⟨x, p, hA, hx, fun k e he => ?_⟩
    have k2 : ∀ i, w'.cell? ⟨x, i, none⟩ = w.cell? ⟨x, i, none⟩ := fun i => cell_kept (hb.block x (by omega))
    rw [k2, k2]
    exact h k e he
def gEx (l : List S266) : Prop := l.length ≤ 1000000 ∧ (exB l).length ≤ 10000000 ∧ ∀ e ∈ l, e.f0.size ≤ 10000000 ∧ e.f1.size ≤ 10000000
theorem MBuf.alloc {base g : Nat} {w : World} {v : Value} {l : List UInt8} (hb : MBuf base w g v l) (o : Obj) : MBuf base (w.alloc o) g v l :=
  ⟨(heap_alloc_old _ _ (lt_of_blk hb.blk)).trans hb.blk, hb.own.alloc o, hb.le, hb.ne⟩
theorem exB_take (l : List S266) (k : Nat) : (exB (l.take k)).length ≤ (exB l).length := by
  have h : ∀ a b : List S266, exB (a ++ b) = exB a ++ exB b := by
    intro a b
    induction a with
    | nil => rfl
    | cons e r ih => simp [exB, ih]
  conv => rhs; rw [← List.take_append_drop k l, h, List.length_append]
  omega
theorem plen (a b c d e f g : Int) : (p1 a b).length ≤ 8 ∧ (p2 a c d).length ≤ 8 ∧ (p4 a e).length ≤ 4 ∧ (p8 a f g).length ≤ 8 := by
  unfold p1 p2 p4 p8
  refine ⟨?_, ?_, ?_, ?_⟩ <;> split <;> simp [be64, be32]
set_option maxRecDepth 100000 in
set_option maxHeartbeats 4000000 in
theorem attrsInto (base gg q o : Nat) (L : List UInt8) (a b c d e f g : Int) (A : Option Addr) (n cap : Nat) (l : List S266) (w : World) (hb : Buf base w w gg L) (hL : L.length ≤ 100000000) (hbs : base ≤ w.heap.size) (hq : q < base)
    (h8 : At8 w q o a b c d e f g (.slice A n cap)) (hn : n = l.length) (hx : ExtAt w base A l) (hl : gEx l) (hcap : l.length ≤ cap)
    (ga : gU32 a) (gb : gU64 b) (gc : gU32 c) (gd : gU32 d) (ge : gU32 e) (gf : gU32 f) (gg' : gU32 g) :
    Calls Tryz.prog 123 #[.pointer (some ⟨q, o, none⟩), .pointer (some ⟨gg, 0, none⟩)] w fun r w' => r = .returned (.tuple #[]) ∧ Buf base w w' gg (L ++ atB a b c d e f g l) := by
  have c0 := h8.c0
  have H8 := Lib.hid h8
  have HX := Lib.hid hx
  have HB := Lib.hid hb
  have HL := Lib.hid hl
  have HN := Lib.hid hn
  obtain ⟨ga0, ga1⟩ := ga
  obtain ⟨gb0, gb1⟩ := gb
  obtain ⟨gc0, gc1⟩ := gc
  obtain ⟨gd0, gd1⟩ := gd
  obtain ⟨ge0, ge1⟩ := ge
  obtain ⟨gf0, gf1⟩ := gf
  obtain ⟨gg0, gg1⟩ := gg'
  clear h8 hx hb hl hn
  go_enter Tryz.func123, Tryz.ntmps123
  go_wp2_with fail
  refine (buf32 HB.out a ga0 ga1 (by omega)).mono ?_
  rintro r w1 ⟨rfl, hb1⟩
  have B1 := Lib.hid hb1
  have d0 := (H8.out.below hb1.below hq).c0
  have d1 := (H8.out.below hb1.below hq).c1
  clear hb1 HB c0
  go_upto_if 17 with (fail)
  go_cut [] (fun wx => Buf base w wx gg (L ++ be32 a ++ p1 a b))
  case first =>
    cases hf : (bits .and .u32 a 1 != 0) with
    | true =>
      have E := Lib.hid (show p1 a b = be64 b by unfold p1 flg; rw [hf]; rfl)
      go_wp2_with fail
      refine (buf64 B1.out b gb0 gb1 (by simp [be32_len]; omega)).mono ?_
      rintro r w2 ⟨rfl, hb2⟩
      have B2 := Lib.hid hb2
      clear hb2
      go_wp2_with fail
      go_meet
      rw [E.out]
      exact B2.out
    | false =>
      have E := Lib.hid (show p1 a b = [] by unfold p1 flg; rw [hf]; rfl)
      go_wp2_with fail
      go_meet
      rw [E.out, List.append_nil]
      exact B1.out
  case rest =>
    obtain ⟨W1, rfl⟩ : ∃ W : World, W = wc := ⟨_, rfl⟩
    have B1 := Lib.hid hcut
    have k1 := H8.out.below hcut.below hq
    have d0 := k1.c0
    have d2 := k1.c2
    have hlen1 : (L ++ be32 a ++ p1 a b).length ≤ 100000000 + 24 := by simp only [List.length_append, be32_len]; have := plen a b c d e f g; omega
    clear hcut
    go_upto_if 29 with (fail)
    go_cut [] (fun wx => Buf base w wx gg (L ++ be32 a ++ p1 a b ++ p2 a c d))
    case first =>
      cases hf : (bits .and .u32 a 2 != 0) with
      | true =>
        have E := Lib.hid (show p2 a c d = be32 c ++ be32 d by unfold p2 flg; rw [hf]; rfl)
        go_wp2_with fail
        refine (buf32 B1.out c gc0 gc1 (by omega)).mono ?_
        rintro r w2 ⟨rfl, hb2⟩
        have B2 := Lib.hid hb2
        have e3 := (H8.out.below hb2.below hq).c3
        clear hb2
        go_wp2_with fail
        refine (buf32 B2.out d gd0 gd1 (by simp only [List.length_append, be32_len] at hlen1 ⊢; omega)).mono ?_
        rintro r w3 ⟨rfl, hb3⟩
        have B3 := Lib.hid hb3
        clear hb3
        go_wp2_with fail
        go_meet
        rw [E.out, ← List.append_assoc]
        exact B3.out
      | false =>
        have E := Lib.hid (show p2 a c d = [] by unfold p2 flg; rw [hf]; rfl)
        go_wp2_with fail
        go_meet
        rw [E.out, List.append_nil]
        exact B1.out
    case rest =>
      obtain ⟨W2, rfl⟩ : ∃ W : World, W = wc := ⟨_, rfl⟩
      have B2 := Lib.hid hcut
      have k2 := H8.out.below hcut.below hq
      have d0 := k2.c0
      have d4 := k2.c4
      have hlen2 : (L ++ be32 a ++ p1 a b ++ p2 a c d).length ≤ 100000000 + 48 := by simp only [List.length_append, be32_len]; have := plen a b c d e f g; omega
      clear hcut
      go_upto_if 47 with (fail)
      go_cut [] (fun wx => Buf base w wx gg (L ++ be32 a ++ p1 a b ++ p2 a c d ++ p4 a e))
      case first =>
        cases hf : (bits .and .u32 a 4 != 0) with
        | true =>
          have E := Lib.hid (show p4 a e = be32 e by unfold p4 flg; rw [hf]; rfl)
          go_wp2_with fail
          refine (buf32 B2.out e ge0 ge1 (by omega)).mono ?_
          rintro r w2 ⟨rfl, hb2⟩
          have B2 := Lib.hid hb2
          clear hb2
          go_wp2_with fail
          go_meet
          rw [E.out]
          exact B2.out
        | false =>
          have E := Lib.hid (show p4 a e = [] by unfold p4 flg; rw [hf]; rfl)
          go_wp2_with fail
          go_meet
          rw [E.out, List.append_nil]
          exact B2.out
      case rest =>
        obtain ⟨W3, rfl⟩ : ∃ W : World, W = wc := ⟨_, rfl⟩
        have B3 := Lib.hid hcut
        have k3 := H8.out.below hcut.below hq
        have d0 := k3.c0
        have d5 := k3.c5
        have hlen3 : (L ++ be32 a ++ p1 a b ++ p2 a c d ++ p4 a e).length ≤ 100000000 + 72 := by simp only [List.length_append, be32_len]; have := plen a b c d e f g; omega
        clear hcut
        go_upto_if 59 with (fail)
        go_cut [] (fun wx => Buf base w wx gg (L ++ be32 a ++ p1 a b ++ p2 a c d ++ p4 a e ++ p8 a f g))
        case first =>
          cases hf : (bits .and .u32 a 8 != 0) with
          | true =>
            have E := Lib.hid (show p8 a f g = be32 f ++ be32 g by unfold p8 flg; rw [hf]; rfl)
            go_wp2_with fail
            refine (buf32 B3.out f gf0 gf1 (by omega)).mono ?_
            rintro r w2 ⟨rfl, hb2⟩
            have B2 := Lib.hid hb2
            have e6 := (H8.out.below hb2.below hq).c6
            clear hb2
            go_wp2_with fail
            refine (buf32 B2.out g gg0 gg1 (by simp only [List.length_append, be32_len] at hlen3 ⊢; omega)).mono ?_
            rintro r w3 ⟨rfl, hb3⟩
            have B3 := Lib.hid hb3
            clear hb3
            go_wp2_with fail
            go_meet
            rw [E.out, ← List.append_assoc]
            exact B3.out
          | false =>
            have E := Lib.hid (show p8 a f g = [] by unfold p8 flg; rw [hf]; rfl)
            go_wp2_with fail
            go_meet
            rw [E.out, List.append_nil]
            exact B3.out
        case rest =>
          obtain ⟨W4, rfl⟩ : ∃ W : World, W = wc := ⟨_, rfl⟩
          have B4 := Lib.hid hcut
          have k4 := H8.out.below hcut.below hq
          have d0 := k4.c0
          have d7 := k4.c7
          have hlen4 : (L ++ be32 a ++ p1 a b ++ p2 a c d ++ p4 a e ++ p8 a f g).length ≤ 100000000 + 96 := by simp only [List.length_append, be32_len]; have := plen a b c d e f g; omega
          clear hcut
          generalize hP : L ++ be32 a ++ p1 a b ++ p2 a c d ++ p4 a e ++ p8 a f g = P at *
          have HP := Lib.hid hP
          clear hP
          cases hf : (bits .and .u32 a 2147483648 != 0) with
          | false =>
            have E := Lib.hid (show L ++ atB a b c d e f g l = P by
              rw [← HP.out]
              unfold atB
              rw [show pX a l = [] from by unfold pX flg; rw [hf]; rfl]
              simp only [List.append_assoc, List.append_nil])
            go_wp2_with fail
            go_end0
            exact ⟨rfl, by rw [E.out]; exact B4.out⟩
          | true =>
            have E := Lib.hid (show L ++ atB a b c d e f g l = P ++ be32 (l.length : Int) ++ exB l by
              rw [← HP.out]
              unfold atB
              rw [show pX a l = be32 (l.length : Int) ++ exB l from by unfold pX flg; rw [hf]; rfl]
              simp only [List.append_assoc])
            clear HP
            obtain ⟨hl1, hl2, hl3⟩ := HL.out
            have hnn := HN.out
            have n1 : (n : Int) ≤ 1000000 := by omega
            have n2 : n ≤ 1000000 := by omega
            clear hnn
            go_wp2_with fail
            refine (buf32 B4.out (n : Int) (by omega) (by omega) (by omega)).mono ?_
            rintro r w2 ⟨rfl, hb2⟩
            have B2 := Lib.hid hb2
            have e7 := (H8.out.below hb2.below hq).c7
            clear hb2
            go_wp2_with fail
            have hlx : (P ++ be32 (n : Int)).length ≤ 110000000 := by simp only [List.length_append, be32_len]; omega
            have E2 := Lib.hid (show L ++ atB a b c d e f g l = P ++ be32 (n : Int) ++ exB l by rw [E.out, HN.out])
            clear E B4 k4 d7 e7 hlen4
            generalize P ++ be32 (n : Int) = P2 at *
            rcases HX.out with hx | ⟨x, p, rfl, hx, hc⟩
            · subst hx
              have hn0 : n = 0 := HN.out
              subst hn0
              go_loopw [91] (fun i wr => i = .int .i64 ((0 : Nat) : Int) ∧ Hid (Buf base w wr gg P2)) (fun _ _ => 0)
              case atStart => exact ⟨rfl, B2⟩
              case round =>
                obtain ⟨rfl, HR⟩ := hrel
                go_wp2_with fail
                go_end0
                exact ⟨rfl, by rw [E2.out]; simpa [exB] using HR.out⟩
            · have HC := Lib.hid hc
              clear hc
              go_loopw [91] (fun i wr => ∃ k : Nat, k ≤ n ∧ i = .int .i64 (k : Int) ∧ Hid (Buf base w wr gg (P2 ++ exB (l.take k)))) (fun i _ => n - (intOf i).toNat)
              case atStart => exact ⟨0, Nat.zero_le _, rfl, Lib.hid (by simpa [exB] using B2.out)⟩
              case round =>
                obtain ⟨k, hk, rfl, HR⟩ := hrel
                by_cases hlt : k < n
                · have hkl : k < l.length := by have := HN.out; omega
                  have he : l[k]? = some l[k] := List.getElem?_eq_getElem hkl
                  obtain ⟨g1, g2⟩ := HC.out k _ he
                  obtain ⟨hs1, hs2⟩ := hl3 _ (List.getElem_mem hkl)
                  have ht : l.take (k + 1) = l.take k ++ [l[k]] := List.take_succ_eq_append_getElem hkl
                  have hpre : (exB (l.take k)).length ≤ (exB l).length := exB_take l k
                  have HT := Lib.hid (show P2 ++ exB (l.take (k + 1)) = P2 ++ exB (l.take k) ++ (str (tl l[k].f0) ++ str (tl l[k].f1)) by rw [ht, exB_snoc, List.append_assoc])
                  obtain ⟨v, m, b⟩ := HR.out
                  have kx : ∀ i, wr.cell? ⟨x, i, none⟩ = w.cell? ⟨x, i, none⟩ := fun i => cell_kept (b.block x hx)
                  rw [← kx] at g1 g2
                  have hlen5 : (P2 ++ exB (l.take k)).length ≤ 800000000 := by rw [List.length_append]; omega
                  generalize P2 ++ exB (l.take k) = P3 at *
                  generalize l[k].f0 = s1 at *
                  generalize l[k].f1 = s2 at *
                  have M := Lib.hid m
                  have B := Lib.hid b
                  clear he ht m b kx HR hpre
                  go_wp2_with fail
                  have hnew := heap_alloc_new wr (.cells #[.string s1, .string s2] 266 (0, 0))
                  have hgl := lt_of_blk M.out.blk
                  refine (extInto base gg wr.heap.size v P3 s1 s2 w _ (M.out.alloc _) (B.out.alloc (by have := M.out.baseLe; omega) _) hnew (by omega) (own_ne_size M.out.own (Nat.le_refl _)) (by omega) hs1 hs2).mono ?_
                  rintro r w4 ⟨rfl, hb4⟩
                  rw [← HT.out] at hb4
                  have B5 := Lib.hid hb4
                  clear hb4 hnew M B
                  go_wp2_with fail
                  go_roundw
                  case rel => exact ⟨k + 1, by omega, by go_num, B5⟩
                  case measure => simp [intOf]; omega
                · obtain rfl : k = n := by omega
                  have hfull : l.take k = l := List.take_of_length_le (by have := HN.out; omega)
                  rw [hfull] at HR
                  clear hfull
                  go_wp2_with fail
                  go_end0
                  exact ⟨rfl, by rw [E2.out]; exact HR.out⟩
end Go.Proofs.YtmenkckgpiafiaaGreat
namespace Go.Proofs.YtmenkckgpiafiaaGreat
open Go.RowKit Go.Great Go.Proofs.YtmenkckgpiafiaaGreatW.PrintWords Go.Proofs.YtmenkckgpiafiaaGreatW.PrintLast Go.Proofs.YtmenkckgpiafiaaGreatW.PrintMore Go.Proofs.YtmenkckgpiafiaaGreat.KK
theorem v_int {k : IntKind} {a b : Int} (h : a = b) : Value.int k a = .int k b := by rw [h]
set_option maxRecDepth 100000 in
set_option maxHeartbeats 4000000 in
theorem attrsLen (base q o : Nat) (a b c d e f g : Int) (A : Option Addr) (n cap : Nat) (l : List S266) (w : World) (hbs : base ≤ w.heap.size) (hq : q < base)
    (h8 : At8 w q o a b c d e f g (.slice A n cap)) (hn : n = l.length) (hx : ExtAt w base A l) (hl : gEx l) (hcap : l.length ≤ cap) :
    Calls Tryz.prog 85 #[.pointer (some ⟨q, o, none⟩)] w fun r w' => r = .returned (.int .i64 (((atB a b c d e f g l).length : Nat) : Int)) ∧ Below base w w' := by
  have d0 := h8.c0
  have d7 := h8.c7
  have HX := Lib.hid hx
  have HL := Lib.hid hl
  have HN := Lib.hid hn
  have pl := plen a b c d e f g
  clear h8 hx hl hn
  go_enter Tryz.func85, Tryz.ntmps85
  go_upto_if 11 with (fail)
  go_cut [3] (fun s3 wx => s3 = .int .i64 ((4 + (p1 a b).length : Nat) : Int) ∧ w = wx)
  case first =>
    cases hf : (bits .and .u32 a 1 != 0) with
    | true =>
      have E := Lib.hid (show (p1 a b).length = 8 by unfold p1 flg; rw [hf]; rfl)
      go_wp2_with fail
      go_meet
      exact ⟨v_int (by rw [E.out]; omega), rfl⟩
    | false =>
      have E := Lib.hid (show (p1 a b).length = 0 by unfold p1 flg; rw [hf]; rfl)
      go_wp2_with fail
      go_meet
      exact ⟨v_int (by rw [E.out]; omega), rfl⟩
  case rest =>
    obtain ⟨rfl, rfl⟩ := hcut
    go_upto_if 19 with (fail)
    go_cut [3] (fun s3 wx => s3 = .int .i64 ((4 + (p1 a b).length + (p2 a c d).length : Nat) : Int) ∧ w = wx)
    case first =>
      cases hf : (bits .and .u32 a 2 != 0) with
      | true =>
        have E := Lib.hid (show (p2 a c d).length = 8 by unfold p2 flg; rw [hf]; rfl)
        go_wp2_with fail
        go_meet
        exact ⟨v_int (by rw [E.out]; omega), rfl⟩
      | false =>
        have E := Lib.hid (show (p2 a c d).length = 0 by unfold p2 flg; rw [hf]; rfl)
        go_wp2_with fail
        go_meet
        exact ⟨v_int (by rw [E.out]; omega), rfl⟩
    case rest =>
      obtain ⟨rfl, rfl⟩ := hcut
      go_upto_if 27 with (fail)
      go_cut [3] (fun s3 wx => s3 = .int .i64 ((4 + (p1 a b).length + (p2 a c d).length + (p4 a e).length : Nat) : Int) ∧ w = wx)
      case first =>
        cases hf : (bits .and .u32 a 4 != 0) with
        | true =>
          have E := Lib.hid (show (p4 a e).length = 4 by unfold p4 flg; rw [hf]; rfl)
          go_wp2_with fail
          go_meet
          exact ⟨v_int (by rw [E.out]; omega), rfl⟩
        | false =>
          have E := Lib.hid (show (p4 a e).length = 0 by unfold p4 flg; rw [hf]; rfl)
          go_wp2_with fail
          go_meet
          exact ⟨v_int (by rw [E.out]; omega), rfl⟩
      case rest =>
        obtain ⟨rfl, rfl⟩ := hcut
        go_upto_if 35 with (fail)
        go_cut [3] (fun s3 wx => s3 = .int .i64 ((4 + (p1 a b).length + (p2 a c d).length + (p4 a e).length + (p8 a f g).length : Nat) : Int) ∧ w = wx)
        case first =>
          cases hf : (bits .and .u32 a 8 != 0) with
          | true =>
            have E := Lib.hid (show (p8 a f g).length = 8 by unfold p8 flg; rw [hf]; rfl)
            go_wp2_with fail
            go_meet
            exact ⟨v_int (by rw [E.out]; omega), rfl⟩
          | false =>
            have E := Lib.hid (show (p8 a f g).length = 0 by unfold p8 flg; rw [hf]; rfl)
            go_wp2_with fail
            go_meet
            exact ⟨v_int (by rw [E.out]; omega), rfl⟩
        case rest =>
          obtain ⟨rfl, rfl⟩ := hcut
          obtain ⟨T, hT⟩ : ∃ T : Nat, 4 + (p1 a b).length + (p2 a c d).length + (p4 a e).length + (p8 a f g).length = T := ⟨_, rfl⟩
          rw [hT]
          have hTb : T ≤ 40 := by omega
          have HT := Lib.hid hT
          clear hT pl
          have hat : ∀ m, T + m = (atB a b c d e f g l).length ↔ m = (pX a l).length := by
            intro m
            unfold atB
            simp only [List.length_append, be32_len]
            have := HT.out
            omega
          have HA := Lib.hid hat
          clear hat HT
          cases hf : (bits .and .u32 a 2147483648 != 0) with
          | false =>
            have E := Lib.hid (show T = (atB a b c d e f g l).length from (HA.out 0).2 (by unfold pX flg; rw [hf]; rfl))
            go_wp2_with fail
            go_ret
            exact ⟨ret_int (by rw [E.out]), Below.refl _ _⟩
          | true =>
            have E := Lib.hid (show T + (4 + (exB l).length) = (atB a b c d e f g l).length from (HA.out _).2 (by unfold pX flg; rw [hf]; simp [be32_len]))
            obtain ⟨hl1, hl2, hl3⟩ := HL.out
            have hnn := HN.out
            have n1 : (n : Int) ≤ 1000000 := by omega
            have n2 : n ≤ 1000000 := by omega
            clear hnn
            go_wp2_with fail
            rcases HX.out with hx | ⟨x, p, rfl, hx, hc⟩
            · subst hx
              have hn0 : n = 0 := HN.out
              subst hn0
              go_loopw [3, 51] (fun s i wr => s = .int .i64 ((T + 4 : Nat) : Int) ∧ i = .int .i64 ((0 : Nat) : Int) ∧ Hid (Below base w wr)) (fun _ _ _ => 0)
              case atStart => exact ⟨v_int (by omega), rfl, Lib.hid (Below.refl _ _)⟩
              case round =>
                obtain ⟨rfl, rfl, HR⟩ := hrel
                go_wp2_with fail
                go_ret
                exact ⟨ret_int (by rw [← E.out]; simp [exB]), HR.out⟩
            · have HC := Lib.hid hc
              clear hc
              go_loopw [3, 51] (fun s i wr => ∃ k : Nat, k ≤ n ∧ s = .int .i64 ((T + 4 + (exB (l.take k)).length : Nat) : Int) ∧ i = .int .i64 (k : Int) ∧ Hid (Below base w wr)) (fun _ i _ => n - (intOf i).toNat)
              case atStart => exact ⟨0, Nat.zero_le _, v_int (by simp [exB]), rfl, Lib.hid (Below.refl _ _)⟩
              case round =>
                obtain ⟨k, hk, rfl, rfl, HR⟩ := hrel
                by_cases hlt : k < n
                · have hkl : k < l.length := by have := HN.out; omega
                  have he : l[k]? = some l[k] := List.getElem?_eq_getElem hkl
                  obtain ⟨g1, g2⟩ := HC.out k _ he
                  obtain ⟨hs1, hs2⟩ := hl3 _ (List.getElem_mem hkl)
                  have ht : l.take (k + 1) = l.take k ++ [l[k]] := List.take_succ_eq_append_getElem hkl
                  have hpre : (exB (l.take k)).length ≤ (exB l).length := exB_take l k
                  have HT := Lib.hid (show T + 4 + (exB (l.take (k + 1))).length = T + 4 + (exB (l.take k)).length + (8 + l[k].f0.size + l[k].f1.size) by rw [ht, exB_snoc, List.length_append, List.length_append, str_len, str_len, tl_length, tl_length]; omega)
                  have b := HR.out
                  have kx : ∀ i, wr.cell? ⟨x, i, none⟩ = w.cell? ⟨x, i, none⟩ := fun i => cell_kept (b.block x hx)
                  rw [← kx] at g1 g2
                  have hmb : T + 4 + (exB (l.take k)).length ≤ 20000000 := by omega
                  generalize T + 4 + (exB (l.take k)).length = M at *
                  generalize l[k].f0 = s1 at *
                  generalize l[k].f1 = s2 at *
                  have B := Lib.hid b
                  clear he ht b kx HR hpre
                  go_wp2_with fail
                  have hnew := heap_alloc_new wr (.cells #[.string s1, .string s2] 266 (0, 0))
                  refine (extLen wr.heap.size s1 s2 _ hnew hs1 hs2).mono ?_
                  rintro r w4 ⟨rfl, j4, hw4⟩
                  have hb4 : Below base w w4 := by rw [hw4]; exact below_drewN (B.out.alloc (by have := B.out.size; omega) _) _
                  have B5 := Lib.hid hb4
                  clear hb4 hnew B hw4
                  go_wp2_with fail
                  go_roundw
                  case rel => exact ⟨k + 1, by omega, v_int (by rw [HT.out]; omega), by go_num, B5⟩
                  case measure => simp [intOf]; omega
                · obtain rfl : k = n := by omega
                  have hfull : l.take k = l := List.take_of_length_le (by have := HN.out; omega)
                  rw [hfull]
                  have hmb : T + 4 + (exB l).length ≤ 20000000 := by omega
                  have E3 := Lib.hid (show T + 4 + (exB l).length = (atB a b c d e f g l).length by rw [← E.out]; omega)
                  clear hfull
                  generalize T + 4 + (exB l).length = M at *
                  go_wp2_with fail
                  go_ret
                  exact ⟨ret_int (by rw [E3.out]), HR.out⟩
end Go.Proofs.YtmenkckgpiafiaaGreat
namespace Go.Proofs.YtmenkckgpiafiaaGreat
open Go.RowKit Go.Great Go.Proofs.YtmenkckgpiafiaaGreatW.PrintWords Go.Proofs.YtmenkckgpiafiaaGreatW.PrintLast Go.Proofs.YtmenkckgpiafiaaGreatW.PrintMore Go.Proofs.YtmenkckgpiafiaaGreat.KK
theorem spot0 {w : World} {a : Addr} {v : Value} (h : w.cell? a = some v) : a.spot = none := by
  unfold World.cell? at h
  split at h
  · split at h
    · cases h
    · rename_i hs
      simpa using hs
  · cases h
theorem extAt_of_C {w : World} {A : Option Addr} {l : List S266} (h : Kd.C k266 w A l.length l) : ExtAt w w.heap.size A l := by
  cases hl : l with
  | nil => exact .inl rfl
  | cons e r =>
    rw [← hl]
    have hlen : 0 < l.length := by rw [hl]; simp
    obtain ⟨ad, rfl, h0, _⟩ := at_T266 h 0 (by omega) (by omega)
    have hsp : ad.spot = none := by
      have := spot0 h0
      simpa [Addr.add] using this
    obtain ⟨x, p, sp⟩ := ad
    have hsp' : sp = none := hsp
    subst hsp'
    refine .inr ⟨x, p, rfl, ?_, fun k e he => ?_⟩
    · have := World.block_lt_of_cell? w _ h0
      simpa [Addr.add] using this
    · have hk : k < l.length := (List.getElem?_eq_some_iff.1 he).1
      obtain ⟨ad, e1, h1, h2⟩ := at_T266 h (k : Int) (by omega) (by omega)
      obtain rfl := Option.some.inj e1
      have hr : rd_T266 l (k : Int) = e := by
        unfold rd_T266
        rw [Int.toNat_natCast, List.getD_eq_getElem?_getD, he]
        rfl
      rw [hr, Int.toNat_natCast] at h1 h2
      rw [add_plain] at h1 h2
      exact ⟨h1, h2⟩
set_option maxRecDepth 100000 in
set_option maxHeartbeats 4000000 in
theorem attrsBinary (q o : Nat) (a b c d e f g : Int) (A : Option Addr) (n cap : Nat) (l : List S266) (w : World) (hq : q < w.heap.size)
    (h8 : At8 w q o a b c d e f g (.slice A n cap)) (hn : n = l.length) (hx : ExtAt w w.heap.size A l) (hl : gEx l) (hcap : l.length ≤ cap)
    (ga : gU32 a) (gb : gU64 b) (gc : gU32 c) (gd : gU32 d) (ge : gU32 e) (gf : gU32 f) (gg' : gU32 g) :
    Calls Tryz.prog 70 #[.pointer (some ⟨q, o, none⟩)] w fun r w' => ∃ v, r = .returned (.tuple #[v, .nilIface]) ∧ w'.ownsRow w.heap.size 5 1 v (atB a b c d e f g l).length (u8s (atB a b c d e f g l)) ∧ Below w.heap.size w w' := by
  have C := Lib.hid (attrsLen w.heap.size q o a b c d e f g A n cap l w (Nat.le_refl _) hq h8 hn hx hl hcap)
  have hNb : (atB a b c d e f g l).length ≤ 20000000 := by
    have := plen a b c d e f g
    have hp : (pX a l).length ≤ 4 + (exB l).length := by unfold pX; split <;> simp [be32_len]
    have := hl.2.1
    unfold atB
    simp only [List.length_append, be32_len]
    omega
  have D := Lib.hid (fun (gg : Nat) (W : World) (hb : Below w.heap.size w W) (hB : Buf w.heap.size W W gg []) => attrsInto w.heap.size gg q o [] a b c d e f g A n cap l W hB (by simp) hb.size hq (h8.below hb hq) hn (hx.below hb (Nat.le_refl _)) hl hcap ga gb gc gd ge gf gg')
  have hN0 : 4 ≤ (atB a b c d e f g l).length := by unfold atB; rw [List.length_append, be32_len]; omega
  clear h8 hx hl hn ga gb gc gd ge gf gg'
  generalize atB a b c d e f g l = F at *
  go_enter Tryz.func70, Tryz.ntmps70
  go_wp2_with fail
  refine C.out.mono ?_
  rintro r w1 ⟨rfl, hb1⟩
  have z1 := hb1.size
  generalize hN : F.length = N at *
  have HN := Lib.hid hN
  have hmk : (Instr.makeSlice 93 (.int .i64 0) (.int .i64 (N : Int))).run Tryz.prog w1 = .ok (.slice (some ⟨w1.heap.size, 0, none⟩) 0 N) (w1.alloc (.cells (madeCells #[.int .u8 0] N) 5)) :=
    run_make_room 93 5 (.int .u8 0) 1 Tryz.underlying93 info8 rfl .i64 .i64 N (by omega) (by omega) w1
  have hown : (w1.alloc (.cells (madeCells #[.int .u8 0] N) 5)).ownsRow w.heap.size 5 1 (.slice (some ⟨w1.heap.size, 0, none⟩) 0 N) 0 (u8s []) :=
    ⟨rfl, .inr ⟨w1.heap.size, N, madeCells #[.int .u8 0] N, rfl, z1, heap_alloc_new _ _, by omega, by simp only [maxLen]; omega, by simp [size_madeCells], by simp [u8s]⟩⟩
  have hbl : Below w.heap.size w (w1.alloc (.cells (madeCells #[.int .u8 0] N) 5)) := hb1.alloc z1 _
  have hsz : (w1.alloc (.cells (madeCells #[.int .u8 0] N) 5)).heap.size = w1.heap.size + 1 := by simp
  generalize w1.alloc (.cells (madeCells #[.int .u8 0] N) 5) = W0 at hmk hown hbl hsz
  have O := Lib.hid hown
  have B := Lib.hid hbl
  have S := Lib.hid hsz
  clear hown hbl hsz hb1 C hN
  go_wp2_with fail
  refine (newBuffer _ _ _ _).mono ?_
  rintro r w2 ⟨rfl, hw2⟩
  have hsz := S.out
  have hM : MBuf w.heap.size w2 W0.heap.size (.slice (some ⟨w1.heap.size, 0, none⟩) 0 N) [] := by
    rw [← hw2]
    refine ⟨heap_alloc_new _ _, O.out.alloc _, by omega, ?_⟩
    intro e
    have := Option.some.inj e
    simp at this
    omega
  have hB1 : Below w.heap.size w w2 := by rw [← hw2]; exact B.out.alloc (by omega) _
  have D2 := Lib.hid (D.out W0.heap.size w2 hB1 ⟨_, hM, Below.refl _ _⟩)
  have B1 := Lib.hid hB1
  clear hM hB1 hw2 O B S hsz hmk D
  go_wp2_with fail
  refine D2.out.mono ?_
  rintro r w3 ⟨rfl, v', m, hb⟩
  rw [List.nil_append] at m
  have M2 := Lib.hid m
  have B2 := Lib.hid (B1.out.trans hb)
  clear m hb B1 D2
  go_wp2_with fail
  refine (bytesM w.heap.size W0.heap.size v' F w3 M2.out (by have := HN.out; omega) (by have := HN.out; omega)).mono ?_
  rintro r w4 ⟨rfl, k, hw4⟩
  have G := Lib.hid (show w4.ownsRow w.heap.size 5 1 v' N (u8s F) from by rw [hw4, ← HN.out]; exact M2.out.own)
  have B3 := Lib.hid (show Below w.heap.size w w4 from by rw [hw4]; exact ⟨B2.out.os, B2.out.tape, B2.out.output, B2.out.size, B2.out.block⟩)
  clear hw4 M2 B2
  go_wp2_with fail
  go_ret2
  exact ⟨v', rfl, by rw [HN.out]; exact G.out, B3.out⟩
/-- Extended attributes of the seam that are not too long. -/
def gExI (l : List S89) : Prop := gEx (l.map exOf)
theorem at8_of {w : World} {q : Nat} {a b c d e f g : Int} {v : Value} {t : TypeId} (h : w.heap[q]? = some (.cells (at8 a b c d e f g v) t (0, 0))) : At8 w q 0 a b c d e f g v :=
  ⟨by rw [cell_of_blk h]; rfl, by rw [cell_of_blk h]; rfl, by rw [cell_of_blk h]; rfl, by rw [cell_of_blk h]; rfl, by rw [cell_of_blk h]; rfl, by rw [cell_of_blk h]; rfl, by rw [cell_of_blk h]; rfl, by rw [cell_of_blk h]; rfl⟩
set_option maxRecDepth 100000 in
set_option maxHeartbeats 4000000 in
theorem attrsWrite (a b c d e f g : Int) (A : Option Addr) (n cap : Nat) (l : List S89) (w : World) (hn : n = l.length) (hl : gExI l) (hr : Kd.C k89 w A l.length l) (hc : l.length ≤ cap)
    (ga : gU32 a) (gb : gU64 b) (gc : gU32 c) (gd : gU32 d) (ge : gU32 e) (gf : gU32 f) (gg : gU32 g) :
    Calls Tryz.prog 29 #[.agg (at8 a b c d e f g (.slice A n cap))] w fun r w' => r = .returned (.tuple #[.string (bs (atB a b c d e f g (l.map exOf))), .int .i64 0]) ∧ Below w.heap.size w w' := by
  subst hn
  have hl1 : l.length ≤ 4398046511103 := by have := hl.1; simp at this; omega
  obtain ⟨W0, hW0⟩ : ∃ W, w.alloc (.cells (at8 a b c d e f g (.slice A l.length cap)) 26) = W := ⟨_, rfl⟩
  have hb0 : Below w.heap.size w W0 := by rw [← hW0]; exact (Below.refl _ _).alloc (Nat.le_refl _) _
  have k0 : W0.heap[w.heap.size]? = some (.cells (at8 a b c d e f g (.slice A l.length cap)) 26 (0, 0)) := by rw [← hW0]; exact heap_alloc_new _ _
  have C := Lib.hid (attrsC a b c d e f g A l.length cap l W0 rfl hl1 (Kd.C_below hr hb0) hc)
  have X0 := Lib.hid hW0
  have B0 := Lib.hid hb0
  have K0 := Lib.hid k0
  have HL := Lib.hid (show gEx (l.map exOf) from hl)
  clear hW0 hb0 k0 hr hl
  go_enter Tryz.func29, Tryz.ntmps29
  go_wp2_with (first
    | (refine wpList_boxTo rfl 26 _ rfl (some 1) rfl w.heap.size rfl (at8 a b c d e f g (.slice A l.length cap)) rfl ?_; rw [X0.out])
    | refine wpList_load_row rfl 26 _ rfl w.heap.size rfl 26 (at8 a b c d e f g (.slice A l.length cap)) (0, 0) _ K0.out Tryz.underlying26 rfl (ainfo8 _ _ _ _ _ _ _ _) ?_)
  refine C.out.mono ?_
  rintro r w1 ⟨v, rfl, hv, hb1⟩
  have hv2 := hv
  obtain ⟨A', c', rfl, hc', hC'⟩ := Kd.R_reads hv
  have hlm : (l.map exOf).length = l.length := by simp
  have HLM := Lib.hid hlm
  clear hlm
  generalize hm : l.map exOf = l' at *
  have HM := Lib.hid hm
  clear hm
  have hB1 : Below w.heap.size w w1 := B0.out.trans (hb1.mono B0.out.size)
  have z1 := hB1.size
  obtain ⟨W1, hW1⟩ : ∃ W, w1.alloc (.cells z8 139) = W := ⟨_, rfl⟩
  obtain ⟨W2, hW2⟩ : ∃ W, W1.setRow w1.heap.size (at8 a b c d e f g (.slice A' l'.length c')) = W := ⟨_, rfl⟩
  have k1 : W1.heap[w1.heap.size]? = some (.cells z8 139 (0, 0)) := by rw [← hW1]; exact heap_alloc_new _ _
  have k2 : W2.heap[w1.heap.size]? = some (.cells (at8 a b c d e f g (.slice A' l'.length c')) 139 (0, 0)) := by rw [← hW2]; exact setRow_heap _ _ _ _ _ _ k1
  have hB12 : Below w1.heap.size w1 W2 := by
    have h1 := (Below.refl w1.heap.size w1).alloc (Nat.le_refl _) (.cells z8 139)
    rw [hW1] at h1
    rw [← hW2]
    exact ⟨h1.os, h1.tape, h1.output, by rw [setRow_size]; exact h1.size, fun k hk => by rw [setRow_other _ _ _ _ (by omega)]; exact h1.block k hk⟩
  have hB2 : Below w.heap.size w W2 := hB1.trans (hB12.mono z1)
  have hE : ExtAt W2 W2.heap.size A' l' := extAt_of_C (Kd.C_below hC' hB12)
  have D := Lib.hid (attrsBinary w1.heap.size 0 a b c d e f g A' l'.length c' l' W2 (lt_of_blk k2) (at8_of k2) rfl hE HL.out hc' ga gb gc gd ge gf gg)
  have hN0 : 4 ≤ (atB a b c d e f g l').length := by unfold atB; rw [List.length_append, be32_len]; omega
  have X1 := Lib.hid hW1
  have X2 := Lib.hid hW2
  have K1 := Lib.hid k1
  have B2 := Lib.hid hB2
  clear hW1 hW2 k1 k2 hv hv2 hb1 hB1 hB12 hB2 z1 C B0 K0 X0 hE hC' HL ga gb gc gd ge gf gg
  generalize hF : atB a b c d e f g l' = F at *
  have HF := Lib.hid hF
  clear hF
  generalize l'.length = n' at *
  go_wp2_with (first
    | (refine wpList_allocTo rfl (some 4) rfl (.pointer (some ⟨w1.heap.size, 0, none⟩)) (.cells z8 139) (by as_aux_lemma => kernel_rfl) ?_; rw [X1.out])
    | (refine wpList_store_row rfl 139 _ _ rfl w1.heap.size (at8 a b c d e f g (.slice A' n' c')) rfl rfl 139 z8 K1.out (sinfo8 _ _ _ _ _ _ _ _) rfl (one8 _ _ _ _ _ _ _ _ _ _) ?_; rw [X2.out]))
  refine D.out.mono ?_
  rintro r w3 ⟨v, rfl, hown, hb3⟩
  obtain ⟨s, c2, rfl, hlie⟩ := own_lies hown (by omega)
  have hcv := conv_str w3 s 0 c2 _ hlie 93 9 5 Tryz.underlying93 Tryz.underlying5 Tryz.underlying9
  have B3 := Lib.hid (B2.out.trans (hb3.mono B2.out.size))
  clear hown hlie hb3 D B2 X1 X2 K1 HLM
  generalize hFl : F.length = fl at *
  clear hFl
  go_wp2_with fail
  go_ret2
  exact ⟨by rw [HM.out, HF.out]; rfl, B3.out⟩
end Go.Proofs.YtmenkckgpiafiaaGreat
namespace Go.Proofs.YtmenkckgpiafiaaGreat
open Go.RowKit Go.Great Go.Proofs.YtmenkckgpiafiaaGreatW.PrintWords Go.Proofs.YtmenkckgpiafiaaGreatW.PrintLast Go.Proofs.YtmenkckgpiafiaaGreatW.PrintMore Go.Proofs.YtmenkckgpiafiaaGreat.KK
/-- A packet of attributes of the seam. -/
def pAt (a b c d e f g : Int) (v : Value) : Array Value :=
  #[.int .i64 105, n32 0, es, es, es, .int .u64 0, n32 0, n32 0, es, n32 a, .int .u64 b, n32 c, n32 d, n32 e, n32 f, n32 g, v, nilS, nilS, n32 0, n32 0, es, es, es]
theorem pinfoA (a b c d e f g : Int) (v : Value) : (Tryz.prog.info? 29).map (·.size) = some (pAt a b c d e f g v).size := pinfo
theorem allOneA (a b c d e f g : Int) (A : Option Addr) (n cap : Nat) : (pAt a b c d e f g (.slice A n cap)).all (·.oneCell') = true := by kernel_rfl
/-- A packet of a type alone. -/
def p105 : Array Value := pAt 0 0 0 0 0 0 0 (.slice none 0 0)
theorem results_c1A {P : Program} {fn : Func} {p : Tmp} {ty : TypeId} (h : fn.results = #[.cell p ty]) (tmps : Array Value) (w : World) (g : Nat) (t : TypeId) (cs : Array Value) (fr : Nat × Nat) (d : TypeDesc)
    (hp : tmps.getD p undef = .pointer (some ⟨g, 0, none⟩)) (hg : w.heap[g]? = some (.cells cs t fr))
    (hu : P.underlying ty = some d) (hd : (match d with | .struct _ | .array _ _ => true | _ => false) = true) (hi : (P.info? ty).map (·.size) = some cs.size) :
    (results fn tmps).run P w = .ok (.agg cs) w := by
  have hp' : tmps[p]?.getD undef = .pointer (some ⟨g, 0, none⟩) := by simpa using hp
  simp [results, h, hp', asAddr, run_loadVar_row w g t ty cs fr d hg hu hd hi]
set_option maxRecDepth 100000 in
set_option maxHeartbeats 8000000 in
theorem onlyA (a b c d e f g : Int) (A : Option Addr) (n cap : Nat) (w : World) :
    Calls Tryz.prog 49 #[.agg (pAt a b c d e f g (.slice A n cap))] w fun r w' => r = .returned (.agg (pAt a b c d e f g (.slice A n cap))) ∧ Below w.heap.size w w' := by
  obtain ⟨W0, hW0⟩ : ∃ W, w.alloc (.cells (pAt a b c d e f g (.slice A n cap)) 29) = W := ⟨_, rfl⟩
  obtain ⟨W1, hW1⟩ : ∃ W, W0.alloc (.cells pZero 29) = W := ⟨_, rfl⟩
  obtain ⟨W2, hW2⟩ : ∃ W, W1.alloc (.cells pZero 29) = W := ⟨_, rfl⟩
  obtain ⟨W4, hW4⟩ : ∃ W, W2.setRow (w.heap.size + 1 + 1) p105 = W := ⟨_, rfl⟩
  have s0 : W0.heap.size = w.heap.size + 1 := by rw [← hW0]; simp
  have s1 : W1.heap.size = w.heap.size + 1 + 1 := by rw [← hW1]; simp [s0]
  have s2 : W2.heap.size = w.heap.size + 1 + 1 + 1 := by rw [← hW2]; simp [s1]
  have a0 : W0.heap[w.heap.size]? = some (.cells (pAt a b c d e f g (.slice A n cap)) 29 (0, 0)) := by rw [← hW0]; exact heap_alloc_new _ _
  have a1 : W1.heap[w.heap.size + 1]? = some (.cells pZero 29 (0, 0)) := by rw [← hW1, ← s0]; exact heap_alloc_new _ _
  have a2 : W2.heap[w.heap.size + 1 + 1]? = some (.cells pZero 29 (0, 0)) := by rw [← hW2, ← s1]; exact heap_alloc_new _ _
  have o2 : ∀ k, k < w.heap.size + 1 + 1 → W4.heap[k]? = W1.heap[k]? := fun k hk => by rw [← hW4, setRow_other _ _ _ _ (by omega), ← hW2, heap_alloc_old _ _ (by omega)]
  have o1 : ∀ k, k < w.heap.size + 1 → W1.heap[k]? = W0.heap[k]? := fun k hk => by rw [← hW1, heap_alloc_old _ _ (by omega)]
  have k4 : W4.heap[w.heap.size + 1 + 1]? = some (.cells p105 29 (0, 0)) := by rw [← hW4]; exact setRow_blk a2
  have i4 : W4.heap[w.heap.size]? = some (.cells (pAt a b c d e f g (.slice A n cap)) 29 (0, 0)) := by rw [o2 _ (by omega), o1 _ (by omega)]; exact a0
  have j4 : W4.heap[w.heap.size + 1]? = some (.cells pZero 29 (0, 0)) := by rw [o2 _ (by omega)]; exact a1
  have b4 : Below w.heap.size w W4 := by
    refine ⟨?_, ?_, ?_, ?_, fun k hk => ?_⟩
    · rw [← hW4, ← hW2, ← hW1, ← hW0]; rfl
    · rw [← hW4, ← hW2, ← hW1, ← hW0]; rfl
    · rw [← hW4, ← hW2, ← hW1, ← hW0]; rfl
    · rw [← hW4, setRow_size]; omega
    · rw [o2 _ (by omega), o1 _ (by omega), ← hW0, heap_alloc_old _ _ hk]
  have x0 : W0.cell? ⟨w.heap.size, 0, none⟩ = some (.int .i64 105) := by rw [cell_of_blk a0]; rfl
  have x1 : W0.cell? ⟨w.heap.size, 1, none⟩ = some (.int .u32 0) := by rw [cell_of_blk a0]; rfl
  have y0 : W1.cell? ⟨w.heap.size, 0, none⟩ = some (.int .i64 105) := by rw [cell_kept (o1 _ (by omega))]; exact x0
  have y1 : W1.cell? ⟨w.heap.size, 1, none⟩ = some (.int .u32 0) := by rw [cell_kept (o1 _ (by omega))]; exact x1
  have z0 : W4.cell? ⟨w.heap.size, 0, none⟩ = some (.int .i64 105) := by rw [cell_of_blk i4]; rfl
  have c9 : W4.cell? ⟨w.heap.size, 9, none⟩ = some (.int .u32 a) := by rw [cell_of_blk i4]; rfl
  have c10 : W4.cell? ⟨w.heap.size, 10, none⟩ = some (.int .u64 b) := by rw [cell_of_blk i4]; rfl
  have c11 : W4.cell? ⟨w.heap.size, 11, none⟩ = some (.int .u32 c) := by rw [cell_of_blk i4]; rfl
  have c12 : W4.cell? ⟨w.heap.size, 12, none⟩ = some (.int .u32 d) := by rw [cell_of_blk i4]; rfl
  have c13 : W4.cell? ⟨w.heap.size, 13, none⟩ = some (.int .u32 e) := by rw [cell_of_blk i4]; rfl
  have c14 : W4.cell? ⟨w.heap.size, 14, none⟩ = some (.int .u32 f) := by rw [cell_of_blk i4]; rfl
  have c15 : W4.cell? ⟨w.heap.size, 15, none⟩ = some (.int .u32 g) := by rw [cell_of_blk i4]; rfl
  have c16 : W4.cell? ⟨w.heap.size, 16, none⟩ = some (.slice A n cap) := by rw [cell_of_blk i4]; rfl
  have d9 : W4.cell? ⟨w.heap.size + 1 + 1, 9, none⟩ = some (.int .u32 0) := by rw [cell_of_blk k4]; rfl
  have f9 : W4.frozen? ⟨w.heap.size + 1 + 1, 9, none⟩ = false := frozen_of_blk k4 9
  have d10 : W4.cell? ⟨w.heap.size + 1 + 1, 10, none⟩ = some (.int .u64 0) := by rw [cell_of_blk k4]; rfl
  have f10 : W4.frozen? ⟨w.heap.size + 1 + 1, 10, none⟩ = false := frozen_of_blk k4 10
  have d11 : W4.cell? ⟨w.heap.size + 1 + 1, 11, none⟩ = some (.int .u32 0) := by rw [cell_of_blk k4]; rfl
  have f11 : W4.frozen? ⟨w.heap.size + 1 + 1, 11, none⟩ = false := frozen_of_blk k4 11
  have d12 : W4.cell? ⟨w.heap.size + 1 + 1, 12, none⟩ = some (.int .u32 0) := by rw [cell_of_blk k4]; rfl
  have f12 : W4.frozen? ⟨w.heap.size + 1 + 1, 12, none⟩ = false := frozen_of_blk k4 12
  have d13 : W4.cell? ⟨w.heap.size + 1 + 1, 13, none⟩ = some (.int .u32 0) := by rw [cell_of_blk k4]; rfl
  have f13 : W4.frozen? ⟨w.heap.size + 1 + 1, 13, none⟩ = false := frozen_of_blk k4 13
  have d14 : W4.cell? ⟨w.heap.size + 1 + 1, 14, none⟩ = some (.int .u32 0) := by rw [cell_of_blk k4]; rfl
  have f14 : W4.frozen? ⟨w.heap.size + 1 + 1, 14, none⟩ = false := frozen_of_blk k4 14
  have d15 : W4.cell? ⟨w.heap.size + 1 + 1, 15, none⟩ = some (.int .u32 0) := by rw [cell_of_blk k4]; rfl
  have f15 : W4.frozen? ⟨w.heap.size + 1 + 1, 15, none⟩ = false := frozen_of_blk k4 15
  have d16 : W4.cell? ⟨w.heap.size + 1 + 1, 16, none⟩ = some (.slice none 0 0) := by rw [cell_of_blk k4]; rfl
  have f16 : W4.frozen? ⟨w.heap.size + 1 + 1, 16, none⟩ = false := frozen_of_blk k4 16
  obtain ⟨W5, hW5⟩ : ∃ W, ((((((((W4.setCell ⟨w.heap.size + 1 + 1, 9, none⟩ (.int .u32 a)).setCell ⟨w.heap.size + 1 + 1, 10, none⟩ (.int .u64 b)).setCell ⟨w.heap.size + 1 + 1, 11, none⟩ (.int .u32 c)).setCell ⟨w.heap.size + 1 + 1, 12, none⟩ (.int .u32 d)).setCell ⟨w.heap.size + 1 + 1, 13, none⟩ (.int .u32 e)).setCell ⟨w.heap.size + 1 + 1, 14, none⟩ (.int .u32 f)).setCell ⟨w.heap.size + 1 + 1, 15, none⟩ (.int .u32 g)).setCell ⟨w.heap.size + 1 + 1, 16, none⟩ (.slice A n cap)) = W := ⟨_, rfl⟩
  have k5 : W5.heap[w.heap.size + 1 + 1]? = some (.cells (pAt a b c d e f g (.slice A n cap)) 29 (0, 0)) := by rw [← hW5]; exact (setCell_blk (i := 16) (setCell_blk (i := 15) (setCell_blk (i := 14) (setCell_blk (i := 13) (setCell_blk (i := 12) (setCell_blk (i := 11) (setCell_blk (i := 10) (setCell_blk (i := 9) k4 (.int .u32 a)) (.int .u64 b)) (.int .u32 c)) (.int .u32 d)) (.int .u32 e)) (.int .u32 f)) (.int .u32 g)) (.slice A n cap))
  have b5 : Below w.heap.size w W5 := by rw [← hW5]; exact ((((((((b4.setCell (by show w.heap.size ≤ w.heap.size + 1 + 1; omega) _).setCell (by show w.heap.size ≤ w.heap.size + 1 + 1; omega) _).setCell (by show w.heap.size ≤ w.heap.size + 1 + 1; omega) _).setCell (by show w.heap.size ≤ w.heap.size + 1 + 1; omega) _).setCell (by show w.heap.size ≤ w.heap.size + 1 + 1; omega) _).setCell (by show w.heap.size ≤ w.heap.size + 1 + 1; omega) _).setCell (by show w.heap.size ≤ w.heap.size + 1 + 1; omega) _).setCell (by show w.heap.size ≤ w.heap.size + 1 + 1; omega) _)
  have j5 : W5.heap[w.heap.size + 1]? = some (.cells pZero 29 (0, 0)) := by
    rw [← hW5]
    rw [Below.heap_setCell _ _ _ _ (by show w.heap.size + 1 ≠ w.heap.size + 1 + 1; omega), Below.heap_setCell _ _ _ _ (by show w.heap.size + 1 ≠ w.heap.size + 1 + 1; omega), Below.heap_setCell _ _ _ _ (by show w.heap.size + 1 ≠ w.heap.size + 1 + 1; omega), Below.heap_setCell _ _ _ _ (by show w.heap.size + 1 ≠ w.heap.size + 1 + 1; omega), Below.heap_setCell _ _ _ _ (by show w.heap.size + 1 ≠ w.heap.size + 1 + 1; omega), Below.heap_setCell _ _ _ _ (by show w.heap.size + 1 ≠ w.heap.size + 1 + 1; omega), Below.heap_setCell _ _ _ _ (by show w.heap.size + 1 ≠ w.heap.size + 1 + 1; omega), Below.heap_setCell _ _ _ _ (by show w.heap.size + 1 ≠ w.heap.size + 1 + 1; omega)]
    exact j4
  obtain ⟨W6, hW6⟩ : ∃ W, W5.setRow (w.heap.size + 1) (pAt a b c d e f g (.slice A n cap)) = W := ⟨_, rfl⟩
  have k6 : W6.heap[w.heap.size + 1]? = some (.cells (pAt a b c d e f g (.slice A n cap)) 29 (0, 0)) := by rw [← hW6]; exact setRow_blk j5
  have b6 : Below w.heap.size w W6 := by rw [← hW6]; exact ⟨b5.os, b5.tape, b5.output, by rw [setRow_size]; exact b5.size, fun k hk => by rw [setRow_other _ _ _ _ (by omega)]; exact b5.block k hk⟩
  have X0 := Lib.hid hW0
  have X1 := Lib.hid hW1
  have X2 := Lib.hid hW2
  have X4 := Lib.hid hW4
  have X6 := Lib.hid hW6
  have A2 := Lib.hid a2
  have S1 := Lib.hid s1
  have S0 := Lib.hid s0
  have K5 := Lib.hid k5
  have J5 := Lib.hid j5
  have K6 := Lib.hid k6
  have B6 := Lib.hid b6
  clear hW0 hW1 hW2 hW4 hW6 s0 s1 s2 a0 a1 a2 o1 o2 k4 i4 j4 b4 k5 b5 j5 k6 b6 x0 x1
  go_enter Tryz.func49, Tryz.ntmps49
  go_wp2_with (first
    | (refine wpList_boxTo rfl 29 _ rfl (some 1) rfl w.heap.size rfl (pAt a b c d e f g (.slice A n cap)) rfl ?_; rw [X0.out])
    | (refine wpList_allocTo rfl (some 2) rfl (.pointer (some ⟨w.heap.size + 1, 0, none⟩)) (.cells pZero 29) (by rw [← S0.out]; as_aux_lemma => kernel_rfl) ?_; rw [X1.out])
    | (refine wpList_allocTo rfl (some 3) rfl (.pointer (some ⟨w.heap.size + 1 + 1, 0, none⟩)) (.cells pZero 29) (by rw [← S1.out]; as_aux_lemma => kernel_rfl) ?_; rw [X2.out])
    | refine wpList_buildTo rfl 29 _ rfl (some 8) rfl p105 (by as_aux_lemma => kernel_rfl) ?_
    | (refine wpList_store_row rfl 29 _ _ rfl (w.heap.size + 1 + 1) p105 rfl rfl 29 pZero A2.out pinfoZ rfl (allOneA _ _ _ _ _ _ _ _ _ _) ?_; rw [X4.out])
    | refine wpList_load_row rfl 29 _ rfl (w.heap.size + 1 + 1) rfl 29 (pAt a b c d e f g (.slice A n cap)) (0, 0) _ K5.out Tryz.underlying29 rfl (pinfoA _ _ _ _ _ _ _ _) ?_
    | (refine wpList_store_row rfl 29 _ _ rfl (w.heap.size + 1) (pAt a b c d e f g (.slice A n cap)) rfl rfl 29 pZero J5.out (pinfoA _ _ _ _ _ _ _ _) rfl (allOneA _ _ _ _ _ _ _ _ _ _) ?_; rw [X6.out]))
  refine bodyPost_ret (results_c1A Tryz.results49 _ _ (w.heap.size + 1) 29 (pAt a b c d e f g (.slice A n cap)) (0, 0) _ rfl K6.out Tryz.underlying29 rfl (pinfoA _ _ _ _ _ _ _ _)) rfl ?_
  exact ⟨rfl, B6.out⟩
end Go.Proofs.YtmenkckgpiafiaaGreat
namespace Go.Proofs.YtmenkckgpiafiaaGreat
open Go.RowKit Go.Great Go.Proofs.YtmenkckgpiafiaaGreatW.PrintWords Go.Proofs.YtmenkckgpiafiaaGreatW.PrintLast Go.Proofs.YtmenkckgpiafiaaGreatW.PrintMore Go.Proofs.YtmenkckgpiafiaaGreat.KK
theorem sameExts_l0 (l : List S89) (hl : l.length ≤ 2147483647) : ∀ (m : Nat) (k : Nat) (i : Nat), i + m = l.length → m < k → PS.laws_sameExts.l0 k l l (l.length : Int) (i : Int) = some true := by
  intro m
  induction m with
  | zero =>
    intro k i hi hk
    obtain ⟨k, rfl⟩ : ∃ j, k = j + 1 := ⟨k - 1, by omega⟩
    simp only [PS.laws_sameExts.l0]
    rw [if_neg (by omega)]
  | succ m ih =>
    intro k i hi hk
    obtain ⟨k, rfl⟩ : ∃ j, k = j + 1 := ⟨k - 1, by omega⟩
    simp only [PS.laws_sameExts.l0]
    rw [if_pos (by omega), if_pos (by omega), if_pos (by omega), if_pos (by omega), wrap_succ (by omega) (show (i : Int) < (l.length : Int) by omega) (by omega), if_neg (by simp)]
    rw [show ((i : Int) + 1) = ((i + 1 : Nat) : Int) from by omega]
    exact ih k (i + 1) (by omega) (by omega)
theorem sameExts_f (l : List S89) (hl : l.length ≤ 2147483647) : PS.laws_sameExts.f (l.length + 1) l l = some true := by
  unfold PS.laws_sameExts.f
  rw [if_pos rfl]
  exact sameExts_l0 l hl l.length (l.length + 1) 0 (by omega) (by omega)
theorem sameAttrsE (a b c d e f g : Int) (A A' : Option Addr) (n cap cap' : Nat) (l : List S89) (w : World) (hn : n = l.length) (hl : l.length ≤ 2147483647) (hC : Kd.C k89 w A l.length l) (hC' : Kd.C k89 w A' l.length l) (hc : l.length ≤ cap) (hc' : l.length ≤ cap') :
    Calls Tryz.prog 33 #[.agg (at8 a b c d e f g (.slice A n cap)), .agg (at8 a b c d e f g (.slice A' n cap'))] w fun r w' => r = .returned (.bool true) ∧ Below w.heap.size w w' := by
  subst hn
  refine PS.laws_sameAttrs.calls (l.length + 1) a b c d e f g A cap l a b c d e f g A' cap' l true w hC hc hC' hc' ?_
  unfold PS.laws_sameAttrs.f
  rw [sameExts_f l hl]
  simp
set_option maxRecDepth 100000 in
set_option maxHeartbeats 8000000 in
theorem sameA (a b c d e f g : Int) (A A' : Option Addr) (n cap cap' : Nat) (l : List S89) (w : World) (hn : n = l.length) (hl : l.length ≤ 2147483647) (hC : Kd.C k89 w A l.length l) (hC' : Kd.C k89 w A' l.length l) (hc : l.length ≤ cap) (hc' : l.length ≤ cap') :
    Calls Tryz.prog 22 #[.agg (pAt a b c d e f g (.slice A n cap)), .agg (pAt a b c d e f g (.slice A' n cap'))] w fun r w' => r = .returned (.bool true) ∧ Below w.heap.size w w' := by
  obtain ⟨W, hW⟩ : ∃ W, (w.alloc (.cells (pAt a b c d e f g (.slice A n cap)) 29)).alloc (.cells (pAt a b c d e f g (.slice A' n cap')) 29) = W := ⟨_, rfl⟩
  have b2 : W.heap[w.heap.size]? = some (.cells (pAt a b c d e f g (.slice A n cap)) 29 (0, 0)) := by rw [← hW, heap_alloc_old _ _ (by simp)]; exact heap_alloc_new _ _
  have b3 : W.heap[w.heap.size + 1]? = some (.cells (pAt a b c d e f g (.slice A' n cap')) 29 (0, 0)) := by
    rw [← hW]
    have := heap_alloc_new (w.alloc (.cells (pAt a b c d e f g (.slice A n cap)) 29)) (.cells (pAt a b c d e f g (.slice A' n cap')) 29 (0, 0))
    rwa [show (w.alloc (.cells (pAt a b c d e f g (.slice A n cap)) 29)).heap.size = w.heap.size + 1 from by simp] at this
  have hbl : Below w.heap.size w W := by rw [← hW]; exact ((Below.refl _ _).alloc (Nat.le_refl _) _).alloc (by simp) _
  have c0 : W.cell? ⟨w.heap.size, 0, none⟩ = some (.int .i64 105) := by rw [cell_of_blk b2]; rfl
  have d0 : W.cell? ⟨w.heap.size + 1, 0, none⟩ = some (.int .i64 105) := by rw [cell_of_blk b3]; rfl
  have c1 : W.cell? ⟨w.heap.size, 1, none⟩ = some (.int .u32 0) := by rw [cell_of_blk b2]; rfl
  have d1 : W.cell? ⟨w.heap.size + 1, 1, none⟩ = some (.int .u32 0) := by rw [cell_of_blk b3]; rfl
  have c2 : W.cell? ⟨w.heap.size, 2, none⟩ = some (.string ⟨#[]⟩) := by rw [cell_of_blk b2]; rfl
  have d2 : W.cell? ⟨w.heap.size + 1, 2, none⟩ = some (.string ⟨#[]⟩) := by rw [cell_of_blk b3]; rfl
  have c3 : W.cell? ⟨w.heap.size, 3, none⟩ = some (.string ⟨#[]⟩) := by rw [cell_of_blk b2]; rfl
  have d3 : W.cell? ⟨w.heap.size + 1, 3, none⟩ = some (.string ⟨#[]⟩) := by rw [cell_of_blk b3]; rfl
  have c4 : W.cell? ⟨w.heap.size, 4, none⟩ = some (.string ⟨#[]⟩) := by rw [cell_of_blk b2]; rfl
  have d4 : W.cell? ⟨w.heap.size + 1, 4, none⟩ = some (.string ⟨#[]⟩) := by rw [cell_of_blk b3]; rfl
  have c5 : W.cell? ⟨w.heap.size, 5, none⟩ = some (.int .u64 0) := by rw [cell_of_blk b2]; rfl
  have d5 : W.cell? ⟨w.heap.size + 1, 5, none⟩ = some (.int .u64 0) := by rw [cell_of_blk b3]; rfl
  have c6 : W.cell? ⟨w.heap.size, 6, none⟩ = some (.int .u32 0) := by rw [cell_of_blk b2]; rfl
  have d6 : W.cell? ⟨w.heap.size + 1, 6, none⟩ = some (.int .u32 0) := by rw [cell_of_blk b3]; rfl
  have c7 : W.cell? ⟨w.heap.size, 7, none⟩ = some (.int .u32 0) := by rw [cell_of_blk b2]; rfl
  have d7 : W.cell? ⟨w.heap.size + 1, 7, none⟩ = some (.int .u32 0) := by rw [cell_of_blk b3]; rfl
  have c8 : W.cell? ⟨w.heap.size, 8, none⟩ = some (.string ⟨#[]⟩) := by rw [cell_of_blk b2]; rfl
  have d8 : W.cell? ⟨w.heap.size + 1, 8, none⟩ = some (.string ⟨#[]⟩) := by rw [cell_of_blk b3]; rfl
  have c9 : W.cell? ⟨w.heap.size, 9, none⟩ = some (.int .u32 a) := by rw [cell_of_blk b2]; rfl
  have d9 : W.cell? ⟨w.heap.size + 1, 9, none⟩ = some (.int .u32 a) := by rw [cell_of_blk b3]; rfl
  have c10 : W.cell? ⟨w.heap.size, 10, none⟩ = some (.int .u64 b) := by rw [cell_of_blk b2]; rfl
  have d10 : W.cell? ⟨w.heap.size + 1, 10, none⟩ = some (.int .u64 b) := by rw [cell_of_blk b3]; rfl
  have c11 : W.cell? ⟨w.heap.size, 11, none⟩ = some (.int .u32 c) := by rw [cell_of_blk b2]; rfl
  have d11 : W.cell? ⟨w.heap.size + 1, 11, none⟩ = some (.int .u32 c) := by rw [cell_of_blk b3]; rfl
  have c12 : W.cell? ⟨w.heap.size, 12, none⟩ = some (.int .u32 d) := by rw [cell_of_blk b2]; rfl
  have d12 : W.cell? ⟨w.heap.size + 1, 12, none⟩ = some (.int .u32 d) := by rw [cell_of_blk b3]; rfl
  have c13 : W.cell? ⟨w.heap.size, 13, none⟩ = some (.int .u32 e) := by rw [cell_of_blk b2]; rfl
  have d13 : W.cell? ⟨w.heap.size + 1, 13, none⟩ = some (.int .u32 e) := by rw [cell_of_blk b3]; rfl
  have c14 : W.cell? ⟨w.heap.size, 14, none⟩ = some (.int .u32 f) := by rw [cell_of_blk b2]; rfl
  have d14 : W.cell? ⟨w.heap.size + 1, 14, none⟩ = some (.int .u32 f) := by rw [cell_of_blk b3]; rfl
  have c15 : W.cell? ⟨w.heap.size, 15, none⟩ = some (.int .u32 g) := by rw [cell_of_blk b2]; rfl
  have d15 : W.cell? ⟨w.heap.size + 1, 15, none⟩ = some (.int .u32 g) := by rw [cell_of_blk b3]; rfl
  have c16 : W.cell? ⟨w.heap.size, 16, none⟩ = some (.slice A n cap) := by rw [cell_of_blk b2]; rfl
  have d16 : W.cell? ⟨w.heap.size + 1, 16, none⟩ = some (.slice A' n cap') := by rw [cell_of_blk b3]; rfl
  have c17 : W.cell? ⟨w.heap.size, 17, none⟩ = some (.slice none 0 0) := by rw [cell_of_blk b2]; rfl
  have d17 : W.cell? ⟨w.heap.size + 1, 17, none⟩ = some (.slice none 0 0) := by rw [cell_of_blk b3]; rfl
  have c18 : W.cell? ⟨w.heap.size, 18, none⟩ = some (.slice none 0 0) := by rw [cell_of_blk b2]; rfl
  have d18 : W.cell? ⟨w.heap.size + 1, 18, none⟩ = some (.slice none 0 0) := by rw [cell_of_blk b3]; rfl
  have c19 : W.cell? ⟨w.heap.size, 19, none⟩ = some (.int .u32 0) := by rw [cell_of_blk b2]; rfl
  have d19 : W.cell? ⟨w.heap.size + 1, 19, none⟩ = some (.int .u32 0) := by rw [cell_of_blk b3]; rfl
  have c20 : W.cell? ⟨w.heap.size, 20, none⟩ = some (.int .u32 0) := by rw [cell_of_blk b2]; rfl
  have d20 : W.cell? ⟨w.heap.size + 1, 20, none⟩ = some (.int .u32 0) := by rw [cell_of_blk b3]; rfl
  have c21 : W.cell? ⟨w.heap.size, 21, none⟩ = some (.string ⟨#[]⟩) := by rw [cell_of_blk b2]; rfl
  have d21 : W.cell? ⟨w.heap.size + 1, 21, none⟩ = some (.string ⟨#[]⟩) := by rw [cell_of_blk b3]; rfl
  have c22 : W.cell? ⟨w.heap.size, 22, none⟩ = some (.string ⟨#[]⟩) := by rw [cell_of_blk b2]; rfl
  have d22 : W.cell? ⟨w.heap.size + 1, 22, none⟩ = some (.string ⟨#[]⟩) := by rw [cell_of_blk b3]; rfl
  have c23 : W.cell? ⟨w.heap.size, 23, none⟩ = some (.string ⟨#[]⟩) := by rw [cell_of_blk b2]; rfl
  have d23 : W.cell? ⟨w.heap.size + 1, 23, none⟩ = some (.string ⟨#[]⟩) := by rw [cell_of_blk b3]; rfl
  have SA := Lib.hid (sameAttrsE a b c d e f g A A' n cap cap' l W hn hl (Kd.C_below hC hbl) (Kd.C_below hC' hbl) hc hc')
  have HW := Lib.hid hW
  have HB := Lib.hid hbl
  have B2 := Lib.hid b2
  have B3 := Lib.hid b3
  clear hW hbl b2 b3 hC hC' hn
  go_enter Tryz.func22, Tryz.ntmps22
  go_wp2_with (first
    | refine wpList_boxTo rfl 29 _ rfl (some 2) rfl w.heap.size rfl (pAt a b c d e f g (.slice A n cap)) rfl ?_
    | (refine wpList_boxTo rfl 29 _ rfl (some 3) rfl (w.heap.size + 1) (by simp) (pAt a b c d e f g (.slice A' n cap')) rfl ?_; rw [HW.out])
    | (go_at_call 62; refine (sameExts0 _).mono ?_; rintro e w' ⟨rfl, rfl⟩)
    | (go_at_call 33; refine SA.out.mono ?_))
  rintro e W2 ⟨rfl, hb⟩
  have l2 := lt_of_blk B2.out
  have l3 := lt_of_blk B3.out
  have e17 : W2.cell? ⟨w.heap.size, 17, none⟩ = some (.slice none 0 0) := by rw [cell_kept (hb.block _ l2)]; exact c17
  have f17 : W2.cell? ⟨w.heap.size + 1, 17, none⟩ = some (.slice none 0 0) := by rw [cell_kept (hb.block _ l3)]; exact d17
  have e18 : W2.cell? ⟨w.heap.size, 18, none⟩ = some (.slice none 0 0) := by rw [cell_kept (hb.block _ l2)]; exact c18
  have f18 : W2.cell? ⟨w.heap.size + 1, 18, none⟩ = some (.slice none 0 0) := by rw [cell_kept (hb.block _ l3)]; exact d18
  have e19 : W2.cell? ⟨w.heap.size, 19, none⟩ = some (.int .u32 0) := by rw [cell_kept (hb.block _ l2)]; exact c19
  have f19 : W2.cell? ⟨w.heap.size + 1, 19, none⟩ = some (.int .u32 0) := by rw [cell_kept (hb.block _ l3)]; exact d19
  have e20 : W2.cell? ⟨w.heap.size, 20, none⟩ = some (.int .u32 0) := by rw [cell_kept (hb.block _ l2)]; exact c20
  have f20 : W2.cell? ⟨w.heap.size + 1, 20, none⟩ = some (.int .u32 0) := by rw [cell_kept (hb.block _ l3)]; exact d20
  have e21 : W2.cell? ⟨w.heap.size, 21, none⟩ = some (.string ⟨#[]⟩) := by rw [cell_kept (hb.block _ l2)]; exact c21
  have f21 : W2.cell? ⟨w.heap.size + 1, 21, none⟩ = some (.string ⟨#[]⟩) := by rw [cell_kept (hb.block _ l3)]; exact d21
  have e22 : W2.cell? ⟨w.heap.size, 22, none⟩ = some (.string ⟨#[]⟩) := by rw [cell_kept (hb.block _ l2)]; exact c22
  have f22 : W2.cell? ⟨w.heap.size + 1, 22, none⟩ = some (.string ⟨#[]⟩) := by rw [cell_kept (hb.block _ l3)]; exact d22
  have e23 : W2.cell? ⟨w.heap.size, 23, none⟩ = some (.string ⟨#[]⟩) := by rw [cell_kept (hb.block _ l2)]; exact c23
  have f23 : W2.cell? ⟨w.heap.size + 1, 23, none⟩ = some (.string ⟨#[]⟩) := by rw [cell_kept (hb.block _ l3)]; exact d23
  have HF := Lib.hid (HB.out.trans (hb.mono HB.out.size))
  clear hb l2 l3 B2 B3 HB HW SA c0 d0 c1 d1 c2 d2 c3 d3 c4 d4 c5 d5 c6 d6 c7 d7 c8 d8 c9 d9 c10 d10 c11 d11 c12 d12 c13 d13 c14 d14 c15 d15 c16 d16 c17 d17 c18 d18 c19 d19 c20 d20 c21 d21 c22 d22 c23 d23
  go_wp2_with (go_at_call 62; refine (sameExts0 _).mono ?_; rintro e w' ⟨rfl, rfl⟩)
  go_loop [130] (fun i => i = .int .i64 0) (fun _ => 0)
  case atStart => rfl
  case round =>
    subst hrel
    go_wp2
    go_ret
    exact ⟨rfl, HF.out⟩
end Go.Proofs.YtmenkckgpiafiaaGreat
namespace Go.Proofs.YtmenkckgpiafiaaGreat
open Go.RowKit Go.Great Go.Proofs.YtmenkckgpiafiaaGreatW.PrintWords Go.Proofs.YtmenkckgpiafiaaGreatW.PrintLast Go.Proofs.YtmenkckgpiafiaaGreatW.PrintMore Go.Proofs.YtmenkckgpiafiaaGreat.KK
/-- Attributes of so many extensions have nothing but what their flags tell. -/
def toldB (a b c d e f g : Int) (n : Nat) : Bool :=
  (bits .andNot .u32 a 2147483663 == 0) && !decide (8 < n) && ((((flg a 1 || b == 0) && (flg a 2 || (c == 0 && d == 0))) && (flg a 4 || e == 0)) && (flg a 8 || (f == 0 && g == 0))) && (flg a 2147483648 || n == 0)
def toldS21 (q : Nat) (W0 : World) (x : Bool) (a' : Act) (w' : World) : Prop := W0 = w' ∧ ∃ (x0 x2 x3 x4 x5 x6 x7 x8 x9 x10 x11 x12 x13 x14 x15 x16 x17 x18 x19 x20 x22 x23 x24 x25 x26 x27 x28 x29 x30 x31 x32 x33 x34 x35 x36 x37 x38 x39 x40 x41 x42 x43 x44 x45 x46 x47 x48 x49 x50 x51 x52 x53 x54 x55 x56 x57 x58 x59 x60 x61 x62 x63 x64 x65 x66 x67 x68 x69 x70 x71 x72 x73 x74 x75 x76 : Value) (u : Bool), u = x ∧ a' = ⟨#[x0, (.pointer (some ⟨q, 0, none⟩)), x2, x3, x4, x5, x6, x7, x8, x9, x10, x11, x12, x13, x14, x15, x16, x17, x18, x19, x20, (.bool u), x22, x23, x24, x25, x26, x27, x28, x29, x30, x31, x32, x33, x34, x35, x36, x37, x38, x39, x40, x41, x42, x43, x44, x45, x46, x47, x48, x49, x50, x51, x52, x53, x54, x55, x56, x57, x58, x59, x60, x61, x62, x63, x64, x65, x66, x67, x68, x69, x70, x71, x72, x73, x74, x75, x76], []⟩
def toldS37 (q : Nat) (W0 : World) (x : Bool) (a' : Act) (w' : World) : Prop := W0 = w' ∧ ∃ (x0 x2 x3 x4 x5 x6 x7 x8 x9 x10 x11 x12 x13 x14 x15 x16 x17 x18 x19 x20 x21 x22 x23 x24 x25 x26 x27 x28 x29 x30 x31 x32 x33 x34 x35 x36 x38 x39 x40 x41 x42 x43 x44 x45 x46 x47 x48 x49 x50 x51 x52 x53 x54 x55 x56 x57 x58 x59 x60 x61 x62 x63 x64 x65 x66 x67 x68 x69 x70 x71 x72 x73 x74 x75 x76 : Value) (u : Bool), u = x ∧ a' = ⟨#[x0, (.pointer (some ⟨q, 0, none⟩)), x2, x3, x4, x5, x6, x7, x8, x9, x10, x11, x12, x13, x14, x15, x16, x17, x18, x19, x20, x21, x22, x23, x24, x25, x26, x27, x28, x29, x30, x31, x32, x33, x34, x35, x36, (.bool u), x38, x39, x40, x41, x42, x43, x44, x45, x46, x47, x48, x49, x50, x51, x52, x53, x54, x55, x56, x57, x58, x59, x60, x61, x62, x63, x64, x65, x66, x67, x68, x69, x70, x71, x72, x73, x74, x75, x76], []⟩
def toldS48 (q : Nat) (W0 : World) (x : Bool) (a' : Act) (w' : World) : Prop := W0 = w' ∧ ∃ (x0 x2 x3 x4 x5 x6 x7 x8 x9 x10 x11 x12 x13 x14 x15 x16 x17 x18 x19 x20 x21 x22 x23 x24 x25 x26 x27 x28 x29 x30 x31 x32 x33 x34 x35 x36 x37 x38 x39 x40 x41 x42 x43 x44 x45 x46 x47 x49 x50 x51 x52 x53 x54 x55 x56 x57 x58 x59 x60 x61 x62 x63 x64 x65 x66 x67 x68 x69 x70 x71 x72 x73 x74 x75 x76 : Value) (u : Bool), u = x ∧ a' = ⟨#[x0, (.pointer (some ⟨q, 0, none⟩)), x2, x3, x4, x5, x6, x7, x8, x9, x10, x11, x12, x13, x14, x15, x16, x17, x18, x19, x20, x21, x22, x23, x24, x25, x26, x27, x28, x29, x30, x31, x32, x33, x34, x35, x36, x37, x38, x39, x40, x41, x42, x43, x44, x45, x46, x47, (.bool u), x49, x50, x51, x52, x53, x54, x55, x56, x57, x58, x59, x60, x61, x62, x63, x64, x65, x66, x67, x68, x69, x70, x71, x72, x73, x74, x75, x76], []⟩
def toldS64 (q : Nat) (W0 : World) (x : Bool) (a' : Act) (w' : World) : Prop := W0 = w' ∧ ∃ (x0 x2 x3 x4 x5 x6 x7 x8 x9 x10 x11 x12 x13 x14 x15 x16 x17 x18 x19 x20 x21 x22 x23 x24 x25 x26 x27 x28 x29 x30 x31 x32 x33 x34 x35 x36 x37 x38 x39 x40 x41 x42 x43 x44 x45 x46 x47 x48 x49 x50 x51 x52 x53 x54 x55 x56 x57 x58 x59 x60 x61 x62 x63 x65 x66 x67 x68 x69 x70 x71 x72 x73 x74 x75 x76 : Value) (u : Bool), u = x ∧ a' = ⟨#[x0, (.pointer (some ⟨q, 0, none⟩)), x2, x3, x4, x5, x6, x7, x8, x9, x10, x11, x12, x13, x14, x15, x16, x17, x18, x19, x20, x21, x22, x23, x24, x25, x26, x27, x28, x29, x30, x31, x32, x33, x34, x35, x36, x37, x38, x39, x40, x41, x42, x43, x44, x45, x46, x47, x48, x49, x50, x51, x52, x53, x54, x55, x56, x57, x58, x59, x60, x61, x62, x63, (.bool u), x65, x66, x67, x68, x69, x70, x71, x72, x73, x74, x75, x76], []⟩
set_option maxRecDepth 5000 in
set_option maxHeartbeats 6400000 in
theorem toldC2 (a b c d e f g : Int) (A : Option Addr) (n cap : Nat) (w : World) :
    Calls Tryz.prog 40 #[.agg (at8 a b c d e f g (.slice A n cap))] w fun r w' => r = .returned (.bool (toldB a b c d e f g n)) ∧ Below w.heap.size w w' := by
  obtain ⟨W0, hW0⟩ : ∃ W, w.alloc (.cells (at8 a b c d e f g (.slice A n cap)) 26) = W := ⟨_, rfl⟩
  have hb0 : Below w.heap.size w W0 := by rw [← hW0]; exact (Below.refl _ _).alloc (Nat.le_refl _) _
  have k0 : W0.heap[w.heap.size]? = some (.cells (at8 a b c d e f g (.slice A n cap)) 26 (0, 0)) := by rw [← hW0]; exact heap_alloc_new _ _
  obtain ⟨q, hq⟩ : ∃ q, q = w.heap.size := ⟨_, rfl⟩
  rw [← hq] at k0
  have c0 : W0.cell? ⟨q, 0, none⟩ = some (.int .u32 a) := by rw [cell_of_blk k0]; rfl
  have c1 : W0.cell? ⟨q, 1, none⟩ = some (.int .u64 b) := by rw [cell_of_blk k0]; rfl
  have c2 : W0.cell? ⟨q, 2, none⟩ = some (.int .u32 c) := by rw [cell_of_blk k0]; rfl
  have c3 : W0.cell? ⟨q, 3, none⟩ = some (.int .u32 d) := by rw [cell_of_blk k0]; rfl
  have c4 : W0.cell? ⟨q, 4, none⟩ = some (.int .u32 e) := by rw [cell_of_blk k0]; rfl
  have c5 : W0.cell? ⟨q, 5, none⟩ = some (.int .u32 f) := by rw [cell_of_blk k0]; rfl
  have c6 : W0.cell? ⟨q, 6, none⟩ = some (.int .u32 g) := by rw [cell_of_blk k0]; rfl
  have c7 : W0.cell? ⟨q, 7, none⟩ = some (.slice A n cap) := by rw [cell_of_blk k0]; rfl
  have X0 := Lib.hid hW0
  have B0 := Lib.hid hb0
  have Q0 := Lib.hid hq
  clear hW0 hb0 k0 hq
  by_cases hz : (bits .andNot .u32 a 2147483663 == 0) = true
  case neg =>
    have hz' : (bits .andNot .u32 a 2147483663 != 0) = true := by simpa using hz
    have e0 : toldB a b c d e f g n = false := by simp [toldB, hz]
    rw [e0]
    clear hz e0
    go_enter Tryz.func40, Tryz.ntmps40
    go_wp2_with (refine wpList_boxTo rfl 26 _ rfl (some 1) rfl w.heap.size rfl (at8 a b c d e f g (.slice A n cap)) rfl ?_; rw [X0.out]; rw [← Q0.out])
    go_ret
    exact ⟨rfl, B0.out⟩
  case pos =>
  have hz' : (bits .andNot .u32 a 2147483663 != 0) = false := by simpa using hz
  by_cases hn : 8 < n
  · have e0 : toldB a b c d e f g n = false := by simp [toldB, hn]
    have d0 : decide ((n : Int) > 8) = true := by simp; omega
    have d1 : (8 : Int) < (n : Int) := by omega
    rw [e0]
    clear hz e0
    go_enter Tryz.func40, Tryz.ntmps40
    go_wp2_with (refine wpList_boxTo rfl 26 _ rfl (some 1) rfl w.heap.size rfl (at8 a b c d e f g (.slice A n cap)) rfl ?_; rw [X0.out]; rw [← Q0.out])
    go_ret
    exact ⟨rfl, B0.out⟩
  have d0 : decide ((n : Int) > 8) = false := by simp; omega
  have d1 : ¬ (8 : Int) < (n : Int) := by omega
  have e0 : toldB a b c d e f g n = (((((flg a 1 || b == 0) && (flg a 2 || (c == 0 && d == 0))) && (flg a 4 || e == 0)) && (flg a 8 || (f == 0 && g == 0))) && (flg a 2147483648 || n == 0)) := by simp [toldB, hz, hn]
  rw [e0]
  clear hz e0 hn
  go_enter Tryz.func40, Tryz.ntmps40
  go_upto_region 3 with (refine wpList_boxTo rfl 26 _ rfl (some 1) rfl w.heap.size rfl (at8 a b c d e f g (.slice A n cap)) rfl ?_; rw [X0.out]; rw [← Q0.out])
  clear hz' d0 d1
  refine wp_region_lit ?_
  refine wpList_cut 9 (toldS21 q W0 (flg a 1 || b == 0)) ?_ ?_
  · simp only [List.append_eq, List.cons_append, List.nil_append, List.take_succ_cons, List.take_zero]
    by_cases h1 : flg a 1 = true
    · have f1 : (bits .and .u32 a 1 != 0) = true := h1
      go_wp2_with fail
      exact ⟨rfl, _, _, _, _, _, _, _, _, _, _, _, _, _, _, _, _, _, _, _, _, _, _, _, _, _, _, _, _, _, _, _, _, _, _, _, _, _, _, _, _, _, _, _, _, _, _, _, _, _, _, _, _, _, _, _, _, _, _, _, _, _, _, _, _, _, _, _, _, _, _, _, _, _, _, _, true, by simp [h1], rfl⟩
    · have f1 : (bits .and .u32 a 1 != 0) = false := by simpa [flg] using h1
      by_cases h2 : b = 0
      · have g_b : (b == 0) = true := by simp [h2]
        go_wp2_with fail
        exact ⟨rfl, _, _, _, _, _, _, _, _, _, _, _, _, _, _, _, _, _, _, _, _, _, _, _, _, _, _, _, _, _, _, _, _, _, _, _, _, _, _, _, _, _, _, _, _, _, _, _, _, _, _, _, _, _, _, _, _, _, _, _, _, _, _, _, _, _, _, _, _, _, _, _, _, _, _, _, true, by simp [h2], rfl⟩
      · have g_b : (b == 0) = false := by simp [h2]
        go_wp2_with fail
        exact ⟨rfl, _, _, _, _, _, _, _, _, _, _, _, _, _, _, _, _, _, _, _, _, _, _, _, _, _, _, _, _, _, _, _, _, _, _, _, _, _, _, _, _, _, _, _, _, _, _, _, _, _, _, _, _, _, _, _, _, _, _, _, _, _, _, _, _, _, _, _, _, _, _, _, _, _, _, _, false, by simp [h1, h2], rfl⟩
  rintro a' w' ⟨rfl, x0, x2, x3, x4, x5, x6, x7, x8, x9, x10, x11, x12, x13, x14, x15, x16, x17, x18, x19, x20, x22, x23, x24, x25, x26, x27, x28, x29, x30, x31, x32, x33, x34, x35, x36, x37, x38, x39, x40, x41, x42, x43, x44, x45, x46, x47, x48, x49, x50, x51, x52, x53, x54, x55, x56, x57, x58, x59, x60, x61, x62, x63, x64, x65, x66, x67, x68, x69, x70, x71, x72, x73, x74, x75, x76, u, hu, rfl⟩
  simp only [List.append_eq, List.cons_append, List.nil_append, List.drop_succ_cons, List.drop_zero]
  have HU21 := Lib.hid hu
  clear hu
  cases u
  · go_wp2_with fail
    go_ret
    refine ⟨?_, B0.out⟩
    simp [← HU21.out]
  refine wpList_cut 16 (toldS37 q W0 (flg a 2 || (c == 0 && d == 0))) ?_ ?_
  · simp only [List.append_eq, List.cons_append, List.nil_append, List.take_succ_cons, List.take_zero]
    by_cases h1 : flg a 2 = true
    · have f1 : (bits .and .u32 a 2 != 0) = true := h1
      go_wp2_with fail
      exact ⟨rfl, _, _, _, _, _, _, _, _, _, _, _, _, _, _, _, _, _, _, _, _, _, _, _, _, _, _, _, _, _, _, _, _, _, _, _, _, _, _, _, _, _, _, _, _, _, _, _, _, _, _, _, _, _, _, _, _, _, _, _, _, _, _, _, _, _, _, _, _, _, _, _, _, _, _, _, true, by simp [h1], rfl⟩
    · have f1 : (bits .and .u32 a 2 != 0) = false := by simpa [flg] using h1
      by_cases h2 : c = 0
      · have g_c : (c == 0) = true := by simp [h2]
        by_cases h3 : d = 0
        · have g_d : (d == 0) = true := by simp [h3]
          go_wp2_with fail
          exact ⟨rfl, _, _, _, _, _, _, _, _, _, _, _, _, _, _, _, _, _, _, _, _, _, _, _, _, _, _, _, _, _, _, _, _, _, _, _, _, _, _, _, _, _, _, _, _, _, _, _, _, _, _, _, _, _, _, _, _, _, _, _, _, _, _, _, _, _, _, _, _, _, _, _, _, _, _, _, true, by simp [h2, h3], rfl⟩
        · have g_d : (d == 0) = false := by simp [h3]
          go_wp2_with fail
          exact ⟨rfl, _, _, _, _, _, _, _, _, _, _, _, _, _, _, _, _, _, _, _, _, _, _, _, _, _, _, _, _, _, _, _, _, _, _, _, _, _, _, _, _, _, _, _, _, _, _, _, _, _, _, _, _, _, _, _, _, _, _, _, _, _, _, _, _, _, _, _, _, _, _, _, _, _, _, _, false, by simp [h1, h2, h3], rfl⟩
      · have g_c : (c == 0) = false := by simp [h2]
        go_wp2_with fail
        exact ⟨rfl, _, _, _, _, _, _, _, _, _, _, _, _, _, _, _, _, _, _, _, _, _, _, _, _, _, _, _, _, _, _, _, _, _, _, _, _, _, _, _, _, _, _, _, _, _, _, _, _, _, _, _, _, _, _, _, _, _, _, _, _, _, _, _, _, _, _, _, _, _, _, _, _, _, _, _, false, by simp [h1, h2], rfl⟩
  rintro a' w' ⟨rfl, x0, x2, x3, x4, x5, x6, x7, x8, x9, x10, x11, x12, x13, x14, x15, x16, x17, x18, x19, x20, x21, x22, x23, x24, x25, x26, x27, x28, x29, x30, x31, x32, x33, x34, x35, x36, x38, x39, x40, x41, x42, x43, x44, x45, x46, x47, x48, x49, x50, x51, x52, x53, x54, x55, x56, x57, x58, x59, x60, x61, x62, x63, x64, x65, x66, x67, x68, x69, x70, x71, x72, x73, x74, x75, x76, u, hu, rfl⟩
  simp only [List.append_eq, List.cons_append, List.nil_append, List.drop_succ_cons, List.drop_zero]
  have HU37 := Lib.hid hu
  clear hu
  cases u
  · go_wp2_with fail
    go_ret
    refine ⟨?_, B0.out⟩
    simp [← HU21.out, ← HU37.out]
  refine wpList_cut 11 (toldS48 q W0 (flg a 4 || e == 0)) ?_ ?_
  · simp only [List.append_eq, List.cons_append, List.nil_append, List.take_succ_cons, List.take_zero]
    by_cases h1 : flg a 4 = true
    · have f1 : (bits .and .u32 a 4 != 0) = true := h1
      go_wp2_with fail
      exact ⟨rfl, _, _, _, _, _, _, _, _, _, _, _, _, _, _, _, _, _, _, _, _, _, _, _, _, _, _, _, _, _, _, _, _, _, _, _, _, _, _, _, _, _, _, _, _, _, _, _, _, _, _, _, _, _, _, _, _, _, _, _, _, _, _, _, _, _, _, _, _, _, _, _, _, _, _, _, true, by simp [h1], rfl⟩
    · have f1 : (bits .and .u32 a 4 != 0) = false := by simpa [flg] using h1
      by_cases h2 : e = 0
      · have g_e : (e == 0) = true := by simp [h2]
        go_wp2_with fail
        exact ⟨rfl, _, _, _, _, _, _, _, _, _, _, _, _, _, _, _, _, _, _, _, _, _, _, _, _, _, _, _, _, _, _, _, _, _, _, _, _, _, _, _, _, _, _, _, _, _, _, _, _, _, _, _, _, _, _, _, _, _, _, _, _, _, _, _, _, _, _, _, _, _, _, _, _, _, _, _, true, by simp [h2], rfl⟩
      · have g_e : (e == 0) = false := by simp [h2]
        go_wp2_with fail
        exact ⟨rfl, _, _, _, _, _, _, _, _, _, _, _, _, _, _, _, _, _, _, _, _, _, _, _, _, _, _, _, _, _, _, _, _, _, _, _, _, _, _, _, _, _, _, _, _, _, _, _, _, _, _, _, _, _, _, _, _, _, _, _, _, _, _, _, _, _, _, _, _, _, _, _, _, _, _, _, false, by simp [h1, h2], rfl⟩
  rintro a' w' ⟨rfl, x0, x2, x3, x4, x5, x6, x7, x8, x9, x10, x11, x12, x13, x14, x15, x16, x17, x18, x19, x20, x21, x22, x23, x24, x25, x26, x27, x28, x29, x30, x31, x32, x33, x34, x35, x36, x37, x38, x39, x40, x41, x42, x43, x44, x45, x46, x47, x49, x50, x51, x52, x53, x54, x55, x56, x57, x58, x59, x60, x61, x62, x63, x64, x65, x66, x67, x68, x69, x70, x71, x72, x73, x74, x75, x76, u, hu, rfl⟩
  simp only [List.append_eq, List.cons_append, List.nil_append, List.drop_succ_cons, List.drop_zero]
  have HU48 := Lib.hid hu
  clear hu
  cases u
  · go_wp2_with fail
    go_ret
    refine ⟨?_, B0.out⟩
    simp [← HU21.out, ← HU37.out, ← HU48.out]
  refine wpList_cut 16 (toldS64 q W0 (flg a 8 || (f == 0 && g == 0))) ?_ ?_
  · simp only [List.append_eq, List.cons_append, List.nil_append, List.take_succ_cons, List.take_zero]
    by_cases h1 : flg a 8 = true
    · have f1 : (bits .and .u32 a 8 != 0) = true := h1
      go_wp2_with fail
      exact ⟨rfl, _, _, _, _, _, _, _, _, _, _, _, _, _, _, _, _, _, _, _, _, _, _, _, _, _, _, _, _, _, _, _, _, _, _, _, _, _, _, _, _, _, _, _, _, _, _, _, _, _, _, _, _, _, _, _, _, _, _, _, _, _, _, _, _, _, _, _, _, _, _, _, _, _, _, _, true, by simp [h1], rfl⟩
    · have f1 : (bits .and .u32 a 8 != 0) = false := by simpa [flg] using h1
      by_cases h2 : f = 0
      · have g_f : (f == 0) = true := by simp [h2]
        by_cases h3 : g = 0
        · have g_g : (g == 0) = true := by simp [h3]
          go_wp2_with fail
          exact ⟨rfl, _, _, _, _, _, _, _, _, _, _, _, _, _, _, _, _, _, _, _, _, _, _, _, _, _, _, _, _, _, _, _, _, _, _, _, _, _, _, _, _, _, _, _, _, _, _, _, _, _, _, _, _, _, _, _, _, _, _, _, _, _, _, _, _, _, _, _, _, _, _, _, _, _, _, _, true, by simp [h2, h3], rfl⟩
        · have g_g : (g == 0) = false := by simp [h3]
          go_wp2_with fail
          exact ⟨rfl, _, _, _, _, _, _, _, _, _, _, _, _, _, _, _, _, _, _, _, _, _, _, _, _, _, _, _, _, _, _, _, _, _, _, _, _, _, _, _, _, _, _, _, _, _, _, _, _, _, _, _, _, _, _, _, _, _, _, _, _, _, _, _, _, _, _, _, _, _, _, _, _, _, _, _, false, by simp [h1, h2, h3], rfl⟩
      · have g_f : (f == 0) = false := by simp [h2]
        go_wp2_with fail
        exact ⟨rfl, _, _, _, _, _, _, _, _, _, _, _, _, _, _, _, _, _, _, _, _, _, _, _, _, _, _, _, _, _, _, _, _, _, _, _, _, _, _, _, _, _, _, _, _, _, _, _, _, _, _, _, _, _, _, _, _, _, _, _, _, _, _, _, _, _, _, _, _, _, _, _, _, _, _, _, false, by simp [h1, h2], rfl⟩
  rintro a' w' ⟨rfl, x0, x2, x3, x4, x5, x6, x7, x8, x9, x10, x11, x12, x13, x14, x15, x16, x17, x18, x19, x20, x21, x22, x23, x24, x25, x26, x27, x28, x29, x30, x31, x32, x33, x34, x35, x36, x37, x38, x39, x40, x41, x42, x43, x44, x45, x46, x47, x48, x49, x50, x51, x52, x53, x54, x55, x56, x57, x58, x59, x60, x61, x62, x63, x65, x66, x67, x68, x69, x70, x71, x72, x73, x74, x75, x76, u, hu, rfl⟩
  simp only [List.append_eq, List.cons_append, List.nil_append, List.drop_succ_cons, List.drop_zero]
  have HU64 := Lib.hid hu
  clear hu
  cases u
  · go_wp2_with fail
    go_ret
    refine ⟨?_, B0.out⟩
    simp [← HU21.out, ← HU37.out, ← HU48.out, ← HU64.out]
  by_cases h1 : flg a 2147483648 = true
  · have f1 : (bits .and .u32 a 2147483648 != 0) = true := h1
    go_wp2_with fail
    go_ret
    refine ⟨?_, B0.out⟩
    simp [h1, ← HU21.out, ← HU37.out, ← HU48.out, ← HU64.out]
  · have f1 : (bits .and .u32 a 2147483648 != 0) = false := by simpa [flg] using h1
    have h2 : flg a 2147483648 = false := by simpa using h1
    go_wp2_with fail
    go_ret
    refine ⟨?_, B0.out⟩
    simp [h2, ← HU21.out, ← HU37.out, ← HU48.out, ← HU64.out]
    rw [Bool.eq_iff_iff]
    simp
end Go.Proofs.YtmenkckgpiafiaaGreat
namespace Go.Proofs.YtmenkckgpiafiaaGreat
open Go.RowKit Go.Great Go.Proofs.YtmenkckgpiafiaaGreatW.PrintWords Go.Proofs.YtmenkckgpiafiaaGreatW.PrintLast Go.Proofs.YtmenkckgpiafiaaGreatW.PrintMore Go.Proofs.YtmenkckgpiafiaaGreat.KK
section
variable {P : Program} {ops : Array Oper} {o : Oper} {a : Act} {w : World} {K : Act → World → Prop} {Q : Exit → Act → World → Prop} {E : Prop}
/-- At a step of a region that draws its order: an append whose run is known. -/
theorem step_append_run (hgd : o.guard = none) (s x : Operand) (t : TypeId) (ho : o.op = .call { callee := .builtin .append, args := #[s, x], argTypes := #[t, t] }) (vs vx : Value) (hs : a.eval s = vs) (hx : a.eval x = vx)
    (v' : Value) (w' : World) (hr : (Builtin.append_ #[t, t] o.type #[vs, vx]).run P w = .ok v' w') (h : K (a.put o.dst v') w') :
    if Region.wanted o (yielded ops a.tmps) = true then Oper.wp P o a w K Q else E := by
  have hw : Region.wanted o (yielded ops a.tmps) = true := by simp [Region.wanted, hgd]
  rw [if_pos hw]
  exact Lib.wp_append_run w s x t t ho vs vx hs hx v' w' hr h
end
theorem yieldsIf_load_row {P : Program} {ops : Array Oper} {S : World → Prop} {op : Oper} {a : Act} (hw : Region.wanted op (yielded ops a.tmps) = true) (ty : TypeId) (x : Operand) (ho : op.op = .load ty x)
    (g : Nat) (hx : a.eval x = .pointer (some ⟨g, 0, none⟩)) (t : TypeId) (cs : Array Value) (fr : Nat × Nat) (d : TypeDesc) (hS : ∀ w, S w → w.heap[g]? = some (.cells cs t fr))
    (hu : P.underlying ty = some d) (hd : (match d with | .struct _ | .array _ _ => true | _ => false) = true) (hi : (P.info? ty).map (·.size) = some cs.size) : YieldsIf P ops S op (.agg cs) a :=
  .inl ⟨hw, fun w hw' => by
    unfold execOp
    simp only [ho, hx, Instr.loadAt, Instr.sureAddr, Sem.run_bind, Sem.run_pure, Result.andThen_ok, run_loadVar_row w g t ty cs fr d (hS w hw') hu hd hi]⟩
theorem wpAnyH_takeD {P : Program} {md : Region.Mode} {ops : Array Oper} {Q : Exit → Act → World → Prop} {S : World → Prop} (d : Option Tmp) {i : Nat} {oi : Oper} {v : Value} {fuel : Nat} {listed : Array Bool} {a : Act} {w : World} (hi : ops[i]? = some oi) (hd : oi.dst = d)
    (hs : Region.noSelect ops = true) (hf : Region.free md ops listed i = true) (hr : (Region.ready md ops listed).contains i = true)
    (hQ : ∀ c a w, Q (.panic c) (a.put oi.dst v) w → Q (.panic c) a w) (hy : YieldsIf P ops S oi v a) (hS : S w)
    (h : wpAnyH P md ops Q S fuel (listed.setIfInBounds i true) (a.put d v) w) : wpAnyH P md ops Q S (fuel + 1) listed a w := by
  subst hd
  exact wpAnyH_take hi hs hf hr hQ hy hS h
theorem app_nil (w : World) : (Builtin.append_ #[24, 24] 24 #[.slice none 0 0, .slice none 0 0]).run Tryz.prog w = .ok (.slice none 0 0) w := by kernel_rfl
theorem app_none (w : World) (A : Option Addr) (cap : Nat) : (Builtin.append_ #[24, 24] 24 #[.slice none 0 0, .slice A 0 cap]).run Tryz.prog w = .ok (.slice none 0 0) w := by
  cases A <;> kernel_rfl
/-- Extensions' cells. -/
def iC : List S89 → List Value
  | [] => []
  | e :: r => .string e.f0 :: .string e.f1 :: iC r
theorem iC_len (l : List S89) : (iC l).length = l.length * 2 := by
  induction l with
  | nil => rfl
  | cons e r ih => simp [iC, ih]; omega
theorem iC_one (l : List S89) : ∀ u ∈ iC l, u.oneCell' = true := by
  induction l with
  | nil => intro u h; simp [iC] at h
  | cons e r ih =>
    intro u h
    rcases List.mem_cons.1 h with rfl | h
    · rfl
    · rcases List.mem_cons.1 h with rfl | h
      · rfl
      · exact ih u h
theorem iC_at (l : List S89) (j : Nat) (e : S89) (h : l[j]? = some e) : (iC l)[j * 2]? = some (.string e.f0) ∧ (iC l)[j * 2 + 1]? = some (.string e.f1) := by
  induction l generalizing j with
  | nil => simp at h
  | cons x r ih =>
    match j with
    | 0 =>
      obtain rfl : x = e := by simpa using h
      exact ⟨rfl, rfl⟩
    | j + 1 =>
      have := ih j (by simpa using h)
      rw [show (j + 1) * 2 = j * 2 + 1 + 1 from by omega]
      exact this
theorem iC_cells {w : World} {A : Option Addr} {l : List S89} (h : Kd.C k89 w A l.length l) (hl : 0 < l.length) : ∃ x p, A = some ⟨x, p, none⟩ ∧ x < w.heap.size ∧ ∀ j u, (iC l)[j]? = some u → w.cell? (Addr.add ⟨x, p, none⟩ j) = some u := by
  obtain ⟨ad, rfl, h0, _⟩ := at_T89 h 0 (by omega) (by omega)
  have hsp : ad.spot = none := by
    have := spot0 h0
    simpa [Addr.add] using this
  obtain ⟨x, p, sp⟩ := ad
  have hsp' : sp = none := hsp
  subst hsp'
  refine ⟨x, p, rfl, by have := World.block_lt_of_cell? w _ h0; simpa [Addr.add] using this, fun j u hu => ?_⟩
  have hj : j < l.length * 2 := by rw [← iC_len]; exact (List.getElem?_eq_some_iff.1 hu).1
  have hk : j / 2 < l.length := by omega
  obtain ⟨ad, e1, h1, h2⟩ := at_T89 h ((j / 2 : Nat) : Int) (by omega) (by omega)
  obtain rfl := Option.some.inj e1
  have he : l[j / 2]? = some l[j / 2] := List.getElem?_eq_getElem hk
  have hr : rd_T89 l ((j / 2 : Nat) : Int) = l[j / 2] := by
    unfold rd_T89
    rw [Int.toNat_natCast, List.getD_eq_getElem?_getD, he]
    rfl
  rw [hr, Int.toNat_natCast] at h1 h2
  rw [add_plain] at h1 h2 ⊢
  obtain ⟨g1, g2⟩ := iC_at l _ _ he
  rcases Nat.mod_two_eq_zero_or_one j with hm | hm
  · have e : j / 2 * 2 = j := by omega
    rw [e] at g1 h1
    rw [g1] at hu
    rw [h1, Option.some.inj hu]
  · have e : j / 2 * 2 + 1 = j := by omega
    rw [e] at g2
    rw [show p + j / 2 * 2 + 1 = p + j from by omega] at h2
    rw [g2] at hu
    rw [h2, Option.some.inj hu]
/-- Behind the two appends: the extensions' cells lie in a row anew. -/
def AppG (w wx : World) (cs : Array Value) (l : List S89) (V : Option Addr) : Prop :=
  Below w.heap.size w wx ∧ wx.heap[w.heap.size]? = some (.cells cs 29 (0, 0)) ∧ (l = [] ∨ ∃ gg, V = some ⟨gg, 0, none⟩ ∧ gg < wx.heap.size ∧ ∀ j u, (iC l)[j]? = some u → wx.cell? ⟨gg, j, none⟩ = some u)
theorem infoE : (Tryz.prog.info? 89).map (fun i => (i.zero, i.size, i.bytes)) = some (some (.agg #[.string ⟨#[]⟩, .string ⟨#[]⟩]), 2, 32) := by kernel_rfl
theorem blk_below {w w' : World} {b : Nat} {o : Obj} (hb : Below w.heap.size w w') (h : w.heap[b]? = some o) : w'.heap[b]? = some o := by
  have : b < w.heap.size := (Array.getElem?_eq_some_iff.1 h).1
  rw [hb.block _ this]; exact h
/-- How long the extensions' texts are. -/
def exSz : List S89 → Nat
  | [] => 0
  | e :: r => e.f0.size + e.f1.size + exSz r
theorem exSz_app (a b : List S89) : exSz (a ++ b) = exSz a + exSz b := by
  induction a with
  | nil => simp [exSz]
  | cons x r ih => simp [exSz, ih]; omega
theorem exSz_le (l : List S89) (h : ∀ e ∈ l, e.f0.size ≤ 2147483647 ∧ e.f1.size ≤ 2147483647) : exSz l ≤ l.length * 4294967294 := by
  induction l with
  | nil => simp [exSz]
  | cons x r ih =>
    have h1 := h x List.mem_cons_self
    have h2 := ih (fun e he => h e (List.mem_cons_of_mem _ he))
    simp only [exSz, List.length_cons]
    omega
set_option maxRecDepth 100000 in
set_option maxHeartbeats 8000000 in
theorem packetA (a b c d e f g : Int) (A : Option Addr) (n cap : Nat) (l : List S89) (w : World) (hn : n = l.length) (hr : Kd.C k89 w A l.length l) (hc : l.length ≤ cap) (hbd : ∀ e ∈ l, e.f0.size ≤ 2147483647 ∧ e.f1.size ≤ 2147483647) :
    Calls Tryz.prog 19 #[.agg (pAt a b c d e f g (.slice A n cap))] w fun e' w' => (∃ r, e' = .returned (.bool r) ∧ (r = true → toldB a b c d e f g n = true ∧ exSz l ≤ 2000)) ∧ Below w.heap.size w w' := by
  obtain ⟨W0, hW0⟩ : ∃ W, w.alloc (.cells (pAt a b c d e f g (.slice A n cap)) 29) = W := ⟨_, rfl⟩
  have hb0 : Below w.heap.size w W0 := by rw [← hW0]; exact (Below.refl _ _).alloc (Nat.le_refl _) _
  have k0 : W0.heap[w.heap.size]? = some (.cells (pAt a b c d e f g (.slice A n cap)) 29 (0, 0)) := by rw [← hW0]; exact heap_alloc_new _ _
  have c0 : W0.cell? ⟨w.heap.size, 0, none⟩ = some (.int .i64 105) := by rw [cell_of_blk k0]; rfl
  have c2 : W0.cell? ⟨w.heap.size, 2, none⟩ = some (.string ⟨#[]⟩) := by rw [cell_of_blk k0]; rfl
  have c3 : W0.cell? ⟨w.heap.size, 3, none⟩ = some (.string ⟨#[]⟩) := by rw [cell_of_blk k0]; rfl
  have c4 : W0.cell? ⟨w.heap.size, 4, none⟩ = some (.string ⟨#[]⟩) := by rw [cell_of_blk k0]; rfl
  have c8 : W0.cell? ⟨w.heap.size, 8, none⟩ = some (.string ⟨#[]⟩) := by rw [cell_of_blk k0]; rfl
  have c21 : W0.cell? ⟨w.heap.size, 21, none⟩ = some (.string ⟨#[]⟩) := by rw [cell_of_blk k0]; rfl
  have c22 : W0.cell? ⟨w.heap.size, 22, none⟩ = some (.string ⟨#[]⟩) := by rw [cell_of_blk k0]; rfl
  have c23 : W0.cell? ⟨w.heap.size, 23, none⟩ = some (.string ⟨#[]⟩) := by rw [cell_of_blk k0]; rfl
  have c17 : W0.cell? ⟨w.heap.size, 17, none⟩ = some (.slice none 0 0) := by rw [cell_of_blk k0]; rfl
  have c18 : W0.cell? ⟨w.heap.size, 18, none⟩ = some (.slice none 0 0) := by rw [cell_of_blk k0]; rfl
  have c9 : W0.cell? ⟨w.heap.size, 9, none⟩ = some (.int .u32 a) := by rw [cell_of_blk k0]; rfl
  have c10 : W0.cell? ⟨w.heap.size, 10, none⟩ = some (.int .u64 b) := by rw [cell_of_blk k0]; rfl
  have c11 : W0.cell? ⟨w.heap.size, 11, none⟩ = some (.int .u32 c) := by rw [cell_of_blk k0]; rfl
  have c12 : W0.cell? ⟨w.heap.size, 12, none⟩ = some (.int .u32 d) := by rw [cell_of_blk k0]; rfl
  have c13 : W0.cell? ⟨w.heap.size, 13, none⟩ = some (.int .u32 e) := by rw [cell_of_blk k0]; rfl
  have c14 : W0.cell? ⟨w.heap.size, 14, none⟩ = some (.int .u32 f) := by rw [cell_of_blk k0]; rfl
  have c15 : W0.cell? ⟨w.heap.size, 15, none⟩ = some (.int .u32 g) := by rw [cell_of_blk k0]; rfl
  have c16 : W0.cell? ⟨w.heap.size, 16, none⟩ = some (.slice A n cap) := by rw [cell_of_blk k0]; rfl
  have X0 := Lib.hid hW0
  have B0 := Lib.hid hb0
  have K0 := Lib.hid k0
  have HRR := Lib.hid hr
  have HR := Lib.hid hr
  have HN := Lib.hid hn
  clear hW0 hb0 k0 hr hn
  go_enter Tryz.func19, Tryz.ntmps19
  go_wp2_with (refine wpList_boxTo rfl 29 _ rfl (some 1) rfl w.heap.size rfl (pAt a b c d e f g (.slice A n cap)) rfl ?_; rw [X0.out])
  refine (toldC2 a b c d e f g A n cap W0).mono ?_
  rintro r w1 ⟨rfl, hb1⟩
  have q0 := lt_of_blk K0.out
  have k1 := (hb1.block _ q0).trans K0.out
  have hB1 : Below w.heap.size w w1 := B0.out.trans (hb1.mono B0.out.size)
  have hR1 := Kd.C_below (Kd.C_below HR.out B0.out) hb1
  have d16 : w1.cell? ⟨w.heap.size, 16, none⟩ = some (.slice A n cap) := by rw [cell_of_blk k1]; rfl
  have d17 : w1.cell? ⟨w.heap.size, 17, none⟩ = some (.slice none 0 0) := by rw [cell_of_blk k1]; rfl
  have d18 : w1.cell? ⟨w.heap.size, 18, none⟩ = some (.slice none 0 0) := by rw [cell_of_blk k1]; rfl
  have K1 := Lib.hid k1
  have B1 := Lib.hid hB1
  have R1 := Lib.hid hR1
  clear c0 c2 c3 c4 c8 c21 c22 c23 c17 c18 c9 c10 c11 c12 c13 c14 c15 c16 hb1 k1 hB1 hR1 X0 B0 K0 HR q0
  cases ht : toldB a b c d e f g n with
  | false =>
    go_wp2_with fail
    go_ret
    exact ⟨⟨_, rfl, fun h => by cases h⟩, B1.out⟩
  | true =>
    have hn8 : n ≤ 8 := by
      have h := ht
      unfold toldB at h
      simp only [Bool.and_eq_true, Bool.not_eq_true', decide_eq_false_iff_not] at h
      omega
    have hlq := lt_of_blk K1.out
    go_upto_region 9 with (fail)
    go_cut [82, 83, 84] (fun x y z wx => ∃ V cx, x = .slice V n cx ∧ y = .int .i64 (n : Int) ∧ z = .int .i64 ((0 : Nat) : Int) ∧ Hid (AppG w wx (pAt a b c d e f g (.slice A n cap)) l V))
    case first =>
      by_cases hl0 : 0 < l.length
      · obtain ⟨i0, hi0, hzz⟩ := Option.map_eq_some_iff.1 infoE
        simp only [Prod.mk.injEq] at hzz
        obtain ⟨hz0, hz1, hz2⟩ := hzz
        obtain ⟨x, p, rfl, hx, hcell⟩ := iC_cells R1.out hl0
        have HC := Lib.hid hcell
        have q1 := hlq
        clear hcell
        have hn0 : 0 < n := by have := HN.out; omega
        go_region_held3 (fun w' => w'.cell? ⟨w.heap.size, 16, none⟩ = some (.slice (some ⟨x, p, none⟩) n cap) ∧ w'.cell? ⟨w.heap.size, 18, none⟩ = some (.slice none 0 0))
          (first
            | go_keep
            | (go_split_ands
               refine ⟨?_, ?_⟩
               · (rw [hgrow.cell_far _ (by simpa using q1) (by simp [Value.ownBlock])]; assumption)
               · (rw [hgrow.cell_far _ (by simpa using q1) (by simp [Value.ownBlock])]; assumption)))
          (first
            | (refine step_append_run rfl _ _ 24 rfl (.slice none 0 0) (.slice none 0 0) (by rfl) (by rfl) _ _ (app_nil _) ?_)
            | (refine step_append_lies _ (by rfl) _ _ 24 (by rfl) w.heap.size 89 i0 _ 2 32 Tryz.underlying24 hi0 hz0 hz1 hz2 rfl (by omega) (.slice none 0 0) 0 [] (by rfl) ⟨rfl, .inl ⟨rfl, rfl⟩⟩ ⟨x, p, none⟩ n cap (iC l) (by rfl) (by rw [iC_len, HN.out]) HC.out (iC_one l) hn0 (by simp only [maxLen]; omega) (by omega) B1.out.size _ rfl ?_; intro gg cap' w2 hown2 hgrow hat hlt))
        go_wp2_with fail
        go_meet
        have G := Lib.hid (show AppG w w2 (pAt a b c d e f g (.slice (some ⟨x, p, none⟩) n cap)) l (some ⟨gg, 0, none⟩) from by
          have hb : Below w.heap.size w w2 := ⟨hgrow.os.trans B1.out.os, hgrow.tape.trans B1.out.tape, hgrow.output.trans B1.out.output, Nat.le_trans B1.out.size hgrow.size, fun k hk => (hgrow.block k (Nat.lt_of_lt_of_le hk B1.out.size) (by simp [Value.ownBlock])).trans (B1.out.block k hk)⟩
          refine ⟨hb, (hgrow.block _ q1 (by simp [Value.ownBlock])).trans K1.out, .inr ⟨gg, rfl, hlt, fun j u hu => ?_⟩⟩
          rcases hown2.2 with ⟨h, _⟩ | ⟨g', c', cur, h, _, hg, _, _, _, hcur⟩
          · cases h
          · simp only [Value.slice.injEq, Option.some.injEq, Addr.mk.injEq, and_true, true_and] at h
            obtain ⟨rfl, _⟩ := h
            rw [cell_of_blk hg, ← Array.getElem?_toList]
            have h1 : ([] ++ iC l)[j]? = some u := hu
            rw [← hcur, List.getElem?_take] at h1
            split at h1
            · exact h1
            · cases h1)
        exact ⟨some ⟨gg, 0, none⟩, cap', by simp, by simp, rfl, G⟩
      · obtain rfl : l = [] := List.eq_nil_of_length_eq_zero (by omega)
        have hn0 : n = 0 := HN.out
        subst hn0
        go_region_held3 (fun w' => w'.cell? ⟨w.heap.size, 16, none⟩ = some (.slice A 0 cap) ∧ w'.cell? ⟨w.heap.size, 18, none⟩ = some (.slice none 0 0))
          (go_keep)
          (first
            | (refine step_append_run rfl _ _ 24 rfl (.slice none 0 0) (.slice none 0 0) (by rfl) (by rfl) _ _ (app_nil _) ?_)
            | (refine step_append_run rfl _ _ 24 rfl (.slice none 0 0) (.slice A 0 cap) (by rfl) (by rfl) _ _ (app_none _ _ _) ?_))
        go_wp2_with fail
        go_meet
        exact ⟨none, 0, rfl, rfl, rfl, Lib.hid ⟨⟨B1.out.os, B1.out.tape, B1.out.output, B1.out.size, B1.out.block⟩, K1.out, .inl rfl⟩⟩
    case rest =>
      obtain ⟨V, cx, rfl, rfl, rfl, G⟩ := hcut
      obtain ⟨hb, hblk, hcase⟩ := G.out
      have HB := Lib.hid hb
      have HK := Lib.hid hblk
      have hsz := hb.size
      have hqq := lt_of_blk hblk
      clear hb hblk G d16 d17 d18
      -- the sum
      have LOOP : ∀ (wr : World) (S : Nat), Below wc.heap.size wc wr → wr.cell? ⟨w.heap.size, 17, none⟩ = some (.slice none 0 0) := fun wr S h => by
        rw [cell_kept (h.block _ hqq), cell_of_blk HK.out]; rfl
      have HLP := Lib.hid LOOP
      clear LOOP
      go_wp2_with fail
      go_loopw [3, 84] (fun s i wr => ∃ k : Nat, k ≤ n ∧ i = .int .i64 (k : Int) ∧ s = .int .i64 ((exSz (l.take k) : Nat) : Int) ∧ Hid (Below wc.heap.size wc wr)) (fun _ i _ => n - (intOf i).toNat)
      case atStart => exact ⟨0, Nat.zero_le _, rfl, by simp [exSz], Lib.hid (Below.refl _ _)⟩
      case round =>
        obtain ⟨k, hk, rfl, rfl, HR⟩ := hrel
        by_cases hlt : k < n
        · have hkl : k < l.length := by have := HN.out; omega
          obtain ⟨gg, rfl, hgl, hc0⟩ := hcase.resolve_left (by intro h; rw [h] at hkl; simp at hkl)
          have he : l[k]? = some l[k] := List.getElem?_eq_getElem hkl
          obtain ⟨g1, g2⟩ := iC_at l k _ he
          have e1 := hc0 _ _ g1
          have e2 := hc0 _ _ g2
          have kx : ∀ i, wr.cell? ⟨gg, i, none⟩ = wc.cell? ⟨gg, i, none⟩ := fun i => cell_kept (HR.out.block gg hgl)
          rw [← kx] at e1 e2
          have ht2 : l.take (k + 1) = l.take k ++ [l[k]] := List.take_succ_eq_append_getElem hkl
          have HT := Lib.hid (show exSz (l.take (k + 1)) = exSz (l.take k) + (l[k].f0.size + l[k].f1.size) by rw [ht2, exSz_app]; simp [exSz])
          have hb1 : exSz (l.take k) ≤ 1000000000000000 := by
            have h1 := exSz_le (l.take k) (fun e he => hbd e (List.mem_of_mem_take he))
            have h2 : (l.take k).length ≤ 8 := by rw [List.length_take]; omega
            have h3 := Nat.mul_le_mul_right 4294967294 h2
            omega
          have hb2 : l[k].f0.size ≤ 1000000000000000 ∧ l[k].f1.size ≤ 1000000000000000 := by have := hbd _ (List.getElem_mem hkl); omega
          obtain ⟨hb3, hb4⟩ := hb2
          generalize exSz (l.take k) = S0 at *
          generalize l[k].f0 = s1 at *
          generalize l[k].f1 = s2 at *
          have BR := Lib.hid HR.out
          clear he g1 g2 hc0 kx ht2 HR hcase
          go_wp2_with fail
          go_roundw
          case rel => exact ⟨k + 1, by omega, by go_num, v_int (by rw [HT.out]; omega), Lib.hid (BR.out.alloc BR.out.size _)⟩
          case measure => simp [intOf]; omega
        · obtain rfl : k = n := by omega
          have hfull : l.take k = l := List.take_of_length_le (by have := HN.out; omega)
          rw [hfull]
          clear hfull
          have d17 := HLP.out wr 0 HR.out
          go_wp2_with fail
          go_loop [3, 101] (fun s i => s = .int .i64 ((exSz l : Nat) : Int) ∧ i = .int .i64 0) (fun _ _ => 0)
          case atStart => exact ⟨rfl, rfl⟩
          case round =>
            obtain ⟨rfl, rfl⟩ := hrel
            have hbw : Below w.heap.size w wr := HB.out.trans (HR.out.mono hsz)
            have hbk : wr.heap[w.heap.size]? = some (.cells (pAt a b c d e f g (.slice A k cap)) 29 (0, 0)) := (HR.out.block _ hqq).trans HK.out
            by_cases hS : exSz l ≤ 2000
            · have hS' : ((exSz l : Nat) : Int) ≤ 2000 := by omega
              have dS : decide (((exSz l : Nat) : Int) ≤ 2000) = true := by simp; omega
              have OC := Lib.hid (fun W => onlyA a b c d e f g A k cap W)
              have hkl : l.length ≤ 8 := by have := HN.out; omega
              have SC := Lib.hid (fun (W : World) (h : Below w.heap.size w W) => sameA a b c d e f g A A k cap cap l W HN.out (by omega) (Kd.C_below HRR.out h) (Kd.C_below HRR.out h) hc hc)
              have BW := Lib.hid hbw
              have HBK := Lib.hid hbk
              clear hbw hbk
              clear d17 hcase HB HK HLP HR B1 K1 R1
              go_wp2_with fail
              refine wp_region_held_drew (S := fun w' => Below w.heap.size w w' ∧ w'.heap[w.heap.size]? = some (.cells (pAt a b c d e f g (.slice A k cap)) 29 (0, 0))) (by kernel_rfl) ⟨below_drew BW.out, HBK.out⟩ (fun hHeld => ?_)
              refine wpAnyH_takeD (some 137) (i := 0) (v := .int .i64 ((exSz l : Nat) : Int)) rfl rfl (by kernel_rfl) (by kernel_rfl) (by kernel_rfl) (fun _ _ _ h => h) (Or.inl ⟨by rfl, fun w' hw' => by rfl⟩) hHeld ?_
              try simp only [Act.put, List.setIfInBounds_toArray, List.set_cons_zero, List.set_cons_succ]
              refine wpAnyH_takeD (some 138) (i := 1) (v := .bool true) rfl rfl (by kernel_rfl) (by kernel_rfl) (by kernel_rfl) (fun _ _ _ h => h) (Or.inl ⟨by rfl, fun w' hw' => by go_simp⟩) hHeld ?_
              try simp only [Act.put, List.setIfInBounds_toArray, List.set_cons_zero, List.set_cons_succ]
              refine wpAnyH_takeD (some 139) (i := 2) (v := .bool true) rfl rfl (by kernel_rfl) (by kernel_rfl) (by kernel_rfl) (fun _ _ _ h => h) (Or.inl ⟨by rfl, fun w' hw' => by rfl⟩) hHeld ?_
              try simp only [Act.put, List.setIfInBounds_toArray, List.set_cons_zero, List.set_cons_succ]
              refine wpAnyH_takeD (some 140) (i := 3) (v := .agg (pAt a b c d e f g (.slice A k cap))) rfl rfl (by kernel_rfl) (by kernel_rfl) (by kernel_rfl) (fun _ _ _ h => h) (yieldsIf_load_row (by rfl) 29 _ (by rfl) w.heap.size (by rfl) 29 (pAt a b c d e f g (.slice A k cap)) (0, 0) _ (fun w' hw' => hw'.2) Tryz.underlying29 rfl (pinfoA _ _ _ _ _ _ _ _)) hHeld ?_
              try simp only [Act.put, List.setIfInBounds_toArray, List.set_cons_zero, List.set_cons_succ]
              refine wpAnyH_takeD (some 141) (i := 4) (v := .agg (pAt a b c d e f g (.slice A k cap))) rfl rfl (by kernel_rfl) (by kernel_rfl) (by kernel_rfl) (fun _ _ _ h => h) (yieldsIf_load_row (by rfl) 29 _ (by rfl) w.heap.size (by rfl) 29 (pAt a b c d e f g (.slice A k cap)) (0, 0) _ (fun w' hw' => hw'.2) Tryz.underlying29 rfl (pinfoA _ _ _ _ _ _ _ _)) hHeld ?_
              try simp only [Act.put, List.setIfInBounds_toArray, List.set_cons_zero, List.set_cons_succ]
              refine wpAnyH_ready (rs := [5]) (by kernel_rfl) (by simp) (AllReadyH.cons rfl (fun K hK => ?_) AllReadyH.nil)
              rw [if_pos (by rfl)]
              go_wp2_with ((go_at_call 49; refine (OC.out _).mono ?_; rintro e w5 ⟨rfl, hb⟩))
              refine hK.out _ _ ⟨hHeld.1.trans (hb.mono hHeld.1.size), blk_below hb hHeld.2⟩ (fun hHeld => ?_)
              clear hK K
              try simp only [Act.put, List.setIfInBounds_toArray, List.set_cons_zero, List.set_cons_succ]
              refine wpAnyH_ready (rs := [6]) (by kernel_rfl) (by simp) (AllReadyH.cons rfl (fun K hK => ?_) AllReadyH.nil)
              rw [if_pos (by rfl)]
              go_wp2_with ((go_at_call 22; refine (SC.out _ hHeld.1).mono ?_; rintro e w6 ⟨rfl, hb⟩))
              refine hK.out _ _ ⟨hHeld.1.trans (hb.mono hHeld.1.size), blk_below hb hHeld.2⟩ (fun hHeld => ?_)
              clear hK K
              try simp only [Act.put, List.setIfInBounds_toArray, List.set_cons_zero, List.set_cons_succ]
              refine wpAnyH_takeD (some 144) (i := 7) (v := .bool true) rfl rfl (by kernel_rfl) (by kernel_rfl) (by kernel_rfl) (fun _ _ _ h => h) (Or.inl ⟨by rfl, fun w' hw' => by go_simp⟩) hHeld ?_
              try simp only [Act.put, List.setIfInBounds_toArray, List.set_cons_zero, List.set_cons_succ]
              refine wpAnyH_takeD (some 2) (i := 8) (v := .bool true) rfl rfl (by kernel_rfl) (by kernel_rfl) (by kernel_rfl) (fun _ _ _ h => h) (Or.inl ⟨by rfl, fun w' hw' => by go_simp⟩) hHeld ?_
              try simp only [Act.put, List.setIfInBounds_toArray, List.set_cons_zero, List.set_cons_succ]
              refine wpAnyH_done (by kernel_rfl) ?_ _
              go_wp2_with fail
              go_ret
              exact ⟨⟨_, rfl, fun _ => ⟨by assumption, hS⟩⟩, hHeld.1⟩
            · have dS : decide (((exSz l : Nat) : Int) ≤ 2000) = false := by simp; omega
              have BW := Lib.hid hbw
              clear hbw hbk
              go_wp2_with fail
              go_quiet (fail)
              go_wp2_with fail
              go_ret
              exact ⟨⟨_, rfl, fun h => by cases h⟩, below_drewN BW.out _⟩
end Go.Proofs.YtmenkckgpiafiaaGreat
namespace Go.Proofs.YtmenkckgpiafiaaGreat
open Go.RowKit Go.Great Go.Proofs.YtmenkckgpiafiaaGreatW.PrintWords Go.Proofs.YtmenkckgpiafiaaGreatW.PrintLast Go.Proofs.YtmenkckgpiafiaaGreatW.PrintMore Go.Proofs.YtmenkckgpiafiaaGreat.KK
/-- A reading buffer and a block that is filled through a walk. -/
structure RSt (w0 w : World) (g o s q : Nat) (t : TypeId) (r : Option (List UInt8)) (cs : Array Value) : Prop where
  rb : RBuf w g o s r
  blk : w.heap[q]? = some (.cells cs t (0, 0))
  upd : UpdB (fun k => k = g ∨ k = q) w0 w
section
variable {w0 w w1 : World} {g o s q : Nat} {t : TypeId} {r r1 : Option (List UInt8)} {cs : Array Value}
theorem RSt.consumed (h : RSt w0 w g o s q t r cs) (hq : q ≠ g) (hb : RBuf w1 g o s r1) (u : UpdR g o w w1) : RSt w0 w1 g o s q t r1 cs :=
  ⟨hb, (u.block q (lt_of_blk h.blk) hq).trans h.blk, h.upd.trans (u.updB (.inl rfl))⟩
theorem RSt.set (h : RSt w0 w g o s q t r cs) (hq : q ≠ g) (hs : q ≠ s) (i : Nat) (v : Value) : RSt w0 (w.setCell ⟨q, i, none⟩ v) g o s q t r (cs.setIfInBounds i v) :=
  ⟨h.rb.kept (Below.heap_setCell _ _ _ _ (Ne.symm hq)) (Below.heap_setCell _ _ _ _ (Ne.symm hs)) (by simp [World.setCell]), setCell_blk h.blk _, h.upd.setCell (.inr rfl) _⟩
theorem RSt.cell (h : RSt w0 w g o s q t r cs) (i : Nat) : w.cell? ⟨q, i, none⟩ = cs[i]? := cell_of_blk h.blk i
theorem RSt.frz (h : RSt w0 w g o s q t r cs) (i : Nat) : w.frozen? ⟨q, i, none⟩ = false := frozen_of_blk h.blk i
end
section
variable (pre post : List Value) (a b c d e f g x : Int) (v u : Value)
end
/-- What attributes' parts read as. -/
def d1 (a : Int) (r : Option (List UInt8)) : Int × Option (List UInt8) := if flg a 1 then c64 r else (0, r)
def dd (r : Option (List UInt8)) : (Int × Int) × Option (List UInt8) := (((c32 r).1, (c32 (c32 r).2).1), (c32 (c32 r).2).2)
def d2 (a : Int) (r : Option (List UInt8)) : (Int × Int) × Option (List UInt8) := if flg a 2 then dd r else ((0, 0), r)
def d4 (a : Int) (r : Option (List UInt8)) : Int × Option (List UInt8) := if flg a 4 then c32 r else (0, r)
def d8 (a : Int) (r : Option (List UInt8)) : (Int × Int) × Option (List UInt8) := if flg a 8 then dd r else ((0, 0), r)
def xD : Nat → Option (List UInt8) → List S266 × Option (List UInt8)
  | 0, r => ([], r)
  | n + 1, r => (⟨bs (cB r).1, bs (cB (cB r).2).1⟩ :: (xD n (cB (cB r).2).2).1, (xD n (cB (cB r).2).2).2)
/-- Cells of extended attributes. -/
def exC : List S266 → List Value
  | [] => []
  | e :: r => .string e.f0 :: .string e.f1 :: exC r
theorem exC_app (l m : List S266) : exC (l ++ m) = exC l ++ exC m := by
  induction l with
  | nil => rfl
  | cons e r ih => simp [exC, ih]
def zl (m : Nat) : List Value := List.replicate m (.string ⟨#[]⟩)
theorem RSt.alloc {w0 w : World} {g o s q : Nat} {t : TypeId} {r : Option (List UInt8)} {cs : Array Value} (h : RSt w0 w g o s q t r cs) (x : Obj) : RSt w0 (w.alloc x) g o s q t r cs :=
  ⟨h.rb.kept (heap_alloc_old _ _ h.rb.lt.1) (heap_alloc_old _ _ h.rb.lt.2) (by simp), (heap_alloc_old _ _ (lt_of_blk h.blk)).trans h.blk, h.upd.trans ⟨rfl, rfl, rfl, by simp, fun k hk _ => heap_alloc_old _ _ hk⟩⟩
/-- The extensions' loop, at a round. -/
def LInv (w wr : World) (g o s q h n : Nat) (t : TypeId) (cs : Array Value) (r0 : Option (List UInt8)) (k : Nat) : Prop :=
  ∃ done rk, done.length = k ∧ xD n r0 = (done ++ (xD (n - k) rk).1, (xD (n - k) rk).2) ∧ RSt w wr g o s q t rk cs ∧ wr.heap[h]? = some (.cells (exC done ++ zl (2 * (n - k))).toArray 266 (0, 0))
theorem LInv.step {w wr w' : World} {g o s q h n k : Nat} {t : TypeId} {cs : Array Value} {r0 rk : Option (List UInt8)} {done : List S266} (hk : k < n) (hd : done.length = k) (hx : xD n r0 = (done ++ (xD (n - k) rk).1, (xD (n - k) rk).2)) (hR : RSt w wr g o s q t rk cs)
    (hqh : q ≠ h) (hqg : q ≠ g) (hh : w.heap.size ≤ h) (h2 : RSt wr w' g o s h 266 (cB (cB rk).2).2 (exC done ++ .string (bs (cB rk).1) :: .string (bs (cB (cB rk).2).1) :: zl (2 * (n - (k + 1)))).toArray) : LInv w w' g o s q h n t cs r0 (k + 1) := by
  have e1 : n - k = (n - (k + 1)) + 1 := by omega
  refine ⟨done ++ [⟨bs (cB rk).1, bs (cB (cB rk).2).1⟩], (cB (cB rk).2).2, by simp [hd], ?_, ⟨h2.rb, ?_, ?_⟩, ?_⟩
  · rw [hx, e1, xD]; simp
  · rw [h2.upd.block q (lt_of_blk hR.blk) (by omega)]; exact hR.blk
  · exact ⟨h2.upd.os.trans hR.upd.os, h2.upd.tape.trans hR.upd.tape, h2.upd.output.trans hR.upd.output, Nat.le_trans hR.upd.size h2.upd.size, fun k hk e => (h2.upd.block k (by have := hR.upd.size; omega) (by omega)).trans (hR.upd.block k hk e)⟩
  · rw [h2.blk, exC_app]; simp [exC]
end Go.Proofs.YtmenkckgpiafiaaGreat
namespace Go.Proofs.YtmenkckgpiafiaaGreat
open Go.RowKit Go.Great Go.Proofs.YtmenkckgpiafiaaGreatW.PrintWords Go.Proofs.YtmenkckgpiafiaaGreatW.PrintLast Go.Proofs.YtmenkckgpiafiaaGreatW.PrintMore Go.Proofs.YtmenkckgpiafiaaGreat.KK
/-- A reader eats just these bytes, and has too little with less. -/
structure Dec (B : List UInt8) (d : Option (List UInt8) → Option (List UInt8)) : Prop where
  eats : ∀ t, d (some (B ++ t)) = some t
  short : ∀ n, n < B.length → d (some (B.take n)) = none
  none : d none = none
theorem Dec.id : Dec [] (fun r => r) := ⟨fun _ => rfl, fun n h => by simp at h, rfl⟩
section
variable {a b c d e f g : Int} {l : List S266}
/-- Numbers within their kinds. -/
structure AOk (a b c d e f g : Int) (l : List S266) : Prop where
  ga : gU32 a
  gb : gU64 b
  gc : gU32 c
  gd : gU32 d
  ge : gU32 e
  gf : gU32 f
  gg : gU32 g
  gl : gEx l
/-- What no flag tells is 0. -/
structure ATold (a b c d e f g : Int) (l : List S266) : Prop where
  t1 : flg a 1 = false → b = 0
  t2 : flg a 2 = false → c = 0 ∧ d = 0
  t4 : flg a 4 = false → e = 0
  t8 : flg a 8 = false → f = 0 ∧ g = 0
  tX : flg a 2147483648 = false → l = []
end
end Go.Proofs.YtmenkckgpiafiaaGreat
namespace Go.Proofs.YtmenkckgpiafiaaGreat
open Go.RowKit Go.Great Go.Proofs.YtmenkckgpiafiaaGreatW.PrintWords Go.Proofs.YtmenkckgpiafiaaGreatW.PrintLast Go.Proofs.YtmenkckgpiafiaaGreatW.PrintMore Go.Proofs.YtmenkckgpiafiaaGreat.KK
theorem fits7_f (a b : ByteArray) : ∃ r, PF.laws_zzFits7.f a b = some r := by
  unfold PF.laws_zzFits7.f
  (repeat' split) <;> exact ⟨_, rfl⟩
theorem fits6_l0 (l : List S89) (hl : l.length ≤ 2147483647) : ∀ (m : Nat) (k : Nat) (i : Nat), i + m = l.length → m < k → ∃ r, PF.laws_zzFits6.l0 k l (l.length : Int) (i : Int) = some r := by
  intro m
  induction m with
  | zero =>
    intro k i hi hk
    obtain ⟨k, rfl⟩ : ∃ j, k = j + 1 := ⟨k - 1, by omega⟩
    simp only [PF.laws_zzFits6.l0]
    rw [if_neg (by omega)]
    exact ⟨_, rfl⟩
  | succ m ih =>
    intro k i hi hk
    obtain ⟨k, rfl⟩ : ∃ j, k = j + 1 := ⟨k - 1, by omega⟩
    simp only [PF.laws_zzFits6.l0]
    rw [if_pos (by omega), if_pos (by omega), if_pos (by omega), wrap_succ (by omega) (show (i : Int) < (l.length : Int) by omega) (by omega)]
    obtain ⟨r, hr⟩ := fits7_f (rd_T89 l (i : Int)).f0 (rd_T89 l (i : Int)).f1
    rw [hr]
    simp only [Option.bind_some]
    split
    · rw [show ((i : Int) + 1) = ((i + 1 : Nat) : Int) from by omega]
      exact ih k (i + 1) (by omega) (by omega)
    · exact ⟨_, rfl⟩
theorem fits5_f (a b c d e f g : Int) (l : List S89) : ∃ k r, PF.laws_zzFits5.f k a b c d e f g l = some r ∧ (r = true → l.length ≤ 2147483647) := by
  by_cases hl : l.length ≤ 2147483647
  · obtain ⟨r, hr⟩ := fits6_l0 l hl l.length (l.length + 1) 0 (by omega) (by omega)
    refine ⟨l.length + 1, r, ?_, fun _ => hl⟩
    have h6 : PF.laws_zzFits6.f (l.length + 1) l = some r := by
      unfold PF.laws_zzFits6.f
      rw [if_neg (by omega)]
      exact hr
    unfold PF.laws_zzFits5.f
    rw [h6]
    cases r <;> rfl
  · refine ⟨1, false, ?_, fun h => by cases h⟩
    have h6 : PF.laws_zzFits6.f 1 l = some false := by
      unfold PF.laws_zzFits6.f
      rw [if_pos (by omega)]
    unfold PF.laws_zzFits5.f
    rw [h6]
    rfl
end Go.Proofs.YtmenkckgpiafiaaGreat
namespace Go.Proofs.YtmenkckgpiafiaaGreat
open Go.RowKit Go.Great Go.Proofs.YtmenkckgpiafiaaGreatW.PrintWords Go.Proofs.YtmenkckgpiafiaaGreatW.PrintLast Go.Proofs.YtmenkckgpiafiaaGreatW.PrintMore Go.Proofs.YtmenkckgpiafiaaGreat.KK
theorem fits7_true (a b : ByteArray) (h : PF.laws_zzFits7.f a b = some true) : a.size ≤ 2147483647 ∧ b.size ≤ 2147483647 := by
  unfold PF.laws_zzFits7.f at h
  split at h
  · cases h
  · split at h
    · cases h
    · omega
theorem fits6_true (l : List S89) (hl : l.length ≤ 2147483647) : ∀ (k i : Nat), PF.laws_zzFits6.l0 k l (l.length : Int) (i : Int) = some true → ∀ j (hj : j < l.length), i ≤ j → l[j].f0.size ≤ 2147483647 ∧ l[j].f1.size ≤ 2147483647 := by
  intro k
  induction k with
  | zero => intro i h; simp [PF.laws_zzFits6.l0] at h
  | succ k ih =>
    intro i h j hj hij
    have hi : i < l.length := by omega
    simp only [PF.laws_zzFits6.l0] at h
    rw [if_pos (by omega), if_pos (by omega), if_pos (by omega), wrap_succ (by omega) (show (i : Int) < (l.length : Int) by omega) (by omega)] at h
    have hr : rd_T89 l (i : Int) = l[i] := by
      unfold rd_T89
      rw [Int.toNat_natCast, List.getD_eq_getElem?_getD, List.getElem?_eq_getElem hi]
      rfl
    rw [hr] at h
    obtain ⟨r, hf⟩ := fits7_f l[i].f0 l[i].f1
    rw [hf] at h
    simp only [Option.bind_some] at h
    split at h
    · next hr1 =>
      subst hr1
      by_cases he : i = j
      · subst he; exact fits7_true _ _ hf
      · rw [show ((i : Int) + 1) = ((i + 1 : Nat) : Int) from by omega] at h
        exact ih (i + 1) h j hj (by omega)
    · cases h
theorem fits5_sizes (a b c d e f g : Int) (l : List S89) (k : Nat) (h : PF.laws_zzFits5.f k a b c d e f g l = some true) : l.length ≤ 2147483647 ∧ ∀ x ∈ l, x.f0.size ≤ 2147483647 ∧ x.f1.size ≤ 2147483647 := by
  unfold PF.laws_zzFits5.f PF.laws_zzFits6.f at h
  by_cases hl : (l.length : Int) > 2147483647
  · rw [if_pos hl] at h
    cases h
  · rw [if_neg hl] at h
    refine ⟨by omega, fun x hx => ?_⟩
    obtain ⟨j, hj, rfl⟩ := List.getElem_of_mem hx
    obtain ⟨r, hr⟩ := fits6_l0 l (by omega) l.length (l.length + 1) 0 (by omega) (by omega)
    cases h6 : PF.laws_zzFits6.l0 k l (l.length : Int) 0 with
    | none => rw [h6] at h; cases h
    | some r =>
      rw [h6] at h
      cases r with
      | false => cases h
      | true => exact fits6_true l (by omega) k 0 h6 j hj (by omega)
theorem fits5D (a b c d e f g : Int) (A : Option Addr) (cap : Nat) (l : List S89) (w : World) (hr : Kd.C k89 w A l.length l) (hc : l.length ≤ cap) :
    ∃ r, (r = true → ∀ x ∈ l, x.f0.size ≤ 2147483647 ∧ x.f1.size ≤ 2147483647) ∧ Calls Tryz.prog 26 #[.agg (at8 a b c d e f g (.slice A l.length cap))] w fun e w' => e = .returned (.bool r) ∧ Below w.heap.size w w' := by
  obtain ⟨k, r, h, _⟩ := fits5_f a b c d e f g l
  exact ⟨r, fun hr => (fits5_sizes a b c d e f g l k (by rw [h, hr])).2, PF.laws_zzFits5.calls k a b c d e f g A cap l r w hr hc h⟩
/-- Attributes that the packet's law lets through. -/
structure OkA (a b c d e f g : Int) (l : List S89) : Prop where
  ok : AOk a b c d e f g (l.map exOf)
  told : ATold a b c d e f g (l.map exOf)
  ex : gExI l
  few : l.length ≤ 8
  small : (atB a b c d e f g (l.map exOf)).length ≤ 3000
  big : 4 ≤ (atB a b c d e f g (l.map exOf)).length
theorem exB_exSz (l : List S89) : (exB (l.map exOf)).length = l.length * 8 + exSz l := by
  induction l with
  | nil => rfl
  | cons x r ih =>
    simp only [List.map_cons, exB, List.length_append, ih, exSz, List.length_cons, str_len, tl_length, exOf]
    omega
theorem exSz_mem (l : List S89) (x : S89) (h : x ∈ l) : x.f0.size + x.f1.size ≤ exSz l := by
  induction l with
  | nil => cases h
  | cons y r ih =>
    simp only [exSz]
    rcases List.mem_cons.1 h with rfl | h
    · omega
    · have := ih h; omega
theorem okA_of {a b c d e f g : Int} {l : List S89} (ga : gU32 a) (gb : gU64 b) (gc : gU32 c) (gd : gU32 d) (ge : gU32 e) (gf : gU32 f) (gg : gU32 g) (ht : toldB a b c d e f g l.length = true) (hs : exSz l ≤ 2000) : OkA a b c d e f g l := by
  unfold toldB at ht
  simp only [Bool.and_eq_true, Bool.or_eq_true, Bool.not_eq_true', decide_eq_false_iff_not, beq_iff_eq] at ht
  obtain ⟨⟨⟨_, h8⟩, ⟨⟨⟨t1, t2⟩, t4⟩, t8⟩⟩, tX⟩ := ht
  have hx : gExI l := by
    refine ⟨by simp; omega, by rw [exB_exSz]; omega, fun x hx => ?_⟩
    obtain ⟨y, hy, rfl⟩ := List.mem_map.1 hx
    have := exSz_mem l y hy
    simp only [exOf]
    omega
  have hp := plen a b c d e f g
  have hX : (pX a (l.map exOf)).length ≤ 2100 := by
    unfold pX
    split
    · rw [List.length_append, be32_len, exB_exSz]; omega
    · simp
  refine ⟨⟨ga, gb, gc, gd, ge, gf, gg, hx⟩, ⟨fun h => ?_, fun h => ?_, fun h => ?_, fun h => ?_, fun h => ?_⟩, hx, by omega, ?_, ?_⟩
  · simpa [h] using t1
  · simpa [h] using t2
  · simpa [h] using t4
  · simpa [h] using t8
  · have := tX; rw [h] at this; have hl : l.length = 0 := by simpa using this
    rw [List.eq_nil_of_length_eq_zero hl]; rfl
  · unfold atB
    simp only [List.length_append, be32_len]
    omega
  · unfold atB
    simp only [List.length_append, be32_len]
    omega
end Go.Proofs.YtmenkckgpiafiaaGreat
namespace Go.Proofs.YtmenkckgpiafiaaGreat
open Go.RowKit Go.Great Go.Proofs.YtmenkckgpiafiaaGreatW.PrintWords Go.Proofs.YtmenkckgpiafiaaGreatW.PrintLast Go.Proofs.YtmenkckgpiafiaaGreatW.PrintMore Go.Proofs.YtmenkckgpiafiaaGreat.KK
/-- The world behind a boxed argument of attributes. -/
theorem box8 (w : World) (cs : Array Value) : Below w.heap.size w (w.alloc (.cells cs 26)) ∧ (w.alloc (.cells cs 26)).heap[w.heap.size]? = some (.cells cs 26 (0, 0)) :=
  ⟨(Below.refl _ _).alloc (Nat.le_refl _) _, heap_alloc_new _ _⟩
end Go.Proofs.YtmenkckgpiafiaaGreat
namespace Go.Proofs.YtmenkckgpiafiaaGreat
open Go.RowKit Go.Great Go.Proofs.YtmenkckgpiafiaaGreatW.PrintWords Go.Proofs.YtmenkckgpiafiaaGreatW.PrintLast Go.Proofs.YtmenkckgpiafiaaGreatW.PrintMore Go.Proofs.YtmenkckgpiafiaaGreat.KK
/-- The first bytes of a number in n bytes, and zeros. -/
def nbs (n : Nat) (x : Int) (k : Nat) : List Int := (List.range k).map (fun i => x / 2 ^ (8 * (n - 1 - i)) % 256) ++ List.replicate (n - k) 0
theorem info5N : (Tryz.prog.info? 5).map (fun i => (i.zero, i.size, i.bytes)) = some (some (.int .u8 0), 1, 1) := by kernel_rfl
set_option maxRecDepth 5000 in
set_option maxHeartbeats 3200000 in
theorem specNum4 (x : Int) (w : World) : Calls Tryz.prog 64 #[.int .u64 x, .int .i64 4] w fun e w' => e = .returned (.string (strOfNums (nbs 4 x 4))) ∧ Below w.heap.size w w' := by
  have HB := Below.refl w.heap.size w
  go_enter Tryz.func64, Tryz.ntmps64
  go_wp2_with (first | ((with_reducible refine gate_dst (N := 8) rfl ?_); refine Kd.R_make (Kd.int .u8) _ 5 rfl (N := 8) rfl 93 _ _ rfl 4 rfl rfl Tryz.underlying93 (.int .u8 0) 1 info5N rfl (by decide) (by omega) 0 (ok := fun _ => True) (okp := fun _ => True) rfl (fun _ hk => hk) trivial (by decide) (by decide) (Below.refl _ _) (Nat.le_refl _) ?_; intro v w5 ho hb hg_ hnew_; clear hg_ hnew_; obtain ⟨g, c, rfl, hg1, hg2, cells, hcells⟩ := Kd.R_form ho (by decide)))
  have HO := Lib.hid ho
  have HW := Lib.hid hb
  have hw5 := hb.size
  clear ho hb HB hcells cells hg2
  simp only [show (List.replicate (Int.toNat 4) (0 : Int)).length = 4 from rfl] at HO ⊢
  go_loopw [11] (fun i wr => ∃ k : Nat, k ≤ 4 ∧ i = .int .i64 (k : Int) ∧ Hid ((Kd.int .u8).R 5 wr w.heap.size (fun _ => True) (.slice (some ⟨g, 0, none⟩) 4 c) (nbs 4 x k)) ∧ Hid (Below w.heap.size w wr)) (fun i _ => 4 - (intOf i).toNat)
  case atStart => exact ⟨0, by decide, rfl, HO, HW⟩
  case round =>
    clear HO HW
    obtain ⟨k, hk, rfl, HO, HB⟩ := hrel
    have hcell := fun (h : (k : Int) < 4) => Kd.R_celln 0 HO.out (k : Int) (by omega) h
    have hk5 : k = 0 ∨ k = 1 ∨ k = 2 ∨ k = 3 ∨ k = 4 := by omega
    rcases hk5 with rfl | rfl | rfl | rfl | rfl
    · obtain ⟨hx, hf⟩ := hcell (by decide)
      clear hcell hk
      simp at hx hf
      have HP := Lib.hid (Kd.R_putg HO.out (0 : Int) (x / 16777216 % 256)).1
      go_wp2_with fail
      go_roundw
      case rel => exact ⟨1, by decide, rfl, Lib.hid (by have h := HP.out; rw [show (nbs 4 x 0).set (Int.toNat 0) (x / 16777216 % 256) = nbs 4 x 1 from by simp [nbs, List.range_succ]] at h; exact h), Lib.hid (below_set HB.out hg1)⟩
      case measure => simp [intOf]
    · obtain ⟨hx, hf⟩ := hcell (by decide)
      clear hcell hk
      simp at hx hf
      have HP := Lib.hid (Kd.R_putg HO.out (1 : Int) (x / 65536 % 256)).1
      go_wp2_with fail
      go_roundw
      case rel => exact ⟨2, by decide, rfl, Lib.hid (by have h := HP.out; rw [show (nbs 4 x 1).set (Int.toNat 1) (x / 65536 % 256) = nbs 4 x 2 from by simp [nbs, List.range_succ]] at h; exact h), Lib.hid (below_set HB.out hg1)⟩
      case measure => simp [intOf]
    · obtain ⟨hx, hf⟩ := hcell (by decide)
      clear hcell hk
      simp at hx hf
      have HP := Lib.hid (Kd.R_putg HO.out (2 : Int) (x / 256 % 256)).1
      go_wp2_with fail
      go_roundw
      case rel => exact ⟨3, by decide, rfl, Lib.hid (by have h := HP.out; rw [show (nbs 4 x 2).set (Int.toNat 2) (x / 256 % 256) = nbs 4 x 3 from by simp [nbs, List.range_succ]] at h; exact h), Lib.hid (below_set HB.out hg1)⟩
      case measure => simp [intOf]
    · obtain ⟨hx, hf⟩ := hcell (by decide)
      clear hcell hk
      simp at hx hf
      have HP := Lib.hid (Kd.R_putg HO.out (3 : Int) (x % 256)).1
      go_wp2_with fail
      go_roundw
      case rel => exact ⟨4, by decide, rfl, Lib.hid (by have h := HP.out; rw [show (nbs 4 x 3).set (Int.toNat 3) (x % 256) = nbs 4 x 4 from by simp [nbs, List.range_succ]] at h; exact h), Lib.hid (below_set HB.out hg1)⟩
      case measure => simp [intOf]
    · clear hcell hk
      have hcv := own_string (P := Tryz.prog) Tryz.underlying93 Tryz.underlying5 Tryz.underlying9 (Kd.own_of_R HO.out)
      go_wp2_with fail
      go_ret
      exact ⟨rfl, HB.out⟩
set_option maxRecDepth 5000 in
set_option maxHeartbeats 3200000 in
theorem specNum8 (x : Int) (w : World) : Calls Tryz.prog 64 #[.int .u64 x, .int .i64 8] w fun e w' => e = .returned (.string (strOfNums (nbs 8 x 8))) ∧ Below w.heap.size w w' := by
  have HB := Below.refl w.heap.size w
  go_enter Tryz.func64, Tryz.ntmps64
  go_wp2_with (first | ((with_reducible refine gate_dst (N := 8) rfl ?_); refine Kd.R_make (Kd.int .u8) _ 5 rfl (N := 8) rfl 93 _ _ rfl 8 rfl rfl Tryz.underlying93 (.int .u8 0) 1 info5N rfl (by decide) (by omega) 0 (ok := fun _ => True) (okp := fun _ => True) rfl (fun _ hk => hk) trivial (by decide) (by decide) (Below.refl _ _) (Nat.le_refl _) ?_; intro v w5 ho hb hg_ hnew_; clear hg_ hnew_; obtain ⟨g, c, rfl, hg1, hg2, cells, hcells⟩ := Kd.R_form ho (by decide)))
  have HO := Lib.hid ho
  have HW := Lib.hid hb
  have hw5 := hb.size
  clear ho hb HB hcells cells hg2
  simp only [show (List.replicate (Int.toNat 8) (0 : Int)).length = 8 from rfl] at HO ⊢
  go_loopw [11] (fun i wr => ∃ k : Nat, k ≤ 8 ∧ i = .int .i64 (k : Int) ∧ Hid ((Kd.int .u8).R 5 wr w.heap.size (fun _ => True) (.slice (some ⟨g, 0, none⟩) 8 c) (nbs 8 x k)) ∧ Hid (Below w.heap.size w wr)) (fun i _ => 8 - (intOf i).toNat)
  case atStart => exact ⟨0, by decide, rfl, HO, HW⟩
  case round =>
    clear HO HW
    obtain ⟨k, hk, rfl, HO, HB⟩ := hrel
    have hcell := fun (h : (k : Int) < 8) => Kd.R_celln 0 HO.out (k : Int) (by omega) h
    have hk5 : k = 0 ∨ k = 1 ∨ k = 2 ∨ k = 3 ∨ k = 4 ∨ k = 5 ∨ k = 6 ∨ k = 7 ∨ k = 8 := by omega
    rcases hk5 with rfl | rfl | rfl | rfl | rfl | rfl | rfl | rfl | rfl
    · obtain ⟨hx, hf⟩ := hcell (by decide)
      clear hcell hk
      simp at hx hf
      have HP := Lib.hid (Kd.R_putg HO.out (0 : Int) (x / 72057594037927936 % 256)).1
      go_wp2_with fail
      go_roundw
      case rel => exact ⟨1, by decide, rfl, Lib.hid (by have h := HP.out; rw [show (nbs 8 x 0).set (Int.toNat 0) (x / 72057594037927936 % 256) = nbs 8 x 1 from by simp [nbs, List.range_succ]] at h; exact h), Lib.hid (below_set HB.out hg1)⟩
      case measure => simp [intOf]
    · obtain ⟨hx, hf⟩ := hcell (by decide)
      clear hcell hk
      simp at hx hf
      have HP := Lib.hid (Kd.R_putg HO.out (1 : Int) (x / 281474976710656 % 256)).1
      go_wp2_with fail
      go_roundw
      case rel => exact ⟨2, by decide, rfl, Lib.hid (by have h := HP.out; rw [show (nbs 8 x 1).set (Int.toNat 1) (x / 281474976710656 % 256) = nbs 8 x 2 from by simp [nbs, List.range_succ]] at h; exact h), Lib.hid (below_set HB.out hg1)⟩
      case measure => simp [intOf]
    · obtain ⟨hx, hf⟩ := hcell (by decide)
      clear hcell hk
      simp at hx hf
      have HP := Lib.hid (Kd.R_putg HO.out (2 : Int) (x / 1099511627776 % 256)).1
      go_wp2_with fail
      go_roundw
      case rel => exact ⟨3, by decide, rfl, Lib.hid (by have h := HP.out; rw [show (nbs 8 x 2).set (Int.toNat 2) (x / 1099511627776 % 256) = nbs 8 x 3 from by simp [nbs, List.range_succ]] at h; exact h), Lib.hid (below_set HB.out hg1)⟩
      case measure => simp [intOf]
    · obtain ⟨hx, hf⟩ := hcell (by decide)
      clear hcell hk
      simp at hx hf
      have HP := Lib.hid (Kd.R_putg HO.out (3 : Int) (x / 4294967296 % 256)).1
      go_wp2_with fail
      go_roundw
      case rel => exact ⟨4, by decide, rfl, Lib.hid (by have h := HP.out; rw [show (nbs 8 x 3).set (Int.toNat 3) (x / 4294967296 % 256) = nbs 8 x 4 from by simp [nbs, List.range_succ]] at h; exact h), Lib.hid (below_set HB.out hg1)⟩
      case measure => simp [intOf]
    · obtain ⟨hx, hf⟩ := hcell (by decide)
      clear hcell hk
      simp at hx hf
      have HP := Lib.hid (Kd.R_putg HO.out (4 : Int) (x / 16777216 % 256)).1
      go_wp2_with fail
      go_roundw
      case rel => exact ⟨5, by decide, rfl, Lib.hid (by have h := HP.out; rw [show (nbs 8 x 4).set (Int.toNat 4) (x / 16777216 % 256) = nbs 8 x 5 from by simp [nbs, List.range_succ]] at h; exact h), Lib.hid (below_set HB.out hg1)⟩
      case measure => simp [intOf]
    · obtain ⟨hx, hf⟩ := hcell (by decide)
      clear hcell hk
      simp at hx hf
      have HP := Lib.hid (Kd.R_putg HO.out (5 : Int) (x / 65536 % 256)).1
      go_wp2_with fail
      go_roundw
      case rel => exact ⟨6, by decide, rfl, Lib.hid (by have h := HP.out; rw [show (nbs 8 x 5).set (Int.toNat 5) (x / 65536 % 256) = nbs 8 x 6 from by simp [nbs, List.range_succ]] at h; exact h), Lib.hid (below_set HB.out hg1)⟩
      case measure => simp [intOf]
    · obtain ⟨hx, hf⟩ := hcell (by decide)
      clear hcell hk
      simp at hx hf
      have HP := Lib.hid (Kd.R_putg HO.out (6 : Int) (x / 256 % 256)).1
      go_wp2_with fail
      go_roundw
      case rel => exact ⟨7, by decide, rfl, Lib.hid (by have h := HP.out; rw [show (nbs 8 x 6).set (Int.toNat 6) (x / 256 % 256) = nbs 8 x 7 from by simp [nbs, List.range_succ]] at h; exact h), Lib.hid (below_set HB.out hg1)⟩
      case measure => simp [intOf]
    · obtain ⟨hx, hf⟩ := hcell (by decide)
      clear hcell hk
      simp at hx hf
      have HP := Lib.hid (Kd.R_putg HO.out (7 : Int) (x % 256)).1
      go_wp2_with fail
      go_roundw
      case rel => exact ⟨8, by decide, rfl, Lib.hid (by have h := HP.out; rw [show (nbs 8 x 7).set (Int.toNat 7) (x % 256) = nbs 8 x 8 from by simp [nbs, List.range_succ]] at h; exact h), Lib.hid (below_set HB.out hg1)⟩
      case measure => simp [intOf]
    · clear hcell hk
      have hcv := own_string (P := Tryz.prog) Tryz.underlying93 Tryz.underlying5 Tryz.underlying9 (Kd.own_of_R HO.out)
      go_wp2_with fail
      go_ret
      exact ⟨rfl, HB.out⟩
theorem nums4 (x : Int) : strOfNums (nbs 4 x 4) = bs (be32 x) := by
  simp [nbs, List.range_succ, strOfNums, bs, be32, bt]
theorem nums8 (x : Int) : strOfNums (nbs 8 x 8) = bs (be64 x) := by
  have h : ∀ a b : Int, 0 < a → x / (a * b) = x / a / b := fun a b ha => (Int.ediv_ediv_of_nonneg (by omega)).symm
  simp only [nbs, List.range_succ, strOfNums, bs, be64, be32, bt]
  have e1 := h 4294967296 16777216 (by omega)
  have e2 := h 4294967296 65536 (by omega)
  have e3 := h 4294967296 256 (by omega)
  simp at e1 e2 e3 ⊢
  rw [e1, e2, e3]
  simp
theorem bs_append (a b : List UInt8) : bs (a ++ b) = bs a ++ bs b := tl_inj (by rw [tl_append, tl_bs, tl_bs, tl_bs])
theorem bs_size (a : List UInt8) : (bs a).size = a.length := by simp [bs, ByteArray.size]
theorem specN4 (x : Int) (w : World) : Calls Tryz.prog 64 #[.int .u64 x, .int .i64 4] w fun e w' => e = .returned (.string (bs (be32 x))) ∧ Below w.heap.size w w' := by
  have h := specNum4 x w
  rwa [nums4] at h
theorem specN8 (x : Int) (w : World) : Calls Tryz.prog 64 #[.int .u64 x, .int .i64 8] w fun e w' => e = .returned (.string (bs (be64 x))) ∧ Below w.heap.size w w' := by
  have h := specNum8 x w
  rwa [nums8] at h
set_option maxRecDepth 5000 in
set_option maxHeartbeats 1600000 in
theorem specStr (s : ByteArray) (w : World) (hs : s.size ≤ 4294967295) : Calls Tryz.prog 66 #[.string s] w fun e w' => e = .returned (.string (bs (str (tl s)))) ∧ Below w.heap.size w w' := by
  obtain ⟨n, hn⟩ : ∃ n : Int, (s.size : Int) = n := ⟨_, rfl⟩
  have hn0 : 0 ≤ n := by omega
  have hn1 : n ≤ 4294967295 := by omega
  have u1 : IntKind.u64.wrap n = n := by unfold IntKind.wrap; simp [IntKind.signed, IntKind.bits]; omega
  have hsz : ¬ (9223372036854775807 < (bs (be32 n)).size + s.size) := by rw [bs_size, be32_len]; omega
  have hret : bs (be32 n) ++ s = bs (str (tl s)) := by
    unfold str
    rw [bs_append, bs_tl, tl_length, hn]
  go_enter Tryz.func66, Tryz.ntmps66
  go_wp2_with fail
  refine (specN4 n w).mono ?_
  rintro e w1 ⟨rfl, hb⟩
  have HB := Lib.hid hb
  clear hb
  go_wp2_with fail
  go_ret
  exact ⟨rfl, HB.out⟩
/-- The reference's extensions as the library's. -/
def exSp (e : S147) : S266 := ⟨e.f0, e.f1⟩
theorem exS_of_C {w : World} {A : Option Addr} {l : List S147} (h : Kd.C k147 w A l.length l) : l = [] ∨ ∃ x p, A = some ⟨x, p, none⟩ ∧ x < w.heap.size ∧ ∀ k e, l[k]? = some e → w.cell? ⟨x, p + k * 2, none⟩ = some (.string e.f0) ∧ w.cell? ⟨x, p + k * 2 + 1, none⟩ = some (.string e.f1) := by
  cases hl : l with
  | nil => exact .inl rfl
  | cons e r =>
    rw [← hl]
    have hlen : 0 < l.length := by rw [hl]; simp
    obtain ⟨ad, rfl, h0, _⟩ := at_T147 h 0 (by omega) (by omega)
    have hsp : ad.spot = none := by
      have := spot0 h0
      simpa [Addr.add] using this
    obtain ⟨x, p, sp⟩ := ad
    have hsp' : sp = none := hsp
    subst hsp'
    refine .inr ⟨x, p, rfl, ?_, fun k e he => ?_⟩
    · have := World.block_lt_of_cell? w _ h0
      simpa [Addr.add] using this
    · have hk : k < l.length := (List.getElem?_eq_some_iff.1 he).1
      obtain ⟨ad, e1, h1, h2⟩ := at_T147 h (k : Int) (by omega) (by omega)
      obtain rfl := Option.some.inj e1
      have hr : rd_T147 l (k : Int) = e := by
        unfold rd_T147
        rw [Int.toNat_natCast, List.getD_eq_getElem?_getD, he]
        rfl
      rw [hr, Int.toNat_natCast] at h1 h2
      rw [add_plain] at h1 h2
      exact ⟨h1, h2⟩
set_option maxRecDepth 100000 in
set_option maxHeartbeats 3200000 in
theorem specExtsB (A : Option Addr) (n cap : Nat) (l : List S147) (w : World) (hn : n = l.length) (hC : Kd.C k147 w A l.length l) (hl : n ≤ 1000) (hbd : (exB (l.map exSp)).length ≤ 10000000) (hsz : ∀ e ∈ l, e.f0.size ≤ 10000000 ∧ e.f1.size ≤ 10000000) (hcap : n ≤ cap) :
    Calls Tryz.prog 65 #[.slice A n cap] w fun e w' => e = .returned (.string (bs (exB (l.map exSp)))) ∧ Below w.heap.size w w' := by
  have HC := Lib.hid (exS_of_C hC)
  have HN := Lib.hid hn
  have BD := Lib.hid hbd
  have SZ := Lib.hid hsz
  clear hC hbd hn hsz
  go_enter Tryz.func65, Tryz.ntmps65
  go_wp2_with fail
  go_loopw [3, 8] (fun s i wr => ∃ k : Nat, k ≤ n ∧ i = .int .i64 (k : Int) ∧ s = .string (bs (exB ((l.take k).map exSp))) ∧ Hid (Below w.heap.size w wr)) (fun _ i _ => n - (intOf i).toNat)
  case atStart => exact ⟨0, Nat.zero_le _, rfl, rfl, Lib.hid (Below.refl _ _)⟩
  case round =>
    obtain ⟨k, hk, rfl, rfl, HR⟩ := hrel
    by_cases hlt : k < n
    · have hkl : k < l.length := by have := HN.out; omega
      obtain ⟨x, p, rfl, hx, hc0⟩ := HC.out.resolve_left (by intro h; rw [h] at hkl; simp at hkl)
      have he : l[k]? = some l[k] := List.getElem?_eq_getElem hkl
      obtain ⟨e1, e2⟩ := hc0 _ _ he
      have kx : ∀ i, wr.cell? ⟨x, i, none⟩ = w.cell? ⟨x, i, none⟩ := fun i => cell_kept (HR.out.block x hx)
      rw [← kx] at e1 e2
      have ht2 : l.take (k + 1) = l.take k ++ [l[k]] := List.take_succ_eq_append_getElem hkl
      have htk : exB ((l.take (k + 1)).map exSp) = exB ((l.take k).map exSp) ++ (str (tl l[k].f0) ++ str (tl l[k].f1)) := by
        rw [ht2, List.map_append, List.map_singleton, exB_snoc]
        rfl
      have HT := Lib.hid (show bs (exB ((l.take (k + 1)).map exSp)) = bs (exB ((l.take k).map exSp)) ++ (bs (str (tl l[k].f0)) ++ bs (str (tl l[k].f1))) by rw [htk, bs_append, bs_append])
      obtain ⟨z1, z2⟩ := SZ.out _ (List.getElem_mem hkl)
      have zk : (exB ((l.take k).map exSp)).length ≤ 10000000 := by
        rw [List.map_take]
        exact Nat.le_trans (exB_take _ _) BD.out
      have q1 : ¬ (9223372036854775807 < (bs (str (tl l[k].f0))).size + (bs (str (tl l[k].f1))).size) := by rw [bs_size, bs_size, str_len, str_len, tl_length, tl_length]; omega
      have q2 : ¬ (9223372036854775807 < (bs (exB ((l.take k).map exSp))).size + ((bs (str (tl l[k].f0))).size + (bs (str (tl l[k].f1))).size)) := by rw [bs_size, bs_size, bs_size, str_len, str_len, tl_length, tl_length]; omega
      have S1 := Lib.hid (fun w => specStr l[k].f0 w (by omega))
      have S2 := Lib.hid (fun w => specStr l[k].f1 w (by omega))
      have hwl := HR.out.size
      clear he hc0 kx ht2 htk z1 z2 zk
      generalize bs (exB ((l.take k).map exSp)) = acc at *
      generalize l[k].f0 = s1 at *
      generalize l[k].f1 = s2 at *
      generalize bs (str (tl s1)) = t1 at *
      generalize bs (str (tl s2)) = t2 at *
      go_upto_region 5 with (fail)
      have k5 : (wr.alloc (.cells #[.string s1, .string s2] 147)).heap[wr.heap.size]? = some (.cells #[.string s1, .string s2] 147 (0, 0)) := heap_alloc_new _ _
      have b5 : Below w.heap.size w (wr.alloc (.cells #[.string s1, .string s2] 147)) := HR.out.alloc HR.out.size _
      generalize wr.alloc (.cells #[.string s1, .string s2] 147) = W at *
      generalize wr.heap.size = q at *
      have c0 : W.cell? ⟨q, 0, none⟩ = some (.string s1) := by rw [cell_of_blk k5]; rfl
      have c1 : W.cell? ⟨q, 1, none⟩ = some (.string s2) := by rw [cell_of_blk k5]; rfl
      clear k5 HR e1 e2 hwl
      go_region_held3 (fun w' => w'.cell? ⟨q, 0, none⟩ = some (.string s1) ∧ w'.cell? ⟨q, 1, none⟩ = some (.string s2) ∧ Below w.heap.size w w')
        (((first | (go_split_ands) | skip); refine ⟨?_, ?_, ?_⟩ <;> first | assumption | exact pw_cell_below hb (by assumption) | (simp; assumption) | exact below_drew (by assumption) | exact Below.trans (by assumption) (hb.mono (by have := Below.size (by assumption : Below w.heap.size w _); assumption))))
        (first
          | (go_at_call 66; refine (S1.out _).mono ?_; rintro e w' ⟨rfl, hb⟩)
          | (go_at_call 66; refine (S2.out _).mono ?_; rintro e w' ⟨rfl, hb⟩))
      go_split_ands
      go_wp2_with fail
      go_roundw
      case rel => exact ⟨k + 1, by omega, by go_num, by rw [HT.out], Lib.hid (by assumption)⟩
      case measure => simp [intOf]; omega
    · obtain rfl : k = n := by omega
      have hfull : l.take k = l := List.take_of_length_le (by have := HN.out; omega)
      rw [hfull]
      clear hfull
      go_wp2_with fail
      go_ret
      exact ⟨rfl, HR.out⟩
end Go.Proofs.YtmenkckgpiafiaaGreat
namespace Go.Proofs.YtmenkckgpiafiaaGreat
open Go.RowKit Go.Great Go.Proofs.YtmenkckgpiafiaaGreatW.PrintWords Go.Proofs.YtmenkckgpiafiaaGreatW.PrintLast Go.Proofs.YtmenkckgpiafiaaGreatW.PrintMore Go.Proofs.YtmenkckgpiafiaaGreat.KK
theorem plain_l0 (l : List S147) (hl : l.length ≤ 4398046511103) (x0 : List S147) : ∀ (m k i : Nat) (x3 : Int), i + m = l.length → m < k → ∃ r, PE.spec_extsPlain.l0 k x0 x3 l (l.length : Int) (i : Int) = some r := by
  intro m
  induction m with
  | zero =>
    intro k i x3 hi hk
    obtain ⟨k, rfl⟩ : ∃ j, k = j + 1 := ⟨k - 1, by omega⟩
    simp only [PE.spec_extsPlain.l0]
    rw [if_neg (by omega)]
    split <;> exact ⟨_, rfl⟩
  | succ m ih =>
    intro k i x3 hi hk
    obtain ⟨k, rfl⟩ : ∃ j, k = j + 1 := ⟨k - 1, by omega⟩
    simp only [PE.spec_extsPlain.l0]
    rw [if_pos (by omega), if_pos (by omega), if_pos (by omega), wrap_succ (by omega) (show (i : Int) < (l.length : Int) by omega) (by omega)]
    rw [show ((i : Int) + 1) = ((i + 1 : Nat) : Int) from by omega]
    exact ih k (i + 1) _ (by omega) (by omega)
theorem extsPlainC (A : Option Addr) (n cap : Nat) (l : List S147) (w : World) (hn : n = l.length) (hl : n ≤ 1000) (hC : Kd.C k147 w A l.length l) (hc : l.length ≤ cap) :
    Calls Tryz.prog 121 #[.slice A n cap] w fun e w' => (∃ r, e = .returned (.bool r)) ∧ Below w.heap.size w w' := by
  subst hn
  obtain ⟨r, h⟩ := plain_l0 l (by omega) l l.length (l.length + 1) 0 0 (by omega) (by omega)
  exact (PE.spec_extsPlain.calls (l.length + 1) A cap l r w hC hc h).mono (fun e w' h => ⟨⟨r, h.1⟩, h.2⟩)
/-- The seam's extensions as the reference's. -/
def exIs (e : S89) : S147 := ⟨e.f0, e.f1⟩
theorem specExts_l0 (l : List S89) (hl : l.length ≤ 1000) : ∀ (m k i : Nat), i + m = l.length → m < k → PE.laws_specExts.l0 k ((l.take i).map exIs) l (l.length : Int) (i : Int) = some (l.map exIs) := by
  intro m
  induction m with
  | zero =>
    intro k i hi hk
    obtain ⟨k, rfl⟩ : ∃ j, k = j + 1 := ⟨k - 1, by omega⟩
    simp only [PE.laws_specExts.l0]
    rw [if_neg (by omega), List.take_of_length_le (by omega)]
  | succ m ih =>
    intro k i hi hk
    obtain ⟨k, rfl⟩ : ∃ j, k = j + 1 := ⟨k - 1, by omega⟩
    have hil : i < l.length := by omega
    simp only [PE.laws_specExts.l0]
    rw [if_pos (by omega), if_pos (by omega), if_pos (by omega), if_pos (by rw [List.length_map, List.length_take]; omega), wrap_succ (by omega) (show (i : Int) < (l.length : Int) by omega) (by omega)]
    have hr : rd_T89 l (i : Int) = l[i] := by
      unfold rd_T89
      rw [Int.toNat_natCast, List.getD_eq_getElem?_getD, List.getElem?_eq_getElem hil]
      rfl
    rw [hr, show ((i : Int) + 1) = ((i + 1 : Nat) : Int) from by omega]
    have h := ih k (i + 1) (by omega) (by omega)
    rw [List.take_succ_eq_append_getElem hil, List.map_append] at h
    exact h
theorem specAttrsC (a b c d e f g : Int) (A : Option Addr) (n cap : Nat) (l : List S89) (w : World) (hn : n = l.length) (hl : n ≤ 1000) (hC : Kd.C k89 w A l.length l) (hc : l.length ≤ cap) :
    Calls Tryz.prog 28 #[.agg (at8 a b c d e f g (.slice A n cap))] w fun r w' => (∃ A' c', r = .returned (.agg (at8 a b c d e f g (.slice A' n c'))) ∧ l.length ≤ c' ∧ Kd.C k147 w' A' (l.map exIs).length (l.map exIs)) ∧ Below w.heap.size w w' := by
  subst hn
  have h : PE.laws_specAttrs.f (l.length + 1) a b c d e f g l = some (a, b, c, d, e, f, g, l.map exIs) := by
    unfold PE.laws_specAttrs.f PE.laws_specExts.f
    have h0 := specExts_l0 l hl l.length (l.length + 1) 0 (by omega) (by omega)
    rw [show PE.laws_specExts.l0 (l.length + 1) ([] : List S147) l (l.length : Int) 0 = some (l.map exIs) from h0]
    rfl
  refine (PE.laws_specAttrs.calls (l.length + 1) a b c d e f g A cap l a b c d e f g (l.map exIs) w hC hc h).mono ?_
  rintro r w' ⟨v, rfl, hv, hb⟩
  obtain ⟨A', c', rfl, h1, h2⟩ := Kd.R_reads hv
  refine ⟨⟨A', c', ?_, by simpa using h1, h2⟩, hb⟩
  rw [List.length_map]
  rfl
theorem pinfo8 (a b c d e f g : Int) (v : Value) : (Tryz.prog.info? 40).map (·.size) = some (at8 a b c d e f g v).size := by kernel_rfl
def plainS12 (q : Nat) (W0 : World) (a' : Act) (w' : World) : Prop := W0 = w' ∧ ∃ (x0 x2 x3 x4 x5 x6 x7 x8 x9 x10 x11 x13 x14 x15 x16 x17 x18 x19 x20 x21 x22 x23 x24 x25 x26 x27 x28 x29 x30 x31 x32 x33 x34 x35 x36 x37 x38 x39 x40 x41 x42 x43 x44 x45 x46 x47 x48 x49 x50 x51 x52 x53 x54 x55 x56 x57 x58 x59 x60 x61 x62 x63 x64 x65 x66 x67 x68 x69 : Value), a' = ⟨#[x0, (.pointer (some ⟨q, 0, none⟩)), x2, x3, x4, x5, x6, x7, x8, x9, x10, x11, (.bool false), x13, x14, x15, x16, x17, x18, x19, x20, x21, x22, x23, x24, x25, x26, x27, x28, x29, x30, x31, x32, x33, x34, x35, x36, x37, x38, x39, x40, x41, x42, x43, x44, x45, x46, x47, x48, x49, x50, x51, x52, x53, x54, x55, x56, x57, x58, x59, x60, x61, x62, x63, x64, x65, x66, x67, x68, x69], []⟩
def plainS28 (q : Nat) (W0 : World) (a' : Act) (w' : World) : Prop := W0 = w' ∧ ∃ (x0 x2 x3 x4 x5 x6 x7 x8 x9 x10 x11 x12 x13 x14 x15 x16 x17 x18 x19 x20 x21 x22 x23 x24 x25 x26 x27 x29 x30 x31 x32 x33 x34 x35 x36 x37 x38 x39 x40 x41 x42 x43 x44 x45 x46 x47 x48 x49 x50 x51 x52 x53 x54 x55 x56 x57 x58 x59 x60 x61 x62 x63 x64 x65 x66 x67 x68 x69 : Value), a' = ⟨#[x0, (.pointer (some ⟨q, 0, none⟩)), x2, x3, x4, x5, x6, x7, x8, x9, x10, x11, x12, x13, x14, x15, x16, x17, x18, x19, x20, x21, x22, x23, x24, x25, x26, x27, (.bool false), x29, x30, x31, x32, x33, x34, x35, x36, x37, x38, x39, x40, x41, x42, x43, x44, x45, x46, x47, x48, x49, x50, x51, x52, x53, x54, x55, x56, x57, x58, x59, x60, x61, x62, x63, x64, x65, x66, x67, x68, x69], []⟩
def plainS39 (q : Nat) (W0 : World) (a' : Act) (w' : World) : Prop := W0 = w' ∧ ∃ (x0 x2 x3 x4 x5 x6 x7 x8 x9 x10 x11 x12 x13 x14 x15 x16 x17 x18 x19 x20 x21 x22 x23 x24 x25 x26 x27 x28 x29 x30 x31 x32 x33 x34 x35 x36 x37 x38 x40 x41 x42 x43 x44 x45 x46 x47 x48 x49 x50 x51 x52 x53 x54 x55 x56 x57 x58 x59 x60 x61 x62 x63 x64 x65 x66 x67 x68 x69 : Value), a' = ⟨#[x0, (.pointer (some ⟨q, 0, none⟩)), x2, x3, x4, x5, x6, x7, x8, x9, x10, x11, x12, x13, x14, x15, x16, x17, x18, x19, x20, x21, x22, x23, x24, x25, x26, x27, x28, x29, x30, x31, x32, x33, x34, x35, x36, x37, x38, (.bool false), x40, x41, x42, x43, x44, x45, x46, x47, x48, x49, x50, x51, x52, x53, x54, x55, x56, x57, x58, x59, x60, x61, x62, x63, x64, x65, x66, x67, x68, x69], []⟩
def plainS55 (q : Nat) (W0 : World) (a' : Act) (w' : World) : Prop := W0 = w' ∧ ∃ (x0 x2 x3 x4 x5 x6 x7 x8 x9 x10 x11 x12 x13 x14 x15 x16 x17 x18 x19 x20 x21 x22 x23 x24 x25 x26 x27 x28 x29 x30 x31 x32 x33 x34 x35 x36 x37 x38 x39 x40 x41 x42 x43 x44 x45 x46 x47 x48 x49 x50 x51 x52 x53 x54 x56 x57 x58 x59 x60 x61 x62 x63 x64 x65 x66 x67 x68 x69 : Value), a' = ⟨#[x0, (.pointer (some ⟨q, 0, none⟩)), x2, x3, x4, x5, x6, x7, x8, x9, x10, x11, x12, x13, x14, x15, x16, x17, x18, x19, x20, x21, x22, x23, x24, x25, x26, x27, x28, x29, x30, x31, x32, x33, x34, x35, x36, x37, x38, x39, x40, x41, x42, x43, x44, x45, x46, x47, x48, x49, x50, x51, x52, x53, x54, (.bool false), x56, x57, x58, x59, x60, x61, x62, x63, x64, x65, x66, x67, x68, x69], []⟩
set_option maxRecDepth 5000 in
set_option maxHeartbeats 6400000 in
theorem attrsPlainC (a b c d e f g : Int) (A : Option Addr) (n cap : Nat) (l : List S147) (w : World) (hn : n = l.length) (hl : n ≤ 1000) (hC : Kd.C k147 w A l.length l) (hc : l.length ≤ cap)
    (t1 : flg a 1 = false → b = 0) (t2 : flg a 2 = false → c = 0 ∧ d = 0) (t4 : flg a 4 = false → e = 0) (t8 : flg a 8 = false → f = 0 ∧ g = 0) (tX : flg a 2147483648 = false → n = 0) :
    Calls Tryz.prog 68 #[.agg (at8 a b c d e f g (.slice A n cap))] w fun r w' => (∃ b, r = .returned (.bool b)) ∧ Below w.heap.size w w' := by
  obtain ⟨W0, hW0⟩ : ∃ W, w.alloc (.cells (at8 a b c d e f g (.slice A n cap)) 40) = W := ⟨_, rfl⟩
  have hb0 : Below w.heap.size w W0 := by rw [← hW0]; exact (Below.refl _ _).alloc (Nat.le_refl _) _
  have k0 : W0.heap[w.heap.size]? = some (.cells (at8 a b c d e f g (.slice A n cap)) 40 (0, 0)) := by rw [← hW0]; exact heap_alloc_new _ _
  have EP := Lib.hid (extsPlainC A n cap l W0 hn hl (Kd.C_below hC hb0) hc)
  obtain ⟨q, hq⟩ : ∃ q, q = w.heap.size := ⟨_, rfl⟩
  rw [← hq] at k0
  have c0 : W0.cell? ⟨q, 0, none⟩ = some (.int .u32 a) := by rw [cell_of_blk k0]; rfl
  have c1 : W0.cell? ⟨q, 1, none⟩ = some (.int .u64 b) := by rw [cell_of_blk k0]; rfl
  have c2 : W0.cell? ⟨q, 2, none⟩ = some (.int .u32 c) := by rw [cell_of_blk k0]; rfl
  have c3 : W0.cell? ⟨q, 3, none⟩ = some (.int .u32 d) := by rw [cell_of_blk k0]; rfl
  have c4 : W0.cell? ⟨q, 4, none⟩ = some (.int .u32 e) := by rw [cell_of_blk k0]; rfl
  have c5 : W0.cell? ⟨q, 5, none⟩ = some (.int .u32 f) := by rw [cell_of_blk k0]; rfl
  have c6 : W0.cell? ⟨q, 6, none⟩ = some (.int .u32 g) := by rw [cell_of_blk k0]; rfl
  have c7 : W0.cell? ⟨q, 7, none⟩ = some (.slice A n cap) := by rw [cell_of_blk k0]; rfl
  have X0 := Lib.hid hW0
  have B0 := Lib.hid hb0
  have Q0 := Lib.hid hq
  have T := Lib.hid (And.intro t1 (And.intro t2 (And.intro t4 (And.intro t8 tX))))
  clear hW0 hb0 k0 hq hn hC hc t1 t2 t4 t8 tX
  go_enter Tryz.func68, Tryz.ntmps68
  go_upto_region 1 with (refine wpList_boxTo rfl 40 _ rfl (some 1) rfl w.heap.size rfl (at8 a b c d e f g (.slice A n cap)) rfl ?_; rw [X0.out]; rw [← Q0.out])
  refine wp_region_lit ?_
  refine wpList_cut 10 (plainS12 q W0) ?_ ?_
  · simp only [List.append_eq, List.cons_append, List.nil_append, List.take_succ_cons, List.take_zero]
    cases h1 : flg a 1 with
    | true =>
      have f1 : (bits .and .u32 a 1 == 0) = false := by have h := h1; unfold flg at h; simpa using h
      clear h1
      go_wp2_with fail
      exact ⟨rfl, _, _, _, _, _, _, _, _, _, _, _, _, _, _, _, _, _, _, _, _, _, _, _, _, _, _, _, _, _, _, _, _, _, _, _, _, _, _, _, _, _, _, _, _, _, _, _, _, _, _, _, _, _, _, _, _, _, _, _, _, _, _, _, _, _, _, _, _, rfl⟩
    | false =>
      have f1 : (bits .and .u32 a 1 == 0) = true := by have h := h1; unfold flg at h; simpa using h
      have g0 : (b != 0) = false := by have h := T.out.1 h1; simp [h]
      clear h1
      go_wp2_with fail
      exact ⟨rfl, _, _, _, _, _, _, _, _, _, _, _, _, _, _, _, _, _, _, _, _, _, _, _, _, _, _, _, _, _, _, _, _, _, _, _, _, _, _, _, _, _, _, _, _, _, _, _, _, _, _, _, _, _, _, _, _, _, _, _, _, _, _, _, _, _, _, _, _, rfl⟩
  rintro a' w' ⟨rfl, x0, x2, x3, x4, x5, x6, x7, x8, x9, x10, x11, x13, x14, x15, x16, x17, x18, x19, x20, x21, x22, x23, x24, x25, x26, x27, x28, x29, x30, x31, x32, x33, x34, x35, x36, x37, x38, x39, x40, x41, x42, x43, x44, x45, x46, x47, x48, x49, x50, x51, x52, x53, x54, x55, x56, x57, x58, x59, x60, x61, x62, x63, x64, x65, x66, x67, x68, x69, rfl⟩
  simp only [List.append_eq, List.cons_append, List.nil_append, List.drop_succ_cons, List.drop_zero]
  refine wpList_cut 16 (plainS28 q W0) ?_ ?_
  · simp only [List.append_eq, List.cons_append, List.nil_append, List.take_succ_cons, List.take_zero]
    cases h1 : flg a 2 with
    | true =>
      have f1 : (bits .and .u32 a 2 == 0) = false := by have h := h1; unfold flg at h; simpa using h
      clear h1
      go_wp2_with fail
      exact ⟨rfl, _, _, _, _, _, _, _, _, _, _, _, _, _, _, _, _, _, _, _, _, _, _, _, _, _, _, _, _, _, _, _, _, _, _, _, _, _, _, _, _, _, _, _, _, _, _, _, _, _, _, _, _, _, _, _, _, _, _, _, _, _, _, _, _, _, _, _, _, rfl⟩
    | false =>
      have f1 : (bits .and .u32 a 2 == 0) = true := by have h := h1; unfold flg at h; simpa using h
      have g0 : (c != 0) = false := by have h := T.out.2.1 h1; simp [h]
      have g1 : (d != 0) = false := by have h := T.out.2.1 h1; simp [h]
      clear h1
      go_wp2_with fail
      exact ⟨rfl, _, _, _, _, _, _, _, _, _, _, _, _, _, _, _, _, _, _, _, _, _, _, _, _, _, _, _, _, _, _, _, _, _, _, _, _, _, _, _, _, _, _, _, _, _, _, _, _, _, _, _, _, _, _, _, _, _, _, _, _, _, _, _, _, _, _, _, _, rfl⟩
  rintro a' w' ⟨rfl, x0, x2, x3, x4, x5, x6, x7, x8, x9, x10, x11, x12, x13, x14, x15, x16, x17, x18, x19, x20, x21, x22, x23, x24, x25, x26, x27, x29, x30, x31, x32, x33, x34, x35, x36, x37, x38, x39, x40, x41, x42, x43, x44, x45, x46, x47, x48, x49, x50, x51, x52, x53, x54, x55, x56, x57, x58, x59, x60, x61, x62, x63, x64, x65, x66, x67, x68, x69, rfl⟩
  simp only [List.append_eq, List.cons_append, List.nil_append, List.drop_succ_cons, List.drop_zero]
  refine wpList_cut 11 (plainS39 q W0) ?_ ?_
  · simp only [List.append_eq, List.cons_append, List.nil_append, List.take_succ_cons, List.take_zero]
    cases h1 : flg a 4 with
    | true =>
      have f1 : (bits .and .u32 a 4 == 0) = false := by have h := h1; unfold flg at h; simpa using h
      clear h1
      go_wp2_with fail
      exact ⟨rfl, _, _, _, _, _, _, _, _, _, _, _, _, _, _, _, _, _, _, _, _, _, _, _, _, _, _, _, _, _, _, _, _, _, _, _, _, _, _, _, _, _, _, _, _, _, _, _, _, _, _, _, _, _, _, _, _, _, _, _, _, _, _, _, _, _, _, _, _, rfl⟩
    | false =>
      have f1 : (bits .and .u32 a 4 == 0) = true := by have h := h1; unfold flg at h; simpa using h
      have g0 : (e != 0) = false := by have h := T.out.2.2.1 h1; simp [h]
      clear h1
      go_wp2_with fail
      exact ⟨rfl, _, _, _, _, _, _, _, _, _, _, _, _, _, _, _, _, _, _, _, _, _, _, _, _, _, _, _, _, _, _, _, _, _, _, _, _, _, _, _, _, _, _, _, _, _, _, _, _, _, _, _, _, _, _, _, _, _, _, _, _, _, _, _, _, _, _, _, _, rfl⟩
  rintro a' w' ⟨rfl, x0, x2, x3, x4, x5, x6, x7, x8, x9, x10, x11, x12, x13, x14, x15, x16, x17, x18, x19, x20, x21, x22, x23, x24, x25, x26, x27, x28, x29, x30, x31, x32, x33, x34, x35, x36, x37, x38, x40, x41, x42, x43, x44, x45, x46, x47, x48, x49, x50, x51, x52, x53, x54, x55, x56, x57, x58, x59, x60, x61, x62, x63, x64, x65, x66, x67, x68, x69, rfl⟩
  simp only [List.append_eq, List.cons_append, List.nil_append, List.drop_succ_cons, List.drop_zero]
  refine wpList_cut 16 (plainS55 q W0) ?_ ?_
  · simp only [List.append_eq, List.cons_append, List.nil_append, List.take_succ_cons, List.take_zero]
    cases h1 : flg a 8 with
    | true =>
      have f1 : (bits .and .u32 a 8 == 0) = false := by have h := h1; unfold flg at h; simpa using h
      clear h1
      go_wp2_with fail
      exact ⟨rfl, _, _, _, _, _, _, _, _, _, _, _, _, _, _, _, _, _, _, _, _, _, _, _, _, _, _, _, _, _, _, _, _, _, _, _, _, _, _, _, _, _, _, _, _, _, _, _, _, _, _, _, _, _, _, _, _, _, _, _, _, _, _, _, _, _, _, _, _, rfl⟩
    | false =>
      have f1 : (bits .and .u32 a 8 == 0) = true := by have h := h1; unfold flg at h; simpa using h
      have g0 : (f != 0) = false := by have h := T.out.2.2.2.1 h1; simp [h]
      have g1 : (g != 0) = false := by have h := T.out.2.2.2.1 h1; simp [h]
      clear h1
      go_wp2_with fail
      exact ⟨rfl, _, _, _, _, _, _, _, _, _, _, _, _, _, _, _, _, _, _, _, _, _, _, _, _, _, _, _, _, _, _, _, _, _, _, _, _, _, _, _, _, _, _, _, _, _, _, _, _, _, _, _, _, _, _, _, _, _, _, _, _, _, _, _, _, _, _, _, _, rfl⟩
  rintro a' w' ⟨rfl, x0, x2, x3, x4, x5, x6, x7, x8, x9, x10, x11, x12, x13, x14, x15, x16, x17, x18, x19, x20, x21, x22, x23, x24, x25, x26, x27, x28, x29, x30, x31, x32, x33, x34, x35, x36, x37, x38, x39, x40, x41, x42, x43, x44, x45, x46, x47, x48, x49, x50, x51, x52, x53, x54, x56, x57, x58, x59, x60, x61, x62, x63, x64, x65, x66, x67, x68, x69, rfl⟩
  simp only [List.append_eq, List.cons_append, List.nil_append, List.drop_succ_cons, List.drop_zero]
  have HH : flg a 2147483648 = false → (decide ((n : Int) > 0) = false ∧ ¬ (0 : Int) < (n : Int)) := fun h => by have := T.out.2.2.2.2 h; subst this; simp
  cases h1 : flg a 2147483648 with
  | true =>
    have f1 : (bits .and .u32 a 2147483648 == 0) = false := by have h := h1; unfold flg at h; simpa using h
    clear h1
    go_wp2_with fail
    refine EP.out.mono ?_
    rintro r w1 ⟨⟨r, rfl⟩, hb1⟩
    have B1 := Lib.hid (B0.out.trans (hb1.mono B0.out.size))
    clear hb1 EP
    go_wp2_with fail
    go_ret
    exact ⟨⟨_, rfl⟩, B1.out⟩
  | false =>
    obtain ⟨g0, g1⟩ := HH h1
    have f1 : (bits .and .u32 a 2147483648 == 0) = true := by have h := h1; unfold flg at h; simpa using h
    clear h1
    go_wp2_with fail
    refine EP.out.mono ?_
    rintro r w1 ⟨⟨r, rfl⟩, hb1⟩
    have B1 := Lib.hid (B0.out.trans (hb1.mono B0.out.size))
    clear hb1 EP
    go_wp2_with fail
    go_ret
    exact ⟨⟨_, rfl⟩, B1.out⟩
end Go.Proofs.YtmenkckgpiafiaaGreat
namespace Go.Proofs.YtmenkckgpiafiaaGreat
open Go.RowKit Go.Great Go.Proofs.YtmenkckgpiafiaaGreatW.PrintWords Go.Proofs.YtmenkckgpiafiaaGreatW.PrintLast Go.Proofs.YtmenkckgpiafiaaGreatW.PrintMore Go.Proofs.YtmenkckgpiafiaaGreat.KK
/-- The reference's attributes lie in a block of the call's own. -/
def SpB (w wx : World) (cs : Array Value) : Prop := Below w.heap.size w wx ∧ wx.heap[w.heap.size]? = some (.cells cs 40 (0, 0))
theorem SpB.step {w wx wy : World} {cs : Array Value} (h : SpB w wx cs) (hb : Below wx.heap.size wx wy) : SpB w wy cs := ⟨h.1.trans (hb.mono h.1.size), (hb.block _ (lt_of_blk h.2)).trans h.2⟩
theorem SpB.left {w wx : World} {cs : Array Value} (h : SpB w wx cs) : Below w.heap.size w wx := h.1
theorem SpB.drew {w wx : World} {cs : Array Value} (h : SpB w wx cs) : SpB w wx.drew cs := And.intro (below_drew h.1) h.2
theorem u64_32 {x : Int} (h : gU32 x) : IntKind.u64.wrap x = x := by obtain ⟨h0, h1⟩ := h; unfold IntKind.wrap; simp [IntKind.signed, IntKind.bits]; omega
theorem cat_ok {a b : ByteArray} (ha : a.size ≤ 1000000000) (hb : b.size ≤ 1000000000) : ¬ (9223372036854775807 < a.size + b.size) := by omega
theorem cat_ok2 {a b c : ByteArray} (ha : a.size ≤ 1000000000) (hb : b.size ≤ 1000000000) (hc : c.size ≤ 1000000000) : ¬ (9223372036854775807 < a.size + (b.size + c.size)) := by omega
set_option maxRecDepth 100000 in
set_option maxHeartbeats 6400000 in
theorem specWrite (a b c d e f g : Int) (A : Option Addr) (n cap : Nat) (l : List S147) (w : World) (hn : n = l.length) (hl : n ≤ 1000) (hC : Kd.C k147 w A l.length l) (hc : l.length ≤ cap)
    (t1 : flg a 1 = false → b = 0) (t2 : flg a 2 = false → c = 0 ∧ d = 0) (t4 : flg a 4 = false → e = 0) (t8 : flg a 8 = false → f = 0 ∧ g = 0) (tX : flg a 2147483648 = false → n = 0)
    (ga : gU32 a) (gc : gU32 c) (gd : gU32 d) (ge : gU32 e) (gf : gU32 f) (gg : gU32 g) (hbd : (exB (l.map exSp)).length ≤ 10000000) (hsz : ∀ e ∈ l, e.f0.size ≤ 10000000 ∧ e.f1.size ≤ 10000000) :
    Calls Tryz.prog 27 #[.agg (at8 a b c d e f g (.slice A n cap))] w fun r w' => (r = .returned (.tuple #[.string ⟨#[]⟩, .int .i64 2]) ∨ r = .returned (.tuple #[.string (bs (atB a b c d e f g (l.map exSp))), .int .i64 1])) ∧ Below w.heap.size w w' := by
  obtain ⟨W0, hW0⟩ : ∃ W, w.alloc (.cells (at8 a b c d e f g (.slice A n cap)) 40) = W := ⟨_, rfl⟩
  have hb0 : Below w.heap.size w W0 := by rw [← hW0]; exact (Below.refl _ _).alloc (Nat.le_refl _) _
  have k0 : W0.heap[w.heap.size]? = some (.cells (at8 a b c d e f g (.slice A n cap)) 40 (0, 0)) := by rw [← hW0]; exact heap_alloc_new _ _
  have PL := Lib.hid (attrsPlainC a b c d e f g A n cap l W0 hn hl (Kd.C_below hC hb0) hc t1 t2 t4 t8 tX)
  have EX := Lib.hid (fun (wx : World) (h : Below w.heap.size w wx) => specExtsB A n cap l wx hn (Kd.C_below hC h) hl hbd hsz (by omega))
  have S0 : SpB w W0 (at8 a b c d e f g (.slice A n cap)) := ⟨hb0, k0⟩
  have HN := Lib.hid hn
  have HBD := Lib.hid hbd
  have X0 := Lib.hid hW0
  have S0 := Lib.hid S0
  have GA := Lib.hid (And.intro ga (And.intro gc (And.intro gd (And.intro ge (And.intro gf gg)))))
  have hPL := Lib.hid (plen a b c d e f g)
  clear hW0 hb0 k0 hn hC hc t1 t2 t4 t8 tX ga gc gd ge gf gg hbd hsz
  go_enter Tryz.func27, Tryz.ntmps27
  go_wp2_with (first
    | (refine wpList_boxTo rfl 40 _ rfl (some 1) rfl w.heap.size rfl (at8 a b c d e f g (.slice A n cap)) rfl ?_; rw [X0.out])
    | refine wpList_load_row rfl 40 _ rfl w.heap.size rfl 40 (at8 a b c d e f g (.slice A n cap)) (0, 0) _ S0.out.2 Tryz.underlying40 rfl (pinfo8 _ _ _ _ _ _ _ _) ?_)
  refine PL.out.mono ?_
  rintro r w1 ⟨⟨r, rfl⟩, hb1⟩
  have S1 := Lib.hid (S0.out.step hb1)
  clear hb1 PL S0 X0
  cases r with
  | false =>
    go_wp2_with fail
    go_ret2
    exact ⟨.inl rfl, S1.out.1⟩
  | true =>
  have c0 : w1.cell? ⟨w.heap.size, 0, none⟩ = some (.int .u32 a) := by rw [cell_of_blk S1.out.2]; rfl
  have ua := u64_32 GA.out.1
  go_wp2_with fail
  refine (specN4 a w1).mono ?_
  rintro r w2 ⟨rfl, hb2⟩
  obtain ⟨W2, rfl⟩ : ∃ W : World, W = w2 := ⟨_, rfl⟩
  have S2 := Lib.hid (S1.out.step hb2)
  clear hb2 S1 c0 ua

  have c0 : W2.cell? ⟨w.heap.size, 0, none⟩ = some (.int .u32 a) := by rw [cell_of_blk S2.out.2]; rfl
  have hL : (be32 a).length ≤ 1000 := by obtain ⟨h1, h2, h3, h4⟩ := hPL.out; simp only [List.length_append, be32_len]; omega
  go_upto_if 15 with (fail)
  go_cut [4] (fun v wx => v = .string (bs (be32 a ++ p1 a b)) ∧ SpB w wx (at8 a b c d e f g (.slice A n cap)))
  case first =>
    cases hf : (bits .and .u32 a 1 != 0) with
    | true =>
      have eb : W2.cell? ⟨w.heap.size, 1, none⟩ = some (.int .u64 b) := by rw [cell_of_blk S2.out.2]; rfl
      have HE := Lib.hid (show bs (be32 a ++ p1 a b) = bs (be32 a) ++ bs (be64 b) by rw [show p1 a b = be64 b by unfold p1 flg; rw [hf]; rfl, bs_append])
      have q1 := cat_ok (a := bs (be32 a)) (b := bs (be64 b)) (by rw [bs_size]; omega) (by rw [bs_size, be64_len]; omega)
      generalize bs (be32 a) = acc at *
      go_wp2_with fail
      refine (specN8 b W2).mono ?_
      rintro r w5 ⟨rfl, hb⟩
      have S5 := Lib.hid (S2.out.step hb)
      clear hb
      go_wp2_with fail
      go_meet
      exact ⟨by rw [HE.out], S5.out⟩
    | false =>
      have HE := Lib.hid (show bs (be32 a ++ p1 a b) = bs (be32 a) by rw [show p1 a b = [] by unfold p1 flg; rw [hf]; rfl, List.append_nil])
      go_wp2_with fail
      go_meet
      exact ⟨by rw [HE.out], S2.out⟩
  case rest =>
    obtain ⟨rfl, hcut⟩ := hcut
    obtain ⟨W3, rfl⟩ : ∃ W : World, W = wc := ⟨_, rfl⟩
    have S3 := Lib.hid hcut
    clear hcut hL c0 S2
    have c0 : W3.cell? ⟨w.heap.size, 0, none⟩ = some (.int .u32 a) := by rw [cell_of_blk S3.out.2]; rfl
    have hL : (be32 a ++ p1 a b).length ≤ 1000 := by obtain ⟨h1, h2, h3, h4⟩ := hPL.out; simp only [List.length_append, be32_len]; omega
    go_upto_if 24 with (fail)
    go_cut [4] (fun v wx => v = .string (bs (be32 a ++ p1 a b ++ p2 a c d)) ∧ SpB w wx (at8 a b c d e f g (.slice A n cap)))
    case first =>
      cases hf : (bits .and .u32 a 2 != 0) with
      | true =>
        have ec : W3.cell? ⟨w.heap.size, 2, none⟩ = some (.int .u32 c) := by rw [cell_of_blk S3.out.2]; rfl
        have ed : W3.cell? ⟨w.heap.size, 3, none⟩ = some (.int .u32 d) := by rw [cell_of_blk S3.out.2]; rfl
        have ux := u64_32 GA.out.2.1
        have uy := u64_32 GA.out.2.2.1
        have HE := Lib.hid (show bs (be32 a ++ p1 a b ++ p2 a c d) = bs (be32 a ++ p1 a b) ++ (bs (be32 c) ++ bs (be32 d)) by rw [show p2 a c d = be32 c ++ be32 d by unfold p2 flg; rw [hf]; rfl, bs_append _ (be32 c ++ be32 d), bs_append (be32 c) (be32 d)])
        have q1 := cat_ok (a := bs (be32 c)) (b := bs (be32 d)) (by rw [bs_size, be32_len]; omega) (by rw [bs_size, be32_len]; omega)
        have q2 := cat_ok2 (a := bs (be32 a ++ p1 a b)) (b := bs (be32 c)) (c := bs (be32 d)) (by rw [bs_size]; omega) (by rw [bs_size, be32_len]; omega) (by rw [bs_size, be32_len]; omega)
        generalize bs (be32 a ++ p1 a b) = acc at *
        go_upto_region 7 with (fail)
        have hS := S3.out
        go_region_held3 (fun w' => w'.cell? ⟨w.heap.size, 2, none⟩ = some (.int .u32 c) ∧ w'.cell? ⟨w.heap.size, 3, none⟩ = some (.int .u32 d) ∧ SpB w w' (at8 a b c d e f g (.slice A n cap)))
          (((first | (go_split_ands) | skip); refine ⟨?_, ?_, ?_⟩ <;> first | assumption | exact pw_cell_below hb (by assumption) | exact SpB.step (by assumption) hb | exact SpB.drew (by assumption)))
          (first
            | (go_at_call 64; refine (specN4 _ _).mono ?_; rintro e w' ⟨rfl, hb⟩))
        all_goals
          go_split_ands
          go_wp2_with fail
          go_meet
          exact ⟨by rw [HE.out], by assumption⟩
      | false =>
        have HE := Lib.hid (show bs (be32 a ++ p1 a b ++ p2 a c d) = bs (be32 a ++ p1 a b) by rw [show p2 a c d = [] by unfold p2 flg; rw [hf]; rfl, List.append_nil])
        go_wp2_with fail
        go_meet
        exact ⟨by rw [HE.out], S3.out⟩
    case rest =>
      obtain ⟨rfl, hcut⟩ := hcut
      obtain ⟨W4, rfl⟩ : ∃ W : World, W = wc := ⟨_, rfl⟩
      have S4 := Lib.hid hcut
      clear hcut hL c0 S3
      have c0 : W4.cell? ⟨w.heap.size, 0, none⟩ = some (.int .u32 a) := by rw [cell_of_blk S4.out.2]; rfl
      have hL : (be32 a ++ p1 a b ++ p2 a c d).length ≤ 1000 := by obtain ⟨h1, h2, h3, h4⟩ := hPL.out; simp only [List.length_append, be32_len]; omega
      go_upto_if 39 with (fail)
      go_cut [4] (fun v wx => v = .string (bs (be32 a ++ p1 a b ++ p2 a c d ++ p4 a e)) ∧ SpB w wx (at8 a b c d e f g (.slice A n cap)))
      case first =>
        cases hf : (bits .and .u32 a 4 != 0) with
        | true =>
          have ee : W4.cell? ⟨w.heap.size, 4, none⟩ = some (.int .u32 e) := by rw [cell_of_blk S4.out.2]; rfl
          have ue := u64_32 GA.out.2.2.2.1
          have HE := Lib.hid (show bs (be32 a ++ p1 a b ++ p2 a c d ++ p4 a e) = bs (be32 a ++ p1 a b ++ p2 a c d) ++ bs (be32 e) by rw [show p4 a e = be32 e by unfold p4 flg; rw [hf]; rfl, bs_append])
          have q1 := cat_ok (a := bs (be32 a ++ p1 a b ++ p2 a c d)) (b := bs (be32 e)) (by rw [bs_size]; omega) (by rw [bs_size, be32_len]; omega)
          generalize bs (be32 a ++ p1 a b ++ p2 a c d) = acc at *
          go_wp2_with fail
          refine (specN4 e W4).mono ?_
          rintro r w5 ⟨rfl, hb⟩
          have S5 := Lib.hid (S4.out.step hb)
          clear hb
          go_wp2_with fail
          go_meet
          exact ⟨by rw [HE.out], S5.out⟩
        | false =>
          have HE := Lib.hid (show bs (be32 a ++ p1 a b ++ p2 a c d ++ p4 a e) = bs (be32 a ++ p1 a b ++ p2 a c d) by rw [show p4 a e = [] by unfold p4 flg; rw [hf]; rfl, List.append_nil])
          go_wp2_with fail
          go_meet
          exact ⟨by rw [HE.out], S4.out⟩
      case rest =>
        obtain ⟨rfl, hcut⟩ := hcut
        obtain ⟨W5, rfl⟩ : ∃ W : World, W = wc := ⟨_, rfl⟩
        have S5 := Lib.hid hcut
        clear hcut hL c0 S4
        have c0 : W5.cell? ⟨w.heap.size, 0, none⟩ = some (.int .u32 a) := by rw [cell_of_blk S5.out.2]; rfl
        have hL : (be32 a ++ p1 a b ++ p2 a c d ++ p4 a e).length ≤ 1000 := by obtain ⟨h1, h2, h3, h4⟩ := hPL.out; simp only [List.length_append, be32_len]; omega
        go_upto_if 49 with (fail)
        go_cut [4] (fun v wx => v = .string (bs (be32 a ++ p1 a b ++ p2 a c d ++ p4 a e ++ p8 a f g)) ∧ SpB w wx (at8 a b c d e f g (.slice A n cap)))
        case first =>
          cases hf : (bits .and .u32 a 8 != 0) with
          | true =>
            have ef : W5.cell? ⟨w.heap.size, 5, none⟩ = some (.int .u32 f) := by rw [cell_of_blk S5.out.2]; rfl
            have eg : W5.cell? ⟨w.heap.size, 6, none⟩ = some (.int .u32 g) := by rw [cell_of_blk S5.out.2]; rfl
            have ux := u64_32 GA.out.2.2.2.2.1
            have uy := u64_32 GA.out.2.2.2.2.2
            have HE := Lib.hid (show bs (be32 a ++ p1 a b ++ p2 a c d ++ p4 a e ++ p8 a f g) = bs (be32 a ++ p1 a b ++ p2 a c d ++ p4 a e) ++ (bs (be32 f) ++ bs (be32 g)) by rw [show p8 a f g = be32 f ++ be32 g by unfold p8 flg; rw [hf]; rfl, bs_append _ (be32 f ++ be32 g), bs_append (be32 f) (be32 g)])
            have q1 := cat_ok (a := bs (be32 f)) (b := bs (be32 g)) (by rw [bs_size, be32_len]; omega) (by rw [bs_size, be32_len]; omega)
            have q2 := cat_ok2 (a := bs (be32 a ++ p1 a b ++ p2 a c d ++ p4 a e)) (b := bs (be32 f)) (c := bs (be32 g)) (by rw [bs_size]; omega) (by rw [bs_size, be32_len]; omega) (by rw [bs_size, be32_len]; omega)
            generalize bs (be32 a ++ p1 a b ++ p2 a c d ++ p4 a e) = acc at *
            go_upto_region 11 with (fail)
            have hS := S5.out
            go_region_held3 (fun w' => w'.cell? ⟨w.heap.size, 5, none⟩ = some (.int .u32 f) ∧ w'.cell? ⟨w.heap.size, 6, none⟩ = some (.int .u32 g) ∧ SpB w w' (at8 a b c d e f g (.slice A n cap)))
              (((first | (go_split_ands) | skip); refine ⟨?_, ?_, ?_⟩ <;> first | assumption | exact pw_cell_below hb (by assumption) | exact SpB.step (by assumption) hb | exact SpB.drew (by assumption)))
              (first
                | (go_at_call 64; refine (specN4 _ _).mono ?_; rintro e w' ⟨rfl, hb⟩))
            all_goals
              go_split_ands
              go_wp2_with fail
              go_meet
              exact ⟨by rw [HE.out], by assumption⟩
          | false =>
            have HE := Lib.hid (show bs (be32 a ++ p1 a b ++ p2 a c d ++ p4 a e ++ p8 a f g) = bs (be32 a ++ p1 a b ++ p2 a c d ++ p4 a e) by rw [show p8 a f g = [] by unfold p8 flg; rw [hf]; rfl, List.append_nil])
            go_wp2_with fail
            go_meet
            exact ⟨by rw [HE.out], S5.out⟩
        case rest =>
          obtain ⟨rfl, hcut⟩ := hcut
          obtain ⟨W6, rfl⟩ : ∃ W : World, W = wc := ⟨_, rfl⟩
          have S6 := Lib.hid hcut
          clear hcut hL c0 S5
          have c0 : W6.cell? ⟨w.heap.size, 0, none⟩ = some (.int .u32 a) := by rw [cell_of_blk S6.out.2]; rfl
          have c7 : W6.cell? ⟨w.heap.size, 7, none⟩ = some (.slice A n cap) := by rw [cell_of_blk S6.out.2]; rfl
          have hL : (be32 a ++ p1 a b ++ p2 a c d ++ p4 a e ++ p8 a f g).length ≤ 1000 := by obtain ⟨h1, h2, h3, h4⟩ := hPL.out; simp only [List.length_append, be32_len]; omega
          cases hf : (bits .and .u32 a 2147483648 != 0) with
          | false =>
            have HE := Lib.hid (show bs (atB a b c d e f g (l.map exSp)) = bs (be32 a ++ p1 a b ++ p2 a c d ++ p4 a e ++ p8 a f g) by
              unfold atB
              rw [show pX a (l.map exSp) = [] from by unfold pX flg; rw [hf]; rfl]
              simp only [List.append_assoc, List.append_nil])
            go_wp2_with fail
            go_ret2
            exact ⟨.inr (by rw [HE.out]; rfl), S6.out.1⟩
          | true =>
            have HE := Lib.hid (show bs (atB a b c d e f g (l.map exSp)) = bs (be32 a ++ p1 a b ++ p2 a c d ++ p4 a e ++ p8 a f g) ++ (bs (be32 (n : Int)) ++ bs (exB (l.map exSp))) by
              unfold atB
              rw [show pX a (l.map exSp) = be32 ((l.map exSp).length : Int) ++ exB (l.map exSp) from by unfold pX flg; rw [hf]; rfl]
              rw [List.length_map, ← HN.out, ← bs_append, ← bs_append]
              simp only [List.append_assoc])
            have q1 := cat_ok (a := bs (be32 (n : Int))) (b := bs (exB (l.map exSp))) (by rw [bs_size, be32_len]; omega) (by rw [bs_size]; have := HBD.out; omega)
            have q2 := cat_ok2 (a := bs (be32 a ++ p1 a b ++ p2 a c d ++ p4 a e ++ p8 a f g)) (b := bs (be32 (n : Int))) (c := bs (exB (l.map exSp))) (by rw [bs_size]; omega) (by rw [bs_size, be32_len]; omega) (by rw [bs_size]; have := HBD.out; omega)
            have N1 := Lib.hid (fun w => specN4 (n : Int) w)
            have un : IntKind.u64.wrap (n : Int) = (n : Int) := by unfold IntKind.wrap; simp [IntKind.signed, IntKind.bits]; omega
            generalize bs (be32 a ++ p1 a b ++ p2 a c d ++ p4 a e ++ p8 a f g) = acc at *
            generalize bs (be32 (n : Int)) = s1 at *
            generalize bs (exB (l.map exSp)) = s2 at *
            go_upto_region 13 with (fail)
            have hS := S6.out
            go_region_held3 (fun w' => w'.cell? ⟨w.heap.size, 7, none⟩ = some (.slice A n cap) ∧ SpB w w' (at8 a b c d e f g (.slice A n cap)))
              (((first | (go_split_ands) | skip); refine ⟨?_, ?_⟩ <;> first | assumption | exact pw_cell_below hb (by assumption) | exact SpB.step (by assumption) hb | exact SpB.drew (by assumption)))
              (first
                | (go_at_call 64; refine (N1.out _).mono ?_; rintro e w' ⟨rfl, hb⟩)
                | (go_at_call 65; refine (EX.out _ (by go_split_ands; exact SpB.left (by assumption))).mono ?_; rintro e w' ⟨rfl, hb⟩))
            all_goals
              go_split_ands
              go_wp2_with fail
              go_ret2
              exact ⟨.inr (by rw [HE.out]; rfl), SpB.left (by assumption)⟩
end Go.Proofs.YtmenkckgpiafiaaGreat
namespace Go.Proofs.YtmenkckgpiafiaaGreat
open Go.RowKit Go.Great Go.Proofs.YtmenkckgpiafiaaGreatW.PrintWords Go.Proofs.YtmenkckgpiafiaaGreatW.PrintLast Go.Proofs.YtmenkckgpiafiaaGreatW.PrintMore Go.Proofs.YtmenkckgpiafiaaGreat.KK
set_option maxRecDepth 5000 in
set_option maxHeartbeats 3200000 in
theorem formLaw (a b c d e f g : Int) (A : Option Addr) (cap : Nat) (l : List S89) (w : World) (hr : Kd.C k89 w A l.length l) (hc : l.length ≤ cap)
    (ga : gU32 a) (gb : gU64 b) (gc : gU32 c) (gd : gU32 d) (ge : gU32 e) (gf : gU32 f) (gg : gU32 g) :
    Calls Tryz.prog 7 #[.agg (at8 a b c d e f g (.slice A l.length cap))] w fun r w' => r = .returned (.bool true) ∧ Below w.heap.size w w' := by
  obtain ⟨hb0, k0⟩ := box8 w (at8 a b c d e f g (.slice A l.length cap))
  generalize hW0 : w.alloc (.cells (at8 a b c d e f g (.slice A l.length cap)) 26) = W0 at *
  obtain ⟨fit, hfit, C⟩ := fits5D a b c d e f g A cap l W0 (Kd.C_below hr hb0) hc
  have OK := Lib.hid (fun (h1 : toldB a b c d e f g l.length = true) (h2 : exSz l ≤ 2000) => okA_of ga gb gc gd ge gf gg h1 h2)
  have C := Lib.hid C
  have X0 := Lib.hid hW0
  have B0 := Lib.hid hb0
  have K0 := Lib.hid k0
  have R0 := Lib.hid (Kd.C_below hr hb0)
  clear hW0 hb0 k0 hr ga gb gc gd ge gf gg
  go_enter Tryz.func7, Tryz.ntmps7
  go_wp2_with (first
    | (refine wpList_boxTo rfl 26 _ rfl (some 1) rfl w.heap.size rfl (at8 a b c d e f g (.slice A l.length cap)) rfl ?_; rw [X0.out])
    | refine wpList_load_row rfl 26 _ rfl w.heap.size rfl 26 (at8 a b c d e f g (.slice A l.length cap)) (0, 0) _ K0.out Tryz.underlying26 rfl (ainfo8 _ _ _ _ _ _ _ _) ?_)
  refine C.out.mono ?_
  rintro r w1 ⟨rfl, hb1⟩
  have z0 := lt_of_blk K0.out
  have k1 := (hb1.block _ z0).trans K0.out
  have hB1 : Below w.heap.size w w1 := B0.out.trans (hb1.mono B0.out.size)
  have r1 := Kd.C_below R0.out hb1
  have B1 := Lib.hid hB1
  have K1 := Lib.hid k1
  have R1 := Lib.hid r1
  clear hb1 hB1 k1 r1 C X0 B0 K0 R0 z0
  cases fit with
  | false =>
    go_wp2_with fail
    go_ret
    exact ⟨rfl, B1.out⟩
  | true =>
    have P := Lib.hid (packetA a b c d e f g A l.length cap l w1 rfl R1.out hc (hfit rfl))
    clear hfit
    go_wp2_with (first
      | refine wpList_buildTo rfl 29 _ rfl (some 11) rfl (pAt a b c d e f g (.slice A l.length cap)) (by as_aux_lemma => kernel_rfl) ?_
      | refine wpList_load_row rfl 26 _ rfl w.heap.size rfl 26 (at8 a b c d e f g (.slice A l.length cap)) (0, 0) _ K1.out Tryz.underlying26 rfl (ainfo8 _ _ _ _ _ _ _ _) ?_)
    refine P.out.mono ?_
    rintro r w2 ⟨⟨r, rfl, hyes⟩, hb2⟩
    have z1 := lt_of_blk K1.out
    have k2 := (hb2.block _ z1).trans K1.out
    have hB2 : Below w.heap.size w w2 := B1.out.trans (hb2.mono B1.out.size)
    have B2 := Lib.hid hB2
    have K2 := Lib.hid k2
    have R2 := Lib.hid (Kd.C_below R1.out hb2)
    clear hb2 hB2 k2 P B1 K1 R1 z1
    cases r with
    | false =>
      go_wp2_with fail
      go_ret
      exact ⟨rfl, B2.out⟩
    | true =>
      obtain ⟨hy1, hy2⟩ := hyes rfl
      have O := OK.out hy1 hy2
      have WR := Lib.hid (attrsWrite a b c d e f g A l.length cap l w2 rfl O.ex R2.out hc O.ok.ga O.ok.gb O.ok.gc O.ok.gd O.ok.ge O.ok.gf O.ok.gg)
      have hsmall := O.small
      have hbig := O.big
      have hfew := O.few
      have hmap : (l.map exIs).map exSp = l.map exOf := by rw [List.map_map]; rfl
      have hXl : (exB ((l.map exIs).map exSp)).length ≤ 10000000 := by rw [hmap]; exact O.ex.2.1
      have hXs : ∀ e ∈ l.map exIs, e.f0.size ≤ 10000000 ∧ e.f1.size ≤ 10000000 := by
        intro e he
        obtain ⟨y, hy, rfl⟩ := List.mem_map.1 he
        exact O.ex.2.2 (exOf y) (List.mem_map_of_mem hy)
      have SW := Lib.hid (fun (w : World) (A' : Option Addr) (c' : Nat) (hC' : Kd.C k147 w A' (l.map exIs).length (l.map exIs)) (hc' : l.length ≤ c') =>
        specWrite a b c d e f g A' l.length c' (l.map exIs) w (by rw [List.length_map]) (by omega) hC' (by rw [List.length_map]; exact hc') O.told.t1 O.told.t2 O.told.t4 O.told.t8 (fun h => by have h2 := O.told.tX h; simpa using h2) O.ok.ga O.ok.gc O.ok.gd O.ok.ge O.ok.gf O.ok.gg hXl hXs)
      rw [hmap] at SW
      have WR2 := Lib.hid (fun w2 hC2 => attrsWrite a b c d e f g A l.length cap l w2 rfl O.ex hC2 hc O.ok.ga O.ok.gb O.ok.gc O.ok.gd O.ok.ge O.ok.gf O.ok.gg)
      have SPA := Lib.hid (specAttrsC a b c d e f g A l.length cap l w2 rfl (by omega) R2.out hc)
      clear hyes hy1 hy2 OK O WR hmap hXl hXs hbig hsmall
      generalize atB a b c d e f g (l.map exOf) = L at *
      go_wp2_with (refine wpList_load_row rfl 26 _ rfl w.heap.size rfl 26 (at8 a b c d e f g (.slice A l.length cap)) (0, 0) _ K2.out Tryz.underlying26 rfl (ainfo8 _ _ _ _ _ _ _ _) ?_)
      refine SPA.out.mono ?_
      rintro r w3 ⟨⟨A', c', rfl, hc', hC'⟩, hb3⟩
      have k3 := (hb3.block _ (lt_of_blk K2.out)).trans K2.out
      have B3 := Lib.hid (B2.out.trans (hb3.mono B2.out.size))
      have K3 := Lib.hid k3
      have R3 := Lib.hid (Kd.C_below R2.out hb3)
      have SW3 := Lib.hid (SW.out w3 A' c' hC' hc')
      clear hb3 SPA B2 K2 R2 k3 SW hC' hc'
      go_wp2_with fail
      refine SW3.out.mono ?_
      rintro r w4 ⟨hr, hb4⟩
      have k4 := (hb4.block _ (lt_of_blk K3.out)).trans K3.out
      have B4 := Lib.hid (B3.out.trans (hb4.mono B3.out.size))
      have K4 := Lib.hid k4
      have WR4 := Lib.hid (WR2.out w4 (Kd.C_below R3.out hb4))
      clear hb4 SW3 B3 K3 R3 k4 WR2
      rcases hr with rfl | rfl
      · go_wp2_with fail
        go_ret
        exact ⟨rfl, B4.out⟩
      · go_wp2_with (refine wpList_load_row rfl 26 _ rfl w.heap.size rfl 26 (at8 a b c d e f g (.slice A l.length cap)) (0, 0) _ K4.out Tryz.underlying26 rfl (ainfo8 _ _ _ _ _ _ _ _) ?_)
        refine WR4.out.mono ?_
        rintro r w5 ⟨rfl, hb5⟩
        have B5 := Lib.hid (B4.out.trans (hb5.mono B4.out.size))
        clear hb5 WR4 B4 K4
        go_wp2_with (go_at_call 23; refine (awake _).mono ?_; rintro e w' ⟨rfl, hb⟩)
        go_ret
        exact ⟨rfl, B5.out.trans (hb.mono B5.out.size)⟩
theorem formLawK (cs : Array Value) (y : S26) (W : World) (hK : k26.K W y cs.toList) (hG : gAttrs y) :
    Calls Tryz.prog 7 #[.agg cs] W fun r w' => r = .returned (.bool true) ∧ Below W.heap.size W w' := by
  obtain ⟨A, c, he, hl, hC⟩ := k26_open hK
  obtain rfl : cs = at8 y.f0 y.f1 y.f2 y.f3 y.f4 y.f5 y.f6 (.slice A y.f7.length c) := by
    cases cs
    simpa [at8] using he
  obtain ⟨g0, g1, g2, g3, g4, g5, g6, _⟩ := hG
  exact formLaw _ _ _ _ _ _ _ A c y.f7 W hC hl g0 g1 g2 g3 g4 g5 g6
end Go.Proofs.YtmenkckgpiafiaaGreat
namespace Go.Proofs.YtmenkckgpiafiaaGreat
open Go.RowKit Go.Great Go.ChangeShapes Go.WideShapes Go.ChangeAt Go.Proofs.YtmenkckgpiafiaaGreatW.PrintWords Go.Proofs.YtmenkckgpiafiaaGreat.KK
open Go.ChangeMaps (open_string shut_string)
theorem formA_own : ownKnob Tryz.prog.godebug = none := by kernel_rfl
theorem formA_laid : laidOutB Tryz.prog = true := by kernel_rfl
set_option maxRecDepth 100000 in
theorem formA_lifted (os : Os) (started : os.Started) (H : Type) (enc : TypeId × Value → H) :
    ReturnsInHanded {} Tryz.checked os 7 .any (Rows.fnAttrsFormSpec.pre6 enc Tryz.prog Tryz.f7 Rows.fnAttrsFormRow.domain false) (Rows.fnAttrsFormSpec.post enc Tryz.prog Tryz.f7 false true false false) := by
  refine returnsInHanded_of_change (C := Tryz.checked) formA_own started (by kernel_rfl) Tryz.func7
    (ChangeSpec.witness6 (enc := enc) (C := Tryz.checked) false ⟨#[], #[.agg z8], []⟩ 8 (by kernel_rfl) (by kernel_rfl) (by kernel_rfl) (by kernel_rfl)) ?_
  intro W base args ds gs before hval0 hW hcnd _
  have hval : ∀ (j : Nat) t v, Tryz.f7.params[j]? = some t → args[j]? = some v → Value.okWide Tryz.prog W .any base t v := hval0
  have hW' := hW
  have hlt : ∀ x ∈ before, x.block < W.heap.size := fun x hx => hW.lt x hx
  obtain ⟨p, q, hA0, hV, rfl, hfz, hnd⟩ := hW
  have hA : DataW.TrodAll enc Tryz.prog W 0 (fun _ => true) true Tryz.f7.params.toList args.toList ds p := hA0
  rw [Tryz.params7] at hA hval
  obtain ⟨v0, vs0, d0, ds0, p0, q0, hargs, rfl, rfl, h0, r0⟩ := trodAll_cons hA
  obtain ⟨rfl, rfl, rfl⟩ := trodAll_nil r0
  obtain rfl : args = #[v0] := by cases args; simp_all
  obtain ⟨rfl, rfl⟩ := trodVars_none hV
  simp only [List.append_nil] at hW' hlt
  obtain ⟨cs0, rfl, _⟩ := okWide_struct Tryz.underlying26 (hval 0 26 v0 rfl rfl)
  have t0 := h0
  obtain ⟨fuel0, hf0⟩ := h0
  obtain ⟨y0, hK0, hG0⟩ := opnAttrs.out hf0
  clear hA0 hval0
  refine (formLawK cs0 y0 W hK0 hG0).mono fun e W' ⟨he, hg⟩ => ?_
  subst he
  exact ⟨_, rfl, post_of_below (pa := _) (pv := []) hW' (fun _ _ _ => (trodAll_cons_mk (shut_bool Tryz.underlying4 _) trodAll_mk0))
    (fun sp hsp0 => by
      have hsp1 := hsp0
      have s0 := WideElems.Trod_stays formA_laid (by kernel_rfl) (of_decide_eq_true (by kernel_rfl)) t0 (fun x hx => hg.same (hlt x (by simp [hx]))) (fun x hx => hsp0 x (by simp [hx]))
      have r := (trodAll_cons_mk (s0) trodAll_mk0)
      simp only [List.append_nil, List.nil_append] at r
      exact r) (fun _ _ => rfl) (by simp)
    hg (ok_one (by kernel_rfl) rfl (okWide_bool_mk Tryz.underlying4 _))⟩
theorem formA_named : Tryz.pinned.checked.prog.funcNamed Rows.fnAttrsFormRow.func = some 7 := by kernel_rfl
set_option maxHeartbeats 8000000 in
theorem formA_facts : joinedFacts Tryz.pinned.checked.prog 7 Tryz.f7 Rows.fnAttrsFormSpec Rows.fnAttrsFormRow = true := by
  simp only [joinedFacts, Bool.and_eq_true]
  repeat' apply And.intro
  all_goals (as_aux_lemma => kernel_rfl)
theorem formA_inst : Tryz.f7.isInstance Tryz.pinned.checked.prog Rows.fnAttrsFormRow.origin Rows.fnAttrsFormRow.targs := of_decide_eq_true (by kernel_rfl)
theorem formA_wrap : Tryz.f7.isWrapper Tryz.pinned.checked.prog Rows.fnAttrsFormRow.wrapper Rows.fnAttrsFormRow.mainSum := by
  unfold Func.isWrapper
  rw [if_neg (by decide +kernel)]
  exact ⟨rfl, rfl⟩
/-- 'laws.FnAttrsForm': whatever the input: true; the input reads as it did. -/
theorem formA_holds : Rows.FnAttrsFormSaid :=
  OpenClaim.holds_of_wide 7 Tryz.f7 rfl rfl rfl rfl rfl rfl rfl ⟨rfl, rfl, rfl, rfl, rfl⟩ rfl rfl rfl rfl rfl formA_named Tryz.func7 formA_facts formA_inst formA_wrap
    (fun os started H enc _ => formA_lifted os started H enc)
end Go.Proofs.YtmenkckgpiafiaaGreat
