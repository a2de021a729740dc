/-
  Arguments opened by kinds: what a Go type's data read as, for whole numbers, bools, texts, slices and structs within each other.
-/
import Derived.Test.YtmenkckgpiafiaaGreatKK
import Derived.Deep.Slices
import Derived.Deep.Fields
import Derived.ChangeSame
import Derived.ChangeArms
import Derived.WideShapes
namespace Go.Proofs.YtmenkckgpiafiaaGreat
open Go.RowKit Go.ChangeShapes Go.WideShapes Go.Deep Go.Proofs.YtmenkckgpiafiaaGreatW.PrintWords

/-- The data of a Go type read as values of a kind, of which something is known. -/
structure Opn (P : Program) (t : TypeId) {α : Type} (d : Kd α) (G : α → Prop) : Prop where
  sz : P.cellsOf t = d.sz
  out : ∀ {H : Type} {enc : TypeId × Value → H} {w : World} {base : Nat} {sp : Nat → Bool} {held : Bool} {fuel : Nat} {cs : List Value} {x : DataW H × List MemPlace}, DataW.trod enc P w base sp held fuel t cs = some x → ∃ y, d.K w y cs ∧ G y
theorem opn_int {P : Program} {t : TypeId} {k : IntKind} (ht : P.underlying t = some (.int k)) (hs : P.cellsOf t = 1) : Opn P t (Kd.int k) (fun y => (Lit.int k y).wf = true) :=
  ⟨hs, fun h => by
    obtain ⟨n, rfl, _, hw⟩ := DataW.trod_int ht h
    exact ⟨n, rfl, hw⟩⟩
theorem opn_str {P : Program} {t : TypeId} (ht : P.underlying t = some .string) (hs : P.cellsOf t = 1) : Opn P t Kd.string (fun y => y.size ≤ maxLen) :=
  ⟨hs, fun h => by
    obtain ⟨s, rfl, _, hw⟩ := DataW.trod_string ht h
    exact ⟨s, rfl, hw⟩⟩
theorem opn_slice {P : Program} {t e : TypeId} {α : Type} {d : Kd α} {G : α → Prop} (ht : P.underlying t = some (.slice e)) (hs : P.cellsOf t = 1) (he : Opn P e d G) :
    Opn P t (Kd.slice e d) (fun l => l.length ≤ maxLen ∧ ∀ y ∈ l, G y) :=
  ⟨hs, fun {H enc w base sp held fuel cs x} h => by
    rcases open_slice ht h with ⟨rfl, _⟩ | ⟨a, len, cap, m, n, D, Pl, rfl, _, hl, hm, hmm, _, hi⟩
    · exact ⟨[], ⟨none, 0, rfl, Nat.le_refl _, rfl, by simp, fun h => by simp at h⟩, by simp, by simp⟩
    · have hlm : len ≤ m := by rw [hmm]; split <;> omega
      have key : ∀ j, j ≤ len → ∃ ys : List α, ys.length = j ∧ (∀ y ∈ ys, G y) ∧ ∀ i p, ys[i]? = some p → ∃ c, c.length = d.sz ∧ d.K w p c ∧ ∀ q u, c[q]? = some u → w.cell? (a.add (i * d.sz + q)) = some u := by
        intro j
        induction j with
        | zero => exact fun _ => ⟨[], rfl, by simp, fun i p hp => by simp at hp⟩
        | succ j ih =>
          intro hj
          obtain ⟨ys, hlen, hG, hc⟩ := ih (by omega)
          obtain ⟨cs', h1, h2⟩ := hi j (by omega)
          obtain ⟨y, hK, hy⟩ := he.out h2
          refine ⟨ys ++ [y], by simp [hlen], fun z hz => ?_, fun i p hp => ?_⟩
          · rcases List.mem_append.1 hz with hz | hz
            · exact hG z hz
            · rw [List.mem_singleton.1 hz]; exact hy
          · rcases Nat.lt_or_ge i ys.length with hlt | hge
            · rw [List.getElem?_append_left hlt] at hp
              exact hc i p hp
            · rw [List.getElem?_append_right hge] at hp
              have h0 : i - ys.length = 0 := by
                have := (List.getElem?_eq_some_iff.1 hp).1
                simp at this
                omega
              rw [h0] at hp
              simp at hp
              subst hp
              have hij : i = j := by omega
              subst hij
              rw [he.sz] at h1
              obtain ⟨_, hcl, hat⟩ := World.cells?_some h1
              refine ⟨cs', hcl, hK, fun q u hq => ?_⟩
              have hql := (List.getElem?_eq_some_iff.1 hq).1
              have := hat q (by omega)
              rw [← Go.Deep.add_add, this, hq]
      obtain ⟨ys, hlen, hG, hc⟩ := key len (Nat.le_refl _)
      exact ⟨ys, ⟨some a, cap, by rw [hlen], by omega, by rw [hlen], by rw [hlen]; simp only [maxLen] at hm; omega, fun _ => ⟨a, rfl, hc⟩⟩, by omega, hG⟩⟩
/-- A struct's fields, one behind the other, from an offset on. -/
def FOpn (P : Program) (fs : List Field) (off : Nat) {α : Type} (d : Kd α) (G : α → Prop) : Prop :=
  ∀ {H : Type} {enc : TypeId × Value → H} {w : World} {base : Nat} {sp : Nat → Bool} {held : Bool} {n : Nat} (cs : List Value) (xs : List (DataW H × List MemPlace)),
    (∀ (i : Nat) (f : Field), fs[i]? = some f → DataW.trod enc P w base sp held n f.type ((cs.drop f.offset).take (P.cellsOf f.type)) = xs[i]?) → xs.length = fs.length → cs.length = off + d.sz → ∃ y, d.K w y (cs.drop off) ∧ G y
theorem fopn_one {P : Program} {f : Field} {off : Nat} {α : Type} {d : Kd α} {G : α → Prop} (ho : f.offset = off) (h : Opn P f.type d G) : FOpn P [f] off d G := by
  intro H enc w base sp held n cs xs hx hl hc
  have h0 := hx 0 f rfl
  rw [ho, h.sz] at h0
  match xs, hl with
  | [x], _ =>
    obtain ⟨y, hK, hG⟩ := h.out (h0.trans rfl)
    rw [List.take_of_length_le (by rw [List.length_drop]; omega)] at hK
    exact ⟨y, hK, hG⟩
theorem fopn_cons {P : Program} {f : Field} {fs : List Field} {off : Nat} {α β : Type} {a : Kd α} {b : Kd β} {Ga : α → Prop} {Gb : β → Prop} (ho : f.offset = off) (h : Opn P f.type a Ga) (hr : FOpn P fs (off + a.sz) b Gb) :
    FOpn P (f :: fs) off (Kd.pair a b) (fun x => Ga x.1 ∧ Gb x.2) := by
  intro H enc w base sp held n cs xs hx hl hc
  have h0 := hx 0 f rfl
  rw [ho, h.sz] at h0
  match xs, hl with
  | x :: xs, hl =>
    obtain ⟨y, hK, hG⟩ := h.out (h0.trans rfl)
    obtain ⟨z, hK2, hG2⟩ := hr cs xs (fun i g hg => hx (i + 1) g hg) (by simpa using hl) (by rw [hc]; show off + (a.sz + b.sz) = _; omega)
    refine ⟨(y, z), ⟨_, _, ?_, hK, hK2⟩, hG, hG2⟩
    rw [← List.drop_drop, List.take_append_drop]
theorem opn_struct {P : Program} {t : TypeId} {fs : Array Field} {α : Type} {d : Kd α} {G : α → Prop} (ht : P.underlying t = some (.struct fs)) (hs : P.cellsOf t = d.sz) (h : FOpn P fs.toList 0 d G) : Opn P t d G :=
  ⟨hs, fun hx => by
    obtain ⟨xs, n, _, _, hcl, hxl, hf⟩ := DataW.trod_struct ht hx
    obtain ⟨y, hK, hG⟩ := h _ xs (fun i f hif => hf i f (by simpa using hif)) (by simpa using hxl) (by rw [hcl, hs]; omega)
    exact ⟨y, hK, hG⟩⟩
theorem Opn.iso {P : Program} {t : TypeId} {α β : Type} {d : Kd α} {G : α → Prop} (h : Opn P t d G) (f : β → α) (g : α → β) (hfg : ∀ a, f (g a) = a) : Opn P t (Kd.iso d f) (fun y => G (f y)) :=
  ⟨h.sz, fun hx => by
    obtain ⟨y, hK, hG⟩ := h.out hx
    refine ⟨g y, ?_, by rw [hfg]; exact hG⟩
    show d.K _ (f (g y)) _
    rw [hfg]
    exact hK⟩
theorem Opn.mono {P : Program} {t : TypeId} {α : Type} {d : Kd α} {G G' : α → Prop} (h : Opn P t d G) (hg : ∀ y, G y → G' y) : Opn P t d G' :=
  ⟨h.sz, fun hx => by
    obtain ⟨y, hK, hG⟩ := h.out hx
    exact ⟨y, hK, hg y hG⟩⟩
end Go.Proofs.YtmenkckgpiafiaaGreat
