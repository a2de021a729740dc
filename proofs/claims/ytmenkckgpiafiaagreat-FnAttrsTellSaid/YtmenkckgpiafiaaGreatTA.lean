/-
  Attributes are turned into the program's; what they tell is told.
-/
import Derived.Test.YtmenkckgpiafiaaGreatPA1
import Derived.Outline
import Derived.Lib.Hide
import Derived.Great.Walk
namespace Go.Proofs.YtmenkckgpiafiaaGreat
open Go.RowKit Go.Great Go.Proofs.YtmenkckgpiafiaaGreatW.PrintWords Go.Proofs.YtmenkckgpiafiaaGreatW.PrintLast Go.Proofs.YtmenkckgpiafiaaGreatW.PrintMore Go.Proofs.YtmenkckgpiafiaaGreat.KK

/-- An extension of the program's. -/
def exOf (e : S89) : S266 := ⟨e.f0, e.f1⟩
def exTo (e : S266) : S89 := ⟨e.f0, e.f1⟩
theorem wrap_succ {i : Int} {n : Nat} (h0 : 0 ≤ i) (h : i < (n : Int)) (hn : n ≤ 4398046511104) : wrap64 (i + 1) = i + 1 := by
  unfold wrap64
  omega
theorem attrs_l0 (l : List S89) (hl : l.length ≤ 4398046511103) (a b c d e f g : Int) : ∀ (m : Nat) (k : Nat) (i : Nat) (acc : List S266), i + m = l.length → m < k → acc.length = i →
    PA.impl_attrs.l0 k l (l.length : Int) (i : Int) a b c d e f g acc = some (a, b, c, d, e, f, g, acc ++ (l.drop i).map exOf) := by
  intro m
  induction m with
  | zero =>
    intro k i acc hi hk ha
    obtain ⟨k, rfl⟩ : ∃ j, k = j + 1 := ⟨k - 1, by omega⟩
    simp only [PA.impl_attrs.l0]
    rw [if_neg (by omega), List.drop_of_length_le (by omega)]
    simp
  | succ m ih =>
    intro k i acc hi hk ha
    obtain ⟨k, rfl⟩ : ∃ j, k = j + 1 := ⟨k - 1, by omega⟩
    simp only [PA.impl_attrs.l0]
    rw [if_pos (by omega), if_pos (by omega), if_pos (by omega), if_pos (by omega), wrap_succ (by omega) (show (i : Int) < (l.length : Int) by omega) (by omega)]
    have hlt : i < l.length := by omega
    rw [show ((i : Int) + 1) = ((i + 1 : Nat) : Int) from by omega, ih k (i + 1) _ (by omega) (by omega) (by simp [ha])]
    rw [List.drop_eq_getElem_cons hlt, List.map_cons, List.append_assoc, List.singleton_append, show rd_T89 l (i : Int) = l[i] from by simp [rd_T89, List.getD_eq_getElem?_getD, List.getElem?_eq_getElem hlt]]
    rfl
theorem attrs_f (l : List S89) (hl : l.length ≤ 4398046511103) (a b c d e f g : Int) : PA.impl_attrs.f (l.length + 1) a b c d e f g l = some (a, b, c, d, e, f, g, l.map exOf) := by
  unfold PA.impl_attrs.f
  have h := attrs_l0 l hl a b c d e f g l.length (l.length + 1) 0 [] (by omega) (by omega) rfl
  simpa using h
theorem told_l0 (l : List S266) (hl : l.length ≤ 4398046511103) (a b c d e f g : Int) : ∀ (m : Nat) (k : Nat) (i : Nat) (acc : List S89), i + m = l.length → m < k → acc.length = i →
    PA.impl_told.l0 k l (l.length : Int) (i : Int) a b c d e f g acc = some (a, b, c, d, e, f, g, acc ++ (l.drop i).map exTo) := by
  intro m
  induction m with
  | zero =>
    intro k i acc hi hk ha
    obtain ⟨k, rfl⟩ : ∃ j, k = j + 1 := ⟨k - 1, by omega⟩
    simp only [PA.impl_told.l0]
    rw [if_neg (by omega), List.drop_of_length_le (by omega)]
    simp
  | succ m ih =>
    intro k i acc hi hk ha
    obtain ⟨k, rfl⟩ : ∃ j, k = j + 1 := ⟨k - 1, by omega⟩
    simp only [PA.impl_told.l0]
    rw [if_pos (by omega), if_pos (by omega), if_pos (by omega), if_pos (by omega), wrap_succ (by omega) (show (i : Int) < (l.length : Int) by omega) (by omega)]
    have hlt : i < l.length := by omega
    rw [show ((i : Int) + 1) = ((i + 1 : Nat) : Int) from by omega, ih k (i + 1) _ (by omega) (by omega) (by simp [ha])]
    rw [List.drop_eq_getElem_cons hlt, List.map_cons, List.append_assoc, List.singleton_append, show rd_T266 l (i : Int) = l[i] from by simp [rd_T266, List.getD_eq_getElem?_getD, List.getElem?_eq_getElem hlt]]
    rfl
theorem told_f (l : List S266) (hl : l.length ≤ 4398046511103) (a b c d e f g : Int) : PA.impl_told.f (l.length + 1) a b c d e f g l = some (a, b, c, d, e, f, g, l.map exTo) := by
  unfold PA.impl_told.f
  have h := told_l0 l hl a b c d e f g l.length (l.length + 1) 0 [] (by omega) (by omega) rfl
  simpa using h

/-- Eight cells: attributes whose extensions lie where a slice says. -/
def at8 (a b c d e f g : Int) (v : Value) : Array Value := #[.int .u32 a, .int .u64 b, .int .u32 c, .int .u32 d, .int .u32 e, .int .u32 f, .int .u32 g, v]
theorem attrsC (a b c d e f g : Int) (A : Option Addr) (n cap : Nat) (l : List S89) (w : World) (hn : n = l.length) (hl : l.length ≤ 4398046511103) (hr : Kd.C k89 w A l.length l) (hc : l.length ≤ cap) :
    Calls Tryz.prog 69 #[.agg (at8 a b c d e f g (.slice A n cap))] w fun r w' => ∃ v, r = .returned (.agg (at8 a b c d e f g v)) ∧ Kd.R k266 266 w' w.heap.size (fun _ => True) v (l.map exOf) ∧ Below w.heap.size w w' := by
  subst hn
  exact PA.impl_attrs.calls (l.length + 1) a b c d e f g A cap l a b c d e f g (l.map exOf) w hr hc (attrs_f l hl a b c d e f g)
theorem toldC (a b c d e f g : Int) (A : Option Addr) (n cap : Nat) (l : List S266) (w : World) (hn : n = l.length) (hl : l.length ≤ 4398046511103) (hr : Kd.C k266 w A l.length l) (hc : l.length ≤ cap) :
    Calls Tryz.prog 74 #[.agg (at8 a b c d e f g (.slice A n cap))] w fun r w' => ∃ v, r = .returned (.agg (at8 a b c d e f g v)) ∧ Kd.R k89 89 w' w.heap.size (fun _ => True) v (l.map exTo) ∧ Below w.heap.size w w' := by
  subst hn
  exact PA.impl_told.calls (l.length + 1) a b c d e f g A cap l a b c d e f g (l.map exTo) w hr hc (told_f l hl a b c d e f g)
end Go.Proofs.YtmenkckgpiafiaaGreat
