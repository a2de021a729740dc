/- The values' own types, and how they lie in memory, printed by a program. -/
import Derived.Below
import Derived.Deep.Draws
import Derived.Deep.AppendLies
import Derived.Maps.AppendAt
import Derived.OwnWalk
import Derived.Laws.BytesArg
import Derived.Laws.MakeOwn
import Derived.Laws.OwnMore
import Derived.Deep.OwnRows
import Derived.Tactics
import Derived.Lib.ConvBytes
import Derived.Laws.Slices
import Derived.WalkKit
import Derived.KernelRfl
import Derived.RowKit3
import Derived.Deep.LoopGhost
import Derived.Deep.QuietTactic
import Derived.BigQuiet
import Derived.WideLaws
import Derived.Deep.DeepCutAuto
import Derived.Deep.CutBlock
import Derived.Deep.RegionHeld3
import Derived.Laws.Rows
import Derived.Lib.AppendStr
import Derived.ArgAppend
import Derived.Laws.IdiomCopy
import Derived.OrdersHeld
import Derived.Laws.BitsLemmas
import Derived.RowKit
import Derived.Test.YtmenkckgpiafiaaGreatWWords
import Derived.Test.YtmenkckgpiafiaaGreatWLast
import Derived.Test.YtmenkckgpiafiaaGreatWTab
import Derived.Test.YtmenkckgpiafiaaGreatWFour
import Derived.Test.YtmenkckgpiafiaaGreatWQPut
import Derived.Test.YtmenkckgpiafiaaGreatWApart
import Derived.Test.YtmenkckgpiafiaaGreatWArr
import Derived.Test.YtmenkckgpiafiaaGreatWZeros
import Derived.Test.YtmenkckgpiafiaaGreatWFoot
import Derived.Test.YtmenkckgpiafiaaGreatWKept
import Derived.Test.YtmenkckgpiafiaaGreatWShare
import Derived.Test.YtmenkckgpiafiaaGreatWN
import Derived.Test.YtmenkckgpiafiaaGreatWFootNe
import Derived.Test.YtmenkckgpiafiaaGreatWAt
import Derived.Test.YtmenkckgpiafiaaGreatWEqStruct
import Derived.Test.YtmenkckgpiafiaaGreatWRepsOne
import Derived.Test.YtmenkckgpiafiaaGreatWInv
import Derived.Test.YtmenkckgpiafiaaGreatWInvWords
import Derived.Test.YtmenkckgpiafiaaGreatWGuard
import Derived.Test.YtmenkckgpiafiaaGreatWNEv
import Derived.Test.YtmenkckgpiafiaaGreatWMore
namespace Go.Proofs.YtmenkckgpiafiaaGreat.KK
open Go.RowKit Go.Proofs.YtmenkckgpiafiaaGreatW.PrintWords Go.Proofs.YtmenkckgpiafiaaGreatW.PrintLast Go.Proofs.YtmenkckgpiafiaaGreatW.PrintMore
set_option linter.unusedVariables false
set_option linter.unusedSimpArgs false
/-! #### struct type 89 -/
structure S89 where
  f0 : ByteArray
  f1 : ByteArray
def z89 : S89 := ⟨(⟨#[]⟩ : ByteArray), (⟨#[]⟩ : ByteArray)⟩
def k89 : Kd S89 := Kd.iso (Kd.pair Kd.string Kd.string) (fun x : S89 => (x.f0, x.f1))
theorem k89_open {w : World} {x : S89} {cs : List Value} (h : k89.K w x cs) : cs = [.string x.f0, .string x.f1] := by
  obtain ⟨_, _, rfl, rfl, rfl⟩ := h
  exact rfl
theorem k89_openM {w : World} {base : Nat} {ok : Nat → Prop} {x : S89} {cs : List Value} (h : k89.M w base ok x cs) : cs = [.string x.f0, .string x.f1] := by
  obtain ⟨_, _, rfl, rfl, rfl⟩ := h
  exact rfl
theorem k89_mk (w : World) (x : S89)  : k89.K w x [.string x.f0, .string x.f1] := ⟨[.string x.f0], [.string x.f1], rfl, rfl, rfl⟩
theorem k89_mkM (w : World) (base : Nat) (ok : Nat → Prop) (x : S89)  : k89.M w base ok x [.string x.f0, .string x.f1] := ⟨[.string x.f0], [.string x.f1], rfl, rfl, rfl⟩
def rd_T89 (xs : List S89) (i : Int) : S89 := xs.getD i.toNat z89
theorem at_T89 {w : World} {A : Option Addr} {n : Nat} {xs : List S89} (h : Kd.C k89 w A n xs) (i : Int) (h0 : 0 ≤ i) (h1 : i < n) : ∃ ad , A = some ad ∧ w.cell? (ad.add (i.toNat * 2)) = some (.string (rd_T89 xs i).f0) ∧ w.cell? ⟨(ad.add (i.toNat * 2)).block, (ad.add (i.toNat * 2)).off + 1, none⟩ = some (.string (rd_T89 xs i).f1) := by
  obtain ⟨ad, c, e, _, hK, hc0⟩ := Kd.C_get h z89 i h0 h1
  have hc : ∀ j u, c[j]? = some u → w.cell? (ad.add (i.toNat * 2 + j)) = some u := hc0
  obtain rfl := k89_open hK
  exact ⟨ad, e, hc 0 _ rfl, by rw [← add_field _ _ 1 (by omega)]; exact hc 1 _ rfl⟩

def rd_L4 (xs : List (List S89)) (i : Int) : (List S89) := xs.getD i.toNat ([] : List S89)
theorem at_L4 {w : World} {A : Option Addr} {n : Nat} {xs : List (List S89)} (h : Kd.C (Kd.slice 89 k89) w A n xs) (i : Int) (h0 : 0 ≤ i) (h1 : i < n) : ∃ ad A0 c0, A = some ad ∧ w.cell? (ad.add i.toNat) = some (.slice A0 (rd_L4 xs i).length c0) ∧ (rd_L4 xs i).length ≤ c0 ∧ k89.C w A0 (rd_L4 xs i).length (rd_L4 xs i) := by
  obtain ⟨ad, c, e, _, hK, hc0⟩ := Kd.C_get h ([] : List S89) i h0 h1
  have hc : ∀ j u, c[j]? = some u → w.cell? (ad.add (i.toNat * 1 + j)) = some u := hc0
  obtain ⟨A0, c0, rfl, l0, g0⟩ := hK
  exact ⟨ad, A0, c0, e, by have hq := hc 0 _ rfl; rwa [Nat.mul_one, Nat.add_zero] at hq, l0, g0⟩

/-! #### struct type 26 -/
structure S26 where
  f0 : Int
  f1 : Int
  f2 : Int
  f3 : Int
  f4 : Int
  f5 : Int
  f6 : Int
  f7 : (List S89)
def z26 : S26 := ⟨(0 : Int), (0 : Int), (0 : Int), (0 : Int), (0 : Int), (0 : Int), (0 : Int), ([] : List S89)⟩
def k26 : Kd S26 := Kd.iso (Kd.pair (Kd.int .u32) (Kd.pair (Kd.int .u64) (Kd.pair (Kd.int .u32) (Kd.pair (Kd.int .u32) (Kd.pair (Kd.int .u32) (Kd.pair (Kd.int .u32) (Kd.pair (Kd.int .u32) (Kd.slice 89 k89)))))))) (fun x : S26 => (x.f0, x.f1, x.f2, x.f3, x.f4, x.f5, x.f6, x.f7))
theorem k26_open {w : World} {x : S26} {cs : List Value} (h : k26.K w x cs) : ∃ A7 c7, cs = [.int .u32 x.f0, .int .u64 x.f1, .int .u32 x.f2, .int .u32 x.f3, .int .u32 x.f4, .int .u32 x.f5, .int .u32 x.f6, .slice A7 x.f7.length c7] ∧ x.f7.length ≤ c7 ∧ k89.C w A7 x.f7.length x.f7 := by
  obtain ⟨_, _, rfl, rfl, ⟨_, _, rfl, rfl, ⟨_, _, rfl, rfl, ⟨_, _, rfl, rfl, ⟨_, _, rfl, rfl, ⟨_, _, rfl, rfl, ⟨_, _, rfl, rfl, ⟨A7, c7, rfl, l7, g7⟩⟩⟩⟩⟩⟩⟩⟩ := h
  exact ⟨A7, c7, rfl, l7, g7⟩
theorem k26_openM {w : World} {base : Nat} {ok : Nat → Prop} {x : S26} {cs : List Value} (h : k26.M w base ok x cs) : ∃ v7, cs = [.int .u32 x.f0, .int .u64 x.f1, .int .u32 x.f2, .int .u32 x.f3, .int .u32 x.f4, .int .u32 x.f5, .int .u32 x.f6, v7] ∧ k89.R 89 w base ok v7 x.f7 := by
  obtain ⟨_, _, rfl, rfl, ⟨_, _, rfl, rfl, ⟨_, _, rfl, rfl, ⟨_, _, rfl, rfl, ⟨_, _, rfl, rfl, ⟨_, _, rfl, rfl, ⟨_, _, rfl, rfl, ⟨v7, rfl, g7⟩⟩⟩⟩⟩⟩⟩⟩ := h
  exact ⟨v7, rfl, g7⟩
theorem k26_mk (w : World) (x : S26) {A7 : Option Addr} {c7 : Nat} (l7 : x.f7.length ≤ c7) (g7 : k89.C w A7 x.f7.length x.f7) : k26.K w x [.int .u32 x.f0, .int .u64 x.f1, .int .u32 x.f2, .int .u32 x.f3, .int .u32 x.f4, .int .u32 x.f5, .int .u32 x.f6, .slice A7 x.f7.length c7] := ⟨[.int .u32 x.f0], [.int .u64 x.f1, .int .u32 x.f2, .int .u32 x.f3, .int .u32 x.f4, .int .u32 x.f5, .int .u32 x.f6, .slice A7 x.f7.length c7], rfl, rfl, ⟨[.int .u64 x.f1], [.int .u32 x.f2, .int .u32 x.f3, .int .u32 x.f4, .int .u32 x.f5, .int .u32 x.f6, .slice A7 x.f7.length c7], rfl, rfl, ⟨[.int .u32 x.f2], [.int .u32 x.f3, .int .u32 x.f4, .int .u32 x.f5, .int .u32 x.f6, .slice A7 x.f7.length c7], rfl, rfl, ⟨[.int .u32 x.f3], [.int .u32 x.f4, .int .u32 x.f5, .int .u32 x.f6, .slice A7 x.f7.length c7], rfl, rfl, ⟨[.int .u32 x.f4], [.int .u32 x.f5, .int .u32 x.f6, .slice A7 x.f7.length c7], rfl, rfl, ⟨[.int .u32 x.f5], [.int .u32 x.f6, .slice A7 x.f7.length c7], rfl, rfl, ⟨[.int .u32 x.f6], [.slice A7 x.f7.length c7], rfl, rfl, ⟨A7, c7, rfl, l7, g7⟩⟩⟩⟩⟩⟩⟩⟩
theorem k26_mkM (w : World) (base : Nat) (ok : Nat → Prop) (x : S26) {v7 : Value} (g7 : k89.R 89 w base ok v7 x.f7) : k26.M w base ok x [.int .u32 x.f0, .int .u64 x.f1, .int .u32 x.f2, .int .u32 x.f3, .int .u32 x.f4, .int .u32 x.f5, .int .u32 x.f6, v7] := ⟨[.int .u32 x.f0], [.int .u64 x.f1, .int .u32 x.f2, .int .u32 x.f3, .int .u32 x.f4, .int .u32 x.f5, .int .u32 x.f6, v7], rfl, rfl, ⟨[.int .u64 x.f1], [.int .u32 x.f2, .int .u32 x.f3, .int .u32 x.f4, .int .u32 x.f5, .int .u32 x.f6, v7], rfl, rfl, ⟨[.int .u32 x.f2], [.int .u32 x.f3, .int .u32 x.f4, .int .u32 x.f5, .int .u32 x.f6, v7], rfl, rfl, ⟨[.int .u32 x.f3], [.int .u32 x.f4, .int .u32 x.f5, .int .u32 x.f6, v7], rfl, rfl, ⟨[.int .u32 x.f4], [.int .u32 x.f5, .int .u32 x.f6, v7], rfl, rfl, ⟨[.int .u32 x.f5], [.int .u32 x.f6, v7], rfl, rfl, ⟨[.int .u32 x.f6], [v7], rfl, rfl, ⟨v7, rfl, g7⟩⟩⟩⟩⟩⟩⟩⟩
def rd_T26 (xs : List S26) (i : Int) : S26 := xs.getD i.toNat z26
theorem at_T26 {w : World} {A : Option Addr} {n : Nat} {xs : List S26} (h : Kd.C k26 w A n xs) (i : Int) (h0 : 0 ≤ i) (h1 : i < n) : ∃ ad A7 c7, A = some ad ∧ w.cell? (ad.add (i.toNat * 8)) = some (.int .u32 (rd_T26 xs i).f0) ∧ w.cell? ⟨(ad.add (i.toNat * 8)).block, (ad.add (i.toNat * 8)).off + 1, none⟩ = some (.int .u64 (rd_T26 xs i).f1) ∧ w.cell? ⟨(ad.add (i.toNat * 8)).block, (ad.add (i.toNat * 8)).off + 2, none⟩ = some (.int .u32 (rd_T26 xs i).f2) ∧ w.cell? ⟨(ad.add (i.toNat * 8)).block, (ad.add (i.toNat * 8)).off + 3, none⟩ = some (.int .u32 (rd_T26 xs i).f3) ∧ w.cell? ⟨(ad.add (i.toNat * 8)).block, (ad.add (i.toNat * 8)).off + 4, none⟩ = some (.int .u32 (rd_T26 xs i).f4) ∧ w.cell? ⟨(ad.add (i.toNat * 8)).block, (ad.add (i.toNat * 8)).off + 5, none⟩ = some (.int .u32 (rd_T26 xs i).f5) ∧ w.cell? ⟨(ad.add (i.toNat * 8)).block, (ad.add (i.toNat * 8)).off + 6, none⟩ = some (.int .u32 (rd_T26 xs i).f6) ∧ w.cell? ⟨(ad.add (i.toNat * 8)).block, (ad.add (i.toNat * 8)).off + 7, none⟩ = some (.slice A7 (rd_T26 xs i).f7.length c7) ∧ (rd_T26 xs i).f7.length ≤ c7 ∧ k89.C w A7 (rd_T26 xs i).f7.length (rd_T26 xs i).f7 := by
  obtain ⟨ad, c, e, _, hK, hc0⟩ := Kd.C_get h z26 i h0 h1
  have hc : ∀ j u, c[j]? = some u → w.cell? (ad.add (i.toNat * 8 + j)) = some u := hc0
  obtain ⟨A7, c7, rfl, l7, g7⟩ := k26_open hK
  exact ⟨ad, A7, c7, e, hc 0 _ rfl, by rw [← add_field _ _ 1 (by omega)]; exact hc 1 _ rfl, by rw [← add_field _ _ 2 (by omega)]; exact hc 2 _ rfl, by rw [← add_field _ _ 3 (by omega)]; exact hc 3 _ rfl, by rw [← add_field _ _ 4 (by omega)]; exact hc 4 _ rfl, by rw [← add_field _ _ 5 (by omega)]; exact hc 5 _ rfl, by rw [← add_field _ _ 6 (by omega)]; exact hc 6 _ rfl, by rw [← add_field _ _ 7 (by omega)]; exact hc 7 _ rfl, l7, g7⟩

/-! #### struct type 91 -/
structure S91 where
  f0 : ByteArray
  f1 : ByteArray
  f2 : S26
def z91 : S91 := ⟨(⟨#[]⟩ : ByteArray), (⟨#[]⟩ : ByteArray), z26⟩
def k91 : Kd S91 := Kd.iso (Kd.pair Kd.string (Kd.pair Kd.string k26)) (fun x : S91 => (x.f0, x.f1, x.f2))
theorem k91_open {w : World} {x : S91} {cs : List Value} (h : k91.K w x cs) : ∃ A9 c9, cs = [.string x.f0, .string x.f1, .int .u32 x.f2.f0, .int .u64 x.f2.f1, .int .u32 x.f2.f2, .int .u32 x.f2.f3, .int .u32 x.f2.f4, .int .u32 x.f2.f5, .int .u32 x.f2.f6, .slice A9 x.f2.f7.length c9] ∧ x.f2.f7.length ≤ c9 ∧ k89.C w A9 x.f2.f7.length x.f2.f7 := by
  obtain ⟨_, _, rfl, rfl, ⟨_, _, rfl, rfl, s2⟩⟩ := h
  obtain ⟨A9, c9, rfl, l9, g9⟩ := k26_open s2
  exact ⟨A9, c9, rfl, l9, g9⟩
theorem k91_openM {w : World} {base : Nat} {ok : Nat → Prop} {x : S91} {cs : List Value} (h : k91.M w base ok x cs) : ∃ v9, cs = [.string x.f0, .string x.f1, .int .u32 x.f2.f0, .int .u64 x.f2.f1, .int .u32 x.f2.f2, .int .u32 x.f2.f3, .int .u32 x.f2.f4, .int .u32 x.f2.f5, .int .u32 x.f2.f6, v9] ∧ k89.R 89 w base ok v9 x.f2.f7 := by
  obtain ⟨_, _, rfl, rfl, ⟨_, _, rfl, rfl, s2⟩⟩ := h
  obtain ⟨v9, rfl, g9⟩ := k26_openM s2
  exact ⟨v9, rfl, g9⟩
theorem k91_mk (w : World) (x : S91) {A9 : Option Addr} {c9 : Nat} (l9 : x.f2.f7.length ≤ c9) (g9 : k89.C w A9 x.f2.f7.length x.f2.f7) : k91.K w x [.string x.f0, .string x.f1, .int .u32 x.f2.f0, .int .u64 x.f2.f1, .int .u32 x.f2.f2, .int .u32 x.f2.f3, .int .u32 x.f2.f4, .int .u32 x.f2.f5, .int .u32 x.f2.f6, .slice A9 x.f2.f7.length c9] := ⟨[.string x.f0], [.string x.f1, .int .u32 x.f2.f0, .int .u64 x.f2.f1, .int .u32 x.f2.f2, .int .u32 x.f2.f3, .int .u32 x.f2.f4, .int .u32 x.f2.f5, .int .u32 x.f2.f6, .slice A9 x.f2.f7.length c9], rfl, rfl, ⟨[.string x.f1], [.int .u32 x.f2.f0, .int .u64 x.f2.f1, .int .u32 x.f2.f2, .int .u32 x.f2.f3, .int .u32 x.f2.f4, .int .u32 x.f2.f5, .int .u32 x.f2.f6, .slice A9 x.f2.f7.length c9], rfl, rfl, (k26_mk w x.f2 l9 g9)⟩⟩
theorem k91_mkM (w : World) (base : Nat) (ok : Nat → Prop) (x : S91) {v9 : Value} (g9 : k89.R 89 w base ok v9 x.f2.f7) : k91.M w base ok x [.string x.f0, .string x.f1, .int .u32 x.f2.f0, .int .u64 x.f2.f1, .int .u32 x.f2.f2, .int .u32 x.f2.f3, .int .u32 x.f2.f4, .int .u32 x.f2.f5, .int .u32 x.f2.f6, v9] := ⟨[.string x.f0], [.string x.f1, .int .u32 x.f2.f0, .int .u64 x.f2.f1, .int .u32 x.f2.f2, .int .u32 x.f2.f3, .int .u32 x.f2.f4, .int .u32 x.f2.f5, .int .u32 x.f2.f6, v9], rfl, rfl, ⟨[.string x.f1], [.int .u32 x.f2.f0, .int .u64 x.f2.f1, .int .u32 x.f2.f2, .int .u32 x.f2.f3, .int .u32 x.f2.f4, .int .u32 x.f2.f5, .int .u32 x.f2.f6, v9], rfl, rfl, (k26_mkM w base ok x.f2 g9)⟩⟩
def rd_T91 (xs : List S91) (i : Int) : S91 := xs.getD i.toNat z91
theorem at_T91 {w : World} {A : Option Addr} {n : Nat} {xs : List S91} (h : Kd.C k91 w A n xs) (i : Int) (h0 : 0 ≤ i) (h1 : i < n) : ∃ ad A9 c9, A = some ad ∧ w.cell? (ad.add (i.toNat * 10)) = some (.string (rd_T91 xs i).f0) ∧ w.cell? ⟨(ad.add (i.toNat * 10)).block, (ad.add (i.toNat * 10)).off + 1, none⟩ = some (.string (rd_T91 xs i).f1) ∧ w.cell? ⟨(ad.add (i.toNat * 10)).block, (ad.add (i.toNat * 10)).off + 2, none⟩ = some (.int .u32 (rd_T91 xs i).f2.f0) ∧ w.cell? ⟨(ad.add (i.toNat * 10)).block, (ad.add (i.toNat * 10)).off + 3, none⟩ = some (.int .u64 (rd_T91 xs i).f2.f1) ∧ w.cell? ⟨(ad.add (i.toNat * 10)).block, (ad.add (i.toNat * 10)).off + 4, none⟩ = some (.int .u32 (rd_T91 xs i).f2.f2) ∧ w.cell? ⟨(ad.add (i.toNat * 10)).block, (ad.add (i.toNat * 10)).off + 5, none⟩ = some (.int .u32 (rd_T91 xs i).f2.f3) ∧ w.cell? ⟨(ad.add (i.toNat * 10)).block, (ad.add (i.toNat * 10)).off + 6, none⟩ = some (.int .u32 (rd_T91 xs i).f2.f4) ∧ w.cell? ⟨(ad.add (i.toNat * 10)).block, (ad.add (i.toNat * 10)).off + 7, none⟩ = some (.int .u32 (rd_T91 xs i).f2.f5) ∧ w.cell? ⟨(ad.add (i.toNat * 10)).block, (ad.add (i.toNat * 10)).off + 8, none⟩ = some (.int .u32 (rd_T91 xs i).f2.f6) ∧ w.cell? ⟨(ad.add (i.toNat * 10)).block, (ad.add (i.toNat * 10)).off + 9, none⟩ = some (.slice A9 (rd_T91 xs i).f2.f7.length c9) ∧ (rd_T91 xs i).f2.f7.length ≤ c9 ∧ k89.C w A9 (rd_T91 xs i).f2.f7.length (rd_T91 xs i).f2.f7 := by
  obtain ⟨ad, c, e, _, hK, hc0⟩ := Kd.C_get h z91 i h0 h1
  have hc : ∀ j u, c[j]? = some u → w.cell? (ad.add (i.toNat * 10 + j)) = some u := hc0
  obtain ⟨A9, c9, rfl, l9, g9⟩ := k91_open hK
  exact ⟨ad, A9, c9, e, hc 0 _ rfl, by rw [← add_field _ _ 1 (by omega)]; exact hc 1 _ rfl, by rw [← add_field _ _ 2 (by omega)]; exact hc 2 _ rfl, by rw [← add_field _ _ 3 (by omega)]; exact hc 3 _ rfl, by rw [← add_field _ _ 4 (by omega)]; exact hc 4 _ rfl, by rw [← add_field _ _ 5 (by omega)]; exact hc 5 _ rfl, by rw [← add_field _ _ 6 (by omega)]; exact hc 6 _ rfl, by rw [← add_field _ _ 7 (by omega)]; exact hc 7 _ rfl, by rw [← add_field _ _ 8 (by omega)]; exact hc 8 _ rfl, by rw [← add_field _ _ 9 (by omega)]; exact hc 9 _ rfl, l9, g9⟩

def rd_L8 (xs : List (List S91)) (i : Int) : (List S91) := xs.getD i.toNat ([] : List S91)
theorem at_L8 {w : World} {A : Option Addr} {n : Nat} {xs : List (List S91)} (h : Kd.C (Kd.slice 91 k91) w A n xs) (i : Int) (h0 : 0 ≤ i) (h1 : i < n) : ∃ ad A0 c0, A = some ad ∧ w.cell? (ad.add i.toNat) = some (.slice A0 (rd_L8 xs i).length c0) ∧ (rd_L8 xs i).length ≤ c0 ∧ k91.C w A0 (rd_L8 xs i).length (rd_L8 xs i) := by
  obtain ⟨ad, c, e, _, hK, hc0⟩ := Kd.C_get h ([] : List S91) i h0 h1
  have hc : ∀ j u, c[j]? = some u → w.cell? (ad.add (i.toNat * 1 + j)) = some u := hc0
  obtain ⟨A0, c0, rfl, l0, g0⟩ := hK
  exact ⟨ad, A0, c0, e, by have hq := hc 0 _ rfl; rwa [Nat.mul_one, Nat.add_zero] at hq, l0, g0⟩

/-! #### struct type 29 -/
structure S29 where
  f0 : Int
  f1 : Int
  f2 : ByteArray
  f3 : ByteArray
  f4 : ByteArray
  f5 : Int
  f6 : Int
  f7 : Int
  f8 : ByteArray
  f9 : S26
  f10 : (List S91)
  f11 : (List S89)
  f12 : Int
  f13 : Int
  f14 : ByteArray
  f15 : ByteArray
  f16 : ByteArray
def z29 : S29 := ⟨(0 : Int), (0 : Int), (⟨#[]⟩ : ByteArray), (⟨#[]⟩ : ByteArray), (⟨#[]⟩ : ByteArray), (0 : Int), (0 : Int), (0 : Int), (⟨#[]⟩ : ByteArray), z26, ([] : List S91), ([] : List S89), (0 : Int), (0 : Int), (⟨#[]⟩ : ByteArray), (⟨#[]⟩ : ByteArray), (⟨#[]⟩ : ByteArray)⟩
def k29 : Kd S29 := Kd.iso (Kd.pair (Kd.int .i64) (Kd.pair (Kd.int .u32) (Kd.pair Kd.string (Kd.pair Kd.string (Kd.pair Kd.string (Kd.pair (Kd.int .u64) (Kd.pair (Kd.int .u32) (Kd.pair (Kd.int .u32) (Kd.pair Kd.string (Kd.pair k26 (Kd.pair (Kd.slice 91 k91) (Kd.pair (Kd.slice 89 k89) (Kd.pair (Kd.int .u32) (Kd.pair (Kd.int .u32) (Kd.pair Kd.string (Kd.pair Kd.string Kd.string)))))))))))))))) (fun x : S29 => (x.f0, x.f1, x.f2, x.f3, x.f4, x.f5, x.f6, x.f7, x.f8, x.f9, x.f10, x.f11, x.f12, x.f13, x.f14, x.f15, x.f16))
theorem k29_open {w : World} {x : S29} {cs : List Value} (h : k29.K w x cs) : ∃ A16 c16 A17 c17 A18 c18, cs = [.int .i64 x.f0, .int .u32 x.f1, .string x.f2, .string x.f3, .string x.f4, .int .u64 x.f5, .int .u32 x.f6, .int .u32 x.f7, .string x.f8, .int .u32 x.f9.f0, .int .u64 x.f9.f1, .int .u32 x.f9.f2, .int .u32 x.f9.f3, .int .u32 x.f9.f4, .int .u32 x.f9.f5, .int .u32 x.f9.f6, .slice A16 x.f9.f7.length c16, .slice A17 x.f10.length c17, .slice A18 x.f11.length c18, .int .u32 x.f12, .int .u32 x.f13, .string x.f14, .string x.f15, .string x.f16] ∧ x.f9.f7.length ≤ c16 ∧ k89.C w A16 x.f9.f7.length x.f9.f7 ∧ x.f10.length ≤ c17 ∧ k91.C w A17 x.f10.length x.f10 ∧ x.f11.length ≤ c18 ∧ k89.C w A18 x.f11.length x.f11 := by
  obtain ⟨_, _, rfl, rfl, ⟨_, _, rfl, rfl, ⟨_, _, rfl, rfl, ⟨_, _, rfl, rfl, ⟨_, _, rfl, rfl, ⟨_, _, rfl, rfl, ⟨_, _, rfl, rfl, ⟨_, _, rfl, rfl, ⟨_, _, rfl, rfl, ⟨_, _, rfl, s9, ⟨_, _, rfl, ⟨A17, c17, rfl, l17, g17⟩, ⟨_, _, rfl, ⟨A18, c18, rfl, l18, g18⟩, ⟨_, _, rfl, rfl, ⟨_, _, rfl, rfl, ⟨_, _, rfl, rfl, ⟨_, _, rfl, rfl, rfl⟩⟩⟩⟩⟩⟩⟩⟩⟩⟩⟩⟩⟩⟩⟩⟩ := h
  obtain ⟨A16, c16, rfl, l16, g16⟩ := k26_open s9
  exact ⟨A16, c16, A17, c17, A18, c18, rfl, l16, g16, l17, g17, l18, g18⟩
theorem k29_openM {w : World} {base : Nat} {ok : Nat → Prop} {x : S29} {cs : List Value} (h : k29.M w base ok x cs) : ∃ v16 v17 v18, cs = [.int .i64 x.f0, .int .u32 x.f1, .string x.f2, .string x.f3, .string x.f4, .int .u64 x.f5, .int .u32 x.f6, .int .u32 x.f7, .string x.f8, .int .u32 x.f9.f0, .int .u64 x.f9.f1, .int .u32 x.f9.f2, .int .u32 x.f9.f3, .int .u32 x.f9.f4, .int .u32 x.f9.f5, .int .u32 x.f9.f6, v16, v17, v18, .int .u32 x.f12, .int .u32 x.f13, .string x.f14, .string x.f15, .string x.f16] ∧ k89.R 89 w base ok v16 x.f9.f7 ∧ k91.R 91 w base ok v17 x.f10 ∧ k89.R 89 w base ok v18 x.f11 := by
  obtain ⟨_, _, rfl, rfl, ⟨_, _, rfl, rfl, ⟨_, _, rfl, rfl, ⟨_, _, rfl, rfl, ⟨_, _, rfl, rfl, ⟨_, _, rfl, rfl, ⟨_, _, rfl, rfl, ⟨_, _, rfl, rfl, ⟨_, _, rfl, rfl, ⟨_, _, rfl, s9, ⟨_, _, rfl, ⟨v17, rfl, g17⟩, ⟨_, _, rfl, ⟨v18, rfl, g18⟩, ⟨_, _, rfl, rfl, ⟨_, _, rfl, rfl, ⟨_, _, rfl, rfl, ⟨_, _, rfl, rfl, rfl⟩⟩⟩⟩⟩⟩⟩⟩⟩⟩⟩⟩⟩⟩⟩⟩ := h
  obtain ⟨v16, rfl, g16⟩ := k26_openM s9
  exact ⟨v16, v17, v18, rfl, g16, g17, g18⟩
theorem k29_mk (w : World) (x : S29) {A16 : Option Addr} {c16 : Nat} (l16 : x.f9.f7.length ≤ c16) (g16 : k89.C w A16 x.f9.f7.length x.f9.f7) {A17 : Option Addr} {c17 : Nat} (l17 : x.f10.length ≤ c17) (g17 : k91.C w A17 x.f10.length x.f10) {A18 : Option Addr} {c18 : Nat} (l18 : x.f11.length ≤ c18) (g18 : k89.C w A18 x.f11.length x.f11) : k29.K w x [.int .i64 x.f0, .int .u32 x.f1, .string x.f2, .string x.f3, .string x.f4, .int .u64 x.f5, .int .u32 x.f6, .int .u32 x.f7, .string x.f8, .int .u32 x.f9.f0, .int .u64 x.f9.f1, .int .u32 x.f9.f2, .int .u32 x.f9.f3, .int .u32 x.f9.f4, .int .u32 x.f9.f5, .int .u32 x.f9.f6, .slice A16 x.f9.f7.length c16, .slice A17 x.f10.length c17, .slice A18 x.f11.length c18, .int .u32 x.f12, .int .u32 x.f13, .string x.f14, .string x.f15, .string x.f16] := ⟨[.int .i64 x.f0], [.int .u32 x.f1, .string x.f2, .string x.f3, .string x.f4, .int .u64 x.f5, .int .u32 x.f6, .int .u32 x.f7, .string x.f8, .int .u32 x.f9.f0, .int .u64 x.f9.f1, .int .u32 x.f9.f2, .int .u32 x.f9.f3, .int .u32 x.f9.f4, .int .u32 x.f9.f5, .int .u32 x.f9.f6, .slice A16 x.f9.f7.length c16, .slice A17 x.f10.length c17, .slice A18 x.f11.length c18, .int .u32 x.f12, .int .u32 x.f13, .string x.f14, .string x.f15, .string x.f16], rfl, rfl, ⟨[.int .u32 x.f1], [.string x.f2, .string x.f3, .string x.f4, .int .u64 x.f5, .int .u32 x.f6, .int .u32 x.f7, .string x.f8, .int .u32 x.f9.f0, .int .u64 x.f9.f1, .int .u32 x.f9.f2, .int .u32 x.f9.f3, .int .u32 x.f9.f4, .int .u32 x.f9.f5, .int .u32 x.f9.f6, .slice A16 x.f9.f7.length c16, .slice A17 x.f10.length c17, .slice A18 x.f11.length c18, .int .u32 x.f12, .int .u32 x.f13, .string x.f14, .string x.f15, .string x.f16], rfl, rfl, ⟨[.string x.f2], [.string x.f3, .string x.f4, .int .u64 x.f5, .int .u32 x.f6, .int .u32 x.f7, .string x.f8, .int .u32 x.f9.f0, .int .u64 x.f9.f1, .int .u32 x.f9.f2, .int .u32 x.f9.f3, .int .u32 x.f9.f4, .int .u32 x.f9.f5, .int .u32 x.f9.f6, .slice A16 x.f9.f7.length c16, .slice A17 x.f10.length c17, .slice A18 x.f11.length c18, .int .u32 x.f12, .int .u32 x.f13, .string x.f14, .string x.f15, .string x.f16], rfl, rfl, ⟨[.string x.f3], [.string x.f4, .int .u64 x.f5, .int .u32 x.f6, .int .u32 x.f7, .string x.f8, .int .u32 x.f9.f0, .int .u64 x.f9.f1, .int .u32 x.f9.f2, .int .u32 x.f9.f3, .int .u32 x.f9.f4, .int .u32 x.f9.f5, .int .u32 x.f9.f6, .slice A16 x.f9.f7.length c16, .slice A17 x.f10.length c17, .slice A18 x.f11.length c18, .int .u32 x.f12, .int .u32 x.f13, .string x.f14, .string x.f15, .string x.f16], rfl, rfl, ⟨[.string x.f4], [.int .u64 x.f5, .int .u32 x.f6, .int .u32 x.f7, .string x.f8, .int .u32 x.f9.f0, .int .u64 x.f9.f1, .int .u32 x.f9.f2, .int .u32 x.f9.f3, .int .u32 x.f9.f4, .int .u32 x.f9.f5, .int .u32 x.f9.f6, .slice A16 x.f9.f7.length c16, .slice A17 x.f10.length c17, .slice A18 x.f11.length c18, .int .u32 x.f12, .int .u32 x.f13, .string x.f14, .string x.f15, .string x.f16], rfl, rfl, ⟨[.int .u64 x.f5], [.int .u32 x.f6, .int .u32 x.f7, .string x.f8, .int .u32 x.f9.f0, .int .u64 x.f9.f1, .int .u32 x.f9.f2, .int .u32 x.f9.f3, .int .u32 x.f9.f4, .int .u32 x.f9.f5, .int .u32 x.f9.f6, .slice A16 x.f9.f7.length c16, .slice A17 x.f10.length c17, .slice A18 x.f11.length c18, .int .u32 x.f12, .int .u32 x.f13, .string x.f14, .string x.f15, .string x.f16], rfl, rfl, ⟨[.int .u32 x.f6], [.int .u32 x.f7, .string x.f8, .int .u32 x.f9.f0, .int .u64 x.f9.f1, .int .u32 x.f9.f2, .int .u32 x.f9.f3, .int .u32 x.f9.f4, .int .u32 x.f9.f5, .int .u32 x.f9.f6, .slice A16 x.f9.f7.length c16, .slice A17 x.f10.length c17, .slice A18 x.f11.length c18, .int .u32 x.f12, .int .u32 x.f13, .string x.f14, .string x.f15, .string x.f16], rfl, rfl, ⟨[.int .u32 x.f7], [.string x.f8, .int .u32 x.f9.f0, .int .u64 x.f9.f1, .int .u32 x.f9.f2, .int .u32 x.f9.f3, .int .u32 x.f9.f4, .int .u32 x.f9.f5, .int .u32 x.f9.f6, .slice A16 x.f9.f7.length c16, .slice A17 x.f10.length c17, .slice A18 x.f11.length c18, .int .u32 x.f12, .int .u32 x.f13, .string x.f14, .string x.f15, .string x.f16], rfl, rfl, ⟨[.string x.f8], [.int .u32 x.f9.f0, .int .u64 x.f9.f1, .int .u32 x.f9.f2, .int .u32 x.f9.f3, .int .u32 x.f9.f4, .int .u32 x.f9.f5, .int .u32 x.f9.f6, .slice A16 x.f9.f7.length c16, .slice A17 x.f10.length c17, .slice A18 x.f11.length c18, .int .u32 x.f12, .int .u32 x.f13, .string x.f14, .string x.f15, .string x.f16], rfl, rfl, ⟨[.int .u32 x.f9.f0, .int .u64 x.f9.f1, .int .u32 x.f9.f2, .int .u32 x.f9.f3, .int .u32 x.f9.f4, .int .u32 x.f9.f5, .int .u32 x.f9.f6, .slice A16 x.f9.f7.length c16], [.slice A17 x.f10.length c17, .slice A18 x.f11.length c18, .int .u32 x.f12, .int .u32 x.f13, .string x.f14, .string x.f15, .string x.f16], rfl, (k26_mk w x.f9 l16 g16), ⟨[.slice A17 x.f10.length c17], [.slice A18 x.f11.length c18, .int .u32 x.f12, .int .u32 x.f13, .string x.f14, .string x.f15, .string x.f16], rfl, ⟨A17, c17, rfl, l17, g17⟩, ⟨[.slice A18 x.f11.length c18], [.int .u32 x.f12, .int .u32 x.f13, .string x.f14, .string x.f15, .string x.f16], rfl, ⟨A18, c18, rfl, l18, g18⟩, ⟨[.int .u32 x.f12], [.int .u32 x.f13, .string x.f14, .string x.f15, .string x.f16], rfl, rfl, ⟨[.int .u32 x.f13], [.string x.f14, .string x.f15, .string x.f16], rfl, rfl, ⟨[.string x.f14], [.string x.f15, .string x.f16], rfl, rfl, ⟨[.string x.f15], [.string x.f16], rfl, rfl, rfl⟩⟩⟩⟩⟩⟩⟩⟩⟩⟩⟩⟩⟩⟩⟩⟩
theorem k29_mkM (w : World) (base : Nat) (ok : Nat → Prop) (x : S29) {v16 : Value} (g16 : k89.R 89 w base ok v16 x.f9.f7) {v17 : Value} (g17 : k91.R 91 w base ok v17 x.f10) {v18 : Value} (g18 : k89.R 89 w base ok v18 x.f11) : k29.M w base ok x [.int .i64 x.f0, .int .u32 x.f1, .string x.f2, .string x.f3, .string x.f4, .int .u64 x.f5, .int .u32 x.f6, .int .u32 x.f7, .string x.f8, .int .u32 x.f9.f0, .int .u64 x.f9.f1, .int .u32 x.f9.f2, .int .u32 x.f9.f3, .int .u32 x.f9.f4, .int .u32 x.f9.f5, .int .u32 x.f9.f6, v16, v17, v18, .int .u32 x.f12, .int .u32 x.f13, .string x.f14, .string x.f15, .string x.f16] := ⟨[.int .i64 x.f0], [.int .u32 x.f1, .string x.f2, .string x.f3, .string x.f4, .int .u64 x.f5, .int .u32 x.f6, .int .u32 x.f7, .string x.f8, .int .u32 x.f9.f0, .int .u64 x.f9.f1, .int .u32 x.f9.f2, .int .u32 x.f9.f3, .int .u32 x.f9.f4, .int .u32 x.f9.f5, .int .u32 x.f9.f6, v16, v17, v18, .int .u32 x.f12, .int .u32 x.f13, .string x.f14, .string x.f15, .string x.f16], rfl, rfl, ⟨[.int .u32 x.f1], [.string x.f2, .string x.f3, .string x.f4, .int .u64 x.f5, .int .u32 x.f6, .int .u32 x.f7, .string x.f8, .int .u32 x.f9.f0, .int .u64 x.f9.f1, .int .u32 x.f9.f2, .int .u32 x.f9.f3, .int .u32 x.f9.f4, .int .u32 x.f9.f5, .int .u32 x.f9.f6, v16, v17, v18, .int .u32 x.f12, .int .u32 x.f13, .string x.f14, .string x.f15, .string x.f16], rfl, rfl, ⟨[.string x.f2], [.string x.f3, .string x.f4, .int .u64 x.f5, .int .u32 x.f6, .int .u32 x.f7, .string x.f8, .int .u32 x.f9.f0, .int .u64 x.f9.f1, .int .u32 x.f9.f2, .int .u32 x.f9.f3, .int .u32 x.f9.f4, .int .u32 x.f9.f5, .int .u32 x.f9.f6, v16, v17, v18, .int .u32 x.f12, .int .u32 x.f13, .string x.f14, .string x.f15, .string x.f16], rfl, rfl, ⟨[.string x.f3], [.string x.f4, .int .u64 x.f5, .int .u32 x.f6, .int .u32 x.f7, .string x.f8, .int .u32 x.f9.f0, .int .u64 x.f9.f1, .int .u32 x.f9.f2, .int .u32 x.f9.f3, .int .u32 x.f9.f4, .int .u32 x.f9.f5, .int .u32 x.f9.f6, v16, v17, v18, .int .u32 x.f12, .int .u32 x.f13, .string x.f14, .string x.f15, .string x.f16], rfl, rfl, ⟨[.string x.f4], [.int .u64 x.f5, .int .u32 x.f6, .int .u32 x.f7, .string x.f8, .int .u32 x.f9.f0, .int .u64 x.f9.f1, .int .u32 x.f9.f2, .int .u32 x.f9.f3, .int .u32 x.f9.f4, .int .u32 x.f9.f5, .int .u32 x.f9.f6, v16, v17, v18, .int .u32 x.f12, .int .u32 x.f13, .string x.f14, .string x.f15, .string x.f16], rfl, rfl, ⟨[.int .u64 x.f5], [.int .u32 x.f6, .int .u32 x.f7, .string x.f8, .int .u32 x.f9.f0, .int .u64 x.f9.f1, .int .u32 x.f9.f2, .int .u32 x.f9.f3, .int .u32 x.f9.f4, .int .u32 x.f9.f5, .int .u32 x.f9.f6, v16, v17, v18, .int .u32 x.f12, .int .u32 x.f13, .string x.f14, .string x.f15, .string x.f16], rfl, rfl, ⟨[.int .u32 x.f6], [.int .u32 x.f7, .string x.f8, .int .u32 x.f9.f0, .int .u64 x.f9.f1, .int .u32 x.f9.f2, .int .u32 x.f9.f3, .int .u32 x.f9.f4, .int .u32 x.f9.f5, .int .u32 x.f9.f6, v16, v17, v18, .int .u32 x.f12, .int .u32 x.f13, .string x.f14, .string x.f15, .string x.f16], rfl, rfl, ⟨[.int .u32 x.f7], [.string x.f8, .int .u32 x.f9.f0, .int .u64 x.f9.f1, .int .u32 x.f9.f2, .int .u32 x.f9.f3, .int .u32 x.f9.f4, .int .u32 x.f9.f5, .int .u32 x.f9.f6, v16, v17, v18, .int .u32 x.f12, .int .u32 x.f13, .string x.f14, .string x.f15, .string x.f16], rfl, rfl, ⟨[.string x.f8], [.int .u32 x.f9.f0, .int .u64 x.f9.f1, .int .u32 x.f9.f2, .int .u32 x.f9.f3, .int .u32 x.f9.f4, .int .u32 x.f9.f5, .int .u32 x.f9.f6, v16, v17, v18, .int .u32 x.f12, .int .u32 x.f13, .string x.f14, .string x.f15, .string x.f16], rfl, rfl, ⟨[.int .u32 x.f9.f0, .int .u64 x.f9.f1, .int .u32 x.f9.f2, .int .u32 x.f9.f3, .int .u32 x.f9.f4, .int .u32 x.f9.f5, .int .u32 x.f9.f6, v16], [v17, v18, .int .u32 x.f12, .int .u32 x.f13, .string x.f14, .string x.f15, .string x.f16], rfl, (k26_mkM w base ok x.f9 g16), ⟨[v17], [v18, .int .u32 x.f12, .int .u32 x.f13, .string x.f14, .string x.f15, .string x.f16], rfl, ⟨v17, rfl, g17⟩, ⟨[v18], [.int .u32 x.f12, .int .u32 x.f13, .string x.f14, .string x.f15, .string x.f16], rfl, ⟨v18, rfl, g18⟩, ⟨[.int .u32 x.f12], [.int .u32 x.f13, .string x.f14, .string x.f15, .string x.f16], rfl, rfl, ⟨[.int .u32 x.f13], [.string x.f14, .string x.f15, .string x.f16], rfl, rfl, ⟨[.string x.f14], [.string x.f15, .string x.f16], rfl, rfl, ⟨[.string x.f15], [.string x.f16], rfl, rfl, rfl⟩⟩⟩⟩⟩⟩⟩⟩⟩⟩⟩⟩⟩⟩⟩⟩
def rd_T29 (xs : List S29) (i : Int) : S29 := xs.getD i.toNat z29
theorem at_T29 {w : World} {A : Option Addr} {n : Nat} {xs : List S29} (h : Kd.C k29 w A n xs) (i : Int) (h0 : 0 ≤ i) (h1 : i < n) : ∃ ad A16 c16 A17 c17 A18 c18, A = some ad ∧ w.cell? (ad.add (i.toNat * 24)) = some (.int .i64 (rd_T29 xs i).f0) ∧ w.cell? ⟨(ad.add (i.toNat * 24)).block, (ad.add (i.toNat * 24)).off + 1, none⟩ = some (.int .u32 (rd_T29 xs i).f1) ∧ w.cell? ⟨(ad.add (i.toNat * 24)).block, (ad.add (i.toNat * 24)).off + 2, none⟩ = some (.string (rd_T29 xs i).f2) ∧ w.cell? ⟨(ad.add (i.toNat * 24)).block, (ad.add (i.toNat * 24)).off + 3, none⟩ = some (.string (rd_T29 xs i).f3) ∧ w.cell? ⟨(ad.add (i.toNat * 24)).block, (ad.add (i.toNat * 24)).off + 4, none⟩ = some (.string (rd_T29 xs i).f4) ∧ w.cell? ⟨(ad.add (i.toNat * 24)).block, (ad.add (i.toNat * 24)).off + 5, none⟩ = some (.int .u64 (rd_T29 xs i).f5) ∧ w.cell? ⟨(ad.add (i.toNat * 24)).block, (ad.add (i.toNat * 24)).off + 6, none⟩ = some (.int .u32 (rd_T29 xs i).f6) ∧ w.cell? ⟨(ad.add (i.toNat * 24)).block, (ad.add (i.toNat * 24)).off + 7, none⟩ = some (.int .u32 (rd_T29 xs i).f7) ∧ w.cell? ⟨(ad.add (i.toNat * 24)).block, (ad.add (i.toNat * 24)).off + 8, none⟩ = some (.string (rd_T29 xs i).f8) ∧ w.cell? ⟨(ad.add (i.toNat * 24)).block, (ad.add (i.toNat * 24)).off + 9, none⟩ = some (.int .u32 (rd_T29 xs i).f9.f0) ∧ w.cell? ⟨(ad.add (i.toNat * 24)).block, (ad.add (i.toNat * 24)).off + 10, none⟩ = some (.int .u64 (rd_T29 xs i).f9.f1) ∧ w.cell? ⟨(ad.add (i.toNat * 24)).block, (ad.add (i.toNat * 24)).off + 11, none⟩ = some (.int .u32 (rd_T29 xs i).f9.f2) ∧ w.cell? ⟨(ad.add (i.toNat * 24)).block, (ad.add (i.toNat * 24)).off + 12, none⟩ = some (.int .u32 (rd_T29 xs i).f9.f3) ∧ w.cell? ⟨(ad.add (i.toNat * 24)).block, (ad.add (i.toNat * 24)).off + 13, none⟩ = some (.int .u32 (rd_T29 xs i).f9.f4) ∧ w.cell? ⟨(ad.add (i.toNat * 24)).block, (ad.add (i.toNat * 24)).off + 14, none⟩ = some (.int .u32 (rd_T29 xs i).f9.f5) ∧ w.cell? ⟨(ad.add (i.toNat * 24)).block, (ad.add (i.toNat * 24)).off + 15, none⟩ = some (.int .u32 (rd_T29 xs i).f9.f6) ∧ w.cell? ⟨(ad.add (i.toNat * 24)).block, (ad.add (i.toNat * 24)).off + 16, none⟩ = some (.slice A16 (rd_T29 xs i).f9.f7.length c16) ∧ w.cell? ⟨(ad.add (i.toNat * 24)).block, (ad.add (i.toNat * 24)).off + 17, none⟩ = some (.slice A17 (rd_T29 xs i).f10.length c17) ∧ w.cell? ⟨(ad.add (i.toNat * 24)).block, (ad.add (i.toNat * 24)).off + 18, none⟩ = some (.slice A18 (rd_T29 xs i).f11.length c18) ∧ w.cell? ⟨(ad.add (i.toNat * 24)).block, (ad.add (i.toNat * 24)).off + 19, none⟩ = some (.int .u32 (rd_T29 xs i).f12) ∧ w.cell? ⟨(ad.add (i.toNat * 24)).block, (ad.add (i.toNat * 24)).off + 20, none⟩ = some (.int .u32 (rd_T29 xs i).f13) ∧ w.cell? ⟨(ad.add (i.toNat * 24)).block, (ad.add (i.toNat * 24)).off + 21, none⟩ = some (.string (rd_T29 xs i).f14) ∧ w.cell? ⟨(ad.add (i.toNat * 24)).block, (ad.add (i.toNat * 24)).off + 22, none⟩ = some (.string (rd_T29 xs i).f15) ∧ w.cell? ⟨(ad.add (i.toNat * 24)).block, (ad.add (i.toNat * 24)).off + 23, none⟩ = some (.string (rd_T29 xs i).f16) ∧ (rd_T29 xs i).f9.f7.length ≤ c16 ∧ k89.C w A16 (rd_T29 xs i).f9.f7.length (rd_T29 xs i).f9.f7 ∧ (rd_T29 xs i).f10.length ≤ c17 ∧ k91.C w A17 (rd_T29 xs i).f10.length (rd_T29 xs i).f10 ∧ (rd_T29 xs i).f11.length ≤ c18 ∧ k89.C w A18 (rd_T29 xs i).f11.length (rd_T29 xs i).f11 := by
  obtain ⟨ad, c, e, _, hK, hc0⟩ := Kd.C_get h z29 i h0 h1
  have hc : ∀ j u, c[j]? = some u → w.cell? (ad.add (i.toNat * 24 + j)) = some u := hc0
  obtain ⟨A16, c16, A17, c17, A18, c18, rfl, l16, g16, l17, g17, l18, g18⟩ := k29_open hK
  exact ⟨ad, A16, c16, A17, c17, A18, c18, e, hc 0 _ rfl, by rw [← add_field _ _ 1 (by omega)]; exact hc 1 _ rfl, by rw [← add_field _ _ 2 (by omega)]; exact hc 2 _ rfl, by rw [← add_field _ _ 3 (by omega)]; exact hc 3 _ rfl, by rw [← add_field _ _ 4 (by omega)]; exact hc 4 _ rfl, by rw [← add_field _ _ 5 (by omega)]; exact hc 5 _ rfl, by rw [← add_field _ _ 6 (by omega)]; exact hc 6 _ rfl, by rw [← add_field _ _ 7 (by omega)]; exact hc 7 _ rfl, by rw [← add_field _ _ 8 (by omega)]; exact hc 8 _ rfl, by rw [← add_field _ _ 9 (by omega)]; exact hc 9 _ rfl, by rw [← add_field _ _ 10 (by omega)]; exact hc 10 _ rfl, by rw [← add_field _ _ 11 (by omega)]; exact hc 11 _ rfl, by rw [← add_field _ _ 12 (by omega)]; exact hc 12 _ rfl, by rw [← add_field _ _ 13 (by omega)]; exact hc 13 _ rfl, by rw [← add_field _ _ 14 (by omega)]; exact hc 14 _ rfl, by rw [← add_field _ _ 15 (by omega)]; exact hc 15 _ rfl, by rw [← add_field _ _ 16 (by omega)]; exact hc 16 _ rfl, by rw [← add_field _ _ 17 (by omega)]; exact hc 17 _ rfl, by rw [← add_field _ _ 18 (by omega)]; exact hc 18 _ rfl, by rw [← add_field _ _ 19 (by omega)]; exact hc 19 _ rfl, by rw [← add_field _ _ 20 (by omega)]; exact hc 20 _ rfl, by rw [← add_field _ _ 21 (by omega)]; exact hc 21 _ rfl, by rw [← add_field _ _ 22 (by omega)]; exact hc 22 _ rfl, by rw [← add_field _ _ 23 (by omega)]; exact hc 23 _ rfl, l16, g16, l17, g17, l18, g18⟩

/-! #### struct type 147 -/
structure S147 where
  f0 : ByteArray
  f1 : ByteArray
def z147 : S147 := ⟨(⟨#[]⟩ : ByteArray), (⟨#[]⟩ : ByteArray)⟩
def k147 : Kd S147 := Kd.iso (Kd.pair Kd.string Kd.string) (fun x : S147 => (x.f0, x.f1))
theorem k147_open {w : World} {x : S147} {cs : List Value} (h : k147.K w x cs) : cs = [.string x.f0, .string x.f1] := by
  obtain ⟨_, _, rfl, rfl, rfl⟩ := h
  exact rfl
theorem k147_openM {w : World} {base : Nat} {ok : Nat → Prop} {x : S147} {cs : List Value} (h : k147.M w base ok x cs) : cs = [.string x.f0, .string x.f1] := by
  obtain ⟨_, _, rfl, rfl, rfl⟩ := h
  exact rfl
theorem k147_mk (w : World) (x : S147)  : k147.K w x [.string x.f0, .string x.f1] := ⟨[.string x.f0], [.string x.f1], rfl, rfl, rfl⟩
theorem k147_mkM (w : World) (base : Nat) (ok : Nat → Prop) (x : S147)  : k147.M w base ok x [.string x.f0, .string x.f1] := ⟨[.string x.f0], [.string x.f1], rfl, rfl, rfl⟩
def rd_T147 (xs : List S147) (i : Int) : S147 := xs.getD i.toNat z147
theorem at_T147 {w : World} {A : Option Addr} {n : Nat} {xs : List S147} (h : Kd.C k147 w A n xs) (i : Int) (h0 : 0 ≤ i) (h1 : i < n) : ∃ ad , A = some ad ∧ w.cell? (ad.add (i.toNat * 2)) = some (.string (rd_T147 xs i).f0) ∧ w.cell? ⟨(ad.add (i.toNat * 2)).block, (ad.add (i.toNat * 2)).off + 1, none⟩ = some (.string (rd_T147 xs i).f1) := by
  obtain ⟨ad, c, e, _, hK, hc0⟩ := Kd.C_get h z147 i h0 h1
  have hc : ∀ j u, c[j]? = some u → w.cell? (ad.add (i.toNat * 2 + j)) = some u := hc0
  obtain rfl := k147_open hK
  exact ⟨ad, e, hc 0 _ rfl, by rw [← add_field _ _ 1 (by omega)]; exact hc 1 _ rfl⟩

def rd_L13 (xs : List (List S147)) (i : Int) : (List S147) := xs.getD i.toNat ([] : List S147)
theorem at_L13 {w : World} {A : Option Addr} {n : Nat} {xs : List (List S147)} (h : Kd.C (Kd.slice 147 k147) w A n xs) (i : Int) (h0 : 0 ≤ i) (h1 : i < n) : ∃ ad A0 c0, A = some ad ∧ w.cell? (ad.add i.toNat) = some (.slice A0 (rd_L13 xs i).length c0) ∧ (rd_L13 xs i).length ≤ c0 ∧ k147.C w A0 (rd_L13 xs i).length (rd_L13 xs i) := by
  obtain ⟨ad, c, e, _, hK, hc0⟩ := Kd.C_get h ([] : List S147) i h0 h1
  have hc : ∀ j u, c[j]? = some u → w.cell? (ad.add (i.toNat * 1 + j)) = some u := hc0
  obtain ⟨A0, c0, rfl, l0, g0⟩ := hK
  exact ⟨ad, A0, c0, e, by have hq := hc 0 _ rfl; rwa [Nat.mul_one, Nat.add_zero] at hq, l0, g0⟩

/-! #### struct type 40 -/
structure S40 where
  f0 : Int
  f1 : Int
  f2 : Int
  f3 : Int
  f4 : Int
  f5 : Int
  f6 : Int
  f7 : (List S147)
def z40 : S40 := ⟨(0 : Int), (0 : Int), (0 : Int), (0 : Int), (0 : Int), (0 : Int), (0 : Int), ([] : List S147)⟩
def k40 : Kd S40 := Kd.iso (Kd.pair (Kd.int .u32) (Kd.pair (Kd.int .u64) (Kd.pair (Kd.int .u32) (Kd.pair (Kd.int .u32) (Kd.pair (Kd.int .u32) (Kd.pair (Kd.int .u32) (Kd.pair (Kd.int .u32) (Kd.slice 147 k147)))))))) (fun x : S40 => (x.f0, x.f1, x.f2, x.f3, x.f4, x.f5, x.f6, x.f7))
theorem k40_open {w : World} {x : S40} {cs : List Value} (h : k40.K w x cs) : ∃ A7 c7, cs = [.int .u32 x.f0, .int .u64 x.f1, .int .u32 x.f2, .int .u32 x.f3, .int .u32 x.f4, .int .u32 x.f5, .int .u32 x.f6, .slice A7 x.f7.length c7] ∧ x.f7.length ≤ c7 ∧ k147.C w A7 x.f7.length x.f7 := by
  obtain ⟨_, _, rfl, rfl, ⟨_, _, rfl, rfl, ⟨_, _, rfl, rfl, ⟨_, _, rfl, rfl, ⟨_, _, rfl, rfl, ⟨_, _, rfl, rfl, ⟨_, _, rfl, rfl, ⟨A7, c7, rfl, l7, g7⟩⟩⟩⟩⟩⟩⟩⟩ := h
  exact ⟨A7, c7, rfl, l7, g7⟩
theorem k40_openM {w : World} {base : Nat} {ok : Nat → Prop} {x : S40} {cs : List Value} (h : k40.M w base ok x cs) : ∃ v7, cs = [.int .u32 x.f0, .int .u64 x.f1, .int .u32 x.f2, .int .u32 x.f3, .int .u32 x.f4, .int .u32 x.f5, .int .u32 x.f6, v7] ∧ k147.R 147 w base ok v7 x.f7 := by
  obtain ⟨_, _, rfl, rfl, ⟨_, _, rfl, rfl, ⟨_, _, rfl, rfl, ⟨_, _, rfl, rfl, ⟨_, _, rfl, rfl, ⟨_, _, rfl, rfl, ⟨_, _, rfl, rfl, ⟨v7, rfl, g7⟩⟩⟩⟩⟩⟩⟩⟩ := h
  exact ⟨v7, rfl, g7⟩
theorem k40_mk (w : World) (x : S40) {A7 : Option Addr} {c7 : Nat} (l7 : x.f7.length ≤ c7) (g7 : k147.C w A7 x.f7.length x.f7) : k40.K w x [.int .u32 x.f0, .int .u64 x.f1, .int .u32 x.f2, .int .u32 x.f3, .int .u32 x.f4, .int .u32 x.f5, .int .u32 x.f6, .slice A7 x.f7.length c7] := ⟨[.int .u32 x.f0], [.int .u64 x.f1, .int .u32 x.f2, .int .u32 x.f3, .int .u32 x.f4, .int .u32 x.f5, .int .u32 x.f6, .slice A7 x.f7.length c7], rfl, rfl, ⟨[.int .u64 x.f1], [.int .u32 x.f2, .int .u32 x.f3, .int .u32 x.f4, .int .u32 x.f5, .int .u32 x.f6, .slice A7 x.f7.length c7], rfl, rfl, ⟨[.int .u32 x.f2], [.int .u32 x.f3, .int .u32 x.f4, .int .u32 x.f5, .int .u32 x.f6, .slice A7 x.f7.length c7], rfl, rfl, ⟨[.int .u32 x.f3], [.int .u32 x.f4, .int .u32 x.f5, .int .u32 x.f6, .slice A7 x.f7.length c7], rfl, rfl, ⟨[.int .u32 x.f4], [.int .u32 x.f5, .int .u32 x.f6, .slice A7 x.f7.length c7], rfl, rfl, ⟨[.int .u32 x.f5], [.int .u32 x.f6, .slice A7 x.f7.length c7], rfl, rfl, ⟨[.int .u32 x.f6], [.slice A7 x.f7.length c7], rfl, rfl, ⟨A7, c7, rfl, l7, g7⟩⟩⟩⟩⟩⟩⟩⟩
theorem k40_mkM (w : World) (base : Nat) (ok : Nat → Prop) (x : S40) {v7 : Value} (g7 : k147.R 147 w base ok v7 x.f7) : k40.M w base ok x [.int .u32 x.f0, .int .u64 x.f1, .int .u32 x.f2, .int .u32 x.f3, .int .u32 x.f4, .int .u32 x.f5, .int .u32 x.f6, v7] := ⟨[.int .u32 x.f0], [.int .u64 x.f1, .int .u32 x.f2, .int .u32 x.f3, .int .u32 x.f4, .int .u32 x.f5, .int .u32 x.f6, v7], rfl, rfl, ⟨[.int .u64 x.f1], [.int .u32 x.f2, .int .u32 x.f3, .int .u32 x.f4, .int .u32 x.f5, .int .u32 x.f6, v7], rfl, rfl, ⟨[.int .u32 x.f2], [.int .u32 x.f3, .int .u32 x.f4, .int .u32 x.f5, .int .u32 x.f6, v7], rfl, rfl, ⟨[.int .u32 x.f3], [.int .u32 x.f4, .int .u32 x.f5, .int .u32 x.f6, v7], rfl, rfl, ⟨[.int .u32 x.f4], [.int .u32 x.f5, .int .u32 x.f6, v7], rfl, rfl, ⟨[.int .u32 x.f5], [.int .u32 x.f6, v7], rfl, rfl, ⟨[.int .u32 x.f6], [v7], rfl, rfl, ⟨v7, rfl, g7⟩⟩⟩⟩⟩⟩⟩⟩
def rd_T40 (xs : List S40) (i : Int) : S40 := xs.getD i.toNat z40
theorem at_T40 {w : World} {A : Option Addr} {n : Nat} {xs : List S40} (h : Kd.C k40 w A n xs) (i : Int) (h0 : 0 ≤ i) (h1 : i < n) : ∃ ad A7 c7, A = some ad ∧ w.cell? (ad.add (i.toNat * 8)) = some (.int .u32 (rd_T40 xs i).f0) ∧ w.cell? ⟨(ad.add (i.toNat * 8)).block, (ad.add (i.toNat * 8)).off + 1, none⟩ = some (.int .u64 (rd_T40 xs i).f1) ∧ w.cell? ⟨(ad.add (i.toNat * 8)).block, (ad.add (i.toNat * 8)).off + 2, none⟩ = some (.int .u32 (rd_T40 xs i).f2) ∧ w.cell? ⟨(ad.add (i.toNat * 8)).block, (ad.add (i.toNat * 8)).off + 3, none⟩ = some (.int .u32 (rd_T40 xs i).f3) ∧ w.cell? ⟨(ad.add (i.toNat * 8)).block, (ad.add (i.toNat * 8)).off + 4, none⟩ = some (.int .u32 (rd_T40 xs i).f4) ∧ w.cell? ⟨(ad.add (i.toNat * 8)).block, (ad.add (i.toNat * 8)).off + 5, none⟩ = some (.int .u32 (rd_T40 xs i).f5) ∧ w.cell? ⟨(ad.add (i.toNat * 8)).block, (ad.add (i.toNat * 8)).off + 6, none⟩ = some (.int .u32 (rd_T40 xs i).f6) ∧ w.cell? ⟨(ad.add (i.toNat * 8)).block, (ad.add (i.toNat * 8)).off + 7, none⟩ = some (.slice A7 (rd_T40 xs i).f7.length c7) ∧ (rd_T40 xs i).f7.length ≤ c7 ∧ k147.C w A7 (rd_T40 xs i).f7.length (rd_T40 xs i).f7 := by
  obtain ⟨ad, c, e, _, hK, hc0⟩ := Kd.C_get h z40 i h0 h1
  have hc : ∀ j u, c[j]? = some u → w.cell? (ad.add (i.toNat * 8 + j)) = some u := hc0
  obtain ⟨A7, c7, rfl, l7, g7⟩ := k40_open hK
  exact ⟨ad, A7, c7, e, hc 0 _ rfl, by rw [← add_field _ _ 1 (by omega)]; exact hc 1 _ rfl, by rw [← add_field _ _ 2 (by omega)]; exact hc 2 _ rfl, by rw [← add_field _ _ 3 (by omega)]; exact hc 3 _ rfl, by rw [← add_field _ _ 4 (by omega)]; exact hc 4 _ rfl, by rw [← add_field _ _ 5 (by omega)]; exact hc 5 _ rfl, by rw [← add_field _ _ 6 (by omega)]; exact hc 6 _ rfl, by rw [← add_field _ _ 7 (by omega)]; exact hc 7 _ rfl, l7, g7⟩

/-! #### struct type 133 -/
structure S133 where
  f0 : ByteArray
  f1 : ByteArray
  f2 : S40
def z133 : S133 := ⟨(⟨#[]⟩ : ByteArray), (⟨#[]⟩ : ByteArray), z40⟩
def k133 : Kd S133 := Kd.iso (Kd.pair Kd.string (Kd.pair Kd.string k40)) (fun x : S133 => (x.f0, x.f1, x.f2))
theorem k133_open {w : World} {x : S133} {cs : List Value} (h : k133.K w x cs) : ∃ A9 c9, cs = [.string x.f0, .string x.f1, .int .u32 x.f2.f0, .int .u64 x.f2.f1, .int .u32 x.f2.f2, .int .u32 x.f2.f3, .int .u32 x.f2.f4, .int .u32 x.f2.f5, .int .u32 x.f2.f6, .slice A9 x.f2.f7.length c9] ∧ x.f2.f7.length ≤ c9 ∧ k147.C w A9 x.f2.f7.length x.f2.f7 := by
  obtain ⟨_, _, rfl, rfl, ⟨_, _, rfl, rfl, s2⟩⟩ := h
  obtain ⟨A9, c9, rfl, l9, g9⟩ := k40_open s2
  exact ⟨A9, c9, rfl, l9, g9⟩
theorem k133_openM {w : World} {base : Nat} {ok : Nat → Prop} {x : S133} {cs : List Value} (h : k133.M w base ok x cs) : ∃ v9, cs = [.string x.f0, .string x.f1, .int .u32 x.f2.f0, .int .u64 x.f2.f1, .int .u32 x.f2.f2, .int .u32 x.f2.f3, .int .u32 x.f2.f4, .int .u32 x.f2.f5, .int .u32 x.f2.f6, v9] ∧ k147.R 147 w base ok v9 x.f2.f7 := by
  obtain ⟨_, _, rfl, rfl, ⟨_, _, rfl, rfl, s2⟩⟩ := h
  obtain ⟨v9, rfl, g9⟩ := k40_openM s2
  exact ⟨v9, rfl, g9⟩
theorem k133_mk (w : World) (x : S133) {A9 : Option Addr} {c9 : Nat} (l9 : x.f2.f7.length ≤ c9) (g9 : k147.C w A9 x.f2.f7.length x.f2.f7) : k133.K w x [.string x.f0, .string x.f1, .int .u32 x.f2.f0, .int .u64 x.f2.f1, .int .u32 x.f2.f2, .int .u32 x.f2.f3, .int .u32 x.f2.f4, .int .u32 x.f2.f5, .int .u32 x.f2.f6, .slice A9 x.f2.f7.length c9] := ⟨[.string x.f0], [.string x.f1, .int .u32 x.f2.f0, .int .u64 x.f2.f1, .int .u32 x.f2.f2, .int .u32 x.f2.f3, .int .u32 x.f2.f4, .int .u32 x.f2.f5, .int .u32 x.f2.f6, .slice A9 x.f2.f7.length c9], rfl, rfl, ⟨[.string x.f1], [.int .u32 x.f2.f0, .int .u64 x.f2.f1, .int .u32 x.f2.f2, .int .u32 x.f2.f3, .int .u32 x.f2.f4, .int .u32 x.f2.f5, .int .u32 x.f2.f6, .slice A9 x.f2.f7.length c9], rfl, rfl, (k40_mk w x.f2 l9 g9)⟩⟩
theorem k133_mkM (w : World) (base : Nat) (ok : Nat → Prop) (x : S133) {v9 : Value} (g9 : k147.R 147 w base ok v9 x.f2.f7) : k133.M w base ok x [.string x.f0, .string x.f1, .int .u32 x.f2.f0, .int .u64 x.f2.f1, .int .u32 x.f2.f2, .int .u32 x.f2.f3, .int .u32 x.f2.f4, .int .u32 x.f2.f5, .int .u32 x.f2.f6, v9] := ⟨[.string x.f0], [.string x.f1, .int .u32 x.f2.f0, .int .u64 x.f2.f1, .int .u32 x.f2.f2, .int .u32 x.f2.f3, .int .u32 x.f2.f4, .int .u32 x.f2.f5, .int .u32 x.f2.f6, v9], rfl, rfl, ⟨[.string x.f1], [.int .u32 x.f2.f0, .int .u64 x.f2.f1, .int .u32 x.f2.f2, .int .u32 x.f2.f3, .int .u32 x.f2.f4, .int .u32 x.f2.f5, .int .u32 x.f2.f6, v9], rfl, rfl, (k40_mkM w base ok x.f2 g9)⟩⟩
def rd_T133 (xs : List S133) (i : Int) : S133 := xs.getD i.toNat z133
theorem at_T133 {w : World} {A : Option Addr} {n : Nat} {xs : List S133} (h : Kd.C k133 w A n xs) (i : Int) (h0 : 0 ≤ i) (h1 : i < n) : ∃ ad A9 c9, A = some ad ∧ w.cell? (ad.add (i.toNat * 10)) = some (.string (rd_T133 xs i).f0) ∧ w.cell? ⟨(ad.add (i.toNat * 10)).block, (ad.add (i.toNat * 10)).off + 1, none⟩ = some (.string (rd_T133 xs i).f1) ∧ w.cell? ⟨(ad.add (i.toNat * 10)).block, (ad.add (i.toNat * 10)).off + 2, none⟩ = some (.int .u32 (rd_T133 xs i).f2.f0) ∧ w.cell? ⟨(ad.add (i.toNat * 10)).block, (ad.add (i.toNat * 10)).off + 3, none⟩ = some (.int .u64 (rd_T133 xs i).f2.f1) ∧ w.cell? ⟨(ad.add (i.toNat * 10)).block, (ad.add (i.toNat * 10)).off + 4, none⟩ = some (.int .u32 (rd_T133 xs i).f2.f2) ∧ w.cell? ⟨(ad.add (i.toNat * 10)).block, (ad.add (i.toNat * 10)).off + 5, none⟩ = some (.int .u32 (rd_T133 xs i).f2.f3) ∧ w.cell? ⟨(ad.add (i.toNat * 10)).block, (ad.add (i.toNat * 10)).off + 6, none⟩ = some (.int .u32 (rd_T133 xs i).f2.f4) ∧ w.cell? ⟨(ad.add (i.toNat * 10)).block, (ad.add (i.toNat * 10)).off + 7, none⟩ = some (.int .u32 (rd_T133 xs i).f2.f5) ∧ w.cell? ⟨(ad.add (i.toNat * 10)).block, (ad.add (i.toNat * 10)).off + 8, none⟩ = some (.int .u32 (rd_T133 xs i).f2.f6) ∧ w.cell? ⟨(ad.add (i.toNat * 10)).block, (ad.add (i.toNat * 10)).off + 9, none⟩ = some (.slice A9 (rd_T133 xs i).f2.f7.length c9) ∧ (rd_T133 xs i).f2.f7.length ≤ c9 ∧ k147.C w A9 (rd_T133 xs i).f2.f7.length (rd_T133 xs i).f2.f7 := by
  obtain ⟨ad, c, e, _, hK, hc0⟩ := Kd.C_get h z133 i h0 h1
  have hc : ∀ j u, c[j]? = some u → w.cell? (ad.add (i.toNat * 10 + j)) = some u := hc0
  obtain ⟨A9, c9, rfl, l9, g9⟩ := k133_open hK
  exact ⟨ad, A9, c9, e, hc 0 _ rfl, by rw [← add_field _ _ 1 (by omega)]; exact hc 1 _ rfl, by rw [← add_field _ _ 2 (by omega)]; exact hc 2 _ rfl, by rw [← add_field _ _ 3 (by omega)]; exact hc 3 _ rfl, by rw [← add_field _ _ 4 (by omega)]; exact hc 4 _ rfl, by rw [← add_field _ _ 5 (by omega)]; exact hc 5 _ rfl, by rw [← add_field _ _ 6 (by omega)]; exact hc 6 _ rfl, by rw [← add_field _ _ 7 (by omega)]; exact hc 7 _ rfl, by rw [← add_field _ _ 8 (by omega)]; exact hc 8 _ rfl, by rw [← add_field _ _ 9 (by omega)]; exact hc 9 _ rfl, l9, g9⟩

def rd_L16 (xs : List (List S133)) (i : Int) : (List S133) := xs.getD i.toNat ([] : List S133)
theorem at_L16 {w : World} {A : Option Addr} {n : Nat} {xs : List (List S133)} (h : Kd.C (Kd.slice 133 k133) w A n xs) (i : Int) (h0 : 0 ≤ i) (h1 : i < n) : ∃ ad A0 c0, A = some ad ∧ w.cell? (ad.add i.toNat) = some (.slice A0 (rd_L16 xs i).length c0) ∧ (rd_L16 xs i).length ≤ c0 ∧ k133.C w A0 (rd_L16 xs i).length (rd_L16 xs i) := by
  obtain ⟨ad, c, e, _, hK, hc0⟩ := Kd.C_get h ([] : List S133) i h0 h1
  have hc : ∀ j u, c[j]? = some u → w.cell? (ad.add (i.toNat * 1 + j)) = some u := hc0
  obtain ⟨A0, c0, rfl, l0, g0⟩ := hK
  exact ⟨ad, A0, c0, e, by have hq := hc 0 _ rfl; rwa [Nat.mul_one, Nat.add_zero] at hq, l0, g0⟩

/-! #### struct type 43 -/
structure S43 where
  f0 : Int
  f1 : Int
  f2 : ByteArray
  f3 : ByteArray
  f4 : ByteArray
  f5 : Int
  f6 : Int
  f7 : Int
  f8 : ByteArray
  f9 : S40
  f10 : (List S133)
  f11 : (List S147)
  f12 : Int
  f13 : Int
  f14 : ByteArray
  f15 : ByteArray
  f16 : ByteArray
def z43 : S43 := ⟨(0 : Int), (0 : Int), (⟨#[]⟩ : ByteArray), (⟨#[]⟩ : ByteArray), (⟨#[]⟩ : ByteArray), (0 : Int), (0 : Int), (0 : Int), (⟨#[]⟩ : ByteArray), z40, ([] : List S133), ([] : List S147), (0 : Int), (0 : Int), (⟨#[]⟩ : ByteArray), (⟨#[]⟩ : ByteArray), (⟨#[]⟩ : ByteArray)⟩
def k43 : Kd S43 := Kd.iso (Kd.pair (Kd.int .i64) (Kd.pair (Kd.int .u32) (Kd.pair Kd.string (Kd.pair Kd.string (Kd.pair Kd.string (Kd.pair (Kd.int .u64) (Kd.pair (Kd.int .u32) (Kd.pair (Kd.int .u32) (Kd.pair Kd.string (Kd.pair k40 (Kd.pair (Kd.slice 133 k133) (Kd.pair (Kd.slice 147 k147) (Kd.pair (Kd.int .u32) (Kd.pair (Kd.int .u32) (Kd.pair Kd.string (Kd.pair Kd.string Kd.string)))))))))))))))) (fun x : S43 => (x.f0, x.f1, x.f2, x.f3, x.f4, x.f5, x.f6, x.f7, x.f8, x.f9, x.f10, x.f11, x.f12, x.f13, x.f14, x.f15, x.f16))
theorem k43_open {w : World} {x : S43} {cs : List Value} (h : k43.K w x cs) : ∃ A16 c16 A17 c17 A18 c18, cs = [.int .i64 x.f0, .int .u32 x.f1, .string x.f2, .string x.f3, .string x.f4, .int .u64 x.f5, .int .u32 x.f6, .int .u32 x.f7, .string x.f8, .int .u32 x.f9.f0, .int .u64 x.f9.f1, .int .u32 x.f9.f2, .int .u32 x.f9.f3, .int .u32 x.f9.f4, .int .u32 x.f9.f5, .int .u32 x.f9.f6, .slice A16 x.f9.f7.length c16, .slice A17 x.f10.length c17, .slice A18 x.f11.length c18, .int .u32 x.f12, .int .u32 x.f13, .string x.f14, .string x.f15, .string x.f16] ∧ x.f9.f7.length ≤ c16 ∧ k147.C w A16 x.f9.f7.length x.f9.f7 ∧ x.f10.length ≤ c17 ∧ k133.C w A17 x.f10.length x.f10 ∧ x.f11.length ≤ c18 ∧ k147.C w A18 x.f11.length x.f11 := by
  obtain ⟨_, _, rfl, rfl, ⟨_, _, rfl, rfl, ⟨_, _, rfl, rfl, ⟨_, _, rfl, rfl, ⟨_, _, rfl, rfl, ⟨_, _, rfl, rfl, ⟨_, _, rfl, rfl, ⟨_, _, rfl, rfl, ⟨_, _, rfl, rfl, ⟨_, _, rfl, s9, ⟨_, _, rfl, ⟨A17, c17, rfl, l17, g17⟩, ⟨_, _, rfl, ⟨A18, c18, rfl, l18, g18⟩, ⟨_, _, rfl, rfl, ⟨_, _, rfl, rfl, ⟨_, _, rfl, rfl, ⟨_, _, rfl, rfl, rfl⟩⟩⟩⟩⟩⟩⟩⟩⟩⟩⟩⟩⟩⟩⟩⟩ := h
  obtain ⟨A16, c16, rfl, l16, g16⟩ := k40_open s9
  exact ⟨A16, c16, A17, c17, A18, c18, rfl, l16, g16, l17, g17, l18, g18⟩
theorem k43_openM {w : World} {base : Nat} {ok : Nat → Prop} {x : S43} {cs : List Value} (h : k43.M w base ok x cs) : ∃ v16 v17 v18, cs = [.int .i64 x.f0, .int .u32 x.f1, .string x.f2, .string x.f3, .string x.f4, .int .u64 x.f5, .int .u32 x.f6, .int .u32 x.f7, .string x.f8, .int .u32 x.f9.f0, .int .u64 x.f9.f1, .int .u32 x.f9.f2, .int .u32 x.f9.f3, .int .u32 x.f9.f4, .int .u32 x.f9.f5, .int .u32 x.f9.f6, v16, v17, v18, .int .u32 x.f12, .int .u32 x.f13, .string x.f14, .string x.f15, .string x.f16] ∧ k147.R 147 w base ok v16 x.f9.f7 ∧ k133.R 133 w base ok v17 x.f10 ∧ k147.R 147 w base ok v18 x.f11 := by
  obtain ⟨_, _, rfl, rfl, ⟨_, _, rfl, rfl, ⟨_, _, rfl, rfl, ⟨_, _, rfl, rfl, ⟨_, _, rfl, rfl, ⟨_, _, rfl, rfl, ⟨_, _, rfl, rfl, ⟨_, _, rfl, rfl, ⟨_, _, rfl, rfl, ⟨_, _, rfl, s9, ⟨_, _, rfl, ⟨v17, rfl, g17⟩, ⟨_, _, rfl, ⟨v18, rfl, g18⟩, ⟨_, _, rfl, rfl, ⟨_, _, rfl, rfl, ⟨_, _, rfl, rfl, ⟨_, _, rfl, rfl, rfl⟩⟩⟩⟩⟩⟩⟩⟩⟩⟩⟩⟩⟩⟩⟩⟩ := h
  obtain ⟨v16, rfl, g16⟩ := k40_openM s9
  exact ⟨v16, v17, v18, rfl, g16, g17, g18⟩
theorem k43_mk (w : World) (x : S43) {A16 : Option Addr} {c16 : Nat} (l16 : x.f9.f7.length ≤ c16) (g16 : k147.C w A16 x.f9.f7.length x.f9.f7) {A17 : Option Addr} {c17 : Nat} (l17 : x.f10.length ≤ c17) (g17 : k133.C w A17 x.f10.length x.f10) {A18 : Option Addr} {c18 : Nat} (l18 : x.f11.length ≤ c18) (g18 : k147.C w A18 x.f11.length x.f11) : k43.K w x [.int .i64 x.f0, .int .u32 x.f1, .string x.f2, .string x.f3, .string x.f4, .int .u64 x.f5, .int .u32 x.f6, .int .u32 x.f7, .string x.f8, .int .u32 x.f9.f0, .int .u64 x.f9.f1, .int .u32 x.f9.f2, .int .u32 x.f9.f3, .int .u32 x.f9.f4, .int .u32 x.f9.f5, .int .u32 x.f9.f6, .slice A16 x.f9.f7.length c16, .slice A17 x.f10.length c17, .slice A18 x.f11.length c18, .int .u32 x.f12, .int .u32 x.f13, .string x.f14, .string x.f15, .string x.f16] := ⟨[.int .i64 x.f0], [.int .u32 x.f1, .string x.f2, .string x.f3, .string x.f4, .int .u64 x.f5, .int .u32 x.f6, .int .u32 x.f7, .string x.f8, .int .u32 x.f9.f0, .int .u64 x.f9.f1, .int .u32 x.f9.f2, .int .u32 x.f9.f3, .int .u32 x.f9.f4, .int .u32 x.f9.f5, .int .u32 x.f9.f6, .slice A16 x.f9.f7.length c16, .slice A17 x.f10.length c17, .slice A18 x.f11.length c18, .int .u32 x.f12, .int .u32 x.f13, .string x.f14, .string x.f15, .string x.f16], rfl, rfl, ⟨[.int .u32 x.f1], [.string x.f2, .string x.f3, .string x.f4, .int .u64 x.f5, .int .u32 x.f6, .int .u32 x.f7, .string x.f8, .int .u32 x.f9.f0, .int .u64 x.f9.f1, .int .u32 x.f9.f2, .int .u32 x.f9.f3, .int .u32 x.f9.f4, .int .u32 x.f9.f5, .int .u32 x.f9.f6, .slice A16 x.f9.f7.length c16, .slice A17 x.f10.length c17, .slice A18 x.f11.length c18, .int .u32 x.f12, .int .u32 x.f13, .string x.f14, .string x.f15, .string x.f16], rfl, rfl, ⟨[.string x.f2], [.string x.f3, .string x.f4, .int .u64 x.f5, .int .u32 x.f6, .int .u32 x.f7, .string x.f8, .int .u32 x.f9.f0, .int .u64 x.f9.f1, .int .u32 x.f9.f2, .int .u32 x.f9.f3, .int .u32 x.f9.f4, .int .u32 x.f9.f5, .int .u32 x.f9.f6, .slice A16 x.f9.f7.length c16, .slice A17 x.f10.length c17, .slice A18 x.f11.length c18, .int .u32 x.f12, .int .u32 x.f13, .string x.f14, .string x.f15, .string x.f16], rfl, rfl, ⟨[.string x.f3], [.string x.f4, .int .u64 x.f5, .int .u32 x.f6, .int .u32 x.f7, .string x.f8, .int .u32 x.f9.f0, .int .u64 x.f9.f1, .int .u32 x.f9.f2, .int .u32 x.f9.f3, .int .u32 x.f9.f4, .int .u32 x.f9.f5, .int .u32 x.f9.f6, .slice A16 x.f9.f7.length c16, .slice A17 x.f10.length c17, .slice A18 x.f11.length c18, .int .u32 x.f12, .int .u32 x.f13, .string x.f14, .string x.f15, .string x.f16], rfl, rfl, ⟨[.string x.f4], [.int .u64 x.f5, .int .u32 x.f6, .int .u32 x.f7, .string x.f8, .int .u32 x.f9.f0, .int .u64 x.f9.f1, .int .u32 x.f9.f2, .int .u32 x.f9.f3, .int .u32 x.f9.f4, .int .u32 x.f9.f5, .int .u32 x.f9.f6, .slice A16 x.f9.f7.length c16, .slice A17 x.f10.length c17, .slice A18 x.f11.length c18, .int .u32 x.f12, .int .u32 x.f13, .string x.f14, .string x.f15, .string x.f16], rfl, rfl, ⟨[.int .u64 x.f5], [.int .u32 x.f6, .int .u32 x.f7, .string x.f8, .int .u32 x.f9.f0, .int .u64 x.f9.f1, .int .u32 x.f9.f2, .int .u32 x.f9.f3, .int .u32 x.f9.f4, .int .u32 x.f9.f5, .int .u32 x.f9.f6, .slice A16 x.f9.f7.length c16, .slice A17 x.f10.length c17, .slice A18 x.f11.length c18, .int .u32 x.f12, .int .u32 x.f13, .string x.f14, .string x.f15, .string x.f16], rfl, rfl, ⟨[.int .u32 x.f6], [.int .u32 x.f7, .string x.f8, .int .u32 x.f9.f0, .int .u64 x.f9.f1, .int .u32 x.f9.f2, .int .u32 x.f9.f3, .int .u32 x.f9.f4, .int .u32 x.f9.f5, .int .u32 x.f9.f6, .slice A16 x.f9.f7.length c16, .slice A17 x.f10.length c17, .slice A18 x.f11.length c18, .int .u32 x.f12, .int .u32 x.f13, .string x.f14, .string x.f15, .string x.f16], rfl, rfl, ⟨[.int .u32 x.f7], [.string x.f8, .int .u32 x.f9.f0, .int .u64 x.f9.f1, .int .u32 x.f9.f2, .int .u32 x.f9.f3, .int .u32 x.f9.f4, .int .u32 x.f9.f5, .int .u32 x.f9.f6, .slice A16 x.f9.f7.length c16, .slice A17 x.f10.length c17, .slice A18 x.f11.length c18, .int .u32 x.f12, .int .u32 x.f13, .string x.f14, .string x.f15, .string x.f16], rfl, rfl, ⟨[.string x.f8], [.int .u32 x.f9.f0, .int .u64 x.f9.f1, .int .u32 x.f9.f2, .int .u32 x.f9.f3, .int .u32 x.f9.f4, .int .u32 x.f9.f5, .int .u32 x.f9.f6, .slice A16 x.f9.f7.length c16, .slice A17 x.f10.length c17, .slice A18 x.f11.length c18, .int .u32 x.f12, .int .u32 x.f13, .string x.f14, .string x.f15, .string x.f16], rfl, rfl, ⟨[.int .u32 x.f9.f0, .int .u64 x.f9.f1, .int .u32 x.f9.f2, .int .u32 x.f9.f3, .int .u32 x.f9.f4, .int .u32 x.f9.f5, .int .u32 x.f9.f6, .slice A16 x.f9.f7.length c16], [.slice A17 x.f10.length c17, .slice A18 x.f11.length c18, .int .u32 x.f12, .int .u32 x.f13, .string x.f14, .string x.f15, .string x.f16], rfl, (k40_mk w x.f9 l16 g16), ⟨[.slice A17 x.f10.length c17], [.slice A18 x.f11.length c18, .int .u32 x.f12, .int .u32 x.f13, .string x.f14, .string x.f15, .string x.f16], rfl, ⟨A17, c17, rfl, l17, g17⟩, ⟨[.slice A18 x.f11.length c18], [.int .u32 x.f12, .int .u32 x.f13, .string x.f14, .string x.f15, .string x.f16], rfl, ⟨A18, c18, rfl, l18, g18⟩, ⟨[.int .u32 x.f12], [.int .u32 x.f13, .string x.f14, .string x.f15, .string x.f16], rfl, rfl, ⟨[.int .u32 x.f13], [.string x.f14, .string x.f15, .string x.f16], rfl, rfl, ⟨[.string x.f14], [.string x.f15, .string x.f16], rfl, rfl, ⟨[.string x.f15], [.string x.f16], rfl, rfl, rfl⟩⟩⟩⟩⟩⟩⟩⟩⟩⟩⟩⟩⟩⟩⟩⟩
theorem k43_mkM (w : World) (base : Nat) (ok : Nat → Prop) (x : S43) {v16 : Value} (g16 : k147.R 147 w base ok v16 x.f9.f7) {v17 : Value} (g17 : k133.R 133 w base ok v17 x.f10) {v18 : Value} (g18 : k147.R 147 w base ok v18 x.f11) : k43.M w base ok x [.int .i64 x.f0, .int .u32 x.f1, .string x.f2, .string x.f3, .string x.f4, .int .u64 x.f5, .int .u32 x.f6, .int .u32 x.f7, .string x.f8, .int .u32 x.f9.f0, .int .u64 x.f9.f1, .int .u32 x.f9.f2, .int .u32 x.f9.f3, .int .u32 x.f9.f4, .int .u32 x.f9.f5, .int .u32 x.f9.f6, v16, v17, v18, .int .u32 x.f12, .int .u32 x.f13, .string x.f14, .string x.f15, .string x.f16] := ⟨[.int .i64 x.f0], [.int .u32 x.f1, .string x.f2, .string x.f3, .string x.f4, .int .u64 x.f5, .int .u32 x.f6, .int .u32 x.f7, .string x.f8, .int .u32 x.f9.f0, .int .u64 x.f9.f1, .int .u32 x.f9.f2, .int .u32 x.f9.f3, .int .u32 x.f9.f4, .int .u32 x.f9.f5, .int .u32 x.f9.f6, v16, v17, v18, .int .u32 x.f12, .int .u32 x.f13, .string x.f14, .string x.f15, .string x.f16], rfl, rfl, ⟨[.int .u32 x.f1], [.string x.f2, .string x.f3, .string x.f4, .int .u64 x.f5, .int .u32 x.f6, .int .u32 x.f7, .string x.f8, .int .u32 x.f9.f0, .int .u64 x.f9.f1, .int .u32 x.f9.f2, .int .u32 x.f9.f3, .int .u32 x.f9.f4, .int .u32 x.f9.f5, .int .u32 x.f9.f6, v16, v17, v18, .int .u32 x.f12, .int .u32 x.f13, .string x.f14, .string x.f15, .string x.f16], rfl, rfl, ⟨[.string x.f2], [.string x.f3, .string x.f4, .int .u64 x.f5, .int .u32 x.f6, .int .u32 x.f7, .string x.f8, .int .u32 x.f9.f0, .int .u64 x.f9.f1, .int .u32 x.f9.f2, .int .u32 x.f9.f3, .int .u32 x.f9.f4, .int .u32 x.f9.f5, .int .u32 x.f9.f6, v16, v17, v18, .int .u32 x.f12, .int .u32 x.f13, .string x.f14, .string x.f15, .string x.f16], rfl, rfl, ⟨[.string x.f3], [.string x.f4, .int .u64 x.f5, .int .u32 x.f6, .int .u32 x.f7, .string x.f8, .int .u32 x.f9.f0, .int .u64 x.f9.f1, .int .u32 x.f9.f2, .int .u32 x.f9.f3, .int .u32 x.f9.f4, .int .u32 x.f9.f5, .int .u32 x.f9.f6, v16, v17, v18, .int .u32 x.f12, .int .u32 x.f13, .string x.f14, .string x.f15, .string x.f16], rfl, rfl, ⟨[.string x.f4], [.int .u64 x.f5, .int .u32 x.f6, .int .u32 x.f7, .string x.f8, .int .u32 x.f9.f0, .int .u64 x.f9.f1, .int .u32 x.f9.f2, .int .u32 x.f9.f3, .int .u32 x.f9.f4, .int .u32 x.f9.f5, .int .u32 x.f9.f6, v16, v17, v18, .int .u32 x.f12, .int .u32 x.f13, .string x.f14, .string x.f15, .string x.f16], rfl, rfl, ⟨[.int .u64 x.f5], [.int .u32 x.f6, .int .u32 x.f7, .string x.f8, .int .u32 x.f9.f0, .int .u64 x.f9.f1, .int .u32 x.f9.f2, .int .u32 x.f9.f3, .int .u32 x.f9.f4, .int .u32 x.f9.f5, .int .u32 x.f9.f6, v16, v17, v18, .int .u32 x.f12, .int .u32 x.f13, .string x.f14, .string x.f15, .string x.f16], rfl, rfl, ⟨[.int .u32 x.f6], [.int .u32 x.f7, .string x.f8, .int .u32 x.f9.f0, .int .u64 x.f9.f1, .int .u32 x.f9.f2, .int .u32 x.f9.f3, .int .u32 x.f9.f4, .int .u32 x.f9.f5, .int .u32 x.f9.f6, v16, v17, v18, .int .u32 x.f12, .int .u32 x.f13, .string x.f14, .string x.f15, .string x.f16], rfl, rfl, ⟨[.int .u32 x.f7], [.string x.f8, .int .u32 x.f9.f0, .int .u64 x.f9.f1, .int .u32 x.f9.f2, .int .u32 x.f9.f3, .int .u32 x.f9.f4, .int .u32 x.f9.f5, .int .u32 x.f9.f6, v16, v17, v18, .int .u32 x.f12, .int .u32 x.f13, .string x.f14, .string x.f15, .string x.f16], rfl, rfl, ⟨[.string x.f8], [.int .u32 x.f9.f0, .int .u64 x.f9.f1, .int .u32 x.f9.f2, .int .u32 x.f9.f3, .int .u32 x.f9.f4, .int .u32 x.f9.f5, .int .u32 x.f9.f6, v16, v17, v18, .int .u32 x.f12, .int .u32 x.f13, .string x.f14, .string x.f15, .string x.f16], rfl, rfl, ⟨[.int .u32 x.f9.f0, .int .u64 x.f9.f1, .int .u32 x.f9.f2, .int .u32 x.f9.f3, .int .u32 x.f9.f4, .int .u32 x.f9.f5, .int .u32 x.f9.f6, v16], [v17, v18, .int .u32 x.f12, .int .u32 x.f13, .string x.f14, .string x.f15, .string x.f16], rfl, (k40_mkM w base ok x.f9 g16), ⟨[v17], [v18, .int .u32 x.f12, .int .u32 x.f13, .string x.f14, .string x.f15, .string x.f16], rfl, ⟨v17, rfl, g17⟩, ⟨[v18], [.int .u32 x.f12, .int .u32 x.f13, .string x.f14, .string x.f15, .string x.f16], rfl, ⟨v18, rfl, g18⟩, ⟨[.int .u32 x.f12], [.int .u32 x.f13, .string x.f14, .string x.f15, .string x.f16], rfl, rfl, ⟨[.int .u32 x.f13], [.string x.f14, .string x.f15, .string x.f16], rfl, rfl, ⟨[.string x.f14], [.string x.f15, .string x.f16], rfl, rfl, ⟨[.string x.f15], [.string x.f16], rfl, rfl, rfl⟩⟩⟩⟩⟩⟩⟩⟩⟩⟩⟩⟩⟩⟩⟩⟩
def rd_T43 (xs : List S43) (i : Int) : S43 := xs.getD i.toNat z43
theorem at_T43 {w : World} {A : Option Addr} {n : Nat} {xs : List S43} (h : Kd.C k43 w A n xs) (i : Int) (h0 : 0 ≤ i) (h1 : i < n) : ∃ ad A16 c16 A17 c17 A18 c18, A = some ad ∧ w.cell? (ad.add (i.toNat * 24)) = some (.int .i64 (rd_T43 xs i).f0) ∧ w.cell? ⟨(ad.add (i.toNat * 24)).block, (ad.add (i.toNat * 24)).off + 1, none⟩ = some (.int .u32 (rd_T43 xs i).f1) ∧ w.cell? ⟨(ad.add (i.toNat * 24)).block, (ad.add (i.toNat * 24)).off + 2, none⟩ = some (.string (rd_T43 xs i).f2) ∧ w.cell? ⟨(ad.add (i.toNat * 24)).block, (ad.add (i.toNat * 24)).off + 3, none⟩ = some (.string (rd_T43 xs i).f3) ∧ w.cell? ⟨(ad.add (i.toNat * 24)).block, (ad.add (i.toNat * 24)).off + 4, none⟩ = some (.string (rd_T43 xs i).f4) ∧ w.cell? ⟨(ad.add (i.toNat * 24)).block, (ad.add (i.toNat * 24)).off + 5, none⟩ = some (.int .u64 (rd_T43 xs i).f5) ∧ w.cell? ⟨(ad.add (i.toNat * 24)).block, (ad.add (i.toNat * 24)).off + 6, none⟩ = some (.int .u32 (rd_T43 xs i).f6) ∧ w.cell? ⟨(ad.add (i.toNat * 24)).block, (ad.add (i.toNat * 24)).off + 7, none⟩ = some (.int .u32 (rd_T43 xs i).f7) ∧ w.cell? ⟨(ad.add (i.toNat * 24)).block, (ad.add (i.toNat * 24)).off + 8, none⟩ = some (.string (rd_T43 xs i).f8) ∧ w.cell? ⟨(ad.add (i.toNat * 24)).block, (ad.add (i.toNat * 24)).off + 9, none⟩ = some (.int .u32 (rd_T43 xs i).f9.f0) ∧ w.cell? ⟨(ad.add (i.toNat * 24)).block, (ad.add (i.toNat * 24)).off + 10, none⟩ = some (.int .u64 (rd_T43 xs i).f9.f1) ∧ w.cell? ⟨(ad.add (i.toNat * 24)).block, (ad.add (i.toNat * 24)).off + 11, none⟩ = some (.int .u32 (rd_T43 xs i).f9.f2) ∧ w.cell? ⟨(ad.add (i.toNat * 24)).block, (ad.add (i.toNat * 24)).off + 12, none⟩ = some (.int .u32 (rd_T43 xs i).f9.f3) ∧ w.cell? ⟨(ad.add (i.toNat * 24)).block, (ad.add (i.toNat * 24)).off + 13, none⟩ = some (.int .u32 (rd_T43 xs i).f9.f4) ∧ w.cell? ⟨(ad.add (i.toNat * 24)).block, (ad.add (i.toNat * 24)).off + 14, none⟩ = some (.int .u32 (rd_T43 xs i).f9.f5) ∧ w.cell? ⟨(ad.add (i.toNat * 24)).block, (ad.add (i.toNat * 24)).off + 15, none⟩ = some (.int .u32 (rd_T43 xs i).f9.f6) ∧ w.cell? ⟨(ad.add (i.toNat * 24)).block, (ad.add (i.toNat * 24)).off + 16, none⟩ = some (.slice A16 (rd_T43 xs i).f9.f7.length c16) ∧ w.cell? ⟨(ad.add (i.toNat * 24)).block, (ad.add (i.toNat * 24)).off + 17, none⟩ = some (.slice A17 (rd_T43 xs i).f10.length c17) ∧ w.cell? ⟨(ad.add (i.toNat * 24)).block, (ad.add (i.toNat * 24)).off + 18, none⟩ = some (.slice A18 (rd_T43 xs i).f11.length c18) ∧ w.cell? ⟨(ad.add (i.toNat * 24)).block, (ad.add (i.toNat * 24)).off + 19, none⟩ = some (.int .u32 (rd_T43 xs i).f12) ∧ w.cell? ⟨(ad.add (i.toNat * 24)).block, (ad.add (i.toNat * 24)).off + 20, none⟩ = some (.int .u32 (rd_T43 xs i).f13) ∧ w.cell? ⟨(ad.add (i.toNat * 24)).block, (ad.add (i.toNat * 24)).off + 21, none⟩ = some (.string (rd_T43 xs i).f14) ∧ w.cell? ⟨(ad.add (i.toNat * 24)).block, (ad.add (i.toNat * 24)).off + 22, none⟩ = some (.string (rd_T43 xs i).f15) ∧ w.cell? ⟨(ad.add (i.toNat * 24)).block, (ad.add (i.toNat * 24)).off + 23, none⟩ = some (.string (rd_T43 xs i).f16) ∧ (rd_T43 xs i).f9.f7.length ≤ c16 ∧ k147.C w A16 (rd_T43 xs i).f9.f7.length (rd_T43 xs i).f9.f7 ∧ (rd_T43 xs i).f10.length ≤ c17 ∧ k133.C w A17 (rd_T43 xs i).f10.length (rd_T43 xs i).f10 ∧ (rd_T43 xs i).f11.length ≤ c18 ∧ k147.C w A18 (rd_T43 xs i).f11.length (rd_T43 xs i).f11 := by
  obtain ⟨ad, c, e, _, hK, hc0⟩ := Kd.C_get h z43 i h0 h1
  have hc : ∀ j u, c[j]? = some u → w.cell? (ad.add (i.toNat * 24 + j)) = some u := hc0
  obtain ⟨A16, c16, A17, c17, A18, c18, rfl, l16, g16, l17, g17, l18, g18⟩ := k43_open hK
  exact ⟨ad, A16, c16, A17, c17, A18, c18, e, hc 0 _ rfl, by rw [← add_field _ _ 1 (by omega)]; exact hc 1 _ rfl, by rw [← add_field _ _ 2 (by omega)]; exact hc 2 _ rfl, by rw [← add_field _ _ 3 (by omega)]; exact hc 3 _ rfl, by rw [← add_field _ _ 4 (by omega)]; exact hc 4 _ rfl, by rw [← add_field _ _ 5 (by omega)]; exact hc 5 _ rfl, by rw [← add_field _ _ 6 (by omega)]; exact hc 6 _ rfl, by rw [← add_field _ _ 7 (by omega)]; exact hc 7 _ rfl, by rw [← add_field _ _ 8 (by omega)]; exact hc 8 _ rfl, by rw [← add_field _ _ 9 (by omega)]; exact hc 9 _ rfl, by rw [← add_field _ _ 10 (by omega)]; exact hc 10 _ rfl, by rw [← add_field _ _ 11 (by omega)]; exact hc 11 _ rfl, by rw [← add_field _ _ 12 (by omega)]; exact hc 12 _ rfl, by rw [← add_field _ _ 13 (by omega)]; exact hc 13 _ rfl, by rw [← add_field _ _ 14 (by omega)]; exact hc 14 _ rfl, by rw [← add_field _ _ 15 (by omega)]; exact hc 15 _ rfl, by rw [← add_field _ _ 16 (by omega)]; exact hc 16 _ rfl, by rw [← add_field _ _ 17 (by omega)]; exact hc 17 _ rfl, by rw [← add_field _ _ 18 (by omega)]; exact hc 18 _ rfl, by rw [← add_field _ _ 19 (by omega)]; exact hc 19 _ rfl, by rw [← add_field _ _ 20 (by omega)]; exact hc 20 _ rfl, by rw [← add_field _ _ 21 (by omega)]; exact hc 21 _ rfl, by rw [← add_field _ _ 22 (by omega)]; exact hc 22 _ rfl, by rw [← add_field _ _ 23 (by omega)]; exact hc 23 _ rfl, l16, g16, l17, g17, l18, g18⟩

/-! #### struct type 163 -/
structure S163 where
  f0 : Int
  f1 : Int
def z163 : S163 := ⟨(0 : Int), (0 : Int)⟩
def k163 : Kd S163 := Kd.iso (Kd.pair (Kd.int .u32) (Kd.int .u8)) (fun x : S163 => (x.f0, x.f1))
theorem k163_open {w : World} {x : S163} {cs : List Value} (h : k163.K w x cs) : cs = [.int .u32 x.f0, .int .u8 x.f1] := by
  obtain ⟨_, _, rfl, rfl, rfl⟩ := h
  exact rfl
theorem k163_openM {w : World} {base : Nat} {ok : Nat → Prop} {x : S163} {cs : List Value} (h : k163.M w base ok x cs) : cs = [.int .u32 x.f0, .int .u8 x.f1] := by
  obtain ⟨_, _, rfl, rfl, rfl⟩ := h
  exact rfl
theorem k163_mk (w : World) (x : S163)  : k163.K w x [.int .u32 x.f0, .int .u8 x.f1] := ⟨[.int .u32 x.f0], [.int .u8 x.f1], rfl, rfl, rfl⟩
theorem k163_mkM (w : World) (base : Nat) (ok : Nat → Prop) (x : S163)  : k163.M w base ok x [.int .u32 x.f0, .int .u8 x.f1] := ⟨[.int .u32 x.f0], [.int .u8 x.f1], rfl, rfl, rfl⟩
def rd_T163 (xs : List S163) (i : Int) : S163 := xs.getD i.toNat z163
theorem at_T163 {w : World} {A : Option Addr} {n : Nat} {xs : List S163} (h : Kd.C k163 w A n xs) (i : Int) (h0 : 0 ≤ i) (h1 : i < n) : ∃ ad , A = some ad ∧ w.cell? (ad.add (i.toNat * 2)) = some (.int .u32 (rd_T163 xs i).f0) ∧ w.cell? ⟨(ad.add (i.toNat * 2)).block, (ad.add (i.toNat * 2)).off + 1, none⟩ = some (.int .u8 (rd_T163 xs i).f1) := by
  obtain ⟨ad, c, e, _, hK, hc0⟩ := Kd.C_get h z163 i h0 h1
  have hc : ∀ j u, c[j]? = some u → w.cell? (ad.add (i.toNat * 2 + j)) = some u := hc0
  obtain rfl := k163_open hK
  exact ⟨ad, e, hc 0 _ rfl, by rw [← add_field _ _ 1 (by omega)]; exact hc 1 _ rfl⟩

/-! #### struct type 79 -/
structure S79 where
  f0 : Int
  f1 : Int
  f2 : ByteArray
def z79 : S79 := ⟨(0 : Int), (0 : Int), (⟨#[]⟩ : ByteArray)⟩
def k79 : Kd S79 := Kd.iso (Kd.pair (Kd.int .i64) (Kd.pair (Kd.int .u64) Kd.string)) (fun x : S79 => (x.f0, x.f1, x.f2))
theorem k79_open {w : World} {x : S79} {cs : List Value} (h : k79.K w x cs) : cs = [.int .i64 x.f0, .int .u64 x.f1, .string x.f2] := by
  obtain ⟨_, _, rfl, rfl, ⟨_, _, rfl, rfl, rfl⟩⟩ := h
  exact rfl
theorem k79_openM {w : World} {base : Nat} {ok : Nat → Prop} {x : S79} {cs : List Value} (h : k79.M w base ok x cs) : cs = [.int .i64 x.f0, .int .u64 x.f1, .string x.f2] := by
  obtain ⟨_, _, rfl, rfl, ⟨_, _, rfl, rfl, rfl⟩⟩ := h
  exact rfl
theorem k79_mk (w : World) (x : S79)  : k79.K w x [.int .i64 x.f0, .int .u64 x.f1, .string x.f2] := ⟨[.int .i64 x.f0], [.int .u64 x.f1, .string x.f2], rfl, rfl, ⟨[.int .u64 x.f1], [.string x.f2], rfl, rfl, rfl⟩⟩
theorem k79_mkM (w : World) (base : Nat) (ok : Nat → Prop) (x : S79)  : k79.M w base ok x [.int .i64 x.f0, .int .u64 x.f1, .string x.f2] := ⟨[.int .i64 x.f0], [.int .u64 x.f1, .string x.f2], rfl, rfl, ⟨[.int .u64 x.f1], [.string x.f2], rfl, rfl, rfl⟩⟩
def rd_T79 (xs : List S79) (i : Int) : S79 := xs.getD i.toNat z79
theorem at_T79 {w : World} {A : Option Addr} {n : Nat} {xs : List S79} (h : Kd.C k79 w A n xs) (i : Int) (h0 : 0 ≤ i) (h1 : i < n) : ∃ ad , A = some ad ∧ w.cell? (ad.add (i.toNat * 3)) = some (.int .i64 (rd_T79 xs i).f0) ∧ w.cell? ⟨(ad.add (i.toNat * 3)).block, (ad.add (i.toNat * 3)).off + 1, none⟩ = some (.int .u64 (rd_T79 xs i).f1) ∧ w.cell? ⟨(ad.add (i.toNat * 3)).block, (ad.add (i.toNat * 3)).off + 2, none⟩ = some (.string (rd_T79 xs i).f2) := by
  obtain ⟨ad, c, e, _, hK, hc0⟩ := Kd.C_get h z79 i h0 h1
  have hc : ∀ j u, c[j]? = some u → w.cell? (ad.add (i.toNat * 3 + j)) = some u := hc0
  obtain rfl := k79_open hK
  exact ⟨ad, e, hc 0 _ rfl, by rw [← add_field _ _ 1 (by omega)]; exact hc 1 _ rfl, by rw [← add_field _ _ 2 (by omega)]; exact hc 2 _ rfl⟩

/-! #### struct type 80 -/
structure S80 where
  f0 : Int
  f1 : Int
  f2 : ByteArray
def z80 : S80 := ⟨(0 : Int), (0 : Int), (⟨#[]⟩ : ByteArray)⟩
def k80 : Kd S80 := Kd.iso (Kd.pair (Kd.int .i64) (Kd.pair (Kd.int .u64) Kd.string)) (fun x : S80 => (x.f0, x.f1, x.f2))
theorem k80_open {w : World} {x : S80} {cs : List Value} (h : k80.K w x cs) : cs = [.int .i64 x.f0, .int .u64 x.f1, .string x.f2] := by
  obtain ⟨_, _, rfl, rfl, ⟨_, _, rfl, rfl, rfl⟩⟩ := h
  exact rfl
theorem k80_openM {w : World} {base : Nat} {ok : Nat → Prop} {x : S80} {cs : List Value} (h : k80.M w base ok x cs) : cs = [.int .i64 x.f0, .int .u64 x.f1, .string x.f2] := by
  obtain ⟨_, _, rfl, rfl, ⟨_, _, rfl, rfl, rfl⟩⟩ := h
  exact rfl
theorem k80_mk (w : World) (x : S80)  : k80.K w x [.int .i64 x.f0, .int .u64 x.f1, .string x.f2] := ⟨[.int .i64 x.f0], [.int .u64 x.f1, .string x.f2], rfl, rfl, ⟨[.int .u64 x.f1], [.string x.f2], rfl, rfl, rfl⟩⟩
theorem k80_mkM (w : World) (base : Nat) (ok : Nat → Prop) (x : S80)  : k80.M w base ok x [.int .i64 x.f0, .int .u64 x.f1, .string x.f2] := ⟨[.int .i64 x.f0], [.int .u64 x.f1, .string x.f2], rfl, rfl, ⟨[.int .u64 x.f1], [.string x.f2], rfl, rfl, rfl⟩⟩
def rd_T80 (xs : List S80) (i : Int) : S80 := xs.getD i.toNat z80
theorem at_T80 {w : World} {A : Option Addr} {n : Nat} {xs : List S80} (h : Kd.C k80 w A n xs) (i : Int) (h0 : 0 ≤ i) (h1 : i < n) : ∃ ad , A = some ad ∧ w.cell? (ad.add (i.toNat * 3)) = some (.int .i64 (rd_T80 xs i).f0) ∧ w.cell? ⟨(ad.add (i.toNat * 3)).block, (ad.add (i.toNat * 3)).off + 1, none⟩ = some (.int .u64 (rd_T80 xs i).f1) ∧ w.cell? ⟨(ad.add (i.toNat * 3)).block, (ad.add (i.toNat * 3)).off + 2, none⟩ = some (.string (rd_T80 xs i).f2) := by
  obtain ⟨ad, c, e, _, hK, hc0⟩ := Kd.C_get h z80 i h0 h1
  have hc : ∀ j u, c[j]? = some u → w.cell? (ad.add (i.toNat * 3 + j)) = some u := hc0
  obtain rfl := k80_open hK
  exact ⟨ad, e, hc 0 _ rfl, by rw [← add_field _ _ 1 (by omega)]; exact hc 1 _ rfl, by rw [← add_field _ _ 2 (by omega)]; exact hc 2 _ rfl⟩

def rd_L21 (xs : List (List S80)) (i : Int) : (List S80) := xs.getD i.toNat ([] : List S80)
theorem at_L21 {w : World} {A : Option Addr} {n : Nat} {xs : List (List S80)} (h : Kd.C (Kd.slice 80 k80) w A n xs) (i : Int) (h0 : 0 ≤ i) (h1 : i < n) : ∃ ad A0 c0, A = some ad ∧ w.cell? (ad.add i.toNat) = some (.slice A0 (rd_L21 xs i).length c0) ∧ (rd_L21 xs i).length ≤ c0 ∧ k80.C w A0 (rd_L21 xs i).length (rd_L21 xs i) := by
  obtain ⟨ad, c, e, _, hK, hc0⟩ := Kd.C_get h ([] : List S80) i h0 h1
  have hc : ∀ j u, c[j]? = some u → w.cell? (ad.add (i.toNat * 1 + j)) = some u := hc0
  obtain ⟨A0, c0, rfl, l0, g0⟩ := hK
  exact ⟨ad, A0, c0, e, by have hq := hc 0 _ rfl; rwa [Nat.mul_one, Nat.add_zero] at hq, l0, g0⟩

def rd_L22 (xs : List (List S79)) (i : Int) : (List S79) := xs.getD i.toNat ([] : List S79)
theorem at_L22 {w : World} {A : Option Addr} {n : Nat} {xs : List (List S79)} (h : Kd.C (Kd.slice 79 k79) w A n xs) (i : Int) (h0 : 0 ≤ i) (h1 : i < n) : ∃ ad A0 c0, A = some ad ∧ w.cell? (ad.add i.toNat) = some (.slice A0 (rd_L22 xs i).length c0) ∧ (rd_L22 xs i).length ≤ c0 ∧ k79.C w A0 (rd_L22 xs i).length (rd_L22 xs i) := by
  obtain ⟨ad, c, e, _, hK, hc0⟩ := Kd.C_get h ([] : List S79) i h0 h1
  have hc : ∀ j u, c[j]? = some u → w.cell? (ad.add (i.toNat * 1 + j)) = some u := hc0
  obtain ⟨A0, c0, rfl, l0, g0⟩ := hK
  exact ⟨ad, A0, c0, e, by have hq := hc 0 _ rfl; rwa [Nat.mul_one, Nat.add_zero] at hq, l0, g0⟩

/-! #### struct type 266 -/
structure S266 where
  f0 : ByteArray
  f1 : ByteArray
def z266 : S266 := ⟨(⟨#[]⟩ : ByteArray), (⟨#[]⟩ : ByteArray)⟩
def k266 : Kd S266 := Kd.iso (Kd.pair Kd.string Kd.string) (fun x : S266 => (x.f0, x.f1))
theorem k266_open {w : World} {x : S266} {cs : List Value} (h : k266.K w x cs) : cs = [.string x.f0, .string x.f1] := by
  obtain ⟨_, _, rfl, rfl, rfl⟩ := h
  exact rfl
theorem k266_openM {w : World} {base : Nat} {ok : Nat → Prop} {x : S266} {cs : List Value} (h : k266.M w base ok x cs) : cs = [.string x.f0, .string x.f1] := by
  obtain ⟨_, _, rfl, rfl, rfl⟩ := h
  exact rfl
theorem k266_mk (w : World) (x : S266)  : k266.K w x [.string x.f0, .string x.f1] := ⟨[.string x.f0], [.string x.f1], rfl, rfl, rfl⟩
theorem k266_mkM (w : World) (base : Nat) (ok : Nat → Prop) (x : S266)  : k266.M w base ok x [.string x.f0, .string x.f1] := ⟨[.string x.f0], [.string x.f1], rfl, rfl, rfl⟩
def rd_T266 (xs : List S266) (i : Int) : S266 := xs.getD i.toNat z266
theorem at_T266 {w : World} {A : Option Addr} {n : Nat} {xs : List S266} (h : Kd.C k266 w A n xs) (i : Int) (h0 : 0 ≤ i) (h1 : i < n) : ∃ ad , A = some ad ∧ w.cell? (ad.add (i.toNat * 2)) = some (.string (rd_T266 xs i).f0) ∧ w.cell? ⟨(ad.add (i.toNat * 2)).block, (ad.add (i.toNat * 2)).off + 1, none⟩ = some (.string (rd_T266 xs i).f1) := by
  obtain ⟨ad, c, e, _, hK, hc0⟩ := Kd.C_get h z266 i h0 h1
  have hc : ∀ j u, c[j]? = some u → w.cell? (ad.add (i.toNat * 2 + j)) = some u := hc0
  obtain rfl := k266_open hK
  exact ⟨ad, e, hc 0 _ rfl, by rw [← add_field _ _ 1 (by omega)]; exact hc 1 _ rfl⟩

end Go.Proofs.YtmenkckgpiafiaaGreat.KK
