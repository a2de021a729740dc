/-
  laws.FnModeText answers true for every input, and the input reads as it did. No conditions.
-/
import Derived.Laws.BitsLemmas
import Derived.Lib.EndianBits
import Derived.Deep.Slices
import Derived.Deep.Fields
import Derived.ChangeSame
import Derived.ChangeArms
import Derived.WideShapes
import Derived.Test.YtmenkckgpiafiaaGreatRows
import Derived.ChangeSlices
import Derived.ShutString
import Derived.Test.YtmenkckgpiafiaaGreatProg
import Derived.KernelRfl
import Derived.Test.YtmenkckgpiafiaaGreatMX1
import Derived.Test.YtmenkckgpiafiaaGreatMX2
import Derived.Test.YtmenkckgpiafiaaGreatMX3
set_option linter.unusedVariables false
set_option linter.unusedSimpArgs false
namespace Go.Proofs.YtmenkckgpiafiaaGreat
open Go.RowKit Go.Great Go.Proofs.YtmenkckgpiafiaaGreatW.PrintWords Go.Proofs.YtmenkckgpiafiaaGreatW.PrintLast Go.Proofs.YtmenkckgpiafiaaGreatW.PrintMore Go.Proofs.YtmenkckgpiafiaaGreat.KK
theorem bits_and32 (a b : Nat) (ha : a < 4294967296) (hb : b < 4294967296) : Go.bits .and .u32 (a : Int) (b : Int) = ((a &&& b : Nat) : Int) :=
  (bits_nat .u32 32 (by decide) wraps_u32 a b ha hb).1
/-- A bit, asked in two ways. -/
theorem bit_two (m : Int) (k : Nat) (h0 : 0 ≤ m) (h1 : m ≤ 4294967295) (hk : k < 32) : (Go.bits .and .u32 (shr .u32 m (k : Int)) 1 = 0) ↔ mbit m ((2 ^ k : Nat) : Int) = false := by
  obtain ⟨n, rfl⟩ := Int.eq_ofNat_of_zero_le h0
  have hn : n < 4294967296 := by omega
  have hp : 2 ^ k < 4294967296 := by
    have := Nat.pow_lt_pow_right (a := 2) (by omega) hk
    simpa using this
  have hs : shr .u32 (n : Int) (k : Int) = ((n / 2 ^ k : Nat) : Int) := by
    unfold shr
    rw [Int.toNat_natCast, Nat.min_eq_left (show k ≤ IntKind.u32.bits by show k ≤ 32; omega)]
    norm_cast
  have hd : n / 2 ^ k < 4294967296 := Nat.lt_of_le_of_lt (Nat.div_le_self _ _) hn
  rw [hs, show (1 : Int) = ((1 : Nat) : Int) from rfl, bits_and32 _ 1 hd (by omega)]
  unfold mbit
  rw [bits_and32 n (2 ^ k) hn hp, Nat.and_one_is_mod]
  have ht : n.testBit k = decide (n / 2 ^ k % 2 = 1) := Nat.testBit_eq_decide_div_mod_eq
  have key : (n &&& 2 ^ k = 0) ↔ n.testBit k = false := by
    constructor
    · intro h
      have h2 : (n &&& 2 ^ k).testBit k = false := by rw [h]; exact Nat.zero_testBit k
      rw [Nat.testBit_and, Nat.testBit_two_pow_self, Bool.and_true] at h2
      exact h2
    · intro h
      apply Nat.eq_of_testBit_eq
      intro i
      rw [Nat.testBit_and, Nat.zero_testBit, Nat.testBit_two_pow]
      by_cases e : k = i
      · subst e; simp [h]
      · simp [e]
  rw [ht] at key
  have h2 : n / 2 ^ k % 2 = 0 ∨ n / 2 ^ k % 2 = 1 := by omega
  rcases h2 with h | h
  · have : n &&& 2 ^ k = 0 := key.2 (by simp [h])
    simp [h, this]
  · have : ¬ (n &&& 2 ^ k = 0) := fun e => by have := key.1 e; simp [h] at this
    simp [h, this]
/-- A letter as a number. -/
def mI (m : Int) (i : Nat) : Int := ((mlet m i).toNat : Int)
theorem l0_0 (m : Int) (k : Nat) (x : List Int) (h0 : 0 ≤ m) (h1 : m ≤ 4294967295) (hx : x.length < 100) : PM.spec_ModeText.l0 (k + 1) m x 0 = PM.spec_ModeText.l0 k m (x ++ [mI m 0]) 1 := by
  have hb := bit_two m 8 h0 h1 (by omega)
  have hw : wrap64 (8 - 0) = ((8 : Nat) : Int) := by unfold wrap64; omega
  have hv : wrap64 (0 + 1) = 1 := by unfold wrap64; omega
  have hc : Go.Proofs.YtmenkckgpiafiaaGreatW.PrintWords.bt (⟨#[114, 119, 120]⟩ : ByteArray) (Int.tmod 0 3) = 114 := by decide +kernel
  simp only [PM.spec_ModeText.l0]
  rw [if_pos (by decide), hw, hv, hc, if_pos (by omega)]
  cases hm : mbit m 256 with
  | false =>
    rw [if_pos (hb.2 hm), if_pos (by omega)]
    have e : mI m 0 = 45 := by simp [mI, mlet, hm]
    rw [e]
  | true =>
    rw [if_neg (fun h => by have := hb.1 h; simp [hm] at this), if_pos (by decide), if_pos (by decide), if_pos (by omega)]
    have e : mI m 0 = 114 := by simp [mI, mlet, hm]
    rw [e]
theorem l0_1 (m : Int) (k : Nat) (x : List Int) (h0 : 0 ≤ m) (h1 : m ≤ 4294967295) (hx : x.length < 100) : PM.spec_ModeText.l0 (k + 1) m x 1 = PM.spec_ModeText.l0 k m (x ++ [mI m 1]) 2 := by
  have hb := bit_two m 7 h0 h1 (by omega)
  have hw : wrap64 (8 - 1) = ((7 : Nat) : Int) := by unfold wrap64; omega
  have hv : wrap64 (1 + 1) = 2 := by unfold wrap64; omega
  have hc : Go.Proofs.YtmenkckgpiafiaaGreatW.PrintWords.bt (⟨#[114, 119, 120]⟩ : ByteArray) (Int.tmod 1 3) = 119 := by decide +kernel
  simp only [PM.spec_ModeText.l0]
  rw [if_pos (by decide), hw, hv, hc, if_pos (by omega)]
  cases hm : mbit m 128 with
  | false =>
    rw [if_pos (hb.2 hm), if_pos (by omega)]
    have e : mI m 1 = 45 := by simp [mI, mlet, hm]
    rw [e]
  | true =>
    rw [if_neg (fun h => by have := hb.1 h; simp [hm] at this), if_pos (by decide), if_pos (by decide), if_pos (by omega)]
    have e : mI m 1 = 119 := by simp [mI, mlet, hm]
    rw [e]
theorem l0_2 (m : Int) (k : Nat) (x : List Int) (h0 : 0 ≤ m) (h1 : m ≤ 4294967295) (hx : x.length < 100) : PM.spec_ModeText.l0 (k + 1) m x 2 = PM.spec_ModeText.l0 k m (x ++ [mI m 2]) 3 := by
  have hb := bit_two m 6 h0 h1 (by omega)
  have hw : wrap64 (8 - 2) = ((6 : Nat) : Int) := by unfold wrap64; omega
  have hv : wrap64 (2 + 1) = 3 := by unfold wrap64; omega
  have hc : Go.Proofs.YtmenkckgpiafiaaGreatW.PrintWords.bt (⟨#[114, 119, 120]⟩ : ByteArray) (Int.tmod 2 3) = 120 := by decide +kernel
  simp only [PM.spec_ModeText.l0]
  rw [if_pos (by decide), hw, hv, hc, if_pos (by omega)]
  cases hm : mbit m 64 with
  | false =>
    rw [if_pos (hb.2 hm), if_pos (by omega)]
    have e : mI m 2 = 45 := by simp [mI, mlet, hm]
    rw [e]
  | true =>
    rw [if_neg (fun h => by have := hb.1 h; simp [hm] at this), if_pos (by decide), if_pos (by decide), if_pos (by omega)]
    have e : mI m 2 = 120 := by simp [mI, mlet, hm]
    rw [e]
theorem l0_3 (m : Int) (k : Nat) (x : List Int) (h0 : 0 ≤ m) (h1 : m ≤ 4294967295) (hx : x.length < 100) : PM.spec_ModeText.l0 (k + 1) m x 3 = PM.spec_ModeText.l0 k m (x ++ [mI m 3]) 4 := by
  have hb := bit_two m 5 h0 h1 (by omega)
  have hw : wrap64 (8 - 3) = ((5 : Nat) : Int) := by unfold wrap64; omega
  have hv : wrap64 (3 + 1) = 4 := by unfold wrap64; omega
  have hc : Go.Proofs.YtmenkckgpiafiaaGreatW.PrintWords.bt (⟨#[114, 119, 120]⟩ : ByteArray) (Int.tmod 3 3) = 114 := by decide +kernel
  simp only [PM.spec_ModeText.l0]
  rw [if_pos (by decide), hw, hv, hc, if_pos (by omega)]
  cases hm : mbit m 32 with
  | false =>
    rw [if_pos (hb.2 hm), if_pos (by omega)]
    have e : mI m 3 = 45 := by simp [mI, mlet, hm]
    rw [e]
  | true =>
    rw [if_neg (fun h => by have := hb.1 h; simp [hm] at this), if_pos (by decide), if_pos (by decide), if_pos (by omega)]
    have e : mI m 3 = 114 := by simp [mI, mlet, hm]
    rw [e]
theorem l0_4 (m : Int) (k : Nat) (x : List Int) (h0 : 0 ≤ m) (h1 : m ≤ 4294967295) (hx : x.length < 100) : PM.spec_ModeText.l0 (k + 1) m x 4 = PM.spec_ModeText.l0 k m (x ++ [mI m 4]) 5 := by
  have hb := bit_two m 4 h0 h1 (by omega)
  have hw : wrap64 (8 - 4) = ((4 : Nat) : Int) := by unfold wrap64; omega
  have hv : wrap64 (4 + 1) = 5 := by unfold wrap64; omega
  have hc : Go.Proofs.YtmenkckgpiafiaaGreatW.PrintWords.bt (⟨#[114, 119, 120]⟩ : ByteArray) (Int.tmod 4 3) = 119 := by decide +kernel
  simp only [PM.spec_ModeText.l0]
  rw [if_pos (by decide), hw, hv, hc, if_pos (by omega)]
  cases hm : mbit m 16 with
  | false =>
    rw [if_pos (hb.2 hm), if_pos (by omega)]
    have e : mI m 4 = 45 := by simp [mI, mlet, hm]
    rw [e]
  | true =>
    rw [if_neg (fun h => by have := hb.1 h; simp [hm] at this), if_pos (by decide), if_pos (by decide), if_pos (by omega)]
    have e : mI m 4 = 119 := by simp [mI, mlet, hm]
    rw [e]
theorem l0_5 (m : Int) (k : Nat) (x : List Int) (h0 : 0 ≤ m) (h1 : m ≤ 4294967295) (hx : x.length < 100) : PM.spec_ModeText.l0 (k + 1) m x 5 = PM.spec_ModeText.l0 k m (x ++ [mI m 5]) 6 := by
  have hb := bit_two m 3 h0 h1 (by omega)
  have hw : wrap64 (8 - 5) = ((3 : Nat) : Int) := by unfold wrap64; omega
  have hv : wrap64 (5 + 1) = 6 := by unfold wrap64; omega
  have hc : Go.Proofs.YtmenkckgpiafiaaGreatW.PrintWords.bt (⟨#[114, 119, 120]⟩ : ByteArray) (Int.tmod 5 3) = 120 := by decide +kernel
  simp only [PM.spec_ModeText.l0]
  rw [if_pos (by decide), hw, hv, hc, if_pos (by omega)]
  cases hm : mbit m 8 with
  | false =>
    rw [if_pos (hb.2 hm), if_pos (by omega)]
    have e : mI m 5 = 45 := by simp [mI, mlet, hm]
    rw [e]
  | true =>
    rw [if_neg (fun h => by have := hb.1 h; simp [hm] at this), if_pos (by decide), if_pos (by decide), if_pos (by omega)]
    have e : mI m 5 = 120 := by simp [mI, mlet, hm]
    rw [e]
theorem l0_6 (m : Int) (k : Nat) (x : List Int) (h0 : 0 ≤ m) (h1 : m ≤ 4294967295) (hx : x.length < 100) : PM.spec_ModeText.l0 (k + 1) m x 6 = PM.spec_ModeText.l0 k m (x ++ [mI m 6]) 7 := by
  have hb := bit_two m 2 h0 h1 (by omega)
  have hw : wrap64 (8 - 6) = ((2 : Nat) : Int) := by unfold wrap64; omega
  have hv : wrap64 (6 + 1) = 7 := by unfold wrap64; omega
  have hc : Go.Proofs.YtmenkckgpiafiaaGreatW.PrintWords.bt (⟨#[114, 119, 120]⟩ : ByteArray) (Int.tmod 6 3) = 114 := by decide +kernel
  simp only [PM.spec_ModeText.l0]
  rw [if_pos (by decide), hw, hv, hc, if_pos (by omega)]
  cases hm : mbit m 4 with
  | false =>
    rw [if_pos (hb.2 hm), if_pos (by omega)]
    have e : mI m 6 = 45 := by simp [mI, mlet, hm]
    rw [e]
  | true =>
    rw [if_neg (fun h => by have := hb.1 h; simp [hm] at this), if_pos (by decide), if_pos (by decide), if_pos (by omega)]
    have e : mI m 6 = 114 := by simp [mI, mlet, hm]
    rw [e]
theorem l0_7 (m : Int) (k : Nat) (x : List Int) (h0 : 0 ≤ m) (h1 : m ≤ 4294967295) (hx : x.length < 100) : PM.spec_ModeText.l0 (k + 1) m x 7 = PM.spec_ModeText.l0 k m (x ++ [mI m 7]) 8 := by
  have hb := bit_two m 1 h0 h1 (by omega)
  have hw : wrap64 (8 - 7) = ((1 : Nat) : Int) := by unfold wrap64; omega
  have hv : wrap64 (7 + 1) = 8 := by unfold wrap64; omega
  have hc : Go.Proofs.YtmenkckgpiafiaaGreatW.PrintWords.bt (⟨#[114, 119, 120]⟩ : ByteArray) (Int.tmod 7 3) = 119 := by decide +kernel
  simp only [PM.spec_ModeText.l0]
  rw [if_pos (by decide), hw, hv, hc, if_pos (by omega)]
  cases hm : mbit m 2 with
  | false =>
    rw [if_pos (hb.2 hm), if_pos (by omega)]
    have e : mI m 7 = 45 := by simp [mI, mlet, hm]
    rw [e]
  | true =>
    rw [if_neg (fun h => by have := hb.1 h; simp [hm] at this), if_pos (by decide), if_pos (by decide), if_pos (by omega)]
    have e : mI m 7 = 119 := by simp [mI, mlet, hm]
    rw [e]
theorem l0_8 (m : Int) (k : Nat) (x : List Int) (h0 : 0 ≤ m) (h1 : m ≤ 4294967295) (hx : x.length < 100) : PM.spec_ModeText.l0 (k + 1) m x 8 = PM.spec_ModeText.l0 k m (x ++ [mI m 8]) 9 := by
  have hb := bit_two m 0 h0 h1 (by omega)
  have hw : wrap64 (8 - 8) = ((0 : Nat) : Int) := by unfold wrap64; omega
  have hv : wrap64 (8 + 1) = 9 := by unfold wrap64; omega
  have hc : Go.Proofs.YtmenkckgpiafiaaGreatW.PrintWords.bt (⟨#[114, 119, 120]⟩ : ByteArray) (Int.tmod 8 3) = 120 := by decide +kernel
  simp only [PM.spec_ModeText.l0]
  rw [if_pos (by decide), hw, hv, hc, if_pos (by omega)]
  cases hm : mbit m 1 with
  | false =>
    rw [if_pos (hb.2 hm), if_pos (by omega)]
    have e : mI m 8 = 45 := by simp [mI, mlet, hm]
    rw [e]
  | true =>
    rw [if_neg (fun h => by have := hb.1 h; simp [hm] at this), if_pos (by decide), if_pos (by decide), if_pos (by omega)]
    have e : mI m 8 = 120 := by simp [mI, mlet, hm]
    rw [e]
/-- The nine letters behind the kind. -/
def ms0 (m c : Int) : List Int := [c, mI m 0, mI m 1, mI m 2, mI m 3, mI m 4, mI m 5, mI m 6, mI m 7, mI m 8]
theorem l0_all (m c : Int) (k : Nat) (h0 : 0 ≤ m) (h1 : m ≤ 4294967295) : PM.spec_ModeText.l0 (k + 10) m [c] 0 = PM.spec_ModeText.l1 k m (ms0 m c) [(⟨2048, 115⟩ : S163), (⟨1024, 115⟩ : S163), (⟨512, 116⟩ : S163)] 3 0 := by
  rw [l0_0 m (k + 9) [c] h0 h1 (by simp), l0_1 m (k + 8) _ h0 h1 (by simp), l0_2 m (k + 7) _ h0 h1 (by simp), l0_3 m (k + 6) _ h0 h1 (by simp), l0_4 m (k + 5) _ h0 h1 (by simp), l0_5 m (k + 4) _ h0 h1 (by simp), l0_6 m (k + 3) _ h0 h1 (by simp), l0_7 m (k + 2) _ h0 h1 (by simp), l0_8 m (k + 1) _ h0 h1 (by simp)]
  simp only [PM.spec_ModeText.l0]
  rw [if_neg (by decide)]
  rfl
def sI (m : Int) : Int := ((sbit m).toNat : Int)
def gI (m : Int) : Int := ((gbit m).toNat : Int)
def tI (m : Int) : Int := ((tbit m).toNat : Int)
theorem l1_0 (m c : Int) (k : Nat) : PM.spec_ModeText.l1 (k + 1) m [c, mI m 0, mI m 1, mI m 2, mI m 3, mI m 4, mI m 5, mI m 6, mI m 7, mI m 8] [(⟨2048, 115⟩ : S163), (⟨1024, 115⟩ : S163), (⟨512, 116⟩ : S163)] 3 0 = PM.spec_ModeText.l1 k m [c, mI m 0, mI m 1, sI m, mI m 3, mI m 4, mI m 5, mI m 6, mI m 7, mI m 8] [(⟨2048, 115⟩ : S163), (⟨1024, 115⟩ : S163), (⟨512, 116⟩ : S163)] 3 1 := by
  have hv : wrap64 (0 + 1) = 1 := by unfold wrap64; omega
  have hw : wrap64 (3 + wrap64 (3 * 0)) = 3 := by unfold wrap64; omega
  have hr : (rd_T163 [(⟨2048, 115⟩ : S163), (⟨1024, 115⟩ : S163), (⟨512, 116⟩ : S163)] 0) = ⟨2048, 115⟩ := rfl
  have hx : rd [c, mI m 0, mI m 1, mI m 2, mI m 3, mI m 4, mI m 5, mI m 6, mI m 7, mI m 8] 3 = mI m 2 := rfl
  simp only [PM.spec_ModeText.l1]
  rw [if_pos (by decide), if_pos (by decide), if_pos (by decide), hr, hv, hw, hx]
  cases hm : mbit m 2048 with
  | false =>
    have h0 : Go.bits .and .u32 m 2048 = 0 := by simpa [mbit] using hm
    have e : sI m = mI m 2 := by simp [sI, mI, sbit, hm]
    rw [if_pos h0, e]
  | true =>
    have h0 : ¬ Go.bits .and .u32 m 2048 = 0 := by simpa [mbit] using hm
    rw [if_neg h0, if_pos (by decide), if_pos (by simp)]
    cases hb : mbit m 64 with
    | false =>
      have e1 : mI m 2 = 45 := by simp [mI, mlet, hb]
      have e2 : sI m = 83 := by simp [sI, sbit, hm, mlet, hb]
      rw [e1, if_neg (by decide), e2]
      rfl
    | true =>
      have e1 : mI m 2 = 120 := by simp [mI, mlet, hb]
      have e2 : sI m = 115 := by simp [sI, sbit, hm, mlet, hb]
      rw [e1, if_pos (by decide), e2]
      rfl
theorem l1_1 (m c : Int) (k : Nat) : PM.spec_ModeText.l1 (k + 1) m [c, mI m 0, mI m 1, sI m, mI m 3, mI m 4, mI m 5, mI m 6, mI m 7, mI m 8] [(⟨2048, 115⟩ : S163), (⟨1024, 115⟩ : S163), (⟨512, 116⟩ : S163)] 3 1 = PM.spec_ModeText.l1 k m [c, mI m 0, mI m 1, sI m, mI m 3, mI m 4, gI m, mI m 6, mI m 7, mI m 8] [(⟨2048, 115⟩ : S163), (⟨1024, 115⟩ : S163), (⟨512, 116⟩ : S163)] 3 2 := by
  have hv : wrap64 (1 + 1) = 2 := by unfold wrap64; omega
  have hw : wrap64 (3 + wrap64 (3 * 1)) = 6 := by unfold wrap64; omega
  have hr : (rd_T163 [(⟨2048, 115⟩ : S163), (⟨1024, 115⟩ : S163), (⟨512, 116⟩ : S163)] 1) = ⟨1024, 115⟩ := rfl
  have hx : rd [c, mI m 0, mI m 1, sI m, mI m 3, mI m 4, mI m 5, mI m 6, mI m 7, mI m 8] 6 = mI m 5 := rfl
  simp only [PM.spec_ModeText.l1]
  rw [if_pos (by decide), if_pos (by decide), if_pos (by decide), hr, hv, hw, hx]
  cases hm : mbit m 1024 with
  | false =>
    have h0 : Go.bits .and .u32 m 1024 = 0 := by simpa [mbit] using hm
    have e : gI m = mI m 5 := by simp [gI, mI, gbit, hm]
    rw [if_pos h0, e]
  | true =>
    have h0 : ¬ Go.bits .and .u32 m 1024 = 0 := by simpa [mbit] using hm
    rw [if_neg h0, if_pos (by decide), if_pos (by simp)]
    cases hb : mbit m 8 with
    | false =>
      have e1 : mI m 5 = 45 := by simp [mI, mlet, hb]
      have e2 : gI m = 83 := by simp [gI, gbit, hm, mlet, hb]
      rw [e1, if_neg (by decide), e2]
      rfl
    | true =>
      have e1 : mI m 5 = 120 := by simp [mI, mlet, hb]
      have e2 : gI m = 115 := by simp [gI, gbit, hm, mlet, hb]
      rw [e1, if_pos (by decide), e2]
      rfl
theorem l1_2 (m c : Int) (k : Nat) : PM.spec_ModeText.l1 (k + 1) m [c, mI m 0, mI m 1, sI m, mI m 3, mI m 4, gI m, mI m 6, mI m 7, mI m 8] [(⟨2048, 115⟩ : S163), (⟨1024, 115⟩ : S163), (⟨512, 116⟩ : S163)] 3 2 = PM.spec_ModeText.l1 k m [c, mI m 0, mI m 1, sI m, mI m 3, mI m 4, gI m, mI m 6, mI m 7, tI m] [(⟨2048, 115⟩ : S163), (⟨1024, 115⟩ : S163), (⟨512, 116⟩ : S163)] 3 3 := by
  have hv : wrap64 (2 + 1) = 3 := by unfold wrap64; omega
  have hw : wrap64 (3 + wrap64 (3 * 2)) = 9 := by unfold wrap64; omega
  have hr : (rd_T163 [(⟨2048, 115⟩ : S163), (⟨1024, 115⟩ : S163), (⟨512, 116⟩ : S163)] 2) = ⟨512, 116⟩ := rfl
  have hx : rd [c, mI m 0, mI m 1, sI m, mI m 3, mI m 4, gI m, mI m 6, mI m 7, mI m 8] 9 = mI m 8 := rfl
  simp only [PM.spec_ModeText.l1]
  rw [if_pos (by decide), if_pos (by decide), if_pos (by decide), hr, hv, hw, hx]
  cases hm : mbit m 512 with
  | false =>
    have h0 : Go.bits .and .u32 m 512 = 0 := by simpa [mbit] using hm
    have e : tI m = mI m 8 := by simp [tI, mI, tbit, hm]
    rw [if_pos h0, e]
  | true =>
    have h0 : ¬ Go.bits .and .u32 m 512 = 0 := by simpa [mbit] using hm
    rw [if_neg h0, if_pos (by decide), if_pos (by simp)]
    cases hb : mbit m 1 with
    | false =>
      have e1 : mI m 8 = 45 := by simp [mI, mlet, hb]
      have e2 : tI m = 84 := by simp [tI, tbit, hm, mlet, hb]
      rw [e1, if_neg (by decide), e2]
      rfl
    | true =>
      have e1 : mI m 8 = 120 := by simp [mI, mlet, hb]
      have e2 : tI m = 116 := by simp [tI, tbit, hm, mlet, hb]
      rw [e1, if_pos (by decide), e2]
      rfl
theorem l1_all (m c : Int) (k : Nat) : PM.spec_ModeText.l1 (k + 4) m (ms0 m c) [(⟨2048, 115⟩ : S163), (⟨1024, 115⟩ : S163), (⟨512, 116⟩ : S163)] 3 0 = some (strOfNums [c, mI m 0, mI m 1, sI m, mI m 3, mI m 4, gI m, mI m 6, mI m 7, tI m]) := by
  unfold ms0
  rw [l1_0, l1_1, l1_2]
  simp only [PM.spec_ModeText.l1]
  rw [if_neg (by decide)]
end Go.Proofs.YtmenkckgpiafiaaGreat
namespace Go.Proofs.YtmenkckgpiafiaaGreat
open Go.RowKit Go.Great Go.Proofs.YtmenkckgpiafiaaGreatW.PrintWords Go.Proofs.YtmenkckgpiafiaaGreatW.PrintLast Go.Proofs.YtmenkckgpiafiaaGreatW.PrintMore Go.Proofs.YtmenkckgpiafiaaGreat.KK
theorem j0_all (m c : Int) (h0 : 0 ≤ m) (h1 : m ≤ 4294967295) (hc : c = ((mkind (bits .and .u32 m 61440)).toNat : Int)) : PM.spec_ModeText.j0 20 m c = some (bs (mtext m)) := by
  subst hc
  have e : PM.spec_ModeText.j0 20 m ((mkind (bits .and .u32 m 61440)).toNat : Int) = PM.spec_ModeText.l0 (9 + 10) m [((mkind (bits .and .u32 m 61440)).toNat : Int)] 0 := by simp only [PM.spec_ModeText.j0]
  rw [e, l0_all m _ 9 h0 h1, show (9 : Nat) = 5 + 4 from rfl, l1_all, ← strOfNums_bs]
  rfl
theorem spec_f (m : Int) (h0 : 0 ≤ m) (h1 : m ≤ 4294967295) : PM.spec_ModeText.f 20 m = some (bs (mtext m)) := by
  have J := fun c hc => j0_all m c h0 h1 hc
  unfold PM.spec_ModeText.f
  generalize bits .and .u32 m 61440 = t at J
  by_cases e1 : t = 4096
  · rw [if_pos e1]; exact J _ (by rw [e1]; rfl)
  rw [if_neg e1]
  by_cases e2 : t = 8192
  · rw [if_pos e2]; exact J _ (by rw [e2]; rfl)
  rw [if_neg e2]
  by_cases e3 : t = 16384
  · rw [if_pos e3]; exact J _ (by rw [e3]; rfl)
  rw [if_neg e3]
  by_cases e4 : t = 24576
  · rw [if_pos e4]; exact J _ (by rw [e4]; rfl)
  rw [if_neg e4]
  by_cases e5 : t = 32768
  · rw [if_pos e5]; exact J _ (by rw [e5]; rfl)
  rw [if_neg e5]
  by_cases e6 : t = 40960
  · rw [if_pos e6]; exact J _ (by rw [e6]; rfl)
  rw [if_neg e6]
  by_cases e7 : t = 49152
  · rw [if_pos e7]; exact J _ (by rw [e7]; rfl)
  rw [if_neg e7]
  exact J _ (by simp [mkind, e1, e2, e3, e4, e5, e6, e7])
theorem implText (m : Int) (w : World) (h0 : 0 ≤ m) (h1 : m ≤ 4294967295) :
    Calls Tryz.prog 42 #[.int .u32 m] w fun e w' => e = .returned (.string (bs (mtext m))) ∧ Below w.heap.size w w' := by
  go_enter Tryz.func42, Tryz.ntmps42
  go_wp2_with (go_at_call 90; refine (modeString m _ h0 h1).mono ?_; rintro e w' ⟨rfl, hb⟩)
  go_ret
  exact ⟨rfl, hb⟩
theorem textLawK (m : Int) (W : World) (h : 0 ≤ m ∧ m ≤ 4294967295) :
    Calls Tryz.prog 16 #[.int .u32 m] W fun r w' => r = .returned (.bool true) ∧ Below W.heap.size W w' := by
  have C := Lib.hid (fun w => PM.spec_ModeText.calls 20 m (bs (mtext m)) w (spec_f m h.1 h.2))
  have I := Lib.hid (fun w => implText m w h.1 h.2)
  generalize bs (mtext m) = s at C I
  go_enter Tryz.func16, Tryz.ntmps16
  go_wp2_with fail
  refine (I.out _).mono ?_
  rintro e w1 ⟨rfl, hb1⟩
  have B1 := Lib.hid hb1
  clear hb1
  go_wp2_with fail
  refine (C.out _).mono ?_
  rintro e w2 ⟨rfl, hb2⟩
  have B2 := Lib.hid (B1.out.trans (hb2.mono B1.out.size))
  clear hb2
  go_wp2_with (go_at_call 23; refine (awake _).mono ?_; rintro e w' ⟨rfl, hb⟩)
  go_ret
  exact ⟨rfl, B2.out.trans (hb.mono B2.out.size)⟩
end Go.Proofs.YtmenkckgpiafiaaGreat
namespace Go.Proofs.YtmenkckgpiafiaaGreat
open Go.RowKit Go.ChangeShapes Go.WideShapes Go.Deep Go.Proofs.YtmenkckgpiafiaaGreatW.PrintWords
/-- The data of a Go type read as values of a kind, of which something is known. -/
structure Opn (P : Program) (t : TypeId) {α : Type} (d : Kd α) (G : α → Prop) : Prop where
  sz : P.cellsOf t = d.sz
  out : ∀ {H : Type} {enc : TypeId × Value → H} {w : World} {base : Nat} {sp : Nat → Bool} {held : Bool} {fuel : Nat} {cs : List Value} {x : DataW H × List MemPlace}, DataW.trod enc P w base sp held fuel t cs = some x → ∃ y, d.K w y cs ∧ G y
theorem Opn.iso {P : Program} {t : TypeId} {α β : Type} {d : Kd α} {G : α → Prop} (h : Opn P t d G) (f : β → α) (g : α → β) (hfg : ∀ a, f (g a) = a) : Opn P t (Kd.iso d f) (fun y => G (f y)) :=
  ⟨h.sz, fun hx => by
    obtain ⟨y, hK, hG⟩ := h.out hx
    refine ⟨g y, ?_, by rw [hfg]; exact hG⟩
    show d.K _ (f (g y)) _
    rw [hfg]
    exact hK⟩
theorem Opn.mono {P : Program} {t : TypeId} {α : Type} {d : Kd α} {G G' : α → Prop} (h : Opn P t d G) (hg : ∀ y, G y → G' y) : Opn P t d G' :=
  ⟨h.sz, fun hx => by
    obtain ⟨y, hK, hG⟩ := h.out hx
    exact ⟨y, hK, hg y hG⟩⟩
end Go.Proofs.YtmenkckgpiafiaaGreat
namespace Go.Proofs.YtmenkckgpiafiaaGreat
open Go.RowKit Go.Great Go.ChangeShapes Go.WideShapes Go.ChangeAt Go.Proofs.YtmenkckgpiafiaaGreatW.PrintWords Go.Proofs.YtmenkckgpiafiaaGreat.KK
open Go.ChangeMaps (open_string shut_string)
theorem mtx_own : ownKnob Tryz.prog.godebug = none := by kernel_rfl
set_option maxRecDepth 100000 in
theorem mtx_lifted (os : Os) (started : os.Started) (H : Type) (enc : TypeId × Value → H) :
    ReturnsInHanded {} Tryz.checked os 16 .any (Rows.fnModeTextSpec.pre6 enc Tryz.prog Tryz.f16 Rows.fnModeTextRow.domain false) (Rows.fnModeTextSpec.post enc Tryz.prog Tryz.f16 false true false false) := by
  refine returnsInHanded_of_change (C := Tryz.checked) mtx_own started (by kernel_rfl) Tryz.func16
    (ChangeSpec.witness6 (enc := enc) (C := Tryz.checked) false ⟨#[], #[.int .u32 0], []⟩ 8 (by kernel_rfl) (by kernel_rfl) (by kernel_rfl) (by kernel_rfl)) ?_
  intro W base args ds gs before hval0 hW hcnd _
  have hval : ∀ (j : Nat) t v, Tryz.f16.params[j]? = some t → args[j]? = some v → Value.okWide Tryz.prog W .any base t v := hval0
  have hW' := hW
  have hlt : ∀ x ∈ before, x.block < W.heap.size := fun x hx => hW.lt x hx
  obtain ⟨p, q, hA0, hV, rfl, hfz, hnd⟩ := hW
  have hA : DataW.TrodAll enc Tryz.prog W 0 (fun _ => true) true Tryz.f16.params.toList args.toList ds p := hA0
  rw [Tryz.params16] at hA hval
  obtain ⟨v0, vs0, d0, ds0, p0, q0, hargs, rfl, rfl, h0, r0⟩ := trodAll_cons hA
  obtain ⟨rfl, rfl, rfl⟩ := trodAll_nil r0
  obtain rfl : args = #[v0] := by cases args; simp_all
  obtain ⟨rfl, rfl⟩ := trodVars_none hV
  simp only [List.append_nil] at hW' hlt
  obtain ⟨a0, rfl, rfl, rfl, w0⟩ := open_int Tryz.underlying22 (hval 0 22 v0 rfl rfl) h0
  have g0 : 0 ≤ a0 ∧ a0 ≤ 4294967295 := by
    have h := w0
    simpa [Lit.wf, IntKind.min, IntKind.max, IntKind.signed, IntKind.bits] using h
  clear hA0 hval0
  refine (textLawK a0 W g0).mono fun e W' ⟨he, hg⟩ => ?_
  subst he
  exact ⟨_, rfl, post_of_below (pa := _) (pv := []) hW' (fun _ _ _ => (trodAll_cons_mk (shut_bool Tryz.underlying4 _) trodAll_mk0))
    (fun sp _ => trodAll_mk1 (shut_int Tryz.underlying22 w0)) (fun _ _ => rfl) (by simp)
    hg (ok_one (by kernel_rfl) rfl (okWide_bool_mk Tryz.underlying4 _))⟩
theorem mtx_named : Tryz.pinned.checked.prog.funcNamed Rows.fnModeTextRow.func = some 16 := by kernel_rfl
set_option maxHeartbeats 8000000 in
theorem mtx_facts : joinedFacts Tryz.pinned.checked.prog 16 Tryz.f16 Rows.fnModeTextSpec Rows.fnModeTextRow = true := by
  simp only [joinedFacts, Bool.and_eq_true]
  repeat' apply And.intro
  all_goals (as_aux_lemma => kernel_rfl)
theorem mtx_inst : Tryz.f16.isInstance Tryz.pinned.checked.prog Rows.fnModeTextRow.origin Rows.fnModeTextRow.targs := of_decide_eq_true (by kernel_rfl)
theorem mtx_wrap : Tryz.f16.isWrapper Tryz.pinned.checked.prog Rows.fnModeTextRow.wrapper Rows.fnModeTextRow.mainSum := by
  unfold Func.isWrapper
  rw [if_neg (by decide +kernel)]
  exact ⟨rfl, rfl⟩
/-- 'laws.FnModeText': whatever the input: true; the input reads as it did. -/
theorem mtx_holds : Rows.FnModeTextSaid :=
  OpenClaim.holds_of_wide 16 Tryz.f16 rfl rfl rfl rfl rfl rfl rfl ⟨rfl, rfl, rfl, rfl, rfl⟩ rfl rfl rfl rfl rfl mtx_named Tryz.func16 mtx_facts mtx_inst mtx_wrap
    (fun os started H enc _ => mtx_lifted os started H enc)
end Go.Proofs.YtmenkckgpiafiaaGreat
