/-
  Plain words: strings as lists of bytes, and what the readers of numbers and times compute. No program in sight.
-/
import Derived.WalkKit
namespace Go.Proofs.YtdgmfkapglmlhaaGreatDoor
open Go.RowKit

/-- A string's bytes, and back. -/
def tl (s : ByteArray) : List UInt8 := s.data.toList
def bs (l : List UInt8) : ByteArray := ⟨l.toArray⟩
theorem tl_bs (l : List UInt8) : tl (bs l) = l := rfl
theorem bs_tl (s : ByteArray) : bs (tl s) = s := rfl
theorem tl_length (s : ByteArray) : (tl s).length = s.size := by rw [tl, Array.length_toList]; rfl
theorem size_bs (l : List UInt8) : (bs l).size = l.length := by rw [← tl_length, tl_bs]
theorem tl_inj {s t : ByteArray} (h : tl s = tl t) : s = t := by rw [← bs_tl s, ← bs_tl t, h]
theorem tl_getElem (s : ByteArray) (i : Nat) (h : i < s.size) : (tl s)[i]? = some s[i] := by
  unfold tl
  rw [Array.getElem?_toList, Array.getElem?_eq_getElem (by exact h)]
  rfl
theorem tl_extract (s : ByteArray) (a b : Nat) : tl (s.extract a b) = ((tl s).take b).drop a := by
  unfold tl
  simp [ByteArray.data_extract, Array.toList_extract, List.extract_eq_take_drop, List.drop_take]
theorem tl_append (s t : ByteArray) : tl (s ++ t) = tl s ++ tl t := by
  unfold tl
  simp [ByteArray.data_append]

/-- Where a text begins first in another; -1: nowhere. -/
def idx (sub : List UInt8) : List UInt8 → Int
  | [] => if sub.isPrefixOf [] then 0 else -1
  | c :: t => if sub.isPrefixOf (c :: t) then 0 else if idx sub t < 0 then -1 else idx sub t + 1

/-- Is there a digit at a place; which. -/
def dig (l : List UInt8) (i : Nat) : Bool := match l[i]? with
  | some c => decide (48 ≤ c.toNat ∧ c.toNat ≤ 57)
  | none => false
def dv (l : List UInt8) (i : Nat) : Int := ((l.getD i 0).toNat : Int) - 48

/-- A number of two digits, or of one where it need not be two: and what is left. -/
def num2 (two : Bool) (l : List UInt8) : Option (Int × List UInt8) :=
  if dig l 0 then
    if dig l 1 then some (dv l 0 * 10 + dv l 1, l.drop 2)
    else if two then none else some (dv l 0, l.drop 1)
  else none
theorem dv_range {l : List UInt8} {i : Nat} (h : dig l i = true) : 0 ≤ dv l i ∧ dv l i ≤ 9 := by
  unfold dig at h
  unfold dv
  split at h
  · rename_i c hc
    rw [List.getD_eq_getElem?_getD, hc]
    simp at h ⊢
    omega
  · cases h
theorem num2_range {two : Bool} {l r : List UInt8} {v : Int} (h : num2 two l = some (v, r)) : 0 ≤ v ∧ v ≤ 99 ∧ r.length ≤ l.length := by
  unfold num2 at h
  split at h
  · rename_i h0
    have r0 := dv_range h0
    split at h
    · rename_i h1
      have r1 := dv_range h1
      obtain ⟨rfl, rfl⟩ := Prod.mk.inj (Option.some.inj h)
      simp
      omega
    · split at h
      · cases h
      · obtain ⟨rfl, rfl⟩ := Prod.mk.inj (Option.some.inj h)
        simp
        omega
  · cases h
/-- A year of four digits. -/
def yr4 (l : List UInt8) : Option (Int × List UInt8) :=
  if dig l 0 && dig l 1 && dig l 2 && dig l 3 then some (dv l 0 * 1000 + dv l 1 * 100 + dv l 2 * 10 + dv l 3, l.drop 4) else none
/-- A year of two digits. -/
def yr2 (l : List UInt8) : Option (Int × List UInt8) :=
  if dig l 0 && dig l 1 then
    if 69 ≤ dv l 0 * 10 + dv l 1 then some (dv l 0 * 10 + dv l 1 + 1900, l.drop 2) else some (dv l 0 * 10 + dv l 1 + 2000, l.drop 2)
  else none
theorem yr4_range {l r : List UInt8} {v : Int} (h : yr4 l = some (v, r)) : 0 ≤ v ∧ v ≤ 9999 ∧ r.length ≤ l.length := by
  unfold yr4 at h
  split at h
  · rename_i hh
    simp only [Bool.and_eq_true] at hh
    obtain ⟨⟨⟨h0, h1⟩, h2⟩, h3⟩ := hh
    have r0 := dv_range h0
    have r1 := dv_range h1
    have r2 := dv_range h2
    have r3 := dv_range h3
    obtain ⟨rfl, rfl⟩ := Prod.mk.inj (Option.some.inj h)
    simp
    omega
  · cases h
theorem yr2_range {l r : List UInt8} {v : Int} (h : yr2 l = some (v, r)) : 0 ≤ v ∧ v ≤ 9999 ∧ r.length ≤ l.length := by
  unfold yr2 at h
  split at h
  · rename_i hh
    simp only [Bool.and_eq_true] at hh
    obtain ⟨h0, h1⟩ := hh
    have r0 := dv_range h0
    have r1 := dv_range h1
    split at h
    all_goals
      obtain ⟨rfl, rfl⟩ := Prod.mk.inj (Option.some.inj h)
      simp
      omega
  · cases h

/-- Leap years; the days of a month; the days before a date, counted from the first of January of the year 1. -/
def leap (y : Int) : Bool := decide (y % 4 = 0) && (!decide (y % 100 = 0) || decide (y % 400 = 0))
def mdays (m y : Int) : Int := if m = 2 then (if leap y then 29 else 28) else if m = 4 ∨ m = 6 ∨ m = 9 ∨ m = 11 then 30 else 31
theorem mdays_range (m y : Int) : 28 ≤ mdays m y ∧ mdays m y ≤ 31 := by unfold mdays; (repeat' split) <;> omega
/-- The days of the first n months. -/
def msum (y : Int) : Nat → Int
  | 0 => 0
  | n + 1 => msum y n + mdays ((n : Int) + 1) y
theorem msum_range (y : Int) : ∀ n, 0 ≤ msum y n ∧ msum y n ≤ 31 * (n : Int)
  | 0 => by simp [msum]
  | n + 1 => by
    have := msum_range y n
    have := mdays_range ((n : Int) + 1) y
    simp only [msum]
    omega
def ydays (y : Int) : Int := 365 * (y - 1) + (y - 1) / 4 - (y - 1) / 100 + (y - 1) / 400
/-- The days before a date; months from 1 to 24. -/
def dbefore (y m d : Int) : Int := ydays (y + (m - 1) / 12) + msum (y + (m - 1) / 12) ((m - 1) % 12).toNat + d - 1
end Go.Proofs.YtdgmfkapglmlhaaGreatDoor
