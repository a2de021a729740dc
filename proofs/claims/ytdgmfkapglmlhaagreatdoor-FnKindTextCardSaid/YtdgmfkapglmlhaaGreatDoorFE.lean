/-
  Times by a layout's signs: the plain fold.
-/
import Derived.Test.YtdgmfkapglmlhaaGreatDoorFD
namespace Go.Proofs.YtdgmfkapglmlhaaGreatDoor
open Go.RowKit

/-- What has been read of a time, and what is left of the text. -/
structure PT where
  (y mo d h mi sec : Int)
  (pm am : Bool)
  s : List UInt8
def pt0 (l : List UInt8) : PT := ⟨1, 1, 1, 0, 0, 0, false, false, l⟩
/-- The month (from 0) that three letters tell. -/
def monF (l : List UInt8) : Option Nat := if 3 ≤ l.length then (List.range 12).find? (fun k => monN l k 3) else none
theorem monF_spec {l : List UInt8} {m : Nat} (h : monF l = some m) : 3 ≤ l.length ∧ m ≤ 11 ∧ monN l m 3 = true ∧ ∀ k, k < m → monN l k 3 = false := by
  unfold monF at h
  split at h
  · rename_i h3
    rw [List.find?_range_eq_some] at h
    obtain ⟨h1, h2, h4⟩ := h
    refine ⟨h3, ?_, h1, fun k hk => by simpa using h4 k hk⟩
    simp at h2
    omega
  · cases h
/-- One sign of a layout. -/
def step (c : UInt8) (p : PT) : Option PT :=
  if c = 89 then (yr4 p.s).map fun x => { p with y := x.1, s := x.2 }
  else if c = 121 then (yr2 p.s).map fun x => { p with y := x.1, s := x.2 }
  else if c = 77 then (num2 true p.s).bind fun x => if 1 ≤ x.1 ∧ x.1 ≤ 12 then some { p with mo := x.1, s := x.2 } else none
  else if c = 109 then (monF p.s).map fun (m : Nat) => { p with mo := (m : Int) + 1, s := p.s.drop 3 }
  else if c = 68 then (num2 true p.s).map fun x => { p with d := x.1, s := x.2 }
  else if c = 100 then (num2 false p.s).map fun x => { p with d := x.1, s := x.2 }
  else if c = 72 then (num2 false p.s).bind fun x => if x.1 < 24 then some { p with h := x.1, s := x.2 } else none
  else if c = 104 then (num2 true p.s).bind fun x => if x.1 ≤ 12 then some { p with h := x.1, s := x.2 } else none
  else if c = 78 then (num2 true p.s).bind fun x => if x.1 < 60 then some { p with mi := x.1, s := x.2 } else none
  else if c = 83 then (num2 true p.s).bind fun x => if x.1 < 60 ∧ x.2.length < 2 then some { p with sec := x.1, s := x.2 } else none
  else if c = 80 then
    if p.s.take 2 = [80, 77] then some { p with pm := true, am := false, s := p.s.drop 2 }
    else if p.s.take 2 = [65, 77] then some { p with pm := false, am := true, s := p.s.drop 2 } else none
  else if c = 32 then if p.s.head? = some 32 then some { p with s := p.s.dropWhile (· == 32) } else none
  else if c = 45 ∨ c = 58 then if p.s.head? = some c then some { p with s := p.s.drop 1 } else none
  else none
def steps : List UInt8 → PT → Option PT
  | [], p => some p
  | c :: t, p => (step c p).bind (steps t)
theorem step_signs {c : UInt8} {p q : PT} (h : step c p = some q) : c = 89 ∨ c = 121 ∨ c = 77 ∨ c = 109 ∨ c = 68 ∨ c = 100 ∨ c = 72 ∨ c = 104 ∨ c = 78 ∨ c = 83 ∨ c = 80 ∨ c = 32 ∨ c = 45 ∨ c = 58 := by
  unfold step at h
  by_cases h1 : c = 89
  · exact .inl h1
  by_cases h2 : c = 121
  · simp [h2]
  by_cases h3 : c = 77
  · simp [h3]
  by_cases h4 : c = 109
  · simp [h4]
  by_cases h5 : c = 68
  · simp [h5]
  by_cases h6 : c = 100
  · simp [h6]
  by_cases h7 : c = 72
  · simp [h7]
  by_cases h8 : c = 104
  · simp [h8]
  by_cases h9 : c = 78
  · simp [h9]
  by_cases h10 : c = 83
  · simp [h10]
  by_cases h11 : c = 80
  · simp [h11]
  by_cases h12 : c = 32
  · simp [h12]
  by_cases h13 : c = 45
  · simp [h13]
  by_cases h14 : c = 58
  · simp [h14]
  · simp [h1, h2, h3, h4, h5, h6, h7, h8, h9, h10, h11, h12, h13, h14] at h
/-- The hour by AM and PM. -/
def hour (p : PT) : Int := if p.pm ∧ p.h < 12 then p.h + 12 else if p.am ∧ p.h = 12 then 0 else p.h
/-- The seconds since the first of January of the year 1. -/
def PT.secs (p : PT) : Int := dbefore p.y p.mo p.d * 86400 + (hour p * 3600 + p.mi * 60 + p.sec)
theorem step_Y {p q : PT} (h : step 89 p = some q) : ∃ v r, yr4 p.s = some (v, r) ∧ q = { p with y := v, s := r } := by
  change (yr4 p.s).map (fun x => { p with y := x.1, s := x.2 }) = some q at h
  obtain ⟨⟨v, r⟩, hv, rfl⟩ := Option.map_eq_some_iff.1 h
  exact ⟨v, r, hv, rfl⟩
theorem step_y {p q : PT} (h : step 121 p = some q) : ∃ v r, yr2 p.s = some (v, r) ∧ q = { p with y := v, s := r } := by
  change (yr2 p.s).map (fun x => { p with y := x.1, s := x.2 }) = some q at h
  obtain ⟨⟨v, r⟩, hv, rfl⟩ := Option.map_eq_some_iff.1 h
  exact ⟨v, r, hv, rfl⟩
theorem step_M {p q : PT} (h : step 77 p = some q) : ∃ v r, num2 true p.s = some (v, r) ∧ (1 ≤ v ∧ v ≤ 12) ∧ q = { p with mo := v, s := r } := by
  change (num2 true p.s).bind (fun x => if 1 ≤ x.1 ∧ x.1 ≤ 12 then some { p with mo := x.1, s := x.2 } else none) = some q at h
  obtain ⟨⟨v, r⟩, hv, h⟩ := Option.bind_eq_some_iff.1 h
  dsimp only at h
  split at h
  · rename_i hc
    exact ⟨v, r, hv, hc, (Option.some.inj h).symm⟩
  · cases h
theorem step_D {p q : PT} (h : step 68 p = some q) : ∃ v r, num2 true p.s = some (v, r) ∧ q = { p with d := v, s := r } := by
  change (num2 true p.s).map (fun x => { p with d := x.1, s := x.2 }) = some q at h
  obtain ⟨⟨v, r⟩, hv, rfl⟩ := Option.map_eq_some_iff.1 h
  exact ⟨v, r, hv, rfl⟩
theorem step_d {p q : PT} (h : step 100 p = some q) : ∃ v r, num2 false p.s = some (v, r) ∧ q = { p with d := v, s := r } := by
  change (num2 false p.s).map (fun x => { p with d := x.1, s := x.2 }) = some q at h
  obtain ⟨⟨v, r⟩, hv, rfl⟩ := Option.map_eq_some_iff.1 h
  exact ⟨v, r, hv, rfl⟩
theorem step_H {p q : PT} (h : step 72 p = some q) : ∃ v r, num2 false p.s = some (v, r) ∧ (v < 24) ∧ q = { p with h := v, s := r } := by
  change (num2 false p.s).bind (fun x => if x.1 < 24 then some { p with h := x.1, s := x.2 } else none) = some q at h
  obtain ⟨⟨v, r⟩, hv, h⟩ := Option.bind_eq_some_iff.1 h
  dsimp only at h
  split at h
  · rename_i hc
    exact ⟨v, r, hv, hc, (Option.some.inj h).symm⟩
  · cases h
theorem step_h {p q : PT} (h : step 104 p = some q) : ∃ v r, num2 true p.s = some (v, r) ∧ (v ≤ 12) ∧ q = { p with h := v, s := r } := by
  change (num2 true p.s).bind (fun x => if x.1 ≤ 12 then some { p with h := x.1, s := x.2 } else none) = some q at h
  obtain ⟨⟨v, r⟩, hv, h⟩ := Option.bind_eq_some_iff.1 h
  dsimp only at h
  split at h
  · rename_i hc
    exact ⟨v, r, hv, hc, (Option.some.inj h).symm⟩
  · cases h
theorem step_N {p q : PT} (h : step 78 p = some q) : ∃ v r, num2 true p.s = some (v, r) ∧ (v < 60) ∧ q = { p with mi := v, s := r } := by
  change (num2 true p.s).bind (fun x => if x.1 < 60 then some { p with mi := x.1, s := x.2 } else none) = some q at h
  obtain ⟨⟨v, r⟩, hv, h⟩ := Option.bind_eq_some_iff.1 h
  dsimp only at h
  split at h
  · rename_i hc
    exact ⟨v, r, hv, hc, (Option.some.inj h).symm⟩
  · cases h
theorem step_S {p q : PT} (h : step 83 p = some q) : ∃ v r, num2 true p.s = some (v, r) ∧ (v < 60 ∧ r.length < 2) ∧ q = { p with sec := v, s := r } := by
  change (num2 true p.s).bind (fun x => if x.1 < 60 ∧ x.2.length < 2 then some { p with sec := x.1, s := x.2 } else none) = some q at h
  obtain ⟨⟨v, r⟩, hv, h⟩ := Option.bind_eq_some_iff.1 h
  dsimp only at h
  split at h
  · rename_i hc
    exact ⟨v, r, hv, hc, (Option.some.inj h).symm⟩
  · cases h
theorem step_m {p q : PT} (h : step 109 p = some q) : ∃ m, monF p.s = some m ∧ q = { p with mo := (m : Int) + 1, s := p.s.drop 3 } := by
  change (monF p.s).map (fun (m : Nat) => { p with mo := (m : Int) + 1, s := p.s.drop 3 }) = some q at h
  obtain ⟨m, hv, rfl⟩ := Option.map_eq_some_iff.1 h
  exact ⟨m, hv, rfl⟩
theorem step_P {p q : PT} (h : step 80 p = some q) : (p.s.take 2 = [80, 77] ∧ q = { p with pm := true, am := false, s := p.s.drop 2 }) ∨ (p.s.take 2 = [65, 77] ∧ q = { p with pm := false, am := true, s := p.s.drop 2 }) := by
  change (if p.s.take 2 = [80, 77] then some { p with pm := true, am := false, s := p.s.drop 2 } else if p.s.take 2 = [65, 77] then some { p with pm := false, am := true, s := p.s.drop 2 } else none) = some q at h
  split at h
  · rename_i hc
    exact .inl ⟨hc, (Option.some.inj h).symm⟩
  · split at h
    · rename_i hc
      exact .inr ⟨hc, (Option.some.inj h).symm⟩
    · cases h
theorem step_blank {p q : PT} (h : step 32 p = some q) : p.s.head? = some 32 ∧ q = { p with s := p.s.dropWhile (· == 32) } := by
  change (if p.s.head? = some 32 then some { p with s := p.s.dropWhile (· == 32) } else none) = some q at h
  split at h
  · rename_i hc
    exact ⟨hc, (Option.some.inj h).symm⟩
  · cases h
theorem step_dash {p q : PT} (h : step 45 p = some q) : p.s.head? = some 45 ∧ q = { p with s := p.s.drop 1 } := by
  change (if p.s.head? = some 45 then some { p with s := p.s.drop 1 } else none) = some q at h
  split at h
  · rename_i hc
    exact ⟨hc, (Option.some.inj h).symm⟩
  · cases h
theorem step_colon {p q : PT} (h : step 58 p = some q) : p.s.head? = some 58 ∧ q = { p with s := p.s.drop 1 } := by
  change (if p.s.head? = some 58 then some { p with s := p.s.drop 1 } else none) = some q at h
  split at h
  · rename_i hc
    exact ⟨hc, (Option.some.inj h).symm⟩
  · cases h
end Go.Proofs.YtdgmfkapglmlhaaGreatDoor
