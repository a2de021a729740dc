/-
  Contracts of the readers of numbers, years and months.
-/
import Derived.Test.YtdgmfkapglmlhaaGreatDoorFB
namespace Go.Proofs.YtdgmfkapglmlhaaGreatDoor
open Go.RowKit

theorem ext_drop (s : ByteArray) (k : Nat) : s.extract k s.size = bs ((tl s).drop k) := by
  apply tl_inj
  rw [tl_extract, tl_bs, List.take_of_length_le (by rw [tl_length]; omega)]
theorem ext_take (s : ByteArray) (k : Nat) : s.extract 0 k = bs ((tl s).take k) := by
  apply tl_inj
  rw [tl_extract, tl_bs, List.drop_zero]
theorem dig_lt {s : ByteArray} {i : Nat} (h : dig (tl s) i = true) : i < s.size := by
  unfold dig at h
  split at h
  · rename_i c hc
    have := (List.getElem?_eq_some_iff.1 hc).1
    rwa [tl_length] at this
  · cases h
theorem dig_at {s : ByteArray} {i : Nat} (h : dig (tl s) i = true) (hi : i < s.size) : 48 ≤ (s[i].toNat : Int) ∧ (s[i].toNat : Int) ≤ 57 := by
  unfold dig at h
  rw [tl_getElem s i hi] at h
  simp at h
  omega
theorem dv_at (s : ByteArray) (i : Nat) (hi : i < s.size) : dv (tl s) i = (s[i].toNat : Int) - 48 := by
  unfold dv
  rw [List.getD_eq_getElem?_getD, tl_getElem s i hi]
  rfl
theorem ret3 {v1 v2 v3 u1 u2 u3 : Value} (h1 : v1 = u1) (h2 : v2 = u2) (h3 : v3 = u3) : Ending.returned (.tuple #[v1, v2, v3]) = .returned (.tuple #[u1, u2, u3]) := by rw [h1, h2, h3]
theorem int_eq {k : IntKind} {a b : Int} (h : a = b) : Value.int k a = .int k b := by rw [h]
theorem str_eq {a b : ByteArray} (h : a = b) : Value.string a = .string b := by rw [h]

set_option maxHeartbeats 800000 in
theorem number_two (s : ByteArray) (two : Bool) (w : World) (hs : s.size ≤ 1000000000) (d0 : dig (tl s) 0 = true) (d1 : dig (tl s) 1 = true) :
    Calls Tryz.prog 73 #[.string s, .bool two] w fun e w' => e = .returned (.tuple #[.int .i64 (dv (tl s) 0 * 10 + dv (tl s) 1), .string (bs ((tl s).drop 2)), .bool true]) ∧ ∃ n, w' = w.drewN n := by
  have l1 := dig_lt d1
  have l0 : 0 < s.size := by omega
  obtain ⟨a0, b0⟩ := dig_at d0 l0
  obtain ⟨a1, b1⟩ := dig_at d1 l1
  have e0 := Lib.hid (dv_at s 0 l0)
  have e1 := Lib.hid (dv_at s 1 l1)
  have i1 : (1 : Int) < (s.size : Int) := by omega
  have i2 : (2 : Int) ≤ (s.size : Int) := by omega
  cases two
  all_goals
    go_enter Tryz.func73, Tryz.ntmps73
    go_wp2_with (go_at_call 75; refine (digit_any _ _ _ (by omega) (by omega) hs).mono ?_; rintro e w' ⟨rfl, rfl⟩)
    go_quiet (fail)
    go_wp2
    go_ret3
    exact ⟨ret3 (int_eq (by rw [e0.out, e1.out])) (str_eq (ext_drop s 2)) rfl, _, rfl⟩

set_option maxHeartbeats 800000 in
theorem number_one (s : ByteArray) (w : World) (hs : s.size ≤ 1000000000) (d0 : dig (tl s) 0 = true) (d1 : dig (tl s) 1 = false) :
    Calls Tryz.prog 73 #[.string s, .bool false] w fun e w' => e = .returned (.tuple #[.int .i64 (dv (tl s) 0), .string (bs ((tl s).drop 1)), .bool true]) ∧ ∃ n, w' = w.drewN n := by
  have l0 := dig_lt d0
  obtain ⟨a0, b0⟩ := dig_at d0 l0
  have e0 := Lib.hid (dv_at s 0 l0)
  have i1 : (1 : Int) ≤ (s.size : Int) := by omega
  go_enter Tryz.func73, Tryz.ntmps73
  go_wp2_with (go_at_call 75; refine (digit_any _ _ _ (by omega) (by omega) hs).mono ?_; rintro e w' ⟨rfl, rfl⟩)
  go_quiet (fail)
  go_wp2
  go_ret3
  exact ⟨ret3 (int_eq (by rw [e0.out])) (str_eq (ext_drop s 1)) rfl, _, rfl⟩

set_option maxHeartbeats 800000 in
theorem number_no (s : ByteArray) (two : Bool) (w : World) (hs : s.size ≤ 1000000000) (d0 : dig (tl s) 0 = false) :
    Calls Tryz.prog 73 #[.string s, .bool two] w fun e w' => e = .returned (.tuple #[.int .i64 0, .string s, .bool false]) ∧ w = w' := by
  go_enter Tryz.func73, Tryz.ntmps73
  go_wp2_with (go_at_call 75; refine (digit_any _ _ _ (by omega) (by omega) hs).mono ?_; rintro e w' ⟨rfl, rfl⟩)
  go_ret3
  exact ⟨rfl, rfl⟩

/-- A number that is one. -/
theorem number_any (s : ByteArray) (two : Bool) (v : Int) (r : List UInt8) (w : World) (hs : s.size ≤ 1000000000) (h : num2 two (tl s) = some (v, r)) :
    Calls Tryz.prog 73 #[.string s, .bool two] w fun e w' => e = .returned (.tuple #[.int .i64 v, .string (bs r), .bool true]) ∧ ∃ n, w' = w.drewN n := by
  unfold num2 at h
  cases d0 : dig (tl s) 0
  · simp [d0] at h
  · cases d1 : dig (tl s) 1
    · cases two
      · simp only [d0, d1, if_true, Bool.false_eq_true, if_false] at h
        obtain ⟨rfl, rfl⟩ := Prod.mk.inj (Option.some.inj h)
        exact number_one s w hs d0 d1
      · simp [d0, d1] at h
    · simp only [d0, d1, if_true] at h
      obtain ⟨rfl, rfl⟩ := Prod.mk.inj (Option.some.inj h)
      exact number_two s two w hs d0 d1

set_option maxHeartbeats 1000000 in
theorem year_four (s : ByteArray) (w : World) (hs : s.size ≤ 1000000000) (d0 : dig (tl s) 0 = true) (d1 : dig (tl s) 1 = true) (d2 : dig (tl s) 2 = true) (d3 : dig (tl s) 3 = true) :
    Calls Tryz.prog 72 #[.string s, .int .i64 4] w fun e w' => e = .returned (.tuple #[.int .i64 (dv (tl s) 0 * 1000 + dv (tl s) 1 * 100 + dv (tl s) 2 * 10 + dv (tl s) 3), .string (bs ((tl s).drop 4)), .bool true]) ∧ ∃ n, w' = w.drewN n := by
  have l3 := dig_lt d3
  have l0 : 0 < s.size := by omega
  obtain ⟨a0, b0⟩ := dig_at d0 l0
  have i1 : (4 : Int) ≤ (s.size : Int) := by omega
  have n1 : ((s[0].toNat : Int) == 45) = false := by simp; omega
  have n2 : ((s[0].toNat : Int) == 43) = false := by simp; omega
  go_enter Tryz.func72, Tryz.ntmps72
  go_wp2_with (go_at_call 75; refine (digit_any _ _ _ (by omega) (by omega) hs).mono ?_; rintro e w' ⟨rfl, rfl⟩)
  go_loop [7, 10] (fun y i => ∃ k : Nat, k ≤ 4 ∧ i = .int .i64 k ∧ y = .int .i64 (if k = 0 then 0 else if k = 1 then dv (tl s) 0 else if k = 2 then dv (tl s) 0 * 10 + dv (tl s) 1 else if k = 3 then dv (tl s) 0 * 100 + dv (tl s) 1 * 10 + dv (tl s) 2 else dv (tl s) 0 * 1000 + dv (tl s) 1 * 100 + dv (tl s) 2 * 10 + dv (tl s) 3)) (fun _ i => 4 - (intOf i).toNat)
  case atStart => exact ⟨0, by omega, rfl, rfl⟩
  case round =>
    obtain ⟨k, hk, rfl, rfl⟩ := hrel
    by_cases hlt : k < 4
    · have hdk : dig (tl s) k = true := by
        rcases (by omega : k = 0 ∨ k = 1 ∨ k = 2 ∨ k = 3) with rfl | rfl | rfl | rfl <;> assumption
      have lk := dig_lt hdk
      obtain ⟨ak, bk⟩ := dig_at hdk lk
      have ek := Lib.hid (dv_at s k lk)
      have r0 := dv_range d0
      have r1 := dv_range d1
      have r2 := dv_range d2
      generalize hg : (if k = 0 then (0 : Int) else if k = 1 then dv (tl s) 0 else if k = 2 then dv (tl s) 0 * 10 + dv (tl s) 1 else if k = 3 then dv (tl s) 0 * 100 + dv (tl s) 1 * 10 + dv (tl s) 2 else dv (tl s) 0 * 1000 + dv (tl s) 1 * 100 + dv (tl s) 2 * 10 + dv (tl s) 3) = Y
      have hY : 0 ≤ Y ∧ Y ≤ 999 := by
        rcases (by omega : k = 0 ∨ k = 1 ∨ k = 2 ∨ k = 3) with rfl | rfl | rfl | rfl <;> simp at hg <;> omega
      have HG := Lib.hid hg
      clear hg
      go_wp2_with (go_at_call 75; refine (digit_any _ _ _ (by omega) (by omega) hs).mono ?_; rintro e w' ⟨rfl, rfl⟩)
      go_round
      case rel =>
        refine ⟨k + 1, by omega, by go_num, int_eq ?_⟩
        have hg := HG.out
        have he := ek.out
        rcases (by omega : k = 0 ∨ k = 1 ∨ k = 2 ∨ k = 3) with rfl | rfl | rfl | rfl <;> simp at hg ⊢ <;> omega
      case measure => simp [intOf]; omega
    · obtain rfl : k = 4 := by omega
      go_wp2
      go_quiet (fail)
      go_wp2
      go_ret3
      exact ⟨ret3 rfl (str_eq (ext_drop s 4)) rfl, _, rfl⟩

set_option maxHeartbeats 1000000 in
theorem year_two (s : ByteArray) (w : World) (hs : s.size ≤ 1000000000) (v : Int) (r : List UInt8) (h : yr2 (tl s) = some (v, r)) :
    Calls Tryz.prog 72 #[.string s, .int .i64 2] w fun e w' => e = .returned (.tuple #[.int .i64 v, .string (bs r), .bool true]) ∧ ∃ n, w' = w.drewN n := by
  unfold yr2 at h
  cases d0 : dig (tl s) 0
  · simp [d0] at h
  · cases d1 : dig (tl s) 1
    · simp [d1] at h
    · simp only [d0, d1, Bool.and_self, if_true] at h
      have l1 := dig_lt d1
      have l0 : 0 < s.size := by omega
      obtain ⟨a0, b0⟩ := dig_at d0 l0
      have i1 : (2 : Int) ≤ (s.size : Int) := by omega
      have n1 : ((s[0].toNat : Int) == 45) = false := by simp; omega
      have n2 : ((s[0].toNat : Int) == 43) = false := by simp; omega
      have r0 := dv_range d0
      have r1 := dv_range d1
      have HH := Lib.hid h
      clear h
      go_enter Tryz.func72, Tryz.ntmps72
      go_wp2_with (go_at_call 75; refine (digit_any _ _ _ (by omega) (by omega) hs).mono ?_; rintro e w' ⟨rfl, rfl⟩)
      go_loop [7, 10] (fun y i => ∃ k : Nat, k ≤ 2 ∧ i = .int .i64 k ∧ y = .int .i64 (if k = 0 then 0 else if k = 1 then dv (tl s) 0 else dv (tl s) 0 * 10 + dv (tl s) 1)) (fun _ i => 2 - (intOf i).toNat)
      case atStart => exact ⟨0, by omega, rfl, rfl⟩
      case round =>
        obtain ⟨k, hk, rfl, rfl⟩ := hrel
        by_cases hlt : k < 2
        · have hdk : dig (tl s) k = true := by
            rcases (by omega : k = 0 ∨ k = 1) with rfl | rfl <;> assumption
          have lk := dig_lt hdk
          obtain ⟨ak, bk⟩ := dig_at hdk lk
          have ek := Lib.hid (dv_at s k lk)
          generalize hg : (if k = 0 then (0 : Int) else if k = 1 then dv (tl s) 0 else dv (tl s) 0 * 10 + dv (tl s) 1) = Y
          have hY : 0 ≤ Y ∧ Y ≤ 999 := by
            rcases (by omega : k = 0 ∨ k = 1) with rfl | rfl <;> simp at hg <;> omega
          have HG := Lib.hid hg
          clear hg
          go_wp2_with (go_at_call 75; refine (digit_any _ _ _ (by omega) (by omega) hs).mono ?_; rintro e w' ⟨rfl, rfl⟩)
          go_round
          case rel =>
            refine ⟨k + 1, by omega, by go_num, int_eq ?_⟩
            have hg := HG.out
            have he := ek.out
            rcases (by omega : k = 0 ∨ k = 1) with rfl | rfl <;> simp at hg ⊢ <;> omega
          case measure => simp [intOf]; omega
        · obtain rfl : k = 2 := by omega
          have hh := HH.out
          clear HH
          by_cases c : 69 ≤ dv (tl s) 0 * 10 + dv (tl s) 1
          · rw [if_pos c] at hh
            obtain ⟨rfl, rfl⟩ := Prod.mk.inj (Option.some.inj hh)
            clear hh
            go_wp2
            go_quiet (fail)
            go_wp2
            go_ret3
            exact ⟨ret3 rfl (str_eq (ext_drop s 2)) rfl, _, rfl⟩
          · rw [if_neg c] at hh
            obtain ⟨rfl, rfl⟩ := Prod.mk.inj (Option.some.inj hh)
            clear hh
            go_wp2
            go_quiet (fail)
            go_wp2
            go_ret3
            exact ⟨ret3 rfl (str_eq (ext_drop s 2)) rfl, _, rfl⟩

theorem year_Y (s : ByteArray) (w : World) (hs : s.size ≤ 1000000000) (v : Int) (r : List UInt8) (h : yr4 (tl s) = some (v, r)) :
    Calls Tryz.prog 72 #[.string s, .int .i64 4] w fun e w' => e = .returned (.tuple #[.int .i64 v, .string (bs r), .bool true]) ∧ ∃ n, w' = w.drewN n := by
  unfold yr4 at h
  split at h
  · rename_i hd
    simp only [Bool.and_eq_true] at hd
    obtain ⟨⟨⟨d0, d1⟩, d2⟩, d3⟩ := hd
    obtain ⟨rfl, rfl⟩ := Prod.mk.inj (Option.some.inj h)
    exact year_four s w hs d0 d1 d2 d3
  · cases h
theorem num2_dig {two : Bool} {l r : List UInt8} {v : Int} (h : num2 two l = some (v, r)) : dig l 0 = true := by
  unfold num2 at h
  split at h
  · assumption
  · cases h
theorem ne_empty {s : ByteArray} (h : 0 < s.size) : s.toList.isEmpty = false := by
  rw [ByteArray.toList_eq]
  cases hh : s.data.toList with
  | nil =>
    have := tl_length s
    rw [show tl s = s.data.toList from rfl, hh] at this
    simp at this
    omega
  | cons c t => rfl
end Go.Proofs.YtdgmfkapglmlhaaGreatDoor
