/-
  Contracts of the small readers: digit, floor, leap, daysIn, daysBefore, number.
-/
import Derived.Test.YtdgmfkapglmlhaaGreatDoorRows
import Derived.Test.YtdgmfkapglmlhaaGreatDoorFA
import Derived.WalkSpells
import Derived.WalkLawsBesides
import Derived.Lib.Hide
import Derived.Deep.QuietTactic
import Derived.BigQuiet
import Derived.IntWalk
import Derived.Outline
namespace Go.Proofs.YtdgmfkapglmlhaaGreatDoor
open Go.RowKit

theorem ret_int {k : IntKind} {a b : Int} (h : a = b) : Ending.returned (.int k a) = .returned (.int k b) := by rw [h]

set_option maxHeartbeats 400000 in
theorem digit_any (s : ByteArray) (i : Int) (w : World) (h0 : 0 ≤ i) (h1 : i ≤ 1000000000) (hs : s.size ≤ 1000000000) :
    Calls Tryz.prog 75 #[.string s, .int .i64 i] w fun e w' => e = .returned (.bool (dig (tl s) i.toNat)) ∧ w = w' := by
  obtain ⟨k, rfl⟩ := Int.eq_ofNat_of_zero_le h0
  rw [Int.toNat_natCast]
  by_cases hk : k < s.size
  · have hg := tl_getElem s k hk
    have hd : dig (tl s) k = decide (48 ≤ s[k].toNat ∧ s[k].toNat ≤ 57) := by unfold dig; rw [hg]
    clear hg
    have HD := Lib.hid hd
    clear hd
    by_cases c1 : 48 ≤ (s[k].toNat : Int)
    · by_cases c2 : (s[k].toNat : Int) ≤ 57
      · go_enter Tryz.func75, Tryz.ntmps75
        go_wp2
        go_ret
        exact ⟨by rw [HD.out]; congr 2; simp; omega, rfl⟩
      · go_enter Tryz.func75, Tryz.ntmps75
        go_wp2
        go_ret
        exact ⟨by rw [HD.out]; congr 2; simp; omega, rfl⟩
    · go_enter Tryz.func75, Tryz.ntmps75
      go_wp2
      go_ret
      exact ⟨by rw [HD.out]; congr 2; simp; omega, rfl⟩
  · have hd : dig (tl s) k = false := by
      unfold dig
      rw [List.getElem?_eq_none (by rw [tl_length]; omega)]
    rw [hd]
    clear hd
    go_enter Tryz.func75, Tryz.ntmps75
    go_wp2
    go_ret
    exact ⟨rfl, rfl⟩

set_option maxHeartbeats 400000 in
theorem floor_any (a b : Int) (w : World) (ha : 0 ≤ a) (ha2 : a ≤ 1000000000000000) (hb : 1 ≤ b) (hb2 : b ≤ 1000000) :
    Calls Tryz.prog 90 #[.int .i64 a, .int .i64 b] w fun e w' => e = .returned (.int .i64 (a / b)) ∧ w = w' := by
  have h0 : decide (a % b < 0) = false := by simp; have := Int.emod_nonneg a (show b ≠ 0 by omega); omega
  go_enter Tryz.func90, Tryz.ntmps90
  go_wp2
  go_ret
  exact ⟨rfl, rfl⟩

set_option maxHeartbeats 400000 in
theorem leap_any (y : Int) (w : World) (h0 : 0 ≤ y) (h1 : y ≤ 1000000) :
    Calls Tryz.prog 92 #[.int .i64 y] w fun e w' => e = .returned (.bool (leap y)) ∧ w = w' := by
  by_cases c1 : y % 4 = 0
  · by_cases c2 : y % 100 = 0
    · by_cases c3 : y % 400 = 0
      · have e : leap y = true := by simp [leap, c1, c2, c3]
        rw [e]; clear e
        have b1 : (y % 4 == 0) = true := by simp [c1]
        have b2 : (y % 100 != 0) = false := by simp [c2]
        have b3 : (y % 400 == 0) = true := by simp [c3]
        clear c1 c2 c3
        go_enter Tryz.func92, Tryz.ntmps92
        go_wp2
        go_ret
        exact ⟨rfl, rfl⟩
      · have e : leap y = false := by simp [leap, c1, c2, c3]
        rw [e]; clear e
        have b1 : (y % 4 == 0) = true := by simp [c1]
        have b2 : (y % 100 != 0) = false := by simp [c2]
        have b3 : (y % 400 == 0) = false := by simp [c3]
        clear c1 c2 c3
        go_enter Tryz.func92, Tryz.ntmps92
        go_wp2
        go_ret
        exact ⟨rfl, rfl⟩
    · have e : leap y = true := by simp [leap, c1, c2]
      rw [e]; clear e
      have b1 : (y % 4 == 0) = true := by simp [c1]
      have b2 : (y % 100 != 0) = true := by simp [c2]
      clear c1 c2
      go_enter Tryz.func92, Tryz.ntmps92
      go_wp2
      go_ret
      exact ⟨rfl, rfl⟩
  · have e : leap y = false := by simp [leap, c1]
    rw [e]; clear e
    have b1 : (y % 4 == 0) = false := by simp [c1]
    clear c1
    go_enter Tryz.func92, Tryz.ntmps92
    go_wp2
    go_ret
    exact ⟨rfl, rfl⟩

set_option maxHeartbeats 400000 in
theorem daysIn_any (m y : Int) (w : World) (h0 : 0 ≤ y) (h1 : y ≤ 1000000) :
    Calls Tryz.prog 76 #[.int .i64 m, .int .i64 y] w fun e w' => e = .returned (.int .i64 (mdays m y)) ∧ w = w' := by
  by_cases c2 : m = 2
  · subst c2
    cases hl : leap y
    · have e : mdays 2 y = 28 := by simp [mdays, hl]
      rw [e]; clear e
      go_enter Tryz.func76, Tryz.ntmps76
      go_wp2_with (go_at_call 92; refine (leap_any _ _ h0 h1).mono ?_; rintro e w' ⟨rfl, rfl⟩)
      go_ret
      exact ⟨rfl, rfl⟩
    · have e : mdays 2 y = 29 := by simp [mdays, hl]
      rw [e]; clear e
      go_enter Tryz.func76, Tryz.ntmps76
      go_wp2_with (go_at_call 92; refine (leap_any _ _ h0 h1).mono ?_; rintro e w' ⟨rfl, rfl⟩)
      go_ret
      exact ⟨rfl, rfl⟩
  · have b2 : (m == 2) = false := by simp [c2]
    by_cases c4 : m = 4
    · subst c4
      go_enter Tryz.func76, Tryz.ntmps76
      go_wp2
      go_ret
      exact ⟨rfl, rfl⟩
    · have b4 : (m == 4) = false := by simp [c4]
      by_cases c6 : m = 6
      · subst c6
        go_enter Tryz.func76, Tryz.ntmps76
        go_wp2
        go_ret
        exact ⟨rfl, rfl⟩
      · have b6 : (m == 6) = false := by simp [c6]
        by_cases c9 : m = 9
        · subst c9
          go_enter Tryz.func76, Tryz.ntmps76
          go_wp2
          go_ret
          exact ⟨rfl, rfl⟩
        · have b9 : (m == 9) = false := by simp [c9]
          by_cases c11 : m = 11
          · subst c11
            go_enter Tryz.func76, Tryz.ntmps76
            go_wp2
            go_ret
            exact ⟨rfl, rfl⟩
          · have b11 : (m == 11) = false := by simp [c11]
            have e : mdays m y = 31 := by simp [mdays, c2, c4, c6, c9, c11]
            rw [e]; clear e c2 c4 c6 c9 c11
            go_enter Tryz.func76, Tryz.ntmps76
            go_wp2
            go_ret
            exact ⟨rfl, rfl⟩

set_option maxHeartbeats 800000 in
theorem dbefore_any (y m d : Int) (w : World) (hy : 1 ≤ y) (hy2 : y ≤ 9999) (hm : 1 ≤ m) (hm2 : m ≤ 24) (hd : -1000 ≤ d) (hd2 : d ≤ 1000) :
    Calls Tryz.prog 77 #[.int .i64 y, .int .i64 m, .int .i64 d] w fun e w' => e = .returned (.int .i64 (dbefore y m d)) ∧ w = w' := by
  have hM : ∃ M : Nat, (m - 1) % 12 = (M : Int) ∧ M ≤ 11 := ⟨((m - 1) % 12).toNat, by omega, by omega⟩
  obtain ⟨M, hM1, hM2⟩ := hM
  have hY : ∃ Y : Int, y + (m - 1) / 12 = Y ∧ 1 ≤ Y ∧ Y ≤ 10001 := ⟨_, rfl, by omega, by omega⟩
  obtain ⟨Y, hY1, hY2, hY3⟩ := hY
  have hfin : dbefore y m d = ydays Y + msum Y M + d - 1 := by unfold dbefore; rw [hM1, hY1]; simp
  rw [hfin]
  have hms := msum_range Y
  have hYd : 0 ≤ ydays Y ∧ ydays Y ≤ 4000000 := by unfold ydays; omega
  clear hfin
  go_enter Tryz.func77, Tryz.ntmps77
  go_wp2
  go_loop [1, 0] (fun m' y' => m' = .int .i64 (m - 1) ∧ y' = .int .i64 y) (fun _ _ => 0)
  case atStart => exact ⟨rfl, rfl⟩
  case round =>
    obtain ⟨rfl, rfl⟩ := hrel
    go_wp2_with (go_at_call 90; refine (floor_any _ _ _ (by omega) (by omega) (by omega) (by omega)).mono ?_; rintro e w' ⟨rfl, rfl⟩)
    have hD : (365 * (Y - 1) + (Y - 1) / 4 - (Y - 1) / 100 + (Y - 1) / 400) = ydays Y + msum Y 0 := by unfold ydays msum; omega
    have HD := Lib.hid hD
    clear hD
    go_loop [9, 10] (fun ds i => ∃ k : Nat, k ≤ M ∧ i = .int .i64 ((k : Int) + 1) ∧ ds = .int .i64 (ydays Y + msum Y k)) (fun _ i => 20 - (intOf i).toNat)
    case atStart => exact ⟨0, Nat.zero_le _, rfl, by rw [HD.out]⟩
    case round =>
      obtain ⟨k, hk, rfl, rfl⟩ := hrel
      have hmk := hms k
      by_cases hlt : k < M
      · have hr := mdays_range ((k : Int) + 1) Y
        go_wp2_with (go_at_call 76; refine (daysIn_any _ _ _ (by omega) (by omega)).mono ?_; rintro e w' ⟨rfl, rfl⟩)
        go_round
        case rel => exact ⟨k + 1, by omega, by go_num, by simp only [msum]; go_num⟩
        case measure => simp [intOf]; omega
      · obtain rfl : k = M := by omega
        go_wp2
        go_ret
        exact ⟨rfl, rfl⟩
end Go.Proofs.YtdgmfkapglmlhaaGreatDoor
