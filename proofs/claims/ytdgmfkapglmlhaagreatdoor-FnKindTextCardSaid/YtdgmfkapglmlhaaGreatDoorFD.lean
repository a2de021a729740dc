/-
  The contract of the reader of months.
-/
import Derived.Test.YtdgmfkapglmlhaaGreatDoorFC
namespace Go.Proofs.YtdgmfkapglmlhaaGreatDoor
open Go.RowKit

def monB : ByteArray := ⟨#[106, 97, 110, 102, 101, 98, 109, 97, 114, 97, 112, 114, 109, 97, 121, 106, 117, 110, 106, 117, 108, 97, 117, 103, 115, 101, 112, 111, 99, 116, 110, 111, 118, 100, 101, 99]⟩
/-- A letter, small. -/
def lowI (c : Int) : Int := if 65 ≤ c ∧ c ≤ 90 then c + 32 else c
/-- Do the first n letters fit month number k (from 0). -/
def monN (l : List UInt8) (k : Nat) : Nat → Bool
  | 0 => true
  | n + 1 => monN l k n && decide (lowI ((l.getD n 0).toNat : Int) = (((tl monB).getD (3 * k + n) 0).toNat : Int))
theorem monB_at (i : Nat) (h : i < 36) : ((tl monB).getD i 0) = monB[i]'(by rw [show monB.size = 36 from rfl]; exact h) := by
  rw [List.getD_eq_getElem?_getD, tl_getElem monB i (by rw [show monB.size = 36 from rfl]; exact h)]
  rfl
theorem getD_at (s : ByteArray) (i : Nat) (h : i < s.size) : (tl s).getD i 0 = s[i] := by
  rw [List.getD_eq_getElem?_getD, tl_getElem s i h]
  rfl
theorem monN_up {s : ByteArray} {k n : Nat} (hn : n < s.size) (h3 : 3 * k + n < 36) (h : monN (tl s) k n = true) (c : Int) (hc : lowI (s[n].toNat : Int) = c) :
    (c == ((monB[3 * k + n]'(by rw [show monB.size = 36 from rfl]; exact h3)).toNat : Int)) = monN (tl s) k (n + 1) := by
  simp only [monN, h, getD_at s n hn, monB_at _ h3, hc, Bool.true_and]
  exact rfl

set_option maxHeartbeats 1600000 in
theorem month_any (s : ByteArray) (w : World) (hs : s.size ≤ 1000000000) (h3 : 3 ≤ s.size) (m : Nat) (hm : m ≤ 11) (hyes : monN (tl s) m 3 = true) (hno : ∀ k, k < m → monN (tl s) k 3 = false) :
    Calls Tryz.prog 74 #[.string s] w fun e w' => e = .returned (.tuple #[.int .i64 (m + 1), .string (bs ((tl s).drop 3)), .bool true]) ∧ ∃ n, w' = w.drewN n := by
  have i3 : (3 : Int) ≤ (s.size : Int) := by omega
  have HNO := Lib.hid hno
  have HYES := Lib.hid hyes
  clear hno hyes
  go_enter Tryz.func74, Tryz.ntmps74
  go_wp2
  go_loop [5] (fun i => ∃ k : Nat, k ≤ m ∧ i = .int .i64 (3 * (k : Int))) (fun i => 40 - (intOf i).toNat)
  case atStart => exact ⟨0, by omega, rfl⟩
  case round =>
    obtain ⟨k, hk, rfl⟩ := hrel
    go_wp2
    go_loop [6, 19] (fun b j => ∃ n : Nat, n ≤ 3 ∧ j = .int .i64 n ∧ b = .bool (monN (tl s) k n)) (fun _ j => 4 - (intOf j).toNat)
    case atStart => exact ⟨0, by omega, rfl, rfl⟩
    case round =>
      obtain ⟨n, hn, rfl, rfl⟩ := hrel
      by_cases hlt : n < 3
      · have ln : n < s.size := by omega
        have l36 : 3 * k + n < 36 := by omega
        by_cases c1 : 65 ≤ (s[n].toNat : Int)
        · by_cases c2 : (s[n].toNat : Int) ≤ 90
          · cases hM : monN (tl s) k n
            · have e : monN (tl s) k (n + 1) = false := by simp only [monN, hM, Bool.false_and]
              have HE := Lib.hid e
              clear e
              go_wp2
              go_round
              case rel => exact ⟨n + 1, by omega, by go_num, by rw [HE.out]⟩
              case measure => simp [intOf]; omega
            · have e := monN_up ln l36 hM _ (show lowI (s[n].toNat : Int) = (s[n].toNat : Int) + 32 from by unfold lowI; rw [if_pos ⟨c1, c2⟩])
              have HE := Lib.hid e
              clear e
              go_wp2
              go_round
              case rel => exact ⟨n + 1, by omega, by go_num, by rw [← HE.out]; rfl⟩
              case measure => simp [intOf]; omega
          · cases hM : monN (tl s) k n
            · have e : monN (tl s) k (n + 1) = false := by simp only [monN, hM, Bool.false_and]
              have HE := Lib.hid e
              clear e
              go_wp2
              go_round
              case rel => exact ⟨n + 1, by omega, by go_num, by rw [HE.out]⟩
              case measure => simp [intOf]; omega
            · have e := monN_up ln l36 hM _ (show lowI (s[n].toNat : Int) = (s[n].toNat : Int) from by unfold lowI; rw [if_neg (by omega)])
              have HE := Lib.hid e
              clear e
              go_wp2
              go_round
              case rel => exact ⟨n + 1, by omega, by go_num, by rw [← HE.out]; rfl⟩
              case measure => simp [intOf]; omega
        · cases hM : monN (tl s) k n
          · have e : monN (tl s) k (n + 1) = false := by simp only [monN, hM, Bool.false_and]
            have HE := Lib.hid e
            clear e
            go_wp2
            go_round
            case rel => exact ⟨n + 1, by omega, by go_num, by rw [HE.out]⟩
            case measure => simp [intOf]; omega
          · have e := monN_up ln l36 hM _ (show lowI (s[n].toNat : Int) = (s[n].toNat : Int) from by unfold lowI; rw [if_neg (by omega)])
            have HE := Lib.hid e
            clear e
            go_wp2
            go_round
            case rel => exact ⟨n + 1, by omega, by go_num, by rw [← HE.out]; rfl⟩
            case measure => simp [intOf]; omega
      · obtain rfl : n = 3 := by omega
        by_cases hkm : k = m
        · subst hkm
          rw [HYES.out]
          go_wp2
          go_quiet (fail)
          go_wp2
          go_ret3
          exact ⟨ret3 (int_eq (by omega)) (str_eq (ext_drop s 3)) rfl, _, rfl⟩
        · rw [HNO.out k (by omega)]
          go_wp2
          go_round
          case rel => exact ⟨k + 1, by omega, by go_num⟩
          case measure => simp [intOf]; omega
end Go.Proofs.YtdgmfkapglmlhaaGreatDoor
