/-
  Contracts of zzIndex, strings.ToLower (at small letters) and ParseUint (at decimal digits).
-/
import Derived.Test.YtdgmfkapglmlhaaGreatDoorFE
import Derived.Deep.Draws
import Derived.Lib.ConvBytes
import Derived.WalkSpells
import Derived.WalkLawsBesides
import Derived.IntWalk
import Derived.Outline
namespace Go.Proofs.YtdgmfkapglmlhaaGreatDoor
open Go.RowKit

theorem ext_sub (s : ByteArray) (k m : Nat) : s.extract k (k + m) = bs (((tl s).drop k).take m) := by
  apply tl_inj
  rw [tl_bs, tl_extract, List.take_drop]
theorem beq_list (s t : ByteArray) : (s.toList == t.toList) = decide (tl s = tl t) := by
  rw [ByteArray.toList_eq, ByteArray.toList_eq]
  show ((tl s == tl t) : Bool) = _
  by_cases h : tl s = tl t <;> simp [h]

set_option maxHeartbeats 800000 in
theorem index_yes (s sub : ByteArray) (i : Nat) (w : World) (hs : s.size ≤ 1000000000) (hm : sub.size ≤ 1000000) (hi : i + sub.size ≤ s.size) (hat : ((tl s).drop i).take sub.size = tl sub) (hb : ∀ j, j < i → ((tl s).drop j).take sub.size ≠ tl sub) :
    Calls Tryz.prog 55 #[.string s, .string sub] w fun e w' => e = .returned (.int .i64 (i : Int)) ∧ w = w' := by
  have HB := Lib.hid hb
  have HA := Lib.hid hat
  clear hb hat
  go_enter Tryz.func55, Tryz.ntmps55
  go_wp2
  go_loop [5] (fun t => ∃ k : Nat, k ≤ i ∧ t = .int .i64 (k : Int)) (fun t => i - (intOf t).toNat)
  case atStart => exact ⟨0, Nat.zero_le _, rfl⟩
  case round =>
    obtain ⟨k, hk, rfl⟩ := hrel
    have h1 : (k : Int) + (sub.size : Int) ≤ (s.size : Int) := by omega
    have h2 : (0 : Int) ≤ (k : Int) + (sub.size : Int) := by omega
    have h3 : (k : Int) ≤ (k : Int) + (sub.size : Int) := by omega
    have h4 : ((k : Int) + (sub.size : Int)).toNat = k + sub.size := by omega
    by_cases hlt : k < i
    · have e1 : ((s.extract k (k + sub.size)).toList == sub.toList) = false := by
        rw [beq_list, ext_sub, tl_bs]
        simpa using HB.out k hlt
      go_wp2
      go_round
      case rel => exact ⟨k + 1, by omega, by go_num⟩
      case measure => simp [intOf]; omega
    · obtain rfl : k = i := by omega
      have e1 : ((s.extract k (k + sub.size)).toList == sub.toList) = true := by
        rw [beq_list, ext_sub, tl_bs]
        simpa using HA.out
      go_wp2
      go_ret
      exact ⟨rfl, rfl⟩
set_option maxHeartbeats 800000 in
theorem index_no (s sub : ByteArray) (w : World) (hs : s.size ≤ 1000000000) (hm : sub.size ≤ 1000000) (hb : ∀ j, j + sub.size ≤ s.size → ((tl s).drop j).take sub.size ≠ tl sub) :
    Calls Tryz.prog 55 #[.string s, .string sub] w fun e w' => e = .returned (.int .i64 (-1)) ∧ w = w' := by
  have HB := Lib.hid hb
  clear hb
  go_enter Tryz.func55, Tryz.ntmps55
  go_wp2
  go_loop [5] (fun t => ∃ k : Nat, k ≤ s.size + 1 ∧ t = .int .i64 (k : Int)) (fun t => s.size + 1 - (intOf t).toNat)
  case atStart => exact ⟨0, Nat.zero_le _, rfl⟩
  case round =>
    obtain ⟨k, hk, rfl⟩ := hrel
    by_cases hlt : k + sub.size ≤ s.size
    · have h1 : (k : Int) + (sub.size : Int) ≤ (s.size : Int) := by omega
      have h2 : (0 : Int) ≤ (k : Int) + (sub.size : Int) := by omega
      have h3 : (k : Int) ≤ (k : Int) + (sub.size : Int) := by omega
      have h4 : ((k : Int) + (sub.size : Int)).toNat = k + sub.size := by omega
      have e1 : ((s.extract k (k + sub.size)).toList == sub.toList) = false := by
        rw [beq_list, ext_sub, tl_bs]
        simpa using HB.out k hlt
      go_wp2
      go_round
      case rel => exact ⟨k + 1, by omega, by go_num⟩
      case measure => simp [intOf]; omega
    · have h1 : ¬ ((k : Int) + (sub.size : Int) ≤ (s.size : Int)) := by omega
      go_wp2
      go_ret
      exact ⟨rfl, rfl⟩
/-- Of one sign. -/
theorem index1 (s : ByteArray) (c : UInt8) (a b : List UInt8) (w : World) (hs : s.size ≤ 1000000000) (h : tl s = a ++ c :: b) (ha : c ∉ a) :
    Calls Tryz.prog 55 #[.string s, .string ⟨#[c]⟩] w fun e w' => e = .returned (.int .i64 (a.length : Int)) ∧ w = w' := by
  have hl : s.size = a.length + 1 + b.length := by rw [← tl_length, h]; simp; omega
  refine index_yes s ⟨#[c]⟩ a.length w hs (by show 1 ≤ _; omega) (by show a.length + 1 ≤ _; omega) ?_ ?_
  · rw [h]; simp; rfl
  · intro j hj
    rw [h, List.drop_append_of_le_length (by omega), List.drop_eq_getElem_cons hj]
    intro e
    have e2 : [a[j]] = [c] := e
    exact ha (by rw [← List.head_eq_of_cons_eq e2]; exact List.getElem_mem hj)
theorem index1_no (s : ByteArray) (c : UInt8) (w : World) (hs : s.size ≤ 1000000000) (ha : c ∉ tl s) :
    Calls Tryz.prog 55 #[.string s, .string ⟨#[c]⟩] w fun e w' => e = .returned (.int .i64 (-1)) ∧ w = w' := by
  refine index_no s ⟨#[c]⟩ w hs (by show 1 ≤ _; omega) ?_
  intro j hj
  have hj' : j < (tl s).length := by rw [tl_length]; have : j + 1 ≤ s.size := hj; omega
  rw [List.drop_eq_getElem_cons hj']
  intro e
  have e2 : [(tl s)[j]] = [c] := e
  exact ha (by rw [← List.head_eq_of_cons_eq e2]; exact List.getElem_mem hj')

set_option maxRecDepth 5000 in
set_option maxHeartbeats 800000 in
theorem lower_any (s : ByteArray) (w : World) (hs : s.size ≤ 1000000000) (hl : ∀ i (h : i < s.size), 97 ≤ (s[i].toNat : Int) ∧ (s[i].toNat : Int) ≤ 122) :
    Calls Tryz.prog 64 #[.string s] w fun e w' => e = .returned (.string s) ∧ w = w' := by
  have HL := Lib.hid hl
  clear hl
  go_enter Tryz.func64, Tryz.ntmps64
  go_wp2
  go_loop [3, 4, 5] (fun a b i => a = .bool true ∧ b = .bool false ∧ ∃ k : Nat, k ≤ s.size ∧ i = .int .i64 (k : Int)) (fun _ _ i => s.size - (intOf i).toNat)
  case atStart => exact ⟨rfl, rfl, 0, Nat.zero_le _, rfl⟩
  case round =>
    obtain ⟨rfl, rfl, k, hk, rfl⟩ := hrel
    by_cases hlt : k < s.size
    · obtain ⟨h1, h2⟩ := HL.out k hlt
      have h3 : (s[k].toNat : Int) < 128 := by omega
      have h4 : 65 ≤ (s[k].toNat : Int) := by omega
      have h5 : ¬ ((s[k].toNat : Int) ≤ 90) := by omega
      have h6 : decide ((s[k].toNat : Int) ≤ 90) = false := by simp; omega
      go_wp2
      go_round
      case rel => exact ⟨rfl, rfl, k + 1, by omega, by go_num⟩
      case measure => simp [intOf]; omega
    · obtain rfl : k = s.size := by omega
      go_wp2
      go_ret
      exact ⟨rfl, rfl⟩

/-- Decimal digits as a number. -/
def dval (l : List UInt8) : Nat := l.foldl (fun n c => n * 10 + (c.toNat - 48)) 0
theorem dval_snoc (l : List UInt8) (c : UInt8) : dval (l ++ [c]) = dval l * 10 + (c.toNat - 48) := by simp [dval]
theorem dval_mono (l : List UInt8) : ∀ m : List UInt8, dval l ≤ dval (l ++ m) := by
  intro m
  induction m generalizing l with
  | nil => simp
  | cons c m ih =>
    have h1 := ih (l ++ [c])
    rw [dval_snoc] at h1
    rw [show l ++ c :: m = (l ++ [c]) ++ m from by simp]
    omega
theorem take_snoc (s : ByteArray) (k : Nat) (h : k < s.size) : (tl s).take (k + 1) = (tl s).take k ++ [s[k]] := by
  rw [List.take_succ_eq_append_getElem (by rw [tl_length]; exact h)]
  have := tl_getElem s k h
  rw [List.getElem?_eq_getElem (by rw [tl_length]; exact h)] at this
  rw [Option.some.inj this]
def Digs (s : ByteArray) : Prop := ∀ i (h : i < s.size), 48 ≤ (s[i].toNat : Int) ∧ (s[i].toNat : Int) ≤ 57

set_option maxRecDepth 100000 in
set_option maxHeartbeats 1600000 in
theorem puintI (s : ByteArray) (b : Int) (w : World) (hs : s.size ≤ 1000000) (hd : Digs s) (hn : dval (tl s) < 4611686018427387904) (h0 : 0 < s.size) (hb : b = 10 ∨ b = 0 ∧ 49 ≤ (s[0].toNat : Int)) :
    Calls Tryz.prog 81 #[.string s, .int .i64 b, .int .i64 64] w fun e w' => e = .returned (.tuple #[.int .u64 (dval (tl s) : Int), .nilIface]) ∧ Below w.heap.size w w' := by
  have kb := fun W => Lib.run_convert_string_bytes (P := Tryz.prog) W 9 71 5 s Tryz.underlying9 Tryz.underlying71 Tryz.underlying5
  have kc := fun j hj => Lib.bytesWorld_cell w 5 s j hj
  have e2 : s.toList.isEmpty = false := ne_empty h0
  have HD := Lib.hid hd
  have hbl : Below w.heap.size w (Lib.bytesWorld w 5 s) := ⟨rfl, rfl, rfl, by rw [Lib.bytesWorld_size]; omega, fun i hi => Lib.bytesWorld_at_old w 5 s i hi⟩
  have HBL := Lib.hid hbl
  have HK := Lib.hid kc
  clear hd hbl kc
  generalize hW : Lib.bytesWorld w 5 s = W at *
  rcases hb with rfl | ⟨rfl, hz⟩
  all_goals
    first | (have z1 : ((s[0].toNat : Int) == 48) = false := by simp; omega) | skip
    go_enter Tryz.func81, Tryz.ntmps81
    go_wp2
    have HW := Lib.hid hW
    clear hW kb
    go_loop [12, 13, 101] (fun u n i => u = .bool false ∧ ∃ k : Nat, k ≤ s.size ∧ i = .int .i64 (k : Int) ∧ n = .int .u64 (dval ((tl s).take k) : Int)) (fun _ _ i => s.size - (intOf i).toNat)
    case atStart => exact ⟨rfl, 0, Nat.zero_le _, rfl, rfl⟩
    case round =>
      obtain ⟨rfl, k, hk, rfl, rfl⟩ := hrel
      by_cases hlt : k < s.size
      · obtain ⟨g1, g2⟩ := HD.out k hlt
        have hts := take_snoc s k hlt
        have hm := dval_mono ((tl s).take (k + 1)) ((tl s).drop (k + 1))
        rw [List.take_append_drop, hts, dval_snoc] at hm
        have hval : (dval ((tl s).take (k + 1)) : Int) = (dval ((tl s).take k) : Int) * 10 + ((s[k].toNat : Int) - 48) := by
          rw [hts, dval_snoc]; omega
        have HV := Lib.hid hval
        have hcell := HK.out k hlt
        rw [show (s.data.toList.getD k 0) = s[k] from getD_at s k hlt] at hcell
        clear hts hval
        generalize s[k] = c at *
        obtain ⟨N, hN⟩ : ∃ N : Int, (dval ((tl s).take k) : Int) = N := ⟨_, rfl⟩
        have g3 : 0 ≤ N := by omega
        have g4 : N * 10 + ((c.toNat : Int) - 48) < 4611686018427387904 := by omega
        rw [hN] at HV ⊢
        clear hN hm hn
        have q1 : ((c.toNat : Int) == 95) = false := by simp; omega
        have q2 : (c.toNat : Int) - 48 < 10 := by omega
        have q3 : N < 1844674407370955162 := by omega
        have q4 : ¬ (N * 10 + ((c.toNat : Int) - 48) < N * 10) := by omega
        have q5 : N * 10 + ((c.toNat : Int) - 48) ≤ IntKind.u64.wrap (IntKind.u64.wrap 18446744073709551616 - 1) := by
          rw [show IntKind.u64.wrap (IntKind.u64.wrap 18446744073709551616 - 1) = 18446744073709551615 from by kernel_rfl]; omega
        go_wp2
        go_round
        case rel => exact ⟨rfl, k + 1, by omega, by go_num, by rw [HV.out]⟩
        case measure => simp [intOf]; omega
      · obtain rfl : k = s.size := by omega
        have hfull : (tl s).take s.size = tl s := List.take_of_length_le (by rw [tl_length]; omega)
        rw [hfull]
        clear hfull
        go_wp2
        go_ret2
        exact ⟨rfl, HBL.out⟩
end Go.Proofs.YtdgmfkapglmlhaaGreatDoor
