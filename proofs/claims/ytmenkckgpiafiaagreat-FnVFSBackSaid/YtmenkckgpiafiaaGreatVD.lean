/-
  laws.FnVFSBack answers true.
-/
import Derived.Test.YtmenkckgpiafiaaGreatVC
import Derived.Test.YtmenkckgpiafiaaGreatY
namespace Go.Proofs.YtmenkckgpiafiaaGreat
open Go.RowKit Go.Great

/-- The number that m bytes from place i on say. -/
def acc (l : List UInt8) (i : Nat) : Nat → Int
  | 0 => 0
  | m + 1 => acc l i m * 256 + gi l (i + m)
theorem acc8 (l : List UInt8) (i : Nat) : acc l i 8 = rd64 (l.drop i) := by
  have h : ∀ j, gi (l.drop i) j = gi l (i + j) := fun j => by unfold gi; rw [List.getD_eq_getElem?_getD, List.getElem?_drop, ← List.getD_eq_getElem?_getD]
  have h4 : ∀ j, gi ((l.drop i).drop 4) j = gi l (i + (4 + j)) := fun j => by unfold gi; rw [List.getD_eq_getElem?_getD, List.getElem?_drop, List.getElem?_drop, ← List.getD_eq_getElem?_getD]
  unfold rd64 rd32
  rw [h, h, h, h, h4, h4, h4, h4]
  simp only [acc, Nat.add_zero, Nat.reduceAdd]
  omega
theorem acc_range (l : List UInt8) (i : Nat) : ∀ m, 0 ≤ acc l i m ∧ acc l i m < 256 ^ m
  | 0 => ⟨Int.le_refl _, by show (0 : Int) < 256 ^ 0; decide⟩
  | m + 1 => by
    have h := acc_range l i m
    have g := gi_range l (i + m)
    have e : (256 : Int) ^ (m + 1) = 256 ^ m * 256 := Int.pow_succ _ _
    rw [acc, e]
    omega

theorem drop_bk (X : Nat → Int) : ∀ (j i n : Nat), j ≤ n → (bk X i n).drop (8 * j) = bk X (i + j) (n - j)
  | 0, i, n, _ => by simp
  | j + 1, i, 0, h => by omega
  | j + 1, i, n + 1, h => by
    rw [bk, show 8 * (j + 1) = 8 + 8 * j from by omega, ← List.drop_drop, List.drop_left' (be64_len _), drop_bk X j (i + 1) n (by omega), show i + 1 + j = i + (j + 1) from by omega, show n - j = n + 1 - (j + 1) from by omega]
theorem rd64_vl (X : Nat → Int) (hX : ∀ i, 0 ≤ X i ∧ X i ≤ 18446744073709551615) (k : Nat) (hk : k < 11) : rd64 ((vl X 11).drop (8 * k)) = X k := by
  rw [vl_bk, drop_bk X k 0 11 (by omega), show 11 - k = (11 - (k + 1)) + 1 from by omega, bk, Nat.zero_add]
  have h := c64_be64 (X k) (bk X (k + 1) (11 - (k + 1))) (hX k).1 (hX k).2
  have hl : 8 ≤ (be64 (X k) ++ bk X (k + 1) (11 - (k + 1))).length := by rw [List.length_append, be64_len]; omega
  simp only [c64, hl, if_true] at h
  exact congrArg Prod.fst h

set_option maxRecDepth 5000 in
set_option maxHeartbeats 3200000 in
theorem vfsLaw (b o cap : Nat) (X : Nat → Int) (w : World) (hA : b < w.heap.size) (hcap : 11 ≤ cap) (hX : ∀ i, 0 ≤ X i ∧ X i ≤ 18446744073709551615) (hc : ∀ i, i < 11 → w.cell? ⟨b, o + i, none⟩ = some (.int .u64 (X i))) :
    Calls Tryz.prog 11 #[.slice (some ⟨b, o, none⟩) 11 cap] w fun e w' => e = .returned (.bool true) ∧ Below w.heap.size w w' := by
  have hs : tl (bs (vl X 11)) = vl X 11 := tl_bs _
  have W1 := Lib.hid (vfsWrite b o cap X w hA hcap hX hc)
  have hlen : (bs (vl X 11)).size = 88 := by rw [← tl_length, hs, vl_len]
  generalize bs (vl X 11) = s at *
  have HC := Lib.hid hc
  have HX := Lib.hid hX
  have HS := Lib.hid hs
  clear hc hX hs
  have hidx : ∀ n : Nat, n < 88 → ∀ W : World, (Instr.index 9 (.string s) (.int .i64 (n : Int))).run Tryz.prog W = .ok (.int .u8 (gi (tl s) n)) W := by
    intro n hn W
    rw [run_index_string _ _ _ _ _ Tryz.underlying9, dif_pos ⟨by omega, by rw [hlen]; omega⟩]
    have e : gi (tl s) n = ((s[n]'(by omega)).toNat : Int) := by
      unfold gi
      rw [List.getD_eq_getElem?_getD, tl_getElem s n (by omega)]
      rfl
    rw [e]
    rfl
  go_enter Tryz.func11, Tryz.ntmps11
  go_wp2_with fail
  refine W1.out.mono ?_
  rintro e w1 ⟨rfl, hb1⟩
  have B1 := Lib.hid hb1
  clear hb1 W1
  go_wp2_with fail
  refine (vfsRead s X w1 HX.out HS.out).mono ?_
  rintro e w2 ⟨⟨h, rfl, hh, hk⟩, hb2⟩
  have B2 := Lib.hid (B1.out.trans (hb2.mono B1.out.size))
  have K2 := Lib.hid hk
  have C2 := Lib.hid (fun i (hi : i < 11) => cell_below (a := ⟨b, o + i, none⟩) B2.out hA (HC.out i hi))
  clear hb2 hk B1 HC hh
  go_wp2_with fail
  have l2 : h < w2.heap.size := lt_of_blk K2.out
  have z2 := B2.out.size
  go_loopw [44] (fun i wr => ∃ k : Nat, k ≤ 11 ∧ i = .int .i64 k ∧ Below w2.heap.size w2 wr) (fun i _ => 20 - (intOf i).toNat)
  case atStart => exact ⟨0, by omega, rfl, Below.refl _ _⟩
  case round =>
    obtain ⟨k, hk, rfl, hD⟩ := hrel
    by_cases hlt : k < 11
    · have ca : wr.cell? ⟨h, k, none⟩ = some (.int .u64 (X k)) := by
        rw [cell_kept (hD.block h l2), cell_of_blk K2.out]
        rcases (by omega : k = 0 ∨ k = 1 ∨ k = 2 ∨ k = 3 ∨ k = 4 ∨ k = 5 ∨ k = 6 ∨ k = 7 ∨ k = 8 ∨ k = 9 ∨ k = 10) with rfl | rfl | rfl | rfl | rfl | rfl | rfl | rfl | rfl | rfl | rfl <;> rfl
      have cb : wr.cell? ⟨b, o + k, none⟩ = some (.int .u64 (X k)) := by rw [cell_kept (hD.block b (by omega))]; exact C2.out k hlt
      have D := Lib.hid hD
      have ik : (k : Int) < 11 := by omega
      clear hD z2 l2
      go_wp2_with fail
      go_quiet (fail)
      go_wp2_with fail
      go_loop [8, 56] (fun v j => ∃ m : Nat, m ≤ 8 ∧ j = .int .i64 m ∧ v = .int .u64 (acc (tl s) (8 * k) m)) (fun _ j => 10 - (intOf j).toNat)
      case atStart => exact ⟨0, by omega, rfl, rfl⟩
      case round =>
        obtain ⟨m, hm, rfl, rfl⟩ := hrel
        by_cases hlm : m < 8
        · have hi := hidx (8 * k + m) (by omega)
          rw [show ((8 * k + m : Nat) : Int) = 8 * (k : Int) + (m : Int) from by omega] at hi
          have im : (m : Int) < 8 := by omega
          have ha := acc_range (tl s) (8 * k) m
          have hp : (256 : Int) ^ m ≤ 72057594037927936 := by
            rcases (by omega : m = 0 ∨ m = 1 ∨ m = 2 ∨ m = 3 ∨ m = 4 ∨ m = 5 ∨ m = 6 ∨ m = 7) with rfl | rfl | rfl | rfl | rfl | rfl | rfl | rfl <;> decide
          have hg := gi_range (tl s) (8 * k + m)
          have hbits : bits .or .u64 (IntKind.u64.wrap (acc (tl s) (8 * k) m * 256)) (IntKind.u64.wrap (gi (tl s) (8 * k + m))) = acc (tl s) (8 * k) (m + 1) := by
            rw [wraps_u64 _ (by omega) (by omega), wraps_u64 _ (by omega) (by omega), acc]
            exact bits_join .u64 64 (by decide) wraps_u64 8 _ _ (by omega) (by omega) (by omega) (by omega) (by omega) (by omega)
          have HBT := Lib.hid hbits
          clear hbits ha hp hg
          go_wp2_with fail
          refine ⟨⟨m + 1, by omega, by rw [Int.natCast_add]; rfl, by rw [HBT.out]⟩, by simp [intOf]; omega⟩
        · obtain rfl : m = 8 := by omega
          have e8 : acc (tl s) (8 * k) 8 = X k := by rw [acc8, HS.out]; exact rd64_vl X HX.out k hlt
          rw [e8]
          go_wp2_with fail
          exact ⟨⟨k + 1, by omega, by rw [Int.natCast_add]; rfl, below_drewN D.out nq⟩, by simp [intOf]; omega⟩
    · obtain rfl : k = 11 := by omega
      have D := Lib.hid hD
      clear hD
      go_wp2_with fail
      refine (awake wr).mono ?_
      rintro e w9 ⟨rfl, hb9⟩
      have E := B2.out.trans (D.out.mono B2.out.size)
      have F := Lib.hid (E.trans (hb9.mono E.size))
      clear E hb9
      go_wp2_with fail
      go_ret
      exact ⟨rfl, F.out⟩

set_option maxRecDepth 5000 in
theorem vfsOther (A : Option Addr) (n cap : Nat) (w : World) (hn : n ≠ 11) :
    Calls Tryz.prog 11 #[.slice A n cap] w fun e w' => e = .returned (.bool true) ∧ Below w.heap.size w w' := by
  by_cases hb : (2147483647 : Int) < (n : Int)
  · go_enter Tryz.func11, Tryz.ntmps11
    go_wp2_with fail
    go_ret
    exact ⟨rfl, Below.refl _ _⟩
  · have h1 : ((n : Int) == 11) = false := beq_eq_false_iff_ne.2 (by omega)
    go_enter Tryz.func11, Tryz.ntmps11
    go_wp2_with fail
    go_ret
    exact ⟨rfl, Below.refl _ _⟩
end Go.Proofs.YtmenkckgpiafiaaGreat
