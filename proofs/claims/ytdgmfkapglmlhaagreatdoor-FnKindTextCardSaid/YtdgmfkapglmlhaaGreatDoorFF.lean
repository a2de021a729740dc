/-
  The contract of parseTime: where the fold over the layout's signs goes through.
-/
import Derived.Test.YtdgmfkapglmlhaaGreatDoorFE
import Derived.Deep.Draws
namespace Go.Proofs.YtdgmfkapglmlhaaGreatDoor
open Go.RowKit

theorem below_drewN {B : Nat} {w W : World} (h : Below B w W) (n : Nat) : Below B w (W.drewN n) := ⟨h.os, h.tape, h.output, h.size, h.block⟩

/-- What a time's parts are at the end. -/
def FinOk (p : PT) : Prop := p.s = [] ∧ 1 ≤ p.d ∧ p.d ≤ mdays p.mo p.y ∧ 1 ≤ p.y ∧ p.y ≤ 9999 ∧ 1 ≤ p.mo ∧ p.mo ≤ 12 ∧ 0 ≤ p.h ∧ p.h ≤ 23 ∧ 0 ≤ p.mi ∧ p.mi ≤ 59 ∧ 0 ≤ p.sec ∧ p.sec ≤ 59
theorem dbefore_range (y m d : Int) (hy : 1 ≤ y) (hy2 : y ≤ 9999) (hm : 1 ≤ m) (hm2 : m ≤ 12) (hd : 1 ≤ d) (hd2 : d ≤ mdays m y) : 0 ≤ dbefore y m d ∧ dbefore y m d ≤ 5000000 := by
  have h1 := msum_range (y + (m - 1) / 12) ((m - 1) % 12).toNat
  have h2 := mdays_range m y
  have h3 : 0 ≤ ydays (y + (m - 1) / 12) ∧ ydays (y + (m - 1) / 12) ≤ 4000000 := by unfold ydays; omega
  unfold dbefore
  omega
/-- A string's length. -/
def strSz : Value → Nat
  | .string s => s.size
  | _ => 0

theorem newErr_any (s : ByteArray) (w : World) :
    Calls Tryz.prog 71 #[.string s] w fun e w' => e = .returned (.iface 133 (.pointer (some ⟨w.heap.size, 0, none⟩))) ∧ w.alloc (.cells #[.string s] 135) = w' := by
  go_enter Tryz.func71, Tryz.ntmps71
  go_wp2
  go_ret
  exact ⟨rfl, rfl⟩

set_option maxRecDepth 100000 in
set_option maxHeartbeats 4000000 in
theorem parse_any (lay s : ByteArray) (w : World) (fin : PT) (hl : lay.size ≤ 100) (hs : s.size ≤ 1000000) (hf : steps (tl lay) (pt0 (tl s)) = some fin) (hfin : FinOk fin) :
    Calls Tryz.prog 57 #[.string lay, .string s] w fun e w' => e = .returned (.tuple #[.int .i64 fin.secs, .nilIface]) ∧ Below w.heap.size w w' := by
  have HF := Lib.hid hf
  clear hf
  go_enter Tryz.func57, Tryz.ntmps57
  go_wp2_with (go_at_call 71; refine (newErr_any _ _).mono ?_; rintro e w' ⟨rfl, rfl⟩)
  go_loopw [1, 7, 8, 9, 10, 11, 12, 13, 14, 15] (fun v1 v7 v8 v9 v10 v11 v12 v13 v14 v15 wr => ∃ (k : Nat) (y mo d h mi sec : Int) (pm am : Bool) (l : List UInt8), k ≤ lay.size ∧ v1 = .string (bs l) ∧ v7 = .int .i64 y ∧ v8 = .int .i64 mo ∧ v9 = .int .i64 d ∧ v10 = .int .i64 h ∧ v11 = .int .i64 mi ∧ v12 = .int .i64 sec ∧ v13 = .bool pm ∧ v14 = .bool am ∧ v15 = .int .i64 k ∧ Hid (l.length ≤ s.size ∧ steps ((tl lay).drop k) ⟨y, mo, d, h, mi, sec, pm, am, l⟩ = some fin) ∧ Below w.heap.size w wr) (fun _ _ _ _ _ _ _ _ _ i _ => lay.size - (intOf i).toNat)
  case atStart => exact ⟨0, 1, 1, 1, 0, 0, 0, false, false, tl s, Nat.zero_le _, rfl, rfl, rfl, rfl, rfl, rfl, rfl, rfl, rfl, rfl, Lib.hid ⟨by rw [tl_length]; omega, HF.out⟩, (Below.refl _ _).alloc (Nat.le_refl _) _⟩
  case round =>
    obtain ⟨k, y, mo, d, h, mi, sec, pm, am, l, hk, rfl, rfl, rfl, rfl, rfl, rfl, rfl, rfl, rfl, rfl, HH, HB⟩ := hrel
    by_cases hlt : k < lay.size
    · have hh := HH.out
      clear HH
      obtain ⟨hll, hst⟩ := hh
      rw [List.drop_eq_getElem_cons (by rw [tl_length]; exact hlt)] at hst
      have hck : (tl lay)[k]'(by rw [tl_length]; exact hlt) = lay[k] := by
        have := tl_getElem lay k hlt
        rw [List.getElem?_eq_getElem (by rw [tl_length]; exact hlt)] at this
        exact Option.some.inj this
      rw [hck] at hst
      clear hck
      simp only [steps] at hst
      obtain ⟨q, hq, hr⟩ := Option.bind_eq_some_iff.1 hst
      clear hst
      have hsz : (bs l).size ≤ 1000000 := by rw [size_bs]; omega
      have HB2 := Lib.hid HB
      clear HB
      have hsg := step_signs hq
      generalize hc : lay[k] = c at hq hsg
      have HR := Lib.hid hr
      clear hr
      rcases hsg with rfl | rfl | rfl | rfl | rfl | rfl | rfl | rfl | rfl | rfl | rfl | rfl | rfl | rfl
      · as_aux_lemma =>
        have hcc : (lay[k].toNat : Int) = 89 := by rw [hc]; rfl
        clear hc
        obtain ⟨v, r, hv, rfl⟩ := step_Y hq
        clear hq
        dsimp only at hv
        have hvr := yr4_range hv
        have HC := Lib.hid (fun w => year_Y (bs l) w (by omega) v r hv)
        clear hv
        obtain ⟨g0, g1, g2⟩ := hvr
        go_wp2_with (go_at_call 72; refine (HC.out _).mono ?_; rintro e w' ⟨rfl, n, rfl⟩)
        go_roundw
        case rel => exact ⟨k + 1, _, _, _, _, _, _, _, _, _, by omega, rfl, rfl, rfl, rfl, rfl, rfl, rfl, rfl, rfl, by go_num, Lib.hid ⟨by omega, HR.out⟩, below_drewN HB2.out _⟩
        case measure => simp [intOf]; omega
      · as_aux_lemma =>
        have hcc : (lay[k].toNat : Int) = 121 := by rw [hc]; rfl
        clear hc
        obtain ⟨v, r, hv, rfl⟩ := step_y hq
        clear hq
        dsimp only at hv
        have hvr := yr2_range hv
        have HC := Lib.hid (fun w => year_two (bs l) w (by omega) v r hv)
        clear hv
        obtain ⟨g0, g1, g2⟩ := hvr
        go_wp2_with (go_at_call 72; refine (HC.out _).mono ?_; rintro e w' ⟨rfl, n, rfl⟩)
        go_roundw
        case rel => exact ⟨k + 1, _, _, _, _, _, _, _, _, _, by omega, rfl, rfl, rfl, rfl, rfl, rfl, rfl, rfl, rfl, by go_num, Lib.hid ⟨by omega, HR.out⟩, below_drewN HB2.out _⟩
        case measure => simp [intOf]; omega
      · as_aux_lemma =>
        have hcc : (lay[k].toNat : Int) = 77 := by rw [hc]; rfl
        clear hc
        obtain ⟨v, r, hv, hcd, rfl⟩ := step_M hq
        clear hq
        dsimp only at hv
        have hvr := num2_range hv
        have HC := Lib.hid (fun w => number_any (bs l) true v r w (by omega) hv)
        clear hv
        obtain ⟨g0, g1, g2⟩ := hvr
        obtain ⟨q0, q1⟩ := hcd
        go_wp2_with (go_at_call 73; refine (HC.out _).mono ?_; rintro e w' ⟨rfl, n, rfl⟩)
        go_roundw
        case rel => exact ⟨k + 1, _, _, _, _, _, _, _, _, _, by omega, rfl, rfl, rfl, rfl, rfl, rfl, rfl, rfl, rfl, by go_num, Lib.hid ⟨by omega, HR.out⟩, below_drewN HB2.out _⟩
        case measure => simp [intOf]; omega
      · as_aux_lemma =>
        have hcc : (lay[k].toNat : Int) = 109 := by rw [hc]; rfl
        clear hc
        obtain ⟨m, hv, rfl⟩ := step_m hq
        clear hq
        dsimp only at hv
        obtain ⟨g0, g1, g2, g3⟩ := monF_spec hv
        have HC := Lib.hid (fun w => month_any (bs l) w (by omega) (by rw [size_bs]; exact g0) m g1 g2 g3)
        clear hv g2 g3
        go_wp2_with (go_at_call 74; refine (HC.out _).mono ?_; rintro e w' ⟨rfl, n, rfl⟩)
        go_roundw
        case rel => exact ⟨k + 1, _, _, _, _, _, _, _, _, _, by omega, rfl, rfl, rfl, rfl, rfl, rfl, rfl, rfl, rfl, by go_num, Lib.hid ⟨by (simp only [List.length_drop, tl_bs]; omega), HR.out⟩, below_drewN HB2.out _⟩
        case measure => simp [intOf]; omega
      · as_aux_lemma =>
        have hcc : (lay[k].toNat : Int) = 68 := by rw [hc]; rfl
        clear hc
        obtain ⟨v, r, hv, rfl⟩ := step_D hq
        clear hq
        dsimp only at hv
        have hvr := num2_range hv
        have HC := Lib.hid (fun w => number_any (bs l) true v r w (by omega) hv)
        clear hv
        obtain ⟨g0, g1, g2⟩ := hvr
        go_wp2_with (go_at_call 73; refine (HC.out _).mono ?_; rintro e w' ⟨rfl, n, rfl⟩)
        go_roundw
        case rel => exact ⟨k + 1, _, _, _, _, _, _, _, _, _, by omega, rfl, rfl, rfl, rfl, rfl, rfl, rfl, rfl, rfl, by go_num, Lib.hid ⟨by omega, HR.out⟩, below_drewN HB2.out _⟩
        case measure => simp [intOf]; omega
      · as_aux_lemma =>
        have hcc : (lay[k].toNat : Int) = 100 := by rw [hc]; rfl
        clear hc
        obtain ⟨v, r, hv, rfl⟩ := step_d hq
        clear hq
        dsimp only at hv
        have hvr := num2_range hv
        have hd0 : dig (tl (bs l)) 0 = true := num2_dig hv
        have HC := Lib.hid (fun w => number_any (bs l) false v r w (by omega) hv)
        clear hv
        obtain ⟨g0, g1, g2⟩ := hvr
        have l0 := dig_lt hd0
        obtain ⟨a0, b0⟩ := dig_at hd0 l0
        have e1 : (((bs l)[0].toNat : Int) == 32) = false := by simp; omega
        clear hd0
        have e2 : (bs l).toList.isEmpty = false := ne_empty l0
        go_wp2_with (go_at_call 73; refine (HC.out _).mono ?_; rintro e w' ⟨rfl, n, rfl⟩)
        go_roundw
        case rel => exact ⟨k + 1, _, _, _, _, _, _, _, _, _, by omega, rfl, rfl, rfl, rfl, rfl, rfl, rfl, rfl, rfl, by go_num, Lib.hid ⟨by omega, HR.out⟩, below_drewN HB2.out _⟩
        case measure => simp [intOf]; omega
      · as_aux_lemma =>
        have hcc : (lay[k].toNat : Int) = 72 := by rw [hc]; rfl
        clear hc
        obtain ⟨v, r, hv, hcd, rfl⟩ := step_H hq
        clear hq
        dsimp only at hv
        have hvr := num2_range hv
        have HC := Lib.hid (fun w => number_any (bs l) false v r w (by omega) hv)
        clear hv
        obtain ⟨g0, g1, g2⟩ := hvr
        skip
        go_wp2_with (go_at_call 73; refine (HC.out _).mono ?_; rintro e w' ⟨rfl, n, rfl⟩)
        go_roundw
        case rel => exact ⟨k + 1, _, _, _, _, _, _, _, _, _, by omega, rfl, rfl, rfl, rfl, rfl, rfl, rfl, rfl, rfl, by go_num, Lib.hid ⟨by omega, HR.out⟩, below_drewN HB2.out _⟩
        case measure => simp [intOf]; omega
      · as_aux_lemma =>
        have hcc : (lay[k].toNat : Int) = 104 := by rw [hc]; rfl
        clear hc
        obtain ⟨v, r, hv, hcd, rfl⟩ := step_h hq
        clear hq
        dsimp only at hv
        have hvr := num2_range hv
        have HC := Lib.hid (fun w => number_any (bs l) true v r w (by omega) hv)
        clear hv
        obtain ⟨g0, g1, g2⟩ := hvr
        skip
        go_wp2_with (go_at_call 73; refine (HC.out _).mono ?_; rintro e w' ⟨rfl, n, rfl⟩)
        go_roundw
        case rel => exact ⟨k + 1, _, _, _, _, _, _, _, _, _, by omega, rfl, rfl, rfl, rfl, rfl, rfl, rfl, rfl, rfl, by go_num, Lib.hid ⟨by omega, HR.out⟩, below_drewN HB2.out _⟩
        case measure => simp [intOf]; omega
      · as_aux_lemma =>
        have hcc : (lay[k].toNat : Int) = 78 := by rw [hc]; rfl
        clear hc
        obtain ⟨v, r, hv, hcd, rfl⟩ := step_N hq
        clear hq
        dsimp only at hv
        have hvr := num2_range hv
        have HC := Lib.hid (fun w => number_any (bs l) true v r w (by omega) hv)
        clear hv
        obtain ⟨g0, g1, g2⟩ := hvr
        skip
        go_wp2_with (go_at_call 73; refine (HC.out _).mono ?_; rintro e w' ⟨rfl, n, rfl⟩)
        go_roundw
        case rel => exact ⟨k + 1, _, _, _, _, _, _, _, _, _, by omega, rfl, rfl, rfl, rfl, rfl, rfl, rfl, rfl, rfl, by go_num, Lib.hid ⟨by omega, HR.out⟩, below_drewN HB2.out _⟩
        case measure => simp [intOf]; omega
      · as_aux_lemma =>
        have hcc : (lay[k].toNat : Int) = 83 := by rw [hc]; rfl
        clear hc
        obtain ⟨v, r, hv, hcd, rfl⟩ := step_S hq
        clear hq
        dsimp only at hv
        have hvr := num2_range hv
        have HC := Lib.hid (fun w => number_any (bs l) true v r w (by omega) hv)
        clear hv
        obtain ⟨g0, g1, g2⟩ := hvr
        obtain ⟨q0, q1⟩ := hcd
        have e1 : decide (2 ≤ (bs r).size) = false := by rw [size_bs]; simp; omega
        have e3 : ((bs r).size : Int) < 2 := by rw [size_bs]; omega
        go_wp2_with (go_at_call 73; refine (HC.out _).mono ?_; rintro e w' ⟨rfl, n, rfl⟩)
        go_roundw
        case rel => exact ⟨k + 1, _, _, _, _, _, _, _, _, _, by omega, rfl, rfl, rfl, rfl, rfl, rfl, rfl, rfl, rfl, by go_num, Lib.hid ⟨by omega, HR.out⟩, below_drewN HB2.out _⟩
        case measure => simp [intOf]; omega
      · as_aux_lemma =>
        have hcc : (lay[k].toNat : Int) = 80 := by rw [hc]; rfl
        clear hc
        rcases step_P hq with ⟨hv, rfl⟩ | ⟨hv, rfl⟩
        · clear hq
          dsimp only at hv
          have l2 : 2 ≤ (bs l).size := by
            rw [size_bs]
            have := congrArg List.length hv
            simp at this
            omega
          have x0 : (bs l).extract 0 2 = ⟨#[80, 77]⟩ := by rw [ext_take, tl_bs, hv]; rfl
          have e1 : (((bs l).extract 0 2).toList == [80, 77]) = true := by rw [x0, ByteArray.toList_eq]; decide
          have e2 : (((bs l).extract 0 2).toList == [65, 77]) = false := by rw [x0, ByteArray.toList_eq]; decide
          have e3 : (2 : Int) ≤ ((bs l).size : Int) := by omega
          clear x0 hv
          go_wp2
          go_quiet (fail)
          go_wp2
          go_roundw
          case rel => exact ⟨k + 1, _, _, _, _, _, _, _, _, _, by omega, str_eq (by rw [ext_drop, tl_bs]), rfl, rfl, rfl, rfl, rfl, rfl, rfl, rfl, by go_num, Lib.hid ⟨by (simp only [List.length_drop]; omega), HR.out⟩, below_drewN HB2.out _⟩
          case measure => simp [intOf]; omega
        · clear hq
          dsimp only at hv
          have l2 : 2 ≤ (bs l).size := by
            rw [size_bs]
            have := congrArg List.length hv
            simp at this
            omega
          have x0 : (bs l).extract 0 2 = ⟨#[65, 77]⟩ := by rw [ext_take, tl_bs, hv]; rfl
          have e1 : (((bs l).extract 0 2).toList == [80, 77]) = false := by rw [x0, ByteArray.toList_eq]; decide
          have e2 : (((bs l).extract 0 2).toList == [65, 77]) = true := by rw [x0, ByteArray.toList_eq]; decide
          have e3 : (2 : Int) ≤ ((bs l).size : Int) := by omega
          clear x0 hv
          go_wp2
          go_quiet (fail)
          go_wp2
          go_roundw
          case rel => exact ⟨k + 1, _, _, _, _, _, _, _, _, _, by omega, str_eq (by rw [ext_drop, tl_bs]), rfl, rfl, rfl, rfl, rfl, rfl, rfl, rfl, by go_num, Lib.hid ⟨by (simp only [List.length_drop]; omega), HR.out⟩, below_drewN HB2.out _⟩
          case measure => simp [intOf]; omega
      · as_aux_lemma =>
        have hcc : (lay[k].toNat : Int) = 32 := by rw [hc]; rfl
        clear hc
        obtain ⟨hv, rfl⟩ := step_blank hq
        clear hq
        dsimp only at hv
        have l0 : 0 < (bs l).size := by
          rw [size_bs]
          cases l with
          | nil => cases hv
          | cons a t => simp
        have e0 : (bs l)[0] = 32 := by
          have := tl_getElem (bs l) 0 l0
          rw [tl_bs, ← List.head?_eq_getElem?, hv] at this
          exact (Option.some.inj this).symm
        have e1 : (((bs l)[0].toNat : Int) == 32) = true := by rw [e0]; rfl
        have e2 : (bs l).toList.isEmpty = false := ne_empty l0
        clear e0 hv
        obtain ⟨wo, rfl⟩ : ∃ wo : World, wo = wr := ⟨_, rfl⟩
        go_wp2
        go_loop [1] (fun v1 => ∃ l' : List UInt8, v1 = .string (bs l') ∧ Hid (l'.length ≤ l.length ∧ l'.dropWhile (· == 32) = l.dropWhile (· == 32))) (fun v1 => strSz v1)
        case atStart => exact ⟨l, rfl, Lib.hid ⟨Nat.le_refl _, rfl⟩⟩
        case round =>
          obtain ⟨l', rfl, HE⟩ := hrel
          clear e1 e2
          have he := HE.out
          have hsz' : (bs l').size ≤ 1000000 := by rw [size_bs]; rw [size_bs] at hsz; omega
          clear HE
          by_cases hh : l'.head? = some 32
          · have l0' : 0 < (bs l').size := by
              rw [size_bs]
              cases l' with
              | nil => cases hh
              | cons a t => simp
            have e0 : (bs l')[0] = 32 := by
              have := tl_getElem (bs l') 0 l0'
              rw [tl_bs, ← List.head?_eq_getElem?, hh] at this
              exact (Option.some.inj this).symm
            have e1 : (((bs l')[0].toNat : Int) == 32) = true := by rw [e0]; rfl
            have e2 : (bs l').toList.isEmpty = false := ne_empty l0'
            have e4 : (1 : Int) ≤ ((bs l').size : Int) := by omega
            have HG := Lib.hid (show (l'.drop 1).length ≤ l.length ∧ (l'.drop 1).dropWhile (· == 32) = l.dropWhile (· == 32) from by
              cases l' with
              | nil => cases hh
              | cons a t =>
                obtain rfl : a = 32 := Option.some.inj hh
                refine ⟨by simp at he ⊢; omega, ?_⟩
                rw [← he.2]; rfl)
            clear he hh e0
            go_wp2
            go_round
            case rel => exact ⟨l'.drop 1, str_eq (by rw [ext_drop, tl_bs]), HG⟩
            case measure => rw [ext_drop, tl_bs]; simp only [strSz, size_bs, List.length_drop] at l0' ⊢; omega
          · have HG := Lib.hid (show l.dropWhile (· == 32) = l' from by
              rw [← he.2]
              cases l' with
              | nil => rfl
              | cons a t =>
                rw [List.dropWhile_cons_of_neg]
                simpa using hh)
            have HL := he.1
            clear he
            by_cases hn : l' = []
            · subst hn
              have e2 : (bs []).toList.isEmpty = true := by rw [ByteArray.toList_eq]; rfl
              clear hh
              go_wp2
              go_roundw
              case rel => exact ⟨k + 1, _, _, _, _, _, _, _, _, _, by omega, str_eq (by rw [HG.out]), rfl, rfl, rfl, rfl, rfl, rfl, rfl, rfl, by go_num, Lib.hid ⟨by (rw [HG.out]; simp), HR.out⟩, HB2.out⟩
              case measure => simp [intOf]; omega
            · have l0' : 0 < (bs l').size := by
                rw [size_bs]
                cases l' with
                | nil => exact absurd rfl hn
                | cons a t => simp
              have e1 : (((bs l')[0].toNat : Int) == 32) = false := by
                have h0 := tl_getElem (bs l') 0 l0'
                rw [tl_bs, ← List.head?_eq_getElem?] at h0
                rw [h0] at hh
                simp only [beq_eq_false_iff_ne, ne_eq]
                intro e
                refine hh (congrArg some ?_)
                exact UInt8.toNat_inj.1 (by show _ = 32; omega)
              have e2 : (bs l').toList.isEmpty = false := ne_empty l0'
              clear hh hn
              go_wp2
              go_roundw
              case rel => exact ⟨k + 1, _, _, _, _, _, _, _, _, _, by omega, str_eq (by rw [HG.out]), rfl, rfl, rfl, rfl, rfl, rfl, rfl, rfl, by go_num, Lib.hid ⟨by (rw [HG.out]; omega), HR.out⟩, HB2.out⟩
              case measure => simp [intOf]; omega
      · as_aux_lemma =>
        have hcc : (lay[k].toNat : Int) = 45 := by rw [hc]; rfl
        clear hc
        obtain ⟨hv, rfl⟩ := step_dash hq
        clear hq
        dsimp only at hv
        have l0 : 0 < (bs l).size := by
          rw [size_bs]
          cases l with
          | nil => cases hv
          | cons a t => simp
        have e0 : (bs l)[0] = 45 := by
          have := tl_getElem (bs l) 0 l0
          rw [tl_bs, ← List.head?_eq_getElem?, hv] at this
          exact (Option.some.inj this).symm
        have e1 : (((bs l)[0].toNat : Int) == (lay[k].toNat : Int)) = true := by rw [hcc, e0]; rfl
        have e2 : (bs l).toList.isEmpty = false := ne_empty l0
        have e3 : (0 : Int) < ((bs l).size : Int) := by omega
        have e4 : (1 : Int) ≤ ((bs l).size : Int) := by omega
        have e5 : (k : Int) < (lay.size : Int) := by omega
        clear e0 hv
        go_wp2
        go_quiet (fail)
        go_wp2
        go_roundw
        case rel => exact ⟨k + 1, _, _, _, _, _, _, _, _, _, by omega, str_eq (by rw [ext_drop, tl_bs]), rfl, rfl, rfl, rfl, rfl, rfl, rfl, rfl, by go_num, Lib.hid ⟨by (simp only [List.length_drop]; omega), HR.out⟩, below_drewN HB2.out _⟩
        case measure => simp [intOf]; omega
      · as_aux_lemma =>
        have hcc : (lay[k].toNat : Int) = 58 := by rw [hc]; rfl
        clear hc
        obtain ⟨hv, rfl⟩ := step_colon hq
        clear hq
        dsimp only at hv
        have l0 : 0 < (bs l).size := by
          rw [size_bs]
          cases l with
          | nil => cases hv
          | cons a t => simp
        have e0 : (bs l)[0] = 58 := by
          have := tl_getElem (bs l) 0 l0
          rw [tl_bs, ← List.head?_eq_getElem?, hv] at this
          exact (Option.some.inj this).symm
        have e1 : (((bs l)[0].toNat : Int) == (lay[k].toNat : Int)) = true := by rw [hcc, e0]; rfl
        have e2 : (bs l).toList.isEmpty = false := ne_empty l0
        have e3 : (0 : Int) < ((bs l).size : Int) := by omega
        have e4 : (1 : Int) ≤ ((bs l).size : Int) := by omega
        have e5 : (k : Int) < (lay.size : Int) := by omega
        clear e0 hv
        go_wp2
        go_quiet (fail)
        go_wp2
        go_roundw
        case rel => exact ⟨k + 1, _, _, _, _, _, _, _, _, _, by omega, str_eq (by rw [ext_drop, tl_bs]), rfl, rfl, rfl, rfl, rfl, rfl, rfl, rfl, by go_num, Lib.hid ⟨by (simp only [List.length_drop]; omega), HR.out⟩, below_drewN HB2.out _⟩
        case measure => simp [intOf]; omega
    · obtain rfl : k = lay.size := by omega
      have hh := HH.out
      clear HH
      obtain ⟨hll, hst⟩ := hh
      rw [List.drop_of_length_le (by rw [tl_length]; omega)] at hst
      obtain rfl : (⟨y, mo, d, h, mi, sec, pm, am, l⟩ : PT) = fin := Option.some.inj hst
      clear hst
      have HB2 := Lib.hid HB
      clear HB
      obtain ⟨f1, f2, f3, f4, f5, f6, f7, f8, f9, f10, f11, f12, f13⟩ := hfin
      dsimp only at f1 f2 f3 f4 f5 f6 f7 f8 f9 f10 f11 f12 f13
      subst f1
      have e2 : (bs []).toList.isEmpty = true := by rw [ByteArray.toList_eq]; rfl
      have hdb := dbefore_range y mo d f4 f5 f6 f7 f2 f3
      have hmd := mdays_range mo y
      clear HF hll
      by_cases h12 : h < 12
      · have h12n : ¬ (h = 12) := by omega
        cases pm <;> cases am
        all_goals
          have b1 : decide (h = 12) = false := by simp; omega
          have b2 : (h == 12) = false := by simp; omega
          go_wp2_with (first
            | (go_at_call 76; refine (daysIn_any _ _ _ (by omega) (by omega)).mono ?_; rintro e w' ⟨rfl, rfl⟩)
            | (go_at_call 77; refine (dbefore_any _ _ _ _ (by omega) (by omega) (by omega) (by omega) (by omega) (by omega)).mono ?_; rintro e w' ⟨rfl, rfl⟩))
          go_ret2
          refine ⟨?_, HB2.out⟩
          simp [PT.secs, hour, h12, h12n]
      · have h12g : ¬ (h < 12) := h12
        by_cases he : h = 12
        · subst he
          cases pm <;> cases am
          all_goals
            go_wp2_with (first
              | (go_at_call 76; refine (daysIn_any _ _ _ (by omega) (by omega)).mono ?_; rintro e w' ⟨rfl, rfl⟩)
              | (go_at_call 77; refine (dbefore_any _ _ _ _ (by omega) (by omega) (by omega) (by omega) (by omega) (by omega)).mono ?_; rintro e w' ⟨rfl, rfl⟩))
            go_ret2
            refine ⟨?_, HB2.out⟩
            simp [PT.secs, hour]
        · have b1 : decide (h = 12) = false := by simp; omega
          have b2 : (h == 12) = false := by simp; omega
          cases pm <;> cases am
          all_goals
            go_wp2_with (first
              | (go_at_call 76; refine (daysIn_any _ _ _ (by omega) (by omega)).mono ?_; rintro e w' ⟨rfl, rfl⟩)
              | (go_at_call 77; refine (dbefore_any _ _ _ _ (by omega) (by omega) (by omega) (by omega) (by omega) (by omega)).mono ?_; rintro e w' ⟨rfl, rfl⟩))
            go_ret2
            refine ⟨?_, HB2.out⟩
            have hx : ¬ (h < 12) := by omega
            simp [PT.secs, hour, hx, he]
end Go.Proofs.YtdgmfkapglmlhaaGreatDoor
