/-
  Contracts of the reader of lines after RFC 3659.
-/
import Derived.Test.YtdgmfkapglmlhaaGreatDoorFF
import Derived.Test.YtdgmfkapglmlhaaGreatDoorFH
import Derived.Deep.QuietTactic
import Derived.BigQuiet
import Derived.Outline
namespace Go.Proofs.YtdgmfkapglmlhaaGreatDoor
open Go.RowKit

def kType : List UInt8 := [116, 121, 112, 101]
def kSize : List UInt8 := [115, 105, 122, 101]
def kModify : List UInt8 := [109, 111, 100, 105, 102, 121]
def layM : ByteArray := ⟨#[89, 77, 68, 72, 78, 83]⟩
/-- A fact of a line, and what it says. -/
inductive Fact : List UInt8 → Int × Int × Int → Int × Int × Int → Prop
  | file (k s t : Int) : Fact (kType ++ 61 :: [102, 105, 108, 101]) (k, s, t) (0, s, t)
  | dir (k s t : Int) : Fact (kType ++ 61 :: [100, 105, 114]) (k, s, t) (1, s, t)
  | size (d : List UInt8) (k s t : Int) (n : Int) (hl : d.length ≤ 1000) (h : ∀ (x : Nat) (nm tg : ByteArray) (w : World), w.heap[x]? = some (.cells (ent nm tg k s t) 74 (0, 0)) → Calls Tryz.prog 54 #[.pointer (some ⟨x, 0, none⟩), .string (bs d)] w fun e w' => e = .returned .nilIface ∧ w'.heap[x]? = some (.cells (ent nm tg k n t) 74 (0, 0)) ∧ Turned x w w') : Fact (kSize ++ 61 :: d) (k, s, t) (k, n, t)
  | modify (d : List UInt8) (k s t : Int) (fin : PT) (hl : d.length ≤ 1000) (h : steps (tl layM) (pt0 d) = some fin) (ok : FinOk fin) : Fact (kModify ++ 61 :: d) (k, s, t) (k, s, fin.secs)

def RowAt (w : World) (g : Nat) (fs : List (List UInt8)) : Prop := ∀ (k : Nat) f, fs[k]? = some f → w.cell? ⟨g, k, none⟩ = some (strV f)
theorem RowAt.kept {w w' : World} {g : Nat} {fs : List (List UInt8)} (h : RowAt w g fs) (hk : w'.heap[g]? = w.heap[g]?) : RowAt w' g fs := fun k f hf => by
  rw [World.cell?_of_block (w := w) hk]
  exact h k f hf
theorem own_row {w : World} {B : Nat} {v : Value} {fs : List (List UInt8)} (h : w.ownsRow B 9 1 v fs.length (fs.map strV)) (hn : 0 < fs.length) : ∃ g c, v = .slice (some ⟨g, 0, none⟩) fs.length c ∧ B ≤ g ∧ g < w.heap.size ∧ RowAt w g fs := by
  have hlt := h.lt
  rcases h.2 with ⟨rfl, h0⟩ | ⟨g, cap, cur, rfl, _, hg, hr⟩
  · omega
  · obtain ⟨_, _, _, hcur⟩ := hr
    refine ⟨g, cap, rfl, (hlt g rfl).1, (hlt g rfl).2, fun j b hj => ?_⟩
    have h1 : (fs.map strV)[j]? = some (strV b) := by rw [List.getElem?_map, hj]; rfl
    rw [← hcur, List.getElem?_take] at h1
    split at h1
    · rw [cell_of_blk hg]
      simpa using h1
    · cases h1

theorem low_bs (l : List UInt8) (h : ∀ c ∈ l, 97 ≤ (c.toNat : Int) ∧ (c.toNat : Int) ≤ 122) : ∀ i (h : i < (bs l).size), 97 ≤ ((bs l)[i].toNat : Int) ∧ ((bs l)[i].toNat : Int) ≤ 122 := by
  intro i hi
  have := tl_getElem (bs l) i hi
  rw [tl_bs] at this
  exact h _ (List.mem_of_getElem? this)
theorem key_type : ∀ c ∈ kType, 97 ≤ (c.toNat : Int) ∧ (c.toNat : Int) ≤ 122 := by decide
theorem key_size : ∀ c ∈ kSize, 97 ≤ (c.toNat : Int) ∧ (c.toNat : Int) ≤ 122 := by decide
theorem key_modify : ∀ c ∈ kModify, 97 ≤ (c.toNat : Int) ∧ (c.toNat : Int) ≤ 122 := by decide

/-- A key and its value: the field parted at the sign of equality. -/
theorem field_parts (key d : List UInt8) (hk : (61 : UInt8) ∉ key) (hl : key.length + d.length ≤ 10000) :
    (∀ w, Calls Tryz.prog 55 #[.string (bs (key ++ 61 :: d)), .string ⟨#[61]⟩] w fun e w' => e = .returned (.int .i64 (key.length : Int)) ∧ w = w') ∧
    (bs (key ++ 61 :: d)).extract 0 key.length = bs key ∧ (bs (key ++ 61 :: d)).extract (key.length + 1) (bs (key ++ 61 :: d)).size = bs d ∧ (bs (key ++ 61 :: d)).size = key.length + 1 + d.length := by
  refine ⟨fun w => index1 (bs (key ++ 61 :: d)) 61 key d w (by rw [size_bs]; simp; omega) rfl hk, ?_, ?_, by rw [size_bs]; simp; omega⟩
  · rw [ext_take, tl_bs]; simp
  · rw [ext_drop, tl_bs, show key ++ 61 :: d = (key ++ [61]) ++ d from by simp, List.drop_left' (by simp)]

set_option maxRecDepth 100000 in
set_option maxHeartbeats 4000000 in
theorem next_any (x : Nat) (s : ByteArray) (name : List UInt8) (fs : List (List UInt8)) (st : Nat → Int × Int × Int) (loc : Value) (w : World) (hx : w.heap[x]? = some (.cells (ent ⟨#[]⟩ ⟨#[]⟩ 0 0 0) 74 (0, 0)))
    (hs : s.size ≤ 10000) (hline : tl s = (joinF fs ++ [59]) ++ 32 :: name) (h32 : (32 : UInt8) ∉ joinF fs) (hne : fs ≠ []) (hf : ∀ f ∈ fs, (59 : UInt8) ∉ f) (hn : fs.length ≤ 1000)
    (h0 : st 0 = (0, 0, 0)) (hst : ∀ k f, fs[k]? = some f → Fact f (st k) (st (k + 1))) :
    Calls Tryz.prog 47 #[.string s, loc, .pointer (some ⟨x, 0, none⟩)] w fun e w' => e = .returned (.tuple #[.pointer (some ⟨x, 0, none⟩), .nilIface]) ∧ w'.heap[x]? = some (.cells (ent (bs name) ⟨#[]⟩ (st fs.length).1 (st fs.length).2.1 (st fs.length).2.2) 74 (0, 0)) ∧ Turned x w w' := by
  -- the line's parts
  obtain ⟨a, b, hab, ha⟩ : ∃ a b, joinF fs ++ [59] = a ++ 59 :: b ∧ (59 : UInt8) ∉ a := by
    match fs, hne with
    | [a], _ => exact ⟨a, [], rfl, hf a (by simp)⟩
    | a :: b :: r, _ => exact ⟨a, joinF (b :: r) ++ [59], by simp [joinF], hf a (by simp)⟩
  have hlen : s.size = (joinF fs).length + 1 + 1 + name.length := by rw [← tl_length, hline]; simp; omega
  have hal : a.length ≤ (joinF fs).length := by
    have := congrArg List.length hab
    simp at this
    omega
  have C1 := Lib.hid (fun w => index1 s 59 a (b ++ 32 :: name) w (by omega) (by rw [hline, hab]; simp) ha)
  have C2 := Lib.hid (fun w => index1 s 32 (joinF fs ++ [59]) name w (by omega) hline (by simp [h32]))
  have ej : (joinF fs ++ [59]).length = (joinF fs).length + 1 := by simp
  rw [ej] at C2
  have X1 := Lib.hid (show s.extract ((joinF fs).length + 1 + 1) s.size = bs name from by
    rw [ext_drop, hline, show (joinF fs ++ [59]) ++ 32 :: name = (joinF fs ++ [59] ++ [32]) ++ name from by simp, List.drop_left' (by simp)])
  have x2 : s.extract 0 (joinF fs).length = bs (joinF fs) := by rw [ext_take, hline]; simp
  have X2 := Lib.hid x2
  have C3 := Lib.hid (fun w => split_any (bs (joinF fs)) fs w (by rw [size_bs]; omega) hn hne rfl hf)
  have HST := Lib.hid hst
  have H0 := Lib.hid h0
  have hfl : 0 < fs.length := by
    cases fs with
    | nil => exact absurd rfl hne
    | cons a t => simp
  have hfb : ∀ f ∈ fs, f.length ≤ 10000 := by
    intro f hf'
    have : ∀ l : List (List UInt8), ∀ f ∈ l, f.length ≤ (joinF l).length := by
      intro l
      induction l with
      | nil => intro f h; simp at h
      | cons c r ih =>
        intro f h
        cases r with
        | nil =>
          have : f = c := by simpa using h
          subst this
          exact Nat.le_refl _
        | cons d r =>
          rcases List.mem_cons.1 h with rfl | h
          · simp [joinF]
          · have := ih f h
            simp only [joinF, List.length_append, List.length_cons] at *
            omega
    have := this fs f hf'
    omega
  have HFB := Lib.hid hfb
  have hxs := lt_of_blk hx
  have cx0 : w.cell? ⟨x, 0, none⟩ = some (.string ⟨#[]⟩) := by rw [cell_of_blk hx]; rfl
  have fx0 : w.frozen? ⟨x, 0, none⟩ = false := frozen_of_blk hx 0
  obtain ⟨wx, hwx⟩ : ∃ wx, w.setCell ⟨x, 0, none⟩ (.string (bs name)) = wx := ⟨_, rfl⟩
  have hx1 : wx.heap[x]? = some (.cells (ent (bs name) ⟨#[]⟩ 0 0 0) 74 (0, 0)) := by rw [← hwx, setCell_blk hx]; rfl
  have ht1 : Turned x w wx := by rw [← hwx]; exact (Turned.refl x w).setCell _
  have HX1 := Lib.hid hx1
  have HT1 := Lib.hid ht1
  have HWX := Lib.hid hwx
  generalize hL : (joinF fs).length = L at *
  have i1 : ((a.length : Int)) ≤ (L : Int) + 1 := by omega
  have i2 : (L : Int) + 1 + 1 ≤ (s.size : Int) := by omega
  have i3 : (L : Int) ≤ (s.size : Int) := by omega
  have i4 : ((L : Int) + 1 + 1).toNat = L + 1 + 1 := by omega
  have i5 : ¬ ((L : Int) + 1 < (a.length : Int)) := by omega
  have i6 : decide ((L : Int) + 1 < (a.length : Int)) = false := by simp; omega
  have hzx := ht1.size
  have HLEN := Lib.hid hlen
  clear hlen hx hx1 ht1 hwx hst h0 hfb hab ha hal hline h32 hne hf x2 ej hL
  go_enter Tryz.func47, Tryz.ntmps47
  go_wp2_with fail
  refine (C1.out _).mono ?_
  rintro e w' ⟨rfl, rfl⟩
  go_wp2_with fail
  refine (C2.out _).mono ?_
  rintro e w' ⟨rfl, rfl⟩
  go_wp2_with fail
  rw [X1.out, HWX.out, X2.out]
  refine (C3.out _).mono ?_
  rintro e w1 ⟨v, rfl, hown, hb1⟩
  obtain ⟨g, c, rfl, hbg, hgl, hrow⟩ := own_row hown hfl
  have hgx : g ≠ x := by omega
  have hx2 := (hb1.block x (by omega)).trans HX1.out
  have ht2 := HT1.out.trans (Turned.of_below (x := x) hb1)
  have IN := Lib.hid (show w1.heap[x]? = some (.cells (ent (bs name) ⟨#[]⟩ (st 0).1 (st 0).2.1 (st 0).2.2) 74 (0, 0)) ∧ RowAt w1 g fs ∧ Turned x w w1 ∧ g < w1.heap.size from ⟨by rw [H0.out]; exact hx2, hrow, ht2, hgl⟩)
  clear hown hb1 hbg hgl hrow hx2 ht2 cx0 fx0 X1 X2 HWX HX1 HT1 C1 C2 C3
  obtain ⟨n, hnn⟩ : ∃ n, fs.length = n := ⟨_, rfl⟩
  rw [hnn] at hfl hn ⊢
  have HNN := Lib.hid hnn
  clear hnn i1 i2 i3 i4 i5 i6 H0
  go_wp2_with fail
  go_loopw [56] (fun i wr => ∃ k : Nat, k ≤ n ∧ i = .int .i64 (k : Int) ∧ Hid (wr.heap[x]? = some (.cells (ent (bs name) ⟨#[]⟩ (st k).1 (st k).2.1 (st k).2.2) 74 (0, 0)) ∧ RowAt wr g fs ∧ Turned x w wr ∧ g < wr.heap.size)) (fun i _ => n - (intOf i).toNat)
  case atStart => exact ⟨0, Nat.zero_le _, rfl, IN⟩
  case round =>
    obtain ⟨k, hk, rfl, HR⟩ := hrel
    obtain ⟨hxr, hrw, htr, hgl⟩ := HR.out
    clear HR
    by_cases hlt : k < n
    · have hlt' : k < fs.length := by rw [HNN.out]; exact hlt
      have hfk : fs[k]? = some fs[k] := List.getElem?_eq_getElem hlt'
      have hfact := HST.out k _ hfk
      have hck := hrw k _ hfk
      have hfl2 := HFB.out _ (List.getElem_mem hlt')
      have XC := Lib.hid hxr
      have ROW := Lib.hid hrw
      have TU := Lib.hid htr
      clear hxr hrw htr hfk
      generalize fs[k] = f at hfact hck hfl2
      unfold strV at hck
      generalize hpq : st (k + 1) = q at hfact
      generalize hpp : st k = p at hfact XC
      have HQ := Lib.hid hpq
      clear hpq hpp
      cases hfact with
      | file p0 p1 p2 =>
        as_aux_lemma =>
          obtain ⟨FC, F1, F2, F3⟩ := field_parts kType [102, 105, 108, 101] (by decide) (by simp [kType] <;> omega)
          generalize hS : bs (kType ++ 61 :: [102, 105, 108, 101]) = S at *
          have hm1 : (kType.length : Int) + 1 ≤ (S.size : Int) := by rw [F3]; omega
          have hm2 : (1 : Int) ≤ (kType.length : Int) := by simp [kType]
          have hm4 : (kType.length : Int) ≤ 100 := by simp [kType]
          generalize kType.length = m at *
          have hm3 : ((m : Int) + 1).toNat = m + 1 := by omega
          have hm5 : ¬ ((m : Int) < 1) := by omega
          have ek_modify : ((bs kType).toList == [109, 111, 100, 105, 102, 121]) = false := by rw [ByteArray.toList_eq]; decide
          have ek_type : ((bs kType).toList == [116, 121, 112, 101]) = true := by rw [ByteArray.toList_eq]; decide
          have GC := Lib.hid FC
          have G1 := Lib.hid F1
          have G2 := Lib.hid F2
          have LW := Lib.hid (fun w => lower_any (bs kType) w (by rw [size_bs]; simp [kType]) (low_bs _ key_type))
          clear FC F1 F2 F3 hS
          have ev_dir : ((S.extract (m + 1) S.size).toList == [100, 105, 114]) = false := by rw [G2.out, ByteArray.toList_eq]; decide
          have ev_cdir : ((S.extract (m + 1) S.size).toList == [99, 100, 105, 114]) = false := by rw [G2.out, ByteArray.toList_eq]; decide
          have ev_pdir : ((S.extract (m + 1) S.size).toList == [112, 100, 105, 114]) = false := by rw [G2.out, ByteArray.toList_eq]; decide
          have ev_file : ((S.extract (m + 1) S.size).toList == [102, 105, 108, 101]) = true := by rw [G2.out, ByteArray.toList_eq]; decide
          have cx2 : wr.cell? ⟨x, 2, none⟩ = some (.int .i64 p0) := by rw [cell_of_blk XC.out]; rfl
          have fx2 : wr.frozen? ⟨x, 2, none⟩ = false := frozen_of_blk XC.out 2
          go_wp2_with (first
            | (go_at_call 55; refine (GC.out _).mono ?_; rintro e w' ⟨rfl, rfl⟩)
            | (go_at_call 64; rw [G1.out]; refine (LW.out _).mono ?_; rintro e w' ⟨rfl, rfl⟩))
          go_roundw
          case rel => exact ⟨k + 1, by omega, by go_num, Lib.hid ⟨by rw [setCell_blk XC.out, HQ.out]; rfl, ROW.out.kept (Below.heap_setCell _ _ _ _ hgx), TU.out.setCell _, by simp only [World.setCell, Array.size_modify]; exact hgl⟩⟩
          case measure => simp [intOf]; omega
      | dir p0 p1 p2 =>
        as_aux_lemma =>
          obtain ⟨FC, F1, F2, F3⟩ := field_parts kType [100, 105, 114] (by decide) (by simp [kType] <;> omega)
          generalize hS : bs (kType ++ 61 :: [100, 105, 114]) = S at *
          have hm1 : (kType.length : Int) + 1 ≤ (S.size : Int) := by rw [F3]; omega
          have hm2 : (1 : Int) ≤ (kType.length : Int) := by simp [kType]
          have hm4 : (kType.length : Int) ≤ 100 := by simp [kType]
          generalize kType.length = m at *
          have hm3 : ((m : Int) + 1).toNat = m + 1 := by omega
          have hm5 : ¬ ((m : Int) < 1) := by omega
          have ek_modify : ((bs kType).toList == [109, 111, 100, 105, 102, 121]) = false := by rw [ByteArray.toList_eq]; decide
          have ek_type : ((bs kType).toList == [116, 121, 112, 101]) = true := by rw [ByteArray.toList_eq]; decide
          have GC := Lib.hid FC
          have G1 := Lib.hid F1
          have G2 := Lib.hid F2
          have LW := Lib.hid (fun w => lower_any (bs kType) w (by rw [size_bs]; simp [kType]) (low_bs _ key_type))
          clear FC F1 F2 F3 hS
          have ev_dir : ((S.extract (m + 1) S.size).toList == [100, 105, 114]) = true := by rw [G2.out, ByteArray.toList_eq]; decide
          have cx2 : wr.cell? ⟨x, 2, none⟩ = some (.int .i64 p0) := by rw [cell_of_blk XC.out]; rfl
          have fx2 : wr.frozen? ⟨x, 2, none⟩ = false := frozen_of_blk XC.out 2
          go_wp2_with (first
            | (go_at_call 55; refine (GC.out _).mono ?_; rintro e w' ⟨rfl, rfl⟩)
            | (go_at_call 64; rw [G1.out]; refine (LW.out _).mono ?_; rintro e w' ⟨rfl, rfl⟩))
          go_roundw
          case rel => exact ⟨k + 1, by omega, by go_num, Lib.hid ⟨by rw [setCell_blk XC.out, HQ.out]; rfl, ROW.out.kept (Below.heap_setCell _ _ _ _ hgx), TU.out.setCell _, by simp only [World.setCell, Array.size_modify]; exact hgl⟩⟩
          case measure => simp [intOf]; omega
      | size d p0 p1 p2 nn hdl hsz =>
        as_aux_lemma =>
          obtain ⟨FC, F1, F2, F3⟩ := field_parts kSize d (by decide) (by simp [kSize] <;> omega)
          generalize hS : bs (kSize ++ 61 :: d) = S at *
          have hm1 : (kSize.length : Int) + 1 ≤ (S.size : Int) := by rw [F3]; omega
          have hm2 : (1 : Int) ≤ (kSize.length : Int) := by simp [kSize]
          have hm4 : (kSize.length : Int) ≤ 100 := by simp [kSize]
          generalize kSize.length = m at *
          have hm3 : ((m : Int) + 1).toNat = m + 1 := by omega
          have hm5 : ¬ ((m : Int) < 1) := by omega
          have ek_modify : ((bs kSize).toList == [109, 111, 100, 105, 102, 121]) = false := by rw [ByteArray.toList_eq]; decide
          have ek_type : ((bs kSize).toList == [116, 121, 112, 101]) = false := by rw [ByteArray.toList_eq]; decide
          have ek_size : ((bs kSize).toList == [115, 105, 122, 101]) = true := by rw [ByteArray.toList_eq]; decide
          have GC := Lib.hid FC
          have G1 := Lib.hid F1
          have G2 := Lib.hid F2
          have LW := Lib.hid (fun w => lower_any (bs kSize) w (by rw [size_bs]; simp [kSize]) (low_bs _ key_size))
          clear FC F1 F2 F3 hS
          have SZ := Lib.hid (hsz x (bs name) ⟨#[]⟩ wr XC.out)
          clear hsz
          go_wp2_with (first
            | (go_at_call 55; refine (GC.out _).mono ?_; rintro e w' ⟨rfl, rfl⟩)
            | (go_at_call 64; rw [G1.out]; refine (LW.out _).mono ?_; rintro e w' ⟨rfl, rfl⟩)
            | (go_at_call 54; rw [G2.out]; refine SZ.out.mono ?_; rintro e w2 ⟨rfl, hx2, ht2⟩; have HX2 := Lib.hid hx2; have HT2 := Lib.hid ht2; clear hx2 ht2))
          go_roundw
          case rel => exact ⟨k + 1, by omega, by go_num, Lib.hid ⟨by rw [HX2.out, HQ.out], ROW.out.kept (HT2.out.block g hgl hgx), TU.out.trans HT2.out, Nat.lt_of_lt_of_le hgl HT2.out.size⟩⟩
          case measure => simp [intOf]; omega
      | modify d p0 p1 p2 fin hdl hsteps hok =>
        as_aux_lemma =>
          obtain ⟨FC, F1, F2, F3⟩ := field_parts kModify d (by decide) (by simp [kModify] <;> omega)
          generalize hS : bs (kModify ++ 61 :: d) = S at *
          have hm1 : (kModify.length : Int) + 1 ≤ (S.size : Int) := by rw [F3]; omega
          have hm2 : (1 : Int) ≤ (kModify.length : Int) := by simp [kModify]
          have hm4 : (kModify.length : Int) ≤ 100 := by simp [kModify]
          generalize kModify.length = m at *
          have hm3 : ((m : Int) + 1).toNat = m + 1 := by omega
          have hm5 : ¬ ((m : Int) < 1) := by omega
          have ek_modify : ((bs kModify).toList == [109, 111, 100, 105, 102, 121]) = true := by rw [ByteArray.toList_eq]; decide
          have GC := Lib.hid FC
          have G1 := Lib.hid F1
          have G2 := Lib.hid F2
          have LW := Lib.hid (fun w => lower_any (bs kModify) w (by rw [size_bs]; simp [kModify]) (low_bs _ key_modify))
          clear FC F1 F2 F3 hS
          have PA := Lib.hid (fun w => parse_any layM (bs d) w fin (by decide) (by rw [size_bs]; omega) hsteps hok)
          clear hsteps hok
          go_wp2_with (first
            | (go_at_call 55; refine (GC.out _).mono ?_; rintro e w' ⟨rfl, rfl⟩)
            | (go_at_call 64; rw [G1.out]; refine (LW.out _).mono ?_; rintro e w' ⟨rfl, rfl⟩))
          rw [G2.out]
          refine (PA.out _).mono ?_
          rintro e w2 ⟨rfl, hb2⟩
          have hx2 := (hb2.block x (lt_of_blk XC.out)).trans XC.out
          have cx4 : w2.cell? ⟨x, 4, none⟩ = some (.int .i64 p2) := by rw [cell_of_blk hx2]; rfl
          have fx4 : w2.frozen? ⟨x, 4, none⟩ = false := frozen_of_blk hx2 4
          have HX2 := Lib.hid hx2
          have HT2 := Lib.hid (Turned.of_below (x := x) hb2)
          clear hx2 hb2
          go_wp2_with fail
          go_roundw
          case rel => exact ⟨k + 1, by omega, by go_num, Lib.hid ⟨by rw [setCell_blk HX2.out, HQ.out]; rfl, ROW.out.kept ((Below.heap_setCell _ _ _ _ hgx).trans (HT2.out.block g hgl hgx)), (TU.out.trans HT2.out).setCell _, by simp only [World.setCell, Array.size_modify]; exact Nat.lt_of_lt_of_le hgl HT2.out.size⟩⟩
          case measure => simp [intOf]; omega
    · obtain rfl : k = n := by omega
      have F := Lib.hid (And.intro hxr htr)
      clear hxr hrw htr hgl
      go_wp2
      go_ret2
      exact ⟨rfl, by rw [HNN.out]; exact F.out.1, F.out.2⟩

set_option maxHeartbeats 800000 in
theorem rfc_any (s : ByteArray) (name : List UInt8) (fs : List (List UInt8)) (st : Nat → Int × Int × Int) (now loc : Value) (w : World)
    (hs : s.size ≤ 10000) (hline : tl s = (joinF fs ++ [59]) ++ 32 :: name) (h32 : (32 : UInt8) ∉ joinF fs) (hne : fs ≠ []) (hf : ∀ f ∈ fs, (59 : UInt8) ∉ f) (hn : fs.length ≤ 1000)
    (h0 : st 0 = (0, 0, 0)) (hst : ∀ k f, fs[k]? = some f → Fact f (st k) (st (k + 1))) :
    Calls Tryz.prog 36 #[.string s, now, loc] w fun e w' => (∃ x, e = .returned (.tuple #[.pointer (some ⟨x, 0, none⟩), .nilIface]) ∧ w'.heap[x]? = some (.cells (ent (bs name) ⟨#[]⟩ (st fs.length).1 (st fs.length).2.1 (st fs.length).2.2) 74 (0, 0))) ∧ Below w.heap.size w w' := by
  have hb := heap_alloc_new w (.cells (ent ⟨#[]⟩ ⟨#[]⟩ 0 0 0) 74 (0, 0))
  have hbl : Below w.heap.size w (w.alloc (.cells (ent ⟨#[]⟩ ⟨#[]⟩ 0 0 0) 74)) := (Below.refl _ _).alloc (Nat.le_refl _) _
  have C := Lib.hid (next_any w.heap.size s name fs st loc _ hb hs hline h32 hne hf hn h0 hst)
  have B := Lib.hid hbl
  clear hb hbl hline h32 hne hf hn h0 hst
  go_enter Tryz.func36, Tryz.ntmps36
  go_wp2_with fail
  refine C.out.mono ?_
  rintro e w1 ⟨rfl, hx, ht⟩
  have F := Lib.hid (And.intro hx (B.out.trans (ht.below (Nat.le_refl _) (by simp))))
  clear hx ht C B
  go_wp2_with fail
  go_ret2
  exact ⟨⟨w.heap.size, rfl, F.out.1⟩, F.out.2⟩
end Go.Proofs.YtdgmfkapglmlhaaGreatDoor
