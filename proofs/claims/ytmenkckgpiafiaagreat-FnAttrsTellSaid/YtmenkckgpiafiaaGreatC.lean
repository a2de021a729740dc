/-
  Contracts of the buffer's making, its begin and its end, and of texts appended.
-/
import Derived.Test.YtmenkckgpiafiaaGreatB
import Derived.Deep.OwnRows
import Derived.Lib.ConvBytes
import Derived.Deep.RegionHeld3
namespace Go.Proofs.YtmenkckgpiafiaaGreat
open Go.RowKit

set_option maxHeartbeats 400000 in
theorem newBuffer (A : Option Addr) (n c : Nat) (w : World) :
    Calls Tryz.prog 96 #[.slice A n c] w fun e w' => e = .returned (.pointer (some ⟨w.heap.size, 0, none⟩)) ∧ w.alloc (.cells #[.slice A n c, .int .i64 0, .nilIface] 120) = w' := by
  go_enter Tryz.func96, Tryz.ntmps96
  go_wp2
  go_ret
  exact ⟨rfl, rfl⟩

set_option maxHeartbeats 400000 in
theorem capB (p : Addr) (A : Option Addr) (n c : Nat) (w : World) (hc : w.cell? p = some (.slice A n c)) :
    Calls Tryz.prog 175 #[.pointer (some p)] w fun e w' => e = .returned (.int .i64 (c : Int)) ∧ w = w' := by
  go_enter Tryz.func175, Tryz.ntmps175
  go_wp2
  go_ret
  exact ⟨rfl, rfl⟩

theorem make8 (m : Nat) (hm : m ≤ 1000000000) :
    ∀ W : World, (Instr.makeSlice 93 (.int .i64 (m : Int)) (.int .i64 (m : Int))).run Tryz.prog W = .ok (.slice (some ⟨W.heap.size, 0, none⟩) m m) (W.alloc (.cells (madeCells #[.int .u8 0] m) 5)) := by
  intro W
  exact run_make_row' 93 5 (.int .u8 0) 1 Tryz.underlying93 info8 rfl .i64 .i64 m (by omega) (by omega) W

/-- A new marshalling buffer. -/
def Made (base : Nat) (w : World) (e : Ending) (w' : World) : Prop :=
  ∃ g h N l, e = .returned (.pointer (some ⟨g, 0, none⟩)) ∧ MBuf base w' g (.slice (some ⟨h, 0, none⟩) N N) l ∧ 9 ≤ N ∧ Below base w w'
theorem made_mbuf (base : Nat) (w : World) (N : Nat) (hN : N ≤ 1000000000) (hb : base ≤ w.heap.size) :
    MBuf base ((w.alloc (.cells (madeCells #[.int .u8 0] N) 5)).alloc (.cells #[.slice (some ⟨w.heap.size, 0, none⟩) N N, .int .i64 0, .nilIface] 120)) (w.heap.size + 1) (.slice (some ⟨w.heap.size, 0, none⟩) N N) (List.replicate N 0) := by
  have h := World.ownsRow_lit (base := base) (e := 5) (size := 1) w (madeCells #[.int .u8 0] N) N hb (by simp only [maxLen]; omega) (by simp [size_madeCells])
  have hl : (madeCells #[Value.int .u8 0] N).toList = u8s (List.replicate N 0) := by
    apply List.ext_getElem
    · simp [u8s, madeCells]
    · intro i h1 h2
      simp [u8s, u8, madeCells, Nat.mod_one]
  rw [hl] at h
  refine ⟨?_, ?_, by omega, by simp [Value.ownBlock]⟩
  · rw [show w.heap.size + 1 = (w.alloc (.cells (madeCells #[.int .u8 0] N) 5)).heap.size from by simp]
    exact heap_alloc_new _ _
  · rw [List.length_replicate]
    exact h.alloc _

set_option maxHeartbeats 400000 in
theorem newMarshal (base : Nat) (x : Int) (w : World) (hb : base ≤ w.heap.size) (h0 : 0 ≤ x) (h1 : x ≤ 100000000) :
    Calls Tryz.prog 176 #[.int .i64 x] w (Made base w) := by
  obtain ⟨k, rfl⟩ := Int.eq_ofNat_of_zero_le h0
  have hmk := make8 (9 + k) (by omega)
  rw [show ((9 + k : Nat) : Int) = 9 + (k : Int) from by omega] at hmk
  go_enter Tryz.func176, Tryz.ntmps176
  go_wp2_with (go_at_call 96; refine (newBuffer _ _ _ _).mono ?_; rintro e w' ⟨rfl, rfl⟩)
  go_ret
  exact ⟨_, _, _, _, rfl, made_mbuf base w (9 + k) (by omega) hb, by omega, ((Below.refl _ _).alloc hb _).alloc (by simp; omega) _⟩

/-- Appended to a buffer. -/
def Appd (base g : Nat) (v : Value) (l nb : List UInt8) (w : World) (e : Ending) (w' : World) : Prop :=
  e = .returned (.tuple #[]) ∧ ∃ v', MBuf base w' g v' (l ++ nb) ∧ Upd g v w w' ∧ (v'.ownBlock = v.ownBlock ∨ ∃ k, v'.ownBlock = some k ∧ w.heap.size ≤ k)

set_option maxHeartbeats 800000 in
theorem startPacket (base g h n cap : Nat) (l : List UInt8) (t i : Int) (w : World) (hb : MBuf base w g (.slice (some ⟨h, 0, none⟩) n cap) l) (hcap : 4 ≤ cap) (t0 : 0 ≤ t) (t1 : t ≤ 255) (i0 : 0 ≤ i) (i1 : i ≤ 4294967295) :
    Calls Tryz.prog 177 #[.pointer (some ⟨g, 0, none⟩), .int .u8 t, .int .u32 i] w fun e w' => e = .returned (.tuple #[]) ∧ ∃ v', MBuf base w' g v' ([0, 0, 0, 0, bt t] ++ be32 i) ∧ Below base w w' := by
  have hn : n = l.length := by
    have := hb.own.2
    rcases this with ⟨h, _⟩ | ⟨_, _, _, h, _⟩
    · cases h
    · injection h
  subst hn
  obtain ⟨w1, hr, hown1, hg1⟩ := run_zeros4 (P := Tryz.prog) w 93 3 93 5 .i64 Tryz.underlying93 Tryz.underlying3 info8 base h cap _ _ hb.own hcap
  have c0 := hb.cell
  have hm := hb.begun (nb := [0, 0, 0, 0]) hown1 hg1 rfl
  have k1 := hb.blkAfter hg1
  have c10 : w1.cell? ⟨g, 0, none⟩ = some (.slice (some ⟨h, 0, none⟩) l.length cap) := by rw [cell_of_blk k1]; rfl
  have c11 : w1.cell? ⟨g, 1, none⟩ = some (.int .i64 0) := by rw [cell_of_blk k1]; rfl
  have c12 : w1.cell? ⟨g, 2, none⟩ = some .nilIface := by rw [cell_of_blk k1]; rfl
  have f10 := frozen_of_blk k1 0
  have f11 := frozen_of_blk k1 1
  have f12 := frozen_of_blk k1 2
  have HM := Lib.hid hm
  have HB := Lib.hid hb
  clear hm hb k1
  go_enter Tryz.func177, Tryz.ntmps177
  go_wp2_with (at_builtin; refine Lib.wpList_append_run w rfl _ _ 93 3 rfl _ _ rfl rfl _ _ hr ?_)
  refine (append8 base g _ _ _ _ HM.out.1 t0 t1 (by simp)).mono ?_
  rintro e w2 ⟨rfl, v2, m2, u2, o2⟩
  have M2 := Lib.hid m2
  have U2 := Lib.hid (HB.out.below HM.out.2)
  have U3 := Lib.hid (HM.out.1.below u2)
  clear m2 u2 o2
  go_wp2_with fail
  refine (append32 base g _ _ _ _ M2.out i0 i1 (by simp [b1])).mono ?_
  rintro e w3 ⟨rfl, v3, m3, u3, o3⟩
  have M3 := Lib.hid m3
  have U4 := Lib.hid (M2.out.below u3)
  clear m3 u3 o3
  go_wp2_with fail
  go_end0
  exact ⟨rfl, _, M3.out, (U2.out.trans U3.out).trans U4.out⟩

set_option maxHeartbeats 800000 in
/-- Bytes from a row that is no part of the buffer. -/
theorem appendBytes (base g : Nat) (v : Value) (l : List UInt8) (s o n c : Nat) (nb : List UInt8) (w : World) (hb : MBuf base w g v l) (hl : l.length ≤ 900000000)
    (hn : nb.length = n) (hn2 : n ≤ 100000000) (hs : s < w.heap.size) (hsg : s ≠ g) (hsv : v.ownBlock ≠ some s) (hsrc : ∀ j b, nb[j]? = some b → w.cell? ⟨s, o + j, none⟩ = some (u8 b)) :
    Calls Tryz.prog 129 #[.pointer (some ⟨g, 0, none⟩), .slice (some ⟨s, o, none⟩) n c] w (Appd base g v l (be32 n ++ nb) w) := by
  have HS := Lib.hid hsrc
  have HN := Lib.hid hn
  have HV := Lib.hid hsv
  clear hsrc hn hsv
  go_enter Tryz.func129, Tryz.ntmps129
  go_wp2_with fail
  refine (append32 base g _ _ _ _ hb (by omega) (by omega) (by omega)).mono ?_
  rintro e w1 ⟨rfl, v1, m1, u1, o1⟩
  have c1 := m1.cell
  have hbl := m1.baseLe
  have M1 := Lib.hid m1
  have U1 := Lib.hid u1
  have O1 := Lib.hid o1
  clear m1 u1 o1
  go_wp2_with (at_builtin; refine app_src rfl _ _ 93 5 rfl Tryz.underlying93 info8 base v1 (l ++ be32 n) rfl M1.out.own ⟨s, o, none⟩ n c nb rfl ?_ HN.out ?c1 ?c2 ?c3; intro v2 w2 hown hg hat; obtain ⟨A1, cap1, rfl⟩ := own_slice hown; have cg := M1.out.cellAfter hg; have fg := M1.out.frozenAfter hg)
  · go_end0
    have hm := M1.out.appended hown hg (hat.imp id (fun e => ⟨_, e, by omega⟩))
    simp only [List.length_append, List.append_assoc] at hm
    exact ⟨rfl, _, hm.1, U1.out.trans O1.out hm.2.1, own_trans U1.out.size O1.out hm.2.2⟩
  case c1 =>
    intro j b hj
    rw [add_plain]
    exact U1.out.cell hs hsg HV.out (HS.out j b hj)
  case c2 => simp [be32]; omega
  case c3 => exact hbl

set_option maxHeartbeats 800000 in
theorem appendString (base g : Nat) (v : Value) (l : List UInt8) (s : ByteArray) (w : World) (hb : MBuf base w g v l) (hl : l.length ≤ 900000000) (hs : s.size ≤ 100000000) :
    Calls Tryz.prog 103 #[.pointer (some ⟨g, 0, none⟩), .string s] w (Appd base g v l (str (tl s)) w) := by
  have kb := fun W => Lib.run_convert_string_bytes (P := Tryz.prog) W 9 93 5 s Tryz.underlying9 Tryz.underlying93 Tryz.underlying5
  go_enter Tryz.func103, Tryz.ntmps103
  go_wp2_with fail
  refine (appendBytes base g v l w.heap.size 0 s.size _ (tl s) _ (hb.bytes _ s) hl (tl_length s) hs (by rw [Lib.bytesWorld_size]; omega) ?_ (own_ne_size hb.own (Nat.le_refl _)) (bytes_src w _ s)).mono ?_
  · have := lt_of_blk hb.blk
    omega
  · rintro e w1 ⟨rfl, v1, m1, u1, o1⟩
    have M1 := Lib.hid m1
    have U1 := Lib.hid u1
    have O1 := Lib.hid o1
    clear m1 u1 o1
    go_wp2_with fail
    go_end0
    refine ⟨rfl, _, ?_, (bytes_upd w _ s g v).trans (.inl rfl) U1.out, own_trans (bytes_upd w _ s g v).size (.inl rfl) O1.out⟩
    unfold str
    rw [tl_length]
    exact M1.out

set_option maxHeartbeats 800000 in
theorem putU32 (base h cap : Nat) (l : List UInt8) (x : Int) (w : World) (ho : w.ownsRow base 5 1 (.slice (some ⟨h, 0, none⟩) l.length cap) l.length (u8s l)) (hl : 4 ≤ l.length) (hl2 : l.length ≤ 1000000000) (x0 : 0 ≤ x) (x1 : x ≤ 4294967295) :
    Calls Tryz.prog 138 #[.slice (some ⟨h, 0, none⟩) l.length cap, .int .u32 x] w fun e w' => e = .returned (.tuple #[]) ∧ w'.ownsRow base 5 1 (.slice (some ⟨h, 0, none⟩) l.length cap) l.length (u8s (be32 x ++ l.drop 4)) ∧ w.grownBy w' (some h) := by
  have c0 : w.cell? ⟨h, 0, none⟩ = some (u8 (l.getD 0 0)) := by rw [ho.cellAt 0 (by omega)]; simp [u8s, List.getD_eq_getElem?_getD, List.getElem?_eq_getElem (show 0 < l.length by omega)]
  have c1 : w.cell? ⟨h, 1, none⟩ = some (u8 (l.getD 1 0)) := by rw [ho.cellAt 1 (by omega)]; simp [u8s, List.getD_eq_getElem?_getD, List.getElem?_eq_getElem (show 1 < l.length by omega)]
  have c2 : w.cell? ⟨h, 2, none⟩ = some (u8 (l.getD 2 0)) := by rw [ho.cellAt 2 (by omega)]; simp [u8s, List.getD_eq_getElem?_getD, List.getElem?_eq_getElem (show 2 < l.length by omega)]
  have c3 : w.cell? ⟨h, 3, none⟩ = some (u8 (l.getD 3 0)) := by rw [ho.cellAt 3 (by omega)]; simp [u8s, List.getD_eq_getElem?_getD, List.getElem?_eq_getElem (show 3 < l.length by omega)]
  have f0 := ho.frozenAt 0
  have f1 := ho.frozenAt 1
  have f2 := ho.frozenAt 2
  have f3 := ho.frozenAt 3
  have HO := Lib.hid ho
  clear ho
  have i0 : (0 : Int) < (l.length : Int) := by omega
  have i1 : (1 : Int) < (l.length : Int) := by omega
  have i2 : (2 : Int) < (l.length : Int) := by omega
  have i3 : (3 : Int) < (l.length : Int) := by omega
  go_enter Tryz.func138, Tryz.ntmps138
  go_wp2
  go_end0
  have s0 := HO.out.stored 0 (.int .u8 (x / 16777216))
  have s1 := s0.1.stored 1 (.int .u8 (x / 65536 % 256))
  have s2 := s1.1.stored 2 (.int .u8 (x / 256 % 256))
  have s3 := s2.1.stored 3 (.int .u8 (x % 256))
  have e := set4 l x _ _ _ _ hl (u8_bt (x := x / 16777216) (y := x / 16777216) (by omega)) (u8_bt (x := x / 65536) (y := x / 65536 % 256) rfl) (u8_bt (x := x / 256) (y := x / 256 % 256) rfl) (u8_bt (x := x) (y := x % 256) rfl)
  refine ⟨rfl, ?_, ((s0.2.trans s1.2).trans s2.2).trans s3.2⟩
  rw [← e]
  exact s3.1

set_option maxHeartbeats 800000 in
theorem putLength (base g : Nat) (v : Value) (l : List UInt8) (x : Int) (w : World) (hb : MBuf base w g v l) (hl : 4 ≤ l.length) (hl2 : l.length ≤ 100000000) (x0 : 0 ≤ x) (x1 : x ≤ 4294967295) :
    Calls Tryz.prog 111 #[.pointer (some ⟨g, 0, none⟩), .int .i64 x] w fun e w' => e = .returned (.tuple #[]) ∧ MBuf base w' g v (be32 x ++ l.drop 4) ∧ w.grownBy w' v.ownBlock := by
  obtain ⟨h, c1, rfl⟩ := own_form hb.own (by omega)
  have c0 := hb.cell
  have HB := Lib.hid hb
  clear hb
  have d0 : decide ((l.length : Int) < 4) = false := by simp; omega
  go_enter Tryz.func111, Tryz.ntmps111
  go_wp2_with fail
  refine (putU32 base h c1 l x _ HB.out.own hl (by omega) x0 x1).mono ?_
  rintro e w1 ⟨rfl, o1, g1⟩
  have hm : MBuf base w1 g (.slice (some ⟨h, 0, none⟩) l.length c1) (be32 x ++ l.drop 4) := by
    refine HB.out.inPlace ?_ g1
    have e : (be32 x ++ l.drop 4).length = l.length := by simp [be32]; omega
    rw [e]
    exact o1
  have HM := Lib.hid hm
  have HG := Lib.hid g1
  clear hm g1 o1
  go_wp2_with fail
  go_end0
  exact ⟨rfl, HM.out, HG.out⟩

set_option maxHeartbeats 800000 in
/-- The end of a packet: its length is put ahead. -/
theorem packet0 (base g : Nat) (v : Value) (l : List UInt8) (A : Option Addr) (n c : Nat) (w : World) (hb : MBuf base w g v l) (hl : 9 ≤ l.length) (hl2 : l.length ≤ 100000000) (hn : n ≤ 100000000) :
    Calls Tryz.prog 178 #[.pointer (some ⟨g, 0, none⟩), .slice A n c] w fun e w' => e = .returned (.tuple #[v, .slice A n c, .nilIface]) ∧ MBuf base w' g v (be32 (l.length - 4 + n) ++ l.drop 4) ∧ w.grownBy w' v.ownBlock := by
  obtain ⟨A0, c1, rfl⟩ := own_slice hb.own
  have c0 := hb.cell
  have HB := Lib.hid hb
  clear hb
  go_enter Tryz.func178, Tryz.ntmps178
  go_wp2_with fail
  refine (putLength base g _ l _ _ HB.out (by omega) hl2 (by omega) (by omega)).mono ?_
  rintro e w1 ⟨rfl, m1, g1⟩
  have c01 := m1.cell
  have HM := Lib.hid m1
  have HG := Lib.hid g1
  clear m1 g1
  go_wp2_with fail
  go_ret3
  exact ⟨rfl, HM.out, HG.out⟩

set_option maxHeartbeats 800000 in
theorem compose (base : Nat) (v : Value) (l : List UInt8) (A : Option Addr) (n c : Nat) (nb : List UInt8) (w : World) (ho : w.ownsRow base 5 1 v l.length (u8s l)) (hb : base ≤ w.heap.size) (hl : l.length ≤ 900000000)
    (hn : nb.length = n) (hn2 : n ≤ 100000000) (hsrc : A = none ∧ n = 0 ∧ c = 0 ∨ ∃ s o, A = some ⟨s, o, none⟩ ∧ ∀ j b, nb[j]? = some b → w.cell? ⟨s, o + j, none⟩ = some (u8 b)) :
    Calls Tryz.prog 55 #[v, .slice A n c, .nilIface] w fun e w' => ∃ v', e = .returned (.tuple #[v', .nilIface]) ∧ w'.ownsRow base 5 1 v' (l ++ nb).length (u8s (l ++ nb)) ∧ Below base w w' := by
  obtain ⟨A0, c1, rfl⟩ := own_slice ho
  have HO := Lib.hid ho
  have HN := Lib.hid hn
  clear ho hn
  rcases hsrc with ⟨rfl, rfl, rfl⟩ | ⟨s, o, rfl, hsrc⟩
  · obtain rfl : nb = [] := List.eq_nil_of_length_eq_zero HN.out
    obtain ⟨i0, hi, hzz⟩ := Option.map_eq_some_iff.1 info8
    simp only [Prod.mk.injEq] at hzz
    have hr := run_append_owned_none (P := Tryz.prog) (w := w) base 93 93 5 i0 1 Tryz.underlying93 hi _ _ _ HO.out
    clear hzz
    go_enter Tryz.func55, Tryz.ntmps55
    go_wp2_with (at_builtin; refine Lib.wpList_append_run w rfl _ _ 93 93 rfl _ _ rfl rfl _ _ hr ?_)
    go_ret2
    exact ⟨_, rfl, by simpa using HO.out, Below.refl _ _⟩
  · have HS := Lib.hid hsrc
    clear hsrc
    go_enter Tryz.func55, Tryz.ntmps55
    go_wp2_with (at_builtin; refine app_src rfl _ _ 93 5 rfl Tryz.underlying93 info8 base _ l rfl HO.out ⟨s, o, none⟩ n c nb rfl ?_ HN.out ?c1 ?c2 ?c3; intro v2 w2 hown hg hat; have HOW := Lib.hid hown; have HG := Lib.hid hg; clear hown hg hat)
    · go_ret2
      exact ⟨_, rfl, HOW.out, (Below.refl _ _).grown HG.out hb (fun k hk => (HO.out.lt k hk).1)⟩
    case c1 =>
      intro j b hj
      rw [add_plain]
      exact HS.out j b hj
    case c2 => omega
    case c3 => exact hb
end Go.Proofs.YtmenkckgpiafiaaGreat
