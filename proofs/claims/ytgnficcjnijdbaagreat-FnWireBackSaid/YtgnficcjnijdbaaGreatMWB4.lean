/-
  Lemmas and contracts, part 4.
-/
import Derived.Deep.QuietTactic
import Derived.BigQuiet
import Derived.Shelf.Abstract
import Derived.ProofKit
import Derived.OpenShut
import Derived.Test.YtgnficcjnijdbaaGreatMWB3
set_option linter.unusedVariables false
set_option linter.unusedSimpArgs false
set_option maxHeartbeats 20000000
set_option maxRecDepth 5000
namespace Go.Proofs.YtgnficcjnijdbaaGreat
open Go.RowKit
theorem zGI (q : Nat) (s : ByteArray) (id : Int) (w : World) (hq : q < w.heap.size) (hs : s.size ≤ 1000000) (hc : w.cell? ⟨q, 0, none⟩ = some (.string s)) (i0 : 0 ≤ id) (i1 : id ≤ 4294967295) :
  Calls Tryz.prog 132 #[.pointer (some ⟨q, 0, none⟩), .int .u32 id, .slice none 0 0] w (zCr (zA2 8 id (str (tl s))) w) := by
 have HC := Lib.hid hc
 clear hc
 have hsz : (tl s).length = s.size := zAH s
 go_enter Tryz.func132, Tryz.ntmps132
 go_wp2_with fail
 refine (zAZ _ _ _ _).mono ?_
 rintro e w1 ⟨rfl, hw⟩
 have cb : w1.cell? ⟨w.heap.size, 0, none⟩ = some (.slice none 0 0) := by rw [← hw, zAA (heap_alloc_new _ _)]; rfl
 have hb1 : Below w.heap.size w w1 := by rw [← hw]; exact (Below.refl _ _).alloc (Nat.le_refl _) _
 have c1 := zAW hb1 hq HC.out
 have z1 := hb1.size
 have B1 := Lib.hid hb1
 clear hb1 hw
 go_wp2_with fail
 refine (zCC _ _ _ _ _ cb).mono ?_
 rintro e w' ⟨rfl, rfl⟩
 go_wp2_with fail
 refine (zAh w.heap.size _ _ z1 (by omega) (by omega)).mono ?_
 rintro e w2 ⟨g, h, N, l, rfl, m2, hN, hb2⟩
 have c2 := zAW hb2 hq c1
 have M2 := Lib.hid m2
 have B2 := Lib.hid (B1.out.trans hb2)
 clear m2 hb2 c1 cb
 go_wp2_with fail
 refine (zAa w.heap.size g h N N l _ _ _ M2.out (by omega) (by omega) (by omega) i0 i1).mono ?_
 rintro e w3 ⟨rfl, v3, m3, hb3⟩
 have c3 := zAW hb3 hq c2
 have M3 := Lib.hid m3
 have B3 := Lib.hid (B2.out.trans hb3)
 clear m3 hb3 c2
 go_wp2_with fail
 refine (zAv w.heap.size g v3 _ s _ M3.out (by simp [zAQ]) (by omega)).mono ?_
 rintro e w4 ⟨rfl, v4, m4, u4, _⟩
 have hb4 := M3.out.below u4
 have M4 := Lib.hid m4
 have B4 := Lib.hid (B3.out.trans hb4)
 clear m4 hb4 u4
 go_wp2_with fail
 refine (zBC w.heap.size g v4 _ _ _ _ _ M4.out (by simp [zAQ] <;> omega) (by simp [zAQ, str] <;> omega) (by omega)).mono ?_
 rintro e w5 ⟨rfl, m5, g5⟩
 have M5 := Lib.hid m5
 have B5 := Lib.hid (B4.out.grown g5 (by have := M4.out.baseLe; omega) (fun k hk => (M4.out.own.lt k hk).1))
 clear m5 g5
 go_wp2_with fail
 go_ret3
 refine ⟨_, rfl, ?_, B5.out⟩
 have e : zAQ (((([0, 0, 0, 0, bt 8] ++ zAQ id ++ str (tl s)).length : Nat) : Int) - 4 + ((0 : Nat) : Int)) ++ ([0, 0, 0, 0, bt 8] ++ zAQ id ++ str (tl s)).drop 4 = zA2 8 id (str (tl s)) := by
  unfold zA2
  rw [show (((([0, 0, 0, 0, bt 8] ++ zAQ id ++ str (tl s)).length : Nat) : Int) - 4 + ((0 : Nat) : Int)) = 5 + ((str (tl s)).length : Int) from by simp [zAQ]; omega]
  rfl
 rw [← e]
 exact M5.out.own
theorem zEg (q : Nat) (s : ByteArray) (id : Int) (w : World) (hq : q < w.heap.size) (hs : s.size ≤ 1000000) (hc : w.cell? ⟨q, 0, none⟩ = some (.string s)) (i0 : 0 ≤ id) (i1 : id ≤ 4294967295) :
  Calls Tryz.prog 144 #[.pointer (some ⟨q, 0, none⟩), .int .u32 id, .slice none 0 0] w (zCr (zA2 12 id (str (tl s))) w) := by
 have HC := Lib.hid hc
 clear hc
 have hsz : (tl s).length = s.size := zAH s
 go_enter Tryz.func144, Tryz.ntmps144
 go_wp2_with fail
 refine (zAZ _ _ _ _).mono ?_
 rintro e w1 ⟨rfl, hw⟩
 have cb : w1.cell? ⟨w.heap.size, 0, none⟩ = some (.slice none 0 0) := by rw [← hw, zAA (heap_alloc_new _ _)]; rfl
 have hb1 : Below w.heap.size w w1 := by rw [← hw]; exact (Below.refl _ _).alloc (Nat.le_refl _) _
 have c1 := zAW hb1 hq HC.out
 have z1 := hb1.size
 have B1 := Lib.hid hb1
 clear hb1 hw
 go_wp2_with fail
 refine (zCC _ _ _ _ _ cb).mono ?_
 rintro e w' ⟨rfl, rfl⟩
 go_wp2_with fail
 refine (zAh w.heap.size _ _ z1 (by omega) (by omega)).mono ?_
 rintro e w2 ⟨g, h, N, l, rfl, m2, hN, hb2⟩
 have c2 := zAW hb2 hq c1
 have M2 := Lib.hid m2
 have B2 := Lib.hid (B1.out.trans hb2)
 clear m2 hb2 c1 cb
 go_wp2_with fail
 refine (zAa w.heap.size g h N N l _ _ _ M2.out (by omega) (by omega) (by omega) i0 i1).mono ?_
 rintro e w3 ⟨rfl, v3, m3, hb3⟩
 have c3 := zAW hb3 hq c2
 have M3 := Lib.hid m3
 have B3 := Lib.hid (B2.out.trans hb3)
 clear m3 hb3 c2
 go_wp2_with fail
 refine (zAv w.heap.size g v3 _ s _ M3.out (by simp [zAQ]) (by omega)).mono ?_
 rintro e w4 ⟨rfl, v4, m4, u4, _⟩
 have hb4 := M3.out.below u4
 have M4 := Lib.hid m4
 have B4 := Lib.hid (B3.out.trans hb4)
 clear m4 hb4 u4
 go_wp2_with fail
 refine (zBC w.heap.size g v4 _ _ _ _ _ M4.out (by simp [zAQ] <;> omega) (by simp [zAQ, str] <;> omega) (by omega)).mono ?_
 rintro e w5 ⟨rfl, m5, g5⟩
 have M5 := Lib.hid m5
 have B5 := Lib.hid (B4.out.grown g5 (by have := M4.out.baseLe; omega) (fun k hk => (M4.out.own.lt k hk).1))
 clear m5 g5
 go_wp2_with fail
 go_ret3
 refine ⟨_, rfl, ?_, B5.out⟩
 have e : zAQ (((([0, 0, 0, 0, bt 12] ++ zAQ id ++ str (tl s)).length : Nat) : Int) - 4 + ((0 : Nat) : Int)) ++ ([0, 0, 0, 0, bt 12] ++ zAQ id ++ str (tl s)).drop 4 = zA2 12 id (str (tl s)) := by
  unfold zA2
  rw [show (((([0, 0, 0, 0, bt 12] ++ zAQ id ++ str (tl s)).length : Nat) : Int) - 4 + ((0 : Nat) : Int)) = 5 + ((str (tl s)).length : Int) from by simp [zAQ]; omega]
  rfl
 rw [← e]
 exact M5.out.own
theorem zFK (q : Nat) (s : ByteArray) (id : Int) (w : World) (hq : q < w.heap.size) (hs : s.size ≤ 1000000) (hc : w.cell? ⟨q, 0, none⟩ = some (.string s)) (i0 : 0 ≤ id) (i1 : id ≤ 4294967295) :
  Calls Tryz.prog 177 #[.pointer (some ⟨q, 0, none⟩), .int .u32 id, .slice none 0 0] w (zCr (zA2 102 id (str (tl s))) w) := by
 have HC := Lib.hid hc
 clear hc
 have hsz : (tl s).length = s.size := zAH s
 go_enter Tryz.func177, Tryz.ntmps177
 go_wp2_with fail
 refine (zAZ _ _ _ _).mono ?_
 rintro e w1 ⟨rfl, hw⟩
 have cb : w1.cell? ⟨w.heap.size, 0, none⟩ = some (.slice none 0 0) := by rw [← hw, zAA (heap_alloc_new _ _)]; rfl
 have hb1 : Below w.heap.size w w1 := by rw [← hw]; exact (Below.refl _ _).alloc (Nat.le_refl _) _
 have c1 := zAW hb1 hq HC.out
 have z1 := hb1.size
 have B1 := Lib.hid hb1
 clear hb1 hw
 go_wp2_with fail
 refine (zCC _ _ _ _ _ cb).mono ?_
 rintro e w' ⟨rfl, rfl⟩
 go_wp2_with fail
 refine (zAh w.heap.size _ _ z1 (by omega) (by omega)).mono ?_
 rintro e w2 ⟨g, h, N, l, rfl, m2, hN, hb2⟩
 have c2 := zAW hb2 hq c1
 have M2 := Lib.hid m2
 have B2 := Lib.hid (B1.out.trans hb2)
 clear m2 hb2 c1 cb
 go_wp2_with fail
 refine (zAa w.heap.size g h N N l _ _ _ M2.out (by omega) (by omega) (by omega) i0 i1).mono ?_
 rintro e w3 ⟨rfl, v3, m3, hb3⟩
 have c3 := zAW hb3 hq c2
 have M3 := Lib.hid m3
 have B3 := Lib.hid (B2.out.trans hb3)
 clear m3 hb3 c2
 go_wp2_with fail
 refine (zAv w.heap.size g v3 _ s _ M3.out (by simp [zAQ]) (by omega)).mono ?_
 rintro e w4 ⟨rfl, v4, m4, u4, _⟩
 have hb4 := M3.out.below u4
 have M4 := Lib.hid m4
 have B4 := Lib.hid (B3.out.trans hb4)
 clear m4 hb4 u4
 go_wp2_with fail
 refine (zBC w.heap.size g v4 _ _ _ _ _ M4.out (by simp [zAQ] <;> omega) (by simp [zAQ, str] <;> omega) (by omega)).mono ?_
 rintro e w5 ⟨rfl, m5, g5⟩
 have M5 := Lib.hid m5
 have B5 := Lib.hid (B4.out.grown g5 (by have := M4.out.baseLe; omega) (fun k hk => (M4.out.own.lt k hk).1))
 clear m5 g5
 go_wp2_with fail
 go_ret3
 refine ⟨_, rfl, ?_, B5.out⟩
 have e : zAQ (((([0, 0, 0, 0, bt 102] ++ zAQ id ++ str (tl s)).length : Nat) : Int) - 4 + ((0 : Nat) : Int)) ++ ([0, 0, 0, 0, bt 102] ++ zAQ id ++ str (tl s)).drop 4 = zA2 102 id (str (tl s)) := by
  unfold zA2
  rw [show (((([0, 0, 0, 0, bt 102] ++ zAQ id ++ str (tl s)).length : Nat) : Int) - 4 + ((0 : Nat) : Int)) = 5 + ((str (tl s)).length : Int) from by simp [zAQ]; omega]
  rfl
 rw [← e]
 exact M5.out.own
theorem zGJ (q : Nat) (s : ByteArray) (id : Int) (w : World) (hq : q < w.heap.size) (hs : s.size ≤ 1000000) (hc : w.cell? ⟨q, 0, none⟩ = some (.string s)) (i0 : 0 ≤ id) (i1 : id ≤ 4294967295) :
  Calls Tryz.prog 129 #[.pointer (some ⟨q, 0, none⟩), .int .u32 id, .slice none 0 0] w (zCr (zA2 7 id (str (tl s))) w) := by
 have HC := Lib.hid hc
 clear hc
 have hsz : (tl s).length = s.size := zAH s
 go_enter Tryz.func129, Tryz.ntmps129
 go_wp2_with fail
 refine (zAZ _ _ _ _).mono ?_
 rintro e w1 ⟨rfl, hw⟩
 have cb : w1.cell? ⟨w.heap.size, 0, none⟩ = some (.slice none 0 0) := by rw [← hw, zAA (heap_alloc_new _ _)]; rfl
 have hb1 : Below w.heap.size w w1 := by rw [← hw]; exact (Below.refl _ _).alloc (Nat.le_refl _) _
 have c1 := zAW hb1 hq HC.out
 have z1 := hb1.size
 have B1 := Lib.hid hb1
 clear hb1 hw
 go_wp2_with fail
 refine (zCC _ _ _ _ _ cb).mono ?_
 rintro e w' ⟨rfl, rfl⟩
 go_wp2_with fail
 refine (zAh w.heap.size _ _ z1 (by omega) (by omega)).mono ?_
 rintro e w2 ⟨g, h, N, l, rfl, m2, hN, hb2⟩
 have c2 := zAW hb2 hq c1
 have M2 := Lib.hid m2
 have B2 := Lib.hid (B1.out.trans hb2)
 clear m2 hb2 c1 cb
 go_wp2_with fail
 refine (zAa w.heap.size g h N N l _ _ _ M2.out (by omega) (by omega) (by omega) i0 i1).mono ?_
 rintro e w3 ⟨rfl, v3, m3, hb3⟩
 have c3 := zAW hb3 hq c2
 have M3 := Lib.hid m3
 have B3 := Lib.hid (B2.out.trans hb3)
 clear m3 hb3 c2
 go_wp2_with fail
 refine (zAv w.heap.size g v3 _ s _ M3.out (by simp [zAQ]) (by omega)).mono ?_
 rintro e w4 ⟨rfl, v4, m4, u4, _⟩
 have hb4 := M3.out.below u4
 have M4 := Lib.hid m4
 have B4 := Lib.hid (B3.out.trans hb4)
 clear m4 hb4 u4
 go_wp2_with fail
 refine (zBC w.heap.size g v4 _ _ _ _ _ M4.out (by simp [zAQ] <;> omega) (by simp [zAQ, str] <;> omega) (by omega)).mono ?_
 rintro e w5 ⟨rfl, m5, g5⟩
 have M5 := Lib.hid m5
 have B5 := Lib.hid (B4.out.grown g5 (by have := M4.out.baseLe; omega) (fun k hk => (M4.out.own.lt k hk).1))
 clear m5 g5
 go_wp2_with fail
 go_ret3
 refine ⟨_, rfl, ?_, B5.out⟩
 have e : zAQ (((([0, 0, 0, 0, bt 7] ++ zAQ id ++ str (tl s)).length : Nat) : Int) - 4 + ((0 : Nat) : Int)) ++ ([0, 0, 0, 0, bt 7] ++ zAQ id ++ str (tl s)).drop 4 = zA2 7 id (str (tl s)) := by
  unfold zA2
  rw [show (((([0, 0, 0, 0, bt 7] ++ zAQ id ++ str (tl s)).length : Nat) : Int) - 4 + ((0 : Nat) : Int)) = 5 + ((str (tl s)).length : Int) from by simp [zAQ]; omega]
  rfl
 rw [← e]
 exact M5.out.own
theorem zEh (q : Nat) (s : ByteArray) (id : Int) (w : World) (hq : q < w.heap.size) (hs : s.size ≤ 1000000) (hc : w.cell? ⟨q, 0, none⟩ = some (.string s)) (i0 : 0 ≤ id) (i1 : id ≤ 4294967295) :
  Calls Tryz.prog 141 #[.pointer (some ⟨q, 0, none⟩), .int .u32 id, .slice none 0 0] w (zCr (zA2 11 id (str (tl s))) w) := by
 have HC := Lib.hid hc
 clear hc
 have hsz : (tl s).length = s.size := zAH s
 go_enter Tryz.func141, Tryz.ntmps141
 go_wp2_with fail
 refine (zAZ _ _ _ _).mono ?_
 rintro e w1 ⟨rfl, hw⟩
 have cb : w1.cell? ⟨w.heap.size, 0, none⟩ = some (.slice none 0 0) := by rw [← hw, zAA (heap_alloc_new _ _)]; rfl
 have hb1 : Below w.heap.size w w1 := by rw [← hw]; exact (Below.refl _ _).alloc (Nat.le_refl _) _
 have c1 := zAW hb1 hq HC.out
 have z1 := hb1.size
 have B1 := Lib.hid hb1
 clear hb1 hw
 go_wp2_with fail
 refine (zCC _ _ _ _ _ cb).mono ?_
 rintro e w' ⟨rfl, rfl⟩
 go_wp2_with fail
 refine (zAh w.heap.size _ _ z1 (by omega) (by omega)).mono ?_
 rintro e w2 ⟨g, h, N, l, rfl, m2, hN, hb2⟩
 have c2 := zAW hb2 hq c1
 have M2 := Lib.hid m2
 have B2 := Lib.hid (B1.out.trans hb2)
 clear m2 hb2 c1 cb
 go_wp2_with fail
 refine (zAa w.heap.size g h N N l _ _ _ M2.out (by omega) (by omega) (by omega) i0 i1).mono ?_
 rintro e w3 ⟨rfl, v3, m3, hb3⟩
 have c3 := zAW hb3 hq c2
 have M3 := Lib.hid m3
 have B3 := Lib.hid (B2.out.trans hb3)
 clear m3 hb3 c2
 go_wp2_with fail
 refine (zAv w.heap.size g v3 _ s _ M3.out (by simp [zAQ]) (by omega)).mono ?_
 rintro e w4 ⟨rfl, v4, m4, u4, _⟩
 have hb4 := M3.out.below u4
 have M4 := Lib.hid m4
 have B4 := Lib.hid (B3.out.trans hb4)
 clear m4 hb4 u4
 go_wp2_with fail
 refine (zBC w.heap.size g v4 _ _ _ _ _ M4.out (by simp [zAQ] <;> omega) (by simp [zAQ, str] <;> omega) (by omega)).mono ?_
 rintro e w5 ⟨rfl, m5, g5⟩
 have M5 := Lib.hid m5
 have B5 := Lib.hid (B4.out.grown g5 (by have := M4.out.baseLe; omega) (fun k hk => (M4.out.own.lt k hk).1))
 clear m5 g5
 go_wp2_with fail
 go_ret3
 refine ⟨_, rfl, ?_, B5.out⟩
 have e : zAQ (((([0, 0, 0, 0, bt 11] ++ zAQ id ++ str (tl s)).length : Nat) : Int) - 4 + ((0 : Nat) : Int)) ++ ([0, 0, 0, 0, bt 11] ++ zAQ id ++ str (tl s)).drop 4 = zA2 11 id (str (tl s)) := by
  unfold zA2
  rw [show (((([0, 0, 0, 0, bt 11] ++ zAQ id ++ str (tl s)).length : Nat) : Int) - 4 + ((0 : Nat) : Int)) = 5 + ((str (tl s)).length : Int) from by simp [zAQ]; omega]
  rfl
 rw [← e]
 exact M5.out.own
theorem zFL (q : Nat) (s : ByteArray) (id : Int) (w : World) (hq : q < w.heap.size) (hs : s.size ≤ 1000000) (hc : w.cell? ⟨q, 0, none⟩ = some (.string s)) (i0 : 0 ≤ id) (i1 : id ≤ 4294967295) :
  Calls Tryz.prog 147 #[.pointer (some ⟨q, 0, none⟩), .int .u32 id, .slice none 0 0] w (zCr (zA2 13 id (str (tl s))) w) := by
 have HC := Lib.hid hc
 clear hc
 have hsz : (tl s).length = s.size := zAH s
 go_enter Tryz.func147, Tryz.ntmps147
 go_wp2_with fail
 refine (zAZ _ _ _ _).mono ?_
 rintro e w1 ⟨rfl, hw⟩
 have cb : w1.cell? ⟨w.heap.size, 0, none⟩ = some (.slice none 0 0) := by rw [← hw, zAA (heap_alloc_new _ _)]; rfl
 have hb1 : Below w.heap.size w w1 := by rw [← hw]; exact (Below.refl _ _).alloc (Nat.le_refl _) _
 have c1 := zAW hb1 hq HC.out
 have z1 := hb1.size
 have B1 := Lib.hid hb1
 clear hb1 hw
 go_wp2_with fail
 refine (zCC _ _ _ _ _ cb).mono ?_
 rintro e w' ⟨rfl, rfl⟩
 go_wp2_with fail
 refine (zAh w.heap.size _ _ z1 (by omega) (by omega)).mono ?_
 rintro e w2 ⟨g, h, N, l, rfl, m2, hN, hb2⟩
 have c2 := zAW hb2 hq c1
 have M2 := Lib.hid m2
 have B2 := Lib.hid (B1.out.trans hb2)
 clear m2 hb2 c1 cb
 go_wp2_with fail
 refine (zAa w.heap.size g h N N l _ _ _ M2.out (by omega) (by omega) (by omega) i0 i1).mono ?_
 rintro e w3 ⟨rfl, v3, m3, hb3⟩
 have c3 := zAW hb3 hq c2
 have M3 := Lib.hid m3
 have B3 := Lib.hid (B2.out.trans hb3)
 clear m3 hb3 c2
 go_wp2_with fail
 refine (zAv w.heap.size g v3 _ s _ M3.out (by simp [zAQ]) (by omega)).mono ?_
 rintro e w4 ⟨rfl, v4, m4, u4, _⟩
 have hb4 := M3.out.below u4
 have M4 := Lib.hid m4
 have B4 := Lib.hid (B3.out.trans hb4)
 clear m4 hb4 u4
 go_wp2_with fail
 refine (zBC w.heap.size g v4 _ _ _ _ _ M4.out (by simp [zAQ] <;> omega) (by simp [zAQ, str] <;> omega) (by omega)).mono ?_
 rintro e w5 ⟨rfl, m5, g5⟩
 have M5 := Lib.hid m5
 have B5 := Lib.hid (B4.out.grown g5 (by have := M4.out.baseLe; omega) (fun k hk => (M4.out.own.lt k hk).1))
 clear m5 g5
 go_wp2_with fail
 go_ret3
 refine ⟨_, rfl, ?_, B5.out⟩
 have e : zAQ (((([0, 0, 0, 0, bt 13] ++ zAQ id ++ str (tl s)).length : Nat) : Int) - 4 + ((0 : Nat) : Int)) ++ ([0, 0, 0, 0, bt 13] ++ zAQ id ++ str (tl s)).drop 4 = zA2 13 id (str (tl s)) := by
  unfold zA2
  rw [show (((([0, 0, 0, 0, bt 13] ++ zAQ id ++ str (tl s)).length : Nat) : Int) - 4 + ((0 : Nat) : Int)) = 5 + ((str (tl s)).length : Int) from by simp [zAQ]; omega]
  rfl
 rw [← e]
 exact M5.out.own
theorem zGK (q : Nat) (s : ByteArray) (id : Int) (w : World) (hq : q < w.heap.size) (hs : s.size ≤ 1000000) (hc : w.cell? ⟨q, 0, none⟩ = some (.string s)) (i0 : 0 ≤ id) (i1 : id ≤ 4294967295) :
  Calls Tryz.prog 153 #[.pointer (some ⟨q, 0, none⟩), .int .u32 id, .slice none 0 0] w (zCr (zA2 15 id (str (tl s))) w) := by
 have HC := Lib.hid hc
 clear hc
 have hsz : (tl s).length = s.size := zAH s
 go_enter Tryz.func153, Tryz.ntmps153
 go_wp2_with fail
 refine (zAZ _ _ _ _).mono ?_
 rintro e w1 ⟨rfl, hw⟩
 have cb : w1.cell? ⟨w.heap.size, 0, none⟩ = some (.slice none 0 0) := by rw [← hw, zAA (heap_alloc_new _ _)]; rfl
 have hb1 : Below w.heap.size w w1 := by rw [← hw]; exact (Below.refl _ _).alloc (Nat.le_refl _) _
 have c1 := zAW hb1 hq HC.out
 have z1 := hb1.size
 have B1 := Lib.hid hb1
 clear hb1 hw
 go_wp2_with fail
 refine (zCC _ _ _ _ _ cb).mono ?_
 rintro e w' ⟨rfl, rfl⟩
 go_wp2_with fail
 refine (zAh w.heap.size _ _ z1 (by omega) (by omega)).mono ?_
 rintro e w2 ⟨g, h, N, l, rfl, m2, hN, hb2⟩
 have c2 := zAW hb2 hq c1
 have M2 := Lib.hid m2
 have B2 := Lib.hid (B1.out.trans hb2)
 clear m2 hb2 c1 cb
 go_wp2_with fail
 refine (zAa w.heap.size g h N N l _ _ _ M2.out (by omega) (by omega) (by omega) i0 i1).mono ?_
 rintro e w3 ⟨rfl, v3, m3, hb3⟩
 have c3 := zAW hb3 hq c2
 have M3 := Lib.hid m3
 have B3 := Lib.hid (B2.out.trans hb3)
 clear m3 hb3 c2
 go_wp2_with fail
 refine (zAv w.heap.size g v3 _ s _ M3.out (by simp [zAQ]) (by omega)).mono ?_
 rintro e w4 ⟨rfl, v4, m4, u4, _⟩
 have hb4 := M3.out.below u4
 have M4 := Lib.hid m4
 have B4 := Lib.hid (B3.out.trans hb4)
 clear m4 hb4 u4
 go_wp2_with fail
 refine (zBC w.heap.size g v4 _ _ _ _ _ M4.out (by simp [zAQ] <;> omega) (by simp [zAQ, str] <;> omega) (by omega)).mono ?_
 rintro e w5 ⟨rfl, m5, g5⟩
 have M5 := Lib.hid m5
 have B5 := Lib.hid (B4.out.grown g5 (by have := M4.out.baseLe; omega) (fun k hk => (M4.out.own.lt k hk).1))
 clear m5 g5
 go_wp2_with fail
 go_ret3
 refine ⟨_, rfl, ?_, B5.out⟩
 have e : zAQ (((([0, 0, 0, 0, bt 15] ++ zAQ id ++ str (tl s)).length : Nat) : Int) - 4 + ((0 : Nat) : Int)) ++ ([0, 0, 0, 0, bt 15] ++ zAQ id ++ str (tl s)).drop 4 = zA2 15 id (str (tl s)) := by
  unfold zA2
  rw [show (((([0, 0, 0, 0, bt 15] ++ zAQ id ++ str (tl s)).length : Nat) : Int) - 4 + ((0 : Nat) : Int)) = 5 + ((str (tl s)).length : Int) from by simp [zAQ]; omega]
  rfl
 rw [← e]
 exact M5.out.own
theorem zEU (q : Nat) (s : ByteArray) (id : Int) (w : World) (hq : q < w.heap.size) (hs : s.size ≤ 1000000) (hc : w.cell? ⟨q, 0, none⟩ = some (.string s)) (i0 : 0 ≤ id) (i1 : id ≤ 4294967295) :
  Calls Tryz.prog 156 #[.pointer (some ⟨q, 0, none⟩), .int .u32 id, .slice none 0 0] w (zCr (zA2 16 id (str (tl s))) w) := by
 have HC := Lib.hid hc
 clear hc
 have hsz : (tl s).length = s.size := zAH s
 go_enter Tryz.func156, Tryz.ntmps156
 go_wp2_with fail
 refine (zAZ _ _ _ _).mono ?_
 rintro e w1 ⟨rfl, hw⟩
 have cb : w1.cell? ⟨w.heap.size, 0, none⟩ = some (.slice none 0 0) := by rw [← hw, zAA (heap_alloc_new _ _)]; rfl
 have hb1 : Below w.heap.size w w1 := by rw [← hw]; exact (Below.refl _ _).alloc (Nat.le_refl _) _
 have c1 := zAW hb1 hq HC.out
 have z1 := hb1.size
 have B1 := Lib.hid hb1
 clear hb1 hw
 go_wp2_with fail
 refine (zCC _ _ _ _ _ cb).mono ?_
 rintro e w' ⟨rfl, rfl⟩
 go_wp2_with fail
 refine (zAh w.heap.size _ _ z1 (by omega) (by omega)).mono ?_
 rintro e w2 ⟨g, h, N, l, rfl, m2, hN, hb2⟩
 have c2 := zAW hb2 hq c1
 have M2 := Lib.hid m2
 have B2 := Lib.hid (B1.out.trans hb2)
 clear m2 hb2 c1 cb
 go_wp2_with fail
 refine (zAa w.heap.size g h N N l _ _ _ M2.out (by omega) (by omega) (by omega) i0 i1).mono ?_
 rintro e w3 ⟨rfl, v3, m3, hb3⟩
 have c3 := zAW hb3 hq c2
 have M3 := Lib.hid m3
 have B3 := Lib.hid (B2.out.trans hb3)
 clear m3 hb3 c2
 go_wp2_with fail
 refine (zAv w.heap.size g v3 _ s _ M3.out (by simp [zAQ]) (by omega)).mono ?_
 rintro e w4 ⟨rfl, v4, m4, u4, _⟩
 have hb4 := M3.out.below u4
 have M4 := Lib.hid m4
 have B4 := Lib.hid (B3.out.trans hb4)
 clear m4 hb4 u4
 go_wp2_with fail
 refine (zBC w.heap.size g v4 _ _ _ _ _ M4.out (by simp [zAQ] <;> omega) (by simp [zAQ, str] <;> omega) (by omega)).mono ?_
 rintro e w5 ⟨rfl, m5, g5⟩
 have M5 := Lib.hid m5
 have B5 := Lib.hid (B4.out.grown g5 (by have := M4.out.baseLe; omega) (fun k hk => (M4.out.own.lt k hk).1))
 clear m5 g5
 go_wp2_with fail
 go_ret3
 refine ⟨_, rfl, ?_, B5.out⟩
 have e : zAQ (((([0, 0, 0, 0, bt 16] ++ zAQ id ++ str (tl s)).length : Nat) : Int) - 4 + ((0 : Nat) : Int)) ++ ([0, 0, 0, 0, bt 16] ++ zAQ id ++ str (tl s)).drop 4 = zA2 16 id (str (tl s)) := by
  unfold zA2
  rw [show (((([0, 0, 0, 0, bt 16] ++ zAQ id ++ str (tl s)).length : Nat) : Int) - 4 + ((0 : Nat) : Int)) = 5 + ((str (tl s)).length : Int) from by simp [zAQ]; omega]
  rfl
 rw [← e]
 exact M5.out.own
theorem zHP (q : Nat) (s : ByteArray) (id : Int) (w : World) (hq : q < w.heap.size) (hs : s.size ≤ 1000000) (hc : w.cell? ⟨q, 0, none⟩ = some (.string s)) (i0 : 0 ≤ id) (i1 : id ≤ 4294967295) :
  Calls Tryz.prog 159 #[.pointer (some ⟨q, 0, none⟩), .int .u32 id, .slice none 0 0] w (zCr (zA2 17 id (str (tl s))) w) := by
 have HC := Lib.hid hc
 clear hc
 have hsz : (tl s).length = s.size := zAH s
 go_enter Tryz.func159, Tryz.ntmps159
 go_wp2_with fail
 refine (zAZ _ _ _ _).mono ?_
 rintro e w1 ⟨rfl, hw⟩
 have cb : w1.cell? ⟨w.heap.size, 0, none⟩ = some (.slice none 0 0) := by rw [← hw, zAA (heap_alloc_new _ _)]; rfl
 have hb1 : Below w.heap.size w w1 := by rw [← hw]; exact (Below.refl _ _).alloc (Nat.le_refl _) _
 have c1 := zAW hb1 hq HC.out
 have z1 := hb1.size
 have B1 := Lib.hid hb1
 clear hb1 hw
 go_wp2_with fail
 refine (zCC _ _ _ _ _ cb).mono ?_
 rintro e w' ⟨rfl, rfl⟩
 go_wp2_with fail
 refine (zAh w.heap.size _ _ z1 (by omega) (by omega)).mono ?_
 rintro e w2 ⟨g, h, N, l, rfl, m2, hN, hb2⟩
 have c2 := zAW hb2 hq c1
 have M2 := Lib.hid m2
 have B2 := Lib.hid (B1.out.trans hb2)
 clear m2 hb2 c1 cb
 go_wp2_with fail
 refine (zAa w.heap.size g h N N l _ _ _ M2.out (by omega) (by omega) (by omega) i0 i1).mono ?_
 rintro e w3 ⟨rfl, v3, m3, hb3⟩
 have c3 := zAW hb3 hq c2
 have M3 := Lib.hid m3
 have B3 := Lib.hid (B2.out.trans hb3)
 clear m3 hb3 c2
 go_wp2_with fail
 refine (zAv w.heap.size g v3 _ s _ M3.out (by simp [zAQ]) (by omega)).mono ?_
 rintro e w4 ⟨rfl, v4, m4, u4, _⟩
 have hb4 := M3.out.below u4
 have M4 := Lib.hid m4
 have B4 := Lib.hid (B3.out.trans hb4)
 clear m4 hb4 u4
 go_wp2_with fail
 refine (zBC w.heap.size g v4 _ _ _ _ _ M4.out (by simp [zAQ] <;> omega) (by simp [zAQ, str] <;> omega) (by omega)).mono ?_
 rintro e w5 ⟨rfl, m5, g5⟩
 have M5 := Lib.hid m5
 have B5 := Lib.hid (B4.out.grown g5 (by have := M4.out.baseLe; omega) (fun k hk => (M4.out.own.lt k hk).1))
 clear m5 g5
 go_wp2_with fail
 go_ret3
 refine ⟨_, rfl, ?_, B5.out⟩
 have e : zAQ (((([0, 0, 0, 0, bt 17] ++ zAQ id ++ str (tl s)).length : Nat) : Int) - 4 + ((0 : Nat) : Int)) ++ ([0, 0, 0, 0, bt 17] ++ zAQ id ++ str (tl s)).drop 4 = zA2 17 id (str (tl s)) := by
  unfold zA2
  rw [show (((([0, 0, 0, 0, bt 17] ++ zAQ id ++ str (tl s)).length : Nat) : Int) - 4 + ((0 : Nat) : Int)) = 5 + ((str (tl s)).length : Int) from by simp [zAQ]; omega]
  rfl
 rw [← e]
 exact M5.out.own
theorem zEV (q : Nat) (s : ByteArray) (id : Int) (w : World) (hq : q < w.heap.size) (hs : s.size ≤ 1000000) (hc : w.cell? ⟨q, 0, none⟩ = some (.string s)) (i0 : 0 ≤ id) (i1 : id ≤ 4294967295) :
  Calls Tryz.prog 165 #[.pointer (some ⟨q, 0, none⟩), .int .u32 id, .slice none 0 0] w (zCr (zA2 19 id (str (tl s))) w) := by
 have HC := Lib.hid hc
 clear hc
 have hsz : (tl s).length = s.size := zAH s
 go_enter Tryz.func165, Tryz.ntmps165
 go_wp2_with fail
 refine (zAZ _ _ _ _).mono ?_
 rintro e w1 ⟨rfl, hw⟩
 have cb : w1.cell? ⟨w.heap.size, 0, none⟩ = some (.slice none 0 0) := by rw [← hw, zAA (heap_alloc_new _ _)]; rfl
 have hb1 : Below w.heap.size w w1 := by rw [← hw]; exact (Below.refl _ _).alloc (Nat.le_refl _) _
 have c1 := zAW hb1 hq HC.out
 have z1 := hb1.size
 have B1 := Lib.hid hb1
 clear hb1 hw
 go_wp2_with fail
 refine (zCC _ _ _ _ _ cb).mono ?_
 rintro e w' ⟨rfl, rfl⟩
 go_wp2_with fail
 refine (zAh w.heap.size _ _ z1 (by omega) (by omega)).mono ?_
 rintro e w2 ⟨g, h, N, l, rfl, m2, hN, hb2⟩
 have c2 := zAW hb2 hq c1
 have M2 := Lib.hid m2
 have B2 := Lib.hid (B1.out.trans hb2)
 clear m2 hb2 c1 cb
 go_wp2_with fail
 refine (zAa w.heap.size g h N N l _ _ _ M2.out (by omega) (by omega) (by omega) i0 i1).mono ?_
 rintro e w3 ⟨rfl, v3, m3, hb3⟩
 have c3 := zAW hb3 hq c2
 have M3 := Lib.hid m3
 have B3 := Lib.hid (B2.out.trans hb3)
 clear m3 hb3 c2
 go_wp2_with fail
 refine (zAv w.heap.size g v3 _ s _ M3.out (by simp [zAQ]) (by omega)).mono ?_
 rintro e w4 ⟨rfl, v4, m4, u4, _⟩
 have hb4 := M3.out.below u4
 have M4 := Lib.hid m4
 have B4 := Lib.hid (B3.out.trans hb4)
 clear m4 hb4 u4
 go_wp2_with fail
 refine (zBC w.heap.size g v4 _ _ _ _ _ M4.out (by simp [zAQ] <;> omega) (by simp [zAQ, str] <;> omega) (by omega)).mono ?_
 rintro e w5 ⟨rfl, m5, g5⟩
 have M5 := Lib.hid m5
 have B5 := Lib.hid (B4.out.grown g5 (by have := M4.out.baseLe; omega) (fun k hk => (M4.out.own.lt k hk).1))
 clear m5 g5
 go_wp2_with fail
 go_ret3
 refine ⟨_, rfl, ?_, B5.out⟩
 have e : zAQ (((([0, 0, 0, 0, bt 19] ++ zAQ id ++ str (tl s)).length : Nat) : Int) - 4 + ((0 : Nat) : Int)) ++ ([0, 0, 0, 0, bt 19] ++ zAQ id ++ str (tl s)).drop 4 = zA2 19 id (str (tl s)) := by
  unfold zA2
  rw [show (((([0, 0, 0, 0, bt 19] ++ zAQ id ++ str (tl s)).length : Nat) : Int) - 4 + ((0 : Nat) : Int)) = 5 + ((str (tl s)).length : Int) from by simp [zAQ]; omega]
  rfl
 rw [← e]
 exact M5.out.own
theorem zHQ (q : Nat) (a : ByteArray) (x : Int) (y : Int) (id : Int) (w : World) (hq : w.heap[q]? = some (.cells #[.string a, .int .u64 x, .int .u32 y] 125 (0, 0))) (ha : a.size ≤ 1000000) (x0 : 0 ≤ x) (x1 : x ≤ 18446744073709551615) (y0 : 0 ≤ y) (y1 : y ≤ 4294967295) (i0 : 0 ≤ id) (i1 : id ≤ 4294967295) :
  Calls Tryz.prog 122 #[.pointer (some ⟨q, 0, none⟩), .int .u32 id, .slice none 0 0] w (zBl (zA5 5 id (str (tl a) ++ zBN x ++ zAQ y) 0) none 0 0 w) := by
 have hql := zAB hq
 have H0 := Lib.hid hq
 clear hq
 go_enter Tryz.func122, Tryz.ntmps122
 go_wp2_with fail
 refine (zAZ _ _ _ _).mono ?_
 rintro e w1 ⟨rfl, hw⟩
 have cb : w1.cell? ⟨w.heap.size, 0, none⟩ = some (.slice none 0 0) := by rw [← hw, zAA (heap_alloc_new _ _)]; rfl
 have hb1 : Below w.heap.size w w1 := by rw [← hw]; exact (Below.refl _ _).alloc (Nat.le_refl _) _
 have h1 := (hb1.block q hql).trans H0.out
 have c0 : w1.cell? ⟨q, 0, none⟩ = some (.string a) := by rw [zAA h1]; rfl
 have c1 : w1.cell? ⟨q, 1, none⟩ = some (.int .u64 x) := by rw [zAA h1]; rfl
 have c2 : w1.cell? ⟨q, 2, none⟩ = some (.int .u32 y) := by rw [zAA h1]; rfl
 have z1 := hb1.size
 have B1 := Lib.hid hb1
 have H1 := Lib.hid h1
 clear hb1 hw h1
 go_wp2_with fail
 refine (zCC _ _ _ _ _ cb).mono ?_
 rintro e w' ⟨rfl, rfl⟩
 go_wp2_with fail
 refine (zAh w.heap.size _ _ z1 (by omega) (by omega)).mono ?_
 rintro e w2 ⟨g, h, N, l, rfl, m2, hN, hb2⟩
 have h2 := (hb2.block q hql).trans H1.out
 have M2 := Lib.hid m2
 have B2 := Lib.hid (B1.out.trans hb2)
 have H2 := Lib.hid h2
 clear m2 hb2 cb h2 c0 c1 c2
 go_wp2_with fail
 refine (zAa w.heap.size g h N N l _ _ _ M2.out (by omega) (by omega) (by omega) i0 i1).mono ?_
 rintro e w3 ⟨rfl, v3, m3, hb3⟩
 have h3 := (hb3.block q hql).trans H2.out
 have c0 : w3.cell? ⟨q, 0, none⟩ = some (.string a) := by rw [zAA h3]; rfl
 have c1 : w3.cell? ⟨q, 1, none⟩ = some (.int .u64 x) := by rw [zAA h3]; rfl
 have c2 : w3.cell? ⟨q, 2, none⟩ = some (.int .u32 y) := by rw [zAA h3]; rfl
 have K3 := Lib.hid (show MB w.heap.size w w3 g (pk0 5 id) from ⟨v3, m3, B2.out.trans hb3⟩)
 have H3 := Lib.hid h3
 clear m3 hb3 h3 B2 M2 H2 B1 H1
 go_wp2_with fail
 refine (zB4 K3.out a (by simp only [List.length_append, zA3, zAK, zAM, zAT, zAH]; omega) (by omega)).mono ?_
 rintro e w4 ⟨rfl, hm⟩
 have h4 := (hm.below.block q hql).trans H0.out
 clear c0 c1 c2
 have c0 : w4.cell? ⟨q, 0, none⟩ = some (.string a) := by rw [zAA h4]; rfl
 have c1 : w4.cell? ⟨q, 1, none⟩ = some (.int .u64 x) := by rw [zAA h4]; rfl
 have c2 : w4.cell? ⟨q, 2, none⟩ = some (.int .u32 y) := by rw [zAA h4]; rfl
 have K4 := Lib.hid hm
 clear hm h4 K3
 go_wp2_with fail
 refine (zOC K4.out x x0 x1 (by simp only [List.length_append, zA3, zAK, zAM, zAT, zAH]; omega)).mono ?_
 rintro e w5 ⟨rfl, hm⟩
 have h5 := (hm.below.block q hql).trans H0.out
 clear c0 c1 c2
 have c0 : w5.cell? ⟨q, 0, none⟩ = some (.string a) := by rw [zAA h5]; rfl
 have c1 : w5.cell? ⟨q, 1, none⟩ = some (.int .u64 x) := by rw [zAA h5]; rfl
 have c2 : w5.cell? ⟨q, 2, none⟩ = some (.int .u32 y) := by rw [zAA h5]; rfl
 have K5 := Lib.hid hm
 clear hm h5 K4
 go_wp2_with fail
 refine (zHI K5.out y y0 y1 (by simp only [List.length_append, zA3, zAK, zAM, zAT, zAH]; omega)).mono ?_
 rintro e w6 ⟨rfl, hm⟩
 have h6 := (hm.below.block q hql).trans H0.out
 clear c0 c1 c2
 have c0 : w6.cell? ⟨q, 0, none⟩ = some (.string a) := by rw [zAA h6]; rfl
 have c1 : w6.cell? ⟨q, 1, none⟩ = some (.int .u64 x) := by rw [zAA h6]; rfl
 have c2 : w6.cell? ⟨q, 2, none⟩ = some (.int .u32 y) := by rw [zAA h6]; rfl
 have K6 := Lib.hid hm
 clear hm h6 K5
 obtain ⟨v9, m9, b9⟩ := K6.out
 have M9 := Lib.hid m9
 have B9 := Lib.hid b9
 clear m9 b9
 go_wp2_with fail
 refine (zBC w.heap.size g v9 _ _ _ _ _ M9.out (by simp only [List.length_append, zA3]; omega) (by simp only [List.length_append, zA3, zAK, zAM, zAT, zAH]; omega) (by omega)).mono ?_
 rintro e wz ⟨rfl, m5, g5⟩
 have M5 := Lib.hid m5
 have B5 := Lib.hid (B9.out.grown g5 (by have := M9.out.baseLe; omega) (fun k hk => (M9.out.own.lt k hk).1))
 clear m5 g5
 go_wp2_with fail
 go_ret3
 refine ⟨_, rfl, ?_, B5.out⟩
 have e := zBS 5 id (str (tl a) ++ zBN x ++ zAQ y) (pk0 5 id ++ str (tl a) ++ zBN x ++ zAQ y) 0 (by simp only [List.append_assoc])
 rw [← e]
 exact M5.out.own
theorem zGL (q : Nat) (a : ByteArray) (x : Int) (A : Option Addr) (n c : Nat) (id : Int) (w : World) (hq : w.heap[q]? = some (.cells #[.string a, .int .u64 x, .slice A n c] 128 (0, 0))) (ha : a.size ≤ 1000000) (x0 : 0 ≤ x) (x1 : x ≤ 18446744073709551615) (hn : n ≤ 1000000) (i0 : 0 ≤ id) (i1 : id ≤ 4294967295) :
  Calls Tryz.prog 125 #[.pointer (some ⟨q, 0, none⟩), .int .u32 id, .slice none 0 0] w (zBl (zA5 6 id (str (tl a) ++ zBN x ++ zAQ (n : Int)) n) A n c w) := by
 have hql := zAB hq
 have H0 := Lib.hid hq
 clear hq
 go_enter Tryz.func125, Tryz.ntmps125
 go_wp2_with fail
 refine (zAZ _ _ _ _).mono ?_
 rintro e w1 ⟨rfl, hw⟩
 have cb : w1.cell? ⟨w.heap.size, 0, none⟩ = some (.slice none 0 0) := by rw [← hw, zAA (heap_alloc_new _ _)]; rfl
 have hb1 : Below w.heap.size w w1 := by rw [← hw]; exact (Below.refl _ _).alloc (Nat.le_refl _) _
 have h1 := (hb1.block q hql).trans H0.out
 have c0 : w1.cell? ⟨q, 0, none⟩ = some (.string a) := by rw [zAA h1]; rfl
 have c1 : w1.cell? ⟨q, 1, none⟩ = some (.int .u64 x) := by rw [zAA h1]; rfl
 have c2 : w1.cell? ⟨q, 2, none⟩ = some (.slice A n c) := by rw [zAA h1]; rfl
 have z1 := hb1.size
 have B1 := Lib.hid hb1
 have H1 := Lib.hid h1
 clear hb1 hw h1
 go_wp2_with fail
 refine (zCC _ _ _ _ _ cb).mono ?_
 rintro e w' ⟨rfl, rfl⟩
 go_wp2_with fail
 refine (zAh w.heap.size _ _ z1 (by omega) (by omega)).mono ?_
 rintro e w2 ⟨g, h, N, l, rfl, m2, hN, hb2⟩
 have h2 := (hb2.block q hql).trans H1.out
 have M2 := Lib.hid m2
 have B2 := Lib.hid (B1.out.trans hb2)
 have H2 := Lib.hid h2
 clear m2 hb2 cb h2 c0 c1 c2
 go_wp2_with fail
 refine (zAa w.heap.size g h N N l _ _ _ M2.out (by omega) (by omega) (by omega) i0 i1).mono ?_
 rintro e w3 ⟨rfl, v3, m3, hb3⟩
 have h3 := (hb3.block q hql).trans H2.out
 have c0 : w3.cell? ⟨q, 0, none⟩ = some (.string a) := by rw [zAA h3]; rfl
 have c1 : w3.cell? ⟨q, 1, none⟩ = some (.int .u64 x) := by rw [zAA h3]; rfl
 have c2 : w3.cell? ⟨q, 2, none⟩ = some (.slice A n c) := by rw [zAA h3]; rfl
 have K3 := Lib.hid (show MB w.heap.size w w3 g (pk0 6 id) from ⟨v3, m3, B2.out.trans hb3⟩)
 have H3 := Lib.hid h3
 clear m3 hb3 h3 B2 M2 H2 B1 H1
 go_wp2_with fail
 refine (zB4 K3.out a (by simp only [List.length_append, zA3, zAK, zAM, zAT, zAH]; omega) (by omega)).mono ?_
 rintro e w4 ⟨rfl, hm⟩
 have h4 := (hm.below.block q hql).trans H0.out
 clear c0 c1 c2
 have c0 : w4.cell? ⟨q, 0, none⟩ = some (.string a) := by rw [zAA h4]; rfl
 have c1 : w4.cell? ⟨q, 1, none⟩ = some (.int .u64 x) := by rw [zAA h4]; rfl
 have c2 : w4.cell? ⟨q, 2, none⟩ = some (.slice A n c) := by rw [zAA h4]; rfl
 have K4 := Lib.hid hm
 clear hm h4 K3
 go_wp2_with fail
 refine (zOC K4.out x x0 x1 (by simp only [List.length_append, zA3, zAK, zAM, zAT, zAH]; omega)).mono ?_
 rintro e w5 ⟨rfl, hm⟩
 have h5 := (hm.below.block q hql).trans H0.out
 clear c0 c1 c2
 have c0 : w5.cell? ⟨q, 0, none⟩ = some (.string a) := by rw [zAA h5]; rfl
 have c1 : w5.cell? ⟨q, 1, none⟩ = some (.int .u64 x) := by rw [zAA h5]; rfl
 have c2 : w5.cell? ⟨q, 2, none⟩ = some (.slice A n c) := by rw [zAA h5]; rfl
 have K5 := Lib.hid hm
 clear hm h5 K4
 have un : IntKind.u32.wrap (n : Int) = n := IntWalk.u32_in _ (by omega)
 go_wp2_with fail
 refine (zHI K5.out (n : Int) (by omega) (by omega) (by simp only [List.length_append, zA3, zAK, zAM, zAT, zAH]; omega)).mono ?_
 rintro e w6 ⟨rfl, hm⟩
 have h6 := (hm.below.block q hql).trans H0.out
 clear c0 c1 c2
 have c0 : w6.cell? ⟨q, 0, none⟩ = some (.string a) := by rw [zAA h6]; rfl
 have c1 : w6.cell? ⟨q, 1, none⟩ = some (.int .u64 x) := by rw [zAA h6]; rfl
 have c2 : w6.cell? ⟨q, 2, none⟩ = some (.slice A n c) := by rw [zAA h6]; rfl
 have K6 := Lib.hid hm
 clear hm h6 K5
 obtain ⟨v9, m9, b9⟩ := K6.out
 have M9 := Lib.hid m9
 have B9 := Lib.hid b9
 clear m9 b9
 go_wp2_with fail
 refine (zBC w.heap.size g v9 _ A n c _ M9.out (by simp only [List.length_append, zA3]; omega) (by simp only [List.length_append, zA3, zAK, zAM, zAT, zAH]; omega) (by omega)).mono ?_
 rintro e wz ⟨rfl, m5, g5⟩
 have M5 := Lib.hid m5
 have B5 := Lib.hid (B9.out.grown g5 (by have := M9.out.baseLe; omega) (fun k hk => (M9.out.own.lt k hk).1))
 clear m5 g5
 go_wp2_with fail
 go_ret3
 refine ⟨_, rfl, ?_, B5.out⟩
 have e := zBS 6 id (str (tl a) ++ zBN x ++ zAQ (n : Int)) (pk0 6 id ++ str (tl a) ++ zBN x ++ zAQ (n : Int)) n (by simp only [List.append_assoc])
 rw [← e]
 exact M5.out.own
theorem zHR (q : Nat) (A : Option Addr) (n c : Nat) (id : Int) (w : World) (hq : w.heap[q]? = some (.cells #[.slice A n c] 170 (0, 0))) (hn : n ≤ 1000000) (i0 : 0 ≤ id) (i1 : id ≤ 4294967295) :
  Calls Tryz.prog 180 #[.pointer (some ⟨q, 0, none⟩), .int .u32 id, .slice none 0 0] w (zBl (zA5 103 id (zAQ (n : Int)) n) A n c w) := by
 have hql := zAB hq
 have H0 := Lib.hid hq
 clear hq
 go_enter Tryz.func180, Tryz.ntmps180
 go_wp2_with fail
 refine (zAZ _ _ _ _).mono ?_
 rintro e w1 ⟨rfl, hw⟩
 have cb : w1.cell? ⟨w.heap.size, 0, none⟩ = some (.slice none 0 0) := by rw [← hw, zAA (heap_alloc_new _ _)]; rfl
 have hb1 : Below w.heap.size w w1 := by rw [← hw]; exact (Below.refl _ _).alloc (Nat.le_refl _) _
 have h1 := (hb1.block q hql).trans H0.out
 have c0 : w1.cell? ⟨q, 0, none⟩ = some (.slice A n c) := by rw [zAA h1]; rfl
 have z1 := hb1.size
 have B1 := Lib.hid hb1
 have H1 := Lib.hid h1
 clear hb1 hw h1
 go_wp2_with fail
 refine (zCC _ _ _ _ _ cb).mono ?_
 rintro e w' ⟨rfl, rfl⟩
 go_wp2_with fail
 refine (zAh w.heap.size _ _ z1 (by omega) (by omega)).mono ?_
 rintro e w2 ⟨g, h, N, l, rfl, m2, hN, hb2⟩
 have h2 := (hb2.block q hql).trans H1.out
 have M2 := Lib.hid m2
 have B2 := Lib.hid (B1.out.trans hb2)
 have H2 := Lib.hid h2
 clear m2 hb2 cb h2 c0
 go_wp2_with fail
 refine (zAa w.heap.size g h N N l _ _ _ M2.out (by omega) (by omega) (by omega) i0 i1).mono ?_
 rintro e w3 ⟨rfl, v3, m3, hb3⟩
 have h3 := (hb3.block q hql).trans H2.out
 have c0 : w3.cell? ⟨q, 0, none⟩ = some (.slice A n c) := by rw [zAA h3]; rfl
 have K3 := Lib.hid (show MB w.heap.size w w3 g (pk0 103 id) from ⟨v3, m3, B2.out.trans hb3⟩)
 have H3 := Lib.hid h3
 clear m3 hb3 h3 B2 M2 H2 B1 H1
 have un : IntKind.u32.wrap (n : Int) = n := IntWalk.u32_in _ (by omega)
 go_wp2_with fail
 refine (zHI K3.out (n : Int) (by omega) (by omega) (by simp only [List.length_append, zA3, zAK, zAM, zAT, zAH]; omega)).mono ?_
 rintro e w4 ⟨rfl, hm⟩
 have h4 := (hm.below.block q hql).trans H0.out
 clear c0
 have c0 : w4.cell? ⟨q, 0, none⟩ = some (.slice A n c) := by rw [zAA h4]; rfl
 have K4 := Lib.hid hm
 clear hm h4 K3
 obtain ⟨v9, m9, b9⟩ := K4.out
 have M9 := Lib.hid m9
 have B9 := Lib.hid b9
 clear m9 b9
 go_wp2_with fail
 refine (zBC w.heap.size g v9 _ A n c _ M9.out (by simp only [List.length_append, zA3]; omega) (by simp only [List.length_append, zA3, zAK, zAM, zAT, zAH]; omega) (by omega)).mono ?_
 rintro e wz ⟨rfl, m5, g5⟩
 have M5 := Lib.hid m5
 have B5 := Lib.hid (B9.out.grown g5 (by have := M9.out.baseLe; omega) (fun k hk => (M9.out.own.lt k hk).1))
 clear m5 g5
 go_wp2_with fail
 go_ret3
 refine ⟨_, rfl, ?_, B5.out⟩
 have e := zBS 103 id (zAQ (n : Int)) (pk0 103 id ++ zAQ (n : Int)) n (by simp only [List.append_assoc])
 rw [← e]
 exact M5.out.own
theorem zFM (q : Nat) (a : ByteArray) (b : ByteArray) (id : Int) (w : World) (hq : w.heap[q]? = some (.cells #[.string a, .string b] 156 (0, 0))) (ha : a.size ≤ 1000000) (hb : b.size ≤ 1000000) (i0 : 0 ≤ id) (i1 : id ≤ 4294967295) :
  Calls Tryz.prog 162 #[.pointer (some ⟨q, 0, none⟩), .int .u32 id, .slice none 0 0] w (zBl (zA5 18 id (str (tl a) ++ str (tl b)) 0) none 0 0 w) := by
 have hql := zAB hq
 have H0 := Lib.hid hq
 clear hq
 go_enter Tryz.func162, Tryz.ntmps162
 go_wp2_with fail
 refine (zAZ _ _ _ _).mono ?_
 rintro e w1 ⟨rfl, hw⟩
 have cb : w1.cell? ⟨w.heap.size, 0, none⟩ = some (.slice none 0 0) := by rw [← hw, zAA (heap_alloc_new _ _)]; rfl
 have hb1 : Below w.heap.size w w1 := by rw [← hw]; exact (Below.refl _ _).alloc (Nat.le_refl _) _
 have h1 := (hb1.block q hql).trans H0.out
 have c0 : w1.cell? ⟨q, 0, none⟩ = some (.string a) := by rw [zAA h1]; rfl
 have c1 : w1.cell? ⟨q, 1, none⟩ = some (.string b) := by rw [zAA h1]; rfl
 have z1 := hb1.size
 have B1 := Lib.hid hb1
 have H1 := Lib.hid h1
 clear hb1 hw h1
 go_wp2_with fail
 refine (zCC _ _ _ _ _ cb).mono ?_
 rintro e w' ⟨rfl, rfl⟩
 have s0 : IntKind.i64.wrap (4 + (a.size : Int)) = 4 + (a.size : Int) := IntWalk.i64_in _ (by omega)
 have s1 : IntKind.i64.wrap (4 + (a.size : Int) + 4) = 4 + (a.size : Int) + 4 := IntWalk.i64_in _ (by omega)
 have s2 : IntKind.i64.wrap (4 + (a.size : Int) + 4 + (b.size : Int)) = 4 + (a.size : Int) + 4 + (b.size : Int) := IntWalk.i64_in _ (by omega)
 go_wp2_with fail
 go_quiet (fail)
 go_wp2_with fail
 refine (zAh w.heap.size _ _ (by simpa using z1) (by omega) (by omega)).mono ?_
 rintro e w2 ⟨g, h, N, l, rfl, m2, hN, hb2⟩
 have hb2 : Below w.heap.size w1 w2 := ⟨hb2.os, hb2.tape, hb2.output, hb2.size, hb2.block⟩
 have h2 := (hb2.block q hql).trans H1.out
 clear s0 s1 s2
 have M2 := Lib.hid m2
 have B2 := Lib.hid (B1.out.trans hb2)
 have H2 := Lib.hid h2
 clear m2 hb2 cb h2 c0 c1
 go_wp2_with fail
 refine (zAa w.heap.size g h N N l _ _ _ M2.out (by omega) (by omega) (by omega) i0 i1).mono ?_
 rintro e w3 ⟨rfl, v3, m3, hb3⟩
 have h3 := (hb3.block q hql).trans H2.out
 have c0 : w3.cell? ⟨q, 0, none⟩ = some (.string a) := by rw [zAA h3]; rfl
 have c1 : w3.cell? ⟨q, 1, none⟩ = some (.string b) := by rw [zAA h3]; rfl
 have K3 := Lib.hid (show MB w.heap.size w w3 g (pk0 18 id) from ⟨v3, m3, B2.out.trans hb3⟩)
 have H3 := Lib.hid h3
 clear m3 hb3 h3 B2 M2 H2 B1 H1
 go_wp2_with fail
 refine (zB4 K3.out a (by simp only [List.length_append, zA3, zAK, zAM, zAT, zAH]; omega) (by omega)).mono ?_
 rintro e w4 ⟨rfl, hm⟩
 have h4 := (hm.below.block q hql).trans H0.out
 clear c0 c1
 have c0 : w4.cell? ⟨q, 0, none⟩ = some (.string a) := by rw [zAA h4]; rfl
 have c1 : w4.cell? ⟨q, 1, none⟩ = some (.string b) := by rw [zAA h4]; rfl
 have K4 := Lib.hid hm
 clear hm h4 K3
 go_wp2_with fail
 refine (zB4 K4.out b (by simp only [List.length_append, zA3, zAK, zAM, zAT, zAH]; omega) (by omega)).mono ?_
 rintro e w5 ⟨rfl, hm⟩
 have h5 := (hm.below.block q hql).trans H0.out
 clear c0 c1
 have c0 : w5.cell? ⟨q, 0, none⟩ = some (.string a) := by rw [zAA h5]; rfl
 have c1 : w5.cell? ⟨q, 1, none⟩ = some (.string b) := by rw [zAA h5]; rfl
 have K5 := Lib.hid hm
 clear hm h5 K4
 obtain ⟨v9, m9, b9⟩ := K5.out
 have M9 := Lib.hid m9
 have B9 := Lib.hid b9
 clear m9 b9
 go_wp2_with fail
 refine (zBC w.heap.size g v9 _ _ _ _ _ M9.out (by simp only [List.length_append, zA3]; omega) (by simp only [List.length_append, zA3, zAK, zAM, zAT, zAH]; omega) (by omega)).mono ?_
 rintro e wz ⟨rfl, m5, g5⟩
 have M5 := Lib.hid m5
 have B5 := Lib.hid (B9.out.grown g5 (by have := M9.out.baseLe; omega) (fun k hk => (M9.out.own.lt k hk).1))
 clear m5 g5
 go_wp2_with fail
 go_ret3
 refine ⟨_, rfl, ?_, B5.out⟩
 have e := zBS 18 id (str (tl a) ++ str (tl b)) (pk0 18 id ++ str (tl a) ++ str (tl b)) 0 (by simp only [List.append_assoc])
 rw [← e]
 exact M5.out.own
theorem zEi (q : Nat) (a : ByteArray) (b : ByteArray) (id : Int) (w : World) (hq : w.heap[q]? = some (.cells #[.string a, .string b] 161 (0, 0))) (ha : a.size ≤ 1000000) (hb : b.size ≤ 1000000) (i0 : 0 ≤ id) (i1 : id ≤ 4294967295) :
  Calls Tryz.prog 168 #[.pointer (some ⟨q, 0, none⟩), .int .u32 id, .slice none 0 0] w (zBl (zA5 20 id (str (tl b) ++ str (tl a)) 0) none 0 0 w) := by
 have hql := zAB hq
 have H0 := Lib.hid hq
 clear hq
 go_enter Tryz.func168, Tryz.ntmps168
 go_wp2_with fail
 refine (zAZ _ _ _ _).mono ?_
 rintro e w1 ⟨rfl, hw⟩
 have cb : w1.cell? ⟨w.heap.size, 0, none⟩ = some (.slice none 0 0) := by rw [← hw, zAA (heap_alloc_new _ _)]; rfl
 have hb1 : Below w.heap.size w w1 := by rw [← hw]; exact (Below.refl _ _).alloc (Nat.le_refl _) _
 have h1 := (hb1.block q hql).trans H0.out
 have c0 : w1.cell? ⟨q, 0, none⟩ = some (.string a) := by rw [zAA h1]; rfl
 have c1 : w1.cell? ⟨q, 1, none⟩ = some (.string b) := by rw [zAA h1]; rfl
 have z1 := hb1.size
 have B1 := Lib.hid hb1
 have H1 := Lib.hid h1
 clear hb1 hw h1
 go_wp2_with fail
 refine (zCC _ _ _ _ _ cb).mono ?_
 rintro e w' ⟨rfl, rfl⟩
 have s0 : IntKind.i64.wrap (4 + (b.size : Int)) = 4 + (b.size : Int) := IntWalk.i64_in _ (by omega)
 have s1 : IntKind.i64.wrap (4 + (b.size : Int) + 4) = 4 + (b.size : Int) + 4 := IntWalk.i64_in _ (by omega)
 have s2 : IntKind.i64.wrap (4 + (b.size : Int) + 4 + (a.size : Int)) = 4 + (b.size : Int) + 4 + (a.size : Int) := IntWalk.i64_in _ (by omega)
 go_wp2_with fail
 go_quiet (fail)
 go_wp2_with fail
 refine (zAh w.heap.size _ _ (by simpa using z1) (by omega) (by omega)).mono ?_
 rintro e w2 ⟨g, h, N, l, rfl, m2, hN, hb2⟩
 have hb2 : Below w.heap.size w1 w2 := ⟨hb2.os, hb2.tape, hb2.output, hb2.size, hb2.block⟩
 have h2 := (hb2.block q hql).trans H1.out
 clear s0 s1 s2
 have M2 := Lib.hid m2
 have B2 := Lib.hid (B1.out.trans hb2)
 have H2 := Lib.hid h2
 clear m2 hb2 cb h2 c0 c1
 go_wp2_with fail
 refine (zAa w.heap.size g h N N l _ _ _ M2.out (by omega) (by omega) (by omega) i0 i1).mono ?_
 rintro e w3 ⟨rfl, v3, m3, hb3⟩
 have h3 := (hb3.block q hql).trans H2.out
 have c0 : w3.cell? ⟨q, 0, none⟩ = some (.string a) := by rw [zAA h3]; rfl
 have c1 : w3.cell? ⟨q, 1, none⟩ = some (.string b) := by rw [zAA h3]; rfl
 have K3 := Lib.hid (show MB w.heap.size w w3 g (pk0 20 id) from ⟨v3, m3, B2.out.trans hb3⟩)
 have H3 := Lib.hid h3
 clear m3 hb3 h3 B2 M2 H2 B1 H1
 go_wp2_with fail
 refine (zB4 K3.out b (by simp only [List.length_append, zA3, zAK, zAM, zAT, zAH]; omega) (by omega)).mono ?_
 rintro e w4 ⟨rfl, hm⟩
 have h4 := (hm.below.block q hql).trans H0.out
 clear c0 c1
 have c0 : w4.cell? ⟨q, 0, none⟩ = some (.string a) := by rw [zAA h4]; rfl
 have c1 : w4.cell? ⟨q, 1, none⟩ = some (.string b) := by rw [zAA h4]; rfl
 have K4 := Lib.hid hm
 clear hm h4 K3
 go_wp2_with fail
 refine (zB4 K4.out a (by simp only [List.length_append, zA3, zAK, zAM, zAT, zAH]; omega) (by omega)).mono ?_
 rintro e w5 ⟨rfl, hm⟩
 have h5 := (hm.below.block q hql).trans H0.out
 clear c0 c1
 have c0 : w5.cell? ⟨q, 0, none⟩ = some (.string a) := by rw [zAA h5]; rfl
 have c1 : w5.cell? ⟨q, 1, none⟩ = some (.string b) := by rw [zAA h5]; rfl
 have K5 := Lib.hid hm
 clear hm h5 K4
 obtain ⟨v9, m9, b9⟩ := K5.out
 have M9 := Lib.hid m9
 have B9 := Lib.hid b9
 clear m9 b9
 go_wp2_with fail
 refine (zBC w.heap.size g v9 _ _ _ _ _ M9.out (by simp only [List.length_append, zA3]; omega) (by simp only [List.length_append, zA3, zAK, zAM, zAT, zAH]; omega) (by omega)).mono ?_
 rintro e wz ⟨rfl, m5, g5⟩
 have M5 := Lib.hid m5
 have B5 := Lib.hid (B9.out.grown g5 (by have := M9.out.baseLe; omega) (fun k hk => (M9.out.own.lt k hk).1))
 clear m5 g5
 go_wp2_with fail
 go_ret3
 refine ⟨_, rfl, ?_, B5.out⟩
 have e := zBS 20 id (str (tl b) ++ str (tl a)) (pk0 20 id ++ str (tl b) ++ str (tl a)) 0 (by simp only [List.append_assoc])
 rw [← e]
 exact M5.out.own
theorem zFN (q : Nat) (x : Int) (a : ByteArray) (b : ByteArray) (id : Int) (w : World) (hq : w.heap[q]? = some (.cells #[.int .u32 x, .string a, .string b] 165 (0, 0))) (x0 : 0 ≤ x) (x1 : x ≤ 4294967295) (ha : a.size ≤ 1000000) (hb : b.size ≤ 1000000) (i0 : 0 ≤ id) (i1 : id ≤ 4294967295) :
  Calls Tryz.prog 172 #[.pointer (some ⟨q, 0, none⟩), .int .u32 id, .slice none 0 0] w (zBl (zA5 101 id (zAQ x ++ str (tl a) ++ str (tl b)) 0) none 0 0 w) := by
 have hql := zAB hq
 have H0 := Lib.hid hq
 clear hq
 go_enter Tryz.func172, Tryz.ntmps172
 go_wp2_with fail
 refine (zAZ _ _ _ _).mono ?_
 rintro e w1 ⟨rfl, hw⟩
 have cb : w1.cell? ⟨w.heap.size, 0, none⟩ = some (.slice none 0 0) := by rw [← hw, zAA (heap_alloc_new _ _)]; rfl
 have hb1 : Below w.heap.size w w1 := by rw [← hw]; exact (Below.refl _ _).alloc (Nat.le_refl _) _
 have h1 := (hb1.block q hql).trans H0.out
 have c0 : w1.cell? ⟨q, 0, none⟩ = some (.int .u32 x) := by rw [zAA h1]; rfl
 have c1 : w1.cell? ⟨q, 1, none⟩ = some (.string a) := by rw [zAA h1]; rfl
 have c2 : w1.cell? ⟨q, 2, none⟩ = some (.string b) := by rw [zAA h1]; rfl
 have z1 := hb1.size
 have B1 := Lib.hid hb1
 have H1 := Lib.hid h1
 clear hb1 hw h1
 go_wp2_with fail
 refine (zCC _ _ _ _ _ cb).mono ?_
 rintro e w' ⟨rfl, rfl⟩
 have s0 : IntKind.i64.wrap (4 + 4 + (a.size : Int)) = 4 + 4 + (a.size : Int) := IntWalk.i64_in _ (by omega)
 have s1 : IntKind.i64.wrap (4 + 4 + (a.size : Int) + 4) = 4 + 4 + (a.size : Int) + 4 := IntWalk.i64_in _ (by omega)
 have s2 : IntKind.i64.wrap (4 + 4 + (a.size : Int) + 4 + (b.size : Int)) = 4 + 4 + (a.size : Int) + 4 + (b.size : Int) := IntWalk.i64_in _ (by omega)
 have s3 : IntKind.i64.wrap (8 + (a.size : Int)) = 8 + (a.size : Int) := IntWalk.i64_in _ (by omega)
 have s4 : IntKind.i64.wrap (8 + (a.size : Int) + 4) = 8 + (a.size : Int) + 4 := IntWalk.i64_in _ (by omega)
 have s5 : IntKind.i64.wrap (8 + (a.size : Int) + 4 + (b.size : Int)) = 8 + (a.size : Int) + 4 + (b.size : Int) := IntWalk.i64_in _ (by omega)
 go_wp2_with fail
 go_quiet (fail)
 go_wp2_with fail
 refine (zAh w.heap.size _ _ (by simpa using z1) (by omega) (by omega)).mono ?_
 rintro e w2 ⟨g, h, N, l, rfl, m2, hN, hb2⟩
 have hb2 : Below w.heap.size w1 w2 := ⟨hb2.os, hb2.tape, hb2.output, hb2.size, hb2.block⟩
 have h2 := (hb2.block q hql).trans H1.out
 clear s0 s1 s2 s3 s4 s5
 have M2 := Lib.hid m2
 have B2 := Lib.hid (B1.out.trans hb2)
 have H2 := Lib.hid h2
 clear m2 hb2 cb h2 c0 c1 c2
 go_wp2_with fail
 refine (zAa w.heap.size g h N N l _ _ _ M2.out (by omega) (by omega) (by omega) i0 i1).mono ?_
 rintro e w3 ⟨rfl, v3, m3, hb3⟩
 have h3 := (hb3.block q hql).trans H2.out
 have c0 : w3.cell? ⟨q, 0, none⟩ = some (.int .u32 x) := by rw [zAA h3]; rfl
 have c1 : w3.cell? ⟨q, 1, none⟩ = some (.string a) := by rw [zAA h3]; rfl
 have c2 : w3.cell? ⟨q, 2, none⟩ = some (.string b) := by rw [zAA h3]; rfl
 have K3 := Lib.hid (show MB w.heap.size w w3 g (pk0 101 id) from ⟨v3, m3, B2.out.trans hb3⟩)
 have H3 := Lib.hid h3
 clear m3 hb3 h3 B2 M2 H2 B1 H1
 go_wp2_with fail
 refine (zHI K3.out x x0 x1 (by simp only [List.length_append, zA3, zAK, zAM, zAT, zAH]; omega)).mono ?_
 rintro e w4 ⟨rfl, hm⟩
 have h4 := (hm.below.block q hql).trans H0.out
 clear c0 c1 c2
 have c0 : w4.cell? ⟨q, 0, none⟩ = some (.int .u32 x) := by rw [zAA h4]; rfl
 have c1 : w4.cell? ⟨q, 1, none⟩ = some (.string a) := by rw [zAA h4]; rfl
 have c2 : w4.cell? ⟨q, 2, none⟩ = some (.string b) := by rw [zAA h4]; rfl
 have K4 := Lib.hid hm
 clear hm h4 K3
 go_wp2_with fail
 refine (zB4 K4.out a (by simp only [List.length_append, zA3, zAK, zAM, zAT, zAH]; omega) (by omega)).mono ?_
 rintro e w5 ⟨rfl, hm⟩
 have h5 := (hm.below.block q hql).trans H0.out
 clear c0 c1 c2
 have c0 : w5.cell? ⟨q, 0, none⟩ = some (.int .u32 x) := by rw [zAA h5]; rfl
 have c1 : w5.cell? ⟨q, 1, none⟩ = some (.string a) := by rw [zAA h5]; rfl
 have c2 : w5.cell? ⟨q, 2, none⟩ = some (.string b) := by rw [zAA h5]; rfl
 have K5 := Lib.hid hm
 clear hm h5 K4
 go_wp2_with fail
 refine (zB4 K5.out b (by simp only [List.length_append, zA3, zAK, zAM, zAT, zAH]; omega) (by omega)).mono ?_
 rintro e w6 ⟨rfl, hm⟩
 have h6 := (hm.below.block q hql).trans H0.out
 clear c0 c1 c2
 have c0 : w6.cell? ⟨q, 0, none⟩ = some (.int .u32 x) := by rw [zAA h6]; rfl
 have c1 : w6.cell? ⟨q, 1, none⟩ = some (.string a) := by rw [zAA h6]; rfl
 have c2 : w6.cell? ⟨q, 2, none⟩ = some (.string b) := by rw [zAA h6]; rfl
 have K6 := Lib.hid hm
 clear hm h6 K5
 obtain ⟨v9, m9, b9⟩ := K6.out
 have M9 := Lib.hid m9
 have B9 := Lib.hid b9
 clear m9 b9
 go_wp2_with fail
 refine (zBC w.heap.size g v9 _ _ _ _ _ M9.out (by simp only [List.length_append, zA3]; omega) (by simp only [List.length_append, zA3, zAK, zAM, zAT, zAH]; omega) (by omega)).mono ?_
 rintro e wz ⟨rfl, m5, g5⟩
 have M5 := Lib.hid m5
 have B5 := Lib.hid (B9.out.grown g5 (by have := M9.out.baseLe; omega) (fun k hk => (M9.out.own.lt k hk).1))
 clear m5 g5
 go_wp2_with fail
 go_ret3
 refine ⟨_, rfl, ?_, B5.out⟩
 have e := zBS 101 id (zAQ x ++ str (tl a) ++ str (tl b)) (pk0 101 id ++ zAQ x ++ str (tl a) ++ str (tl b)) 0 (by simp only [List.append_assoc])
 rw [← e]
 exact M5.out.own
end Go.Proofs.YtgnficcjnijdbaaGreat
namespace Go.Proofs.YtgnficcjnijdbaaGreat
open Go.RowKit Go.Great Go.Shelf
theorem zLD (d : ByteArray) : str (tl d) = zAQ (d.size : Int) ++ tl d := by unfold str; rw [zAH]
theorem zHS (P : Array Value) (a : ByteArray) (id : Int) (w : World) (hsz : P.size = 24) (h0 : P[0]? = some (.int .i64 4)) (h1 : P[1]? = some (.int .u32 id)) (h4 : P[4]? = some (.string a)) (ba : a.size ≤ 1000000) (i0 : 0 ≤ id) (i1 : id ≤ 4294967295) :
  Calls Tryz.prog 10 #[.agg P] w fun e w' => e = .returned (.tuple #[.string (bs (zA2 4 id (str (tl a)))), .int .i64 0]) ∧ Below w.heap.size w w' := by
 have h := zBE P 4 120 119 id (zA2 4 id (str (tl a))) [] w hsz h0 rfl rfl h1 (fun _ _ => by kernel_rfl) (enters_of Tryz.func119 (by kernel_rfl) rfl)
  (fun W => (zIQ P a W h0 h4).mono fun e w' ⟨⟨q, he, _, hb⟩, hB⟩ => ⟨⟨q, he, (zDe q a id w' (zAB hb) ba (by rw [zAA hb]; rfl) i0 i1).mono fun _ _ hm => zB6 hm⟩, hB⟩) (by simp only [zA2, zA5, List.length_append, List.length_cons, List.length_nil, zAM, zAT, zAK, zAH]; omega) (by simp) (by simp only [zA2, zA5, List.length_append, List.length_cons, List.length_nil, zAM, zAT, zAK, zAH]; omega)
 rwa [List.append_nil] at h
theorem zIV (P : Array Value) (a : ByteArray) (x : Int) (y : Int) (id : Int) (w : World) (hsz : P.size = 24) (h0 : P[0]? = some (.int .i64 5)) (h1 : P[1]? = some (.int .u32 id)) (h4 : P[4]? = some (.string a)) (h5 : P[5]? = some (.int .u64 x)) (h6 : P[6]? = some (.int .u32 y)) (ba : a.size ≤ 1000000) (x0 : 0 ≤ x) (x1 : x ≤ 18446744073709551615) (y0 : 0 ≤ y) (y1 : y ≤ 4294967295) (i0 : 0 ≤ id) (i1 : id ≤ 4294967295) :
  Calls Tryz.prog 10 #[.agg P] w fun e w' => e = .returned (.tuple #[.string (bs (zA2 5 id (str (tl a) ++ zBN x ++ zAQ y))), .int .i64 0]) ∧ Below w.heap.size w w' := by
 have h := zBE P 5 123 122 id (zA5 5 id (str (tl a) ++ zBN x ++ zAQ y) 0) [] w hsz h0 rfl rfl h1 (fun _ _ => by kernel_rfl) (enters_of Tryz.func122 (by kernel_rfl) rfl)
  (fun W => (zJn P a x y W h0 h4 h5 h6).mono fun e w' ⟨⟨q, he, _, hb⟩, hB⟩ => ⟨⟨q, he, (zHQ q a x y id w' hb ba x0 x1 y0 y1 i0 i1).mono fun _ _ hm => zBe hm⟩, hB⟩) (by simp only [zA2, zA5, List.length_append, List.length_cons, List.length_nil, zAM, zAT, zAK, zAH]; omega) (by simp) (by simp only [zA2, zA5, List.length_append, List.length_cons, List.length_nil, zAM, zAT, zAK, zAH]; omega)
 rwa [zBT, List.append_nil] at h
theorem zHT (P : Array Value) (a : ByteArray) (id : Int) (w : World) (hsz : P.size = 24) (h0 : P[0]? = some (.int .i64 7)) (h1 : P[1]? = some (.int .u32 id)) (h2 : P[2]? = some (.string a)) (ba : a.size ≤ 1000000) (i0 : 0 ≤ id) (i1 : id ≤ 4294967295) :
  Calls Tryz.prog 10 #[.agg P] w fun e w' => e = .returned (.tuple #[.string (bs (zA2 7 id (str (tl a)))), .int .i64 0]) ∧ Below w.heap.size w w' := by
 have h := zBE P 7 129 129 id (zA2 7 id (str (tl a))) [] w hsz h0 rfl rfl h1 (fun _ _ => by kernel_rfl) (enters_of Tryz.func129 (by kernel_rfl) rfl)
  (fun W => (zIR P a W h0 h2).mono fun e w' ⟨⟨q, he, _, hb⟩, hB⟩ => ⟨⟨q, he, (zGJ q a id w' (zAB hb) ba (by rw [zAA hb]; rfl) i0 i1).mono fun _ _ hm => zB6 hm⟩, hB⟩) (by simp only [zA2, zA5, List.length_append, List.length_cons, List.length_nil, zAM, zAT, zAK, zAH]; omega) (by simp) (by simp only [zA2, zA5, List.length_append, List.length_cons, List.length_nil, zAM, zAT, zAK, zAH]; omega)
 rwa [List.append_nil] at h
theorem zHU (P : Array Value) (a : ByteArray) (id : Int) (w : World) (hsz : P.size = 24) (h0 : P[0]? = some (.int .i64 8)) (h1 : P[1]? = some (.int .u32 id)) (h4 : P[4]? = some (.string a)) (ba : a.size ≤ 1000000) (i0 : 0 ≤ id) (i1 : id ≤ 4294967295) :
  Calls Tryz.prog 10 #[.agg P] w fun e w' => e = .returned (.tuple #[.string (bs (zA2 8 id (str (tl a)))), .int .i64 0]) ∧ Below w.heap.size w w' := by
 have h := zBE P 8 132 132 id (zA2 8 id (str (tl a))) [] w hsz h0 rfl rfl h1 (fun _ _ => by kernel_rfl) (enters_of Tryz.func132 (by kernel_rfl) rfl)
  (fun W => (zIS P a W h0 h4).mono fun e w' ⟨⟨q, he, _, hb⟩, hB⟩ => ⟨⟨q, he, (zGI q a id w' (zAB hb) ba (by rw [zAA hb]; rfl) i0 i1).mono fun _ _ hm => zB6 hm⟩, hB⟩) (by simp only [zA2, zA5, List.length_append, List.length_cons, List.length_nil, zAM, zAT, zAK, zAH]; omega) (by simp) (by simp only [zA2, zA5, List.length_append, List.length_cons, List.length_nil, zAM, zAT, zAK, zAH]; omega)
 rwa [List.append_nil] at h
theorem zFO (P : Array Value) (a : ByteArray) (id : Int) (w : World) (hsz : P.size = 24) (h0 : P[0]? = some (.int .i64 11)) (h1 : P[1]? = some (.int .u32 id)) (h2 : P[2]? = some (.string a)) (ba : a.size ≤ 1000000) (i0 : 0 ≤ id) (i1 : id ≤ 4294967295) :
  Calls Tryz.prog 10 #[.agg P] w fun e w' => e = .returned (.tuple #[.string (bs (zA2 11 id (str (tl a)))), .int .i64 0]) ∧ Below w.heap.size w w' := by
 have h := zBE P 11 140 141 id (zA2 11 id (str (tl a))) [] w hsz h0 rfl rfl h1 (fun _ _ => by kernel_rfl) (enters_of Tryz.func141 (by kernel_rfl) rfl)
  (fun W => (zGF P a W h0 h2).mono fun e w' ⟨⟨q, he, _, hb⟩, hB⟩ => ⟨⟨q, he, (zEh q a id w' (zAB hb) ba (by rw [zAA hb]; rfl) i0 i1).mono fun _ _ hm => zB6 hm⟩, hB⟩) (by simp only [zA2, zA5, List.length_append, List.length_cons, List.length_nil, zAM, zAT, zAK, zAH]; omega) (by simp) (by simp only [zA2, zA5, List.length_append, List.length_cons, List.length_nil, zAM, zAT, zAK, zAH]; omega)
 rwa [List.append_nil] at h
theorem zFP (P : Array Value) (a : ByteArray) (id : Int) (w : World) (hsz : P.size = 24) (h0 : P[0]? = some (.int .i64 12)) (h1 : P[1]? = some (.int .u32 id)) (h4 : P[4]? = some (.string a)) (ba : a.size ≤ 1000000) (i0 : 0 ≤ id) (i1 : id ≤ 4294967295) :
  Calls Tryz.prog 10 #[.agg P] w fun e w' => e = .returned (.tuple #[.string (bs (zA2 12 id (str (tl a)))), .int .i64 0]) ∧ Below w.heap.size w w' := by
 have h := zBE P 12 142 144 id (zA2 12 id (str (tl a))) [] w hsz h0 rfl rfl h1 (fun _ _ => by kernel_rfl) (enters_of Tryz.func144 (by kernel_rfl) rfl)
  (fun W => (zGG P a W h0 h4).mono fun e w' ⟨⟨q, he, _, hb⟩, hB⟩ => ⟨⟨q, he, (zEg q a id w' (zAB hb) ba (by rw [zAA hb]; rfl) i0 i1).mono fun _ _ hm => zB6 hm⟩, hB⟩) (by simp only [zA2, zA5, List.length_append, List.length_cons, List.length_nil, zAM, zAT, zAK, zAH]; omega) (by simp) (by simp only [zA2, zA5, List.length_append, List.length_cons, List.length_nil, zAM, zAT, zAK, zAH]; omega)
 rwa [List.append_nil] at h
theorem zGM (P : Array Value) (a : ByteArray) (id : Int) (w : World) (hsz : P.size = 24) (h0 : P[0]? = some (.int .i64 13)) (h1 : P[1]? = some (.int .u32 id)) (h2 : P[2]? = some (.string a)) (ba : a.size ≤ 1000000) (i0 : 0 ≤ id) (i1 : id ≤ 4294967295) :
  Calls Tryz.prog 10 #[.agg P] w fun e w' => e = .returned (.tuple #[.string (bs (zA2 13 id (str (tl a)))), .int .i64 0]) ∧ Below w.heap.size w w' := by
 have h := zBE P 13 144 147 id (zA2 13 id (str (tl a))) [] w hsz h0 rfl rfl h1 (fun _ _ => by kernel_rfl) (enters_of Tryz.func147 (by kernel_rfl) rfl)
  (fun W => (zHL P a W h0 h2).mono fun e w' ⟨⟨q, he, _, hb⟩, hB⟩ => ⟨⟨q, he, (zFL q a id w' (zAB hb) ba (by rw [zAA hb]; rfl) i0 i1).mono fun _ _ hm => zB6 hm⟩, hB⟩) (by simp only [zA2, zA5, List.length_append, List.length_cons, List.length_nil, zAM, zAT, zAK, zAH]; omega) (by simp) (by simp only [zA2, zA5, List.length_append, List.length_cons, List.length_nil, zAM, zAT, zAK, zAH]; omega)
 rwa [List.append_nil] at h
theorem zHV (P : Array Value) (a : ByteArray) (id : Int) (w : World) (hsz : P.size = 24) (h0 : P[0]? = some (.int .i64 15)) (h1 : P[1]? = some (.int .u32 id)) (h2 : P[2]? = some (.string a)) (ba : a.size ≤ 1000000) (i0 : 0 ≤ id) (i1 : id ≤ 4294967295) :
  Calls Tryz.prog 10 #[.agg P] w fun e w' => e = .returned (.tuple #[.string (bs (zA2 15 id (str (tl a)))), .int .i64 0]) ∧ Below w.heap.size w w' := by
 have h := zBE P 15 148 153 id (zA2 15 id (str (tl a))) [] w hsz h0 rfl rfl h1 (fun _ _ => by kernel_rfl) (enters_of Tryz.func153 (by kernel_rfl) rfl)
  (fun W => (zIT P a W h0 h2).mono fun e w' ⟨⟨q, he, _, hb⟩, hB⟩ => ⟨⟨q, he, (zGK q a id w' (zAB hb) ba (by rw [zAA hb]; rfl) i0 i1).mono fun _ _ hm => zB6 hm⟩, hB⟩) (by simp only [zA2, zA5, List.length_append, List.length_cons, List.length_nil, zAM, zAT, zAK, zAH]; omega) (by simp) (by simp only [zA2, zA5, List.length_append, List.length_cons, List.length_nil, zAM, zAT, zAK, zAH]; omega)
 rwa [List.append_nil] at h
theorem zEj (P : Array Value) (a : ByteArray) (id : Int) (w : World) (hsz : P.size = 24) (h0 : P[0]? = some (.int .i64 16)) (h1 : P[1]? = some (.int .u32 id)) (h2 : P[2]? = some (.string a)) (ba : a.size ≤ 1000000) (i0 : 0 ≤ id) (i1 : id ≤ 4294967295) :
  Calls Tryz.prog 10 #[.agg P] w fun e w' => e = .returned (.tuple #[.string (bs (zA2 16 id (str (tl a)))), .int .i64 0]) ∧ Below w.heap.size w w' := by
 have h := zBE P 16 150 156 id (zA2 16 id (str (tl a))) [] w hsz h0 rfl rfl h1 (fun _ _ => by kernel_rfl) (enters_of Tryz.func156 (by kernel_rfl) rfl)
  (fun W => (zFI P a W h0 h2).mono fun e w' ⟨⟨q, he, _, hb⟩, hB⟩ => ⟨⟨q, he, (zEU q a id w' (zAB hb) ba (by rw [zAA hb]; rfl) i0 i1).mono fun _ _ hm => zB6 hm⟩, hB⟩) (by simp only [zA2, zA5, List.length_append, List.length_cons, List.length_nil, zAM, zAT, zAK, zAH]; omega) (by simp) (by simp only [zA2, zA5, List.length_append, List.length_cons, List.length_nil, zAM, zAT, zAK, zAH]; omega)
 rwa [List.append_nil] at h
theorem zIW (P : Array Value) (a : ByteArray) (id : Int) (w : World) (hsz : P.size = 24) (h0 : P[0]? = some (.int .i64 17)) (h1 : P[1]? = some (.int .u32 id)) (h2 : P[2]? = some (.string a)) (ba : a.size ≤ 1000000) (i0 : 0 ≤ id) (i1 : id ≤ 4294967295) :
  Calls Tryz.prog 10 #[.agg P] w fun e w' => e = .returned (.tuple #[.string (bs (zA2 17 id (str (tl a)))), .int .i64 0]) ∧ Below w.heap.size w w' := by
 have h := zBE P 17 152 159 id (zA2 17 id (str (tl a))) [] w hsz h0 rfl rfl h1 (fun _ _ => by kernel_rfl) (enters_of Tryz.func159 (by kernel_rfl) rfl)
  (fun W => (zJo P a W h0 h2).mono fun e w' ⟨⟨q, he, _, hb⟩, hB⟩ => ⟨⟨q, he, (zHP q a id w' (zAB hb) ba (by rw [zAA hb]; rfl) i0 i1).mono fun _ _ hm => zB6 hm⟩, hB⟩) (by simp only [zA2, zA5, List.length_append, List.length_cons, List.length_nil, zAM, zAT, zAK, zAH]; omega) (by simp) (by simp only [zA2, zA5, List.length_append, List.length_cons, List.length_nil, zAM, zAT, zAK, zAH]; omega)
 rwa [List.append_nil] at h
theorem zGN (P : Array Value) (a : ByteArray) (b : ByteArray) (id : Int) (w : World) (hsz : P.size = 24) (h0 : P[0]? = some (.int .i64 18)) (h1 : P[1]? = some (.int .u32 id)) (h2 : P[2]? = some (.string a)) (h3 : P[3]? = some (.string b)) (ba : a.size ≤ 1000000) (bb : b.size ≤ 1000000) (i0 : 0 ≤ id) (i1 : id ≤ 4294967295) :
  Calls Tryz.prog 10 #[.agg P] w fun e w' => e = .returned (.tuple #[.string (bs (zA2 18 id (str (tl a) ++ str (tl b)))), .int .i64 0]) ∧ Below w.heap.size w w' := by
 have h := zBE P 18 154 162 id (zA5 18 id (str (tl a) ++ str (tl b)) 0) [] w hsz h0 rfl rfl h1 (fun _ _ => by kernel_rfl) (enters_of Tryz.func162 (by kernel_rfl) rfl)
  (fun W => (zHM P a b W h0 h2 h3).mono fun e w' ⟨⟨q, he, _, hb⟩, hB⟩ => ⟨⟨q, he, (zFM q a b id w' hb ba bb i0 i1).mono fun _ _ hm => zBe hm⟩, hB⟩) (by simp only [zA2, zA5, List.length_append, List.length_cons, List.length_nil, zAM, zAT, zAK, zAH]; omega) (by simp) (by simp only [zA2, zA5, List.length_append, List.length_cons, List.length_nil, zAM, zAT, zAK, zAH]; omega)
 rwa [zBT, List.append_nil] at h
theorem zEk (P : Array Value) (a : ByteArray) (id : Int) (w : World) (hsz : P.size = 24) (h0 : P[0]? = some (.int .i64 19)) (h1 : P[1]? = some (.int .u32 id)) (h2 : P[2]? = some (.string a)) (ba : a.size ≤ 1000000) (i0 : 0 ≤ id) (i1 : id ≤ 4294967295) :
  Calls Tryz.prog 10 #[.agg P] w fun e w' => e = .returned (.tuple #[.string (bs (zA2 19 id (str (tl a)))), .int .i64 0]) ∧ Below w.heap.size w w' := by
 have h := zBE P 19 157 165 id (zA2 19 id (str (tl a))) [] w hsz h0 rfl rfl h1 (fun _ _ => by kernel_rfl) (enters_of Tryz.func165 (by kernel_rfl) rfl)
  (fun W => (zFJ P a W h0 h2).mono fun e w' ⟨⟨q, he, _, hb⟩, hB⟩ => ⟨⟨q, he, (zEV q a id w' (zAB hb) ba (by rw [zAA hb]; rfl) i0 i1).mono fun _ _ hm => zB6 hm⟩, hB⟩) (by simp only [zA2, zA5, List.length_append, List.length_cons, List.length_nil, zAM, zAT, zAK, zAH]; omega) (by simp) (by simp only [zA2, zA5, List.length_append, List.length_cons, List.length_nil, zAM, zAT, zAK, zAH]; omega)
 rwa [List.append_nil] at h
theorem zFQ (P : Array Value) (a : ByteArray) (b : ByteArray) (id : Int) (w : World) (hsz : P.size = 24) (h0 : P[0]? = some (.int .i64 20)) (h1 : P[1]? = some (.int .u32 id)) (h2 : P[2]? = some (.string a)) (h3 : P[3]? = some (.string b)) (ba : a.size ≤ 1000000) (bb : b.size ≤ 1000000) (i0 : 0 ≤ id) (i1 : id ≤ 4294967295) :
  Calls Tryz.prog 10 #[.agg P] w fun e w' => e = .returned (.tuple #[.string (bs (zA2 20 id (str (tl b) ++ str (tl a)))), .int .i64 0]) ∧ Below w.heap.size w w' := by
 have h := zBE P 20 159 168 id (zA5 20 id (str (tl b) ++ str (tl a)) 0) [] w hsz h0 rfl rfl h1 (fun _ _ => by kernel_rfl) (enters_of Tryz.func168 (by kernel_rfl) rfl)
  (fun W => (zGH P a b W h0 h2 h3).mono fun e w' ⟨⟨q, he, _, hb⟩, hB⟩ => ⟨⟨q, he, (zEi q a b id w' hb ba bb i0 i1).mono fun _ _ hm => zBe hm⟩, hB⟩) (by simp only [zA2, zA5, List.length_append, List.length_cons, List.length_nil, zAM, zAT, zAK, zAH]; omega) (by simp) (by simp only [zA2, zA5, List.length_append, List.length_cons, List.length_nil, zAM, zAT, zAK, zAH]; omega)
 rwa [zBT, List.append_nil] at h
theorem zGO (P : Array Value) (x : Int) (a : ByteArray) (b : ByteArray) (id : Int) (w : World) (hsz : P.size = 24) (h0 : P[0]? = some (.int .i64 101)) (h1 : P[1]? = some (.int .u32 id)) (h20 : P[20]? = some (.int .u32 x)) (h21 : P[21]? = some (.string a)) (h22 : P[22]? = some (.string b)) (x0 : 0 ≤ x) (x1 : x ≤ 4294967295) (ba : a.size ≤ 1000000) (bb : b.size ≤ 1000000) (i0 : 0 ≤ id) (i1 : id ≤ 4294967295) :
  Calls Tryz.prog 10 #[.agg P] w fun e w' => e = .returned (.tuple #[.string (bs (zA2 101 id (zAQ x ++ str (tl a) ++ str (tl b)))), .int .i64 0]) ∧ Below w.heap.size w w' := by
 have h := zBE P 101 162 172 id (zA5 101 id (zAQ x ++ str (tl a) ++ str (tl b)) 0) [] w hsz h0 rfl rfl h1 (fun _ _ => by kernel_rfl) (enters_of Tryz.func172 (by kernel_rfl) rfl)
  (fun W => (zHN P x a b W h0 h20 h21 h22).mono fun e w' ⟨⟨q, he, _, hb⟩, hB⟩ => ⟨⟨q, he, (zFN q x a b id w' hb x0 x1 ba bb i0 i1).mono fun _ _ hm => zBe hm⟩, hB⟩) (by simp only [zA2, zA5, List.length_append, List.length_cons, List.length_nil, zAM, zAT, zAK, zAH]; omega) (by simp) (by simp only [zA2, zA5, List.length_append, List.length_cons, List.length_nil, zAM, zAT, zAK, zAH]; omega)
 rwa [zBT, List.append_nil] at h
theorem zGP (P : Array Value) (a : ByteArray) (id : Int) (w : World) (hsz : P.size = 24) (h0 : P[0]? = some (.int .i64 102)) (h1 : P[1]? = some (.int .u32 id)) (h4 : P[4]? = some (.string a)) (ba : a.size ≤ 1000000) (i0 : 0 ≤ id) (i1 : id ≤ 4294967295) :
  Calls Tryz.prog 10 #[.agg P] w fun e w' => e = .returned (.tuple #[.string (bs (zA2 102 id (str (tl a)))), .int .i64 0]) ∧ Below w.heap.size w w' := by
 have h := zBE P 102 166 177 id (zA2 102 id (str (tl a))) [] w hsz h0 rfl rfl h1 (fun _ _ => by kernel_rfl) (enters_of Tryz.func177 (by kernel_rfl) rfl)
  (fun W => (zHO P a W h0 h4).mono fun e w' ⟨⟨q, he, _, hb⟩, hB⟩ => ⟨⟨q, he, (zFK q a id w' (zAB hb) ba (by rw [zAA hb]; rfl) i0 i1).mono fun _ _ hm => zB6 hm⟩, hB⟩) (by simp only [zA2, zA5, List.length_append, List.length_cons, List.length_nil, zAM, zAT, zAK, zAH]; omega) (by simp) (by simp only [zA2, zA5, List.length_append, List.length_cons, List.length_nil, zAM, zAT, zAK, zAH]; omega)
 rwa [List.append_nil] at h
theorem zHW (P : Array Value) (a : ByteArray) (x : Int) (d : ByteArray) (id : Int) (w : World) (hsz : P.size = 24) (h0 : P[0]? = some (.int .i64 6)) (h1 : P[1]? = some (.int .u32 id)) (h4 : P[4]? = some (.string a)) (h5 : P[5]? = some (.int .u64 x)) (h8 : P[8]? = some (.string d)) (ba : a.size ≤ 1000000) (x0 : 0 ≤ x) (x1 : x ≤ 18446744073709551615) (bd : d.size ≤ 1000000) (i0 : 0 ≤ id) (i1 : id ≤ 4294967295) :
  Calls Tryz.prog 10 #[.agg P] w fun e w' => e = .returned (.tuple #[.string (bs (zA2 6 id (str (tl a) ++ zBN x ++ str (tl d)))), .int .i64 0]) ∧ Below w.heap.size w w' := by
 have h := zBE P 6 126 125 id (zA5 6 id (str (tl a) ++ zBN x ++ zAQ (d.size : Int)) d.size) (tl d) w hsz h0 rfl rfl h1 (fun _ _ => by kernel_rfl) (enters_of Tryz.func125 (by kernel_rfl) rfl)
  (fun W => (zIU P a x d W h0 h4 h5 h8).mono fun e w' ⟨⟨q, s, c, he, _, hb, _, hsl, _, hsr⟩, hB⟩ => ⟨⟨q, he, (zGL q a x _ d.size c id w' hb ba x0 x1 bd i0 i1).mono fun _ _ hm => zHJ hm (zAH d) hsl hsr⟩, hB⟩) (by simp only [zA5, List.length_append, List.length_cons, List.length_nil, zAM, zAT, zAK, zAH]; omega) (by rw [zAH]; omega) (by simp only [zA5, List.length_append, List.length_cons, List.length_nil, zAM, zAT, zAK, zAH]; omega)
 have e : zA5 6 id (str (tl a) ++ zBN x ++ zAQ (d.size : Int)) d.size ++ tl d = zA2 6 id (str (tl a) ++ zBN x ++ str (tl d)) := by
  have := zCj 6 id (str (tl a) ++ zBN x ++ zAQ (d.size : Int)) (tl d)
  rw [zAH] at this
  rw [this, zLD d]
  try simp only [List.append_assoc]
 rwa [e] at h
theorem zIX (P : Array Value) (d : ByteArray) (id : Int) (w : World) (hsz : P.size = 24) (h0 : P[0]? = some (.int .i64 103)) (h1 : P[1]? = some (.int .u32 id)) (h8 : P[8]? = some (.string d)) (bd : d.size ≤ 1000000) (i0 : 0 ≤ id) (i1 : id ≤ 4294967295) :
  Calls Tryz.prog 10 #[.agg P] w fun e w' => e = .returned (.tuple #[.string (bs (zA2 103 id (str (tl d)))), .int .i64 0]) ∧ Below w.heap.size w w' := by
 have h := zBE P 103 168 180 id (zA5 103 id (zAQ (d.size : Int)) d.size) (tl d) w hsz h0 rfl rfl h1 (fun _ _ => by kernel_rfl) (enters_of Tryz.func180 (by kernel_rfl) rfl)
  (fun W => (zJp P  d W h0  h8).mono fun e w' ⟨⟨q, s, c, he, _, hb, _, hsl, _, hsr⟩, hB⟩ => ⟨⟨q, he, (zHR q  _ d.size c id w' hb  bd i0 i1).mono fun _ _ hm => zHJ hm (zAH d) hsl hsr⟩, hB⟩) (by simp only [zA5, List.length_append, List.length_cons, List.length_nil, zAM, zAT, zAK, zAH]; omega) (by rw [zAH]; omega) (by simp only [zA5, List.length_append, List.length_cons, List.length_nil, zAM, zAT, zAK, zAH]; omega)
 have e : zA5 103 id (zAQ (d.size : Int)) d.size ++ tl d = zA2 103 id (str (tl d)) := by
  have := zCj 103 id (zAQ (d.size : Int)) (tl d)
  rw [zAH] at this
  rw [this, zLD d]
  try simp only [List.append_assoc]
 rwa [e] at h
def zBP (x a b h d : ByteArray) : List UInt8 :=
 bif x.toList == [104, 97, 114, 100, 108, 105, 110, 107, 64, 111, 112, 101, 110, 115, 115, 104, 46, 99, 111, 109] then str (tl a) ++ str (tl b) else
 bif x.toList == [112, 111, 115, 105, 120, 45, 114, 101, 110, 97, 109, 101, 64, 111, 112, 101, 110, 115, 115, 104, 46, 99, 111, 109] then str (tl a) ++ str (tl b) else
 bif x.toList == [115, 116, 97, 116, 118, 102, 115, 64, 111, 112, 101, 110, 115, 115, 104, 46, 99, 111, 109] then str (tl a) else
 bif x.toList == [102, 115, 116, 97, 116, 118, 102, 115, 64, 111, 112, 101, 110, 115, 115, 104, 46, 99, 111, 109] then str (tl h) else
 bif x.toList == [102, 115, 121, 110, 99, 64, 111, 112, 101, 110, 115, 115, 104, 46, 99, 111, 109] then str (tl h) else
 tl d
theorem zDC {x : ByteArray} (a b h d : ByteArray) (hx : (x.toList == [104, 97, 114, 100, 108, 105, 110, 107, 64, 111, 112, 101, 110, 115, 115, 104, 46, 99, 111, 109]) = true) : zBP x a b h d = str (tl a) ++ str (tl b) := by
 unfold zBP; rw [hx]; rfl
theorem zCX {x : ByteArray} (a b h d : ByteArray) (h0 : (x.toList == [104, 97, 114, 100, 108, 105, 110, 107, 64, 111, 112, 101, 110, 115, 115, 104, 46, 99, 111, 109]) = false) (hx : (x.toList == [112, 111, 115, 105, 120, 45, 114, 101, 110, 97, 109, 101, 64, 111, 112, 101, 110, 115, 115, 104, 46, 99, 111, 109]) = true) : zBP x a b h d = str (tl a) ++ str (tl b) := by
 unfold zBP; rw [h0, hx]; rfl
theorem zDX {x : ByteArray} (a b h d : ByteArray) (h0 : (x.toList == [104, 97, 114, 100, 108, 105, 110, 107, 64, 111, 112, 101, 110, 115, 115, 104, 46, 99, 111, 109]) = false) (h1 : (x.toList == [112, 111, 115, 105, 120, 45, 114, 101, 110, 97, 109, 101, 64, 111, 112, 101, 110, 115, 115, 104, 46, 99, 111, 109]) = false) (hx : (x.toList == [115, 116, 97, 116, 118, 102, 115, 64, 111, 112, 101, 110, 115, 115, 104, 46, 99, 111, 109]) = true) : zBP x a b h d = str (tl a) := by
 unfold zBP; rw [h0, h1, hx]; rfl
theorem zDD {x : ByteArray} (a b h d : ByteArray) (h0 : (x.toList == [104, 97, 114, 100, 108, 105, 110, 107, 64, 111, 112, 101, 110, 115, 115, 104, 46, 99, 111, 109]) = false) (h1 : (x.toList == [112, 111, 115, 105, 120, 45, 114, 101, 110, 97, 109, 101, 64, 111, 112, 101, 110, 115, 115, 104, 46, 99, 111, 109]) = false) (h2 : (x.toList == [115, 116, 97, 116, 118, 102, 115, 64, 111, 112, 101, 110, 115, 115, 104, 46, 99, 111, 109]) = false) (hx : (x.toList == [102, 115, 116, 97, 116, 118, 102, 115, 64, 111, 112, 101, 110, 115, 115, 104, 46, 99, 111, 109]) = true) : zBP x a b h d = str (tl h) := by
 unfold zBP; rw [h0, h1, h2, hx]; rfl
theorem zEO {x : ByteArray} (a b h d : ByteArray) (h0 : (x.toList == [104, 97, 114, 100, 108, 105, 110, 107, 64, 111, 112, 101, 110, 115, 115, 104, 46, 99, 111, 109]) = false) (h1 : (x.toList == [112, 111, 115, 105, 120, 45, 114, 101, 110, 97, 109, 101, 64, 111, 112, 101, 110, 115, 115, 104, 46, 99, 111, 109]) = false) (h2 : (x.toList == [115, 116, 97, 116, 118, 102, 115, 64, 111, 112, 101, 110, 115, 115, 104, 46, 99, 111, 109]) = false) (h3 : (x.toList == [102, 115, 116, 97, 116, 118, 102, 115, 64, 111, 112, 101, 110, 115, 115, 104, 46, 99, 111, 109]) = false) (hx : (x.toList == [102, 115, 121, 110, 99, 64, 111, 112, 101, 110, 115, 115, 104, 46, 99, 111, 109]) = true) : zBP x a b h d = str (tl h) := by
 unfold zBP; rw [h0, h1, h2, h3, hx]; rfl
theorem zEl {x : ByteArray} (a b h d : ByteArray) (h0 : (x.toList == [104, 97, 114, 100, 108, 105, 110, 107, 64, 111, 112, 101, 110, 115, 115, 104, 46, 99, 111, 109]) = false) (h1 : (x.toList == [112, 111, 115, 105, 120, 45, 114, 101, 110, 97, 109, 101, 64, 111, 112, 101, 110, 115, 115, 104, 46, 99, 111, 109]) = false) (h2 : (x.toList == [115, 116, 97, 116, 118, 102, 115, 64, 111, 112, 101, 110, 115, 115, 104, 46, 99, 111, 109]) = false) (h3 : (x.toList == [102, 115, 116, 97, 116, 118, 102, 115, 64, 111, 112, 101, 110, 115, 115, 104, 46, 99, 111, 109]) = false) (h4 : (x.toList == [102, 115, 121, 110, 99, 64, 111, 112, 101, 110, 115, 115, 104, 46, 99, 111, 109]) = false) : zBP x a b h d = tl d := by
 unfold zBP; rw [h0, h1, h2, h3, h4]; rfl
theorem zFm {x a b h d : ByteArray} {n : Nat} (ha : a.size ≤ n) (hb : b.size ≤ n) (hh : h.size ≤ n) (hd : d.size ≤ n) : (zBP x a b h d).length ≤ 2 * n + 8 := by
 unfold zBP
 repeat' (cases (x.toList == _) <;> simp only [cond_true, cond_false])
 all_goals simp only [List.length_append, zAK, zAH]
 all_goals omega
def zIY (pl : List UInt8) (w : World) (e : Ending) (w' : World) : Prop :=
 ∃ tp F2 x, e = .returned (.iface tp (.pointer (some ⟨x, 0, none⟩))) ∧ (∀ (v : Value) (w : World), (Go.method 357 tp v "MarshalBinary").run Tryz.prog w = .ok (F2, v) w) ∧ (∀ (args : Array Value) (w : World), (callFunc F2 args).run Tryz.prog w = .ok (.enter F2 args) w)
  ∧ (∀ W, Below w'.heap.size w' W → Calls Tryz.prog F2 #[.pointer (some ⟨x, 0, none⟩)] W (zIP pl W)) ∧ Below w.heap.size w w'
theorem zGQ (a b : ByteArray) (w W : World) (ba : a.size ≤ 1000000) (bb : b.size ≤ 1000000) (hW : Below w.heap.size w W) : zIY (str (tl a) ++ str (tl b)) w (.returned (.iface 207 (.pointer (some ⟨W.heap.size, 0, none⟩)))) (W.alloc (.cells #[.string a, .string b] 208)) :=
 ⟨_, 209, _, rfl, fun _ _ => by kernel_rfl, enters_of Tryz.func209 (by kernel_rfl) rfl, fun W' hW' => (zDU _ a b W' ((hW'.block _ (by simp)).trans (heap_alloc_new _ _)) ba bb).mono fun _ _ h => zDi (by simp only [List.length_append, zAK]; omega) h, hW.alloc hW.size _⟩
theorem zEW (a b : ByteArray) (w W : World) (ba : a.size ≤ 1000000) (bb : b.size ≤ 1000000) (hW : Below w.heap.size w W) : zIY (str (tl a) ++ str (tl b)) w (.returned (.iface 209 (.pointer (some ⟨W.heap.size, 0, none⟩)))) (W.alloc (.cells #[.string a, .string b] 210)) :=
 ⟨_, 215, _, rfl, fun _ _ => by kernel_rfl, enters_of Tryz.func215 (by kernel_rfl) rfl, fun W' hW' => (zCo _ a b W' ((hW'.block _ (by simp)).trans (heap_alloc_new _ _)) ba bb).mono fun _ _ h => zDi (by simp only [List.length_append, zAK]; omega) h, hW.alloc hW.size _⟩
theorem zHX (a : ByteArray) (w W : World) (ba : a.size ≤ 1000000) (hW : Below w.heap.size w W) : zIY (str (tl a)) w (.returned (.iface 211 (.pointer (some ⟨W.heap.size, 0, none⟩)))) (W.alloc (.cells #[.string a] 212)) :=
 ⟨_, 221, _, rfl, fun _ _ => by kernel_rfl, enters_of Tryz.func221 (by kernel_rfl) rfl, fun W' hW' => (zD4 _ a W' ((hW'.block _ (by simp)).trans (heap_alloc_new _ _)) ba).mono fun _ _ h => zDi (by simp only [List.length_append, zAK]; omega) h, hW.alloc hW.size _⟩
theorem zGR (h : ByteArray) (w W : World) (bh : h.size ≤ 1000000) (hW : Below w.heap.size w W) : zIY (str (tl h)) w (.returned (.iface 213 (.pointer (some ⟨W.heap.size, 0, none⟩)))) (W.alloc (.cells #[.string h] 214)) :=
 ⟨_, 227, _, rfl, fun _ _ => by kernel_rfl, enters_of Tryz.func227 (by kernel_rfl) rfl, fun W' hW' => (zDT _ h W' ((hW'.block _ (by simp)).trans (heap_alloc_new _ _)) bh).mono fun _ _ h => zDi (by simp only [List.length_append, zAK]; omega) h, hW.alloc hW.size _⟩
theorem zJq (h : ByteArray) (w W : World) (bh : h.size ≤ 1000000) (hW : Below w.heap.size w W) : zIY (str (tl h)) w (.returned (.iface 215 (.pointer (some ⟨W.heap.size, 0, none⟩)))) (W.alloc (.cells #[.string h] 216)) :=
 ⟨_, 233, _, rfl, fun _ _ => by kernel_rfl, enters_of Tryz.func233 (by kernel_rfl) rfl, fun W' hW' => (zEC _ h W' ((hW'.block _ (by simp)).trans (heap_alloc_new _ _)) bh).mono fun _ _ h => zDi (by simp only [List.length_append, zAK]; omega) h, hW.alloc hW.size _⟩
theorem zIZ (d : ByteArray) (c : Nat) (w W W' : World) (bd : d.size ≤ 1000000) (hW : Below w.heap.size w W') (hs : W'.heap.size = W.heap.size + 1) (hl : Lies W' W.heap.size 0 (tl d)) : zIY (tl d) w (.returned (.iface 87 (.pointer (some ⟨W'.heap.size, 0, none⟩)))) (W'.alloc (.cells #[.slice (some ⟨W.heap.size, 0, none⟩) d.size c, .int .i64 0, .nilIface] 83)) :=
 ⟨_, 246, _, rfl, fun _ _ => by kernel_rfl, enters_of Tryz.func246 (by kernel_rfl) rfl, fun U hU => zFl _ W.heap.size c d.size (tl d) U ((hU.block _ (by simp)).trans (heap_alloc_new _ _)) ((hl.kept (heap_alloc_old _ _ (by omega))).kept (hU.block _ (by simp; omega))) (by have := hU.size; simp at this; omega) (zAH d) bd, hW.alloc hW.size _⟩
theorem zJr (P : Array Value) (x a b h d : ByteArray) (w : World) (h2 : P[2]? = some (.string a)) (h3 : P[3]? = some (.string b)) (h4 : P[4]? = some (.string h)) (h8 : P[8]? = some (.string d)) (h23 : P[23]? = some (.string x)) (ba : a.size ≤ 1000000) (bb : b.size ≤ 1000000) (bh : h.size ≤ 1000000) (bd : d.size ≤ 1000000) :
  Calls Tryz.prog 53 #[.agg P] w (zIY (zBP x a b h d) w) := by
 have kb := fun W => Lib.run_convert_string_bytes (P := Tryz.prog) W 9 56 5 d Tryz.underlying9 Tryz.underlying56 Tryz.underlying5
 have hb := heap_alloc_new w (.cells P 29 (0, 0))
 have hbl : Below w.heap.size w (w.alloc (.cells P 29)) := (Below.refl _ _).alloc (Nat.le_refl _) _
 generalize hW : w.alloc (.cells P 29) = W at hb hbl
 have c2 : W.cell? ⟨w.heap.size, 2, none⟩ = some (.string a) := by rw [zAA hb]; exact h2
 have c3 : W.cell? ⟨w.heap.size, 3, none⟩ = some (.string b) := by rw [zAA hb]; exact h3
 have c4 : W.cell? ⟨w.heap.size, 4, none⟩ = some (.string h) := by rw [zAA hb]; exact h4
 have c8 : W.cell? ⟨w.heap.size, 8, none⟩ = some (.string d) := by rw [zAA hb]; exact h8
 have c23 : W.cell? ⟨w.heap.size, 23, none⟩ = some (.string x) := by rw [zAA hb]; exact h23
 have hv : Below w.heap.size w (Lib.bytesWorld W 5 d) := bytes_below hbl hbl.size _ _
 have hvs : (Lib.bytesWorld W 5 d).heap.size = W.heap.size + 1 := Lib.bytesWorld_size _ _ _
 have hsr : Lies (Lib.bytesWorld W 5 d) W.heap.size 0 (tl d) := fun j b hj => zBp W _ d j b hj
 have HB := Lib.hid hbl
 have HW := Lib.hid hW
 have HV := Lib.hid hv
 have HS := Lib.hid hsr
 have HZ := Lib.hid hvs
 clear hb hbl hW h2 h3 h4 h8 h23 hv hvs hsr
 go_enter Tryz.func53, Tryz.ntmps53
 go_wp2_with (refine wpList_boxTo rfl 29 _ rfl (some 1) rfl w.heap.size rfl P rfl ?_; rw [HW.out])
 any_goals (rw [zDC a b h d (by assumption)]; clear kb HV HS HZ; go_ret; exact zGQ a b w W ba bb HB.out; done)
 any_goals (rw [zCX a b h d (by assumption) (by assumption)]; clear kb HV HS HZ; go_ret; exact zEW a b w W ba bb HB.out; done)
 any_goals (rw [zDX a b h d (by assumption) (by assumption) (by assumption)]; clear kb HV HS HZ; go_ret; exact zHX a w W ba HB.out; done)
 any_goals (rw [zDD a b h d (by assumption) (by assumption) (by assumption) (by assumption)]; clear kb HV HS HZ; go_ret; exact zGR h w W bh HB.out; done)
 any_goals (rw [zEO a b h d (by assumption) (by assumption) (by assumption) (by assumption) (by assumption)]; clear kb HV HS HZ; go_ret; exact zJq h w W bh HB.out; done)
 refine (zAZ _ _ _ _).mono ?_
 rintro e w1 ⟨rfl, rfl⟩
 go_wp2
 go_ret
 rw [zEl a b h d (by assumption) (by assumption) (by assumption) (by assumption) (by assumption)]
 exact zIZ d _ w W _ bd HV.out HZ.out HS.out
theorem zI0 (P : Array Value) (d : ByteArray) (w : World) (h0 : P[0]? = some (.int .i64 201)) (h8 : P[8]? = some (.string d)) (bd : d.size ≤ 1000000) :
  Calls Tryz.prog 26 #[.agg P] w fun e w' => (∃ q x, e = .returned (.iface 186 (.pointer (some ⟨q, 0, none⟩))) ∧ w'.heap[q]? = some (.cells #[.iface 87 (.pointer (some ⟨x, 0, none⟩))] 188 (0, 0))
   ∧ (∀ W, Below w'.heap.size w' W → Calls Tryz.prog 246 #[.pointer (some ⟨x, 0, none⟩)] W (zIP (tl d) W))) ∧ Below w.heap.size w w' := by
 have kb := fun W => Lib.run_convert_string_bytes (P := Tryz.prog) W 9 56 5 d Tryz.underlying9 Tryz.underlying56 Tryz.underlying5
 have hb := heap_alloc_new w (.cells P 29 (0, 0))
 have hbl : Below w.heap.size w (w.alloc (.cells P 29)) := (Below.refl _ _).alloc (Nat.le_refl _) _
 generalize hW : w.alloc (.cells P 29) = W at hb hbl
 have c0 : W.cell? ⟨w.heap.size, 0, none⟩ = some (.int .i64 201) := by rw [zAA hb]; exact h0
 have c8 : W.cell? ⟨w.heap.size, 8, none⟩ = some (.string d) := by rw [zAA hb]; exact h8
 have hv : Below w.heap.size w (Lib.bytesWorld W 5 d) := bytes_below hbl hbl.size _ _
 have hvs : (Lib.bytesWorld W 5 d).heap.size = W.heap.size + 1 := Lib.bytesWorld_size _ _ _
 have hsr : Lies (Lib.bytesWorld W 5 d) W.heap.size 0 (tl d) := fun j b hj => zBp W _ d j b hj
 have HB := Lib.hid hbl
 have HW := Lib.hid hW
 have HV := Lib.hid hv
 have HS := Lib.hid hsr
 have HZ := Lib.hid hvs
 clear hb hbl hW h0 h8 hv hvs hsr
 go_enter Tryz.func26, Tryz.ntmps26
 go_wp2_with (refine wpList_boxTo rfl 29 _ rfl (some 1) rfl w.heap.size rfl P rfl ?_; rw [HW.out])
 refine (zAZ _ _ _ _).mono ?_
 rintro e w1 ⟨rfl, hw1⟩
 have X1 := Lib.hid hw1
 have hs1 : w1.heap.size = W.heap.size + 2 := by rw [← hw1]; simp; have := HZ.out; omega
 have Z1 := Lib.hid hs1
 clear hw1 kb hs1
 go_wp2
 go_ret
 have hB : Below w.heap.size w w1 := by rw [← X1.out]; exact HV.out.alloc HV.out.size _
 refine ⟨⟨_, _, rfl, heap_alloc_new _ _, fun U hU => ?_⟩, hB.alloc hB.size _⟩
 have hz := HZ.out
 have hs1 := Z1.out
 have hw2 : w1.heap[(Lib.bytesWorld W 5 d).heap.size]? = some (.cells #[.slice (some ⟨W.heap.size, 0, none⟩) d.size (grownCap W d.size 0 5), .int .i64 0, .nilIface] 83 (0, 0)) := by rw [← X1.out]; exact heap_alloc_new _ _
 have hl : Lies w1 W.heap.size 0 (tl d) := by rw [← X1.out]; exact HS.out.kept (heap_alloc_old _ _ (by omega))
 refine zFl _ W.heap.size _ d.size (tl d) U ((hU.block _ (by simp; omega)).trans ((heap_alloc_old _ _ (by omega)).trans hw2)) ((hl.kept (heap_alloc_old _ _ (by omega))).kept (hU.block _ (by simp; omega))) (by have := hU.size; simp at this; omega) (zAH d) bd
theorem zFR (P : Array Value) (x a b h d : ByteArray) (w : World) (hsz : P.size = 24) (h0 : P[0]? = some (.int .i64 200)) (h2 : P[2]? = some (.string a)) (h3 : P[3]? = some (.string b)) (h4 : P[4]? = some (.string h)) (h8 : P[8]? = some (.string d)) (h23 : P[23]? = some (.string x)) (ba : a.size ≤ 1000000) (bb : b.size ≤ 1000000) (bh : h.size ≤ 1000000) (bd : d.size ≤ 1000000) :
  Calls Tryz.prog 26 #[.agg P] w fun e w' => (∃ q tp F2 y, e = .returned (.iface 181 (.pointer (some ⟨q, 0, none⟩))) ∧ w'.heap[q]? = some (.cells #[.string x, .iface tp (.pointer (some ⟨y, 0, none⟩))] 185 (0, 0))
   ∧ (∀ (v : Value) (w : World), (Go.method 357 tp v "MarshalBinary").run Tryz.prog w = .ok (F2, v) w) ∧ (∀ (args : Array Value) (w : World), (callFunc F2 args).run Tryz.prog w = .ok (.enter F2 args) w)
   ∧ (∀ W, Below w'.heap.size w' W → Calls Tryz.prog F2 #[.pointer (some ⟨y, 0, none⟩)] W (zIP (zBP x a b h d) W))) ∧ Below w.heap.size w w' := by
 have EC := Lib.hid (fun w' => zJr P x a b h d w' h2 h3 h4 h8 h23 ba bb bh bd)
 have hb := heap_alloc_new w (.cells P 29 (0, 0))
 have hbl : Below w.heap.size w (w.alloc (.cells P 29)) := (Below.refl _ _).alloc (Nat.le_refl _) _
 generalize hW : w.alloc (.cells P 29) = W at hb hbl
 have c0 : W.cell? ⟨w.heap.size, 0, none⟩ = some (.int .i64 200) := by rw [zAA hb]; exact h0
 have c23 : W.cell? ⟨w.heap.size, 23, none⟩ = some (.string x) := by rw [zAA hb]; exact h23
 have HB := Lib.hid hbl
 have HK := Lib.hid hb
 have HW := Lib.hid hW
 have PS := Lib.hid hsz
 have HX := Lib.hid h23
 clear hb hbl hW h0 h2 h3 h4 h8 h23 hsz
 go_enter Tryz.func26, Tryz.ntmps26
 go_wp2_with (refine wpList_boxTo rfl 29 _ rfl (some 1) rfl w.heap.size rfl P rfl ?_; rw [HW.out])
 refine wp_region_held_drew (S := fun w' => Below w.heap.size w w' ∧ w'.heap[w.heap.size]? = some (.cells P 29 (0, 0))) (by kernel_rfl) ⟨zBH HB.out, HK.out⟩ (fun hHeld => ?_)
 refine tkE 229 0 (.pointer (some ⟨w.heap.size, 23, none⟩)) hHeld ?_
 try simp only [zAJ]
 refine tkY 230 1 (.string x) rfl (Or.inl ⟨by rfl, fun w' hw' => by
  have c : w'.cell? ⟨w.heap.size, 23, none⟩ = some (.string x) := by rw [zAA hw'.2]; exact HX.out
  go_simp⟩) hHeld ?_
 try simp only [zAJ]
 refine tkY 231 2 (.agg P) rfl (zC1 (by rfl) 29 _ (by rfl) w.heap.size (by rfl) 29 P (0, 0) _ (fun w' hw' => hw'.2) Tryz.underlying29 rfl (zDz PS.out)) hHeld ?_
 try simp only [zAJ]
 refine wpAnyH_ready (rs := [3]) (by kernel_rfl) (by simp) (AllReadyH.cons rfl (fun K hK => ?_) AllReadyH.nil)
 rw [if_pos (by rfl)]
 go_wp2_with ((go_at_call 53; refine (EC.out _).mono ?_; rintro e w5 ⟨tp, F2, y, rfl, hm, hc, hp, hb5⟩))
 refine hK.out _ _ ⟨hHeld.1.trans (hb5.mono hHeld.1.size), zBO hb5 hHeld.2⟩ (fun hHeld => ?_)
 clear hK K
 have hh5 := hHeld
 have H5 := Lib.hid hh5
 have HP := Lib.hid hp
 clear hh5 hp
 try simp only [zAJ]
 refine tkE 233 4 (.agg #[.string x, .iface tp (.pointer (some ⟨y, 0, none⟩))]) hHeld ?_
 try simp only [zAJ]
 refine wpAnyH_ready (rs := [5]) (by kernel_rfl) (by simp) (AllReadyH.cons rfl (fun K hK => ?_) AllReadyH.nil)
 rw [if_pos (by rfl)]
 go_wp2_with fail
 refine hK.out _ _ ⟨hHeld.1.alloc hHeld.1.size _, by rw [heap_alloc_old _ _ (zAB hHeld.2)]; exact hHeld.2⟩ (fun hHeld => ?_)
 clear hK K
 try simp only [zAJ]
 refine tkE 235 6 (.iface 181 (.pointer (some ⟨w5.heap.size, 0, none⟩))) hHeld ?_
 try simp only [zAJ]
 refine tkE 2 7 (.iface 181 (.pointer (some ⟨w5.heap.size, 0, none⟩))) hHeld ?_
 try simp only [zAJ]
 refine wpAnyH_done (by kernel_rfl) ?_ _
 go_wp2_with fail
 go_ret
 exact ⟨⟨_, _, _, _, rfl, heap_alloc_new _ _, hm, hc, fun U hU => HP.out U (((Below.refl _ _).alloc (Nat.le_refl _) _).trans (hU.mono (by simp)))⟩, hHeld.1⟩
theorem zHY (P : Array Value) (d : ByteArray) (id : Int) (w : World) (hsz : P.size = 24) (h0 : P[0]? = some (.int .i64 201)) (h1 : P[1]? = some (.int .u32 id)) (h8 : P[8]? = some (.string d)) (bd : d.size ≤ 1000000) (i0 : 0 ≤ id) (i1 : id ≤ 4294967295) :
  Calls Tryz.prog 10 #[.agg P] w fun e w' => e = .returned (.tuple #[.string (bs (zA2 201 id (tl d))), .int .i64 0]) ∧ Below w.heap.size w w' := by
 have h := zBE P 201 186 196 id (zA5 201 id [] (tl d).length) (tl d) w hsz h0 rfl rfl h1 (fun _ _ => by kernel_rfl) (enters_of Tryz.func196 (by kernel_rfl) rfl)
  (fun W => (zI0 P d W h0 h8 bd).mono fun e w' ⟨⟨q, x, he, hb, hp⟩, hB⟩ => ⟨⟨q, he, zGE q x _ _ (tl d) id w' hb (fun _ _ => by kernel_rfl) (enters_of Tryz.func246 (by kernel_rfl) rfl) hp (by rw [zAH]; exact bd) i0 i1⟩, hB⟩) (by simp only [zA5, List.length_append, List.length_cons, List.length_nil, zAM]; omega) (by rw [zAH]; omega) (by simp only [zA5, List.length_append, List.length_cons, List.length_nil, zAM]; omega)
 rwa [zCj, List.nil_append] at h
theorem zEm (P : Array Value) (x a b h d : ByteArray) (id : Int) (w : World) (hsz : P.size = 24) (h0 : P[0]? = some (.int .i64 200)) (h1 : P[1]? = some (.int .u32 id)) (h2 : P[2]? = some (.string a)) (h3 : P[3]? = some (.string b)) (h4 : P[4]? = some (.string h)) (h8 : P[8]? = some (.string d)) (h23 : P[23]? = some (.string x)) (ba : a.size ≤ 400000) (bb : b.size ≤ 400000) (bh : h.size ≤ 400000) (bd : d.size ≤ 400000) (bx : x.size ≤ 400000) (i0 : 0 ≤ id) (i1 : id ≤ 4294967295) :
  Calls Tryz.prog 10 #[.agg P] w fun e w' => e = .returned (.tuple #[.string (bs (zA2 200 id (str (tl x) ++ zBP x a b h d))), .int .i64 0]) ∧ Below w.heap.size w w' := by
 have hle := zFm (x := x) ba bb bh bd
 have h := zBE P 200 181 192 id (zA5 200 id (str (tl x)) (zBP x a b h d).length) (zBP x a b h d) w hsz h0 rfl rfl h1 (fun _ _ => by kernel_rfl) (enters_of Tryz.func192 (by kernel_rfl) rfl)
  (fun W => (zFR P x a b h d W hsz h0 h2 h3 h4 h8 h23 (by omega) (by omega) (by omega) (by omega)).mono fun e w' ⟨⟨q, tp, F2, y, he, hb, hm, hc, hp⟩, hB⟩ => ⟨⟨q, he, zET q y x tp F2 _ id w' hb hm hc hp (by omega) (by omega) i0 i1⟩, hB⟩) (by simp only [zA5, List.length_append, List.length_cons, List.length_nil, zAM, zAK, zAH]; omega) (by omega) (by simp only [zA5, List.length_append, List.length_cons, List.length_nil, zAM, zAK, zAH]; omega)
 rwa [zCj] at h
end Go.Proofs.YtgnficcjnijdbaaGreat
namespace Go.Proofs.YtgnficcjnijdbaaGreat
open Go.ChangeShapes Go.WideShapes Go.ChangeAt Go.RowKit
section
variable {H : Type} {enc : TypeId × Value → H} {P : Program}
theorem zFS {f : Func} {s : ChangeSpec} {apart fresh handsOn again : Bool} {W W' : World} {args : Array Value} {v : Value} {ds gs : List (DataW H)} {before pa pv : List MemPlace}
  (hW : DataW.Whole enc P f.params.toList s.vars apart W args.toList ds gs before)
  (hres : ∀ (b : Nat) (sp : Nat → Bool) (hd : Bool), DataW.TrodAll enc P W' b sp hd f.resultTypes.toList (v.resultList f.resultTypes.size) (s.fn H (ds ++ gs)).results [])
  (hargs : ∀ sp : Nat → Bool, (∀ p ∈ before, sp p.block = true) → DataW.TrodAll enc P W' 0 sp true f.params.toList args.toList (s.fn H (ds ++ gs)).args pa)
  (hvars : ∀ sp : Nat → Bool, (∀ p ∈ before, sp p.block = true) → DataW.TrodVars enc P W' sp s.vars (s.fn H (ds ++ gs)).vars pv)
  (hps : before = pa ++ pv) (hb : Below W.heap.size W W')
  (hok : ∀ (j : Nat) (t : TypeId) (r : Value), f.resultTypes[j]? = some t → (v.resultList f.resultTypes.size)[j]? = some r → Value.okWide P W' .any 0 t r) :
  s.post enc P f apart fresh handsOn again W args v W' := by
 have hold : ∀ p ∈ before, (fun b => decide (b < W.heap.size)) p.block = true := fun p hp => by simpa using hW.lt p hp
 have hlt := fun p hp => hW.lt p hp
 refine ⟨ds, gs, before, [], pa, pv, hW, hres _ _ _, hargs _ hold, hvars _ hold, World.keptBut_mono (fun p hp => ⟨hp, ?_⟩) (hb.frame _), fun _ => ?_⟩
 ·rw [hps, List.mem_append] at hp
  exact Or.inr hp
 ·obtain ⟨_, _, _, _, _, hz, hn⟩ := hW
  refine ⟨hok, _, _, ([] ++ pa) ++ pv, ⟨[] ++ pa, pv, trodAll_append (hargs _ (fun _ _ => rfl)) (hres _ _ _), hvars _ (fun _ _ => rfl), rfl, ?_, ?_⟩, ?_⟩
  ·intro b off hp
   have hp' := by simpa [hps] using hp
   rw [hb.frozen (p := ⟨b, off, none⟩) (show b < W.heap.size from hlt (.cell b off) (by rw [hps]; simpa using hp))]
   exact hz b off (by rw [hps]; simpa using hp)
  ·intro ha
   have := hn ha
   rw [hps] at this
   simpa using this
  ·intro p hp _
   rw [hps]
   simpa using hp
end
end Go.Proofs.YtgnficcjnijdbaaGreat
