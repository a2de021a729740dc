/-
  A packet's marshalling.
-/
import Derived.Test.YtmenkckgpiafiaaGreatC
namespace Go.Proofs.YtmenkckgpiafiaaGreat
open Go.RowKit

/-- What a packet's MarshalPacket hands back: its head, and nothing behind it. -/
def Marsh (L : List UInt8) (w : World) (e : Ending) (w' : World) : Prop :=
  ∃ v, e = .returned (.tuple #[v, .slice none 0 0, .nilIface]) ∧ w'.ownsRow w.heap.size 5 1 v L.length (u8s L) ∧ Below w.heap.size w w'
/-- A packet: its length, its type, its number and its fields. -/
def pack (t id : Int) (F : List UInt8) : List UInt8 := be32 (5 + F.length) ++ [bt t] ++ be32 id ++ F

set_option maxHeartbeats 1600000 in
theorem marshalClose (q : Nat) (s : ByteArray) (id : Int) (w : World) (hq : q < w.heap.size) (hs : s.size ≤ 1000000) (hc : w.cell? ⟨q, 0, none⟩ = some (.string s)) (i0 : 0 ≤ id) (i1 : id ≤ 4294967295) :
    Calls Tryz.prog 184 #[.pointer (some ⟨q, 0, none⟩), .int .u32 id, .slice none 0 0] w (Marsh (pack 4 id (str (tl s))) w) := by
  have HC := Lib.hid hc
  clear hc
  have hsz : (tl s).length = s.size := tl_length s
  go_enter Tryz.func184, Tryz.ntmps184
  go_wp2_with fail
  refine (newBuffer _ _ _ _).mono ?_
  rintro e w1 ⟨rfl, hw⟩
  have cb : w1.cell? ⟨w.heap.size, 0, none⟩ = some (.slice none 0 0) := by rw [← hw, cell_of_blk (heap_alloc_new _ _)]; rfl
  have hb1 : Below w.heap.size w w1 := by rw [← hw]; exact (Below.refl _ _).alloc (Nat.le_refl _) _
  have c1 := cell_below hb1 hq HC.out
  have z1 := hb1.size
  have B1 := Lib.hid hb1
  clear hb1 hw
  go_wp2_with fail
  refine (capB _ _ _ _ _ cb).mono ?_
  rintro e w' ⟨rfl, rfl⟩
  go_wp2_with fail
  refine (newMarshal w.heap.size _ _ z1 (by omega) (by omega)).mono ?_
  rintro e w2 ⟨g, h, N, l, rfl, m2, hN, hb2⟩
  have c2 := cell_below hb2 hq c1
  have M2 := Lib.hid m2
  have B2 := Lib.hid (B1.out.trans hb2)
  clear m2 hb2 c1 cb
  go_wp2_with fail
  refine (startPacket w.heap.size g h N N l _ _ _ M2.out (by omega) (by omega) (by omega) i0 i1).mono ?_
  rintro e w3 ⟨rfl, v3, m3, hb3⟩
  have c3 := cell_below hb3 hq c2
  have M3 := Lib.hid m3
  have B3 := Lib.hid (B2.out.trans hb3)
  clear m3 hb3 c2
  go_wp2_with fail
  refine (appendString w.heap.size g v3 _ s _ M3.out (by simp [be32]) (by omega)).mono ?_
  rintro e w4 ⟨rfl, v4, m4, u4, _⟩
  have hb4 := M3.out.below u4
  have M4 := Lib.hid m4
  have B4 := Lib.hid (B3.out.trans hb4)
  clear m4 hb4 u4
  go_wp2_with fail
  refine (packet0 w.heap.size g v4 _ _ _ _ _ M4.out (by simp [be32] <;> omega) (by simp [be32, str] <;> omega) (by omega)).mono ?_
  rintro e w5 ⟨rfl, m5, g5⟩
  have M5 := Lib.hid m5
  have B5 := Lib.hid (B4.out.grown g5 (by have := M4.out.baseLe; omega) (fun k hk => (M4.out.own.lt k hk).1))
  clear m5 g5
  go_wp2_with fail
  go_ret3
  refine ⟨_, rfl, ?_, B5.out⟩
  have e : be32 (((([0, 0, 0, 0, bt 4] ++ be32 id ++ str (tl s)).length : Nat) : Int) - 4 + ((0 : Nat) : Int)) ++ ([0, 0, 0, 0, bt 4] ++ be32 id ++ str (tl s)).drop 4 = pack 4 id (str (tl s)) := by
    unfold pack
    rw [show (((([0, 0, 0, 0, bt 4] ++ be32 id ++ str (tl s)).length : Nat) : Int) - 4 + ((0 : Nat) : Int)) = 5 + ((str (tl s)).length : Int) from by simp [be32]; omega]
    rfl
  rw [← e]
  exact M5.out.own
end Go.Proofs.YtmenkckgpiafiaaGreat
