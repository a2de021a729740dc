/-
  Contracts of the buffer's Append functions.
-/
import Derived.Test.YtmenkckgpiafiaaGreatRows
import Derived.Test.YtmenkckgpiafiaaGreatL
import Derived.WalkSpells
import Derived.WalkLawsBesides
import Derived.Deep.QuietTactic
import Derived.BigQuiet
import Derived.IntWalk
import Derived.Outline
import Derived.OneCell
namespace Go.Proofs.YtmenkckgpiafiaaGreat
open Go.RowKit

theorem info8 : (Tryz.prog.info? 5).map (fun i => (i.zero, i.size, i.bytes)) = some (some (.int .u8 0), 1, 1) := by kernel_rfl

theorem cons_eq {a b : Value} {l m : List Value} (h : a = b) (h2 : l = m) : a :: l = b :: m := by rw [h, h2]
/-- A byte. -/
def b1 (x : Int) : List UInt8 := [bt x]
theorem u8_bt {x y : Int} (h : y = x % 256) : Value.int .u8 y = u8 (bt x) := by unfold u8; rw [bt_int, h]
set_option maxHeartbeats 800000 in
theorem append8 (base g : Nat) (v : Value) (l : List UInt8) (x : Int) (w : World) (hb : MBuf base w g v l) (h0 : 0 ≤ x) (h1 : x ≤ 255) (hl : l.length ≤ 1000000000) :
    Calls Tryz.prog 97 #[.pointer (some ⟨g, 0, none⟩), .int .u8 x] w fun e w' => e = .returned (.tuple #[]) ∧ ∃ v', MBuf base w' g v' (l ++ b1 x) ∧ Upd g v w w' ∧ (v'.ownBlock = v.ownBlock ∨ ∃ k, v'.ownBlock = some k ∧ w.heap.size ≤ k) := by
  have c0 := hb.cell
  have hbl := hb.baseLe
  have HB := Lib.hid hb
  clear hb
  go_enter Tryz.func97, Tryz.ntmps97
  go_wp2_with (at_builtin; refine app_lit rfl _ _ 93 5 rfl Tryz.underlying93 info8 base v l rfl HB.out.own 1 1 _ (b1 x) rfl ?_ rfl ?c1 ?c2 ?c3; intro v1 w1 hown hg hat; obtain ⟨A1, cap1, rfl⟩ := own_slice hown; have cg := HB.out.cellAfter hg; have fg := HB.out.frozenAfter hg)
  · go_end0
    have hm := HB.out.appended hown hg (hat.imp id (fun e => ⟨_, e, by omega⟩))
    simp only [List.length_append] at hm
    exact ⟨rfl, _, hm⟩
  case c1 => exact cons_eq (u8_bt (by omega)) rfl
  case c2 => omega
  case c3 => exact hbl

set_option maxHeartbeats 800000 in
theorem append16 (base g : Nat) (v : Value) (l : List UInt8) (x : Int) (w : World) (hb : MBuf base w g v l) (h0 : 0 ≤ x) (h1 : x ≤ 65535) (hl : l.length ≤ 1000000000) :
    Calls Tryz.prog 98 #[.pointer (some ⟨g, 0, none⟩), .int .u16 x] w fun e w' => e = .returned (.tuple #[]) ∧ ∃ v', MBuf base w' g v' (l ++ be16 x) ∧ Upd g v w w' ∧ (v'.ownBlock = v.ownBlock ∨ ∃ k, v'.ownBlock = some k ∧ w.heap.size ≤ k) := by
  have c0 := hb.cell
  have hbl := hb.baseLe
  have HB := Lib.hid hb
  clear hb
  go_enter Tryz.func98, Tryz.ntmps98
  go_wp2_with (at_builtin; refine app_lit rfl _ _ 93 5 rfl Tryz.underlying93 info8 base v l rfl HB.out.own 2 2 _ (be16 x) rfl ?_ rfl ?c1 ?c2 ?c3; intro v1 w1 hown hg hat; obtain ⟨A1, cap1, rfl⟩ := own_slice hown; have cg := HB.out.cellAfter hg; have fg := HB.out.frozenAfter hg)
  · go_end0
    have hm := HB.out.appended hown hg (hat.imp id (fun e => ⟨_, e, by omega⟩))
    simp only [List.length_append] at hm
    exact ⟨rfl, _, hm⟩
  case c1 => exact cons_eq (u8_bt (by omega)) (cons_eq (u8_bt (by omega)) rfl)
  case c2 => omega
  case c3 => exact hbl

set_option maxHeartbeats 800000 in
theorem append32 (base g : Nat) (v : Value) (l : List UInt8) (x : Int) (w : World) (hb : MBuf base w g v l) (h0 : 0 ≤ x) (h1 : x ≤ 4294967295) (hl : l.length ≤ 1000000000) :
    Calls Tryz.prog 99 #[.pointer (some ⟨g, 0, none⟩), .int .u32 x] w fun e w' => e = .returned (.tuple #[]) ∧ ∃ v', MBuf base w' g v' (l ++ be32 x) ∧ Upd g v w w' ∧ (v'.ownBlock = v.ownBlock ∨ ∃ k, v'.ownBlock = some k ∧ w.heap.size ≤ k) := by
  have c0 := hb.cell
  have hbl := hb.baseLe
  have HB := Lib.hid hb
  clear hb
  go_enter Tryz.func99, Tryz.ntmps99
  go_wp2_with (at_builtin; refine app_lit rfl _ _ 93 5 rfl Tryz.underlying93 info8 base v l rfl HB.out.own 4 4 _ (be32 x) rfl ?_ rfl ?c1 ?c2 ?c3; intro v1 w1 hown hg hat; obtain ⟨A1, cap1, rfl⟩ := own_slice hown; have cg := HB.out.cellAfter hg; have fg := HB.out.frozenAfter hg)
  · go_end0
    have hm := HB.out.appended hown hg (hat.imp id (fun e => ⟨_, e, by omega⟩))
    simp only [List.length_append] at hm
    exact ⟨rfl, _, hm⟩
  case c1 => exact cons_eq (u8_bt (by omega)) (cons_eq (u8_bt (by omega)) (cons_eq (u8_bt (by omega)) (cons_eq (u8_bt (by omega)) rfl)))
  case c2 => omega
  case c3 => exact hbl

set_option maxHeartbeats 800000 in
theorem append64 (base g : Nat) (v : Value) (l : List UInt8) (x : Int) (w : World) (hb : MBuf base w g v l) (h0 : 0 ≤ x) (h1 : x ≤ 18446744073709551615) (hl : l.length ≤ 1000000000) :
    Calls Tryz.prog 100 #[.pointer (some ⟨g, 0, none⟩), .int .u64 x] w fun e w' => e = .returned (.tuple #[]) ∧ ∃ v', MBuf base w' g v' (l ++ be64 x) ∧ Upd g v w w' ∧ (v'.ownBlock = v.ownBlock ∨ ∃ k, v'.ownBlock = some k ∧ w.heap.size ≤ k) := by
  have c0 := hb.cell
  have hbl := hb.baseLe
  have HB := Lib.hid hb
  clear hb
  go_enter Tryz.func100, Tryz.ntmps100
  go_wp2_with (at_builtin; refine app_lit rfl _ _ 93 5 rfl Tryz.underlying93 info8 base v l rfl HB.out.own 8 8 _ (be64 x) rfl ?_ rfl ?c1 ?c2 ?c3; intro v1 w1 hown hg hat; obtain ⟨A1, cap1, rfl⟩ := own_slice hown; have cg := HB.out.cellAfter hg; have fg := HB.out.frozenAfter hg)
  · go_end0
    have hm := HB.out.appended hown hg (hat.imp id (fun e => ⟨_, e, by omega⟩))
    simp only [List.length_append] at hm
    exact ⟨rfl, _, hm⟩
  case c1 => exact cons_eq (u8_bt (by omega)) (cons_eq (u8_bt (by omega)) (cons_eq (u8_bt (by omega)) (cons_eq (u8_bt (by omega)) (cons_eq (u8_bt (by omega)) (cons_eq (u8_bt (by omega)) (cons_eq (u8_bt (by omega)) (cons_eq (u8_bt (by omega)) rfl)))))))
  case c2 => omega
  case c3 => exact hbl

end Go.Proofs.YtmenkckgpiafiaaGreat
