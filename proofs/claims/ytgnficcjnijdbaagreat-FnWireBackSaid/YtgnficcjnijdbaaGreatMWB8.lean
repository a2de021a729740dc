/-
  A packet that was written is read as what it was: laws.FnWireBack answers true, for every packet of the given size.
-/
import Derived.Test.YtgnficcjnijdbaaGreatRows
import Derived.ChangeSlices
import Derived.ShutString
import Derived.Test.YtgnficcjnijdbaaGreatMWB3
import Derived.Test.YtgnficcjnijdbaaGreatMWB4
import Derived.Test.YtgnficcjnijdbaaGreatMWB5
import Derived.Test.YtgnficcjnijdbaaGreatMWB6
import Derived.Test.YtgnficcjnijdbaaGreatMWB7
set_option linter.unusedVariables false
set_option linter.unusedSimpArgs false
set_option maxHeartbeats 20000000
set_option maxRecDepth 5000
namespace Go.Proofs.YtgnficcjnijdbaaGreat
open Go.RowKit Go.Great Go.Proofs.YtgnficcjnijdbaaGreatW.PrintWords Go.Proofs.YtgnficcjnijdbaaGreatW.PrintLast Go.Proofs.YtgnficcjnijdbaaGreatW.PrintMore Go.Proofs.YtgnficcjnijdbaaGreat.KK
theorem zLv (x : Nat) (v : Value) (d : ByteArray) (B : Nat) (w : World) (hx : w.heap[x]? = some (.cells #[v, .int .i64 0, .nilIface] 83 (0, 0))) (hv : OwnB B w v (tl d)) (hxB : x < B) (hd : d.size ≤ 1000000) :
  Calls Tryz.prog 51 #[.pointer (some ⟨x, 0, none⟩)] w fun e w' => ∃ u k, e = .returned u ∧ w' = w.drewN k ∧ (convert 56 9 u).run Tryz.prog w' = .ok (.string d) w' := by
 rcases hv with ⟨rfl, h⟩ | ⟨h, c, rfl, h1, h2, h3, h4⟩
 ·have c0 : w.cell? ⟨x, 0, none⟩ = some (.slice none 0 0) := by rw [zAA hx]; rfl
  have c1 : w.cell? ⟨x, 1, none⟩ = some (.int .i64 0) := by rw [zAA hx]; rfl
  have F := Lib.hid (fun k => (OwnB.conv (B := 0) (w := w) (v := .slice none 0 0) (d := d) (.inl ⟨rfl, h⟩) (w.drewN k) (zAq (Below.refl _ _) k)))
  clear hx h
  go_enter Tryz.func51, Tryz.ntmps51
  go_wp2_with fail
  go_quiet (fail)
  go_wp2_with fail
  go_ret
  exact ⟨_, _, rfl, rfl, F.out _⟩
 ·have hl := zAH d
  have hb : RBuf w x 0 h (some (tl d)) := ⟨⟨0, _, c, 0, by rw [zAA hx]; rfl, by rw [zAA hx]; rfl, ⟨by omega, h2⟩, by omega, h4, by omega, by rw [zAA hx]; rfl, by omega, h3⟩, zAP hx⟩
  refine (zIJ x 0 h (tl d) w hb).mono ?_
  rintro e w' ⟨p, c', rfl, hc, _, hs, hL, k, rfl⟩
  refine ⟨_, k, rfl, rfl, ?_⟩
  have h9 := zCN (w.drewN k) h p c' _ hL 56 9 5 Tryz.underlying56 Tryz.underlying5 Tryz.underlying9
  rw [zGx] at h9
  exact h9
theorem OwnB.below {B : Nat} {w w' : World} {v : Value} {l : List UInt8} (h : OwnB B w v l) (hb : Below w.heap.size w w') : OwnB B w' v l := h.kept hb.size (fun k _ hk => hb.block k hk)
theorem zHx (x : Nat) (v : Value) (d : ByteArray) (B : Nat) (w : World) (hx : w.heap[x]? = some (.cells #[v, .int .i64 0, .nilIface] 83 (0, 0))) (hv : OwnB B w v (tl d)) (hxB : x < B) (hd : d.size ≤ 1000000) : UnextQ (fun P => P.setIfInBounds 8 (.string d)) 87 x w := by
 intro W q P hW hq hP hxq hqw
 have BC := Lib.hid (zLv x v d B W ((hW.block x (zAB hx)).trans hx) (hv.below hW) hxB hd)
 have ta0 : ∀ (v : Value) (w : World), (Instr.typeAssert (.iface 87 v) 182 207 true).run Tryz.prog w = .ok (.tuple #[.pointer none, .bool false]) w := fun _ _ => by kernel_rfl
 have ta1 : ∀ (v : Value) (w : World), (Instr.typeAssert (.iface 87 v) 182 209 true).run Tryz.prog w = .ok (.tuple #[.pointer none, .bool false]) w := fun _ _ => by kernel_rfl
 have ta2 : ∀ (v : Value) (w : World), (Instr.typeAssert (.iface 87 v) 182 211 true).run Tryz.prog w = .ok (.tuple #[.pointer none, .bool false]) w := fun _ _ => by kernel_rfl
 have ta3 : ∀ (v : Value) (w : World), (Instr.typeAssert (.iface 87 v) 182 213 true).run Tryz.prog w = .ok (.tuple #[.pointer none, .bool false]) w := fun _ _ => by kernel_rfl
 have ta4 : ∀ (v : Value) (w : World), (Instr.typeAssert (.iface 87 v) 182 215 true).run Tryz.prog w = .ok (.tuple #[.pointer none, .bool false]) w := fun _ _ => by kernel_rfl
 have tc : ∀ (v : Value) (w : World), (Instr.typeAssert (.iface 87 v) 182 87 true).run Tryz.prog w = .ok (.tuple #[v, .bool true]) w := fun _ _ => by kernel_rfl
 have HQ := Lib.hid hq
 have HP := Lib.hid hP
 clear hx hv hW hq hqw hP
 go_enter Tryz.func62, Tryz.ntmps62
 go_wp2_with fail
 refine BC.out.mono ?_
 rintro e w1 ⟨u, k, rfl, rfl, kc⟩
 have hP := HP.out
 obtain ⟨u8, cq8⟩ := zCZ (w := W.drewN k) HQ.out (i := 8) (by omega)
 have fq8 : (W.drewN k).frozen? ⟨q, 8, none⟩ = false := zAP (w := W.drewN k) HQ.out 8
 have F := Lib.hid (show (((W.drewN k).setCell ⟨q, 8, none⟩ (.string d)).heap[q]? = some (.cells (P.setIfInBounds 8 (.string d)) 29 (0, 0)) ∧ UpdB (fun j => j = q) W ((W.drewN k).setCell ⟨q, 8, none⟩ (.string d))) from
  ⟨zAU (w := W.drewN k) HQ.out _, UpdB.setCell (ks := fun j => j = q) (show UpdB (fun j => j = q) W (W.drewN k) from ⟨rfl, rfl, rfl, Nat.le_refl _, fun _ _ _ => rfl⟩) (a := ⟨q, 8, none⟩) rfl _⟩)
 clear BC HQ HP hP
 go_wp2_with fail
 go_ret
 exact ⟨rfl, F.out⟩
theorem zPE (x : ByteArray) : ((x.toList == [104, 97, 114, 100, 108, 105, 110, 107, 64, 111, 112, 101, 110, 115, 115, 104, 46, 99, 111, 109]) = true ∧ (x.toList == [112, 111, 115, 105, 120, 45, 114, 101, 110, 97, 109, 101, 64, 111, 112, 101, 110, 115, 115, 104, 46, 99, 111, 109]) = false ∧ (x.toList == [115, 116, 97, 116, 118, 102, 115, 64, 111, 112, 101, 110, 115, 115, 104, 46, 99, 111, 109]) = false ∧ (x.toList == [102, 115, 116, 97, 116, 118, 102, 115, 64, 111, 112, 101, 110, 115, 115, 104, 46, 99, 111, 109]) = false ∧ (x.toList == [102, 115, 121, 110, 99, 64, 111, 112, 101, 110, 115, 115, 104, 46, 99, 111, 109]) = false) ∨ ((x.toList == [104, 97, 114, 100, 108, 105, 110, 107, 64, 111, 112, 101, 110, 115, 115, 104, 46, 99, 111, 109]) = false ∧ (x.toList == [112, 111, 115, 105, 120, 45, 114, 101, 110, 97, 109, 101, 64, 111, 112, 101, 110, 115, 115, 104, 46, 99, 111, 109]) = true ∧ (x.toList == [115, 116, 97, 116, 118, 102, 115, 64, 111, 112, 101, 110, 115, 115, 104, 46, 99, 111, 109]) = false ∧ (x.toList == [102, 115, 116, 97, 116, 118, 102, 115, 64, 111, 112, 101, 110, 115, 115, 104, 46, 99, 111, 109]) = false ∧ (x.toList == [102, 115, 121, 110, 99, 64, 111, 112, 101, 110, 115, 115, 104, 46, 99, 111, 109]) = false) ∨ ((x.toList == [104, 97, 114, 100, 108, 105, 110, 107, 64, 111, 112, 101, 110, 115, 115, 104, 46, 99, 111, 109]) = false ∧ (x.toList == [112, 111, 115, 105, 120, 45, 114, 101, 110, 97, 109, 101, 64, 111, 112, 101, 110, 115, 115, 104, 46, 99, 111, 109]) = false ∧ (x.toList == [115, 116, 97, 116, 118, 102, 115, 64, 111, 112, 101, 110, 115, 115, 104, 46, 99, 111, 109]) = true ∧ (x.toList == [102, 115, 116, 97, 116, 118, 102, 115, 64, 111, 112, 101, 110, 115, 115, 104, 46, 99, 111, 109]) = false ∧ (x.toList == [102, 115, 121, 110, 99, 64, 111, 112, 101, 110, 115, 115, 104, 46, 99, 111, 109]) = false) ∨ ((x.toList == [104, 97, 114, 100, 108, 105, 110, 107, 64, 111, 112, 101, 110, 115, 115, 104, 46, 99, 111, 109]) = false ∧ (x.toList == [112, 111, 115, 105, 120, 45, 114, 101, 110, 97, 109, 101, 64, 111, 112, 101, 110, 115, 115, 104, 46, 99, 111, 109]) = false ∧ (x.toList == [115, 116, 97, 116, 118, 102, 115, 64, 111, 112, 101, 110, 115, 115, 104, 46, 99, 111, 109]) = false ∧ (x.toList == [102, 115, 116, 97, 116, 118, 102, 115, 64, 111, 112, 101, 110, 115, 115, 104, 46, 99, 111, 109]) = true ∧ (x.toList == [102, 115, 121, 110, 99, 64, 111, 112, 101, 110, 115, 115, 104, 46, 99, 111, 109]) = false) ∨ ((x.toList == [104, 97, 114, 100, 108, 105, 110, 107, 64, 111, 112, 101, 110, 115, 115, 104, 46, 99, 111, 109]) = false ∧ (x.toList == [112, 111, 115, 105, 120, 45, 114, 101, 110, 97, 109, 101, 64, 111, 112, 101, 110, 115, 115, 104, 46, 99, 111, 109]) = false ∧ (x.toList == [115, 116, 97, 116, 118, 102, 115, 64, 111, 112, 101, 110, 115, 115, 104, 46, 99, 111, 109]) = false ∧ (x.toList == [102, 115, 116, 97, 116, 118, 102, 115, 64, 111, 112, 101, 110, 115, 115, 104, 46, 99, 111, 109]) = false ∧ (x.toList == [102, 115, 121, 110, 99, 64, 111, 112, 101, 110, 115, 115, 104, 46, 99, 111, 109]) = true) ∨ ((x.toList == [104, 97, 114, 100, 108, 105, 110, 107, 64, 111, 112, 101, 110, 115, 115, 104, 46, 99, 111, 109]) = false ∧ (x.toList == [112, 111, 115, 105, 120, 45, 114, 101, 110, 97, 109, 101, 64, 111, 112, 101, 110, 115, 115, 104, 46, 99, 111, 109]) = false ∧ (x.toList == [115, 116, 97, 116, 118, 102, 115, 64, 111, 112, 101, 110, 115, 115, 104, 46, 99, 111, 109]) = false ∧ (x.toList == [102, 115, 116, 97, 116, 118, 102, 115, 64, 111, 112, 101, 110, 115, 115, 104, 46, 99, 111, 109]) = false ∧ (x.toList == [102, 115, 121, 110, 99, 64, 111, 112, 101, 110, 115, 115, 104, 46, 99, 111, 109]) = false) := by
 cases e0 : (x.toList == [104, 97, 114, 100, 108, 105, 110, 107, 64, 111, 112, 101, 110, 115, 115, 104, 46, 99, 111, 109]) with
 | true =>
  have h := eq_of_beq e0
  exact .inl ⟨(by first | rfl | (rw [h]; decide)), (by first | rfl | (rw [h]; decide)), (by first | rfl | (rw [h]; decide)), (by first | rfl | (rw [h]; decide)), (by first | rfl | (rw [h]; decide))⟩
 | false =>
  cases e1 : (x.toList == [112, 111, 115, 105, 120, 45, 114, 101, 110, 97, 109, 101, 64, 111, 112, 101, 110, 115, 115, 104, 46, 99, 111, 109]) with
  | true =>
   have h := eq_of_beq e1
   exact .inr (.inl ⟨(by first | rfl | (rw [h]; decide)), (by first | rfl | (rw [h]; decide)), (by first | rfl | (rw [h]; decide)), (by first | rfl | (rw [h]; decide)), (by first | rfl | (rw [h]; decide))⟩)
  | false =>
   cases e2 : (x.toList == [115, 116, 97, 116, 118, 102, 115, 64, 111, 112, 101, 110, 115, 115, 104, 46, 99, 111, 109]) with
   | true =>
    have h := eq_of_beq e2
    exact .inr (.inr (.inl ⟨(by first | rfl | (rw [h]; decide)), (by first | rfl | (rw [h]; decide)), (by first | rfl | (rw [h]; decide)), (by first | rfl | (rw [h]; decide)), (by first | rfl | (rw [h]; decide))⟩))
   | false =>
    cases e3 : (x.toList == [102, 115, 116, 97, 116, 118, 102, 115, 64, 111, 112, 101, 110, 115, 115, 104, 46, 99, 111, 109]) with
    | true =>
     have h := eq_of_beq e3
     exact .inr (.inr (.inr (.inl ⟨(by first | rfl | (rw [h]; decide)), (by first | rfl | (rw [h]; decide)), (by first | rfl | (rw [h]; decide)), (by first | rfl | (rw [h]; decide)), (by first | rfl | (rw [h]; decide))⟩)))
    | false =>
     cases e4 : (x.toList == [102, 115, 121, 110, 99, 64, 111, 112, 101, 110, 115, 115, 104, 46, 99, 111, 109]) with
     | true =>
      have h := eq_of_beq e4
      exact .inr (.inr (.inr (.inr (.inl ⟨(by first | rfl | (rw [h]; decide)), (by first | rfl | (rw [h]; decide)), (by first | rfl | (rw [h]; decide)), (by first | rfl | (rw [h]; decide)), (by first | rfl | (rw [h]; decide))⟩))))
     | false =>
      exact .inr (.inr (.inr (.inr (.inr ⟨rfl, rfl, rfl, rfl, rfl⟩))))
theorem zFF (x : ByteArray) (w : World) (h0 : (x.toList == [104, 97, 114, 100, 108, 105, 110, 107, 64, 111, 112, 101, 110, 115, 115, 104, 46, 99, 111, 109]) = true) (h1 : (x.toList == [112, 111, 115, 105, 120, 45, 114, 101, 110, 97, 109, 101, 64, 111, 112, 101, 110, 115, 115, 104, 46, 99, 111, 109]) = false) (h2 : (x.toList == [115, 116, 97, 116, 118, 102, 115, 64, 111, 112, 101, 110, 115, 115, 104, 46, 99, 111, 109]) = false) (h3 : (x.toList == [102, 115, 116, 97, 116, 118, 102, 115, 64, 111, 112, 101, 110, 115, 115, 104, 46, 99, 111, 109]) = false) (h4 : (x.toList == [102, 115, 121, 110, 99, 64, 111, 112, 101, 110, 115, 115, 104, 46, 99, 111, 109]) = false) : Calls Tryz.prog 195 #[.string x] w fun e w' => e = .returned (.iface 207 (.pointer (some ⟨w.heap.size, 0, none⟩))) ∧ w.alloc (.cells #[.string ⟨#[]⟩, .string ⟨#[]⟩] 208) = w' := by
 go_enter Tryz.func195, Tryz.ntmps195
 go_wp2
 go_ret
 exact ⟨rfl, rfl⟩
theorem zDu (x : ByteArray) (w : World) (h0 : (x.toList == [104, 97, 114, 100, 108, 105, 110, 107, 64, 111, 112, 101, 110, 115, 115, 104, 46, 99, 111, 109]) = false) (h1 : (x.toList == [112, 111, 115, 105, 120, 45, 114, 101, 110, 97, 109, 101, 64, 111, 112, 101, 110, 115, 115, 104, 46, 99, 111, 109]) = true) (h2 : (x.toList == [115, 116, 97, 116, 118, 102, 115, 64, 111, 112, 101, 110, 115, 115, 104, 46, 99, 111, 109]) = false) (h3 : (x.toList == [102, 115, 116, 97, 116, 118, 102, 115, 64, 111, 112, 101, 110, 115, 115, 104, 46, 99, 111, 109]) = false) (h4 : (x.toList == [102, 115, 121, 110, 99, 64, 111, 112, 101, 110, 115, 115, 104, 46, 99, 111, 109]) = false) : Calls Tryz.prog 195 #[.string x] w fun e w' => e = .returned (.iface 209 (.pointer (some ⟨w.heap.size, 0, none⟩))) ∧ w.alloc (.cells #[.string ⟨#[]⟩, .string ⟨#[]⟩] 210) = w' := by
 go_enter Tryz.func195, Tryz.ntmps195
 go_wp2
 go_ret
 exact ⟨rfl, rfl⟩
theorem zFd (x : ByteArray) (w : World) (h0 : (x.toList == [104, 97, 114, 100, 108, 105, 110, 107, 64, 111, 112, 101, 110, 115, 115, 104, 46, 99, 111, 109]) = false) (h1 : (x.toList == [112, 111, 115, 105, 120, 45, 114, 101, 110, 97, 109, 101, 64, 111, 112, 101, 110, 115, 115, 104, 46, 99, 111, 109]) = false) (h2 : (x.toList == [115, 116, 97, 116, 118, 102, 115, 64, 111, 112, 101, 110, 115, 115, 104, 46, 99, 111, 109]) = true) (h3 : (x.toList == [102, 115, 116, 97, 116, 118, 102, 115, 64, 111, 112, 101, 110, 115, 115, 104, 46, 99, 111, 109]) = false) (h4 : (x.toList == [102, 115, 121, 110, 99, 64, 111, 112, 101, 110, 115, 115, 104, 46, 99, 111, 109]) = false) : Calls Tryz.prog 195 #[.string x] w fun e w' => e = .returned (.iface 211 (.pointer (some ⟨w.heap.size, 0, none⟩))) ∧ w.alloc (.cells #[.string ⟨#[]⟩] 212) = w' := by
 go_enter Tryz.func195, Tryz.ntmps195
 go_wp2
 go_ret
 exact ⟨rfl, rfl⟩
theorem zFG (x : ByteArray) (w : World) (h0 : (x.toList == [104, 97, 114, 100, 108, 105, 110, 107, 64, 111, 112, 101, 110, 115, 115, 104, 46, 99, 111, 109]) = false) (h1 : (x.toList == [112, 111, 115, 105, 120, 45, 114, 101, 110, 97, 109, 101, 64, 111, 112, 101, 110, 115, 115, 104, 46, 99, 111, 109]) = false) (h2 : (x.toList == [115, 116, 97, 116, 118, 102, 115, 64, 111, 112, 101, 110, 115, 115, 104, 46, 99, 111, 109]) = false) (h3 : (x.toList == [102, 115, 116, 97, 116, 118, 102, 115, 64, 111, 112, 101, 110, 115, 115, 104, 46, 99, 111, 109]) = true) (h4 : (x.toList == [102, 115, 121, 110, 99, 64, 111, 112, 101, 110, 115, 115, 104, 46, 99, 111, 109]) = false) : Calls Tryz.prog 195 #[.string x] w fun e w' => e = .returned (.iface 213 (.pointer (some ⟨w.heap.size, 0, none⟩))) ∧ w.alloc (.cells #[.string ⟨#[]⟩] 214) = w' := by
 go_enter Tryz.func195, Tryz.ntmps195
 go_wp2
 go_ret
 exact ⟨rfl, rfl⟩
theorem zHy (x : ByteArray) (w : World) (h0 : (x.toList == [104, 97, 114, 100, 108, 105, 110, 107, 64, 111, 112, 101, 110, 115, 115, 104, 46, 99, 111, 109]) = false) (h1 : (x.toList == [112, 111, 115, 105, 120, 45, 114, 101, 110, 97, 109, 101, 64, 111, 112, 101, 110, 115, 115, 104, 46, 99, 111, 109]) = false) (h2 : (x.toList == [115, 116, 97, 116, 118, 102, 115, 64, 111, 112, 101, 110, 115, 115, 104, 46, 99, 111, 109]) = false) (h3 : (x.toList == [102, 115, 116, 97, 116, 118, 102, 115, 64, 111, 112, 101, 110, 115, 115, 104, 46, 99, 111, 109]) = false) (h4 : (x.toList == [102, 115, 121, 110, 99, 64, 111, 112, 101, 110, 115, 115, 104, 46, 99, 111, 109]) = true) : Calls Tryz.prog 195 #[.string x] w fun e w' => e = .returned (.iface 215 (.pointer (some ⟨w.heap.size, 0, none⟩))) ∧ w.alloc (.cells #[.string ⟨#[]⟩] 216) = w' := by
 go_enter Tryz.func195, Tryz.ntmps195
 go_wp2
 go_ret
 exact ⟨rfl, rfl⟩
theorem zJI (x : ByteArray) (w : World) (h0 : (x.toList == [104, 97, 114, 100, 108, 105, 110, 107, 64, 111, 112, 101, 110, 115, 115, 104, 46, 99, 111, 109]) = false) (h1 : (x.toList == [112, 111, 115, 105, 120, 45, 114, 101, 110, 97, 109, 101, 64, 111, 112, 101, 110, 115, 115, 104, 46, 99, 111, 109]) = false) (h2 : (x.toList == [115, 116, 97, 116, 118, 102, 115, 64, 111, 112, 101, 110, 115, 115, 104, 46, 99, 111, 109]) = false) (h3 : (x.toList == [102, 115, 116, 97, 116, 118, 102, 115, 64, 111, 112, 101, 110, 115, 115, 104, 46, 99, 111, 109]) = false) (h4 : (x.toList == [102, 115, 121, 110, 99, 64, 111, 112, 101, 110, 115, 115, 104, 46, 99, 111, 109]) = false) : Calls Tryz.prog 195 #[.string x] w fun e w' => e = .returned (.iface 87 (.pointer (some ⟨w.heap.size, 0, none⟩))) ∧ w.alloc (.cells #[.slice none 0 0, .int .i64 0, .nilIface] 83) = w' := by
 go_enter Tryz.func195, Tryz.ntmps195
 go_wp2
 go_ret
 exact ⟨rfl, rfl⟩
structure zHz (x : ByteArray) (pl : List UInt8) (sets : Array Value → Array Value) (tp t : TypeId) (zs : Array Value) (F : Nat) : Prop where
 new : ∀ w : World, Calls Tryz.prog 195 #[.string x] w fun e w' => e = .returned (.iface tp (.pointer (some ⟨w.heap.size, 0, none⟩))) ∧ w.alloc (.cells zs t) = w'
 meth : ∀ (v : Value) (w : World), (Go.method 357 tp v "UnmarshalBinary").run Tryz.prog w = .ok (F, v) w
 ent : ∀ (args : Array Value) (w : World), (callFunc F args).run Tryz.prog w = .ok (.enter F args) w
 fill : ∀ (q s o c : Nat) (W : World), W.heap[q]? = some (.cells zs t (0, 0)) → q ≠ s → Lies W s o pl → s < W.heap.size → pl.length ≤ c → Calls Tryz.prog F #[.pointer (some ⟨q, 0, none⟩), .slice (some ⟨s, o, none⟩) pl.length c] W fun e w' => e = .returned .nilIface ∧ UnextQ sets tp q w' ∧ UpdB (fun k => k = q) W w'
theorem zGp (x : ByteArray) (a b : ByteArray) (h0 : (x.toList == [104, 97, 114, 100, 108, 105, 110, 107, 64, 111, 112, 101, 110, 115, 115, 104, 46, 99, 111, 109]) = true) (h1 : (x.toList == [112, 111, 115, 105, 120, 45, 114, 101, 110, 97, 109, 101, 64, 111, 112, 101, 110, 115, 115, 104, 46, 99, 111, 109]) = false) (h2 : (x.toList == [115, 116, 97, 116, 118, 102, 115, 64, 111, 112, 101, 110, 115, 115, 104, 46, 99, 111, 109]) = false) (h3 : (x.toList == [102, 115, 116, 97, 116, 118, 102, 115, 64, 111, 112, 101, 110, 115, 115, 104, 46, 99, 111, 109]) = false) (h4 : (x.toList == [102, 115, 121, 110, 99, 64, 111, 112, 101, 110, 115, 115, 104, 46, 99, 111, 109]) = false) (ba : a.size ≤ 1000000) (bb : b.size ≤ 1000000) : zHz x (str (tl a) ++ str (tl b)) (fun P => (P.setIfInBounds 2 (.string a)).setIfInBounds 3 (.string b)) 207 208 #[.string ⟨#[]⟩, .string ⟨#[]⟩] 213 where
 new := fun w => zFF x w h0 h1 h2 h3 h4
 meth := fun _ _ => by kernel_rfl
 ent := enters_of Tryz.func213 (by kernel_rfl) rfl
 fill := fun q s o c W hq hqs hl hs hc => (zG8 q s o c a b W hq hqs hl hs hc ba bb).mono fun _ w' ⟨he, hk, hu⟩ => ⟨he, zFZ q a b w' hk, hu⟩
theorem zE1 (x : ByteArray) (a b : ByteArray) (h0 : (x.toList == [104, 97, 114, 100, 108, 105, 110, 107, 64, 111, 112, 101, 110, 115, 115, 104, 46, 99, 111, 109]) = false) (h1 : (x.toList == [112, 111, 115, 105, 120, 45, 114, 101, 110, 97, 109, 101, 64, 111, 112, 101, 110, 115, 115, 104, 46, 99, 111, 109]) = true) (h2 : (x.toList == [115, 116, 97, 116, 118, 102, 115, 64, 111, 112, 101, 110, 115, 115, 104, 46, 99, 111, 109]) = false) (h3 : (x.toList == [102, 115, 116, 97, 116, 118, 102, 115, 64, 111, 112, 101, 110, 115, 115, 104, 46, 99, 111, 109]) = false) (h4 : (x.toList == [102, 115, 121, 110, 99, 64, 111, 112, 101, 110, 115, 115, 104, 46, 99, 111, 109]) = false) (ba : a.size ≤ 1000000) (bb : b.size ≤ 1000000) : zHz x (str (tl a) ++ str (tl b)) (fun P => (P.setIfInBounds 2 (.string a)).setIfInBounds 3 (.string b)) 209 210 #[.string ⟨#[]⟩, .string ⟨#[]⟩] 219 where
 new := fun w => zDu x w h0 h1 h2 h3 h4
 meth := fun _ _ => by kernel_rfl
 ent := enters_of Tryz.func219 (by kernel_rfl) rfl
 fill := fun q s o c W hq hqs hl hs hc => (zE0 q s o c a b W hq hqs hl hs hc ba bb).mono fun _ w' ⟨he, hk, hu⟩ => ⟨he, zEJ q a b w' hk, hu⟩
theorem zIA (x : ByteArray) (a : ByteArray) (h0 : (x.toList == [104, 97, 114, 100, 108, 105, 110, 107, 64, 111, 112, 101, 110, 115, 115, 104, 46, 99, 111, 109]) = false) (h1 : (x.toList == [112, 111, 115, 105, 120, 45, 114, 101, 110, 97, 109, 101, 64, 111, 112, 101, 110, 115, 115, 104, 46, 99, 111, 109]) = false) (h2 : (x.toList == [115, 116, 97, 116, 118, 102, 115, 64, 111, 112, 101, 110, 115, 115, 104, 46, 99, 111, 109]) = true) (h3 : (x.toList == [102, 115, 116, 97, 116, 118, 102, 115, 64, 111, 112, 101, 110, 115, 115, 104, 46, 99, 111, 109]) = false) (h4 : (x.toList == [102, 115, 121, 110, 99, 64, 111, 112, 101, 110, 115, 115, 104, 46, 99, 111, 109]) = false) (ba : a.size ≤ 1000000) : zHz x (str (tl a)) (fun P => P.setIfInBounds 2 (.string a)) 211 212 #[.string ⟨#[]⟩] 225 where
 new := fun w => zFd x w h0 h1 h2 h3 h4
 meth := fun _ _ => by kernel_rfl
 ent := enters_of Tryz.func225 (by kernel_rfl) rfl
 fill := fun q s o c W hq hqs hl hs hc => (zHc q s o c a W hq hqs hl hs hc ba).mono fun _ w' ⟨he, hk, hu⟩ => ⟨he, zGa q a w' hk, hu⟩
theorem zGq (x : ByteArray) (a : ByteArray) (h0 : (x.toList == [104, 97, 114, 100, 108, 105, 110, 107, 64, 111, 112, 101, 110, 115, 115, 104, 46, 99, 111, 109]) = false) (h1 : (x.toList == [112, 111, 115, 105, 120, 45, 114, 101, 110, 97, 109, 101, 64, 111, 112, 101, 110, 115, 115, 104, 46, 99, 111, 109]) = false) (h2 : (x.toList == [115, 116, 97, 116, 118, 102, 115, 64, 111, 112, 101, 110, 115, 115, 104, 46, 99, 111, 109]) = false) (h3 : (x.toList == [102, 115, 116, 97, 116, 118, 102, 115, 64, 111, 112, 101, 110, 115, 115, 104, 46, 99, 111, 109]) = true) (h4 : (x.toList == [102, 115, 121, 110, 99, 64, 111, 112, 101, 110, 115, 115, 104, 46, 99, 111, 109]) = false) (ba : a.size ≤ 1000000) : zHz x (str (tl a)) (fun P => P.setIfInBounds 4 (.string a)) 213 214 #[.string ⟨#[]⟩] 231 where
 new := fun w => zFG x w h0 h1 h2 h3 h4
 meth := fun _ _ => by kernel_rfl
 ent := enters_of Tryz.func231 (by kernel_rfl) rfl
 fill := fun q s o c W hq hqs hl hs hc => (zG9 q s o c a W hq hqs hl hs hc ba).mono fun _ w' ⟨he, hk, hu⟩ => ⟨he, zF0 q a w' hk, hu⟩
theorem zK9 (x : ByteArray) (a : ByteArray) (h0 : (x.toList == [104, 97, 114, 100, 108, 105, 110, 107, 64, 111, 112, 101, 110, 115, 115, 104, 46, 99, 111, 109]) = false) (h1 : (x.toList == [112, 111, 115, 105, 120, 45, 114, 101, 110, 97, 109, 101, 64, 111, 112, 101, 110, 115, 115, 104, 46, 99, 111, 109]) = false) (h2 : (x.toList == [115, 116, 97, 116, 118, 102, 115, 64, 111, 112, 101, 110, 115, 115, 104, 46, 99, 111, 109]) = false) (h3 : (x.toList == [102, 115, 116, 97, 116, 118, 102, 115, 64, 111, 112, 101, 110, 115, 115, 104, 46, 99, 111, 109]) = false) (h4 : (x.toList == [102, 115, 121, 110, 99, 64, 111, 112, 101, 110, 115, 115, 104, 46, 99, 111, 109]) = true) (ba : a.size ≤ 1000000) : zHz x (str (tl a)) (fun P => P.setIfInBounds 4 (.string a)) 215 216 #[.string ⟨#[]⟩] 237 where
 new := fun w => zHy x w h0 h1 h2 h3 h4
 meth := fun _ _ => by kernel_rfl
 ent := enters_of Tryz.func237 (by kernel_rfl) rfl
 fill := fun q s o c W hq hqs hl hs hc => (zKO q s o c a W hq hqs hl hs hc ba).mono fun _ w' ⟨he, hk, hu⟩ => ⟨he, zIh q a w' hk, hu⟩
theorem zJ8 (d : ByteArray) (bd : d.size ≤ 1000000) (q s o c : Nat) (W : World) (hq : W.heap[q]? = some (.cells #[.slice none 0 0, .int .i64 0, .nilIface] 83 (0, 0))) (hqs : q ≠ s) (hl : Lies W s o (tl d)) (hs : s < W.heap.size) (hc : (tl d).length ≤ c) :
  Calls Tryz.prog 247 #[.pointer (some ⟨q, 0, none⟩), .slice (some ⟨s, o, none⟩) (tl d).length c] W fun e w' => e = .returned .nilIface ∧ UnextQ (fun P => P.setIfInBounds 8 (.string d)) 87 q w' ∧ UpdB (fun k => k = q) W w' := by
 rw [zAH] at hc ⊢
 exact (zNq q s o c d W hq hqs hl hs hc bd).mono fun _ w' ⟨v, he, hv, hk, hu⟩ => ⟨he, zHx q v d _ w' hk hv (zAB hq) bd, hu⟩
theorem zLw (x d : ByteArray) (h0 : (x.toList == [104, 97, 114, 100, 108, 105, 110, 107, 64, 111, 112, 101, 110, 115, 115, 104, 46, 99, 111, 109]) = false) (h1 : (x.toList == [112, 111, 115, 105, 120, 45, 114, 101, 110, 97, 109, 101, 64, 111, 112, 101, 110, 115, 115, 104, 46, 99, 111, 109]) = false) (h2 : (x.toList == [115, 116, 97, 116, 118, 102, 115, 64, 111, 112, 101, 110, 115, 115, 104, 46, 99, 111, 109]) = false) (h3 : (x.toList == [102, 115, 116, 97, 116, 118, 102, 115, 64, 111, 112, 101, 110, 115, 115, 104, 46, 99, 111, 109]) = false) (h4 : (x.toList == [102, 115, 121, 110, 99, 64, 111, 112, 101, 110, 115, 115, 104, 46, 99, 111, 109]) = false) (bd : d.size ≤ 1000000) : zHz x (tl d) (fun P => P.setIfInBounds 8 (.string d)) 87 83 #[.slice none 0 0, .int .i64 0, .nilIface] 247 where
 new := fun w => zJI x w h0 h1 h2 h3 h4
 meth := fun _ _ => by kernel_rfl
 ent := enters_of Tryz.func247 (by kernel_rfl) rfl
 fill := fun q s o c W hq hqs hl hs hc => zJ8 d bd q s o c W hq hqs hl hs hc
theorem zNC : zD2 Tryz.prog 182 := ⟨_, Tryz.underlying182, rfl⟩
theorem UpdG.fresh {g o q x : Nat} {w w1 w2 : World} (h : UpdG g o q w w1) (u : UpdB (fun k => k = x) w1 w2) (hx : w.heap.size ≤ x) (hg : x ≠ g) (hgl : g < w1.heap.size) : UpdG g o q w w2 :=
 ⟨⟨u.os.trans h.os, u.tape.trans h.tape, u.output.trans h.output, Nat.le_trans h.size u.size, fun k hk e => (u.block k (by have := h.size; omega) (by show ¬ k = x; omega)).trans (h.block k hk e)⟩, fun i hi => (cell_kept (u.block g hgl (Ne.symm hg))).trans (h.low i hi)⟩
theorem zGr (f : ByteArray) (pl : List UInt8) (sets : Array Value → Array Value) (tp t : TypeId) (zs : Array Value) (F : Nat) (E : zHz f pl sets tp t zs F) (q g o s : Nat) (w : World) (hq : w.heap[q]? = some (.cells #[.string ⟨#[]⟩, .nilIface] 185 (0, 0))) (hqg : q ≠ g) (hqs : q ≠ s) (hB : RBuf w g o s (some (str (tl f) ++ pl))) (hf : f.size ≤ 1000000) :
  Calls Tryz.prog 194 #[.pointer (some ⟨q, 0, none⟩), .pointer (some ⟨g, o, none⟩)] w fun e w' => ∃ x, e = .returned .nilIface ∧ x ≠ q ∧ x < w'.heap.size ∧ w'.heap[q]? = some (.cells #[.string f, .iface tp (.pointer (some ⟨x, 0, none⟩))] 185 (0, 0)) ∧ UnextQ sets tp x w' ∧ UpdG g o q w w' := by
 have hql := zAB hq
 have C0 := Lib.hid (zBK (w0 := w) ⟨hB, hq, UpdG.refl _ _ _ _⟩ hqg (by omega))
 have NW := Lib.hid E.new
 have HM := E.meth
 have HC := E.ent
 have HF := Lib.hid E.fill
 clear hB hq E hf
 go_enter Tryz.func194, Tryz.ntmps194
 go_wp2_with fail
 refine C0.out.mono ?_
 rintro e w1 ⟨rfl, h⟩
 have f0 := h.frz 0
 have c0 : w1.cell? ⟨q, 0, none⟩ = some (.string ⟨#[]⟩) := by rw [h.cell]; rfl
 have h1 : RSt w (w1.setCell ⟨q, 0, none⟩ (.string f)) g o s q 185 (some pl) #[.string f, .nilIface] := h.set hqg hqs 0 (.string f)
 have H1 := Lib.hid h1
 have cn := h1.nilErr
 have d0 : (w1.setCell ⟨q, 0, none⟩ (.string f)).cell? ⟨q, 0, none⟩ = some (.string f) := by rw [h1.cell]; rfl
 have d1 : (w1.setCell ⟨q, 0, none⟩ (.string f)).cell? ⟨q, 1, none⟩ = some .nilIface := by rw [h1.cell]; rfl
 clear C0 h h1
 generalize hW : w1.setCell ⟨q, 0, none⟩ (.string f) = W1 at *
 go_wp2_with fail
 clear hW cn d0 d1 f0 c0
 refine (NW.out W1).mono ?_
 rintro e w2 ⟨rfl, hw2⟩
 have h2 : RSt w w2 g o s q 185 (some pl) #[.string f, .nilIface] := hw2 ▸ H1.out.alloc _
 have kx : w2.heap[W1.heap.size]? = some (.cells zs t (0, 0)) := by rw [← hw2]; exact heap_alloc_new _ _
 have hxq : W1.heap.size ≠ q := by have := zAB H1.out.blk; omega
 have hxg : W1.heap.size ≠ g := by have := H1.out.rb.lt; omega
 have hxs : W1.heap.size ≠ s := by have := H1.out.rb.lt; omega
 have hwx : w.heap.size ≤ W1.heap.size := H1.out.upd.size
 clear H1 hw2 NW
 generalize W1.heap.size = x at *
 have e1 : w2.cell? ⟨q, 1, none⟩ = some .nilIface := by rw [h2.cell]; rfl
 have f1 := h2.frz 1
 have h3 : RSt w (w2.setCell ⟨q, 1, none⟩ (.iface tp (.pointer (some ⟨x, 0, none⟩)))) g o s q 185 (some pl) #[.string f, .iface tp (.pointer (some ⟨x, 0, none⟩))] := h2.set hqg hqs 1 _
 have kx3 := (Below.heap_setCell w2 ⟨q, 1, none⟩ (.iface tp (.pointer (some ⟨x, 0, none⟩))) x hxq).trans kx
 have H3 := Lib.hid h3
 have K3 := Lib.hid kx3
 have CQ := Lib.hid (show (w2.setCell ⟨q, 1, none⟩ (.iface tp (.pointer (some ⟨x, 0, none⟩)))).cell? ⟨q, 1, none⟩ = some (.iface tp (.pointer (some ⟨x, 0, none⟩))) from by rw [h3.cell]; rfl)
 clear h2 h3 kx kx3
 generalize hW : w2.setCell ⟨q, 1, none⟩ (.iface tp (.pointer (some ⟨x, 0, none⟩))) = W3 at *
 go_wp2_with fail
 refine wp_region_held_drew (S := fun w => w.heap[q]? = some (.cells #[.string f, .iface tp (.pointer (some ⟨x, 0, none⟩))] 185 (0, 0))) (by kernel_rfl) (by exact H3.out.blk) (fun hHeld => ?_)
 refine tkE 32 0 (.pointer (some ⟨q, 0, none⟩)) hHeld ?_
 try simp only [zAJ]
 refine tkE 33 1 (.pointer (some ⟨q, 0, none⟩)) hHeld ?_
 try simp only [zAJ]
 refine tkE 34 2 (.pointer (some ⟨q, 1, none⟩)) hHeld ?_
 try simp only [zAJ]
 refine tkY 35 3 (.iface tp (.pointer (some ⟨x, 0, none⟩))) rfl (zAS (by rfl) 182 _ rfl zNC q 1 (by rfl) _ _ (0, 0) _ (fun _ h => h) rfl) hHeld ?_
 try simp only [zAJ]
 refine tkE 36 4 (.pointer (some ⟨g, o, none⟩)) hHeld ?_
 try simp only [zAJ]
 refine tkE 38 6 (.iface tp (.pointer (some ⟨x, 0, none⟩))) hHeld ?_
 try simp only [zAJ]
 refine tkE 39 7 (.iface tp (.pointer (some ⟨x, 0, none⟩))) hHeld ?_
 try simp only [zAJ]
 refine wpAnyH_ready (rs := [5]) (by kernel_rfl) (by simp) (AllReadyH.cons rfl (fun K hK => ?_) AllReadyH.nil)
 rw [if_pos (by rfl)]
 have BB := Lib.hid (zIJ g o s pl W3.drew (H3.out.rb.kept rfl rfl (Nat.le_refl _)))
 go_wp2_with (go_at_call 51; refine BB.out.mono ?_; rintro e w4 ⟨p, c, rfl, hc, _, hs4, hL, k, rfl⟩)
 refine hK.out _ _ (by exact H3.out.blk) (fun hHeld => ?_)
 clear hK K BB
 try simp only [zAJ]
 have hq4 : (W3.drewN (1 + k)).heap[q]? = some (.cells #[.string f, .iface tp (.pointer (some ⟨x, 0, none⟩))] 185 (0, 0)) := H3.out.blk
 have u4 : UpdG g o q w (W3.drewN (1 + k)) := H3.out.upd.keep ⟨rfl, rfl, rfl, Nat.le_refl _, fun _ _ _ => rfl⟩ rfl
 have k4 : (W3.drewN (1 + k)).heap[x]? = some (.cells zs t (0, 0)) := K3.out
 have hL4 : Lies (W3.drewN (1 + k)) s p pl := hL
 have hs5 : s < (W3.drewN (1 + k)).heap.size := hs4
 have lx4 := zAB k4
 have hg4 : g < (W3.drewN (1 + k)).heap.size := H3.out.rb.lt.1
 clear hL hs4 H3 K3 CQ f1 e1 hW
 generalize W3.drewN (1 + k) = W4 at *
 have CF := Lib.hid (HF.out x s p c W4 k4 hxs hL4 hs5 hc)
 have Q4 := Lib.hid hq4
 have U4 := Lib.hid u4
 clear hL4 hs5 hc hq4 u4 k4 HF
 refine wpAnyH_ready (rs := [8]) (by kernel_rfl) (by simp) (AllReadyH.cons rfl (fun K hK => ?_) AllReadyH.nil)
 rw [if_pos (by rfl)]
 go_wp2_with (first | (refine CF.out.mono ?_; rintro e w5 ⟨rfl, hx5, hu5⟩))
 have hq5 := (hu5.block q (zAB Q4.out) (Ne.symm hxq)).trans Q4.out
 have U5 := Lib.hid (U4.out.fresh hu5 hwx hxg hg4)
 have X5 := Lib.hid hx5
 have Q5 := Lib.hid hq5
 have L5 := Lib.hid (Nat.lt_of_lt_of_le lx4 hu5.size)
 refine hK.out _ _ (by exact hq5) (fun hHeld => ?_)
 clear hK K hx5 hu5 hq5 CF
 try simp only [zAJ]
 refine tkE 4 9 (.nilIface) hHeld ?_
 try simp only [zAJ]
 clear hHeld
 refine wpAnyH_done (by kernel_rfl) ?_ _
 go_wp2_with fail
 go_ret
 exact ⟨x, rfl, hxq, L5.out, Q5.out, X5.out, U5.out⟩
theorem zKa (d : ByteArray) (bd : d.size ≤ 1000000) (q g o s : Nat) (w : World) (hq : w.heap[q]? = some (.cells #[.nilIface] 188 (0, 0))) (hqg : q ≠ g) (hqs : q ≠ s) (hB : RBuf w g o s (some (tl d))) :
  Calls Tryz.prog 198 #[.pointer (some ⟨q, 0, none⟩), .pointer (some ⟨g, o, none⟩)] w fun e w' => ∃ x, e = .returned .nilIface ∧ x ≠ q ∧ x < w'.heap.size ∧ w'.heap[q]? = some (.cells #[.iface 87 (.pointer (some ⟨x, 0, none⟩))] 188 (0, 0)) ∧ UnextQ (fun P => P.setIfInBounds 8 (.string d)) 87 x w' ∧ UpdG g o q w w' := by
 have HF := Lib.hid (zJ8 d bd)
 have HM : ∀ (v : Value) (w : World), (Go.method 357 87 v "UnmarshalBinary").run Tryz.prog w = .ok (247, v) w := fun _ _ => by kernel_rfl
 have HC : ∀ (args : Array Value) (w : World), (callFunc 247 args).run Tryz.prog w = .ok (.enter 247 args) w := enters_of Tryz.func247 (by kernel_rfl) rfl
 have h0 : RSt w w g o s q 188 (some (tl d)) #[.nilIface] := ⟨hB, hq, UpdG.refl _ _ _ _⟩
 have c0 : w.cell? ⟨q, 0, none⟩ = some .nilIface := by rw [h0.cell]; rfl
 have h2 : RSt w (w.alloc (.cells #[.slice none 0 0, .int .i64 0, .nilIface] 83)) g o s q 188 (some (tl d)) #[.nilIface] := h0.alloc _
 have kx := heap_alloc_new w (.cells #[.slice none 0 0, .int .i64 0, .nilIface] 83)
 have hxq : w.heap.size ≠ q := by have := zAB hq; omega
 have hxg : w.heap.size ≠ g := by have := hB.lt; omega
 have hxs : w.heap.size ≠ s := by have := hB.lt; omega
 have hwx : w.heap.size ≤ w.heap.size := Nat.le_refl _
 have e1 : (w.alloc (.cells #[.slice none 0 0, .int .i64 0, .nilIface] 83)).cell? ⟨q, 0, none⟩ = some .nilIface := by rw [h2.cell]; rfl
 have f1 : (w.alloc (.cells #[.slice none 0 0, .int .i64 0, .nilIface] 83)).frozen? ⟨q, 0, none⟩ = false := h2.frz 0
 have h3 : RSt w ((w.alloc (.cells #[.slice none 0 0, .int .i64 0, .nilIface] 83)).setCell ⟨q, 0, none⟩ (.iface 87 (.pointer (some ⟨w.heap.size, 0, none⟩)))) g o s q 188 (some (tl d)) #[.iface 87 (.pointer (some ⟨w.heap.size, 0, none⟩))] := h2.set hqg hqs 0 _
 have kx3 := (Below.heap_setCell (w.alloc (.cells #[.slice none 0 0, .int .i64 0, .nilIface] 83)) ⟨q, 0, none⟩ (.iface 87 (.pointer (some ⟨w.heap.size, 0, none⟩))) w.heap.size hxq).trans kx
 have H3 := Lib.hid h3
 have K3 := Lib.hid kx3
 clear h0 h2 h3 kx kx3 hB hq
 go_enter Tryz.func198, Tryz.ntmps198
 generalize hW : (w.alloc (.cells #[.slice none 0 0, .int .i64 0, .nilIface] 83)).setCell ⟨q, 0, none⟩ (.iface 87 (.pointer (some ⟨w.heap.size, 0, none⟩))) = W3 at *
 go_wp2_with fail
 have CQ := Lib.hid hxq
 clear c0
 generalize hxx : w.heap.size = x at *
 have hwx : w.heap.size ≤ x := Nat.le_of_eq hxx
 refine wp_region_held_drew (S := fun w => w.heap[q]? = some (.cells #[.iface 87 (.pointer (some ⟨x, 0, none⟩))] 188 (0, 0))) (by kernel_rfl) (by exact H3.out.blk) (fun hHeld => ?_)
 refine tkE 15 0 (.pointer (some ⟨q, 0, none⟩)) hHeld ?_
 try simp only [zAJ]
 refine tkE 16 1 (.pointer (some ⟨q, 0, none⟩)) hHeld ?_
 try simp only [zAJ]
 refine tkE 17 2 (.pointer (some ⟨q, 0, none⟩)) hHeld ?_
 try simp only [zAJ]
 refine tkY 18 3 (.iface 87 (.pointer (some ⟨x, 0, none⟩))) rfl (zAS (by rfl) 182 _ rfl zNC q 0 (by rfl) _ _ (0, 0) _ (fun _ h => h) rfl) hHeld ?_
 try simp only [zAJ]
 refine tkE 19 4 (.pointer (some ⟨g, o, none⟩)) hHeld ?_
 try simp only [zAJ]
 refine tkE 21 6 (.iface 87 (.pointer (some ⟨x, 0, none⟩))) hHeld ?_
 try simp only [zAJ]
 refine tkE 22 7 (.iface 87 (.pointer (some ⟨x, 0, none⟩))) hHeld ?_
 try simp only [zAJ]
 refine wpAnyH_ready (rs := [5]) (by kernel_rfl) (by simp) (AllReadyH.cons rfl (fun K hK => ?_) AllReadyH.nil)
 rw [if_pos (by rfl)]
 have BB := Lib.hid (zIJ g o s (tl d) W3.drew (H3.out.rb.kept rfl rfl (Nat.le_refl _)))
 go_wp2_with (go_at_call 51; refine BB.out.mono ?_; rintro e w4 ⟨p, c, rfl, hc, _, hs4, hL, k, rfl⟩)
 refine hK.out _ _ (by exact H3.out.blk) (fun hHeld => ?_)
 clear hK K BB
 try simp only [zAJ]
 have hq4 : (W3.drewN (1 + k)).heap[q]? = some (.cells #[.iface 87 (.pointer (some ⟨x, 0, none⟩))] 188 (0, 0)) := H3.out.blk
 have u4 : UpdG g o q w (W3.drewN (1 + k)) := H3.out.upd.keep ⟨rfl, rfl, rfl, Nat.le_refl _, fun _ _ _ => rfl⟩ rfl
 have k4 : (W3.drewN (1 + k)).heap[x]? = some (.cells #[.slice none 0 0, .int .i64 0, .nilIface] 83 (0, 0)) := K3.out
 have hL4 : Lies (W3.drewN (1 + k)) s p (tl d) := hL
 have hs5 : s < (W3.drewN (1 + k)).heap.size := hs4
 have lx4 := zAB k4
 have hg4 : g < (W3.drewN (1 + k)).heap.size := H3.out.rb.lt.1
 clear hL hs4 H3 K3 CQ f1 e1 hW
 generalize W3.drewN (1 + k) = W4 at *
 have CF := Lib.hid (HF.out x s p c W4 k4 hxs hL4 hs5 hc)
 have Q4 := Lib.hid hq4
 have U4 := Lib.hid u4
 clear hL4 hs5 hc hq4 u4 k4 HF
 refine wpAnyH_ready (rs := [8]) (by kernel_rfl) (by simp) (AllReadyH.cons rfl (fun K hK => ?_) AllReadyH.nil)
 rw [if_pos (by rfl)]
 go_wp2_with (first | (refine CF.out.mono ?_; rintro e w5 ⟨rfl, hx5, hu5⟩))
 have hq5 := (hu5.block q (zAB Q4.out) (Ne.symm hxq)).trans Q4.out
 have U5 := Lib.hid (U4.out.fresh hu5 hwx hxg hg4)
 have X5 := Lib.hid hx5
 have Q5 := Lib.hid hq5
 have L5 := Lib.hid (Nat.lt_of_lt_of_le lx4 hu5.size)
 refine hK.out _ _ (by exact hq5) (fun hHeld => ?_)
 clear hK K hx5 hu5 hq5 CF
 try simp only [zAJ]
 refine tkE 4 9 (.nilIface) hHeld ?_
 try simp only [zAJ]
 clear hHeld
 refine wpAnyH_done (by kernel_rfl) ?_ _
 go_wp2_with fail
 go_ret
 exact ⟨x, rfl, hxq, L5.out, Q5.out, X5.out, U5.out⟩
theorem zGs (q : Value) (w : World) : Calls Tryz.prog 193 #[q] w fun e w' => e = .returned (.int .u8 200) ∧ w = w' := by
 go_enter Tryz.func193, Tryz.ntmps193
 go_wp2
 go_ret
 exact ⟨rfl, rfl⟩
theorem zFe (id : Int) (w : World) (f : ByteArray) (p : Pk) (sets : Array Value → Array Value) (tp : TypeId) (x k : Nat) (hb : w.heap[k]? = some (.cells #[.string f, .iface tp (.pointer (some ⟨x, 0, none⟩))] 185 (0, 0))) (hx : UnextQ sets tp x w) (hxl : x < w.heap.size) (hP : sets ((z24 200 id).setIfInBounds 23 (.string f)) = (pkC p none 0 none 0 none 0)) (h9 : p.f9.f7 = []) (h10 : p.f10 = []) (h11 : p.f11 = []) :
  Calls Tryz.prog 33 #[.int .u32 id, .iface 181 (.pointer (some ⟨k, 0, none⟩))] w (zBL p w) := by
 have hbl := zAB hb
 have ta := @taB
 obtain ⟨W0, W1, W2, X0, X1, X2, K1, k2, j2, hbel, s0⟩ := zCq w 200 id
 have cd0 : W2.cell? ⟨k, 0, none⟩ = some (.string f) := by rw [cell_kept (hbel.block k hbl), zAA hb]; rfl
 have c23 : W2.cell? ⟨W0.heap.size, 23, none⟩ = some (.string ⟨#[]⟩) := by rw [zAA k2]; rfl
 have f23 : W2.frozen? ⟨W0.heap.size, 23, none⟩ = false := zAP k2 23
 obtain ⟨W3, hW3⟩ : ∃ W, W2.setCell ⟨W0.heap.size, 23, none⟩ (.string f) = W := ⟨_, rfl⟩
 have k3 : W3.heap[W0.heap.size]? = some (.cells ((z24 200 id).setIfInBounds 23 (.string f)) 29 (0, 0)) := by rw [← hW3]; exact zAU k2 _
 have j3 : W3.heap[w.heap.size]? = some (.cells pZero 29 (0, 0)) := by rw [← hW3, Below.heap_setCell _ _ _ _ (by show w.heap.size ≠ W0.heap.size; omega)]; exact j2
 have b3 : Below w.heap.size w W3 := by rw [← hW3]; exact hbel.setCell (by show w.heap.size ≤ W0.heap.size; omega) _
 have cd1 : W3.cell? ⟨k, 1, none⟩ = some (.iface tp (.pointer (some ⟨x, 0, none⟩))) := by rw [cell_kept (b3.block k hbl), zAA hb]; rfl
 have CU := Lib.hid (hx W3 W0.heap.size ((z24 200 id).setIfInBounds 23 (.string f)) b3 k3 rfl (by omega) (by omega))
 rw [hP] at CU
 have J3 := Lib.hid j3
 have B3 := Lib.hid b3
 have S0 := Lib.hid s0
 have H9 := Lib.hid h9
 have H10 := Lib.hid h10
 have H11 := Lib.hid h11
 have X3 := Lib.hid hW3
 clear k2 k3 j2 j3 b3 hbel s0 hx hP h9 h10 h11 hb hW3
 go_enter Tryz.func33, Tryz.ntmps33
 go_wp2_with (first
  | (refine wpList_allocTo rfl (some 4) rfl (.pointer (some ⟨w.heap.size, 0, none⟩)) (.cells pZero 29) (by as_aux_lemma => kernel_rfl) ?_; rw [X0.out])
  | (refine wpList_allocTo rfl (some 6) rfl (.pointer (some ⟨W0.heap.size, 0, none⟩)) (.cells pZero 29) (by as_aux_lemma => kernel_rfl) ?_; rw [X1.out])
  | refine wpList_buildTo rfl 29 _ rfl (some 41) rfl (z24 200 id) (by as_aux_lemma => kernel_rfl) ?_
  | (refine wpList_store_row rfl 29 _ _ rfl W0.heap.size (z24 200 id) rfl rfl 29 pZero K1.out zAo rfl (zC3 _ _) ?_; rw [X2.out])
  | (go_at_call 193; refine (zGs _ _).mono ?_; rintro e w' ⟨rfl, rfl⟩)
  | (refine zAx 333 rfl ?_; rw [X3.out])
  | (go_at_call 62; refine CU.out.mono ?_; rintro e w5 ⟨rfl, h5, hu5⟩
     have j5 := (hu5.block w.heap.size (zAB J3.out) (by have := S0.out; show ¬ w.heap.size = W0.heap.size; omega)).trans J3.out
     have b5 : Below w.heap.size w w5 := ⟨hu5.os.trans B3.out.os, hu5.tape.trans B3.out.tape, hu5.output.trans B3.out.output, Nat.le_trans B3.out.size hu5.size, fun j hj => (hu5.block j (by have := B3.out.size; omega) (by have := S0.out; show ¬ j = W0.heap.size; omega)).trans (B3.out.block j hj)⟩
     obtain ⟨W4, hW4⟩ : ∃ W, w5.setRow w.heap.size (pkC p none 0 none 0 none 0) = W := ⟨_, rfl⟩
     have j4 : W4.heap[w.heap.size]? = some (.cells (pkC p none 0 none 0 none 0) 29 (0, 0)) := by rw [← hW4]; exact zAe j5
     have b4 : Below w.heap.size w W4 := by rw [← hW4]; exact ⟨b5.os, b5.tape, b5.output, by rw [setRow_size]; exact b5.size, fun j hk => by rw [setRow_other _ _ _ _ (by omega)]; exact b5.block j hk⟩
     have X4 := Lib.hid hW4
     have K5 := Lib.hid h5
     have J5 := Lib.hid j5
     have J4 := Lib.hid j4
     have B4 := Lib.hid b4
     clear hW4 j4 b4 j5 b5 h5 hu5 cd1)
  | refine wpList_load_row rfl 29 _ rfl W0.heap.size rfl 29 (pkC p none 0 none 0 none 0) (0, 0) _ K5.out Tryz.underlying29 rfl zAo ?_
  | (refine wpList_store_row rfl 29 _ _ rfl w.heap.size (pkC p none 0 none 0 none 0) rfl rfl 29 pZero J5.out zAo rfl (zCs _ _ _ _ _ _ _) ?_; rw [X4.out]))
 refine bodyPost_ret (results_ct Tryz.results33 _ _ w.heap.size 29 (pkC p none 0 none 0 none 0) (0, 0) _ _ rfl rfl J4.out Tryz.underlying29 rfl zAo) rfl ?_
 exact ⟨_, rfl, zBF _ _ _ H9.out H10.out H11.out, B4.out⟩
theorem zDv (q : Value) (w : World) : Calls Tryz.prog 197 #[q] w fun e w' => e = .returned (.int .u8 201) ∧ w = w' := by
 go_enter Tryz.func197, Tryz.ntmps197
 go_wp2
 go_ret
 exact ⟨rfl, rfl⟩
theorem zD7 (id : Int) (w : World) (p : Pk) (sets : Array Value → Array Value) (tp : TypeId) (x k : Nat) (hb : w.heap[k]? = some (.cells #[.iface tp (.pointer (some ⟨x, 0, none⟩))] 188 (0, 0))) (hx : UnextQ sets tp x w) (hxl : x < w.heap.size) (hP : sets (z24 201 id) = (pkC p none 0 none 0 none 0)) (h9 : p.f9.f7 = []) (h10 : p.f10 = []) (h11 : p.f11 = []) :
  Calls Tryz.prog 33 #[.int .u32 id, .iface 186 (.pointer (some ⟨k, 0, none⟩))] w (zBL p w) := by
 have hbl := zAB hb
 have ta := @taB
 obtain ⟨W0, W1, W2, X0, X1, X2, K1, k2, j2, hbel, s0⟩ := zCq w 201 id
 obtain ⟨W3, hW3⟩ : ∃ W, W2 = W := ⟨_, rfl⟩
 subst hW3
 have k3 := k2
 have j3 := j2
 have b3 := hbel
 have cd1 : W2.cell? ⟨k, 0, none⟩ = some (.iface tp (.pointer (some ⟨x, 0, none⟩))) := by rw [cell_kept (b3.block k hbl), zAA hb]; rfl
 have CU := Lib.hid (hx W2 W0.heap.size (z24 201 id) b3 k3 rfl (by omega) (by omega))
 rw [hP] at CU
 have J3 := Lib.hid j3
 have B3 := Lib.hid b3
 have S0 := Lib.hid s0
 have H9 := Lib.hid h9
 have H10 := Lib.hid h10
 have H11 := Lib.hid h11
 clear k2 k3 j2 j3 b3 hbel s0 hx hP h9 h10 h11 hb
 go_enter Tryz.func33, Tryz.ntmps33
 go_wp2_with (first
  | (refine wpList_allocTo rfl (some 4) rfl (.pointer (some ⟨w.heap.size, 0, none⟩)) (.cells pZero 29) (by as_aux_lemma => kernel_rfl) ?_; rw [X0.out])
  | (refine wpList_allocTo rfl (some 6) rfl (.pointer (some ⟨W0.heap.size, 0, none⟩)) (.cells pZero 29) (by as_aux_lemma => kernel_rfl) ?_; rw [X1.out])
  | refine wpList_buildTo rfl 29 _ rfl (some 41) rfl (z24 201 id) (by as_aux_lemma => kernel_rfl) ?_
  | (refine wpList_store_row rfl 29 _ _ rfl W0.heap.size (z24 201 id) rfl rfl 29 pZero K1.out zAo rfl (zC3 _ _) ?_; rw [X2.out])
  | (go_at_call 197; refine (zDv _ _).mono ?_; rintro e w' ⟨rfl, rfl⟩)
  | (go_at_call 62; refine CU.out.mono ?_; rintro e w5 ⟨rfl, h5, hu5⟩
     have j5 := (hu5.block w.heap.size (zAB J3.out) (by have := S0.out; show ¬ w.heap.size = W0.heap.size; omega)).trans J3.out
     have b5 : Below w.heap.size w w5 := ⟨hu5.os.trans B3.out.os, hu5.tape.trans B3.out.tape, hu5.output.trans B3.out.output, Nat.le_trans B3.out.size hu5.size, fun j hj => (hu5.block j (by have := B3.out.size; omega) (by have := S0.out; show ¬ j = W0.heap.size; omega)).trans (B3.out.block j hj)⟩
     obtain ⟨W4, hW4⟩ : ∃ W, w5.setRow w.heap.size (pkC p none 0 none 0 none 0) = W := ⟨_, rfl⟩
     have j4 : W4.heap[w.heap.size]? = some (.cells (pkC p none 0 none 0 none 0) 29 (0, 0)) := by rw [← hW4]; exact zAe j5
     have b4 : Below w.heap.size w W4 := by rw [← hW4]; exact ⟨b5.os, b5.tape, b5.output, by rw [setRow_size]; exact b5.size, fun j hk => by rw [setRow_other _ _ _ _ (by omega)]; exact b5.block j hk⟩
     have X4 := Lib.hid hW4
     have K5 := Lib.hid h5
     have J5 := Lib.hid j5
     have J4 := Lib.hid j4
     have B4 := Lib.hid b4
     clear hW4 j4 b4 j5 b5 h5 hu5 cd1)
  | refine wpList_load_row rfl 29 _ rfl W0.heap.size rfl 29 (pkC p none 0 none 0 none 0) (0, 0) _ K5.out Tryz.underlying29 rfl zAo ?_
  | (refine wpList_store_row rfl 29 _ _ rfl w.heap.size (pkC p none 0 none 0 none 0) rfl rfl 29 pZero J5.out zAo rfl (zCs _ _ _ _ _ _ _) ?_; rw [X4.out]))
 refine bodyPost_ret (results_ct Tryz.results33 _ _ w.heap.size 29 (pkC p none 0 none 0 none 0) (0, 0) _ _ rfl rfl J4.out Tryz.underlying29 rfl zAo) rfl ?_
 exact ⟨_, rfl, zBF _ _ _ H9.out H10.out H11.out, B4.out⟩
theorem UnextQ.below {sets : Array Value → Array Value} {tp : TypeId} {x : Nat} {w w' : World} (h : UnextQ sets tp x w) (hb : Below w.heap.size w w') : UnextQ sets tp x w' :=
 fun W q P hW hq hP hxq hqw => h W q P (hb.trans (hW.mono hb.size)) hq hP hxq (Nat.le_trans hb.size hqw)
theorem zEK (p : Pk) (h : p.f0 = 200) (hx : p.f16.size ≤ 1000000) {pl : List UInt8} {sets : Array Value → Array Value} {tp t : TypeId} {zs : Array Value} {F : Nat} (E : zHz p.f16 pl sets tp t zs F) (hpl : zBP p.f16 p.f2 p.f3 p.f4 p.f8 = pl)
  (hP : sets ((z24 200 p.f1).setIfInBounds 23 (.string p.f16)) = pkC p none 0 none 0 none 0) (h9 : p.f9.f7 = []) (h10 : p.f10 = []) (h11 : p.f11 = [])
  (b g o s : Nat) (W : World) (hq : W.heap[b]? = some (.cells #[.string ⟨#[]⟩, .nilIface] 185 (0, 0))) (h1 : b ≠ g) (h2 : b ≠ s) (hB : RBuf W g o s (some (zA1 p))) :
  Calls Tryz.prog 194 #[.pointer (some ⟨b, 0, none⟩), .pointer (some ⟨g, o, none⟩)] W (zMz p 181 b g o W) := by
 have e : zA1 p = str (tl p.f16) ++ pl := by rw [← hpl]; unfold zA1; rw [h]; rfl
 rw [e] at hB
 refine (zGr p.f16 pl sets tp t zs F E b g o s W hq h1 h2 hB hx).mono ?_
 rintro e w' ⟨x, rfl, _, hxl, hk, hun, hu⟩
 exact ⟨rfl, fun V hV => zFe p.f1 V p.f16 p sets tp x b ((hV.block b (zAB hk)).trans hk) (hun.below hV) (Nat.lt_of_lt_of_le hxl hV.size) hP h9 h10 h11, hu⟩
theorem zDR (x : ByteArray) : zAc 200 x = zMy (zDo x) := rfl
theorem zFf (p : Pk) (s : Sound p) (h : p.f0 = 200) : zBU p 181 185 #[.string ⟨#[]⟩, .nilIface] 194 where
 meth := fun _ _ => by kernel_rfl
 ent := enters_of Tryz.func194 (by kernel_rfl) rfl
 fill := fun b g o s' W hq h1 h2 hB => by
  have hx := s.txt
  unfold zB8 at hx
  rcases zPE p.f16 with ⟨a0, a1, a2, a3, a4⟩ | ⟨a0, a1, a2, a3, a4⟩ | ⟨a0, a1, a2, a3, a4⟩ | ⟨a0, a1, a2, a3, a4⟩ | ⟨a0, a1, a2, a3, a4⟩ | ⟨a0, a1, a2, a3, a4⟩
  ·have hm : zAc p.f0 p.f16 = [1, 2, 3, 16] := by rw [h, zDR, zL1 a0]; rfl
   have hp : p = (⟨200, p.f1, p.f2, p.f3, e0, 0, 0, 0, e0, ⟨0, 0, 0, 0, 0, 0, 0, []⟩, [], [], 0, 0, e0, e0, p.f16⟩ : Pk) := by
    have h1 : p = (⟨p.f0, p.f1, p.f2, p.f3, e0, 0, 0, 0, e0, ⟨0, 0, 0, 0, 0, 0, 0, []⟩, [], [], 0, 0, e0, e0, p.f16⟩ : Pk) := s.ok.only.trans (by unfold zBJ; rw [hm]; rfl)
    rw [h] at h1
    exact h1
   have hP : (fun P => (P.setIfInBounds 2 (.string p.f2)).setIfInBounds 3 (.string p.f3)) ((z24 200 p.f1).setIfInBounds 23 (.string p.f16)) = pkC (⟨200, p.f1, p.f2, p.f3, e0, 0, 0, 0, e0, ⟨0, 0, 0, 0, 0, 0, 0, []⟩, [], [], 0, 0, e0, e0, p.f16⟩ : Pk) none 0 none 0 none 0 := by kernel_rfl
   rw [← hp] at hP
   exact zEK p h (by omega) (zGp p.f16 p.f2 p.f3 a0 a1 a2 a3 a4 (by omega) (by omega)) (zDC p.f2 p.f3 p.f4 p.f8 a0) hP (by rw [hp]) (by rw [hp]) (by rw [hp]) b g o s' W hq h1 h2 hB
  ·have hm : zAc p.f0 p.f16 = [1, 2, 3, 16] := by rw [h, zDR, zL2 a0 a1]; rfl
   have hp : p = (⟨200, p.f1, p.f2, p.f3, e0, 0, 0, 0, e0, ⟨0, 0, 0, 0, 0, 0, 0, []⟩, [], [], 0, 0, e0, e0, p.f16⟩ : Pk) := by
    have h1 : p = (⟨p.f0, p.f1, p.f2, p.f3, e0, 0, 0, 0, e0, ⟨0, 0, 0, 0, 0, 0, 0, []⟩, [], [], 0, 0, e0, e0, p.f16⟩ : Pk) := s.ok.only.trans (by unfold zBJ; rw [hm]; rfl)
    rw [h] at h1
    exact h1
   have hP : (fun P => (P.setIfInBounds 2 (.string p.f2)).setIfInBounds 3 (.string p.f3)) ((z24 200 p.f1).setIfInBounds 23 (.string p.f16)) = pkC (⟨200, p.f1, p.f2, p.f3, e0, 0, 0, 0, e0, ⟨0, 0, 0, 0, 0, 0, 0, []⟩, [], [], 0, 0, e0, e0, p.f16⟩ : Pk) none 0 none 0 none 0 := by kernel_rfl
   rw [← hp] at hP
   exact zEK p h (by omega) (zE1 p.f16 p.f2 p.f3 a0 a1 a2 a3 a4 (by omega) (by omega)) (zCX p.f2 p.f3 p.f4 p.f8 a0 a1) hP (by rw [hp]) (by rw [hp]) (by rw [hp]) b g o s' W hq h1 h2 hB
  ·have hm : zAc p.f0 p.f16 = [1, 2, 16] := by rw [h, zDR, zL3 a0 a1 a2]; rfl
   have hp : p = (⟨200, p.f1, p.f2, e0, e0, 0, 0, 0, e0, ⟨0, 0, 0, 0, 0, 0, 0, []⟩, [], [], 0, 0, e0, e0, p.f16⟩ : Pk) := by
    have h1 : p = (⟨p.f0, p.f1, p.f2, e0, e0, 0, 0, 0, e0, ⟨0, 0, 0, 0, 0, 0, 0, []⟩, [], [], 0, 0, e0, e0, p.f16⟩ : Pk) := s.ok.only.trans (by unfold zBJ; rw [hm]; rfl)
    rw [h] at h1
    exact h1
   have hP : (fun P => P.setIfInBounds 2 (.string p.f2)) ((z24 200 p.f1).setIfInBounds 23 (.string p.f16)) = pkC (⟨200, p.f1, p.f2, e0, e0, 0, 0, 0, e0, ⟨0, 0, 0, 0, 0, 0, 0, []⟩, [], [], 0, 0, e0, e0, p.f16⟩ : Pk) none 0 none 0 none 0 := by kernel_rfl
   rw [← hp] at hP
   exact zEK p h (by omega) (zIA p.f16 p.f2 a0 a1 a2 a3 a4 (by omega)) (zDX p.f2 p.f3 p.f4 p.f8 a0 a1 a2) hP (by rw [hp]) (by rw [hp]) (by rw [hp]) b g o s' W hq h1 h2 hB
  ·have hm : zAc p.f0 p.f16 = [1, 4, 16] := by rw [h, zDR, zL4 a0 a1 a2 a3]; rfl
   have hp : p = (⟨200, p.f1, e0, e0, p.f4, 0, 0, 0, e0, ⟨0, 0, 0, 0, 0, 0, 0, []⟩, [], [], 0, 0, e0, e0, p.f16⟩ : Pk) := by
    have h1 : p = (⟨p.f0, p.f1, e0, e0, p.f4, 0, 0, 0, e0, ⟨0, 0, 0, 0, 0, 0, 0, []⟩, [], [], 0, 0, e0, e0, p.f16⟩ : Pk) := s.ok.only.trans (by unfold zBJ; rw [hm]; rfl)
    rw [h] at h1
    exact h1
   have hP : (fun P => P.setIfInBounds 4 (.string p.f4)) ((z24 200 p.f1).setIfInBounds 23 (.string p.f16)) = pkC (⟨200, p.f1, e0, e0, p.f4, 0, 0, 0, e0, ⟨0, 0, 0, 0, 0, 0, 0, []⟩, [], [], 0, 0, e0, e0, p.f16⟩ : Pk) none 0 none 0 none 0 := by kernel_rfl
   rw [← hp] at hP
   exact zEK p h (by omega) (zGq p.f16 p.f4 a0 a1 a2 a3 a4 (by omega)) (zDD p.f2 p.f3 p.f4 p.f8 a0 a1 a2 a3) hP (by rw [hp]) (by rw [hp]) (by rw [hp]) b g o s' W hq h1 h2 hB
  ·have hm : zAc p.f0 p.f16 = [1, 4, 16] := by rw [h, zDR, zL5 a0 a1 a2 a3 a4]; rfl
   have hp : p = (⟨200, p.f1, e0, e0, p.f4, 0, 0, 0, e0, ⟨0, 0, 0, 0, 0, 0, 0, []⟩, [], [], 0, 0, e0, e0, p.f16⟩ : Pk) := by
    have h1 : p = (⟨p.f0, p.f1, e0, e0, p.f4, 0, 0, 0, e0, ⟨0, 0, 0, 0, 0, 0, 0, []⟩, [], [], 0, 0, e0, e0, p.f16⟩ : Pk) := s.ok.only.trans (by unfold zBJ; rw [hm]; rfl)
    rw [h] at h1
    exact h1
   have hP : (fun P => P.setIfInBounds 4 (.string p.f4)) ((z24 200 p.f1).setIfInBounds 23 (.string p.f16)) = pkC (⟨200, p.f1, e0, e0, p.f4, 0, 0, 0, e0, ⟨0, 0, 0, 0, 0, 0, 0, []⟩, [], [], 0, 0, e0, e0, p.f16⟩ : Pk) none 0 none 0 none 0 := by kernel_rfl
   rw [← hp] at hP
   exact zEK p h (by omega) (zK9 p.f16 p.f4 a0 a1 a2 a3 a4 (by omega)) (zEO p.f2 p.f3 p.f4 p.f8 a0 a1 a2 a3 a4) hP (by rw [hp]) (by rw [hp]) (by rw [hp]) b g o s' W hq h1 h2 hB
  ·have hm : zAc p.f0 p.f16 = [1, 8, 16] := by rw [h, zDR, zL6 a0 a1 a2 a3 a4]; rfl
   have hp : p = (⟨200, p.f1, e0, e0, e0, 0, 0, 0, p.f8, ⟨0, 0, 0, 0, 0, 0, 0, []⟩, [], [], 0, 0, e0, e0, p.f16⟩ : Pk) := by
    have h1 : p = (⟨p.f0, p.f1, e0, e0, e0, 0, 0, 0, p.f8, ⟨0, 0, 0, 0, 0, 0, 0, []⟩, [], [], 0, 0, e0, e0, p.f16⟩ : Pk) := s.ok.only.trans (by unfold zBJ; rw [hm]; rfl)
    rw [h] at h1
    exact h1
   have hP : (fun P => P.setIfInBounds 8 (.string p.f8)) ((z24 200 p.f1).setIfInBounds 23 (.string p.f16)) = pkC (⟨200, p.f1, e0, e0, e0, 0, 0, 0, p.f8, ⟨0, 0, 0, 0, 0, 0, 0, []⟩, [], [], 0, 0, e0, e0, p.f16⟩ : Pk) none 0 none 0 none 0 := by kernel_rfl
   rw [← hp] at hP
   exact zEK p h (by omega) (zLw p.f16 p.f8 a0 a1 a2 a3 a4 (by omega)) (zEl p.f2 p.f3 p.f4 p.f8 a0 a1 a2 a3 a4) hP (by rw [hp]) (by rw [hp]) (by rw [hp]) b g o s' W hq h1 h2 hB
theorem zD8 (p : Pk) (s : Sound p) (h : p.f0 = 201) : zBU p 186 188 #[.nilIface] 198 where
 meth := fun _ _ => by kernel_rfl
 ent := enters_of Tryz.func198 (by kernel_rfl) rfl
 fill := fun b g o s' W hq h1 h2 hB => by
  have hx := s.txt
  unfold zB8 at hx
  have e : zA1 p = tl p.f8 := by unfold zA1; rw [h]; rfl
  rw [e] at hB
  have hp : p = (⟨201, p.f1, e0, e0, e0, 0, 0, 0, p.f8, ⟨0, 0, 0, 0, 0, 0, 0, []⟩, [], [], 0, 0, e0, e0, e0⟩ : Pk) := by
   have h1 : p = (⟨p.f0, p.f1, e0, e0, e0, 0, 0, 0, p.f8, ⟨0, 0, 0, 0, 0, 0, 0, []⟩, [], [], 0, 0, e0, e0, e0⟩ : Pk) := s.ok.only.trans (by unfold zBJ; rw [show zAc p.f0 p.f16 = [1, 8] from by rw [h]; rfl]; rfl)
   rw [h] at h1
   exact h1
  have hP : (fun P : Array Value => P.setIfInBounds 8 (.string p.f8)) (z24 201 p.f1) = pkC (⟨201, p.f1, e0, e0, e0, 0, 0, 0, p.f8, ⟨0, 0, 0, 0, 0, 0, 0, []⟩, [], [], 0, 0, e0, e0, e0⟩ : Pk) none 0 none 0 none 0 := by kernel_rfl
  rw [← hp] at hP
  refine (zKa p.f8 (by omega) b g o s' W hq h1 h2 hB).mono ?_
  rintro e w' ⟨x, rfl, _, hxl, hk, hun, hu⟩
  exact ⟨rfl, fun V hV => zD7 p.f1 V p _ _ x b ((hV.block b (zAB hk)).trans hk) (hun.below hV) (Nat.lt_of_lt_of_le hxl hV.size) hP (by rw [hp]) (by rw [hp]) (by rw [hp]), hu⟩
def zLx : Array Value := #[.int .u8 0, .int .u32 0, .slice none 0 0, .int .i64 0, .nilIface]
def zOc (q g s : Nat) (t id : Int) (B : List UInt8) (w : World) (e : Ending) (w' : World) : Prop :=
 e = .returned .nilIface ∧ RBuf w' q 2 s (some B) ∧ w'.cell? ⟨q, 1, none⟩ = some (.int .u32 id) ∧ UpdB (fun k => k = g ∨ k = q) w w'
theorem zMk (q g s : Nat) (t id : Int) (B : List UInt8) (w : World) (ht : T27 t) (i0 : 0 ≤ id) (i1 : id ≤ 4294967295) (hq : w.heap[q]? = some (.cells zLx 85 (0, 0))) (hqg : q ≠ g) (hqs : q ≠ s) (hb : RBuf w g 0 s (some (bt t :: (zAQ id ++ B)))) :
  Calls Tryz.prog 60 #[.pointer (some ⟨q, 0, none⟩), .pointer (some ⟨g, 0, none⟩)] w (zOc q g s t id B w) := by
 have hql := zAB hq
 have hlt := hb.lt
 have e8 : c8 (some (bt t :: (zAQ id ++ B))) = (t, some (zAQ id ++ B)) := by
  have h1 : c8 (some (bt t :: (zAQ id ++ B))) = (((bt t).toNat : Int), some (zAQ id ++ B)) := rfl
  rw [h1, T27.bt ht]
 have C8 := Lib.hid (zEa g 0 s _ w hb)
 have E8 := Lib.hid e8
 have E32 := Lib.hid (zBI id B i0 i1)
 have HQ := Lib.hid hq
 clear hq hb e8 ht i0 i1
 go_enter Tryz.func60, Tryz.ntmps60
 go_wp2_with fail
 refine C8.out.mono ?_
 rw [E8.out]
 rintro e w1 ⟨rfl, hb1, hu1⟩
 have z1 := hu1.size
 have C32 := Lib.hid (zC6 g 0 s _ w1 hb1)
 have q1 := (hu1.block q hql hqg).trans HQ.out
 have Q1 := Lib.hid q1
 have U1 := Lib.hid hu1
 clear hb1 hu1 q1 C8 E8 HQ
 go_wp2_with fail
 refine C32.out.mono ?_
 rw [E32.out]
 rintro e w2 ⟨rfl, hb2, hu2⟩
 have z2 := hu2.size
 have q2 : w2.heap[q]? = some (.cells #[.int .u8 0, .int .u32 0, .slice none 0 0, .int .i64 0, .nilIface] 85 (0, 0)) := (hu2.block q (by omega) hqg).trans Q1.out
 have U2 : UpdB (fun k => k = g ∨ k = q) w w2 := (U1.out.trans hu2).updB (.inl rfl)
 obtain ⟨p, n, c, off, h0, h1, hsg, hon, hnc, hn, h2, hl, hL⟩ := hb2.ex
 have hlt2 := hb2.lt
 have k0 : w2.cell? ⟨q, 0, none⟩ = some (.int .u8 0) := by rw [zAA q2]; rfl
 have k1 : w2.cell? ⟨q, 1, none⟩ = some (.int .u32 0) := by rw [zAA q2]; rfl
 have k2 : w2.cell? ⟨q, 2, none⟩ = some (.slice none 0 0) := by rw [zAA q2]; rfl
 have k3 : w2.cell? ⟨q, 3, none⟩ = some (.int .i64 0) := by rw [zAA q2]; rfl
 have k4 : w2.cell? ⟨q, 4, none⟩ = some .nilIface := by rw [zAA q2]; rfl
 have fq := zAP q2
 have f0 := fq 0
 have f1 := fq 1
 have f2 := fq 2
 have f3 := fq 3
 have f4 := fq 4
 obtain ⟨W3, hW3⟩ : ∃ W, ((((w2.setCell ⟨q, 0, none⟩ (.int .u8 t)).setCell ⟨q, 1, none⟩ (.int .u32 id)).setCell ⟨q, 2, none⟩ (.slice none 0 0)).setCell ⟨q, 3, none⟩ (.int .i64 0)).setCell ⟨q, 4, none⟩ .nilIface = W := ⟨_, rfl⟩
 have o3 : ∀ k, k ≠ q → W3.heap[k]? = w2.heap[k]? := fun k hk => by
  rw [← hW3, Below.heap_setCell _ _ _ _ hk, Below.heap_setCell _ _ _ _ hk, Below.heap_setCell _ _ _ _ hk, Below.heap_setCell _ _ _ _ hk, Below.heap_setCell _ _ _ _ hk]
 have b3 : W3.heap[q]? = some (.cells #[.int .u8 t, .int .u32 id, .slice none 0 0, .int .i64 0, .nilIface] 85 (0, 0)) := by
  rw [← hW3]
  have a1 : (w2.setCell ⟨q, 0, none⟩ (.int .u8 t)).heap[q]? = some (.cells #[.int .u8 t, .int .u32 0, .slice none 0 0, .int .i64 0, .nilIface] 85 (0, 0)) := zAU q2 _
  have a2 : ((w2.setCell ⟨q, 0, none⟩ (.int .u8 t)).setCell ⟨q, 1, none⟩ (.int .u32 id)).heap[q]? = some (.cells #[.int .u8 t, .int .u32 id, .slice none 0 0, .int .i64 0, .nilIface] 85 (0, 0)) := zAU a1 _
  have a3 : (((w2.setCell ⟨q, 0, none⟩ (.int .u8 t)).setCell ⟨q, 1, none⟩ (.int .u32 id)).setCell ⟨q, 2, none⟩ (.slice none 0 0)).heap[q]? = some (.cells #[.int .u8 t, .int .u32 id, .slice none 0 0, .int .i64 0, .nilIface] 85 (0, 0)) := zAU a2 _
  have a4 : ((((w2.setCell ⟨q, 0, none⟩ (.int .u8 t)).setCell ⟨q, 1, none⟩ (.int .u32 id)).setCell ⟨q, 2, none⟩ (.slice none 0 0)).setCell ⟨q, 3, none⟩ (.int .i64 0)).heap[q]? = some (.cells #[.int .u8 t, .int .u32 id, .slice none 0 0, .int .i64 0, .nilIface] 85 (0, 0)) := zAU a3 _
  exact zAU a4 _
 have u3 : UpdB (fun k => k = g ∨ k = q) w W3 := by rw [← hW3]; exact ((((U2.setCell (.inr rfl) _).setCell (.inr rfl) _).setCell (.inr rfl) _).setCell (.inr rfl) _).setCell (.inr rfl) _
 have z3 : W3.heap.size = w2.heap.size := by rw [← hW3]; simp [World.setCell]
 have g0 : W3.cell? ⟨g, 0, none⟩ = some (.slice (some ⟨s, p, none⟩) n c) := (cell_kept (o3 g (Ne.symm hqg))).trans h0
 have g1 : W3.cell? ⟨g, 1, none⟩ = some (.int .i64 ((off : Nat) : Int)) := (cell_kept (o3 g (Ne.symm hqg))).trans h1
 have g2 : W3.cell? ⟨g, 2, none⟩ = some .nilIface := (cell_kept (o3 g (Ne.symm hqg))).trans h2
 have m2 : W3.cell? ⟨q, 2, none⟩ = some (.slice none 0 0) := by rw [zAA b3]; rfl
 have m3 : W3.cell? ⟨q, 3, none⟩ = some (.int .i64 0) := by rw [zAA b3]; rfl
 have m4 : W3.cell? ⟨q, 4, none⟩ = some .nilIface := by rw [zAA b3]; rfl
 have fr := zAP b3
 have r2 := fr 2
 have r3 := fr 3
 have r4 := fr 4
 obtain ⟨W4, hW4⟩ : ∃ W, ((W3.setCell ⟨q, 2, none⟩ (.slice (some ⟨s, p, none⟩) n c)).setCell ⟨q, 3, none⟩ (.int .i64 ((off : Nat) : Int))).setCell ⟨q, 4, none⟩ .nilIface = W := ⟨_, rfl⟩
 have o4 : ∀ k, k ≠ q → W4.heap[k]? = W3.heap[k]? := fun k hk => by
  rw [← hW4, Below.heap_setCell _ _ _ _ hk, Below.heap_setCell _ _ _ _ hk, Below.heap_setCell _ _ _ _ hk]
 have b4 : W4.heap[q]? = some (.cells #[.int .u8 t, .int .u32 id, .slice (some ⟨s, p, none⟩) n c, .int .i64 ((off : Nat) : Int), .nilIface] 85 (0, 0)) := by
  rw [← hW4]
  have a1 : (W3.setCell ⟨q, 2, none⟩ (.slice (some ⟨s, p, none⟩) n c)).heap[q]? = some (.cells #[.int .u8 t, .int .u32 id, .slice (some ⟨s, p, none⟩) n c, .int .i64 0, .nilIface] 85 (0, 0)) := zAU b3 _
  have a2 : ((W3.setCell ⟨q, 2, none⟩ (.slice (some ⟨s, p, none⟩) n c)).setCell ⟨q, 3, none⟩ (.int .i64 ((off : Nat) : Int))).heap[q]? = some (.cells #[.int .u8 t, .int .u32 id, .slice (some ⟨s, p, none⟩) n c, .int .i64 ((off : Nat) : Int), .nilIface] 85 (0, 0)) := zAU a1 _
  exact zAU a2 _
 have u4 : UpdB (fun k => k = g ∨ k = q) w W4 := by rw [← hW4]; exact ((u3.setCell (.inr rfl) _).setCell (.inr rfl) _).setCell (.inr rfl) _
 have z4 : W4.heap.size = W3.heap.size := by rw [← hW4]; simp [World.setCell]
 have l2 : W4.cell? ⟨g, 2, none⟩ = some .nilIface := (cell_kept (o4 g (Ne.symm hqg))).trans g2
 have F := Lib.hid (show zOc q g s t id B w (.returned .nilIface) W4 from
  ⟨rfl, ⟨⟨p, n, c, off, by rw [zAA b4]; rfl, by rw [zAA b4]; rfl, ⟨Ne.symm hqs, by omega⟩, hon, hnc, hn, by rw [zAA b4]; rfl, hl, (hL.kept (o3 s (Ne.symm hqs))).kept (o4 s (Ne.symm hqs))⟩, zAP b4⟩, by rw [zAA b4]; rfl, u4⟩)
 have X3 := Lib.hid hW3
 have X4 := Lib.hid hW4
 clear hb2 hu2 q2 U2 hL o3 b3 u3 fr fq o4 b4 u4 z3 z4 hl hW3 hW4 C32 E32 Q1 U1 z1 z2 hon hnc hn hsg hlt hlt2
 go_wp2_with fail
 go_ret
 rw [X3.out, X4.out]
 exact F.out
def zOd (q rr s0 : Nat) (L l : List UInt8) (id : Int) (B : List UInt8) (w : World) (e : Ending) (w' : World) : Prop :=
 e = .returned .nilIface ∧ (∃ s, w.heap.size ≤ s ∧ RBuf w' q 2 s (some B)) ∧ w'.cell? ⟨q, 1, none⟩ = some (.int .u32 id) ∧ Rd w' rr s0 (L.drop (4 + l.length)) ∧ UpdB (fun k => k = rr ∨ k = q) w w'
theorem zMl (q rr s : Nat) (t id : Int) (B L l : List UInt8) (M : Int) (w : World) (ht : T27 t) (i0 : 0 ≤ id) (i1 : id ≤ 4294967295) (hq : w.heap[q]? = some (.cells zLx 85 (0, 0))) (hr : Rd w rr s L) (hL : L.length ≤ 1000000000) (hM0 : 0 ≤ M) (hM : M ≤ 1000000000) (hrs : rr ≠ s) (hqr : q ≠ rr) (hqs : q ≠ s)
  (hg : zBk M L = some l) (hl : l = bt t :: (zAQ id ++ B)) :
  Calls Tryz.prog 32 #[.pointer (some ⟨q, 0, none⟩), .pointer (some ⟨rr, 0, none⟩), .slice none 0 0, .int .u32 M] w (zOd q rr s L l id B w) := by
 have C := Lib.hid (zCi rr s L M w hr hL hM0 hM hrs)
 have hrl : rr < w.heap.size := by obtain ⟨p, c, hb, _⟩ := hr; exact zAB hb
 have hsl : s < w.heap.size := by obtain ⟨p, c, hb, _, _, h⟩ := hr; exact h
 have hql := zAB hq
 have Q := Lib.hid hq
 have hll : l.length ≤ 1000000000 := Nat.le_trans (zEb hg) hL
 have RF := Lib.hid (fun (g s : Nat) (W : World) h1 h2 h3 h4 => zMk q g s t id B W ht i0 i1 h1 h2 h3 h4)
 have HL := Lib.hid hl
 clear hr hL hM0 hM hq ht i0 i1 hl
 go_enter Tryz.func32, Tryz.ntmps32
 go_wp2_with fail
 refine C.out.mono ?_
 rw [hg]
 rintro e w1 ⟨hu, h, c, rfl, hc, hwh, hhw, hlie, hrd⟩
 have hq1 := (hu.block q hql hqr).trans Q.out
 have U := Lib.hid hu
 have LI := Lib.hid hlie
 have Q1 := Lib.hid hq1
 have RD := Lib.hid hrd
 have z1 := hu.size
 clear hu C hlie hq1 Q hrd
 go_wp2_with fail
 refine (zAZ _ _ _ _).mono ?_
 rintro e w2 ⟨rfl, hw2⟩
 have hb2 := RBuf.new LI.out hhw hc hll
 have hbel := (Below.refl w1.heap.size w1).alloc (Nat.le_refl _) (.cells #[.slice (some ⟨h, 0, none⟩) l.length c, .int .i64 0, .nilIface] 83)
 rw [hw2] at hb2 hbel
 have hq2 := (hbel.block q (by omega)).trans Q1.out
 rw [HL.out] at hb2
 have E := Lib.hid (RF.out _ _ w2 hq2 (by omega) (by omega) hb2)
 have R2 := Lib.hid (RD.out.kept (hbel.block rr (by omega)) (hbel.block s (by omega)) hbel.size)
 have U2 : UpdB (fun k => k = rr ∨ k = q) w w2 := (U.out.mono (fun k e => .inl e)).trans ⟨hbel.os, hbel.tape, hbel.output, hbel.size, fun k hk _ => hbel.block k hk⟩
 have V2 := Lib.hid U2
 have ZB := Lib.hid hbel.size
 clear hw2 hb2 hbel hq2 U2 RF Q1 LI U RD
 go_wp2_with fail
 refine E.out.mono ?_
 rintro e w3 ⟨rfl, hb3, hid3, hu3⟩
 have F := Lib.hid (show zOd q rr s L l id B w (.returned .nilIface) w3 from by
  have hu := V2.out
  have hz := hu.size
  have zb := ZB.out
  exact ⟨rfl, ⟨_, hwh, hb3⟩, hid3, R2.out.kept (hu3.block rr (by omega) (by omega)) (hu3.block s (by omega) (by omega)) hu3.size, ⟨hu3.os.trans hu.os, hu3.tape.trans hu.tape, hu3.output.trans hu.output, Nat.le_trans hu.size hu3.size, fun k hk e => (hu3.block k (by omega) (by omega)).trans (hu.block k hk e)⟩⟩)
 clear hb3 hid3 hu3 E V2 R2
 go_wp2_with fail
 go_ret
 exact F.out
theorem zBj (p : Pk) (tp t : TypeId) (zs : Array Value) (F : Nat) (T : zBU p tp t zs F) (hnew : ∀ w : World, Calls Tryz.prog 30 #[.int .i64 p.f0] w fun e w' => e = .returned (.iface tp (.pointer (some ⟨w.heap.size, 0, none⟩))) ∧ w.alloc (.cells zs t) = w')
  (ht : T27 p.f0) (h12 : ¬ (p.f0 = 1 ∨ p.f0 = 2)) (i0 : 0 ≤ p.f1) (i1 : p.f1 ≤ 4294967295) (s : ByteArray) (M : Int) (w : World) (hi : ∀ w : World, (Instr.index 9 (.string s) (.int .i64 4)).run Tryz.prog w = .ok (.int .u8 p.f0) w) (h4 : 4 < s.size) (hs : s.size ≤ 1000000000) (hM0 : 0 ≤ M) (hM : M ≤ 1000000000)
  (hg : zBk M (tl s) = some (inner p)) :
  Calls Tryz.prog 11 #[.string s, .int .u32 M] w (zHn p w) := by
 have hr9 := T27.range ht
 have hx1 : (p.f0 == 1) = false := by simp; omega
 have hx2 : (p.f0 == 2) = false := by simp; omega
 rw [zHm h12] at hg
 have RQ := Lib.hid (fun (q rr s : Nat) (L : List UInt8) (W : World) h1 h2 h3 h4 h5 h6 h7 => zMl q rr s p.f0 p.f1 (zA1 p) L _ M W ht i0 i1 h1 h2 h3 hM0 hM h4 h5 h6 h7 rfl)
 have RN := Lib.hid hnew
 have HM := T.meth
 have HC := T.ent
 have HF := Lib.hid T.fill
 have hcv : IntKind.i64.wrap p.f0 = p.f0 := IntWalk.i64_in _ (by omega)
 have HG := Lib.hid hg
 clear T hnew ht h12 i0 i1 hg hr9
 generalize hty0 : p.f0 = ty at *
 clear hty0
 have hmf : ∀ (fn : Fn) (first cap : Array Value) (w : World), (Instr.makeFunc fn first cap).run Tryz.prog w = .ok (.func fn first cap) w := fun _ _ _ _ => rfl
 have kb := fun W => Lib.run_convert_string_bytes (P := Tryz.prog) W 9 56 5 s Tryz.underlying9 Tryz.underlying56 Tryz.underlying5
 have i4 : (4 : Int) < (s.size : Int) := by omega
 obtain ⟨W0, hW0⟩ : ∃ W, (w.alloc (.cells pZero 29)).alloc (.cells #[.int .i64 0] 3) = W := ⟨_, rfl⟩
 have s0 : W0.heap.size = w.heap.size + 1 + 1 := by rw [← hW0]; simp
 have X0 := Lib.hid hW0
 have S0 := Lib.hid s0
 clear hW0 s0
 go_enter_defers Tryz.func11, Tryz.ntmps11
 go_wp2_with (first
  | (refine wpList_allocTo rfl (some 4) rfl (.pointer (some ⟨w.heap.size, 0, none⟩)) (.cells pZero 29) (by as_aux_lemma => kernel_rfl) ?_)
  | (refine zAx 12 rfl ?_; rw [X0.out]))
 have hrr : (Lib.bytesWorld W0 5 s).heap.size = w.heap.size + 1 + 1 + 1 := by rw [Lib.bytesWorld_size, S0.out]
 obtain ⟨hR, hz0, hz1, hbe, hsz⟩ := zCW w W0 s X0.out
 rw [hrr, S0.out]
 unfold zC7 at hR hz0 hz1 hbe hsz
 clear hrr
 generalize (Lib.bytesWorld W0 5 s).alloc (.cells #[.slice (some ⟨w.heap.size + 1 + 1, 0, none⟩) s.size (grownCap W0 s.size 0 5)] 76) = W1 at hR hz0 hz1 hbe hsz ⊢
 have R1 := Lib.hid hR
 have Z0 := Lib.hid hz0
 have Z1 := Lib.hid hz1
 have B1 := Lib.hid hbe
 have S1 := Lib.hid hsz
 clear hR hz0 hz1 hbe hsz kb X0 S0
 refine (RN.out W1).mono ?_
 rintro e w9 ⟨rfl, hw9⟩
 have z9 : w9.heap.size = W1.heap.size + 1 := by rw [← hw9]; simp
 have hb9 : Below W1.heap.size W1 w9 := by rw [← hw9]; exact (Below.refl _ _).alloc (Nat.le_refl _) _
 have hx9 : w9.heap[W1.heap.size]? = some (.cells zs t (0, 0)) := by rw [← hw9]; exact heap_alloc_new _ _
 have e1 := S1.out
 have R9 := Lib.hid (R1.out.kept (hb9.block _ (by omega)) (hb9.block _ (by omega)) hb9.size)
 have Z09 := Lib.hid ((hb9.block _ (by omega)).trans Z0.out)
 have Z19 := Lib.hid ((hb9.block _ (by omega)).trans Z1.out)
 have B9 := Lib.hid (B1.out.trans (hb9.mono (by omega)))
 have K9 := Lib.hid hx9
 have e1' : W1.heap.size = w.heap.size + 1 + 1 + 1 + 1 := e1
 clear hb9 R1 Z0 Z1 B1 S1 e1 hx9 hw9 RN
 obtain ⟨x, hx⟩ : ∃ x, x = W1.heap.size := ⟨_, rfl⟩
 rw [← hx] at e1' z9 K9 ⊢
 clear hx
 obtain ⟨W2, hW2⟩ : ∃ W, w9.alloc (.cells zLx 85) = W := ⟨_, rfl⟩
 have hz2 : W2.heap.size = x + 1 + 1 := by rw [← hW2]; simp [z9]
 have hb2 : Below w9.heap.size w9 W2 := by rw [← hW2]; exact (Below.refl _ _).alloc (Nat.le_refl _) _
 have hq2 : W2.heap[x + 1]? = some (.cells zLx 85 (0, 0)) := by rw [← hW2, ← z9]; exact heap_alloc_new _ _
 have X2 := Lib.hid hW2
 have Q2 := Lib.hid hq2
 have B2 := Lib.hid hb2
 have Z2 := Lib.hid hz2
 have Z9 := Lib.hid z9
 have E1 := Lib.hid e1'
 clear hW2 hz2 hb2 hq2 z9 e1'
 go_wp2_with (refine wpList_allocTo rfl (some 10) rfl (.pointer (some ⟨x + 1, 0, none⟩)) (.cells zLx 85) (by rw [← Z9.out]; as_aux_lemma => kernel_rfl) ?_; rw [X2.out])
 have hb2 := B2.out
 have z9 := Z9.out
 have e1' := E1.out
 have hz2 := Z2.out
 have hR2 : Rd W2 (w.heap.size + 1 + 1 + 1) (w.heap.size + 1 + 1) (tl s) := R9.out.kept (hb2.block _ (by omega)) (hb2.block _ (by omega)) hb2.size
 refine (RQ.out (x + 1) (w.heap.size + 1 + 1 + 1) (w.heap.size + 1 + 1) (tl s) W2 Q2.out hR2 (by rw [zAH]; exact hs) (by omega) (by omega) (by omega) HG.out).mono ?_
 rintro e w3 ⟨rfl, ⟨s3, hs3, hb3⟩, hid3, _, hu3⟩
 have z3 := hu3.size
 have y0 : w3.heap[w.heap.size]? = some (.cells pZero 29 (0, 0)) := by rw [hu3.block _ (by omega) (by omega), hb2.block _ (by omega)]; exact Z09.out
 have y1 : w3.heap[w.heap.size + 1]? = some (.cells #[.int .i64 0] 3 (0, 0)) := by rw [hu3.block _ (by omega) (by omega), hb2.block _ (by omega)]; exact Z19.out
 have yx : w3.heap[x]? = some (.cells zs t (0, 0)) := by rw [hu3.block _ (by omega) (by omega), hb2.block _ (by omega)]; exact K9.out
 have yb : Below w.heap.size w w3 := (B9.out.trans (hb2.mono (by omega))).trans ⟨hu3.os, hu3.tape, hu3.output, hu3.size, fun k hk => hu3.block k (by omega) (by omega)⟩
 have xs : x ≠ s3 := by omega
 have D3 := Lib.hid (HF.out x (x + 1) 2 s3 w3 yx (by omega) xs hb3)
 have Y0 := Lib.hid y0
 have Y1 := Lib.hid y1
 have YB := Lib.hid yb
 have I3 := Lib.hid hid3
 clear y0 y1 yb yx hb3 hid3 hu3 hR2 hb2 z9 hz2 RQ HF HG R9 Z09 Z19 B9 K9 X2 Q2 B2 e1'
 go_wp2_with fail
 refine D3.out.mono ?_
 rintro e w5 ⟨rfl, hp5, hu5⟩
 have e1' := E1.out
 have hz2 := Z2.out
 have z5 := hu5.size
 have q1 : w5.cell? ⟨x + 1, 1, none⟩ = some (.int .u32 p.f1) := (hu5.low 1 (by omega)).trans I3.out
 have y0 := (hu5.block w.heap.size (by omega) (by omega)).trans Y0.out
 have y1 := (hu5.block (w.heap.size + 1) (by omega) (by omega)).trans Y1.out
 have yb : Below w.heap.size w w5 := YB.out.trans ⟨hu5.os, hu5.tape, hu5.output, hu5.size, fun k hk => hu5.block k (by omega) (by omega)⟩
 have C3 := Lib.hid (hp5 w5 (Below.refl _ _))
 have zz := Lib.hid (show w.heap.size + 1 < w5.heap.size by omega)
 have Y05 := Lib.hid y0
 have Y15 := Lib.hid y1
 have YB5 := Lib.hid yb
 clear hp5 hu5 y0 y1 yb D3 Y0 Y1 YB I3 z3 z5 e1' hz2 xs hs3
 generalize hid0 : p.f1 = id at *
 clear hid0
 go_wp2_with fail
 refine C3.out.mono ?_
 rintro e w4 ⟨P, rfl, hP, hb4⟩
 have zz := zz.out
 have z4 := hb4.size
 have z4' : w5.heap.size ≤ w4.heap.size := z4
 have hP9 := hP.now
 have pone := hP9.one
 have pinf := zDz hP9.size
 have PS := Lib.hid (show P.size = pZero.size from hP9.size)
 have y0 : w4.heap[w.heap.size]? = some (.cells pZero 29 (0, 0)) := by rw [hb4.block _ (by show w.heap.size < w5.heap.size; omega)]; exact Y05.out
 have y1 : w4.heap[w.heap.size + 1]? = some (.cells #[.int .i64 0] 3 (0, 0)) := by rw [hb4.block _ (by show w.heap.size + 1 < w5.heap.size; omega)]; exact Y15.out
 have yb : Below w.heap.size w w4 := YB5.out.trans (hb4.mono (by omega))
 obtain ⟨W5, hW5⟩ : ∃ W, w4.setRow w.heap.size P = W := ⟨_, rfl⟩
 obtain ⟨W6, hW6⟩ : ∃ W, W5.setRow w.heap.size P = W := ⟨_, rfl⟩
 have a5 : W5.heap[w.heap.size]? = some (.cells P 29 (0, 0)) := by rw [← hW5]; exact zAe y0
 have b5 : W5.heap[w.heap.size + 1]? = some (.cells #[.int .i64 0] 3 (0, 0)) := by rw [← hW5, setRow_other _ _ _ _ (by omega)]; exact y1
 have t5 : Below w.heap.size w W5 := by rw [← hW5]; exact ⟨yb.os, yb.tape, yb.output, by rw [setRow_size]; exact yb.size, fun k hk => by rw [setRow_other _ _ _ _ (by omega)]; exact yb.block k hk⟩
 have a6 : W6.heap[w.heap.size]? = some (.cells P 29 (0, 0)) := by rw [← hW6]; exact zAe a5
 have b6 : W6.heap[w.heap.size + 1]? = some (.cells #[.int .i64 0] 3 (0, 0)) := by rw [← hW6, setRow_other _ _ _ _ (by omega)]; exact b5
 have t6 : Below w.heap.size w W6 := by rw [← hW6]; exact ⟨t5.os, t5.tape, t5.output, by rw [setRow_size]; exact t5.size, fun k hk => by rw [setRow_other _ _ _ _ (by omega)]; exact t5.block k hk⟩
 have c6 : W6.cell? ⟨w.heap.size + 1, 0, none⟩ = some (.int .i64 0) := by rw [zAA b6]; rfl
 have f6 : W6.frozen? ⟨w.heap.size + 1, 0, none⟩ = false := zAP b6 0
 have hP7 : PkV (W6.setCell ⟨w.heap.size + 1, 0, none⟩ (.int .i64 0)) P p := by
  refine hP _ ?_ (fun k hk _ => ?_)
  ·rw [show (W6.setCell ⟨w.heap.size + 1, 0, none⟩ (.int .i64 0)).heap.size = W6.heap.size from by simp [World.setCell], ← hW6, setRow_size, ← hW5, setRow_size]
   exact Nat.le_refl _
  ·have hk' : w5.heap.size ≤ k := hk
   rw [Below.heap_setCell _ _ _ _ (by show k ≠ w.heap.size + 1; omega), ← hW6, setRow_other _ _ _ _ (by omega), ← hW5, setRow_other _ _ _ _ (by omega)]
 have V0 := Lib.hid y0
 have X5 := Lib.hid hW5
 have X6 := Lib.hid hW6
 have A5 := Lib.hid a5
 have A6 := Lib.hid a6
 have T6 := Lib.hid t6
 have P7 := Lib.hid hP7
 have PI := Lib.hid pinf
 have PO := Lib.hid pone
 clear y0 y1 yb a5 b5 t5 a6 b6 t6 hW5 hW6 hb4 C3 Y05 Y15 YB5 q1 hP hP9 hP7 pone pinf
 go_wp2_with (first
  | (refine wpList_store_row rfl 29 _ _ rfl w.heap.size P rfl rfl 29 pZero V0.out PI.out PS.out.symm PO.out ?_; rw [X5.out])
  | (refine wpList_load_row rfl 29 _ rfl w.heap.size rfl 29 P (0, 0) _ A5.out Tryz.underlying29 rfl PI.out ?_)
  | (refine wpList_store_row rfl 29 _ _ rfl w.heap.size P rfl rfl 29 P A5.out PI.out rfl PO.out ?_; rw [X6.out]))
 refine leaves_cons (f := 28) (args := #[.pointer (some ⟨w.heap.size, 0, none⟩), .pointer (some ⟨w.heap.size + 1, 0, none⟩)]) (by simp) (by simp [go_sem]) ?_
 refine (zCx _ _ _).mono ?_
 rintro e u' w'' ⟨rfl, rfl, rfl⟩
 have r1 : (W6.setCell ⟨w.heap.size + 1, 0, none⟩ (.int .i64 0)).heap[w.heap.size]? = some (.cells P 29 (0, 0)) := by rw [Below.heap_setCell _ _ _ _ (by show w.heap.size ≠ w.heap.size + 1; omega)]; exact A6.out
 have r2 : (W6.setCell ⟨w.heap.size + 1, 0, none⟩ (.int .i64 0)).cell? ⟨w.heap.size + 1, 0, none⟩ = some (.int .i64 0) := zBV c6
 have hfin : Below w.heap.size w (W6.setCell ⟨w.heap.size + 1, 0, none⟩ (.int .i64 0)) := T6.out.setCell (by simp) _
 have hP7 := P7.out
 generalize W6.setCell ⟨w.heap.size + 1, 0, none⟩ (.int .i64 0) = W7 at *
 have hl : (loadVar 3 ⟨w.heap.size + 1, 0, none⟩).run Tryz.prog W7 = .ok (.int .i64 0) W7 := by simp [go_sem, r2]
 exact ⟨_, results_cc Tryz.results11 _ _ w.heap.size (w.heap.size + 1) 29 P (0, 0) _ _ rfl rfl r1 Tryz.underlying29 rfl PI.out hl, P, rfl, hP7, hfin⟩
theorem zLy (M : Int) (p : Pk) (s : Sound p) (r : List UInt8) (hM : ((inner p).length : Int) ≤ M) : zBk M (zAy p ++ r) = some (inner p) := by
 have hi := s.inner_len
 rw [zBv, List.append_assoc]
 unfold zBk
 rw [zC9 _ _ (by omega) (by omega), if_neg (by rw [List.length_append, zAg]; omega), if_neg (by omega), if_neg (by omega), if_neg (by rw [List.length_append, List.length_append, zAg]; omega)]
 rw [List.drop_append_of_le_length (by rw [zAg]; exact Nat.le_refl _), List.drop_of_length_le (by rw [zAg]; exact Nat.le_refl _), List.nil_append, Int.toNat_natCast, List.take_left]
theorem zND (p : Pk) (s : Sound p) (b : ByteArray) (r : List UInt8) (hb : tl b = zAy p ++ r) : (∀ w : World, (Instr.index 9 (.string b) (.int .i64 4)).run Tryz.prog w = .ok (.int .u8 p.f0) w) ∧ 4 < b.size := by
 have e : (tl b)[4]? = some (bt p.f0) := by
  rw [hb, zBv]
  unfold inner
  rfl
 have h := zNm b _ e
 rw [T27.bt s.ok.ty] at h
 refine ⟨h, ?_⟩
 have h2 := (List.getElem?_eq_some_iff.1 e).1
 rwa [zAH] at h2
theorem zMm (p : Pk) (s : Sound p) (h12 : ¬ (p.f0 = 1 ∨ p.f0 = 2)) (b : ByteArray) (r : List UInt8) (hb : tl b = zAy p ++ r) (hs : b.size ≤ 1000000000) (M : Int) (hM0 : 0 ≤ M) (hM : M ≤ 1000000000) (hle : ((inner p).length : Int) ≤ M) (w : World) :
  Calls Tryz.prog 11 #[.string b, .int .u32 M] w (zHn p w) := by
 obtain ⟨hi, h4⟩ := zND p s b r hb
 have hg : zBk M (tl b) = some (inner p) := by rw [hb]; exact zLy M p s r hle
 have ht := s.ok.ty
 obtain ⟨_, ⟨i0, i1⟩, _⟩ := s.g
 have hc := ht
 unfold T27 at hc
 rcases hc with h | h | h | h | h | h | h | h | h | h | h | h | h | h | h | h | h | h | h | h | h | h | h | h | h | h | h
 ·exact absurd (.inl h) h12
 ·exact absurd (.inr h) h12
 ·exact zAs p _ _ _ _ (zK6 p s h) (fun w => by rw [h]; exact zIw w) ht h12 (by unfold zBs; omega) i0 i1 b M w hi h4 hs hM0 hM hg
 ·exact zAs p _ _ _ _ (zJB p s h) (fun w => by rw [h]; exact zGi w) ht h12 (by unfold zBs; omega) i0 i1 b M w hi h4 hs hM0 hM hg
 ·exact zAs p _ _ _ _ (zK5 p s h) (fun w => by rw [h]; exact zIx w) ht h12 (by unfold zBs; omega) i0 i1 b M w hi h4 hs hM0 hM hg
 ·exact zAs p _ _ _ _ (zJH p s h) (fun w => by rw [h]; exact zHo w) ht h12 (by unfold zBs; omega) i0 i1 b M w hi h4 hs hM0 hM hg
 ·exact zAs p _ _ _ _ (zJD p s h) (fun w => by rw [h]; exact zHp w) ht h12 (by unfold zBs; omega) i0 i1 b M w hi h4 hs hM0 hM hg
 ·exact zAs p _ _ _ _ (zJC p s h) (fun w => by rw [h]; exact zHq w) ht h12 (by unfold zBs; omega) i0 i1 b M w hi h4 hs hM0 hM hg
 ·exact zAs p _ _ _ _ (zGo p s h) (fun w => by rw [h]; exact zF6 w) ht h12 (by unfold zBs; omega) i0 i1 b M w hi h4 hs hM0 hM hg
 ·exact zAs p _ _ _ _ (zFc p s h) (fun w => by rw [h]; exact zFB w) ht h12 (by unfold zBs; omega) i0 i1 b M w hi h4 hs hM0 hM hg
 ·exact zAs p _ _ _ _ (zGm p s h) (fun w => by rw [h]; exact zF7 w) ht h12 (by unfold zBs; omega) i0 i1 b M w hi h4 hs hM0 hM hg
 ·exact zAs p _ _ _ _ (zGl p s h) (fun w => by rw [h]; exact zF8 w) ht h12 (by unfold zBs; omega) i0 i1 b M w hi h4 hs hM0 hM hg
 ·exact zAs p _ _ _ _ (zHu p s h) (fun w => by rw [h]; exact zGj w) ht h12 (by unfold zBs; omega) i0 i1 b M w hi h4 hs hM0 hM hg
 ·exact zAs p _ _ _ _ (zJF p s h) (fun w => by rw [h]; exact zHr w) ht h12 (by unfold zBs; omega) i0 i1 b M w hi h4 hs hM0 hM hg
 ·exact zAs p _ _ _ _ (zJE p s h) (fun w => by rw [h]; exact zHs w) ht h12 (by unfold zBs; omega) i0 i1 b M w hi h4 hs hM0 hM hg
 ·exact zAs p _ _ _ _ (zFa p s h) (fun w => by rw [h]; exact zFC w) ht h12 (by unfold zBs; omega) i0 i1 b M w hi h4 hs hM0 hM hg
 ·exact zAs p _ _ _ _ (zK4 p s h) (fun w => by rw [h]; exact zIy w) ht h12 (by unfold zBs; omega) i0 i1 b M w hi h4 hs hM0 hM hg
 ·exact zAs p _ _ _ _ (zHv p s h) (fun w => by rw [h]; exact zGk w) ht h12 (by unfold zBs; omega) i0 i1 b M w hi h4 hs hM0 hM hg
 ·exact zAs p _ _ _ _ (zFb p s h) (fun w => by rw [h]; exact zFD w) ht h12 (by unfold zBs; omega) i0 i1 b M w hi h4 hs hM0 hM hg
 ·exact zAs p _ _ _ _ (zGn p s h) (fun w => by rw [h]; exact zF9 w) ht h12 (by unfold zBs; omega) i0 i1 b M w hi h4 hs hM0 hM hg
 ·exact zBj p _ _ _ _ (zHw p s h) (fun w => by rw [h]; exact zIz w) ht h12 i0 i1 b M w hi h4 hs hM0 hM hg
 ·exact zBj p _ _ _ _ (zHt p s h) (fun w => by rw [h]; exact zJA w) ht h12 i0 i1 b M w hi h4 hs hM0 hM hg
 ·exact zBj p _ _ _ _ (zK7 p s h) (fun w => by rw [h]; exact zLt w) ht h12 i0 i1 b M w hi h4 hs hM0 hM hg
 ·exact zBj p _ _ _ _ (zK8 p s h) (fun w => by rw [h]; exact zLu w) ht h12 i0 i1 b M w hi h4 hs hM0 hM hg
 ·exact zBj p _ _ _ _ (zJG p s h) (fun w => by rw [h]; exact zK3 w) ht h12 i0 i1 b M w hi h4 hs hM0 hM hg
 ·exact zBj p _ _ _ _ (zD8 p s h) (fun w => by rw [h]; exact zDt w) ht h12 i0 i1 b M w hi h4 hs hM0 hM hg
 ·exact zAs p _ _ _ _ (zFf p s h) (fun w => by rw [h]; exact zFE w) ht h12 (by unfold zBs; omega) i0 i1 b M w hi h4 hs hM0 hM hg
theorem zJ9 : zD2 Tryz.prog 61 := ⟨_, Tryz.underlying61, rfl⟩
theorem zJa {w : World} {B : Nat} {v : Value} {l : List Ex} (h : Kd.R k52 52 w B (fun _ => True) v l) : ∃ A c, v = .slice A l.length c ∧ ∀ V : World, (∀ k, B ≤ k → k < w.heap.size → V.heap[k]? = w.heap[k]?) → SlE V A c l := by
 obtain ⟨A, c, rfl, hc, _⟩ := Kd.R_reads h
 refine ⟨A, c, rfl, fun V hV => ?_⟩
 obtain ⟨A', c', e, hc', hC⟩ := Kd.R_reads (zE3 h hV)
 injection e with e1 _ e3
 subst e1 e3
 exact ⟨hC, hc'⟩
def pG (t x : Int) (l : List Ex) : Pk := ⟨t, 0, e0, e0, e0, 0, 0, 0, e0, ⟨0, 0, 0, 0, 0, 0, 0, []⟩, [], l, x, 0, e0, e0, e0⟩
def zGt (p : Pk) (w : World) (e : Ending) (w' : World) : Prop := ∃ P, e = .returned (.tuple #[.agg P, .int .i64 0]) ∧ PkF w' w.heap.size P p ∧ Below w.heap.size w w'
theorem zKb (n : Nat) (h : n ≤ 2000000000) : IntKind.u64.wrap ((n : Nat) : Int) = (n : Int) := by unfold IntKind.wrap; simp [IntKind.signed, IntKind.bits]; omega
theorem zOe (n : Nat) (h : n ≤ 2000000000) : IntKind.u32.wrap ((n : Nat) : Int) = (n : Int) := by unfold IntKind.wrap; simp [IntKind.signed, IntKind.bits]; omega
theorem zKc (x : Int) (l : List Ex) (s : ByteArray) (M : Int) (m : Nat) (w : World) (hs : s.size ≤ 1000000000) (hM : M ≤ 1000000000) (hrd : zBz (tl s) = (m : Int)) (hm1 : 5 ≤ m) (hmM : (m : Int) ≤ M) (hms : 4 + m ≤ s.size) (hm2 : m ≤ 20000000)
  (hd : tl (s.extract 5 (4 + m)) = zAQ x ++ exB (l.map zAY)) (hi : ∀ w : World, (Instr.index 9 (.string s) (.int .i64 4)).run Tryz.prog w = .ok (.int .u8 1) w) (x0 : 0 ≤ x) (x1 : x ≤ 4294967295) (hn : l.length ≤ 1000) (hok : ∀ e ∈ l, e.f0.size ≤ 1000000 ∧ e.f1.size ≤ 1000000) :
  Calls Tryz.prog 29 #[.string s, .int .u32 M] w (zGt (pG 1 x l) w) := by
 have kb := fun W s => Lib.run_convert_string_bytes (P := Tryz.prog) W 9 56 5 s Tryz.underlying9 Tryz.underlying56 Tryz.underlying5
 obtain ⟨W0, hW0⟩ : ∃ W, w.alloc (.cells pZero 29) = W := ⟨_, rfl⟩
 have hq0 : W0.heap[w.heap.size]? = some (.cells pZero 29 (0, 0)) := by rw [← hW0]; exact heap_alloc_new _ _
 have hb0 : Below w.heap.size w W0 := by rw [← hW0]; exact (Below.refl _ _).alloc (Nat.le_refl _) _
 have s0 : w.heap.size < W0.heap.size := zAB hq0
 have X0 := Lib.hid hW0
 have Q0 := Lib.hid hq0
 have B0 := Lib.hid hb0
 have D := Lib.hid hd
 have OK := Lib.hid hok
 clear hW0 hq0 hb0 hd hok
 go_enter Tryz.func29, Tryz.ntmps29
 go_wp2_with (first
  | (refine wpList_allocTo rfl (some 4) rfl (.pointer (some ⟨w.heap.size, 0, none⟩)) (.cells pZero 29) (by as_aux_lemma => kernel_rfl) ?_)
  | (refine zAx 11 rfl ?_; rw [X0.out]))
 refine (zDJ W0.heap.size 0 s.size _ (tl s) _ (by omega) hs (by rw [zAH]; omega) (zCl W0 s)).mono ?_
 rintro e w1 ⟨rfl, kd, rfl⟩
 rw [hrd]
 have hq1 : ((Lib.bytesWorld W0 5 s).drewN kd).heap[w.heap.size]? = some (.cells pZero 29 (0, 0)) := (Lib.bytesWorld_at_old W0 _ s _ s0).trans Q0.out
 have hb1 : Below w.heap.size w ((Lib.bytesWorld W0 5 s).drewN kd) := zAq (bytes_below B0.out (by omega) _ s) kd
 generalize (Lib.bytesWorld W0 5 s).drewN kd = W1 at *
 have s1 := zAB hq1
 obtain ⟨W2, hW2⟩ : ∃ W, Lib.bytesWorld W1 5 (s.extract 5 (4 + m)) = W := ⟨_, rfl⟩
 have z2 : W2.heap.size = W1.heap.size + 1 := by rw [← hW2, Lib.bytesWorld_size]
 have hl2 : Lies W2 W1.heap.size 0 (tl (s.extract 5 (4 + m))) := by rw [← hW2]; exact zCl W1 _
 have hq2 : W2.heap[w.heap.size]? = some (.cells pZero 29 (0, 0)) := by rw [← hW2]; exact (Lib.bytesWorld_at_old W1 _ _ _ s1).trans hq1
 have hb2 : Below w.heap.size w W2 := by rw [← hW2]; exact bytes_below hb1 (by omega) _ _
 obtain ⟨W3, hW3⟩ : ∃ W, W2.alloc (.cells #[.int .u32 0, .slice none 0 0] 64) = W := ⟨_, rfl⟩
 have b23 : Below W2.heap.size W2 W3 := by rw [← hW3]; exact (Below.refl _ _).alloc (Nat.le_refl _) _
 have hx3 : W3.heap[W2.heap.size]? = some (.cells #[.int .u32 0, .slice none 0 0] 64 (0, 0)) := by rw [← hW3]; exact heap_alloc_new _ _
 have hl3 : Lies W3 W1.heap.size 0 (tl (s.extract 5 (4 + m))) := hl2.kept (b23.block _ (by omega))
 have hq3 := (b23.block _ (by omega)).trans hq2
 have hb3 : Below w.heap.size w W3 := hb2.trans (b23.mono (by omega))
 have hds : (s.extract 5 (4 + m)).size = m - 1 := by rw [ByteArray.size_extract]; omega
 have z3 := zAB hx3
 have UC := zMj W2.heap.size W1.heap.size 0 (grownCap W1 (s.extract 5 (4 + m)).size 0 5) x l (tl (s.extract 5 (4 + m))) D.out W3 hx3 (by omega) hl3 (by omega) (by rw [zAH]; exact grownCap_ge _ _ _ _) (by rw [zAH]; omega) x0 x1 hn OK.out
 rw [zAH, hds] at UC
 have UC := Lib.hid UC
 have Z2 := Lib.hid z2
 have X2 := Lib.hid hW2
 have X3 := Lib.hid hW3
 have Q3 := Lib.hid hq3
 have B3 := Lib.hid hb3
 have d0 : ¬ M < (m : Int) := by omega
 have w1 : IntKind.u64.wrap ((s.size : Nat) : Int) = (s.size : Int) := zKb _ (by omega)
 have w2 : IntKind.u64.wrap ((m : Nat) : Int) = (m : Int) := zKb _ (by omega)
 have w3 : IntKind.u64.wrap (4 + (m : Int)) = 4 + (m : Int) := zKb (4 + m) (by omega)
 have w4 : IntKind.u32.wrap (4 + (m : Int)) = 4 + (m : Int) := zOe (4 + m) (by omega)
 have d1 : ¬ (s.size : Int) < 4 + (m : Int) := by omega
 have d2 : ¬ (m : Int) < 1 := by omega
 clear hW2 hW3 hq1 hq2 hq3 hb1 hb2 hb3 hl2 hl3 hx3 b23 X0 Q0 B0 D OK z2
 generalize hD : s.extract 5 (4 + m) = dd at *
 go_wp2_with (first
  | (refine zAx 8 rfl ?_; rw [X2.out])
  | (refine wpList_allocTo rfl (some 8) rfl (.pointer (some ⟨W2.heap.size, 0, none⟩)) (.cells #[.int .u32 0, .slice none 0 0] 64) (by as_aux_lemma => kernel_rfl) ?_; rw [X3.out]))
 refine UC.out.mono ?_
 rintro e w4 ⟨v, rfl, hp, hk4, hu4⟩
 obtain ⟨A, c, hv, hP, hc⟩ := hp.shown
 subst hv
 have z4 := hu4.size
 have z2 := Z2.out
 have hne : w.heap.size < W2.heap.size := by omega
 have hq4 := (hu4.block w.heap.size (zAB Q3.out) (by omega)).trans Q3.out
 have hb4 : Below w.heap.size w w4 := ⟨hu4.os.trans B3.out.os, hu4.tape.trans B3.out.tape, hu4.output.trans B3.out.output, Nat.le_trans B3.out.size z4, fun k hk => (hu4.block k (by have := B3.out.size; omega) (by omega)).trans (B3.out.block k hk)⟩
 have EC := Lib.hid (zNB A l.length c l w4.drew rfl hn (fun k e he => by obtain ⟨x, p, q, e1, e2, e3, e4⟩ := hP k e he; exact ⟨x, p, q, e1, e2, (cell_kept rfl).trans e3, e4⟩))
 have K4 := Lib.hid hk4
 have Q4 := Lib.hid hq4
 have B4 := Lib.hid hb4
 clear UC hp hk4 hu4 hP hq4 hb4 Q3 B3 X2 X3 z2 hds
 go_wp2_with fail
 refine wp_region_held_drew (S := fun w' => w'.heap[W2.heap.size]? = some (.cells #[.int .u32 x, .slice A l.length c] 64 (0, 0))) (by kernel_rfl) K4.out (fun hHeld => ?_)
 refine tkE 42 0 (.pointer (some ⟨W2.heap.size, 0, none⟩)) hHeld ?_
 try simp only [zAJ]
 refine tkY 43 1 (.int .u32 x) rfl (zAS (by rfl) 22 _ rfl zC8 W2.heap.size 0 (by rfl) _ _ (0, 0) _ (fun _ h => h) rfl) hHeld ?_
 try simp only [zAJ]
 refine tkE 44 2 (.pointer (some ⟨W2.heap.size, 1, none⟩)) hHeld ?_
 try simp only [zAJ]
 refine tkY 45 3 (.slice A l.length c) rfl (zAS (by rfl) 61 _ rfl zJ9 W2.heap.size 1 (by rfl) _ _ (0, 0) _ (fun _ h => h) rfl) hHeld ?_
 try simp only [zAJ]
 refine wpAnyH_ready (rs := [4]) (by kernel_rfl) (by simp) (AllReadyH.cons rfl (fun K hK => ?_) AllReadyH.nil)
 rw [if_pos (by rfl)]
 go_wp2_with (go_at_call 56; refine EC.out.mono ?_; rintro e w5 ⟨u, rfl, hR, hb5⟩)
 obtain ⟨A5, c5, rfl, hS⟩ := zJa hR
 have z5 : w4.heap.size ≤ w5.heap.size := hb5.size
 have q5 : w5.heap[w.heap.size]? = some (.cells pZero 29 (0, 0)) := (hb5.block w.heap.size (zAB Q4.out)).trans Q4.out
 have b5 : Below w.heap.size w w5 := (zAi B4.out).trans (hb5.mono B4.out.size)
 refine hK.out _ _ ((hb5.block _ (zAB hHeld)).trans hHeld) (fun hHeld => ?_)
 clear hK K
 try simp only [zAJ]
 refine tkY 47 5 (.agg (pkC (pG 1 x l) none 0 none 0 A5 c5)) rfl (Or.inl ⟨by rfl, fun _ _ => by first | rfl | kernel_rfl⟩) hHeld ?_
 try simp only [zAJ]
 refine wpAnyH_ready (rs := [6]) (by kernel_rfl) (by simp) (AllReadyH.cons rfl (fun K hK => ?_) AllReadyH.nil)
 rw [if_pos (by rfl)]
 refine wp_store_row 29 _ _ rfl w.heap.size (pkC (pG 1 x l) none 0 none 0 A5 c5) (by rfl) (by rfl) 29 pZero q5 zAo rfl (zCs _ _ _ _ _ _ _) ?_
 refine hK.out _ _ (by rw [setRow_other _ _ _ _ (by omega)]; exact hHeld) (fun hHeld => ?_)
 clear hK K
 try simp only [zAJ]
 refine tkE 5 7 (.int .i64 0) hHeld ?_
 try simp only [zAJ]
 clear hHeld
 have q6 : (w5.setRow w.heap.size (pkC (pG 1 x l) none 0 none 0 A5 c5)).heap[w.heap.size]? = some (.cells (pkC (pG 1 x l) none 0 none 0 A5 c5) 29 (0, 0)) := zAe q5
 have b6 : Below w.heap.size w (w5.setRow w.heap.size (pkC (pG 1 x l) none 0 none 0 A5 c5)) := ⟨b5.os, b5.tape, b5.output, by rw [setRow_size]; exact b5.size, fun j hj => by rw [setRow_other _ _ _ _ (by omega)]; exact b5.block j hj⟩
 have o6 : ∀ V : World, (∀ j, w.heap.size ≤ j → j < (w5.setRow w.heap.size (pkC (pG 1 x l) none 0 none 0 A5 c5)).heap.size → V.heap[j]? = (w5.setRow w.heap.size (pkC (pG 1 x l) none 0 none 0 A5 c5)).heap[j]?) → SlE V A5 c5 l := fun V hV => hS V (fun j hj1 hj2 => by
  have hj1' : w4.heap.size ≤ j := hj1
  rw [hV j (by have := B4.out.size; omega) (by rw [setRow_size]; exact hj2), setRow_other _ _ _ _ (by have := zAB Q4.out; omega)])
 have Q6 := Lib.hid q6
 have B6 := Lib.hid b6
 have O6 := Lib.hid o6
 clear q5 b5 q6 b6 o6 hS hR hb5 EC K4 Q4 B4
 generalize w5.setRow w.heap.size (pkC (pG 1 x l) none 0 none 0 A5 c5) = W6 at *
 refine wpAnyH_done (by kernel_rfl) ?_ _
 go_wp2_with fail
 refine bodyPost_ret (results_ct Tryz.results29 _ _ w.heap.size 29 (pkC (pG 1 x l) none 0 none 0 A5 c5) (0, 0) _ _ rfl rfl Q6.out Tryz.underlying29 rfl zAo) rfl ?_
 exact ⟨_, rfl, fun V _ hV => ⟨none, 0, none, 0, A5, c5, rfl, zBm V rfl, zCY V rfl, O6.out V hV⟩, B6.out⟩
theorem zGu (x : Int) (l : List Ex) (s : ByteArray) (M : Int) (m : Nat) (w : World) (hs : s.size ≤ 1000000000) (hM : M ≤ 1000000000) (hrd : zBz (tl s) = (m : Int)) (hm1 : 5 ≤ m) (hmM : (m : Int) ≤ M) (hms : 4 + m ≤ s.size) (hm2 : m ≤ 20000000)
  (hd : tl (s.extract 5 (4 + m)) = zAQ x ++ exB (l.map zAY)) (hi : ∀ w : World, (Instr.index 9 (.string s) (.int .i64 4)).run Tryz.prog w = .ok (.int .u8 2) w) (x0 : 0 ≤ x) (x1 : x ≤ 4294967295) (hn : l.length ≤ 1000) (hok : ∀ e ∈ l, e.f0.size ≤ 1000000 ∧ e.f1.size ≤ 1000000) :
  Calls Tryz.prog 29 #[.string s, .int .u32 M] w (zGt (pG 2 x l) w) := by
 have kb := fun W s => Lib.run_convert_string_bytes (P := Tryz.prog) W 9 56 5 s Tryz.underlying9 Tryz.underlying56 Tryz.underlying5
 obtain ⟨W0, hW0⟩ : ∃ W, w.alloc (.cells pZero 29) = W := ⟨_, rfl⟩
 have hq0 : W0.heap[w.heap.size]? = some (.cells pZero 29 (0, 0)) := by rw [← hW0]; exact heap_alloc_new _ _
 have hb0 : Below w.heap.size w W0 := by rw [← hW0]; exact (Below.refl _ _).alloc (Nat.le_refl _) _
 have s0 : w.heap.size < W0.heap.size := zAB hq0
 have X0 := Lib.hid hW0
 have Q0 := Lib.hid hq0
 have B0 := Lib.hid hb0
 have D := Lib.hid hd
 have OK := Lib.hid hok
 clear hW0 hq0 hb0 hd hok
 go_enter Tryz.func29, Tryz.ntmps29
 go_wp2_with (first
  | (refine wpList_allocTo rfl (some 4) rfl (.pointer (some ⟨w.heap.size, 0, none⟩)) (.cells pZero 29) (by as_aux_lemma => kernel_rfl) ?_)
  | (refine zAx 11 rfl ?_; rw [X0.out]))
 refine (zDJ W0.heap.size 0 s.size _ (tl s) _ (by omega) hs (by rw [zAH]; omega) (zCl W0 s)).mono ?_
 rintro e w1 ⟨rfl, kd, rfl⟩
 rw [hrd]
 have hq1 : ((Lib.bytesWorld W0 5 s).drewN kd).heap[w.heap.size]? = some (.cells pZero 29 (0, 0)) := (Lib.bytesWorld_at_old W0 _ s _ s0).trans Q0.out
 have hb1 : Below w.heap.size w ((Lib.bytesWorld W0 5 s).drewN kd) := zAq (bytes_below B0.out (by omega) _ s) kd
 generalize (Lib.bytesWorld W0 5 s).drewN kd = W1 at *
 have s1 := zAB hq1
 obtain ⟨W2, hW2⟩ : ∃ W, Lib.bytesWorld W1 5 (s.extract 5 (4 + m)) = W := ⟨_, rfl⟩
 have z2 : W2.heap.size = W1.heap.size + 1 := by rw [← hW2, Lib.bytesWorld_size]
 have hl2 : Lies W2 W1.heap.size 0 (tl (s.extract 5 (4 + m))) := by rw [← hW2]; exact zCl W1 _
 have hq2 : W2.heap[w.heap.size]? = some (.cells pZero 29 (0, 0)) := by rw [← hW2]; exact (Lib.bytesWorld_at_old W1 _ _ _ s1).trans hq1
 have hb2 : Below w.heap.size w W2 := by rw [← hW2]; exact bytes_below hb1 (by omega) _ _
 obtain ⟨W3, hW3⟩ : ∃ W, W2.alloc (.cells #[.int .u32 0, .slice none 0 0] 67) = W := ⟨_, rfl⟩
 have b23 : Below W2.heap.size W2 W3 := by rw [← hW3]; exact (Below.refl _ _).alloc (Nat.le_refl _) _
 have hx3 : W3.heap[W2.heap.size]? = some (.cells #[.int .u32 0, .slice none 0 0] 67 (0, 0)) := by rw [← hW3]; exact heap_alloc_new _ _
 have hl3 : Lies W3 W1.heap.size 0 (tl (s.extract 5 (4 + m))) := hl2.kept (b23.block _ (by omega))
 have hq3 := (b23.block _ (by omega)).trans hq2
 have hb3 : Below w.heap.size w W3 := hb2.trans (b23.mono (by omega))
 have hds : (s.extract 5 (4 + m)).size = m - 1 := by rw [ByteArray.size_extract]; omega
 have z3 := zAB hx3
 have UC := zIi W2.heap.size W1.heap.size 0 (grownCap W1 (s.extract 5 (4 + m)).size 0 5) x l (tl (s.extract 5 (4 + m))) D.out W3 hx3 (by omega) hl3 (by omega) (by rw [zAH]; exact grownCap_ge _ _ _ _) (by rw [zAH]; omega) x0 x1 hn OK.out
 rw [zAH, hds] at UC
 have UC := Lib.hid UC
 have Z2 := Lib.hid z2
 have X2 := Lib.hid hW2
 have X3 := Lib.hid hW3
 have Q3 := Lib.hid hq3
 have B3 := Lib.hid hb3
 have d0 : ¬ M < (m : Int) := by omega
 have w1 : IntKind.u64.wrap ((s.size : Nat) : Int) = (s.size : Int) := zKb _ (by omega)
 have w2 : IntKind.u64.wrap ((m : Nat) : Int) = (m : Int) := zKb _ (by omega)
 have w3 : IntKind.u64.wrap (4 + (m : Int)) = 4 + (m : Int) := zKb (4 + m) (by omega)
 have w4 : IntKind.u32.wrap (4 + (m : Int)) = 4 + (m : Int) := zOe (4 + m) (by omega)
 have d1 : ¬ (s.size : Int) < 4 + (m : Int) := by omega
 have d2 : ¬ (m : Int) < 1 := by omega
 clear hW2 hW3 hq1 hq2 hq3 hb1 hb2 hb3 hl2 hl3 hx3 b23 X0 Q0 B0 D OK z2
 generalize hD : s.extract 5 (4 + m) = dd at *
 go_wp2_with (first
  | (refine zAx 9 rfl ?_; rw [X2.out])
  | (refine wpList_allocTo rfl (some 9) rfl (.pointer (some ⟨W2.heap.size, 0, none⟩)) (.cells #[.int .u32 0, .slice none 0 0] 67) (by as_aux_lemma => kernel_rfl) ?_; rw [X3.out]))
 refine UC.out.mono ?_
 rintro e w4 ⟨v, rfl, hp, hk4, hu4⟩
 obtain ⟨A, c, hv, hP, hc⟩ := hp.shown
 subst hv
 have z4 := hu4.size
 have z2 := Z2.out
 have hne : w.heap.size < W2.heap.size := by omega
 have hq4 := (hu4.block w.heap.size (zAB Q3.out) (by omega)).trans Q3.out
 have hb4 : Below w.heap.size w w4 := ⟨hu4.os.trans B3.out.os, hu4.tape.trans B3.out.tape, hu4.output.trans B3.out.output, Nat.le_trans B3.out.size z4, fun k hk => (hu4.block k (by have := B3.out.size; omega) (by omega)).trans (B3.out.block k hk)⟩
 have EC := Lib.hid (zNB A l.length c l w4.drew rfl hn (fun k e he => by obtain ⟨x, p, q, e1, e2, e3, e4⟩ := hP k e he; exact ⟨x, p, q, e1, e2, (cell_kept rfl).trans e3, e4⟩))
 have K4 := Lib.hid hk4
 have Q4 := Lib.hid hq4
 have B4 := Lib.hid hb4
 clear UC hp hk4 hu4 hP hq4 hb4 Q3 B3 X2 X3 z2 hds
 go_wp2_with fail
 refine wp_region_held_drew (S := fun w' => w'.heap[W2.heap.size]? = some (.cells #[.int .u32 x, .slice A l.length c] 67 (0, 0))) (by kernel_rfl) K4.out (fun hHeld => ?_)
 refine tkE 52 0 (.pointer (some ⟨W2.heap.size, 0, none⟩)) hHeld ?_
 try simp only [zAJ]
 refine tkY 53 1 (.int .u32 x) rfl (zAS (by rfl) 22 _ rfl zC8 W2.heap.size 0 (by rfl) _ _ (0, 0) _ (fun _ h => h) rfl) hHeld ?_
 try simp only [zAJ]
 refine tkE 54 2 (.pointer (some ⟨W2.heap.size, 1, none⟩)) hHeld ?_
 try simp only [zAJ]
 refine tkY 55 3 (.slice A l.length c) rfl (zAS (by rfl) 61 _ rfl zJ9 W2.heap.size 1 (by rfl) _ _ (0, 0) _ (fun _ h => h) rfl) hHeld ?_
 try simp only [zAJ]
 refine wpAnyH_ready (rs := [4]) (by kernel_rfl) (by simp) (AllReadyH.cons rfl (fun K hK => ?_) AllReadyH.nil)
 rw [if_pos (by rfl)]
 go_wp2_with (go_at_call 56; refine EC.out.mono ?_; rintro e w5 ⟨u, rfl, hR, hb5⟩)
 obtain ⟨A5, c5, rfl, hS⟩ := zJa hR
 have z5 : w4.heap.size ≤ w5.heap.size := hb5.size
 have q5 : w5.heap[w.heap.size]? = some (.cells pZero 29 (0, 0)) := (hb5.block w.heap.size (zAB Q4.out)).trans Q4.out
 have b5 : Below w.heap.size w w5 := (zAi B4.out).trans (hb5.mono B4.out.size)
 refine hK.out _ _ ((hb5.block _ (zAB hHeld)).trans hHeld) (fun hHeld => ?_)
 clear hK K
 try simp only [zAJ]
 refine tkY 57 5 (.agg (pkC (pG 2 x l) none 0 none 0 A5 c5)) rfl (Or.inl ⟨by rfl, fun _ _ => by first | rfl | kernel_rfl⟩) hHeld ?_
 try simp only [zAJ]
 refine wpAnyH_ready (rs := [6]) (by kernel_rfl) (by simp) (AllReadyH.cons rfl (fun K hK => ?_) AllReadyH.nil)
 rw [if_pos (by rfl)]
 refine wp_store_row 29 _ _ rfl w.heap.size (pkC (pG 2 x l) none 0 none 0 A5 c5) (by rfl) (by rfl) 29 pZero q5 zAo rfl (zCs _ _ _ _ _ _ _) ?_
 refine hK.out _ _ (by rw [setRow_other _ _ _ _ (by omega)]; exact hHeld) (fun hHeld => ?_)
 clear hK K
 try simp only [zAJ]
 refine tkE 5 7 (.int .i64 0) hHeld ?_
 try simp only [zAJ]
 clear hHeld
 have q6 : (w5.setRow w.heap.size (pkC (pG 2 x l) none 0 none 0 A5 c5)).heap[w.heap.size]? = some (.cells (pkC (pG 2 x l) none 0 none 0 A5 c5) 29 (0, 0)) := zAe q5
 have b6 : Below w.heap.size w (w5.setRow w.heap.size (pkC (pG 2 x l) none 0 none 0 A5 c5)) := ⟨b5.os, b5.tape, b5.output, by rw [setRow_size]; exact b5.size, fun j hj => by rw [setRow_other _ _ _ _ (by omega)]; exact b5.block j hj⟩
 have o6 : ∀ V : World, (∀ j, w.heap.size ≤ j → j < (w5.setRow w.heap.size (pkC (pG 2 x l) none 0 none 0 A5 c5)).heap.size → V.heap[j]? = (w5.setRow w.heap.size (pkC (pG 2 x l) none 0 none 0 A5 c5)).heap[j]?) → SlE V A5 c5 l := fun V hV => hS V (fun j hj1 hj2 => by
  have hj1' : w4.heap.size ≤ j := hj1
  rw [hV j (by have := B4.out.size; omega) (by rw [setRow_size]; exact hj2), setRow_other _ _ _ _ (by have := zAB Q4.out; omega)])
 have Q6 := Lib.hid q6
 have B6 := Lib.hid b6
 have O6 := Lib.hid o6
 clear q5 b5 q6 b6 o6 hS hR hb5 EC K4 Q4 B4
 generalize w5.setRow w.heap.size (pkC (pG 2 x l) none 0 none 0 A5 c5) = W6 at *
 refine wpAnyH_done (by kernel_rfl) ?_ _
 go_wp2_with fail
 refine bodyPost_ret (results_ct Tryz.results29 _ _ w.heap.size 29 (pkC (pG 2 x l) none 0 none 0 A5 c5) (0, 0) _ _ rfl rfl Q6.out Tryz.underlying29 rfl zAo) rfl ?_
 exact ⟨_, rfl, fun V _ hV => ⟨none, 0, none, 0, A5, c5, rfl, zBm V rfl, zCY V rfl, O6.out V hV⟩, B6.out⟩
theorem zKd (p : Pk) (s : ByteArray) (M x : Int) (w : World) (hi : ∀ w : World, (Instr.index 9 (.string s) (.int .i64 4)).run Tryz.prog w = .ok (.int .u8 x) w) (h4 : 4 < s.size) (hs : s.size ≤ 1000000000) (hC : ∀ W, Calls Tryz.prog 29 #[.string s, .int .u32 M] W (zGt p W)) (hx : x = 1 ∨ x = 2) :
  Calls Tryz.prog 11 #[.string s, .int .u32 M] w (zHn p w) := by
 have hmf : ∀ (fn : Fn) (first cap : Array Value) (w : World), (Instr.makeFunc fn first cap).run Tryz.prog w = .ok (.func fn first cap) w := fun _ _ _ _ => rfl
 have i4 : (4 : Int) < (s.size : Int) := by omega
 obtain ⟨W0, hW0⟩ : ∃ W, (w.alloc (.cells pZero 29)).alloc (.cells #[.int .i64 0] 3) = W := ⟨_, rfl⟩
 have z0 : W0.heap[w.heap.size]? = some (.cells pZero 29 (0, 0)) := by rw [← hW0, heap_alloc_old _ _ (by simp)]; exact heap_alloc_new _ _
 have z1 : W0.heap[w.heap.size + 1]? = some (.cells #[.int .i64 0] 3 (0, 0)) := by
  rw [← hW0]
  have := heap_alloc_new (w.alloc (.cells pZero 29)) (.cells #[.int .i64 0] 3 (0, 0))
  rwa [show (w.alloc (.cells pZero 29)).heap.size = w.heap.size + 1 from by simp] at this
 have b0 : Below w.heap.size w W0 := by rw [← hW0]; exact ((Below.refl _ _).alloc (Nat.le_refl _) _).alloc (by simp) _
 have C := Lib.hid (hC W0)
 have X0 := Lib.hid hW0
 have Z0 := Lib.hid z0
 have Z1 := Lib.hid z1
 have B0 := Lib.hid b0
 clear hW0 z0 z1 b0 hC
 rcases hx with rfl | rfl
 all_goals
  go_enter_defers Tryz.func11, Tryz.ntmps11
  go_wp2_with (first
   | (refine wpList_allocTo rfl (some 4) rfl (.pointer (some ⟨w.heap.size, 0, none⟩)) (.cells pZero 29) (by as_aux_lemma => kernel_rfl) ?_)
   | (refine zAx 12 rfl ?_; rw [X0.out]))
  refine C.out.mono ?_
  rintro e w1 ⟨P, rfl, hP, hb⟩
  have l0 := zAB Z0.out
  have l1 := zAB Z1.out
  have y0 := (hb.block _ l0).trans Z0.out
  have y1 := (hb.block _ l1).trans Z1.out
  have yb : Below w.heap.size w w1 := B0.out.trans (hb.mono B0.out.size)
  have hP9 := hP.now
  obtain ⟨W6, hW6⟩ : ∃ W, w1.setRow w.heap.size P = W := ⟨_, rfl⟩
  have a6 : W6.heap[w.heap.size]? = some (.cells P 29 (0, 0)) := by rw [← hW6]; exact zAe y0
  have b6 : W6.heap[w.heap.size + 1]? = some (.cells #[.int .i64 0] 3 (0, 0)) := by rw [← hW6, setRow_other _ _ _ _ (by omega)]; exact y1
  have t6 : Below w.heap.size w W6 := by rw [← hW6]; exact ⟨yb.os, yb.tape, yb.output, by rw [setRow_size]; exact yb.size, fun k hk => by rw [setRow_other _ _ _ _ (by omega)]; exact yb.block k hk⟩
  have c6 : W6.cell? ⟨w.heap.size + 1, 0, none⟩ = some (.int .i64 0) := by rw [zAA b6]; rfl
  have f6 : W6.frozen? ⟨w.heap.size + 1, 0, none⟩ = false := zAP b6 0
  have hP7 : PkV (W6.setCell ⟨w.heap.size + 1, 0, none⟩ (.int .i64 0)) P p := by
   refine hP _ ?_ (fun k hk _ => ?_)
   ·rw [show (W6.setCell ⟨w.heap.size + 1, 0, none⟩ (.int .i64 0)).heap.size = W6.heap.size from by simp [World.setCell], ← hW6, setRow_size]
    exact Nat.le_refl _
   ·have hk' : W0.heap.size ≤ k := hk
    rw [Below.heap_setCell _ _ _ _ (by show k ≠ w.heap.size + 1; omega), ← hW6, setRow_other _ _ _ _ (by omega)]
  have V0 := Lib.hid y0
  have X6 := Lib.hid hW6
  have A6 := Lib.hid a6
  have T6 := Lib.hid t6
  have P7 := Lib.hid hP7
  have PI := Lib.hid (zDz hP9.size)
  have PS := Lib.hid (show P.size = pZero.size from hP9.size)
  have PO := Lib.hid hP9.one
  clear y0 y1 yb a6 b6 t6 hW6 Z0 Z1 B0 hb C X0 hP hP9 hP7
  go_wp2_with (refine wpList_store_row rfl 29 _ _ rfl w.heap.size P rfl rfl 29 pZero V0.out PI.out PS.out.symm PO.out ?_; rw [X6.out])
  refine leaves_cons (f := 28) (args := #[.pointer (some ⟨w.heap.size, 0, none⟩), .pointer (some ⟨w.heap.size + 1, 0, none⟩)]) (by simp) (by simp [go_sem]) ?_
  refine (zCx _ _ _).mono ?_
  rintro e u' w'' ⟨rfl, rfl, rfl⟩
  have r1 : (W6.setCell ⟨w.heap.size + 1, 0, none⟩ (.int .i64 0)).heap[w.heap.size]? = some (.cells P 29 (0, 0)) := by rw [Below.heap_setCell _ _ _ _ (by show w.heap.size ≠ w.heap.size + 1; omega)]; exact A6.out
  have r2 : (W6.setCell ⟨w.heap.size + 1, 0, none⟩ (.int .i64 0)).cell? ⟨w.heap.size + 1, 0, none⟩ = some (.int .i64 0) := zBV c6
  have hfin : Below w.heap.size w (W6.setCell ⟨w.heap.size + 1, 0, none⟩ (.int .i64 0)) := T6.out.setCell (by simp) _
  have hP7 := P7.out
  generalize W6.setCell ⟨w.heap.size + 1, 0, none⟩ (.int .i64 0) = W7 at *
  have hl : (loadVar 3 ⟨w.heap.size + 1, 0, none⟩).run Tryz.prog W7 = .ok (.int .i64 0) W7 := by simp [go_sem, r2]
  exact ⟨_, results_cc Tryz.results11 _ _ w.heap.size (w.heap.size + 1) 29 P (0, 0) _ _ rfl rfl r1 Tryz.underlying29 rfl PI.out hl, P, rfl, hP7, hfin⟩
theorem zLz (p : Pk) (s : Sound p) (b : ByteArray) (hb : tl b = zAy p) (hs : b.size ≤ 1000000000) (M : Int) (hM0 : 0 ≤ M) (hM : M ≤ 1000000000) (hle : ((inner p).length : Int) ≤ M) (w : World) :
  Calls Tryz.prog 11 #[.string b, .int .u32 M] w (zHn p w) := by
 by_cases h12 : p.f0 = 1 ∨ p.f0 = 2
 ·obtain ⟨hi, h4⟩ := zND p s b [] (by rw [List.append_nil]; exact hb)
  have hl := s.inner_len
  obtain ⟨_, ⟨i0, i1⟩, _, _, _, _, _, _, _, _, _, _, ⟨v0, v1⟩, _⟩ := s.g
  have hsz : b.size = 4 + (inner p).length := by rw [← zAH, hb, zBv, List.length_append, zAg]
  have hrd : zBz (tl b) = ((inner p).length : Int) := by rw [hb, zBv, zC9 _ _ (by omega) (by omega)]
  have hd : tl (b.extract 5 (4 + (inner p).length)) = zAQ p.f12 ++ exB (p.f11.map zAY) := by
   rw [zIG, hb, zBv, List.take_of_length_le (by rw [List.length_append, zAg]; exact Nat.le_refl _)]
   unfold inner
   rw [if_pos h12]
   rfl
  have hx := s.ex11
  have hn := s.ok.n11
  have hp : p = pG p.f0 p.f12 p.f11 := s.ok.only.trans (by unfold zBJ zAc; rw [if_pos h12]; rfl)
  have hG : ∀ W, Calls Tryz.prog 29 #[.string b, .int .u32 M] W (zGt p W) := by
   intro W
   have hok : ∀ e ∈ p.f11, e.f0.size ≤ 1000000 ∧ e.f1.size ≤ 1000000 := fun e he => by
    have hs := s.ok.sz
    unfold zDY at hs
    rw [zCT] at hs
    have := zEr p.f11 e he
    omega
   rcases h12 with h | h
   ·rw [h] at hi hp
    have := zKc p.f12 p.f11 b M (inner p).length W hs hM hrd hl.1 hle (by omega) (by omega) hd hi v0 v1 (by omega) hok
    rw [← hp] at this
    exact this
   ·rw [h] at hi hp
    have := zGu p.f12 p.f11 b M (inner p).length W hs hM hrd hl.1 hle (by omega) (by omega) hd hi v0 v1 (by omega) hok
    rw [← hp] at this
    exact this
  exact zKd p b M p.f0 w hi h4 hs hG h12
 ·exact zMm p s h12 b [] (by rw [List.append_nil]; exact hb) hs M hM0 hM hle w
theorem zMA (p : Pk) (s : Sound p) {w : World} {P Q : Array Value} (hP : PkV w P p) (hQ : PkV w Q p) : Calls Tryz.prog 12 #[.agg P, .agg Q] w fun r w' => r = .returned (.bool true) ∧ Below w.heap.size w w' := by
 obtain ⟨A1, c1, A2, c2, A3, c3, rfl, h1, h2, h3⟩ := hP
 obtain ⟨B1, d1, B2, d2, B3, d3, rfl, g1, g2, g3⟩ := hQ
 have h9 := zDr s.ok.told
 refine (zMx p p A1 c1 A2 c2 A3 c3 B1 d1 B2 d2 B3 d3 w h1 g1 h2 g2 h3 g3 (by omega) (by have := s.ok.n10; omega) (by have := s.ok.n11; omega) (fun e he => by have := zDr (s.ok.ntold e he); omega)).mono ?_
 rintro e w' ⟨rfl, hb⟩
 exact ⟨by rw [eqB_iff.2 rfl], hb⟩
theorem Sound.inner_small {p : Pk} (s : Sound p) : (inner p).length ≤ 200000 := by
 have h1 := s.body
 have hs := s.ok.sz
 unfold zDY at hs
 rw [zCT] at hs
 have h8 := s.ok.n11
 unfold inner
 rw [List.length_cons]
 split
 ·rw [List.length_append, zAg, zDk]; omega
 ·rw [List.length_append, zAg]; omega
theorem zMB (p : Pk) (A1 : Option Addr) (c1 : Nat) (A2 : Option Addr) (c2 : Nat) (A3 : Option Addr) (c3 : Nat) (w : World) (k1 : SlE w A1 c1 p.f9.f7) (k2 : SlN w A2 c2 p.f10) (k3 : SlE w A3 c3 p.f11) (g : zE2 p) :
  Calls Tryz.prog 3 #[.agg (pkC p A1 c1 A2 c2 A3 c3)] w fun r w' => r = .returned (.bool true) ∧ Below w.heap.size w w' := by
 obtain ⟨hb0, k0⟩ := zO8 w (pkC p A1 c1 A2 c2 A3 c3)
 generalize hW0 : w.alloc (.cells (pkC p A1 c1 A2 c2 A3 c3) 29) = W0 at *
 have C := zO9 p A1 c1 A2 c2 A3 c3 W0 (k1.below hb0) (k2.below hb0) (k3.below hb0)
 have PC := Lib.hid (fun (fp : zMa p) (W : World) h1 h2 h3 => zMc p A1 c1 A2 c2 A3 c3 W h1 h2 h3 fp)
 have WC := Lib.hid (fun (s : Sound p) (W : World) h1 h2 h3 => zLd p s A1 c1 A2 c2 A3 c3 W h1 h2 h3)
 have PI : (Tryz.prog.info? 29).map (·.size) = some (pkC p A1 c1 A2 c2 A3 c3).size := zAo
 have PV := Lib.hid (fun (W : World) (h1 : SlE W A1 c1 p.f9.f7) (h2 : SlN W A2 c2 p.f10) (h3 : SlE W A3 c3 p.f11) => (⟨A1, c1, A2, c2, A3, c3, rfl, h1, h2, h3⟩ : PkV W (pkC p A1 c1 A2 c2 A3 c3) p))
 generalize pkC p A1 c1 A2 c2 A3 c3 = P at *
 have C := Lib.hid C
 have X0 := Lib.hid hW0
 have B0 := Lib.hid hb0
 have K0 := Lib.hid k0
 have R0 := Lib.hid (And.intro (k1.below hb0) (And.intro (k2.below hb0) (k3.below hb0)))
 have PI := Lib.hid PI
 clear hW0 hb0 k0 k1 k2 k3
 go_enter Tryz.func3, Tryz.ntmps3
 go_wp2_with (first
  | (refine wpList_boxTo rfl 29 _ rfl (some 1) rfl w.heap.size rfl P rfl ?_; rw [X0.out])
  | refine wpList_load_row rfl 29 _ rfl w.heap.size rfl 29 P (0, 0) _ K0.out Tryz.underlying29 rfl PI.out ?_)
 refine C.out.mono ?_
 rintro r w1 ⟨⟨fit, rfl, hfit⟩, hb1⟩
 have z0 := zAB K0.out
 have k1 := (hb1.block _ z0).trans K0.out
 have hB1 : Below w.heap.size w w1 := B0.out.trans (hb1.mono B0.out.size)
 have r1 := And.intro (R0.out.1.below hb1) (And.intro (R0.out.2.1.below hb1) (R0.out.2.2.below hb1))
 have B1 := Lib.hid hB1
 have K1 := Lib.hid k1
 have R1 := Lib.hid r1
 clear hb1 hB1 k1 r1 C X0 B0 K0 R0 z0
 cases fit with
 | false =>
  go_wp2_with fail
  go_ret
  exact ⟨rfl, B1.out⟩
 | true =>
  have Q := Lib.hid (PC.out (hfit rfl) w1 R1.out.1 R1.out.2.1 R1.out.2.2)
  clear hfit PC
  go_wp2_with (refine wpList_load_row rfl 29 _ rfl w.heap.size rfl 29 P (0, 0) _ K1.out Tryz.underlying29 rfl PI.out ?_)
  refine Q.out.mono ?_
  rintro r w2 ⟨⟨r, rfl, hyes⟩, hb2⟩
  have z1 := zAB K1.out
  have k2 := (hb2.block _ z1).trans K1.out
  have hB2 : Below w.heap.size w w2 := B1.out.trans (hb2.mono B1.out.size)
  have B2 := Lib.hid hB2
  have K2 := Lib.hid k2
  have R2 := Lib.hid (And.intro (R1.out.1.below hb2) (And.intro (R1.out.2.1.below hb2) (R1.out.2.2.below hb2)))
  clear hb2 hB2 k2 Q B1 K1 R1 z1
  cases r with
  | false =>
   go_wp2_with fail
   go_ret
   exact ⟨rfl, B2.out⟩
  | true =>
   have S : Sound p := ⟨hyes rfl, g⟩
   have WR := Lib.hid (WC.out S w2 R2.out.1 R2.out.2.1 R2.out.2.2)
   clear hyes WC g
   have hbig := zLe p S
   have hin := S.inner_small
   have hsz : (bs (zAy p)).size = (zAy p).length := by simp [bs, ByteArray.size]
   have RA := Lib.hid (fun (w : World) => zLz p S (bs (zAy p)) (zNy _) (by rw [hsz]; omega) 1048576 (by omega) (by omega) (by omega) w)
   have SS := Lib.hid (fun (W : World) (P Q : Array Value) (h : PkV W P p) (h' : PkV W Q p) => zMA p S h h')
   have PV2 := Lib.hid (PV.out w2 R2.out.1 R2.out.2.1 R2.out.2.2)
   clear S PV R2 hin hsz
   generalize zAy p = L at *
   go_wp2_with (refine wpList_load_row rfl 29 _ rfl w.heap.size rfl 29 P (0, 0) _ K2.out Tryz.underlying29 rfl PI.out ?_)
   refine WR.out.mono ?_
   rintro r w3 ⟨rfl, hb3⟩
   have B3 := Lib.hid (B2.out.trans (hb3.mono B2.out.size))
   have K3 := Lib.hid ((hb3.block _ (zAB K2.out)).trans K2.out)
   have PV3 := Lib.hid (PkV.below PV2.out hb3)
   have RN := Lib.hid (RA.out w3)
   clear hb3 WR B2 K2 PV2 RA
   go_wp2_with fail
   refine RN.out.mono ?_
   rintro r w4 ⟨Q, rfl, hQ, hb4⟩
   have QS : Q.size = pZero.size := hQ.size
   have QO := hQ.one
   have QI := zDz hQ.size
   obtain ⟨W5, hW5⟩ : ∃ W, w4.alloc (.cells pZero 29) = W := ⟨_, rfl⟩
   obtain ⟨W6, hW6⟩ : ∃ W, W5.setRow w4.heap.size Q = W := ⟨_, rfl⟩
   have k5 : W5.heap[w4.heap.size]? = some (.cells pZero 29 (0, 0)) := by rw [← hW5]; exact heap_alloc_new _ _
   have k6 : W6.heap[w4.heap.size]? = some (.cells Q 29 (0, 0)) := by rw [← hW6]; exact zAe k5
   have b46 : Below w4.heap.size w4 W6 := by rw [← hW6, ← hW5]; exact zBY (Below.refl _ _) (Nat.le_refl _) _ _ _
   have l3 := zAB K3.out
   have z4 := hb4.size
   have kp : W6.heap[w.heap.size]? = some (.cells P 29 (0, 0)) := (b46.block _ (by omega)).trans ((hb4.block _ l3).trans K3.out)
   have SC := Lib.hid (SS.out W6 P Q (PkV.below (PkV.below PV3.out hb4) b46) (hQ.below b46))
   have X5 := Lib.hid hW5
   have X6 := Lib.hid hW6
   have K5 := Lib.hid k5
   have K6 := Lib.hid k6
   have KP := Lib.hid kp
   have B6 := Lib.hid (B3.out.trans ((hb4.mono B3.out.size).trans (b46.mono (Nat.le_trans B3.out.size z4))))
   have QS := Lib.hid QS
   have QO := Lib.hid QO
   have QI := Lib.hid QI
   clear hW5 hW6 k5 k6 kp b46 z4 l3 hb4 hQ RN B3 K3 PV3 SS
   go_wp2_with (first
    | (go_at_call 12; refine SC.out.mono ?_; rintro e w7 ⟨rfl, hb7⟩)
    | (go_at_call 13; refine (zOI _).mono ?_; rintro e w' ⟨rfl, hb⟩)
    | (refine wpList_allocTo rfl (some 5) rfl (.pointer (some ⟨w4.heap.size, 0, none⟩)) (.cells pZero 29) (by as_aux_lemma => kernel_rfl) ?_; rw [X5.out])
    | (refine wpList_store_row rfl 29 _ _ rfl w4.heap.size Q rfl rfl 29 pZero K5.out QI.out QS.out.symm QO.out ?_; rw [X6.out])
    | refine zCm (by rfl) 29 _ rfl w.heap.size rfl 29 P (0, 0) _ KP.out Tryz.underlying29 rfl PI.out ?_
    | refine zCm (by rfl) 29 _ rfl w4.heap.size rfl 29 Q (0, 0) _ K6.out Tryz.underlying29 rfl QI.out ?_)
   go_ret
   exact ⟨rfl, (B6.out.trans (hb7.mono B6.out.size)).trans (hb.mono (Nat.le_trans B6.out.size hb7.size))⟩
theorem zNs (cs : Array Value) (y : Pk) (W : World) (hK : k29.K W y cs.toList) (hG : zE2 y) :
  Calls Tryz.prog 3 #[.agg cs] W fun r w' => r = .returned (.bool true) ∧ Below W.heap.size W w' := by
 obtain ⟨A1, c1, A2, c2, A3, c3, rfl, h1, h2, h3⟩ := zMg hK
 exact zMB y A1 c1 A2 c2 A3 c3 W h1 h2 h3 hG
end Go.Proofs.YtgnficcjnijdbaaGreat
namespace Go.Proofs.YtgnficcjnijdbaaGreat
open Go.RowKit Go.Great Go.ChangeShapes Go.WideShapes Go.ChangeAt Go.Proofs.YtgnficcjnijdbaaGreatW.PrintWords Go.Proofs.YtgnficcjnijdbaaGreat.KK
open Go.ChangeMaps (open_string shut_string)
theorem zKe : ownKnob Tryz.prog.godebug = none := by kernel_rfl
theorem zJJ : laidOutB Tryz.prog = true := by kernel_rfl
set_option maxRecDepth 100000 in
theorem zGv (os : Os) (started : os.Started) (H : Type) (enc : TypeId × Value → H) :
  ReturnsInHanded {} Tryz.checked os 3 .any (Rows.fnWireBackSpec.pre6 enc Tryz.prog Tryz.f3 Rows.fnWireBackRow.domain false) (Rows.fnWireBackSpec.post enc Tryz.prog Tryz.f3 false true false false) := by
 refine returnsInHanded_of_change (C := Tryz.checked) zKe started (by kernel_rfl) Tryz.func3
  (ChangeSpec.witness6 (enc := enc) (C := Tryz.checked) false ⟨#[], #[.agg pZero], []⟩ 8 (by kernel_rfl) (by kernel_rfl) (by kernel_rfl) (by kernel_rfl)) ?_
 intro W base args ds gs before hval0 hW hcnd _
 have hval : ∀ (j : Nat) t v, Tryz.f3.params[j]? = some t → args[j]? = some v → Value.okWide Tryz.prog W .any base t v := hval0
 have hW' := hW
 have hlt : ∀ x ∈ before, x.block < W.heap.size := fun x hx => hW.lt x hx
 obtain ⟨p, q, hA0, hV, rfl, hfz, hnd⟩ := hW
 have hA : DataW.TrodAll enc Tryz.prog W 0 (fun _ => true) true Tryz.f3.params.toList args.toList ds p := hA0
 rw [Tryz.params3] at hA hval
 obtain ⟨v0, vs0, d0, ds0, p0, q0, hargs, rfl, rfl, h0, r0⟩ := trodAll_cons hA
 obtain ⟨rfl, rfl, rfl⟩ := trodAll_nil r0
 obtain rfl : args = #[v0] := by cases args; simp_all
 obtain ⟨rfl, rfl⟩ := trodVars_none hV
 simp only [List.append_nil] at hW' hlt
 obtain ⟨cs0, rfl, _⟩ := okWide_struct Tryz.underlying29 (hval 0 29 v0 rfl rfl)
 have t0 := h0
 obtain ⟨fuel0, hf0⟩ := h0
 obtain ⟨y0, hK0, hG0⟩ := opnPacket.out hf0
 clear hA0 hval0
 refine (zNs cs0 y0 W hK0 hG0).mono fun e W' ⟨he, hg⟩ => ?_
 subst he
 exact ⟨_, rfl, zFS (pa := _) (pv := []) hW' (fun _ _ _ => (trodAll_cons_mk (shut_bool Tryz.underlying4 _) trodAll_mk0))
  (fun sp hsp0 => by
   have hsp1 := hsp0
   have s0 := WideElems.Trod_stays zJJ (by kernel_rfl) (of_decide_eq_true (by kernel_rfl)) t0 (fun x hx => hg.same (hlt x (by simp [hx]))) (fun x hx => hsp0 x (by simp [hx]))
   have r := (trodAll_cons_mk (s0) trodAll_mk0)
   simp only [List.append_nil, List.nil_append] at r
   exact r) (fun _ _ => rfl) (by simp)
  hg (ok_one (by kernel_rfl) rfl (okWide_bool_mk Tryz.underlying4 _))⟩
theorem zIB : Tryz.pinned.checked.prog.funcNamed Rows.fnWireBackRow.func = some 3 := by kernel_rfl
theorem zIC : joinedFacts Tryz.pinned.checked.prog 3 Tryz.f3 Rows.fnWireBackSpec Rows.fnWireBackRow = true := by
 simp only [joinedFacts, Bool.and_eq_true]
 repeat' apply And.intro
 all_goals (as_aux_lemma => kernel_rfl)
theorem zJK : Tryz.f3.isInstance Tryz.pinned.checked.prog Rows.fnWireBackRow.origin Rows.fnWireBackRow.targs := of_decide_eq_true (by kernel_rfl)
theorem zJL : Tryz.f3.isWrapper Tryz.pinned.checked.prog Rows.fnWireBackRow.wrapper Rows.fnWireBackRow.mainSum := by
 unfold Func.isWrapper
 rw [if_neg (by decide +kernel)]
 exact ⟨rfl, rfl⟩
theorem backW_holds : Rows.FnWireBackSaid :=
 OpenClaim.holds_of_wide 3 Tryz.f3 rfl rfl rfl rfl rfl rfl rfl ⟨rfl, rfl, rfl, rfl, rfl⟩ rfl rfl rfl rfl rfl zIB Tryz.func3 zIC zJK zJL
  (fun os started H enc _ => zGv os started H enc)
end Go.Proofs.YtgnficcjnijdbaaGreat
