/-
  Contracts of the statvfs packet: its eleven numbers written and read.
-/
import Derived.Test.YtmenkckgpiafiaaGreatM
import Derived.Lib.JoinLaws
import Derived.Great.Walk
namespace Go.Proofs.YtmenkckgpiafiaaGreat
open Go.RowKit Go.Great

/-- The numbers X 0, X 1, .. as bytes. -/
def vl (X : Nat → Int) : Nat → List UInt8
  | 0 => []
  | n + 1 => vl X n ++ be64 (X n)
theorem be64_len (x : Int) : (be64 x).length = 8 := by simp [be64, be32]
theorem vl_len (X : Nat → Int) : ∀ n, (vl X n).length = 8 * n
  | 0 => rfl
  | n + 1 => by rw [vl, List.length_append, vl_len X n, be64_len]; omega

set_option maxRecDepth 5000 in
set_option maxHeartbeats 1600000 in
theorem vfsInto (base q g : Nat) (v0 : Value) (X : Nat → Int) (w0 : World) (hb : MBuf base w0 g v0 []) (hq : q < base) (hbs : base ≤ w0.heap.size) (hX : ∀ i, 0 ≤ X i ∧ X i ≤ 18446744073709551615)
    (hc : ∀ i, i < 11 → w0.cell? ⟨q, i, none⟩ = some (.int .u64 (X i))) :
    Calls Tryz.prog 126 #[.pointer (some ⟨q, 0, none⟩), .pointer (some ⟨g, 0, none⟩)] w0 fun e w' => e = .returned (.tuple #[]) ∧ ∃ v', MBuf base w' g v' (vl X 11) ∧ Below base w0 w' := by
  have M0 := Lib.hid hb
  have C0 := Lib.hid hc
  have B0 := Lib.hid (Below.refl base w0)
  have HX := Lib.hid hX
  clear hb hc hX
  go_enter Tryz.func126, Tryz.ntmps126
  have c0 := C0.out 0 (by omega)
  go_wp2_with fail
  refine (append64 base g v0 (vl X 0) (X 0) w0 M0.out (HX.out 0).1 (HX.out 0).2 (by rw [vl_len]; omega)).mono ?_
  rintro e w1 ⟨rfl, v1, m, u, _⟩
  have hb1 := M0.out.below u
  have C1 := Lib.hid (fun i (hi : i < 11) => cell_below (a := ⟨q, i, none⟩) hb1 hq (C0.out i hi))
  have B1 := Lib.hid (B0.out.trans hb1)
  have M1 := Lib.hid m
  clear c0 m u hb1 M0 C0 B0
  have c1 := C1.out 1 (by omega)
  go_wp2_with fail
  refine (append64 base g v1 (vl X 1) (X 1) w1 M1.out (HX.out 1).1 (HX.out 1).2 (by rw [vl_len]; omega)).mono ?_
  rintro e w2 ⟨rfl, v2, m, u, _⟩
  have hb2 := M1.out.below u
  have C2 := Lib.hid (fun i (hi : i < 11) => cell_below (a := ⟨q, i, none⟩) hb2 hq (C1.out i hi))
  have B2 := Lib.hid (B1.out.trans hb2)
  have M2 := Lib.hid m
  clear c1 m u hb2 M1 C1 B1
  have c2 := C2.out 2 (by omega)
  go_wp2_with fail
  refine (append64 base g v2 (vl X 2) (X 2) w2 M2.out (HX.out 2).1 (HX.out 2).2 (by rw [vl_len]; omega)).mono ?_
  rintro e w3 ⟨rfl, v3, m, u, _⟩
  have hb3 := M2.out.below u
  have C3 := Lib.hid (fun i (hi : i < 11) => cell_below (a := ⟨q, i, none⟩) hb3 hq (C2.out i hi))
  have B3 := Lib.hid (B2.out.trans hb3)
  have M3 := Lib.hid m
  clear c2 m u hb3 M2 C2 B2
  have c3 := C3.out 3 (by omega)
  go_wp2_with fail
  refine (append64 base g v3 (vl X 3) (X 3) w3 M3.out (HX.out 3).1 (HX.out 3).2 (by rw [vl_len]; omega)).mono ?_
  rintro e w4 ⟨rfl, v4, m, u, _⟩
  have hb4 := M3.out.below u
  have C4 := Lib.hid (fun i (hi : i < 11) => cell_below (a := ⟨q, i, none⟩) hb4 hq (C3.out i hi))
  have B4 := Lib.hid (B3.out.trans hb4)
  have M4 := Lib.hid m
  clear c3 m u hb4 M3 C3 B3
  have c4 := C4.out 4 (by omega)
  go_wp2_with fail
  refine (append64 base g v4 (vl X 4) (X 4) w4 M4.out (HX.out 4).1 (HX.out 4).2 (by rw [vl_len]; omega)).mono ?_
  rintro e w5 ⟨rfl, v5, m, u, _⟩
  have hb5 := M4.out.below u
  have C5 := Lib.hid (fun i (hi : i < 11) => cell_below (a := ⟨q, i, none⟩) hb5 hq (C4.out i hi))
  have B5 := Lib.hid (B4.out.trans hb5)
  have M5 := Lib.hid m
  clear c4 m u hb5 M4 C4 B4
  have c5 := C5.out 5 (by omega)
  go_wp2_with fail
  refine (append64 base g v5 (vl X 5) (X 5) w5 M5.out (HX.out 5).1 (HX.out 5).2 (by rw [vl_len]; omega)).mono ?_
  rintro e w6 ⟨rfl, v6, m, u, _⟩
  have hb6 := M5.out.below u
  have C6 := Lib.hid (fun i (hi : i < 11) => cell_below (a := ⟨q, i, none⟩) hb6 hq (C5.out i hi))
  have B6 := Lib.hid (B5.out.trans hb6)
  have M6 := Lib.hid m
  clear c5 m u hb6 M5 C5 B5
  have c6 := C6.out 6 (by omega)
  go_wp2_with fail
  refine (append64 base g v6 (vl X 6) (X 6) w6 M6.out (HX.out 6).1 (HX.out 6).2 (by rw [vl_len]; omega)).mono ?_
  rintro e w7 ⟨rfl, v7, m, u, _⟩
  have hb7 := M6.out.below u
  have C7 := Lib.hid (fun i (hi : i < 11) => cell_below (a := ⟨q, i, none⟩) hb7 hq (C6.out i hi))
  have B7 := Lib.hid (B6.out.trans hb7)
  have M7 := Lib.hid m
  clear c6 m u hb7 M6 C6 B6
  have c7 := C7.out 7 (by omega)
  go_wp2_with fail
  refine (append64 base g v7 (vl X 7) (X 7) w7 M7.out (HX.out 7).1 (HX.out 7).2 (by rw [vl_len]; omega)).mono ?_
  rintro e w8 ⟨rfl, v8, m, u, _⟩
  have hb8 := M7.out.below u
  have C8 := Lib.hid (fun i (hi : i < 11) => cell_below (a := ⟨q, i, none⟩) hb8 hq (C7.out i hi))
  have B8 := Lib.hid (B7.out.trans hb8)
  have M8 := Lib.hid m
  clear c7 m u hb8 M7 C7 B7
  have c8 := C8.out 8 (by omega)
  go_wp2_with fail
  refine (append64 base g v8 (vl X 8) (X 8) w8 M8.out (HX.out 8).1 (HX.out 8).2 (by rw [vl_len]; omega)).mono ?_
  rintro e w9 ⟨rfl, v9, m, u, _⟩
  have hb9 := M8.out.below u
  have C9 := Lib.hid (fun i (hi : i < 11) => cell_below (a := ⟨q, i, none⟩) hb9 hq (C8.out i hi))
  have B9 := Lib.hid (B8.out.trans hb9)
  have M9 := Lib.hid m
  clear c8 m u hb9 M8 C8 B8
  have c9 := C9.out 9 (by omega)
  go_wp2_with fail
  refine (append64 base g v9 (vl X 9) (X 9) w9 M9.out (HX.out 9).1 (HX.out 9).2 (by rw [vl_len]; omega)).mono ?_
  rintro e w10 ⟨rfl, v10, m, u, _⟩
  have hb10 := M9.out.below u
  have C10 := Lib.hid (fun i (hi : i < 11) => cell_below (a := ⟨q, i, none⟩) hb10 hq (C9.out i hi))
  have B10 := Lib.hid (B9.out.trans hb10)
  have M10 := Lib.hid m
  clear c9 m u hb10 M9 C9 B9
  have c10 := C10.out 10 (by omega)
  go_wp2_with fail
  refine (append64 base g v10 (vl X 10) (X 10) w10 M10.out (HX.out 10).1 (HX.out 10).2 (by rw [vl_len]; omega)).mono ?_
  rintro e w11 ⟨rfl, v11, m, u, _⟩
  have hb11 := M10.out.below u
  have C11 := Lib.hid (fun i (hi : i < 11) => cell_below (a := ⟨q, i, none⟩) hb11 hq (C10.out i hi))
  have B11 := Lib.hid (B10.out.trans hb11)
  have M11 := Lib.hid m
  clear c10 m u hb11 M10 C10 B10
  go_wp2_with fail
  go_end0
  exact ⟨rfl, v11, M11.out, B11.out⟩

/-- Buffer.Bytes at a marshalling buffer. -/
theorem bytesM (base g : Nat) (v : Value) (l : List UInt8) (w : World) (hb : MBuf base w g v l) (hl0 : 0 < l.length) (hl : l.length ≤ 1000000000) :
    Calls Tryz.prog 106 #[.pointer (some ⟨g, 0, none⟩)] w fun e w' => e = .returned v ∧ ∃ k, w' = w.drewN k := by
  obtain ⟨h, c, rfl⟩ := own_form hb.own hl0
  have h0 : w.cell? ⟨g, 0, none⟩ = some (.slice (some ⟨h, 0, none⟩) l.length c) := hb.cell
  have h1 : w.cell? ⟨g, 1, none⟩ = some (.int .i64 0) := by rw [cell_of_blk hb.blk]; rfl
  have hc : ¬ (c = 0) := by
    obtain ⟨_, h | ⟨g', cap, cur, e, _, _, hcap, _⟩⟩ := hb.own
    · cases h.1
    · injection e with _ _ e3; omega
  clear hb
  go_enter Tryz.func106, Tryz.ntmps106
  go_wp2_with fail
  go_quiet (fail)
  go_wp2_with fail
  go_ret
  exact ⟨rfl, _, rfl⟩

set_option maxHeartbeats 1600000 in
theorem vfsMarshal (q : Nat) (X : Nat → Int) (w : World) (hq : q < w.heap.size) (hX : ∀ i, 0 ≤ X i ∧ X i ≤ 18446744073709551615) (hc : ∀ i, i < 11 → w.cell? ⟨q, i, none⟩ = some (.int .u64 (X i))) :
    Calls Tryz.prog 79 #[.pointer (some ⟨q, 0, none⟩)] w fun e w' => ∃ v, e = .returned (.tuple #[v, .nilIface]) ∧ w'.ownsRow w.heap.size 5 1 v (vl X 11).length (u8s (vl X 11)) ∧ Below w.heap.size w w' := by
  have hmk : (Instr.makeSlice 93 (.int .i64 0) (.int .i64 88)).run Tryz.prog w = .ok (.slice (some ⟨w.heap.size, 0, none⟩) 0 88) (w.alloc (.cells (madeCells #[.int .u8 0] 88) 5)) :=
    run_make_room 93 5 (.int .u8 0) 1 Tryz.underlying93 info8 rfl .i64 .i64 88 (by omega) (by omega) w
  have hown : (w.alloc (.cells (madeCells #[.int .u8 0] 88) 5)).ownsRow w.heap.size 5 1 (.slice (some ⟨w.heap.size, 0, none⟩) 0 88) 0 (u8s []) :=
    ⟨rfl, .inr ⟨w.heap.size, 88, madeCells #[.int .u8 0] 88, rfl, Nat.le_refl _, heap_alloc_new _ _, by omega, by decide, by simp [size_madeCells], by simp [u8s]⟩⟩
  have hbl : Below w.heap.size w (w.alloc (.cells (madeCells #[.int .u8 0] 88) 5)) := (Below.refl _ _).alloc (Nat.le_refl _) _
  have hsz : (w.alloc (.cells (madeCells #[.int .u8 0] 88) 5)).heap.size = w.heap.size + 1 := by simp
  generalize w.alloc (.cells (madeCells #[.int .u8 0] 88) 5) = W0 at hmk hown hbl hsz
  have O := Lib.hid hown
  have B := Lib.hid hbl
  have S := Lib.hid hsz
  have C := Lib.hid hc
  have HX := Lib.hid hX
  clear hown hbl hsz hc hX
  go_enter Tryz.func79, Tryz.ntmps79
  go_wp2_with fail
  refine (newBuffer _ _ _ _).mono ?_
  rintro e w1 ⟨rfl, hw1⟩
  have hsz := S.out
  have hM : MBuf w.heap.size w1 W0.heap.size (.slice (some ⟨w.heap.size, 0, none⟩) 0 88) [] := by
    rw [← hw1]
    refine ⟨heap_alloc_new _ _, O.out.alloc _, by omega, ?_⟩
    intro e
    have := Option.some.inj e
    simp at this
    omega
  have hB1 : Below w.heap.size w w1 := by rw [← hw1]; exact B.out.alloc (by omega) _
  have M := Lib.hid hM
  have B1 := Lib.hid hB1
  have C1 := Lib.hid (fun i (hi : i < 11) => cell_below (a := ⟨q, i, none⟩) hB1 hq (C.out i hi))
  clear hM hB1 hw1 O B S C hsz hmk
  go_wp2_with fail
  refine (vfsInto w.heap.size q W0.heap.size _ X w1 M.out hq B1.out.size HX.out C1.out).mono ?_
  rintro e w2 ⟨rfl, v', m, hb⟩
  have M2 := Lib.hid m
  have B2 := Lib.hid (B1.out.trans hb)
  clear m hb M B1 C1
  go_wp2_with fail
  refine (bytesM w.heap.size W0.heap.size v' (vl X 11) w2 M2.out (by rw [vl_len]; omega) (by rw [vl_len]; omega)).mono ?_
  rintro e w3 ⟨rfl, k, hw3⟩
  have F := Lib.hid (show w3.ownsRow w.heap.size 5 1 v' (vl X 11).length (u8s (vl X 11)) from by rw [hw3]; exact M2.out.own)
  have B3 := Lib.hid (show Below w.heap.size w w3 from by rw [hw3]; exact ⟨B2.out.os, B2.out.tape, B2.out.output, B2.out.size, B2.out.block⟩)
  clear hw3 M2 B2
  go_wp2_with fail
  go_ret2
  exact ⟨v', rfl, F.out, B3.out⟩
end Go.Proofs.YtmenkckgpiafiaaGreat
