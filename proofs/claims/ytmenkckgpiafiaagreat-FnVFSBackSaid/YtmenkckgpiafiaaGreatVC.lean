/-
  impl.VFSRead at what VFSWrite writes.
-/
import Derived.Test.YtmenkckgpiafiaaGreatVB
namespace Go.Proofs.YtmenkckgpiafiaaGreat
open Go.RowKit Go.Great

def bk (X : Nat → Int) : Nat → Nat → List UInt8
  | _, 0 => []
  | i, n + 1 => be64 (X i) ++ bk X (i + 1) n
theorem vl_bk (X : Nat → Int) : vl X 11 = bk X 0 11 := by simp [vl, bk]
theorem rv_bk (X : Nat → Int) (hX : ∀ i, 0 ≤ X i ∧ X i ≤ 18446744073709551615) : ∀ i, i ≤ 11 → rv (some (vl X 11)) i = some (bk X i (11 - i))
  | 0, _ => by rw [vl_bk]; rfl
  | i + 1, h => by
    rw [rv, rv_bk X hX i (by omega), show 11 - i = (11 - (i + 1)) + 1 from by omega, bk, c64_be64 _ _ (hX i).1 (hX i).2]
theorem xv_bk (X : Nat → Int) (hX : ∀ i, 0 ≤ X i ∧ X i ≤ 18446744073709551615) (i : Nat) (h : i < 11) : xv (some (vl X 11)) i = X i := by
  rw [xv, rv_bk X hX i (by omega), show 11 - i = (11 - (i + 1)) + 1 from by omega, bk, c64_be64 _ _ (hX i).1 (hX i).2]
theorem vcells_xv (X : Nat → Int) (hX : ∀ i, 0 ≤ X i ∧ X i ≤ 18446744073709551615) : vcells (xv (some (vl X 11))) = vcells X := by
  unfold vcells
  rw [xv_bk X hX 0 (by omega), xv_bk X hX 1 (by omega), xv_bk X hX 2 (by omega), xv_bk X hX 3 (by omega), xv_bk X hX 4 (by omega), xv_bk X hX 5 (by omega), xv_bk X hX 6 (by omega), xv_bk X hX 7 (by omega), xv_bk X hX 8 (by omega), xv_bk X hX 9 (by omega), xv_bk X hX 10 (by omega)]

set_option maxHeartbeats 1600000 in
theorem vfsBinary (q h c : Nat) (cs0 : Array Value) (l : List UInt8) (w : World) (hq : w.heap[q]? = some (.cells cs0 151 (0, 0))) (hsz : cs0.size = 11) (hqh : q ≠ h) (hl : Lies w h 0 l) (hh : h < w.heap.size) (hc : l.length ≤ c) (hn : l.length ≤ 1000000000) :
    Calls Tryz.prog 80 #[.pointer (some ⟨q, 0, none⟩), .slice (some ⟨h, 0, none⟩) l.length c] w fun e w' => ∃ v, e = .returned v ∧ errOf (rv (some l) 11) v ∧ w'.heap[q]? = some (.cells (vcells (xv (some l))) 151 (0, 0)) ∧ UpdB (fun k => k = q) w w' := by
  have hql := lt_of_blk hq
  have hbel := (Below.refl w.heap.size w).alloc (Nat.le_refl _) (.cells #[.slice (some ⟨h, 0, none⟩) l.length c, .int .i64 0, .nilIface] 120)
  have hb := RBuf.new hl hh hc hn
  have hq2 := (hbel.block q hql).trans hq
  have C := Lib.hid (vfsFrom q w.heap.size h cs0 (some l) _ hq2 hsz (by omega) hqh hb)
  have B := Lib.hid hbel
  clear hb hq2 hbel hl hq
  go_enter Tryz.func80, Tryz.ntmps80
  go_wp2_with fail
  refine (newBuffer _ _ _ _).mono ?_
  rintro e w2 ⟨rfl, hw2⟩
  rw [hw2] at C B
  clear hw2
  go_wp2_with fail
  refine C.out.mono ?_
  rintro e w3 ⟨v, rfl, hv, hq3, hu⟩
  have F := Lib.hid (show UpdB (fun k => k = q) w w3 from ⟨hu.os.trans B.out.os, hu.tape.trans B.out.tape, hu.output.trans B.out.output, Nat.le_trans B.out.size hu.size, fun k hk e => (hu.block k (by have := B.out.size; omega) (by omega)).trans (B.out.block k hk)⟩)
  have HV := Lib.hid hv
  have HQ := Lib.hid hq3
  clear hv hq3 hu C B
  go_wp2_with fail
  go_ret
  exact ⟨v, rfl, HV.out, HQ.out, F.out⟩

set_option maxRecDepth 5000 in
set_option maxHeartbeats 1600000 in
theorem vfsRead (s : ByteArray) (X : Nat → Int) (w : World) (hX : ∀ i, 0 ≤ X i ∧ X i ≤ 18446744073709551615) (hs : tl s = vl X 11) :
    Calls Tryz.prog 37 #[.string s] w fun e w' => (∃ h, e = .returned (.tuple #[.slice (some ⟨h, 0, none⟩) 11 11, .int .i64 0]) ∧ w.heap.size ≤ h ∧ w'.heap[h]? = some (.cells (vcells X) 23 (0, 0))) ∧ Below w.heap.size w w' := by
  have kb := fun W => Lib.run_convert_string_bytes (P := Tryz.prog) W 9 93 5 s Tryz.underlying9 Tryz.underlying93 Tryz.underlying5
  obtain ⟨W0, hW0⟩ : ∃ W, w.alloc (.cells (vcells fun _ => 0) 151) = W := ⟨_, rfl⟩
  have s0 : W0.heap.size = w.heap.size + 1 := by rw [← hW0]; simp
  have k0 : W0.heap[w.heap.size]? = some (.cells (vcells fun _ => 0) 151 (0, 0)) := by rw [← hW0]; exact heap_alloc_new _ _
  have b0 : Below w.heap.size w W0 := by rw [← hW0]; exact (Below.refl _ _).alloc (Nat.le_refl _) _
  have k1 : (Lib.bytesWorld W0 5 s).heap[w.heap.size]? = some (.cells (vcells fun _ => 0) 151 (0, 0)) := by rw [Lib.bytesWorld_at_old _ _ _ _ (by omega)]; exact k0
  have hl : Lies (Lib.bytesWorld W0 5 s) (w.heap.size + 1) 0 (tl s) := fun j b hj => by
    rw [← s0]; exact bytes_src W0 _ s j b hj
  have hz : (Lib.bytesWorld W0 5 s).heap.size = w.heap.size + 1 + 1 := by rw [Lib.bytesWorld_size, s0]
  have b1 : Below w.heap.size w (Lib.bytesWorld W0 5 s) := bytes_below b0 (by omega) _ _
  have hlen : (tl s).length = 88 := by rw [hs, vl_len]
  have hsz : s.size = (tl s).length := (tl_length s).symm
  have C := Lib.hid (vfsBinary w.heap.size (w.heap.size + 1) (grownCap W0 s.size 0 5) _ (tl s) _ k1 rfl (by omega) hl (by omega) (by rw [← hsz]; exact grownCap_ge _ _ _ _) (by omega))
  have X0 := Lib.hid hW0
  have B1 := Lib.hid b1
  have HS := Lib.hid hs
  have HX := Lib.hid hX
  have HZ := Lib.hid hsz
  have HZ1 := Lib.hid hz
  clear hW0 s0 k0 b0 k1 hl hz b1 hlen hsz hs hX
  go_enter Tryz.func37, Tryz.ntmps37
  go_wp2_with fail
  change Calls Tryz.prog 80 #[_, .slice (some ⟨w.heap.size + 1, 0, none⟩) s.size (grownCap (w.alloc (.cells (vcells fun _ => 0) 151)) s.size 0 5)] (Lib.bytesWorld (w.alloc (.cells (vcells fun _ => 0) 151)) 5 s) _
  rw [X0.out]
  have D := C.out
  rw [← HZ.out] at D
  refine D.mono ?_
  rintro e w2 ⟨v, rfl, hv, hq2, hu⟩
  have hr : rv (some (tl s)) 11 = some [] := by rw [HS.out, rv_bk X HX.out 11 (Nat.le_refl _)]; rfl
  rw [hr] at hv
  have hv' : v = .nilIface := hv
  subst hv'
  rw [HS.out, vcells_xv X HX.out] at hq2
  have hz1 := HZ1.out
  have hu1 := hu.size
  have hB2 : Below w.heap.size w w2 := B1.out.trans ⟨hu.os, hu.tape, hu.output, hu.size, fun k hk => hu.block k (by omega) (by omega)⟩
  have HB2 := Lib.hid hB2
  have c0 : w2.cell? ⟨w.heap.size, 0, none⟩ = some (.int .u64 (X 0)) := by rw [cell_of_blk hq2]; rfl
  have c1 : w2.cell? ⟨w.heap.size, 1, none⟩ = some (.int .u64 (X 1)) := by rw [cell_of_blk hq2]; rfl
  have c2 : w2.cell? ⟨w.heap.size, 2, none⟩ = some (.int .u64 (X 2)) := by rw [cell_of_blk hq2]; rfl
  have c3 : w2.cell? ⟨w.heap.size, 3, none⟩ = some (.int .u64 (X 3)) := by rw [cell_of_blk hq2]; rfl
  have c4 : w2.cell? ⟨w.heap.size, 4, none⟩ = some (.int .u64 (X 4)) := by rw [cell_of_blk hq2]; rfl
  have c5 : w2.cell? ⟨w.heap.size, 5, none⟩ = some (.int .u64 (X 5)) := by rw [cell_of_blk hq2]; rfl
  have c6 : w2.cell? ⟨w.heap.size, 6, none⟩ = some (.int .u64 (X 6)) := by rw [cell_of_blk hq2]; rfl
  have c7 : w2.cell? ⟨w.heap.size, 7, none⟩ = some (.int .u64 (X 7)) := by rw [cell_of_blk hq2]; rfl
  have c8 : w2.cell? ⟨w.heap.size, 8, none⟩ = some (.int .u64 (X 8)) := by rw [cell_of_blk hq2]; rfl
  have c9 : w2.cell? ⟨w.heap.size, 9, none⟩ = some (.int .u64 (X 9)) := by rw [cell_of_blk hq2]; rfl
  have c10 : w2.cell? ⟨w.heap.size, 10, none⟩ = some (.int .u64 (X 10)) := by rw [cell_of_blk hq2]; rfl
  clear hv hr hq2 hB2 hu D C hz1 hu1 HZ1 HZ B1 X0 kb
  go_wp2_with (refine wpList_buildSliceTo rfl 62 23 11 _ rfl w2.heap.size rfl (some 31) rfl Tryz.underlying62 (vcells X) (by as_aux_lemma => kernel_rfl) ?_)
  go_ret2
  exact ⟨⟨w2.heap.size, rfl, HB2.out.size, heap_alloc_new _ _⟩, HB2.out.alloc HB2.out.size _⟩
end Go.Proofs.YtmenkckgpiafiaaGreat
