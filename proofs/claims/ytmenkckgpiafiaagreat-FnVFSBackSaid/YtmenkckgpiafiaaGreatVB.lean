/-
  impl.VFSWrite and impl.VFSRead at eleven numbers.
-/
import Derived.Test.YtmenkckgpiafiaaGreatO
import Derived.Test.YtmenkckgpiafiaaGreatV
import Derived.StillTailTactics
namespace Go.Proofs.YtmenkckgpiafiaaGreat
open Go.RowKit Go.Great

set_option maxRecDepth 5000 in
set_option maxHeartbeats 1600000 in
theorem vfsWrite (b o : Nat) (cap : Nat) (X : Nat → Int) (w : World) (hA : b < w.heap.size) (hcap : 11 ≤ cap) (hX : ∀ i, 0 ≤ X i ∧ X i ≤ 18446744073709551615) (hc : ∀ i, i < 11 → w.cell? ⟨b, o + i, none⟩ = some (.int .u64 (X i))) :
    Calls Tryz.prog 36 #[.slice (some ⟨b, o, none⟩) 11 cap] w fun e w' => e = .returned (.tuple #[.string (bs (vl X 11)), .int .i64 0]) ∧ Below w.heap.size w w' := by
  have c0 : w.cell? ⟨b, o, none⟩ = some (.int .u64 (X 0)) := hc 0 (by omega)
  have c1 := hc 1 (by omega)
  have c2 := hc 2 (by omega)
  have c3 := hc 3 (by omega)
  have c4 := hc 4 (by omega)
  have c5 := hc 5 (by omega)
  have c6 := hc 6 (by omega)
  have c7 := hc 7 (by omega)
  have c8 := hc 8 (by omega)
  have c9 := hc 9 (by omega)
  have c10 := hc 10 (by omega)
  have HC := Lib.hid hc
  have HX := Lib.hid hX
  clear hc hX
  go_enter Tryz.func36, Tryz.ntmps36
  go_wp2_with fail
  go_still_tail 34, (by kernel_rfl)
  go_wp2_with fail
  have hb : (w.alloc (.cells (vcells X) 151)).drew.heap[w.heap.size]? = some (.cells (vcells X) 151 (0, 0)) := heap_alloc_new _ _
  have hz : w.heap.size < (w.alloc (.cells (vcells X) 151)).drew.heap.size := lt_of_blk hb
  have hcx : ∀ i, i < 11 → (w.alloc (.cells (vcells X) 151)).drew.cell? ⟨w.heap.size, i, none⟩ = some (.int .u64 (X i)) := fun i hi => by
    rw [cell_of_blk hb]
    rcases (by omega : i = 0 ∨ i = 1 ∨ i = 2 ∨ i = 3 ∨ i = 4 ∨ i = 5 ∨ i = 6 ∨ i = 7 ∨ i = 8 ∨ i = 9 ∨ i = 10) with rfl | rfl | rfl | rfl | rfl | rfl | rfl | rfl | rfl | rfl | rfl <;> rfl
  have hbl : Below w.heap.size w (w.alloc (.cells (vcells X) 151)).drew := ((Below.refl _ _).alloc (Nat.le_refl _) _).drew
  have C := vfsMarshal w.heap.size X _ hz HX.out hcx
  generalize hW : (w.alloc (.cells (vcells X) 151)).drew = W at C hbl
  have HW := Lib.hid hW
  have HB := Lib.hid hbl
  have D := Lib.hid C
  clear hb hz hcx hbl C hW HC HX c0 c1 c2 c3 c4 c5 c6 c7 c8 c9 c10
  change Calls Tryz.prog 79 #[.pointer (some ⟨w.heap.size, 0, none⟩)] ((w.alloc (.cells (vcells X) 151)).drew) _
  rw [HW.out]
  refine D.out.mono ?_
  rintro e w2 ⟨v, rfl, hown, hb2⟩
  obtain ⟨s, c, rfl, hl⟩ := own_lies hown (by rw [vl_len]; omega)
  have hcv := conv_str w2 s 0 c _ hl 93 9 5 Tryz.underlying93 Tryz.underlying5 Tryz.underlying9
  have HB2 := Lib.hid (HB.out.trans (hb2.mono HB.out.size))
  clear hown hl hb2 HB HW D
  generalize hF : vl X 11 = F at *
  have HF := Lib.hid hF
  clear hF
  go_wp2_with fail
  go_ret2
  refine ⟨?_, HB2.out⟩
  rw [HF.out]
  rfl

theorem bt_congr {a b : Int} (h : a % 256 = b % 256) : bt a = bt b := by unfold bt; rw [h]
theorem rd32_be32 (x : Int) (t : List UInt8) (h0 : 0 ≤ x) (h1 : x ≤ 4294967295) : rd32 (be32 x ++ t) = x := by
  have e : ∀ i, gi (be32 x ++ t) i = (((be32 x ++ t).getD i 0).toNat : Int) := fun _ => rfl
  unfold rd32
  rw [e, e, e, e]
  simp only [be32, List.cons_append, List.nil_append, List.getD_cons_zero, List.getD_cons_succ]
  rw [bt_int, bt_int, bt_int, bt_int]
  omega
theorem c64_be64 (x : Int) (t : List UInt8) (h0 : 0 ≤ x) (h1 : x ≤ 18446744073709551615) : c64 (some (be64 x ++ t)) = (x, some t) := by
  have hl : 8 ≤ (be64 x ++ t).length := by simp [be64, be32]
  have e4 : (be64 x ++ t).drop 4 = be32 x ++ t := by simp [be64, be32]
  have e8 : (be64 x ++ t).drop 8 = t := by simp [be64, be32]
  have hm : be32 x = be32 (x % 4294967296) := by
    simp only [be32]
    rw [bt_congr (a := x / 16777216) (b := x % 4294967296 / 16777216) (by omega), bt_congr (a := x / 65536) (b := x % 4294967296 / 65536) (by omega), bt_congr (a := x / 256) (b := x % 4294967296 / 256) (by omega), bt_congr (a := x) (b := x % 4294967296) (by omega)]
  simp only [c64, hl, if_true, e8]
  congr 1
  unfold rd64
  rw [e4, show be64 x ++ t = be32 (x / 4294967296) ++ (be32 x ++ t) from by simp [be64], rd32_be32 _ _ (by omega) (by omega), hm, rd32_be32 _ _ (by omega) (by omega)]
  omega
end Go.Proofs.YtmenkckgpiafiaaGreat
