/-
  The laws' own comparison of packets, at two close packets that are alike.
-/
import Derived.Test.YtmenkckgpiafiaaGreatT
namespace Go.Proofs.YtmenkckgpiafiaaGreat
open Go.RowKit Go.Great

theorem sameExts0 (w : World) : Calls Tryz.prog 62 #[.slice none 0 0, .slice none 0 0] w fun e w' => e = .returned (.bool true) ∧ w = w' := by
  go_enter Tryz.func62, Tryz.ntmps62
  go_wp2
  go_loop [13] (fun i => i = .int .i64 0) (fun _ => 0)
  case atStart => rfl
  case round =>
    subst hrel
    go_wp2
    go_ret
    exact ⟨rfl, rfl⟩

def zAttrs : Array Value := #[n32 0, .int .u64 0, n32 0, n32 0, n32 0, n32 0, n32 0, nilS]
set_option maxRecDepth 5000 in
set_option maxHeartbeats 1600000 in
theorem sameAttrs0 (w : World) : Calls Tryz.prog 33 #[.agg zAttrs, .agg zAttrs] w fun e w' => e = .returned (.bool true) ∧ Below w.heap.size w w' := by
  obtain ⟨W, hW⟩ : ∃ W, (w.alloc (.cells zAttrs 26)).alloc (.cells zAttrs 26) = W := ⟨_, rfl⟩
  have b2 : W.heap[w.heap.size]? = some (.cells zAttrs 26 (0, 0)) := by rw [← hW, heap_alloc_old _ _ (by simp)]; exact heap_alloc_new _ _
  have b3 : W.heap[w.heap.size + 1]? = some (.cells zAttrs 26 (0, 0)) := by
    rw [← hW]
    have := heap_alloc_new (w.alloc (.cells zAttrs 26)) (.cells zAttrs 26 (0, 0))
    rwa [show (w.alloc (.cells zAttrs 26)).heap.size = w.heap.size + 1 from by simp] at this
  have hbl : Below w.heap.size w W := by rw [← hW]; exact ((Below.refl _ _).alloc (Nat.le_refl _) _).alloc (by simp) _
  have c0 : W.cell? ⟨w.heap.size, 0, none⟩ = some (.int .u32 0) := by rw [cell_of_blk b2]; rfl
  have d0 : W.cell? ⟨w.heap.size + 1, 0, none⟩ = some (.int .u32 0) := by rw [cell_of_blk b3]; rfl
  have c1 : W.cell? ⟨w.heap.size, 1, none⟩ = some (.int .u64 0) := by rw [cell_of_blk b2]; rfl
  have d1 : W.cell? ⟨w.heap.size + 1, 1, none⟩ = some (.int .u64 0) := by rw [cell_of_blk b3]; rfl
  have c2 : W.cell? ⟨w.heap.size, 2, none⟩ = some (.int .u32 0) := by rw [cell_of_blk b2]; rfl
  have d2 : W.cell? ⟨w.heap.size + 1, 2, none⟩ = some (.int .u32 0) := by rw [cell_of_blk b3]; rfl
  have c3 : W.cell? ⟨w.heap.size, 3, none⟩ = some (.int .u32 0) := by rw [cell_of_blk b2]; rfl
  have d3 : W.cell? ⟨w.heap.size + 1, 3, none⟩ = some (.int .u32 0) := by rw [cell_of_blk b3]; rfl
  have c4 : W.cell? ⟨w.heap.size, 4, none⟩ = some (.int .u32 0) := by rw [cell_of_blk b2]; rfl
  have d4 : W.cell? ⟨w.heap.size + 1, 4, none⟩ = some (.int .u32 0) := by rw [cell_of_blk b3]; rfl
  have c5 : W.cell? ⟨w.heap.size, 5, none⟩ = some (.int .u32 0) := by rw [cell_of_blk b2]; rfl
  have d5 : W.cell? ⟨w.heap.size + 1, 5, none⟩ = some (.int .u32 0) := by rw [cell_of_blk b3]; rfl
  have c6 : W.cell? ⟨w.heap.size, 6, none⟩ = some (.int .u32 0) := by rw [cell_of_blk b2]; rfl
  have d6 : W.cell? ⟨w.heap.size + 1, 6, none⟩ = some (.int .u32 0) := by rw [cell_of_blk b3]; rfl
  have c7 : W.cell? ⟨w.heap.size, 7, none⟩ = some (.slice none 0 0) := by rw [cell_of_blk b2]; rfl
  have d7 : W.cell? ⟨w.heap.size + 1, 7, none⟩ = some (.slice none 0 0) := by rw [cell_of_blk b3]; rfl
  have HW := Lib.hid hW
  have HB := Lib.hid hbl
  have B2 := Lib.hid b2
  have B3 := Lib.hid b3
  clear hW hbl b2 b3
  go_enter Tryz.func33, Tryz.ntmps33
  go_wp2_with (first
    | refine wpList_boxTo rfl 26 _ rfl (some 2) rfl w.heap.size rfl zAttrs rfl ?_
    | (refine wpList_boxTo rfl 26 _ rfl (some 3) rfl (w.heap.size + 1) (by simp) zAttrs rfl ?_; rw [HW.out])
    | (go_at_call 62; refine (sameExts0 _).mono ?_; rintro e w' ⟨rfl, rfl⟩))
  go_ret
  exact ⟨rfl, HB.out⟩

set_option maxRecDepth 5000 in
set_option maxHeartbeats 3200000 in
theorem same0 (w : World) : Calls Tryz.prog 22 #[.agg (pClose 7 ⟨#[97, 98]⟩), .agg (pClose 7 ⟨#[97, 98]⟩)] w fun e w' => e = .returned (.bool true) ∧ Below w.heap.size w w' := by
  obtain ⟨W, hW⟩ : ∃ W, (w.alloc (.cells (pClose 7 ⟨#[97, 98]⟩) 29)).alloc (.cells (pClose 7 ⟨#[97, 98]⟩) 29) = W := ⟨_, rfl⟩
  have b2 : W.heap[w.heap.size]? = some (.cells (pClose 7 ⟨#[97, 98]⟩) 29 (0, 0)) := by rw [← hW, heap_alloc_old _ _ (by simp)]; exact heap_alloc_new _ _
  have b3 : W.heap[w.heap.size + 1]? = some (.cells (pClose 7 ⟨#[97, 98]⟩) 29 (0, 0)) := by
    rw [← hW]
    have := heap_alloc_new (w.alloc (.cells (pClose 7 ⟨#[97, 98]⟩) 29)) (.cells (pClose 7 ⟨#[97, 98]⟩) 29 (0, 0))
    rwa [show (w.alloc (.cells (pClose 7 ⟨#[97, 98]⟩) 29)).heap.size = w.heap.size + 1 from by simp] at this
  have hbl : Below w.heap.size w W := by rw [← hW]; exact ((Below.refl _ _).alloc (Nat.le_refl _) _).alloc (by simp) _
  have c0 : W.cell? ⟨w.heap.size, 0, none⟩ = some (.int .i64 4) := by rw [cell_of_blk b2]; rfl
  have d0 : W.cell? ⟨w.heap.size + 1, 0, none⟩ = some (.int .i64 4) := by rw [cell_of_blk b3]; rfl
  have c1 : W.cell? ⟨w.heap.size, 1, none⟩ = some (.int .u32 7) := by rw [cell_of_blk b2]; rfl
  have d1 : W.cell? ⟨w.heap.size + 1, 1, none⟩ = some (.int .u32 7) := by rw [cell_of_blk b3]; rfl
  have c2 : W.cell? ⟨w.heap.size, 2, none⟩ = some (.string ⟨#[]⟩) := by rw [cell_of_blk b2]; rfl
  have d2 : W.cell? ⟨w.heap.size + 1, 2, none⟩ = some (.string ⟨#[]⟩) := by rw [cell_of_blk b3]; rfl
  have c3 : W.cell? ⟨w.heap.size, 3, none⟩ = some (.string ⟨#[]⟩) := by rw [cell_of_blk b2]; rfl
  have d3 : W.cell? ⟨w.heap.size + 1, 3, none⟩ = some (.string ⟨#[]⟩) := by rw [cell_of_blk b3]; rfl
  have c4 : W.cell? ⟨w.heap.size, 4, none⟩ = some (.string ⟨#[97, 98]⟩) := by rw [cell_of_blk b2]; rfl
  have d4 : W.cell? ⟨w.heap.size + 1, 4, none⟩ = some (.string ⟨#[97, 98]⟩) := by rw [cell_of_blk b3]; rfl
  have c5 : W.cell? ⟨w.heap.size, 5, none⟩ = some (.int .u64 0) := by rw [cell_of_blk b2]; rfl
  have d5 : W.cell? ⟨w.heap.size + 1, 5, none⟩ = some (.int .u64 0) := by rw [cell_of_blk b3]; rfl
  have c6 : W.cell? ⟨w.heap.size, 6, none⟩ = some (.int .u32 0) := by rw [cell_of_blk b2]; rfl
  have d6 : W.cell? ⟨w.heap.size + 1, 6, none⟩ = some (.int .u32 0) := by rw [cell_of_blk b3]; rfl
  have c7 : W.cell? ⟨w.heap.size, 7, none⟩ = some (.int .u32 0) := by rw [cell_of_blk b2]; rfl
  have d7 : W.cell? ⟨w.heap.size + 1, 7, none⟩ = some (.int .u32 0) := by rw [cell_of_blk b3]; rfl
  have c8 : W.cell? ⟨w.heap.size, 8, none⟩ = some (.string ⟨#[]⟩) := by rw [cell_of_blk b2]; rfl
  have d8 : W.cell? ⟨w.heap.size + 1, 8, none⟩ = some (.string ⟨#[]⟩) := by rw [cell_of_blk b3]; rfl
  have c9 : W.cell? ⟨w.heap.size, 9, none⟩ = some (.int .u32 0) := by rw [cell_of_blk b2]; rfl
  have d9 : W.cell? ⟨w.heap.size + 1, 9, none⟩ = some (.int .u32 0) := by rw [cell_of_blk b3]; rfl
  have c10 : W.cell? ⟨w.heap.size, 10, none⟩ = some (.int .u64 0) := by rw [cell_of_blk b2]; rfl
  have d10 : W.cell? ⟨w.heap.size + 1, 10, none⟩ = some (.int .u64 0) := by rw [cell_of_blk b3]; rfl
  have c11 : W.cell? ⟨w.heap.size, 11, none⟩ = some (.int .u32 0) := by rw [cell_of_blk b2]; rfl
  have d11 : W.cell? ⟨w.heap.size + 1, 11, none⟩ = some (.int .u32 0) := by rw [cell_of_blk b3]; rfl
  have c12 : W.cell? ⟨w.heap.size, 12, none⟩ = some (.int .u32 0) := by rw [cell_of_blk b2]; rfl
  have d12 : W.cell? ⟨w.heap.size + 1, 12, none⟩ = some (.int .u32 0) := by rw [cell_of_blk b3]; rfl
  have c13 : W.cell? ⟨w.heap.size, 13, none⟩ = some (.int .u32 0) := by rw [cell_of_blk b2]; rfl
  have d13 : W.cell? ⟨w.heap.size + 1, 13, none⟩ = some (.int .u32 0) := by rw [cell_of_blk b3]; rfl
  have c14 : W.cell? ⟨w.heap.size, 14, none⟩ = some (.int .u32 0) := by rw [cell_of_blk b2]; rfl
  have d14 : W.cell? ⟨w.heap.size + 1, 14, none⟩ = some (.int .u32 0) := by rw [cell_of_blk b3]; rfl
  have c15 : W.cell? ⟨w.heap.size, 15, none⟩ = some (.int .u32 0) := by rw [cell_of_blk b2]; rfl
  have d15 : W.cell? ⟨w.heap.size + 1, 15, none⟩ = some (.int .u32 0) := by rw [cell_of_blk b3]; rfl
  have c16 : W.cell? ⟨w.heap.size, 16, none⟩ = some (.slice none 0 0) := by rw [cell_of_blk b2]; rfl
  have d16 : W.cell? ⟨w.heap.size + 1, 16, none⟩ = some (.slice none 0 0) := by rw [cell_of_blk b3]; rfl
  have c17 : W.cell? ⟨w.heap.size, 17, none⟩ = some (.slice none 0 0) := by rw [cell_of_blk b2]; rfl
  have d17 : W.cell? ⟨w.heap.size + 1, 17, none⟩ = some (.slice none 0 0) := by rw [cell_of_blk b3]; rfl
  have c18 : W.cell? ⟨w.heap.size, 18, none⟩ = some (.slice none 0 0) := by rw [cell_of_blk b2]; rfl
  have d18 : W.cell? ⟨w.heap.size + 1, 18, none⟩ = some (.slice none 0 0) := by rw [cell_of_blk b3]; rfl
  have c19 : W.cell? ⟨w.heap.size, 19, none⟩ = some (.int .u32 0) := by rw [cell_of_blk b2]; rfl
  have d19 : W.cell? ⟨w.heap.size + 1, 19, none⟩ = some (.int .u32 0) := by rw [cell_of_blk b3]; rfl
  have c20 : W.cell? ⟨w.heap.size, 20, none⟩ = some (.int .u32 0) := by rw [cell_of_blk b2]; rfl
  have d20 : W.cell? ⟨w.heap.size + 1, 20, none⟩ = some (.int .u32 0) := by rw [cell_of_blk b3]; rfl
  have c21 : W.cell? ⟨w.heap.size, 21, none⟩ = some (.string ⟨#[]⟩) := by rw [cell_of_blk b2]; rfl
  have d21 : W.cell? ⟨w.heap.size + 1, 21, none⟩ = some (.string ⟨#[]⟩) := by rw [cell_of_blk b3]; rfl
  have c22 : W.cell? ⟨w.heap.size, 22, none⟩ = some (.string ⟨#[]⟩) := by rw [cell_of_blk b2]; rfl
  have d22 : W.cell? ⟨w.heap.size + 1, 22, none⟩ = some (.string ⟨#[]⟩) := by rw [cell_of_blk b3]; rfl
  have c23 : W.cell? ⟨w.heap.size, 23, none⟩ = some (.string ⟨#[]⟩) := by rw [cell_of_blk b2]; rfl
  have d23 : W.cell? ⟨w.heap.size + 1, 23, none⟩ = some (.string ⟨#[]⟩) := by rw [cell_of_blk b3]; rfl
  have HW := Lib.hid hW
  have HB := Lib.hid hbl
  have B2 := Lib.hid b2
  have B3 := Lib.hid b3
  clear hW hbl b2 b3
  go_enter Tryz.func22, Tryz.ntmps22
  go_wp2_with (first
    | refine wpList_boxTo rfl 29 _ rfl (some 2) rfl w.heap.size rfl (pClose 7 ⟨#[97, 98]⟩) rfl ?_
    | (refine wpList_boxTo rfl 29 _ rfl (some 3) rfl (w.heap.size + 1) (by simp) (pClose 7 ⟨#[97, 98]⟩) rfl ?_; rw [HW.out])
    | (go_at_call 62; refine (sameExts0 _).mono ?_; rintro e w' ⟨rfl, rfl⟩)
    | (go_at_call 33; refine (sameAttrs0 _).mono ?_))
  rintro e W2 ⟨rfl, hb⟩
  have l2 := lt_of_blk B2.out
  have l3 := lt_of_blk B3.out
  have e17 : W2.cell? ⟨w.heap.size, 17, none⟩ = some (.slice none 0 0) := by rw [cell_kept (hb.block _ l2)]; exact c17
  have f17 : W2.cell? ⟨w.heap.size + 1, 17, none⟩ = some (.slice none 0 0) := by rw [cell_kept (hb.block _ l3)]; exact d17
  have e18 : W2.cell? ⟨w.heap.size, 18, none⟩ = some (.slice none 0 0) := by rw [cell_kept (hb.block _ l2)]; exact c18
  have f18 : W2.cell? ⟨w.heap.size + 1, 18, none⟩ = some (.slice none 0 0) := by rw [cell_kept (hb.block _ l3)]; exact d18
  have e19 : W2.cell? ⟨w.heap.size, 19, none⟩ = some (.int .u32 0) := by rw [cell_kept (hb.block _ l2)]; exact c19
  have f19 : W2.cell? ⟨w.heap.size + 1, 19, none⟩ = some (.int .u32 0) := by rw [cell_kept (hb.block _ l3)]; exact d19
  have e20 : W2.cell? ⟨w.heap.size, 20, none⟩ = some (.int .u32 0) := by rw [cell_kept (hb.block _ l2)]; exact c20
  have f20 : W2.cell? ⟨w.heap.size + 1, 20, none⟩ = some (.int .u32 0) := by rw [cell_kept (hb.block _ l3)]; exact d20
  have e21 : W2.cell? ⟨w.heap.size, 21, none⟩ = some (.string ⟨#[]⟩) := by rw [cell_kept (hb.block _ l2)]; exact c21
  have f21 : W2.cell? ⟨w.heap.size + 1, 21, none⟩ = some (.string ⟨#[]⟩) := by rw [cell_kept (hb.block _ l3)]; exact d21
  have e22 : W2.cell? ⟨w.heap.size, 22, none⟩ = some (.string ⟨#[]⟩) := by rw [cell_kept (hb.block _ l2)]; exact c22
  have f22 : W2.cell? ⟨w.heap.size + 1, 22, none⟩ = some (.string ⟨#[]⟩) := by rw [cell_kept (hb.block _ l3)]; exact d22
  have e23 : W2.cell? ⟨w.heap.size, 23, none⟩ = some (.string ⟨#[]⟩) := by rw [cell_kept (hb.block _ l2)]; exact c23
  have f23 : W2.cell? ⟨w.heap.size + 1, 23, none⟩ = some (.string ⟨#[]⟩) := by rw [cell_kept (hb.block _ l3)]; exact d23
  have HF := Lib.hid (HB.out.trans (hb.mono HB.out.size))
  clear hb l2 l3 B2 B3 HB HW c0 d0 c1 d1 c2 d2 c3 d3 c4 d4 c5 d5 c6 d6 c7 d7 c8 d8 c9 d9 c10 d10 c11 d11 c12 d12 c13 d13 c14 d14 c15 d15 c16 d16 c17 d17 c18 d18 c19 d19 c20 d20 c21 d21 c22 d22 c23 d23
  go_wp2_with (go_at_call 62; refine (sameExts0 _).mono ?_; rintro e w' ⟨rfl, rfl⟩)
  go_loop [130] (fun i => i = .int .i64 0) (fun _ => 0)
  case atStart => rfl
  case round =>
    subst hrel
    go_wp2
    go_ret
    exact ⟨rfl, HF.out⟩
end Go.Proofs.YtmenkckgpiafiaaGreat
