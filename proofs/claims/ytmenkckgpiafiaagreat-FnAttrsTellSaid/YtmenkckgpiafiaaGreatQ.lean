/-
  impl.Write at a close packet.
-/
import Derived.Test.YtmenkckgpiafiaaGreatP
namespace Go.Proofs.YtmenkckgpiafiaaGreat
open Go.RowKit Go.Great

theorem writeIdle (p q : Addr) (w : World) :
    CallsD Tryz.prog 50 #[.pointer (some p), .pointer (some q)] .returning w fun e u' w' => e = .returned (.tuple #[]) ∧ u' = .returning ∧ w' = w := by
  refine callsD_of_wpS Tryz.func50 rfl fun c₀ cs hu => ?_
  apply wpS_seq
  apply wpS_region
  simp [wpOpsS, go_sem, recoverD, hu, Tryz.ntmps50, Exit.thenS]
  refine wpS_cond (t := false) (by simp [Act.eval, Array.replicate]) ?_
  simp only [Bool.false_eq_true, if_false]
  refine wpS_of_wp (wp_skip ?_)
  cases c₀
  simp_all [bodyPostS, results, Tryz.results50]
theorem readIdle (p q : Addr) (w : World) :
    CallsD Tryz.prog 56 #[.pointer (some p), .pointer (some q)] .returning w fun e u' w' => e = .returned (.tuple #[]) ∧ u' = .returning ∧ w' = w := by
  refine callsD_of_wpS Tryz.func56 rfl fun c₀ cs hu => ?_
  apply wpS_seq
  apply wpS_region
  simp [wpOpsS, go_sem, recoverD, hu, Tryz.ntmps56, Exit.thenS]
  refine wpS_cond (t := false) (by simp [Act.eval, Array.replicate]) ?_
  simp only [Bool.false_eq_true, if_false]
  refine wpS_of_wp (wp_skip ?_)
  cases c₀
  simp_all [bodyPostS, results, Tryz.results56]

theorem own_lies {w : World} {base : Nat} {v : Value} {l : List UInt8} (h : w.ownsRow base 5 1 v l.length (u8s l)) (hn : 0 < l.length) : ∃ s c, v = .slice (some ⟨s, 0, none⟩) l.length c ∧ Lies w s 0 l := by
  rcases h.2 with ⟨rfl, h0⟩ | ⟨g, cap, cur, rfl, _, hg, hr⟩
  · omega
  · refine ⟨g, cap, rfl, fun j b hj => ?_⟩
    obtain ⟨_, _, _, hcur⟩ := hr
    have h1 : (u8s l)[j]? = some (u8 b) := by unfold u8s; rw [List.getElem?_map, hj]; rfl
    rw [← hcur, List.getElem?_take] at h1
    split at h1
    · rw [cell_of_blk hg, Nat.zero_add]
      simpa using h1
    · cases h1

theorem pinfo : (Tryz.prog.info? 29).map (·.size) = some 24 := by kernel_rfl
theorem pinfoC (id : Int) (h : ByteArray) : (Tryz.prog.info? 29).map (·.size) = some (pClose id h).size := pinfo

set_option maxRecDepth 5000 in
set_option maxHeartbeats 1600000 in
theorem writeClose (id : Int) (h : ByteArray) (w : World) (hh : h.size ≤ 1000000) (i0 : 0 ≤ id) (i1 : id ≤ 4294967295) :
    Calls Tryz.prog 20 #[.agg (pClose id h)] w fun e w' => e = .returned (.tuple #[.string (bs (pack 4 id (str (tl h)))), .int .i64 0]) ∧ Below w.heap.size w w' := by
  have hmf : ∀ (fn : Fn) (first cap : Array Value) (w : World), (Instr.makeFunc fn first cap).run Tryz.prog w = .ok (.func fn first cap) w := fun _ _ _ _ => rfl
  obtain ⟨W, hW⟩ : ∃ W, ((w.alloc (.cells (pClose id h) 29)).alloc (.cells #[.string ⟨#[]⟩] 9)).alloc (.cells #[.int .i64 0] 3) = W := ⟨_, rfl⟩
  have hsz : W.heap.size = w.heap.size + 3 := by rw [← hW]; simp
  have hb0 : W.heap[w.heap.size]? = some (.cells (pClose id h) 29 (0, 0)) := by
    rw [← hW, heap_alloc_old _ _ (by simp; omega), heap_alloc_old _ _ (by simp)]; exact heap_alloc_new _ _
  have hbl : Below w.heap.size w W := by rw [← hW]; exact (((Below.refl _ _).alloc (Nat.le_refl _) _).alloc (by simp) _).alloc (by simp; omega) _
  have hb1 : W.heap[w.heap.size + 1]? = some (.cells #[.string ⟨#[]⟩] 9 (0, 0)) := by
    rw [← hW, heap_alloc_old _ _ (by simp)]
    have := heap_alloc_new (w.alloc (.cells (pClose id h) 29)) (.cells #[.string ⟨#[]⟩] 9 (0, 0))
    rwa [show (w.alloc (.cells (pClose id h) 29)).heap.size = w.heap.size + 1 from by simp] at this
  have hb2 : W.heap[w.heap.size + 1 + 1]? = some (.cells #[.int .i64 0] 3 (0, 0)) := by
    rw [← hW]
    have := heap_alloc_new ((w.alloc (.cells (pClose id h) 29)).alloc (.cells #[.string ⟨#[]⟩] 9 (0, 0))) (.cells #[.int .i64 0] 3 (0, 0))
    rwa [show ((w.alloc (.cells (pClose id h) 29)).alloc (.cells #[.string ⟨#[]⟩] 9 (0, 0))).heap.size = w.heap.size + 1 + 1 from by simp] at this
  have c0 : W.cell? ⟨w.heap.size, 0, none⟩ = some (.int .i64 4) := by rw [cell_of_blk hb0]; rfl
  have c1 : W.cell? ⟨w.heap.size, 1, none⟩ = some (.int .u32 id) := by rw [cell_of_blk hb0]; rfl
  have B1 := Lib.hid hb1
  have B2 := Lib.hid hb2
  have HW := Lib.hid hW
  have HB := Lib.hid hb0
  have HL := Lib.hid hbl
  clear hW hb0 hbl hb1 hb2 hsz
  go_enter_defers Tryz.func20, Tryz.ntmps20
  go_wp2_with (first | refine wpList_boxTo rfl 29 _ rfl (some 1) rfl w.heap.size rfl (pClose id h) rfl ?_ | (refine at_dst 7 rfl ?_; rw [HW.out]) | (refine wpList_load_row rfl 29 _ rfl w.heap.size rfl 29 (pClose id h) (0, 0) _ HB.out Tryz.underlying29 rfl (pinfoC id h) ?_))
  refine (bodyClose id h W).mono ?_
  rintro e w1 ⟨⟨b, rfl, hbb⟩, hbel⟩
  have zW : W.heap.size = w.heap.size + 1 + 1 + 1 := by rw [← HW.out]; simp
  have hL1 : Below w.heap.size w w1 := HL.out.trans (hbel.mono (by omega))
  have k1 := (hbel.block (w.heap.size + 1) (by omega)).trans B1.out
  have k2 := (hbel.block (w.heap.size + 1 + 1) (by omega)).trans B2.out
  have d1 : w1.cell? ⟨w.heap.size, 1, none⟩ = some (.int .u32 id) := by rw [cell_kept (hbel.block _ (by omega))]; exact c1
  have z1 := hbel.size
  have hbl := lt_of_blk hbb
  have C := Lib.hid (marshalClose b h id w1 hbl hh (by rw [cell_of_blk hbb]; rfl) i0 i1)
  have L1 := Lib.hid hL1
  have K1 := Lib.hid k1
  have K2 := Lib.hid k2
  clear hbel hL1 k1 k2 hbb HW HB HL B1 B2 c0 c1
  go_wp2_with fail
  refine C.out.mono ?_
  rintro e w2 ⟨v, rfl, hown, hb2⟩
  have z2 := hb2.size
  have hlen : (pack 4 id (str (tl h))).length = 13 + h.size := by simp [pack, str, be32, tl_length]; omega
  have C2 := Lib.hid (compose w1.heap.size v (pack 4 id (str (tl h))) none 0 0 [] w2 hown z2 (by omega) rfl (by omega) (.inl ⟨rfl, rfl, rfl⟩))
  have k1 := (hb2.block (w.heap.size + 1) (by omega)).trans K1.out
  have k2 := (hb2.block (w.heap.size + 1 + 1) (by omega)).trans K2.out
  have L2 := Lib.hid (L1.out.trans (hb2.mono (by omega)))
  have J1 := Lib.hid k1
  have J2 := Lib.hid k2
  clear hb2 k1 k2 hown C L1 K1 K2 d1
  go_wp2_with fail
  refine C2.out.mono ?_
  rintro e w3 ⟨v', rfl, hown, hb3⟩
  rw [List.append_nil] at hown
  have z3 := hb3.size
  have k1 := (hb3.block (w.heap.size + 1) (by omega)).trans J1.out
  have k2 := (hb3.block (w.heap.size + 1 + 1) (by omega)).trans J2.out
  have L3 := Lib.hid (L2.out.trans (hb3.mono (by omega)))
  have e1 : w3.cell? ⟨w.heap.size + 1, 0, none⟩ = some (.string ⟨#[]⟩) := by rw [cell_of_blk k1]; rfl
  have e2 : w3.cell? ⟨w.heap.size + 1 + 1, 0, none⟩ = some (.int .i64 0) := by rw [cell_of_blk k2]; rfl
  have g1 : w3.frozen? ⟨w.heap.size + 1, 0, none⟩ = false := frozen_of_blk k1 0
  have g2 : w3.frozen? ⟨w.heap.size + 1 + 1, 0, none⟩ = false := frozen_of_blk k2 0
  obtain ⟨s, c, rfl, hl⟩ := own_lies hown (by omega)
  have hcv := conv_str w3 s 0 c _ hl 93 9 5 Tryz.underlying93 Tryz.underlying5 Tryz.underlying9
  clear hb3 k1 k2 hown C2 L2 J1 J2 hl
  generalize hP : pack 4 id (str (tl h)) = F at *
  have HP := Lib.hid hP
  clear hlen hP
  go_wp2_with fail
  refine leaves_cons (f := 50) (args := #[.pointer (some ⟨w.heap.size + 1, 0, none⟩), .pointer (some ⟨w.heap.size + 1 + 1, 0, none⟩)]) (by simp) (by simp [go_sem]) ?_
  refine (writeIdle _ _ _).mono ?_
  rintro e u' w'' ⟨rfl, rfl, rfl⟩
  have r1 : ((w3.setCell ⟨w.heap.size + 1, 0, none⟩ (.string (bs F))).setCell ⟨w.heap.size + 1 + 1, 0, none⟩ (.int .i64 0)).cell? ⟨w.heap.size + 1, 0, none⟩ = some (.string (bs F)) := by
    rw [sc_other (by intro e; injection e; omega)]; exact sc_same e1
  have r2 : ((w3.setCell ⟨w.heap.size + 1, 0, none⟩ (.string (bs F))).setCell ⟨w.heap.size + 1 + 1, 0, none⟩ (.int .i64 0)).cell? ⟨w.heap.size + 1 + 1, 0, none⟩ = some (.int .i64 0) := by
    refine sc_same (u := .int .i64 0) ?_
    rw [sc_other (by intro e; injection e; omega)]; exact e2
  have hfin : Below w.heap.size w ((w3.setCell ⟨w.heap.size + 1, 0, none⟩ (.string (bs F))).setCell ⟨w.heap.size + 1 + 1, 0, none⟩ (.int .i64 0)) := (L3.out.setCell (by simp) _).setCell (by simp; omega) _
  have HF := Lib.hid hfin
  clear hfin e1 e2 g1 g2 hcv
  generalize (w3.setCell ⟨w.heap.size + 1, 0, none⟩ (.string (bs F))).setCell ⟨w.heap.size + 1 + 1, 0, none⟩ (.int .i64 0) = W4 at *
  simp [Leaves, settle, results, Tryz.results20, go_sem, r1, r2]
  exact ⟨by rw [HP.out], HF.out⟩
end Go.Proofs.YtmenkckgpiafiaaGreat
