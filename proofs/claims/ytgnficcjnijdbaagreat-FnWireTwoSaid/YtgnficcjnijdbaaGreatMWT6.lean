/-
  Lemmas and contracts, part 6.
-/
import Derived.Deep.QuietTactic
import Derived.BigQuiet
import Derived.Laws.CopyOwn
import Derived.Lib.AppendZeros
import Derived.Test.YtgnficcjnijdbaaGreatMWT3
import Derived.Test.YtgnficcjnijdbaaGreatMWT4
import Derived.Test.YtgnficcjnijdbaaGreatMWT5
set_option linter.unusedVariables false
set_option linter.unusedSimpArgs false
set_option maxHeartbeats 20000000
set_option maxRecDepth 5000
namespace Go.Proofs.YtgnficcjnijdbaaGreat
open Go.RowKit Go.Great Go.Proofs.YtgnficcjnijdbaaGreatW.PrintWords Go.Proofs.YtgnficcjnijdbaaGreatW.PrintLast Go.Proofs.YtgnficcjnijdbaaGreatW.PrintMore Go.Proofs.YtgnficcjnijdbaaGreat.KK
theorem PRows.pat {α : Type} {C : World → Nat → α → Prop} {X : Nat → Prop} {base : Nat} {E : TypeId} {w : World} {A : Option Addr} {n c : Nat} {l : List α} (h : PRows C X base E w (.slice A n c) l) : PAt C w A l ∧ n = l.length ∧ l.length ≤ c := by
 obtain ⟨A', c', e, h1, h2⟩ := h.shown
 injection e with e1 e2 e3
 subst e1 e2 e3
 exact ⟨h1, rfl, h2⟩
theorem PRows.form {α : Type} {C : World → Nat → α → Prop} {X : Nat → Prop} {base : Nat} {E : TypeId} {w : World} {v : Value} {l : List α} (h : PRows C X base E w v l) : ∃ A c, v = .slice A l.length c := by
 obtain ⟨A', c', e, _⟩ := h.shown
 exact ⟨A', c', e⟩
theorem zFp (t x : Int) (l : List S52) : (zBb t x l).length = 9 + (exB (l.map zA0)).length := by
 unfold zBb
 simp only [List.length_append, List.length_cons, zAM]
theorem zI5 (P : Array Value) (x : Int) (A : Option Addr) (n cap : Nat) (l : List S52) (w : World) (hsz : P.size = 24) (h0 : P[0]? = some (.int .i64 1)) (h18 : P[18]? = some (.slice A n cap)) (h19 : P[19]? = some (.int .u32 x))
  (hn : n = l.length) (hn1 : n ≤ 100000) (hl0 : gExB l) (hr : Kd.C k52 w A l.length l) (x0 : 0 ≤ x) (x1 : x ≤ 4294967295) :
  Calls Tryz.prog 10 #[.agg P] w fun e w' => e = .returned (.tuple #[.string (bs (zBb 1 x l)), .int .i64 0]) ∧ Below w.heap.size w w' := by
 have hmf : ∀ (fn : Fn) (first cap : Array Value) (w : World), (Instr.makeFunc fn first cap).run Tryz.prog w = .ok (.func fn first cap) w := fun _ _ _ _ => rfl
 obtain ⟨W, hW⟩ : ∃ W, ((w.alloc (.cells P 29)).alloc (.cells #[.string ⟨#[]⟩] 9)).alloc (.cells #[.int .i64 0] 3) = W := ⟨_, rfl⟩
 have hsz0 : W.heap.size = w.heap.size + 3 := by rw [← hW]; simp
 have hb0 : W.heap[w.heap.size]? = some (.cells P 29 (0, 0)) := by
  rw [← hW, heap_alloc_old _ _ (by simp; omega), heap_alloc_old _ _ (by simp)]; exact heap_alloc_new _ _
 have hbl : Below w.heap.size w W := by rw [← hW]; exact (((Below.refl _ _).alloc (Nat.le_refl _) _).alloc (by simp) _).alloc (by simp; omega) _
 have hb1 : W.heap[w.heap.size + 1]? = some (.cells #[.string ⟨#[]⟩] 9 (0, 0)) := by
  rw [← hW, heap_alloc_old _ _ (by simp)]
  have := heap_alloc_new (w.alloc (.cells P 29)) (.cells #[.string ⟨#[]⟩] 9 (0, 0))
  rwa [show (w.alloc (.cells P 29)).heap.size = w.heap.size + 1 from by simp] at this
 have hb2 : W.heap[w.heap.size + 1 + 1]? = some (.cells #[.int .i64 0] 3 (0, 0)) := by
  rw [← hW]
  have := heap_alloc_new ((w.alloc (.cells P 29)).alloc (.cells #[.string ⟨#[]⟩] 9 (0, 0))) (.cells #[.int .i64 0] 3 (0, 0))
  rwa [show ((w.alloc (.cells P 29)).alloc (.cells #[.string ⟨#[]⟩] 9 (0, 0))).heap.size = w.heap.size + 1 + 1 from by simp] at this
 have c0 : W.cell? ⟨w.heap.size, 0, none⟩ = some (.int .i64 1) := by rw [zAA hb0]; exact h0
 have B1 := Lib.hid hb1
 have B2 := Lib.hid hb2
 have HW := Lib.hid hW
 have HB := Lib.hid hb0
 have HL := Lib.hid hbl
 have PC := Lib.hid (fun (W1 : World) (hW : Below w.heap.size w W1) => zLN A n cap l W1 hn hn1 (Kd.C_below hr hW))
 have HX := Lib.hid hl0
 have HN := Lib.hid hn
 have X18 := Lib.hid h18
 have X19 := Lib.hid h19
 have PS := Lib.hid hsz
 clear hW hb0 hbl hb1 hb2 hsz0 h0 hsz h18 h19 hl0 hr hn
 go_enter_defers Tryz.func10, Tryz.ntmps10
 go_wp2_with (first | refine wpList_boxTo rfl 29 _ rfl (some 1) rfl w.heap.size rfl P rfl ?_ | (refine zBD 7 rfl ?_; rw [HW.out]))
 refine wp_region_noPanic ?_
 refine wp_region_held_drew (S := fun w' => Below W.heap.size W w') (by kernel_rfl) (zBH (Below.refl _ _)) (fun hHeld => ?_)
 refine tkE 28 0 (.pointer (some ⟨w.heap.size, 19, none⟩)) hHeld ?_
 try simp only [zAJ]
 refine tkY 29 1 (.int .u32 x) rfl (Or.inl ⟨by rfl, fun w' hw' => by
  have zW : w.heap.size < W.heap.size := zAC HB.out
  have c : w'.cell? ⟨w.heap.size, 19, none⟩ = some (.int .u32 x) := by rw [zAA ((hw'.block _ zW).trans HB.out)]; exact X19.out
  go_simp⟩) hHeld ?_
 try simp only [zAJ]
 refine tkE 30 2 (.pointer (some ⟨w.heap.size, 18, none⟩)) hHeld ?_
 try simp only [zAJ]
 refine tkY 31 3 (.slice A n cap) rfl (Or.inl ⟨by rfl, fun w' hw' => by
  have zW : w.heap.size < W.heap.size := zAC HB.out
  have c : w'.cell? ⟨w.heap.size, 18, none⟩ = some (.slice A n cap) := by rw [zAA ((hw'.block _ zW).trans HB.out)]; exact X18.out
  go_simp⟩) hHeld ?_
 try simp only [zAJ]
 refine wpAnyH_ready (rs := [4]) (by kernel_rfl) (by simp) (AllReadyH.cons rfl (fun K hK => ?_) AllReadyH.nil)
 rw [if_pos (by rfl)]
 have hb3 := HL.out.trans (hHeld.mono (by have zW3 : W.heap.size = w.heap.size + 1 + 1 + 1 := (by rw [← HW.out]; simp); omega))
 go_wp2_with ((go_at_call 23; refine (PC.out _ hb3).mono ?_; rintro e w5 ⟨v, rfl, hR, hb5⟩))
 refine hK.out _ _ (hHeld.trans (hb5.mono hHeld.size)) (fun hHeld => ?_)
 obtain ⟨A', c', rfl⟩ := hR.form
 have HR := Lib.hid hR
 have B5 := Lib.hid hHeld
 clear hK K hR hb5 hb3
 try simp only [zAJ]
 refine tkY 33 5 (.agg #[.int .u32 x, .slice A' l.length c']) rfl (Or.inl ⟨by rfl, fun w' hw' => by first | rfl | kernel_rfl⟩) hHeld ?_
 try simp only [zAJ]
 refine wpAnyH_ready (rs := [6]) (by kernel_rfl) (by simp) (AllReadyH.cons rfl (fun K hK => ?_) AllReadyH.nil)
 rw [if_pos (by rfl)]
 go_wp2_with fail
 refine hK.out _ _ (hHeld.alloc hHeld.size _) (fun hHeld => ?_)
 clear hK K
 try simp only [zAJ]
 refine wpAnyH_ready (rs := [7]) (by kernel_rfl) (by simp) (AllReadyH.cons rfl (fun K hK => ?_) AllReadyH.nil)
 rw [if_pos (by rfl)]
 obtain ⟨hpa, _, hc'⟩ := (HR.out.alloc (.cells #[.int .u32 x, .slice A' l.length c'] 64)).pat
 have BC := Lib.hid (zMY w5.heap.size x A' l.length c' l (w5.alloc (.cells #[.int .u32 x, .slice A' l.length c'] 64)) (heap_alloc_new _ _) rfl (by have := HN.out; omega) x0 x1 hpa HX.out (fun _ _ h => zAC h))
 have zA : W.heap.size ≤ (w5.alloc (.cells #[.int .u32 x, .slice A' l.length c'] 64)).heap.size := hHeld.size
 clear hpa hc'
 go_wp2_with ((go_at_call 24; refine BC.out.mono ?_; rintro e w6 ⟨v6, rfl, hown, hb6⟩))
 refine hK.out _ _ (hHeld.trans (hb6.mono zA)) (fun hHeld => ?_)
 have hlen := zFp 1 x l
 have hxl := HX.out.2.1
 obtain ⟨s, c, rfl, hl⟩ := zCp hown (by omega)
 clear hK K hb6 hown BC HR B5 zA
 try simp only [zAJ]
 refine tkE 27 8 (.tuple #[.slice (some ⟨s, 0, none⟩) (zBb 1 x l).length c, .nilIface]) hHeld ?_
 try simp only [zAJ]
 refine tkE 36 9 (.slice (some ⟨s, 0, none⟩) (zBb 1 x l).length c) hHeld ?_
 try simp only [zAJ]
 refine tkE 37 10 (.nilIface) hHeld ?_
 try simp only [zAJ]
 refine tkE 4 11 (.slice (some ⟨s, 0, none⟩) (zBb 1 x l).length c) hHeld ?_
 try simp only [zAJ]
 refine tkE 5 12 (.nilIface) hHeld ?_
 try simp only [zAJ]
 refine wpAnyH_done (by kernel_rfl) ?_ _
 refine NoPanic.normal ?_
 have zW : W.heap.size = w.heap.size + 1 + 1 + 1 := by rw [← HW.out]; simp
 have k1 := (hHeld.block (w.heap.size + 1) (by omega)).trans B1.out
 have k2 := (hHeld.block (w.heap.size + 1 + 1) (by omega)).trans B2.out
 have L3 := Lib.hid (HL.out.trans (hHeld.mono (by omega)))
 obtain ⟨w3, hw3⟩ : ∃ W, W = w6 := ⟨_, rfl⟩
 subst hw3
 have e1 : w3.cell? ⟨w.heap.size + 1, 0, none⟩ = some (.string ⟨#[]⟩) := by rw [zAA k1]; rfl
 have e2 : w3.cell? ⟨w.heap.size + 1 + 1, 0, none⟩ = some (.int .i64 0) := by rw [zAA k2]; rfl
 have g1 : w3.frozen? ⟨w.heap.size + 1, 0, none⟩ = false := zAP k1 0
 have g2 : w3.frozen? ⟨w.heap.size + 1 + 1, 0, none⟩ = false := zAP k2 0
 have hcv := zCL w3 s 0 c _ hl 56 9 5 Tryz.underlying56 Tryz.underlying5 Tryz.underlying9
 clear k1 k2 hl hlen hxl HX HB HL B1 B2 X18 X19 PC hHeld
 generalize hP : zBb 1 x l = F at *
 have HP := Lib.hid hP
 clear hP
 go_wp2_with fail
 refine leaves_cons (f := 22) (args := #[.pointer (some ⟨w.heap.size + 1, 0, none⟩), .pointer (some ⟨w.heap.size + 1 + 1, 0, none⟩)]) (by simp) (by simp [go_sem]) ?_
 refine (zDD _ _ _).mono ?_
 rintro e u' w'' ⟨rfl, rfl, rfl⟩
 have r1 : ((w3.setCell ⟨w.heap.size + 1, 0, none⟩ (.string (bs F))).setCell ⟨w.heap.size + 1 + 1, 0, none⟩ (.int .i64 0)).cell? ⟨w.heap.size + 1, 0, none⟩ = some (.string (bs F)) := by
  rw [zAz (by intro e; injection e; omega)]; exact zBZ e1
 have r2 : ((w3.setCell ⟨w.heap.size + 1, 0, none⟩ (.string (bs F))).setCell ⟨w.heap.size + 1 + 1, 0, none⟩ (.int .i64 0)).cell? ⟨w.heap.size + 1 + 1, 0, none⟩ = some (.int .i64 0) := by
  refine zBZ (u := .int .i64 0) ?_
  rw [zAz (by intro e; injection e; omega)]; exact e2
 have hfin : Below w.heap.size w ((w3.setCell ⟨w.heap.size + 1, 0, none⟩ (.string (bs F))).setCell ⟨w.heap.size + 1 + 1, 0, none⟩ (.int .i64 0)) := (L3.out.setCell (by simp) _).setCell (by simp; omega) _
 have HF := Lib.hid hfin
 clear hfin e1 e2 g1 g2 hcv
 generalize (w3.setCell ⟨w.heap.size + 1, 0, none⟩ (.string (bs F))).setCell ⟨w.heap.size + 1 + 1, 0, none⟩ (.int .i64 0) = W4 at *
 simp [Leaves, settle, results, Tryz.results10, go_sem, r1, r2]
 exact ⟨by rw [HP.out], HF.out⟩
theorem zFT (P : Array Value) (x : Int) (A : Option Addr) (n cap : Nat) (l : List S52) (w : World) (hsz : P.size = 24) (h0 : P[0]? = some (.int .i64 2)) (h18 : P[18]? = some (.slice A n cap)) (h19 : P[19]? = some (.int .u32 x))
  (hn : n = l.length) (hn1 : n ≤ 100000) (hl0 : gExB l) (hr : Kd.C k52 w A l.length l) (x0 : 0 ≤ x) (x1 : x ≤ 4294967295) :
  Calls Tryz.prog 10 #[.agg P] w fun e w' => e = .returned (.tuple #[.string (bs (zBb 2 x l)), .int .i64 0]) ∧ Below w.heap.size w w' := by
 have hmf : ∀ (fn : Fn) (first cap : Array Value) (w : World), (Instr.makeFunc fn first cap).run Tryz.prog w = .ok (.func fn first cap) w := fun _ _ _ _ => rfl
 obtain ⟨W, hW⟩ : ∃ W, ((w.alloc (.cells P 29)).alloc (.cells #[.string ⟨#[]⟩] 9)).alloc (.cells #[.int .i64 0] 3) = W := ⟨_, rfl⟩
 have hsz0 : W.heap.size = w.heap.size + 3 := by rw [← hW]; simp
 have hb0 : W.heap[w.heap.size]? = some (.cells P 29 (0, 0)) := by
  rw [← hW, heap_alloc_old _ _ (by simp; omega), heap_alloc_old _ _ (by simp)]; exact heap_alloc_new _ _
 have hbl : Below w.heap.size w W := by rw [← hW]; exact (((Below.refl _ _).alloc (Nat.le_refl _) _).alloc (by simp) _).alloc (by simp; omega) _
 have hb1 : W.heap[w.heap.size + 1]? = some (.cells #[.string ⟨#[]⟩] 9 (0, 0)) := by
  rw [← hW, heap_alloc_old _ _ (by simp)]
  have := heap_alloc_new (w.alloc (.cells P 29)) (.cells #[.string ⟨#[]⟩] 9 (0, 0))
  rwa [show (w.alloc (.cells P 29)).heap.size = w.heap.size + 1 from by simp] at this
 have hb2 : W.heap[w.heap.size + 1 + 1]? = some (.cells #[.int .i64 0] 3 (0, 0)) := by
  rw [← hW]
  have := heap_alloc_new ((w.alloc (.cells P 29)).alloc (.cells #[.string ⟨#[]⟩] 9 (0, 0))) (.cells #[.int .i64 0] 3 (0, 0))
  rwa [show ((w.alloc (.cells P 29)).alloc (.cells #[.string ⟨#[]⟩] 9 (0, 0))).heap.size = w.heap.size + 1 + 1 from by simp] at this
 have c0 : W.cell? ⟨w.heap.size, 0, none⟩ = some (.int .i64 2) := by rw [zAA hb0]; exact h0
 have B1 := Lib.hid hb1
 have B2 := Lib.hid hb2
 have HW := Lib.hid hW
 have HB := Lib.hid hb0
 have HL := Lib.hid hbl
 have PC := Lib.hid (fun (W1 : World) (hW : Below w.heap.size w W1) => zLN A n cap l W1 hn hn1 (Kd.C_below hr hW))
 have HX := Lib.hid hl0
 have HN := Lib.hid hn
 have X18 := Lib.hid h18
 have X19 := Lib.hid h19
 have PS := Lib.hid hsz
 clear hW hb0 hbl hb1 hb2 hsz0 h0 hsz h18 h19 hl0 hr hn
 go_enter_defers Tryz.func10, Tryz.ntmps10
 go_wp2_with (first | refine wpList_boxTo rfl 29 _ rfl (some 1) rfl w.heap.size rfl P rfl ?_ | (refine zBD 7 rfl ?_; rw [HW.out]))
 refine wp_region_noPanic ?_
 refine wp_region_held_drew (S := fun w' => Below W.heap.size W w') (by kernel_rfl) (zBH (Below.refl _ _)) (fun hHeld => ?_)
 refine tkE 41 0 (.pointer (some ⟨w.heap.size, 19, none⟩)) hHeld ?_
 try simp only [zAJ]
 refine tkY 42 1 (.int .u32 x) rfl (Or.inl ⟨by rfl, fun w' hw' => by
  have zW : w.heap.size < W.heap.size := zAC HB.out
  have c : w'.cell? ⟨w.heap.size, 19, none⟩ = some (.int .u32 x) := by rw [zAA ((hw'.block _ zW).trans HB.out)]; exact X19.out
  go_simp⟩) hHeld ?_
 try simp only [zAJ]
 refine tkE 43 2 (.pointer (some ⟨w.heap.size, 18, none⟩)) hHeld ?_
 try simp only [zAJ]
 refine tkY 44 3 (.slice A n cap) rfl (Or.inl ⟨by rfl, fun w' hw' => by
  have zW : w.heap.size < W.heap.size := zAC HB.out
  have c : w'.cell? ⟨w.heap.size, 18, none⟩ = some (.slice A n cap) := by rw [zAA ((hw'.block _ zW).trans HB.out)]; exact X18.out
  go_simp⟩) hHeld ?_
 try simp only [zAJ]
 refine wpAnyH_ready (rs := [4]) (by kernel_rfl) (by simp) (AllReadyH.cons rfl (fun K hK => ?_) AllReadyH.nil)
 rw [if_pos (by rfl)]
 have hb3 := HL.out.trans (hHeld.mono (by have zW3 : W.heap.size = w.heap.size + 1 + 1 + 1 := (by rw [← HW.out]; simp); omega))
 go_wp2_with ((go_at_call 23; refine (PC.out _ hb3).mono ?_; rintro e w5 ⟨v, rfl, hR, hb5⟩))
 refine hK.out _ _ (hHeld.trans (hb5.mono hHeld.size)) (fun hHeld => ?_)
 obtain ⟨A', c', rfl⟩ := hR.form
 have HR := Lib.hid hR
 have B5 := Lib.hid hHeld
 clear hK K hR hb5 hb3
 try simp only [zAJ]
 refine tkY 46 5 (.agg #[.int .u32 x, .slice A' l.length c']) rfl (Or.inl ⟨by rfl, fun w' hw' => by first | rfl | kernel_rfl⟩) hHeld ?_
 try simp only [zAJ]
 refine wpAnyH_ready (rs := [6]) (by kernel_rfl) (by simp) (AllReadyH.cons rfl (fun K hK => ?_) AllReadyH.nil)
 rw [if_pos (by rfl)]
 go_wp2_with fail
 refine hK.out _ _ (hHeld.alloc hHeld.size _) (fun hHeld => ?_)
 clear hK K
 try simp only [zAJ]
 refine wpAnyH_ready (rs := [7]) (by kernel_rfl) (by simp) (AllReadyH.cons rfl (fun K hK => ?_) AllReadyH.nil)
 rw [if_pos (by rfl)]
 obtain ⟨hpa, _, hc'⟩ := (HR.out.alloc (.cells #[.int .u32 x, .slice A' l.length c'] 67)).pat
 have BC := Lib.hid (zI1 w5.heap.size x A' l.length c' l (w5.alloc (.cells #[.int .u32 x, .slice A' l.length c'] 67)) (heap_alloc_new _ _) rfl (by have := HN.out; omega) x0 x1 hpa HX.out (fun _ _ h => zAC h))
 have zA : W.heap.size ≤ (w5.alloc (.cells #[.int .u32 x, .slice A' l.length c'] 67)).heap.size := hHeld.size
 clear hpa hc'
 go_wp2_with ((go_at_call 25; refine BC.out.mono ?_; rintro e w6 ⟨v6, rfl, hown, hb6⟩))
 refine hK.out _ _ (hHeld.trans (hb6.mono zA)) (fun hHeld => ?_)
 have hlen := zFp 2 x l
 have hxl := HX.out.2.1
 obtain ⟨s, c, rfl, hl⟩ := zCp hown (by omega)
 clear hK K hb6 hown BC HR B5 zA
 try simp only [zAJ]
 refine tkE 40 8 (.tuple #[.slice (some ⟨s, 0, none⟩) (zBb 2 x l).length c, .nilIface]) hHeld ?_
 try simp only [zAJ]
 refine tkE 49 9 (.slice (some ⟨s, 0, none⟩) (zBb 2 x l).length c) hHeld ?_
 try simp only [zAJ]
 refine tkE 50 10 (.nilIface) hHeld ?_
 try simp only [zAJ]
 refine tkE 4 11 (.slice (some ⟨s, 0, none⟩) (zBb 2 x l).length c) hHeld ?_
 try simp only [zAJ]
 refine tkE 5 12 (.nilIface) hHeld ?_
 try simp only [zAJ]
 refine wpAnyH_done (by kernel_rfl) ?_ _
 refine NoPanic.normal ?_
 have zW : W.heap.size = w.heap.size + 1 + 1 + 1 := by rw [← HW.out]; simp
 have k1 := (hHeld.block (w.heap.size + 1) (by omega)).trans B1.out
 have k2 := (hHeld.block (w.heap.size + 1 + 1) (by omega)).trans B2.out
 have L3 := Lib.hid (HL.out.trans (hHeld.mono (by omega)))
 obtain ⟨w3, hw3⟩ : ∃ W, W = w6 := ⟨_, rfl⟩
 subst hw3
 have e1 : w3.cell? ⟨w.heap.size + 1, 0, none⟩ = some (.string ⟨#[]⟩) := by rw [zAA k1]; rfl
 have e2 : w3.cell? ⟨w.heap.size + 1 + 1, 0, none⟩ = some (.int .i64 0) := by rw [zAA k2]; rfl
 have g1 : w3.frozen? ⟨w.heap.size + 1, 0, none⟩ = false := zAP k1 0
 have g2 : w3.frozen? ⟨w.heap.size + 1 + 1, 0, none⟩ = false := zAP k2 0
 have hcv := zCL w3 s 0 c _ hl 56 9 5 Tryz.underlying56 Tryz.underlying5 Tryz.underlying9
 clear k1 k2 hl hlen hxl HX HB HL B1 B2 X18 X19 PC hHeld
 generalize hP : zBb 2 x l = F at *
 have HP := Lib.hid hP
 clear hP
 go_wp2_with fail
 refine leaves_cons (f := 22) (args := #[.pointer (some ⟨w.heap.size + 1, 0, none⟩), .pointer (some ⟨w.heap.size + 1 + 1, 0, none⟩)]) (by simp) (by simp [go_sem]) ?_
 refine (zDD _ _ _).mono ?_
 rintro e u' w'' ⟨rfl, rfl, rfl⟩
 have r1 : ((w3.setCell ⟨w.heap.size + 1, 0, none⟩ (.string (bs F))).setCell ⟨w.heap.size + 1 + 1, 0, none⟩ (.int .i64 0)).cell? ⟨w.heap.size + 1, 0, none⟩ = some (.string (bs F)) := by
  rw [zAz (by intro e; injection e; omega)]; exact zBZ e1
 have r2 : ((w3.setCell ⟨w.heap.size + 1, 0, none⟩ (.string (bs F))).setCell ⟨w.heap.size + 1 + 1, 0, none⟩ (.int .i64 0)).cell? ⟨w.heap.size + 1 + 1, 0, none⟩ = some (.int .i64 0) := by
  refine zBZ (u := .int .i64 0) ?_
  rw [zAz (by intro e; injection e; omega)]; exact e2
 have hfin : Below w.heap.size w ((w3.setCell ⟨w.heap.size + 1, 0, none⟩ (.string (bs F))).setCell ⟨w.heap.size + 1 + 1, 0, none⟩ (.int .i64 0)) := (L3.out.setCell (by simp) _).setCell (by simp; omega) _
 have HF := Lib.hid hfin
 clear hfin e1 e2 g1 g2 hcv
 generalize (w3.setCell ⟨w.heap.size + 1, 0, none⟩ (.string (bs F))).setCell ⟨w.heap.size + 1 + 1, 0, none⟩ (.int .i64 0) = W4 at *
 simp [Leaves, settle, results, Tryz.results10, go_sem, r1, r2]
 exact ⟨by rw [HP.out], HF.out⟩
end Go.Proofs.YtgnficcjnijdbaaGreat
namespace Go.Proofs.YtgnficcjnijdbaaGreat
open Go.RowKit Go.Great Go.Shelf Go.Proofs.YtgnficcjnijdbaaGreatW.PrintWords Go.Proofs.YtgnficcjnijdbaaGreatW.PrintLast Go.Proofs.YtgnficcjnijdbaaGreatW.PrintMore Go.Proofs.YtgnficcjnijdbaaGreat.KK
def nmC (e : Nm) (A : Option Addr) (c : Nat) : List Value :=
 [.string e.f0, .string e.f1, .int .u32 e.f2.f0, .int .u64 e.f2.f1, .int .u32 e.f2.f2, .int .u32 e.f2.f3, .int .u32 e.f2.f4, .int .u32 e.f2.f5, .int .u32 e.f2.f6, .slice A e.f2.f7.length c]
theorem zDm {w : World} {A : Option Addr} {l : List Nm} (h : Kd.C k54 w A l.length l) (k : Nat) (e : Nm) (he : l[k]? = some e) :
  ∃ x p A9 c9, A = some ⟨x, p, none⟩ ∧ x < w.heap.size ∧ (∀ j v, (nmC e A9 c9)[j]? = some v → w.cell? ⟨x, p + k * 10 + j, none⟩ = some v) ∧ SlE w A9 c9 e.f2.f7 := by
 have hk : k < l.length := (List.getElem?_eq_some_iff.1 he).1
 obtain ⟨ad, c, rfl, _, hK, hc0⟩ := Kd.C_get h z54 (k : Int) (by omega) (by omega)
 rw [Int.toNat_natCast, List.getD_eq_getElem?_getD, he, Option.getD_some] at hK
 rw [Int.toNat_natCast] at hc0
 obtain ⟨A9, c9, rfl, l9, g9⟩ := zE6 hK
 have hc : ∀ j u, (nmC e A9 c9)[j]? = some u → w.cell? (ad.add (k * 10 + j)) = some u := hc0
 have hsp : ad.spot = none := by
  obtain ⟨ad', c', e', _, hK', hc'⟩ := Kd.C_get h z54 0 (by omega) (by omega)
  obtain rfl := Option.some.inj e'
  obtain ⟨A0, c0, rfl, _, _⟩ := zE6 hK'
  have := zJN (hc' 0 _ rfl)
  simpa [Addr.add] using this
 obtain ⟨x, p, sp⟩ := ad
 obtain rfl : sp = none := hsp
 refine ⟨x, p, A9, c9, rfl, ?_, fun j v hj => ?_, g9, l9⟩
 ·have := World.block_lt_of_cell? w _ (hc 0 _ rfl)
  rw [add_plain] at this
  exact this
 ·have := hc j v hj
  rw [add_plain] at this
  rwa [← Nat.add_assoc] at this
def zBK (e : Nm) : NE := ⟨e.f0, e.f1, e.f2.f0, e.f2.f1, e.f2.f2, e.f2.f3, e.f2.f4, e.f2.f5, e.f2.f6, e.f2.f7.map zA0⟩
def NeC (w : World) (q : Nat) (e : NE) : Prop := neAt w w.heap.size q e
theorem zFq : (Tryz.prog.info? 175).map (fun i => (i.zero, i.size, i.bytes)) = some (some (.pointer none), 1, 8) := by kernel_rfl
theorem zMj : (Tryz.prog.info? 54).map (·.size) = some 10 := by kernel_rfl
def z10 : Array Value := (nmC ⟨e0, e0, ⟨0, 0, 0, 0, 0, 0, 0, []⟩⟩ none 0).toArray
theorem zMk (e : Nm) (A : Option Addr) (c : Nat) : (nmC e A c).toArray.all (·.oneCell') = true := by kernel_rfl
theorem zLP (e : Nm) (A : Option Addr) (c : Nat) : (Tryz.prog.info? 54).map (·.size) = some (nmC e A c).toArray.size := zMj
theorem zLQ (e : Nm) (A : Option Addr) (c : Nat) : (Tryz.prog.info? 54).map (·.size) = some (nmC e A c).length := zMj
theorem zN5 {base : Nat} {ok : Nat → Prop} {w : World} {v : Value} {l : List zAu} (h : Kd.R k206 206 w base ok v l) :
  ∃ A c, v = .slice A l.length c ∧ l.length ≤ c ∧ (l = [] ∨ ∃ x p, A = some ⟨x, p, none⟩ ∧ base ≤ x ∧ x < w.heap.size ∧ ∀ k e', l[k]? = some e' → w.cell? ⟨x, p + k * 2, none⟩ = some (.string e'.f0) ∧ w.cell? ⟨x, p + k * 2 + 1, none⟩ = some (.string e'.f1)) := by
 obtain ⟨inner, ho⟩ := Kd.R_own h
 obtain ⟨A, c, rfl, hc, hC⟩ := Kd.R_reads h
 refine ⟨A, c, rfl, hc, ?_⟩
 rcases zBq hC with h | ⟨x, p, rfl, hx, h2⟩
 ·exact .inl h
 ·exact .inr ⟨x, p, rfl, (zGT ho rfl).1, hx, h2⟩
theorem zJV {base : Nat} {ok : Nat → Prop} {w : World} {v : Value} {l : List Ex} (h : Kd.R k206 206 w base ok v (l.map zA0)) :
  ∃ A c, v = .slice A l.length c ∧ l.length ≤ c ∧ (l.map zA0 = [] ∨ ∃ x p, A = some ⟨x, p, none⟩ ∧ base ≤ x ∧ x < w.heap.size ∧ ∀ k e', (l.map zA0)[k]? = some e' → w.cell? ⟨x, p + k * 2, none⟩ = some (.string e'.f0) ∧ w.cell? ⟨x, p + k * 2 + 1, none⟩ = some (.string e'.f1)) := by
 have h := zN5 h
 rwa [List.length_map] at h
theorem zJW {X : Nat → Prop} {w0 w : World} {v : Value} {q : Nat} {e : NE} (hw : w0.heap.size ≤ q) (hv : ∀ k, v.ownBlock = some k → k < w0.heap.size) (hX : ∀ k, X k → k < w0.heap.size)
  (A : Option Addr) (c : Nat) (hb : w.heap[q]? = some (.cells #[.string e.s, .string e.t, .int .u32 e.a, .int .u64 e.b, .int .u32 e.c, .int .u32 e.d, .int .u32 e.e, .int .u32 e.f, .int .u32 e.g, .slice A e.l.length c] 177 (0, 0)))
  (hx : e.l = [] ∨ ∃ x p, A = some ⟨x, p, none⟩ ∧ w0.heap.size ≤ x ∧ x < w.heap.size ∧ ∀ k e', e.l[k]? = some e' → w.cell? ⟨x, p + k * 2, none⟩ = some (.string e'.f0) ∧ w.cell? ⟨x, p + k * 2 + 1, none⟩ = some (.string e'.f1)) (hc : e.l.length ≤ c) : KAt NeC X w v q e := by
 rcases hx with hx | ⟨x, p, rfl, hx0, hxw, hx⟩
 ·refine ⟨fun k => k = q, fun k hk => ⟨by rw [hk]; exact zAC hb, fun e => by have := hv k e; omega, fun h => by have := hX k h; omega⟩, fun w' h' => ?_⟩
  have hb' := (h' q rfl).trans hb
  exact ⟨A, c, hb', zAC hb', .inl hx, hc⟩
 ·refine ⟨fun k => k = q ∨ k = x, fun k hk => ⟨?_, fun e => by have := hv k e; omega, fun h => by have := hX k h; omega⟩, fun w' h' => ?_⟩
  ·rcases hk with rfl | rfl
   ·exact zAC hb
   ·exact hxw
  ·have hb' := (h' q (.inl rfl)).trans hb
   have hx' := h' x (.inr rfl)
   refine ⟨_, c, hb', zAC hb', .inr ⟨x, p, rfl, ?_, fun k e' he => ?_⟩, hc⟩
   ·obtain ⟨o, ho⟩ : ∃ o, w.heap[x]? = some o := ⟨w.heap[x], Array.getElem?_eq_getElem hxw⟩
    exact zAC (hx'.trans ho)
   ·rw [cell_kept hx', cell_kept hx']
    exact hx k e' he
theorem zJx (P : Array Value) (A : Option Addr) (n cap : Nat) (l : List Nm) (w : World) (h0 : P[0]? = some (.int .i64 104)) (h17 : P[17]? = some (.slice A n cap)) (hn : n = l.length) (hn1 : n ≤ 100000)
  (hl : ∀ e ∈ l, e.f2.f7.length ≤ 1000000) (hr : Kd.C k54 w A l.length l) :
  Calls Tryz.prog 26 #[.agg P] w fun r w' => (∃ q A' c', r = .returned (.iface 171 (.pointer (some ⟨q, 0, none⟩))) ∧ w'.heap[q]? = some (.cells #[.slice A' l.length c'] 174 (0, 0)) ∧ PAt NeC w' A' (l.map zBK) ∧ l.length ≤ c') ∧ Below w.heap.size w w' := by
 have HP := Lib.hid (fun k e he => zDm hr k e he)
 have HL := Lib.hid hl
 have hb := heap_alloc_new w (.cells P 29 (0, 0))
 have hbl : Below w.heap.size w (w.alloc (.cells P 29)) := (Below.refl _ _).alloc (Nat.le_refl _) _
 have hz0 : (w.alloc (.cells P 29)).heap.size = w.heap.size + 1 := by simp
 generalize hW : w.alloc (.cells P 29) = W at hb hbl hz0
 have c0 : W.cell? ⟨w.heap.size, 0, none⟩ = some (.int .i64 104) := by rw [zAA hb]; exact h0
 have HB := Lib.hid hbl
 have HK := Lib.hid hb
 have HW := Lib.hid hW
 have HZ := Lib.hid hz0
 have X17 := Lib.hid h17
 have HN := Lib.hid hn
 obtain ⟨W1, hW1⟩ : ∃ W1, W.alloc (.cells #[.slice none 0 0] 174) = W1 := ⟨_, rfl⟩
 have hb1 : W1.heap[w.heap.size]? = some (.cells P 29 (0, 0)) := by rw [← hW1, heap_alloc_old _ _ (by omega)]; exact hb
 have ho1 : W1.heap[w.heap.size + 1]? = some (.cells #[.slice none 0 0] 174 (0, 0)) := by rw [← hW1]; exact zBw _ _ _ _ hz0.symm
 have hbe1 : Below w.heap.size w W1 := by rw [← hW1]; exact hbl.alloc (by omega) _
 have hz1 : W1.heap.size = w.heap.size + 1 + 1 := by rw [← hW1]; simp [hz0]
 have c17 : W1.cell? ⟨w.heap.size, 17, none⟩ = some (.slice A n cap) := by rw [zAA hb1]; exact h17
 have HW1 := Lib.hid hW1
 have O1 := Lib.hid ho1
 have E1 := Lib.hid hbe1
 have Z1 := Lib.hid hz1
 clear hb hbl hW h0 hr hn h17 hl hz0 hW1 hb1 ho1 hbe1 hz1
 go_enter Tryz.func26, Tryz.ntmps26
 go_wp2_with (first | (refine wpList_boxTo rfl 29 _ rfl (some 1) rfl w.heap.size rfl P rfl ?_; rw [HW.out]) | (refine zBD 191 rfl ?_; rw [HW1.out, HZ.out]))
 go_loopw [194] (fun i wr => ∃ (k : Nat) (v : Value), k ≤ n ∧ i = .int .i64 (k : Int) ∧ Hid (wr.heap[w.heap.size + 1]? = some (.cells #[v] 174 (0, 0))) ∧ Hid (PRows NeC (fun q => q = w.heap.size + 1) w.heap.size 175 wr v ((l.take k).map zBK)) ∧ Hid (Below w.heap.size w wr) ∧ w.heap.size + 1 < wr.heap.size) (fun i _ => n - (intOf i).toNat)
 case atStart => exact ⟨0, _, Nat.zero_le _, rfl, O1, Lib.hid (PRows.nil _ fun k h => by have := Z1.out; omega), E1, by have := Z1.out; omega⟩
 case round =>
  obtain ⟨k, v, hk, rfl, HO, HR, HBe, hz⟩ := hrel
  clear c0 c17
  by_cases hlt : k < n
  ·have hkl : k < l.length := by have := HN.out; omega
   have he : l[k]? = some l[k] := List.getElem?_eq_getElem hkl
   obtain ⟨x, p, A9, c9, rfl, hx, g1, g2⟩ := HP.out k _ he
   have hl9 := HL.out _ (List.getElem_mem hkl)
   have g3 : ∀ j u, (nmC l[k] A9 c9)[j]? = some u → wr.cell? ⟨x, p + k * 10 + j, none⟩ = some u := fun j u hj => by rw [cell_kept (HBe.out.block x hx)]; exact g1 j u hj
   have G2 := Lib.hid (fun (U : World) (hU : Below w.heap.size w U) => zEB l[k].f2.f0 l[k].f2.f1 l[k].f2.f2 l[k].f2.f3 l[k].f2.f4 l[k].f2.f5 l[k].f2.f6 A9 l[k].f2.f7.length c9 l[k].f2.f7 U rfl (by omega) (Kd.C_below g2.1 hU) g2.2)
   have HT := Lib.hid (show (l.take (k + 1)).map zBK = (l.take k).map zBK ++ [zBK l[k]] by rw [List.take_succ_eq_append_getElem hkl, List.map_append]; rfl)
   have hle : ((l.take k).map zBK).length ≤ 100000 := by rw [List.length_map, List.length_take]; omega
   generalize l[k] = e0 at *
   generalize (l.take k).map zBK = L0 at *
   clear he g1 hkl
   have hrow : wr.rangeAt x (p + k * 10) (nmC e0 A9 c9) := g3
   obtain ⟨W2, hW2⟩ : ∃ W2, (wr.alloc (.cells z10 54)).setRow wr.heap.size (nmC e0 A9 c9).toArray = W2 := ⟨_, rfl⟩
   have hq2 : W2.heap[wr.heap.size]? = some (.cells (nmC e0 A9 c9).toArray 54 (0, 0)) := by rw [← hW2]; exact zAj (heap_alloc_new _ _)
   have hb2 : Below wr.heap.size wr W2 := by rw [← hW2]; exact zBX (Below.refl _ _) (Nat.le_refl _) _ _ _
   have hz2 : wr.heap.size < W2.heap.size := by rw [← hW2, setRow_size]; simp
   have R2 := Lib.hid (HR.out.below hb2)
   have O2 := Lib.hid ((hb2.block _ hz).trans HO.out)
   have B2 := Lib.hid (HBe.out.trans (hb2.mono HBe.out.size))
   have Q2 := Lib.hid hq2
   have X2 := Lib.hid hW2
   have g3' := Lib.hid hrow
   have LT0 := Lib.hid (show ∀ k, v.ownBlock = some k → k < wr.heap.size from fun k hk => (HR.out.low hk).2)
   clear g3 hrow hq2 hb2 hW2 HR HO HBe
   go_wp2_with (first | refine wpList_allocTo rfl (some 5) rfl (.pointer (some ⟨wr.heap.size, 0, none⟩)) (.cells z10 54) (by as_aux_lemma => kernel_rfl) ?_ | (refine wpList_store_row rfl 54 _ _ rfl wr.heap.size (nmC e0 A9 c9).toArray rfl rfl 54 z10 (heap_alloc_new _ _) (zLP _ _ _) rfl (zMk _ _ _) ?_; rw [X2.out]) | refine wpList_load_mid rfl 54 _ rfl x (p + k * 10) (by rfl) (nmC e0 A9 c9) _ g3'.out Tryz.underlying54 rfl (zLQ _ _ _) ?_)
   try simp only [zAJ]
   refine wp_region_held_drew (S := fun w' => Below w.heap.size w w' ∧ w'.heap[wr.heap.size]? = some (.cells (nmC e0 A9 c9).toArray 54 (0, 0))) (by kernel_rfl) ⟨zBH B2.out, Q2.out⟩ (fun hHeld => ?_)
   refine tkE 198 0 (.pointer (some ⟨w.heap.size + 1, 0, none⟩)) hHeld ?_
   try simp only [zAJ]
   refine tkE 199 1 (.pointer (some ⟨w.heap.size + 1, 0, none⟩)) hHeld ?_
   try simp only [zAJ]
   refine tkE 200 2 (.pointer (some ⟨w.heap.size + 1, 0, none⟩)) hHeld ?_
   try simp only [zAJ]
   refine tkE 201 3 (.pointer (some ⟨w.heap.size + 1, 0, none⟩)) hHeld ?_
   try simp only [zAJ]
   refine tkE 203 5 (.pointer (some ⟨wr.heap.size, 0, none⟩)) hHeld ?_
   try simp only [zAJ]
   refine tkY 204 6 (.string e0.f0) rfl (Or.inl ⟨by rfl, fun w' hw' => by (have c : w'.cell? ⟨wr.heap.size, 0, none⟩ = some (.string e0.f0) := (zAA hw'.2 _).trans rfl); go_simp⟩) hHeld ?_
   try simp only [zAJ]
   refine tkE 205 7 (.pointer (some ⟨wr.heap.size, 1, none⟩)) hHeld ?_
   try simp only [zAJ]
   refine tkY 206 8 (.string e0.f1) rfl (Or.inl ⟨by rfl, fun w' hw' => by (have c : w'.cell? ⟨wr.heap.size, 1, none⟩ = some (.string e0.f1) := (zAA hw'.2 _).trans rfl); go_simp⟩) hHeld ?_
   try simp only [zAJ]
   refine tkE 207 9 (.pointer (some ⟨wr.heap.size, 2, none⟩)) hHeld ?_
   try simp only [zAJ]
   refine tkY 208 10 (.agg (at8 e0.f2.f0 e0.f2.f1 e0.f2.f2 e0.f2.f3 e0.f2.f4 e0.f2.f5 e0.f2.f6 (.slice A9 e0.f2.f7.length c9)).toList.toArray) rfl (yieldsIf_load_mid (by rfl) 26 _ (by rfl) wr.heap.size 2 (by rfl) (at8 e0.f2.f0 e0.f2.f1 e0.f2.f2 e0.f2.f3 e0.f2.f4 e0.f2.f5 e0.f2.f6 (.slice A9 e0.f2.f7.length c9)).toList _ (fun w' hw' j v hj => by rw [zAA hw'.2, Nat.add_comm, List.getElem?_toArray]; exact hj) Tryz.underlying26 rfl (zBQ _ _ _ _ _ _ _ _)) hHeld ?_
   try simp only [zAJ]
   rw [Array.toArray_toList]
   have OD := Lib.hid (show W2.drew.heap[w.heap.size + 1]? = some (.cells #[v] 174 (0, 0)) from O2.out)
   have RD := Lib.hid (show PRows NeC (fun q => q = w.heap.size + 1) w.heap.size 175 W2.drew v L0 from R2.out.kept (Nat.le_refl _) fun _ _ _ => rfl)
   clear O2 R2 Q2 B2 X2
   refine wpAnyH_ready (rs := [4, 11]) (by kernel_rfl) (by simp) (AllReadyH.cons rfl (fun K hK => ?_) (AllReadyH.cons rfl (fun K hK => ?_) (AllReadyH.nil)))
   ·rw [if_pos (by rfl)]
    have co := (zAA OD.out 0).trans (show #[v][0]? = some v from rfl)
    go_wp2_with fail
    refine hK.out _ _ hHeld (fun hHeld => ?_)
    clear hK K co
    try simp only [zAJ]
    refine wpAnyH_ready (rs := [11]) (by kernel_rfl) (by simp) (AllReadyH.cons rfl (fun K hK => ?_) (AllReadyH.nil))
    rw [if_pos (by rfl)]
    go_wp2_with ((go_at_call 52; refine (G2.out _ hHeld.1).mono ?_; rintro e w5 ⟨v9, rfl, hR, hb5⟩))
    refine hK.out _ _ ⟨hHeld.1.trans (hb5.mono hHeld.1.size), zBO hb5 hHeld.2⟩ (fun hHeld => ?_)
    obtain ⟨A', c', rfl, hc', hx'⟩ := zJV hR
    have O5 := Lib.hid (zBO hb5 OD.out)
    have R5 := Lib.hid (RD.out.below hb5)
    have C5 := Lib.hid hx'
    have CC := Lib.hid hc'
    have LT5 := Lib.hid (show ∀ k, v.ownBlock = some k → k < W2.drew.heap.size from fun k hk => (RD.out.low hk).2)
    have Z5 := hb5.size
    clear hK K hR hb5 hx' hc'
    try simp only [zAJ]
    refine tkY 210 12 (.agg #[.string e0.f0, .string e0.f1, .int .u32 e0.f2.f0, .int .u64 e0.f2.f1, .int .u32 e0.f2.f2, .int .u32 e0.f2.f3, .int .u32 e0.f2.f4, .int .u32 e0.f2.f5, .int .u32 e0.f2.f6, .slice A' e0.f2.f7.length c']) rfl (Or.inl ⟨by rfl, fun w' hw' => by first | rfl | kernel_rfl⟩) hHeld ?_
    try simp only [zAJ]
    refine wpAnyH_ready (rs := [13]) (by kernel_rfl) (by simp) (AllReadyH.cons rfl (fun K hK => ?_) (AllReadyH.nil))
    rw [if_pos (by rfl)]
    go_wp2_with fail
    refine hK.out _ _ ⟨hHeld.1.alloc hHeld.1.size _, by rw [heap_alloc_old _ _ (zAC hHeld.2)]; exact hHeld.2⟩ (fun hHeld => ?_)
    clear hK K
    try simp only [zAJ]
    refine wpAnyH_ready (rs := [14]) (by kernel_rfl) (by simp) (AllReadyH.cons rfl (fun K hK => ?_) (AllReadyH.nil))
    rw [if_pos (by rfl)]
    go_wp2_with fail
    refine hK.out _ _ ⟨hHeld.1.alloc hHeld.1.size _, by rw [heap_alloc_old _ _ (zAC hHeld.2)]; exact hHeld.2⟩ (fun hHeld => ?_)
    clear hK K
    try simp only [zAJ]
    refine wpAnyH_ready (rs := [15]) (by kernel_rfl) (by simp) (AllReadyH.cons rfl (fun K hK => ?_) (AllReadyH.nil))
    rw [if_pos (by rfl)]
    have hb6 := heap_alloc_new w5 (.cells #[.string e0.f0, .string e0.f1, .int .u32 e0.f2.f0, .int .u64 e0.f2.f1, .int .u32 e0.f2.f2, .int .u32 e0.f2.f3, .int .u32 e0.f2.f4, .int .u32 e0.f2.f5, .int .u32 e0.f2.f6, .slice A' e0.f2.f7.length c'] 177 (0, 0))
    have K7 : KAt NeC (fun q => q = w.heap.size + 1) ((w5.alloc (.cells #[.string e0.f0, .string e0.f1, .int .u32 e0.f2.f0, .int .u64 e0.f2.f1, .int .u32 e0.f2.f2, .int .u32 e0.f2.f3, .int .u32 e0.f2.f4, .int .u32 e0.f2.f5, .int .u32 e0.f2.f6, .slice A' e0.f2.f7.length c'] 177)).alloc (.cells #[.pointer (some ⟨w5.heap.size, 0, none⟩)] 175)) v w5.heap.size (zBK e0) := by
     refine zJW (w0 := W2.drew) Z5 LT5.out (fun k hk => by rw [hk]; exact zAC OD.out) A' c' (by rw [show (zBK e0).l.length = e0.f2.f7.length from List.length_map _]; exact (heap_alloc_old _ _ (by simp)).trans hb6) ?_ (by rw [show (zBK e0).l.length = e0.f2.f7.length from List.length_map _]; exact CC.out)
     rcases C5.out with h | ⟨x9, p9, h1, h2, h3, h4⟩
     ·exact .inl h
     ·refine .inr ⟨x9, p9, h1, h2, by simp; omega, fun k e' he => ?_⟩
      have hk9 : ((w5.alloc (.cells #[.string e0.f0, .string e0.f1, .int .u32 e0.f2.f0, .int .u64 e0.f2.f1, .int .u32 e0.f2.f2, .int .u32 e0.f2.f3, .int .u32 e0.f2.f4, .int .u32 e0.f2.f5, .int .u32 e0.f2.f6, .slice A' e0.f2.f7.length c'] 177)).alloc (.cells #[.pointer (some ⟨w5.heap.size, 0, none⟩)] 175)).heap[x9]? = w5.heap[x9]? := (heap_alloc_old _ _ (by simp; omega)).trans (heap_alloc_old _ _ h3)
      rw [cell_kept hk9, cell_kept hk9]
      exact h4 k e' he
    obtain ⟨v8, w8, hr8, hp8, hg8, hat8⟩ := ((R5.out.alloc (.cells #[.string e0.f0, .string e0.f1, .int .u32 e0.f2.f0, .int .u64 e0.f2.f1, .int .u32 e0.f2.f2, .int .u32 e0.f2.f3, .int .u32 e0.f2.f4, .int .u32 e0.f2.f5, .int .u32 e0.f2.f6, .slice A' e0.f2.f7.length c'] 177)).alloc (.cells #[.pointer (some ⟨w5.heap.size, 0, none⟩)] 175)).append (P := Tryz.prog) 172 172 Tryz.underlying172 zFq (zBK e0) w5.heap.size ⟨w5.heap.size + 1, 0, none⟩ 1 (by rw [add_plain, zAA (zBw _ _ _ _ (by simp))]; rfl) K7 (by omega) (by have := hHeld.1.size; simp at this ⊢; omega)
    have H8 := Lib.hid hr8
    have P8 := Lib.hid hp8
    have G8 := Lib.hid hg8
    clear hr8 hp8 hg8 hat8 K7 hb6
    refine Lib.wp_append_run _ _ _ _ _ rfl _ _ rfl rfl v8 w8 H8.out ?_
    have hlw : W2.drew.heap.size ≤ w5.heap.size := Z5
    have O8 := Lib.hid (show w8.heap[w.heap.size + 1]? = some (.cells #[v] 174 (0, 0)) from (G8.out.block _ (zAC ((heap_alloc_old (w5.alloc (.cells #[.string e0.f0, .string e0.f1, .int .u32 e0.f2.f0, .int .u64 e0.f2.f1, .int .u32 e0.f2.f2, .int .u32 e0.f2.f3, .int .u32 e0.f2.f4, .int .u32 e0.f2.f5, .int .u32 e0.f2.f6, .slice A' e0.f2.f7.length c'] 177)) (.cells #[.pointer (some ⟨w5.heap.size, 0, none⟩)] 175) (by have := zAC O5.out; simp; omega)).trans ((heap_alloc_old w5 (.cells #[.string e0.f0, .string e0.f1, .int .u32 e0.f2.f0, .int .u64 e0.f2.f1, .int .u32 e0.f2.f2, .int .u32 e0.f2.f3, .int .u32 e0.f2.f4, .int .u32 e0.f2.f5, .int .u32 e0.f2.f6, .slice A' e0.f2.f7.length c'] 177) (zAC O5.out)).trans O5.out))) (fun e => RD.out.nx _ e.symm rfl)).trans ((heap_alloc_old (w5.alloc (.cells #[.string e0.f0, .string e0.f1, .int .u32 e0.f2.f0, .int .u64 e0.f2.f1, .int .u32 e0.f2.f2, .int .u32 e0.f2.f3, .int .u32 e0.f2.f4, .int .u32 e0.f2.f5, .int .u32 e0.f2.f6, .slice A' e0.f2.f7.length c'] 177)) (.cells #[.pointer (some ⟨w5.heap.size, 0, none⟩)] 175) (by have := zAC O5.out; simp; omega)).trans ((heap_alloc_old w5 (.cells #[.string e0.f0, .string e0.f1, .int .u32 e0.f2.f0, .int .u64 e0.f2.f1, .int .u32 e0.f2.f2, .int .u32 e0.f2.f3, .int .u32 e0.f2.f4, .int .u32 e0.f2.f5, .int .u32 e0.f2.f6, .slice A' e0.f2.f7.length c'] 177) (zAC O5.out)).trans O5.out)))
    obtain ⟨A8, c8, rfl⟩ := P8.out.form
    generalize hN8 : (L0 ++ [zBK e0]).length = n8 at *
    have HN8 := Lib.hid hN8
    clear hN8
    refine hK.out _ _ ⟨hHeld.1.grown G8.out (by have := hHeld.1.size; simp at this ⊢; omega) (fun k hk => (R5.out.low hk).1), (G8.out.block _ (zAC hHeld.2) (fun e => by have := LT0.out _ e.symm; omega)).trans hHeld.2⟩ (fun hHeld => ?_)
    clear hK K
    try simp only [zAJ]
    refine tkE 214 16 (.pointer (some ⟨w.heap.size + 1, 0, none⟩)) hHeld ?_
    try simp only [zAJ]
    refine tkE 215 17 (.pointer (some ⟨w.heap.size + 1, 0, none⟩)) hHeld ?_
    try simp only [zAJ]
    refine wpAnyH_ready (rs := [18]) (by kernel_rfl) (by simp) (AllReadyH.cons rfl (fun K hK => ?_) (AllReadyH.nil))
    rw [if_pos (by rfl)]
    have co := (zAA O8.out 0).trans (show #[v][0]? = some v from rfl)
    have fo := zAP O8.out 0
    go_wp2_with fail
    refine hK.out _ _ ⟨hHeld.1.setCell (by show w.heap.size ≤ w.heap.size + 1; omega) _, (Below.heap_setCell _ _ _ _ (by show wr.heap.size ≠ w.heap.size + 1; omega)).trans hHeld.2⟩ (fun hHeld => ?_)
    clear hK K co fo
    try simp only [zAJ]
    have hO9 := zAT (i := 0) O8.out (.slice A8 n8 c8)
    have hR9 := P8.out.setCell (g := w.heap.size + 1) (i := 0) rfl (.slice A8 n8 c8)
    have hz9 : w.heap.size + 1 < (w8.setCell ⟨w.heap.size + 1, 0, none⟩ (.slice A8 n8 c8)).heap.size := zAC hO9
    have hb9 := hHeld.1
    rw [← HT.out] at hR9
    have O9 := Lib.hid hO9
    have R9 := Lib.hid hR9
    have B9 := Lib.hid hb9
    clear hO9 hR9 hb9 hHeld
    refine wpAnyH_done (by kernel_rfl) ?_ _
    go_wp2_with fail
    go_roundw
    case rel => exact ⟨k + 1, _, by omega, by go_num, O9, R9, B9, hz9⟩
    case measure => simp [intOf]; omega
   ·rw [if_pos (by rfl)]
    go_wp2_with ((go_at_call 52; refine (G2.out _ hHeld.1).mono ?_; rintro e w5 ⟨v9, rfl, hR, hb5⟩))
    refine hK.out _ _ ⟨hHeld.1.trans (hb5.mono hHeld.1.size), zBO hb5 hHeld.2⟩ (fun hHeld => ?_)
    obtain ⟨A', c', rfl, hc', hx'⟩ := zJV hR
    have O5 := Lib.hid (zBO hb5 OD.out)
    have R5 := Lib.hid (RD.out.below hb5)
    have C5 := Lib.hid hx'
    have CC := Lib.hid hc'
    have LT5 := Lib.hid (show ∀ k, v.ownBlock = some k → k < W2.drew.heap.size from fun k hk => (RD.out.low hk).2)
    have Z5 := hb5.size
    clear hK K hR hb5 hx' hc'
    try simp only [zAJ]
    refine tkY 210 12 (.agg #[.string e0.f0, .string e0.f1, .int .u32 e0.f2.f0, .int .u64 e0.f2.f1, .int .u32 e0.f2.f2, .int .u32 e0.f2.f3, .int .u32 e0.f2.f4, .int .u32 e0.f2.f5, .int .u32 e0.f2.f6, .slice A' e0.f2.f7.length c']) rfl (Or.inl ⟨by rfl, fun w' hw' => by first | rfl | kernel_rfl⟩) hHeld ?_
    try simp only [zAJ]
    refine wpAnyH_ready (rs := [4, 13]) (by kernel_rfl) (by simp) (AllReadyH.cons rfl (fun K hK => ?_) (AllReadyH.cons rfl (fun K hK => ?_) (AllReadyH.nil)))
    ·rw [if_pos (by rfl)]
     have co := (zAA O5.out 0).trans (show #[v][0]? = some v from rfl)
     go_wp2_with fail
     refine hK.out _ _ hHeld (fun hHeld => ?_)
     clear hK K co
     try simp only [zAJ]
     refine wpAnyH_ready (rs := [13]) (by kernel_rfl) (by simp) (AllReadyH.cons rfl (fun K hK => ?_) (AllReadyH.nil))
     rw [if_pos (by rfl)]
     go_wp2_with fail
     refine hK.out _ _ ⟨hHeld.1.alloc hHeld.1.size _, by rw [heap_alloc_old _ _ (zAC hHeld.2)]; exact hHeld.2⟩ (fun hHeld => ?_)
     clear hK K
     try simp only [zAJ]
     refine wpAnyH_ready (rs := [14]) (by kernel_rfl) (by simp) (AllReadyH.cons rfl (fun K hK => ?_) (AllReadyH.nil))
     rw [if_pos (by rfl)]
     go_wp2_with fail
     refine hK.out _ _ ⟨hHeld.1.alloc hHeld.1.size _, by rw [heap_alloc_old _ _ (zAC hHeld.2)]; exact hHeld.2⟩ (fun hHeld => ?_)
     clear hK K
     try simp only [zAJ]
     refine wpAnyH_ready (rs := [15]) (by kernel_rfl) (by simp) (AllReadyH.cons rfl (fun K hK => ?_) (AllReadyH.nil))
     rw [if_pos (by rfl)]
     have hb6 := heap_alloc_new w5 (.cells #[.string e0.f0, .string e0.f1, .int .u32 e0.f2.f0, .int .u64 e0.f2.f1, .int .u32 e0.f2.f2, .int .u32 e0.f2.f3, .int .u32 e0.f2.f4, .int .u32 e0.f2.f5, .int .u32 e0.f2.f6, .slice A' e0.f2.f7.length c'] 177 (0, 0))
     have K7 : KAt NeC (fun q => q = w.heap.size + 1) ((w5.alloc (.cells #[.string e0.f0, .string e0.f1, .int .u32 e0.f2.f0, .int .u64 e0.f2.f1, .int .u32 e0.f2.f2, .int .u32 e0.f2.f3, .int .u32 e0.f2.f4, .int .u32 e0.f2.f5, .int .u32 e0.f2.f6, .slice A' e0.f2.f7.length c'] 177)).alloc (.cells #[.pointer (some ⟨w5.heap.size, 0, none⟩)] 175)) v w5.heap.size (zBK e0) := by
      refine zJW (w0 := W2.drew) Z5 LT5.out (fun k hk => by rw [hk]; exact zAC OD.out) A' c' (by rw [show (zBK e0).l.length = e0.f2.f7.length from List.length_map _]; exact (heap_alloc_old _ _ (by simp)).trans hb6) ?_ (by rw [show (zBK e0).l.length = e0.f2.f7.length from List.length_map _]; exact CC.out)
      rcases C5.out with h | ⟨x9, p9, h1, h2, h3, h4⟩
      ·exact .inl h
      ·refine .inr ⟨x9, p9, h1, h2, by simp; omega, fun k e' he => ?_⟩
       have hk9 : ((w5.alloc (.cells #[.string e0.f0, .string e0.f1, .int .u32 e0.f2.f0, .int .u64 e0.f2.f1, .int .u32 e0.f2.f2, .int .u32 e0.f2.f3, .int .u32 e0.f2.f4, .int .u32 e0.f2.f5, .int .u32 e0.f2.f6, .slice A' e0.f2.f7.length c'] 177)).alloc (.cells #[.pointer (some ⟨w5.heap.size, 0, none⟩)] 175)).heap[x9]? = w5.heap[x9]? := (heap_alloc_old _ _ (by simp; omega)).trans (heap_alloc_old _ _ h3)
       rw [cell_kept hk9, cell_kept hk9]
       exact h4 k e' he
     obtain ⟨v8, w8, hr8, hp8, hg8, hat8⟩ := ((R5.out.alloc (.cells #[.string e0.f0, .string e0.f1, .int .u32 e0.f2.f0, .int .u64 e0.f2.f1, .int .u32 e0.f2.f2, .int .u32 e0.f2.f3, .int .u32 e0.f2.f4, .int .u32 e0.f2.f5, .int .u32 e0.f2.f6, .slice A' e0.f2.f7.length c'] 177)).alloc (.cells #[.pointer (some ⟨w5.heap.size, 0, none⟩)] 175)).append (P := Tryz.prog) 172 172 Tryz.underlying172 zFq (zBK e0) w5.heap.size ⟨w5.heap.size + 1, 0, none⟩ 1 (by rw [add_plain, zAA (zBw _ _ _ _ (by simp))]; rfl) K7 (by omega) (by have := hHeld.1.size; simp at this ⊢; omega)
     have H8 := Lib.hid hr8
     have P8 := Lib.hid hp8
     have G8 := Lib.hid hg8
     clear hr8 hp8 hg8 hat8 K7 hb6
     refine Lib.wp_append_run _ _ _ _ _ rfl _ _ rfl rfl v8 w8 H8.out ?_
     have hlw : W2.drew.heap.size ≤ w5.heap.size := Z5
     have O8 := Lib.hid (show w8.heap[w.heap.size + 1]? = some (.cells #[v] 174 (0, 0)) from (G8.out.block _ (zAC ((heap_alloc_old (w5.alloc (.cells #[.string e0.f0, .string e0.f1, .int .u32 e0.f2.f0, .int .u64 e0.f2.f1, .int .u32 e0.f2.f2, .int .u32 e0.f2.f3, .int .u32 e0.f2.f4, .int .u32 e0.f2.f5, .int .u32 e0.f2.f6, .slice A' e0.f2.f7.length c'] 177)) (.cells #[.pointer (some ⟨w5.heap.size, 0, none⟩)] 175) (by have := zAC O5.out; simp; omega)).trans ((heap_alloc_old w5 (.cells #[.string e0.f0, .string e0.f1, .int .u32 e0.f2.f0, .int .u64 e0.f2.f1, .int .u32 e0.f2.f2, .int .u32 e0.f2.f3, .int .u32 e0.f2.f4, .int .u32 e0.f2.f5, .int .u32 e0.f2.f6, .slice A' e0.f2.f7.length c'] 177) (zAC O5.out)).trans O5.out))) (fun e => RD.out.nx _ e.symm rfl)).trans ((heap_alloc_old (w5.alloc (.cells #[.string e0.f0, .string e0.f1, .int .u32 e0.f2.f0, .int .u64 e0.f2.f1, .int .u32 e0.f2.f2, .int .u32 e0.f2.f3, .int .u32 e0.f2.f4, .int .u32 e0.f2.f5, .int .u32 e0.f2.f6, .slice A' e0.f2.f7.length c'] 177)) (.cells #[.pointer (some ⟨w5.heap.size, 0, none⟩)] 175) (by have := zAC O5.out; simp; omega)).trans ((heap_alloc_old w5 (.cells #[.string e0.f0, .string e0.f1, .int .u32 e0.f2.f0, .int .u64 e0.f2.f1, .int .u32 e0.f2.f2, .int .u32 e0.f2.f3, .int .u32 e0.f2.f4, .int .u32 e0.f2.f5, .int .u32 e0.f2.f6, .slice A' e0.f2.f7.length c'] 177) (zAC O5.out)).trans O5.out)))
     obtain ⟨A8, c8, rfl⟩ := P8.out.form
     generalize hN8 : (L0 ++ [zBK e0]).length = n8 at *
     have HN8 := Lib.hid hN8
     clear hN8
     refine hK.out _ _ ⟨hHeld.1.grown G8.out (by have := hHeld.1.size; simp at this ⊢; omega) (fun k hk => (R5.out.low hk).1), (G8.out.block _ (zAC hHeld.2) (fun e => by have := LT0.out _ e.symm; omega)).trans hHeld.2⟩ (fun hHeld => ?_)
     clear hK K
     try simp only [zAJ]
     refine tkE 214 16 (.pointer (some ⟨w.heap.size + 1, 0, none⟩)) hHeld ?_
     try simp only [zAJ]
     refine tkE 215 17 (.pointer (some ⟨w.heap.size + 1, 0, none⟩)) hHeld ?_
     try simp only [zAJ]
     refine wpAnyH_ready (rs := [18]) (by kernel_rfl) (by simp) (AllReadyH.cons rfl (fun K hK => ?_) (AllReadyH.nil))
     rw [if_pos (by rfl)]
     have co := (zAA O8.out 0).trans (show #[v][0]? = some v from rfl)
     have fo := zAP O8.out 0
     go_wp2_with fail
     refine hK.out _ _ ⟨hHeld.1.setCell (by show w.heap.size ≤ w.heap.size + 1; omega) _, (Below.heap_setCell _ _ _ _ (by show wr.heap.size ≠ w.heap.size + 1; omega)).trans hHeld.2⟩ (fun hHeld => ?_)
     clear hK K co fo
     try simp only [zAJ]
     have hO9 := zAT (i := 0) O8.out (.slice A8 n8 c8)
     have hR9 := P8.out.setCell (g := w.heap.size + 1) (i := 0) rfl (.slice A8 n8 c8)
     have hz9 : w.heap.size + 1 < (w8.setCell ⟨w.heap.size + 1, 0, none⟩ (.slice A8 n8 c8)).heap.size := zAC hO9
     have hb9 := hHeld.1
     rw [← HT.out] at hR9
     have O9 := Lib.hid hO9
     have R9 := Lib.hid hR9
     have B9 := Lib.hid hb9
     clear hO9 hR9 hb9 hHeld
     refine wpAnyH_done (by kernel_rfl) ?_ _
     go_wp2_with fail
     go_roundw
     case rel => exact ⟨k + 1, _, by omega, by go_num, O9, R9, B9, hz9⟩
     case measure => simp [intOf]; omega
    ·rw [if_pos (by rfl)]
     go_wp2_with fail
     refine hK.out _ _ ⟨hHeld.1.alloc hHeld.1.size _, by rw [heap_alloc_old _ _ (zAC hHeld.2)]; exact hHeld.2⟩ (fun hHeld => ?_)
     clear hK K
     try simp only [zAJ]
     refine wpAnyH_ready (rs := [4, 14]) (by kernel_rfl) (by simp) (AllReadyH.cons rfl (fun K hK => ?_) (AllReadyH.cons rfl (fun K hK => ?_) (AllReadyH.nil)))
     ·rw [if_pos (by rfl)]
      have co := (zAA ((heap_alloc_old w5 (.cells #[.string e0.f0, .string e0.f1, .int .u32 e0.f2.f0, .int .u64 e0.f2.f1, .int .u32 e0.f2.f2, .int .u32 e0.f2.f3, .int .u32 e0.f2.f4, .int .u32 e0.f2.f5, .int .u32 e0.f2.f6, .slice A' e0.f2.f7.length c'] 177) (zAC O5.out)).trans O5.out) 0).trans (show #[v][0]? = some v from rfl)
      go_wp2_with fail
      refine hK.out _ _ hHeld (fun hHeld => ?_)
      clear hK K co
      try simp only [zAJ]
      refine wpAnyH_ready (rs := [14]) (by kernel_rfl) (by simp) (AllReadyH.cons rfl (fun K hK => ?_) (AllReadyH.nil))
      rw [if_pos (by rfl)]
      go_wp2_with fail
      refine hK.out _ _ ⟨hHeld.1.alloc hHeld.1.size _, by rw [heap_alloc_old _ _ (zAC hHeld.2)]; exact hHeld.2⟩ (fun hHeld => ?_)
      clear hK K
      try simp only [zAJ]
      refine wpAnyH_ready (rs := [15]) (by kernel_rfl) (by simp) (AllReadyH.cons rfl (fun K hK => ?_) (AllReadyH.nil))
      rw [if_pos (by rfl)]
      have hb6 := heap_alloc_new w5 (.cells #[.string e0.f0, .string e0.f1, .int .u32 e0.f2.f0, .int .u64 e0.f2.f1, .int .u32 e0.f2.f2, .int .u32 e0.f2.f3, .int .u32 e0.f2.f4, .int .u32 e0.f2.f5, .int .u32 e0.f2.f6, .slice A' e0.f2.f7.length c'] 177 (0, 0))
      have K7 : KAt NeC (fun q => q = w.heap.size + 1) ((w5.alloc (.cells #[.string e0.f0, .string e0.f1, .int .u32 e0.f2.f0, .int .u64 e0.f2.f1, .int .u32 e0.f2.f2, .int .u32 e0.f2.f3, .int .u32 e0.f2.f4, .int .u32 e0.f2.f5, .int .u32 e0.f2.f6, .slice A' e0.f2.f7.length c'] 177)).alloc (.cells #[.pointer (some ⟨w5.heap.size, 0, none⟩)] 175)) v w5.heap.size (zBK e0) := by
       refine zJW (w0 := W2.drew) Z5 LT5.out (fun k hk => by rw [hk]; exact zAC OD.out) A' c' (by rw [show (zBK e0).l.length = e0.f2.f7.length from List.length_map _]; exact (heap_alloc_old _ _ (by simp)).trans hb6) ?_ (by rw [show (zBK e0).l.length = e0.f2.f7.length from List.length_map _]; exact CC.out)
       rcases C5.out with h | ⟨x9, p9, h1, h2, h3, h4⟩
       ·exact .inl h
       ·refine .inr ⟨x9, p9, h1, h2, by simp; omega, fun k e' he => ?_⟩
        have hk9 : ((w5.alloc (.cells #[.string e0.f0, .string e0.f1, .int .u32 e0.f2.f0, .int .u64 e0.f2.f1, .int .u32 e0.f2.f2, .int .u32 e0.f2.f3, .int .u32 e0.f2.f4, .int .u32 e0.f2.f5, .int .u32 e0.f2.f6, .slice A' e0.f2.f7.length c'] 177)).alloc (.cells #[.pointer (some ⟨w5.heap.size, 0, none⟩)] 175)).heap[x9]? = w5.heap[x9]? := (heap_alloc_old _ _ (by simp; omega)).trans (heap_alloc_old _ _ h3)
        rw [cell_kept hk9, cell_kept hk9]
        exact h4 k e' he
      obtain ⟨v8, w8, hr8, hp8, hg8, hat8⟩ := ((R5.out.alloc (.cells #[.string e0.f0, .string e0.f1, .int .u32 e0.f2.f0, .int .u64 e0.f2.f1, .int .u32 e0.f2.f2, .int .u32 e0.f2.f3, .int .u32 e0.f2.f4, .int .u32 e0.f2.f5, .int .u32 e0.f2.f6, .slice A' e0.f2.f7.length c'] 177)).alloc (.cells #[.pointer (some ⟨w5.heap.size, 0, none⟩)] 175)).append (P := Tryz.prog) 172 172 Tryz.underlying172 zFq (zBK e0) w5.heap.size ⟨w5.heap.size + 1, 0, none⟩ 1 (by rw [add_plain, zAA (zBw _ _ _ _ (by simp))]; rfl) K7 (by omega) (by have := hHeld.1.size; simp at this ⊢; omega)
      have H8 := Lib.hid hr8
      have P8 := Lib.hid hp8
      have G8 := Lib.hid hg8
      clear hr8 hp8 hg8 hat8 K7 hb6
      refine Lib.wp_append_run _ _ _ _ _ rfl _ _ rfl rfl v8 w8 H8.out ?_
      have hlw : W2.drew.heap.size ≤ w5.heap.size := Z5
      have O8 := Lib.hid (show w8.heap[w.heap.size + 1]? = some (.cells #[v] 174 (0, 0)) from (G8.out.block _ (zAC ((heap_alloc_old (w5.alloc (.cells #[.string e0.f0, .string e0.f1, .int .u32 e0.f2.f0, .int .u64 e0.f2.f1, .int .u32 e0.f2.f2, .int .u32 e0.f2.f3, .int .u32 e0.f2.f4, .int .u32 e0.f2.f5, .int .u32 e0.f2.f6, .slice A' e0.f2.f7.length c'] 177)) (.cells #[.pointer (some ⟨w5.heap.size, 0, none⟩)] 175) (by have := zAC O5.out; simp; omega)).trans ((heap_alloc_old w5 (.cells #[.string e0.f0, .string e0.f1, .int .u32 e0.f2.f0, .int .u64 e0.f2.f1, .int .u32 e0.f2.f2, .int .u32 e0.f2.f3, .int .u32 e0.f2.f4, .int .u32 e0.f2.f5, .int .u32 e0.f2.f6, .slice A' e0.f2.f7.length c'] 177) (zAC O5.out)).trans O5.out))) (fun e => RD.out.nx _ e.symm rfl)).trans ((heap_alloc_old (w5.alloc (.cells #[.string e0.f0, .string e0.f1, .int .u32 e0.f2.f0, .int .u64 e0.f2.f1, .int .u32 e0.f2.f2, .int .u32 e0.f2.f3, .int .u32 e0.f2.f4, .int .u32 e0.f2.f5, .int .u32 e0.f2.f6, .slice A' e0.f2.f7.length c'] 177)) (.cells #[.pointer (some ⟨w5.heap.size, 0, none⟩)] 175) (by have := zAC O5.out; simp; omega)).trans ((heap_alloc_old w5 (.cells #[.string e0.f0, .string e0.f1, .int .u32 e0.f2.f0, .int .u64 e0.f2.f1, .int .u32 e0.f2.f2, .int .u32 e0.f2.f3, .int .u32 e0.f2.f4, .int .u32 e0.f2.f5, .int .u32 e0.f2.f6, .slice A' e0.f2.f7.length c'] 177) (zAC O5.out)).trans O5.out)))
      obtain ⟨A8, c8, rfl⟩ := P8.out.form
      generalize hN8 : (L0 ++ [zBK e0]).length = n8 at *
      have HN8 := Lib.hid hN8
      clear hN8
      refine hK.out _ _ ⟨hHeld.1.grown G8.out (by have := hHeld.1.size; simp at this ⊢; omega) (fun k hk => (R5.out.low hk).1), (G8.out.block _ (zAC hHeld.2) (fun e => by have := LT0.out _ e.symm; omega)).trans hHeld.2⟩ (fun hHeld => ?_)
      clear hK K
      try simp only [zAJ]
      refine tkE 214 16 (.pointer (some ⟨w.heap.size + 1, 0, none⟩)) hHeld ?_
      try simp only [zAJ]
      refine tkE 215 17 (.pointer (some ⟨w.heap.size + 1, 0, none⟩)) hHeld ?_
      try simp only [zAJ]
      refine wpAnyH_ready (rs := [18]) (by kernel_rfl) (by simp) (AllReadyH.cons rfl (fun K hK => ?_) (AllReadyH.nil))
      rw [if_pos (by rfl)]
      have co := (zAA O8.out 0).trans (show #[v][0]? = some v from rfl)
      have fo := zAP O8.out 0
      go_wp2_with fail
      refine hK.out _ _ ⟨hHeld.1.setCell (by show w.heap.size ≤ w.heap.size + 1; omega) _, (Below.heap_setCell _ _ _ _ (by show wr.heap.size ≠ w.heap.size + 1; omega)).trans hHeld.2⟩ (fun hHeld => ?_)
      clear hK K co fo
      try simp only [zAJ]
      have hO9 := zAT (i := 0) O8.out (.slice A8 n8 c8)
      have hR9 := P8.out.setCell (g := w.heap.size + 1) (i := 0) rfl (.slice A8 n8 c8)
      have hz9 : w.heap.size + 1 < (w8.setCell ⟨w.heap.size + 1, 0, none⟩ (.slice A8 n8 c8)).heap.size := zAC hO9
      have hb9 := hHeld.1
      rw [← HT.out] at hR9
      have O9 := Lib.hid hO9
      have R9 := Lib.hid hR9
      have B9 := Lib.hid hb9
      clear hO9 hR9 hb9 hHeld
      refine wpAnyH_done (by kernel_rfl) ?_ _
      go_wp2_with fail
      go_roundw
      case rel => exact ⟨k + 1, _, by omega, by go_num, O9, R9, B9, hz9⟩
      case measure => simp [intOf]; omega
     ·rw [if_pos (by rfl)]
      go_wp2_with fail
      refine hK.out _ _ ⟨hHeld.1.alloc hHeld.1.size _, by rw [heap_alloc_old _ _ (zAC hHeld.2)]; exact hHeld.2⟩ (fun hHeld => ?_)
      clear hK K
      try simp only [zAJ]
      refine wpAnyH_ready (rs := [4]) (by kernel_rfl) (by simp) (AllReadyH.cons rfl (fun K hK => ?_) (AllReadyH.nil))
      rw [if_pos (by rfl)]
      have co := (zAA ((heap_alloc_old (w5.alloc (.cells #[.string e0.f0, .string e0.f1, .int .u32 e0.f2.f0, .int .u64 e0.f2.f1, .int .u32 e0.f2.f2, .int .u32 e0.f2.f3, .int .u32 e0.f2.f4, .int .u32 e0.f2.f5, .int .u32 e0.f2.f6, .slice A' e0.f2.f7.length c'] 177)) (.cells #[.pointer (some ⟨w5.heap.size, 0, none⟩)] 175) (by have := zAC O5.out; simp; omega)).trans ((heap_alloc_old w5 (.cells #[.string e0.f0, .string e0.f1, .int .u32 e0.f2.f0, .int .u64 e0.f2.f1, .int .u32 e0.f2.f2, .int .u32 e0.f2.f3, .int .u32 e0.f2.f4, .int .u32 e0.f2.f5, .int .u32 e0.f2.f6, .slice A' e0.f2.f7.length c'] 177) (zAC O5.out)).trans O5.out)) 0).trans (show #[v][0]? = some v from rfl)
      go_wp2_with fail
      refine hK.out _ _ hHeld (fun hHeld => ?_)
      clear hK K co
      try simp only [zAJ]
      refine wpAnyH_ready (rs := [15]) (by kernel_rfl) (by simp) (AllReadyH.cons rfl (fun K hK => ?_) (AllReadyH.nil))
      rw [if_pos (by rfl)]
      have hb6 := heap_alloc_new w5 (.cells #[.string e0.f0, .string e0.f1, .int .u32 e0.f2.f0, .int .u64 e0.f2.f1, .int .u32 e0.f2.f2, .int .u32 e0.f2.f3, .int .u32 e0.f2.f4, .int .u32 e0.f2.f5, .int .u32 e0.f2.f6, .slice A' e0.f2.f7.length c'] 177 (0, 0))
      have K7 : KAt NeC (fun q => q = w.heap.size + 1) ((w5.alloc (.cells #[.string e0.f0, .string e0.f1, .int .u32 e0.f2.f0, .int .u64 e0.f2.f1, .int .u32 e0.f2.f2, .int .u32 e0.f2.f3, .int .u32 e0.f2.f4, .int .u32 e0.f2.f5, .int .u32 e0.f2.f6, .slice A' e0.f2.f7.length c'] 177)).alloc (.cells #[.pointer (some ⟨w5.heap.size, 0, none⟩)] 175)) v w5.heap.size (zBK e0) := by
       refine zJW (w0 := W2.drew) Z5 LT5.out (fun k hk => by rw [hk]; exact zAC OD.out) A' c' (by rw [show (zBK e0).l.length = e0.f2.f7.length from List.length_map _]; exact (heap_alloc_old _ _ (by simp)).trans hb6) ?_ (by rw [show (zBK e0).l.length = e0.f2.f7.length from List.length_map _]; exact CC.out)
       rcases C5.out with h | ⟨x9, p9, h1, h2, h3, h4⟩
       ·exact .inl h
       ·refine .inr ⟨x9, p9, h1, h2, by simp; omega, fun k e' he => ?_⟩
        have hk9 : ((w5.alloc (.cells #[.string e0.f0, .string e0.f1, .int .u32 e0.f2.f0, .int .u64 e0.f2.f1, .int .u32 e0.f2.f2, .int .u32 e0.f2.f3, .int .u32 e0.f2.f4, .int .u32 e0.f2.f5, .int .u32 e0.f2.f6, .slice A' e0.f2.f7.length c'] 177)).alloc (.cells #[.pointer (some ⟨w5.heap.size, 0, none⟩)] 175)).heap[x9]? = w5.heap[x9]? := (heap_alloc_old _ _ (by simp; omega)).trans (heap_alloc_old _ _ h3)
        rw [cell_kept hk9, cell_kept hk9]
        exact h4 k e' he
      obtain ⟨v8, w8, hr8, hp8, hg8, hat8⟩ := ((R5.out.alloc (.cells #[.string e0.f0, .string e0.f1, .int .u32 e0.f2.f0, .int .u64 e0.f2.f1, .int .u32 e0.f2.f2, .int .u32 e0.f2.f3, .int .u32 e0.f2.f4, .int .u32 e0.f2.f5, .int .u32 e0.f2.f6, .slice A' e0.f2.f7.length c'] 177)).alloc (.cells #[.pointer (some ⟨w5.heap.size, 0, none⟩)] 175)).append (P := Tryz.prog) 172 172 Tryz.underlying172 zFq (zBK e0) w5.heap.size ⟨w5.heap.size + 1, 0, none⟩ 1 (by rw [add_plain, zAA (zBw _ _ _ _ (by simp))]; rfl) K7 (by omega) (by have := hHeld.1.size; simp at this ⊢; omega)
      have H8 := Lib.hid hr8
      have P8 := Lib.hid hp8
      have G8 := Lib.hid hg8
      clear hr8 hp8 hg8 hat8 K7 hb6
      refine Lib.wp_append_run _ _ _ _ _ rfl _ _ rfl rfl v8 w8 H8.out ?_
      have hlw : W2.drew.heap.size ≤ w5.heap.size := Z5
      have O8 := Lib.hid (show w8.heap[w.heap.size + 1]? = some (.cells #[v] 174 (0, 0)) from (G8.out.block _ (zAC ((heap_alloc_old (w5.alloc (.cells #[.string e0.f0, .string e0.f1, .int .u32 e0.f2.f0, .int .u64 e0.f2.f1, .int .u32 e0.f2.f2, .int .u32 e0.f2.f3, .int .u32 e0.f2.f4, .int .u32 e0.f2.f5, .int .u32 e0.f2.f6, .slice A' e0.f2.f7.length c'] 177)) (.cells #[.pointer (some ⟨w5.heap.size, 0, none⟩)] 175) (by have := zAC O5.out; simp; omega)).trans ((heap_alloc_old w5 (.cells #[.string e0.f0, .string e0.f1, .int .u32 e0.f2.f0, .int .u64 e0.f2.f1, .int .u32 e0.f2.f2, .int .u32 e0.f2.f3, .int .u32 e0.f2.f4, .int .u32 e0.f2.f5, .int .u32 e0.f2.f6, .slice A' e0.f2.f7.length c'] 177) (zAC O5.out)).trans O5.out))) (fun e => RD.out.nx _ e.symm rfl)).trans ((heap_alloc_old (w5.alloc (.cells #[.string e0.f0, .string e0.f1, .int .u32 e0.f2.f0, .int .u64 e0.f2.f1, .int .u32 e0.f2.f2, .int .u32 e0.f2.f3, .int .u32 e0.f2.f4, .int .u32 e0.f2.f5, .int .u32 e0.f2.f6, .slice A' e0.f2.f7.length c'] 177)) (.cells #[.pointer (some ⟨w5.heap.size, 0, none⟩)] 175) (by have := zAC O5.out; simp; omega)).trans ((heap_alloc_old w5 (.cells #[.string e0.f0, .string e0.f1, .int .u32 e0.f2.f0, .int .u64 e0.f2.f1, .int .u32 e0.f2.f2, .int .u32 e0.f2.f3, .int .u32 e0.f2.f4, .int .u32 e0.f2.f5, .int .u32 e0.f2.f6, .slice A' e0.f2.f7.length c'] 177) (zAC O5.out)).trans O5.out)))
      obtain ⟨A8, c8, rfl⟩ := P8.out.form
      generalize hN8 : (L0 ++ [zBK e0]).length = n8 at *
      have HN8 := Lib.hid hN8
      clear hN8
      refine hK.out _ _ ⟨hHeld.1.grown G8.out (by have := hHeld.1.size; simp at this ⊢; omega) (fun k hk => (R5.out.low hk).1), (G8.out.block _ (zAC hHeld.2) (fun e => by have := LT0.out _ e.symm; omega)).trans hHeld.2⟩ (fun hHeld => ?_)
      clear hK K
      try simp only [zAJ]
      refine tkE 214 16 (.pointer (some ⟨w.heap.size + 1, 0, none⟩)) hHeld ?_
      try simp only [zAJ]
      refine tkE 215 17 (.pointer (some ⟨w.heap.size + 1, 0, none⟩)) hHeld ?_
      try simp only [zAJ]
      refine wpAnyH_ready (rs := [18]) (by kernel_rfl) (by simp) (AllReadyH.cons rfl (fun K hK => ?_) (AllReadyH.nil))
      rw [if_pos (by rfl)]
      have co := (zAA O8.out 0).trans (show #[v][0]? = some v from rfl)
      have fo := zAP O8.out 0
      go_wp2_with fail
      refine hK.out _ _ ⟨hHeld.1.setCell (by show w.heap.size ≤ w.heap.size + 1; omega) _, (Below.heap_setCell _ _ _ _ (by show wr.heap.size ≠ w.heap.size + 1; omega)).trans hHeld.2⟩ (fun hHeld => ?_)
      clear hK K co fo
      try simp only [zAJ]
      have hO9 := zAT (i := 0) O8.out (.slice A8 n8 c8)
      have hR9 := P8.out.setCell (g := w.heap.size + 1) (i := 0) rfl (.slice A8 n8 c8)
      have hz9 : w.heap.size + 1 < (w8.setCell ⟨w.heap.size + 1, 0, none⟩ (.slice A8 n8 c8)).heap.size := zAC hO9
      have hb9 := hHeld.1
      rw [← HT.out] at hR9
      have O9 := Lib.hid hO9
      have R9 := Lib.hid hR9
      have B9 := Lib.hid hb9
      clear hO9 hR9 hb9 hHeld
      refine wpAnyH_done (by kernel_rfl) ?_ _
      go_wp2_with fail
      go_roundw
      case rel => exact ⟨k + 1, _, by omega, by go_num, O9, R9, B9, hz9⟩
      case measure => simp [intOf]; omega
  ·obtain rfl : k = n := by omega
   have hfull : l.take k = l := List.take_of_length_le (by have := HN.out; omega)
   rw [hfull] at HR
   obtain ⟨A', c', rfl⟩ := HR.out.form
   obtain ⟨h1, _, h3⟩ := HR.out.pat
   have hO := HO.out
   rw [List.length_map] at hO h3
   have HO := Lib.hid hO
   have F := Lib.hid h1
   have F3 := Lib.hid h3
   clear hfull hk hlt h1 h3 hO
   go_wp2_with fail
   go_ret
   first | exact ⟨⟨_, A', c', rfl, HO.out, F.out, F3.out⟩, HBe.out⟩ | exact ⟨⟨_, rfl, A', c', HO.out, F.out, F3.out⟩, HBe.out⟩
theorem zI6 (P : Array Value) (A : Option Addr) (n cap : Nat) (l : List Nm) (id : Int) (w : World) (hsz : P.size = 24) (h0 : P[0]? = some (.int .i64 104)) (h1 : P[1]? = some (.int .u32 id)) (h17 : P[17]? = some (.slice A n cap))
  (hn : n = l.length) (hn1 : n ≤ 100000) (hr : Kd.C k54 w A l.length l) (ok : ∀ e ∈ l, (zBK e).Ok) (hB : (zBR (l.map zBK)).length ≤ 1000000) (i0 : 0 ≤ id) (i1 : id ≤ 4294967295) :
  Calls Tryz.prog 10 #[.agg P] w fun r w' => r = .returned (.tuple #[.string (bs (zA2 104 id (zAQ (n : Int) ++ zBR (l.map zBK)))), .int .i64 0]) ∧ Below w.heap.size w w' := by
 have ok1 : ∀ e ∈ l, e.f2.f7.length ≤ 1000000 := fun e he => by have := (ok e he).hl.1; simpa [zBK] using this
 have ok2 : ∀ e ∈ l.map zBK, e.Ok := fun e he => by obtain ⟨x, hx, rfl⟩ := List.mem_map.1 he; exact ok x hx
 have h := zBo P 104 171 183 id (zA5 104 id (zAQ (n : Int) ++ zBR (l.map zBK)) 0) [] w hsz h0 rfl rfl h1 (fun _ _ => by kernel_rfl) (enters_of Tryz.func183 (by kernel_rfl) rfl)
  (fun W hW => (zJx P A n cap l W h0 h17 hn hn1 ok1 (Kd.C_below hr hW)).mono fun r w' ⟨⟨q, A', c', he, hb, hx, hc'⟩, hB1⟩ => ⟨⟨q, he, (zGU q n c' A' (l.map zBK) id w' (by rw [hn]; exact hb) (by rw [hn, List.length_map]) hx ok2 hB hn1 i0 i1).mono fun _ _ hm => zBe hm⟩, hB1⟩) (by simp only [zA5, List.length_append, List.length_cons, List.length_nil, zAM]; omega) (by simp) (by simp only [zA5, List.length_append, List.length_cons, List.length_nil, zAM]; omega)
 rwa [zBT, List.append_nil] at h
end Go.Proofs.YtgnficcjnijdbaaGreat
namespace Go.Proofs.YtgnficcjnijdbaaGreat
open Go.RowKit Go.Great Go.Proofs.YtgnficcjnijdbaaGreatW.PrintWords Go.Proofs.YtgnficcjnijdbaaGreatW.PrintLast Go.Proofs.YtgnficcjnijdbaaGreatW.PrintMore Go.Proofs.YtgnficcjnijdbaaGreat.KK
theorem zLR (a : Act) (h : a.tmps.size = 178) (hd : a.defers = []) : ∃ u : Nat → Value, a = ⟨#[u 0, u 1, u 2, u 3, u 4, u 5, u 6, u 7, u 8, u 9, u 10, u 11, u 12, u 13, u 14, u 15, u 16, u 17, u 18, u 19, u 20, u 21, u 22, u 23, u 24, u 25, u 26, u 27, u 28, u 29, u 30, u 31, u 32, u 33, u 34, u 35, u 36, u 37, u 38, u 39, u 40, u 41, u 42, u 43, u 44, u 45, u 46, u 47, u 48, u 49, u 50, u 51, u 52, u 53, u 54, u 55, u 56, u 57, u 58, u 59, u 60, u 61, u 62, u 63, u 64, u 65, u 66, u 67, u 68, u 69, u 70, u 71, u 72, u 73, u 74, u 75, u 76, u 77, u 78, u 79, u 80, u 81, u 82, u 83, u 84, u 85, u 86, u 87, u 88, u 89, u 90, u 91, u 92, u 93, u 94, u 95, u 96, u 97, u 98, u 99, u 100, u 101, u 102, u 103, u 104, u 105, u 106, u 107, u 108, u 109, u 110, u 111, u 112, u 113, u 114, u 115, u 116, u 117, u 118, u 119, u 120, u 121, u 122, u 123, u 124, u 125, u 126, u 127, u 128, u 129, u 130, u 131, u 132, u 133, u 134, u 135, u 136, u 137, u 138, u 139, u 140, u 141, u 142, u 143, u 144, u 145, u 146, u 147, u 148, u 149, u 150, u 151, u 152, u 153, u 154, u 155, u 156, u 157, u 158, u 159, u 160, u 161, u 162, u 163, u 164, u 165, u 166, u 167, u 168, u 169, u 170, u 171, u 172, u 173, u 174, u 175, u 176, u 177], []⟩ ∧ ∀ k v, a.tmps[k]? = some v → u k = v := by
 obtain ⟨tm, ds⟩ := a
 obtain rfl : ds = [] := hd
 refine ⟨fun k => tm.getD k undef, ?_, fun k v hv => ?_⟩
 ·exact congrArg (fun x => Act.mk x []) (zN2 tm h)
 ·have hv' : tm[k]? = some v := hv
  simp [hv']
theorem zOm : Enters Tryz.prog 34 := enters_of Tryz.func34 (by kernel_rfl) rfl
theorem zOn : Enters Tryz.prog 35 := enters_of Tryz.func35 (by kernel_rfl) rfl
theorem zLS (p : Pk) (A1 : Option Addr) (c1 : Nat) (A2 : Option Addr) (c2 : Nat) (A3 : Option Addr) (c3 : Nat) (j : Nat) (v : Value) (hj : (atC p.f9 A1 c1).toList[j]? = some v) : (pkC p A1 c1 A2 c2 A3 c3)[9 + j]? = some v := by
 have hj8 : j < 8 := (List.getElem?_eq_some_iff.1 hj).1
 match j, hj8 with
 | 0, _ => exact hj
 | 1, _ => exact hj
 | 2, _ => exact hj
 | 3, _ => exact hj
 | 4, _ => exact hj
 | 5, _ => exact hj
 | 6, _ => exact hj
 | 7, _ => exact hj
theorem zJX (w : World) (g : Nat) (p : Pk) (A1 : Option Addr) (c1 : Nat) (A2 : Option Addr) (c2 : Nat) (A3 : Option Addr) (c3 : Nat) (hg : w.heap[g]? = some (.cells (pkC p A1 c1 A2 c2 A3 c3) 29 (0, 0))) : (loadVar 26 ⟨g, 9, none⟩).run Tryz.prog w = .ok (.agg (atC p.f9 A1 c1)) w := by
 have h := run_loadVar_mid (P := Tryz.prog) w g 9 26 (atC p.f9 A1 c1).toList _ (fun j v hj => by rw [zAA hg]; exact zLS p A1 c1 A2 c2 A3 c3 j v hj) Tryz.underlying26 rfl (zBQ _ _ _ _ _ _ _ _)
 rwa [Array.toArray_toList] at h
theorem zN6 {p q : Pk} (e0 : p.f0 = q.f0) (e1 : p.f1 = q.f1) (e2 : p.f2 = q.f2) (e3 : p.f3 = q.f3) (e4 : p.f4 = q.f4) (e5 : p.f5 = q.f5) (e6 : p.f6 = q.f6) (e7 : p.f7 = q.f7) (e8 : p.f8 = q.f8) (e9 : p.f9 = q.f9) (e10 : p.f10 = q.f10) (e11 : p.f11 = q.f11) (e12 : p.f12 = q.f12) (e13 : p.f13 = q.f13) (e14 : p.f14 = q.f14) (e15 : p.f15 = q.f15) (e16 : p.f16 = q.f16) : p = q := by
 cases p; cases q; simp_all
set_option maxRecDepth 100000 in
theorem zMl (p q : Pk) (A1 : Option Addr) (c1 : Nat) (A2 : Option Addr) (c2 : Nat) (A3 : Option Addr) (c3 : Nat) (B1 : Option Addr) (d1 : Nat) (B2 : Option Addr) (d2 : Nat) (B3 : Option Addr) (d3 : Nat) (w : World)
  (h1 : SlE w A1 c1 p.f9.f7) (h1' : SlE w B1 d1 q.f9.f7) (h2 : SlN w A2 c2 p.f10) (h2' : SlN w B2 d2 q.f10) (h3 : SlE w A3 c3 p.f11) (h3' : SlE w B3 d3 q.f11)
  (hl9 : p.f9.f7.length ≤ 2147483647) (hl10 : p.f10.length ≤ 1000000) (hl11 : p.f11.length ≤ 2147483647) (hlN : ∀ e ∈ p.f10, e.f2.f7.length ≤ 2147483647) :
  Calls Tryz.prog 12 #[.agg (pkC p A1 c1 A2 c2 A3 c3), .agg (pkC q B1 d1 B2 d2 B3 d3)] w fun r w' => r = .returned (.bool (eqB p q)) ∧ Below w.heap.size w w' := by
 obtain ⟨W, hW⟩ : ∃ W, (w.alloc (.cells (pkC p A1 c1 A2 c2 A3 c3) 29)).alloc (.cells (pkC q B1 d1 B2 d2 B3 d3) 29) = W := ⟨_, rfl⟩
 have b2 : W.heap[w.heap.size]? = some (.cells (pkC p A1 c1 A2 c2 A3 c3) 29 (0, 0)) := by rw [← hW, heap_alloc_old _ _ (by simp)]; exact heap_alloc_new _ _
 have b3 : W.heap[w.heap.size + 1]? = some (.cells (pkC q B1 d1 B2 d2 B3 d3) 29 (0, 0)) := by rw [← hW]; exact zBw _ _ _ _ (by simp)
 have hbl : Below w.heap.size w W := by rw [← hW]; exact ((Below.refl _ _).alloc (Nat.le_refl _) _).alloc (by simp) _
 have l2 := zAC b2
 have l3 := zAC b3
 have HW := Lib.hid hW
 obtain ⟨r0, hr0⟩ : ∃ r, r = eqB p q := ⟨_, rfl⟩
 rw [← hr0]
 have HR0 := Lib.hid hr0
 clear hW hr0
 go_enter Tryz.func12, Tryz.ntmps12
 go_upto_region 1 with (first | refine wpList_boxTo rfl 29 _ rfl (some 2) rfl w.heap.size rfl (pkC p A1 c1 A2 c2 A3 c3) rfl ?_ | (refine wpList_boxTo rfl 29 _ rfl (some 3) rfl (w.heap.size + 1) (by simp) (pkC q B1 d1 B2 d2 B3 d3) rfl ?_; rw [HW.out]))
 refine wp_region_lit ?_
 refine zN1 (N := 178) 6 29 0 0 3 3 3 (.int .i64 p.f0) (.int .i64 q.f0) _ (by rfl) rfl rfl rfl rfl (by omega) (by omega) zOc zNn (zLK _ _) b2 b3 rfl rfl (fun a0 k0 => ?_)
 refine zBr 11 10 5 29 1 1 22 22 22 (.int .u32 p.f1) (.int .u32 q.f1) _ k0 (by omega) (by omega) (by omega) (by rfl) zOd zCq (zEs _ _) b2 b3 rfl rfl (fun a1 k1 => ?_)
 refine zBr 18 17 12 29 2 2 9 9 9 (.string p.f2) (.string q.f2) _ k1 (by omega) (by omega) (by omega) (by rfl) zOe zAk (zD2 _ _) b2 b3 rfl rfl (fun a2 k2 => ?_)
 refine zBr 25 24 19 29 3 3 9 9 9 (.string p.f3) (.string q.f3) _ k2 (by omega) (by omega) (by omega) (by rfl) zOf zAk (zD2 _ _) b2 b3 rfl rfl (fun a3 k3 => ?_)
 refine zBr 32 31 26 29 4 4 9 9 9 (.string p.f4) (.string q.f4) _ k3 (by omega) (by omega) (by omega) (by rfl) zOg zAk (zD2 _ _) b2 b3 rfl rfl (fun a4 k4 => ?_)
 refine zBr 39 38 33 29 5 5 23 23 23 (.int .u64 p.f5) (.int .u64 q.f5) _ k4 (by omega) (by omega) (by omega) (by rfl) zOh zKq (zN3 _ _) b2 b3 rfl rfl (fun a5 k5 => ?_)
 refine zBr 46 45 40 29 6 6 22 22 22 (.int .u32 p.f6) (.int .u32 q.f6) _ k5 (by omega) (by omega) (by omega) (by rfl) zOi zCq (zEs _ _) b2 b3 rfl rfl (fun a6 k6 => ?_)
 refine zBr 53 52 47 29 7 7 22 22 22 (.int .u32 p.f7) (.int .u32 q.f7) _ k6 (by omega) (by omega) (by omega) (by rfl) zOj zCq (zEs _ _) b2 b3 rfl rfl (fun a7 k7 => ?_)
 refine zBr 60 59 54 29 8 8 9 9 9 (.string p.f8) (.string q.f8) _ k7 (by omega) (by omega) (by omega) (by rfl) zOk zAk (zD2 _ _) b2 b3 rfl rfl (fun a8 k8 => ?_)
 refine zJS (Wp := fun w' => Below W.heap.size W w') 67 66 61 29 9 9 26 (.agg (atC p.f9 A1 c1)) (.agg (atC q.f9 B1 d1)) (eqB p.f9 q.f9) k8 (by omega) (by omega) (by omega) (by rfl) zOl (zJX W _ p _ _ _ _ _ _ b2) (zJX W _ q _ _ _ _ _ _ b3) zOm (zD1 p.f9 q.f9 A1 B1 c1 d1 W hl9 (h1.below hbl) (h1'.below hbl)) (Below.refl _ _) (fun a9 w2 k9 hb2 => ?_)
 have b2' := (hb2.block _ l2).trans b2
 have b3' := (hb2.block _ l3).trans b3
 have hw2 := hbl.trans (hb2.mono hbl.size)
 refine zN0 75 74 69 29 10 17 27 3 3 A2 B2 p.f10.length q.f10.length c2 d2 _ k9 (by omega) (by omega) (by omega) (by rfl) zOH zJL (zLK _ _) b2' b3' rfl rfl Tryz.underlying27 Tryz.underlying27 (fun a10 k10 => ?_)
 refine zJS (Wp := fun w' => Below w2.heap.size w2 w') 84 83 78 29 11 18 24 (.slice A3 p.f11.length c3) (.slice B3 q.f11.length d3) (eqB p.f11 q.f11) k10 (by omega) (by omega) (by omega) (by rfl) zOI (zBs zDy w2 _ 18 _ _ _ _ b2' rfl) (zBs zDy w2 _ 18 _ _ _ _ b3' rfl) zOn ((zJr A3 B3 c3 d3 p.f11 q.f11 w2 hl11 (h3.below hw2) (h3'.below hw2)).mono fun e w' h => ⟨h.1, by obtain ⟨_, kd, rfl⟩ := h; exact zBB (Below.refl _ _) kd⟩) (Below.refl _ _) (fun a11 w3 k11 hb3 => ?_)
 have b2'' := (hb3.block _ (Nat.lt_of_lt_of_le l2 hb2.size)).trans b2'
 have b3'' := (hb3.block _ (Nat.lt_of_lt_of_le l3 hb2.size)).trans b3'
 have hw3 := hw2.trans (hb3.mono hw2.size)
 refine zBr 92 91 86 29 12 19 22 22 22 (.int .u32 p.f12) (.int .u32 q.f12) _ k11 (by omega) (by omega) (by omega) (by rfl) zOJ zCq (zEs _ _) b2'' b3'' rfl rfl (fun a12 k12 => ?_)
 refine zBr 99 98 93 29 13 20 22 22 22 (.int .u32 p.f13) (.int .u32 q.f13) _ k12 (by omega) (by omega) (by omega) (by rfl) zOK zCq (zEs _ _) b2'' b3'' rfl rfl (fun a13 k13 => ?_)
 refine zBr 106 105 100 29 14 21 9 9 9 (.string p.f14) (.string q.f14) _ k13 (by omega) (by omega) (by omega) (by rfl) zOL zAk (zD2 _ _) b2'' b3'' rfl rfl (fun a14 k14 => ?_)
 refine zBr 113 112 107 29 15 22 9 9 9 (.string p.f15) (.string q.f15) _ k14 (by omega) (by omega) (by omega) (by rfl) zOM zAk (zD2 _ _) b2'' b3'' rfl rfl (fun a15 k15 => ?_)
 refine zBr 120 119 114 29 16 23 9 9 9 (.string p.f16) (.string q.f16) _ k15 (by omega) (by omega) (by omega) (by rfl) zON zAk (zD2 _ _) b2'' b3'' rfl rfl (fun a16 k16 => ?_)
 refine wpList_nil ?_
 have z16 := k16.size
 have d16 := k16.defers
 obtain ⟨u, rfl, hu⟩ := zLR a16 z16 d16
 have g2 := hu 2 _ k16.s2
 have g3 := hu 3 _ k16.s3
 have g4 := hu 4 _ k16.s4
 have g126 := hu 126 _ k16.pv
 rw [g2, g3, g4, g126]
 dsimp only
 clear hu g2 g3 g4 g126 z16 d16 k0 k1 k2 k3 k4 k5 k6 k7 k8 k9 k10 k11 k12 k13 k14 k15 k16 b2 b3 b2' b3' hb2 hb3 hbl hw2 l2 l3
 have HF := Lib.hid hw3
 have C2 := Lib.hid b2''
 have C3 := Lib.hid b3''
 have N2 := Lib.hid (h2.below hw3)
 have N3 := Lib.hid (h2'.below hw3)
 have HN := Lib.hid hlN
 clear h1 h1' h2 h2' h3 h3' hw3 b2'' b3'' HW hlN
 generalize hB : (((((((((((((((((!eqB p.f0 q.f0 || !eqB p.f1 q.f1) || !eqB p.f2 q.f2) || !eqB p.f3 q.f3) || !eqB p.f4 q.f4) || !eqB p.f5 q.f5) || !eqB p.f6 q.f6) || !eqB p.f7 q.f7) || !eqB p.f8 q.f8) || !eqB p.f9 q.f9) || !eqB ((p.f10.length : Nat) : Int) ((q.f10.length : Nat) : Int)) || !eqB p.f11 q.f11) || !eqB p.f12 q.f12) || !eqB p.f13 q.f13) || !eqB p.f14 q.f14) || !eqB p.f15 q.f15) || !eqB p.f16 q.f16)) = B
 cases B with
 | true =>
  have hne : eqB p q = false := zAr (fun e => by subst e; simp [eqB] at hB)
  have H9 := Lib.hid (HR0.out.trans hne)
  clear hB hne HR0
  go_wp2_with fail
  go_ret
  exact ⟨by rw [H9.out]; rfl, HF.out⟩
 | false =>
  simp only [Bool.or_eq_false_iff, Bool.not_eq_false', eqB_iff] at hB
  obtain ⟨⟨⟨⟨⟨⟨⟨⟨⟨⟨⟨⟨⟨⟨⟨⟨e0, e1⟩, e2⟩, e3⟩, e4⟩, e5⟩, e6⟩, e7⟩, e8⟩, e9⟩, e10⟩, e11⟩, e12⟩, e13⟩, e14⟩, e15⟩, e16⟩ := hB
  have hlen : q.f10.length = p.f10.length := by omega
  have H9 := Lib.hid (show r0 = eqB p.f10 q.f10 by
   rw [HR0.out]
   by_cases h : p.f10 = q.f10
   ·rw [zB6 h, zB6 (zN6 e0 e1 e2 e3 e4 e5 e6 e7 e8 e9 h e11 e12 e13 e14 e15 e16)]
   ·rw [zAr h, zAr (fun e => h (by rw [e]))])
  have c17 : w3.cell? ⟨w.heap.size, 17, none⟩ = some (.slice A2 p.f10.length c2) := (zAA C2.out 17).trans rfl
  have d17 : w3.cell? ⟨w.heap.size + 1, 17, none⟩ = some (.slice B2 q.f10.length d2) := (zAA C3.out 17).trans rfl
  rw [hlen] at d17
  have L2 := zAC C2.out
  have L3 := zAC C3.out
  clear e0 e1 e2 e3 e4 e5 e6 e7 e8 e9 e11 e12 e13 e14 e15 e16 HR0 C2 C3
  have M2 := Lib.hid (fun k e he => zDm N2.out.1 k e he)
  have M3 := Lib.hid (fun k e he => zDm N3.out.1 k e he)
  clear N2 N3 e10
  generalize p.f10 = l at *
  generalize q.f10 = m at *
  generalize hn : l.length = n at *
  have HL := Lib.hid hn
  have HM := Lib.hid hlen
  clear hn hlen
  go_wp2_with fail
  go_loopw [130] (fun i wr => ∃ k : Nat, k ≤ n ∧ i = .int .i64 (k : Int) ∧ Hid (∀ j, j < k → l[j]? = m[j]?) ∧ Hid (Below w3.heap.size w3 wr)) (fun i _ => n - (intOf i).toNat)
  case atStart => exact ⟨0, Nat.zero_le _, rfl, Lib.hid (fun j hj => by omega), Lib.hid (Below.refl _ _)⟩
  case round =>
   obtain ⟨k, hk, rfl, HJ, HB⟩ := hrel
   have c17' : wr.cell? ⟨w.heap.size, 17, none⟩ = some (.slice A2 n c2) := by rw [cell_kept (HB.out.block _ L2)]; exact c17
   have d17' : wr.cell? ⟨w.heap.size + 1, 17, none⟩ = some (.slice B2 n d2) := by rw [cell_kept (HB.out.block _ L3)]; exact d17
   by_cases hlt : k < n
   ·have hkl : k < l.length := by have := HL.out; omega
    have hkm : k < m.length := by have := HM.out; omega
    obtain ⟨x, o, A9, c9, rfl, hx, g1, g2⟩ := M2.out k l[k] (List.getElem?_eq_getElem hkl)
    obtain ⟨y, o', B9, d9, rfl, hy, g1', g2'⟩ := M3.out k m[k] (List.getElem?_eq_getElem hkm)
    have hl9 := HN.out _ (List.getElem_mem hkl)
    have HE := Lib.hid (show l[k]? = some l[k] ∧ m[k]? = some m[k] from ⟨List.getElem?_eq_getElem hkl, List.getElem?_eq_getElem hkm⟩)
    generalize l[k] = a at *
    generalize m[k] = b at *
    clear hkl hkm c17 d17
    have ga0 : wr.cell? ⟨x, o + k * 10, none⟩ = some (.string a.f0) := by rw [cell_kept (HB.out.block x hx)]; exact g1 0 _ rfl
    have gb0 : wr.cell? ⟨y, o' + k * 10, none⟩ = some (.string b.f0) := by rw [cell_kept (HB.out.block y hy)]; exact g1' 0 _ rfl
    have ga1 : wr.cell? ⟨x, o + k * 10 + 1, none⟩ = some (.string a.f1) := by rw [cell_kept (HB.out.block x hx)]; exact g1 1 _ rfl
    have gb1 : wr.cell? ⟨y, o' + k * 10 + 1, none⟩ = some (.string b.f1) := by rw [cell_kept (HB.out.block y hy)]; exact g1' 1 _ rfl
    have X1 := Lib.hid g1
    have X2 := Lib.hid g1'
    have Y1 := Lib.hid g2
    have Y2 := Lib.hid g2'
    clear g1 g1' g2 g2'
    by_cases hf : a.f0 = b.f0
    case neg =>
     have hB2 := zCy hf
     have H8 := Lib.hid (show r0 = false from H9.out.trans (zAr (fun e => hf (by subst e; have := HE.out; exact congrArg (·.f0) (Option.some.inj (this.1.symm.trans this.2))))))
     have HF2 := Lib.hid (HF.out.trans (HB.out.mono HF.out.size))
     clear hf HJ
     go_wp2_with fail
     go_quiet (fail)
     go_wp2_with fail
     go_ret
     exact ⟨by rw [H8.out]; rfl, zBB HF2.out _⟩
    case pos =>
     rw [hf] at ga0
     by_cases hg : a.f1 = b.f1
     case neg =>
      have hB2 := zCy hg
      have H8 := Lib.hid (show r0 = false from H9.out.trans (zAr (fun e => hg (by subst e; have := HE.out; exact congrArg (·.f1) (Option.some.inj (this.1.symm.trans this.2))))))
      have HF2 := Lib.hid (HF.out.trans (HB.out.mono HF.out.size))
      clear hf hg HJ
      go_wp2_with fail
      go_quiet (fail)
      go_wp2_with fail
      go_ret
      exact ⟨by rw [H8.out]; rfl, zBB HF2.out _⟩
     case pos =>
     rw [hg] at ga1
     by_cases ha : a.f2 = b.f2
     case neg =>
      have H8 := Lib.hid (show r0 = false from H9.out.trans (zAr (fun e => ha (by subst e; have := HE.out; exact congrArg (·.f2) (Option.some.inj (this.1.symm.trans this.2))))))
      clear hf hg HJ
      have SD := Lib.hid (fun (U : World) (hU : Below w3.heap.size w3 U ∧ U.cell? ⟨w.heap.size, 17, none⟩ = some (.slice (some ⟨x, o, none⟩) n c2) ∧ U.cell? ⟨w.heap.size + 1, 17, none⟩ = some (.slice (some ⟨y, o', none⟩) n d2) ∧ U.cell? ⟨x, o + k * 10, none⟩ = some (.string b.f0) ∧ U.cell? ⟨x, o + k * 10 + 1, none⟩ = some (.string b.f1) ∧ U.cell? ⟨x, o + k * 10 + 2, none⟩ = some (.int .u32 a.f2.f0) ∧ U.cell? ⟨x, o + k * 10 + 3, none⟩ = some (.int .u64 a.f2.f1) ∧ U.cell? ⟨x, o + k * 10 + 4, none⟩ = some (.int .u32 a.f2.f2) ∧ U.cell? ⟨x, o + k * 10 + 5, none⟩ = some (.int .u32 a.f2.f3) ∧ U.cell? ⟨x, o + k * 10 + 6, none⟩ = some (.int .u32 a.f2.f4) ∧ U.cell? ⟨x, o + k * 10 + 7, none⟩ = some (.int .u32 a.f2.f5) ∧ U.cell? ⟨x, o + k * 10 + 8, none⟩ = some (.int .u32 a.f2.f6) ∧ U.cell? ⟨x, o + k * 10 + 9, none⟩ = some (.slice A9 a.f2.f7.length c9) ∧ U.cell? ⟨y, o' + k * 10, none⟩ = some (.string b.f0) ∧ U.cell? ⟨y, o' + k * 10 + 1, none⟩ = some (.string b.f1) ∧ U.cell? ⟨y, o' + k * 10 + 2, none⟩ = some (.int .u32 b.f2.f0) ∧ U.cell? ⟨y, o' + k * 10 + 3, none⟩ = some (.int .u64 b.f2.f1) ∧ U.cell? ⟨y, o' + k * 10 + 4, none⟩ = some (.int .u32 b.f2.f2) ∧ U.cell? ⟨y, o' + k * 10 + 5, none⟩ = some (.int .u32 b.f2.f3) ∧ U.cell? ⟨y, o' + k * 10 + 6, none⟩ = some (.int .u32 b.f2.f4) ∧ U.cell? ⟨y, o' + k * 10 + 7, none⟩ = some (.int .u32 b.f2.f5) ∧ U.cell? ⟨y, o' + k * 10 + 8, none⟩ = some (.int .u32 b.f2.f6) ∧ U.cell? ⟨y, o' + k * 10 + 9, none⟩ = some (.slice B9 b.f2.f7.length d9)) => zD1 a.f2 b.f2 A9 B9 c9 d9 U hl9 (Y1.out.below hU.1) (Y2.out.below hU.1))
      have SV := Lib.hid (show eqB a.f2 b.f2 = false from zAr ha)
      clear ha
      have HX2 := Lib.hid hx
      have HY2 := Lib.hid hy
      have hb0 := HB.out
      have ga2 : wr.cell? ⟨x, o + k * 10 + 2, none⟩ = some (.int .u32 a.f2.f0) := by rw [cell_kept (HB.out.block x hx)]; exact X1.out 2 _ rfl
      have gb2 : wr.cell? ⟨y, o' + k * 10 + 2, none⟩ = some (.int .u32 b.f2.f0) := by rw [cell_kept (HB.out.block y hy)]; exact X2.out 2 _ rfl
      have ga3 : wr.cell? ⟨x, o + k * 10 + 3, none⟩ = some (.int .u64 a.f2.f1) := by rw [cell_kept (HB.out.block x hx)]; exact X1.out 3 _ rfl
      have gb3 : wr.cell? ⟨y, o' + k * 10 + 3, none⟩ = some (.int .u64 b.f2.f1) := by rw [cell_kept (HB.out.block y hy)]; exact X2.out 3 _ rfl
      have ga4 : wr.cell? ⟨x, o + k * 10 + 4, none⟩ = some (.int .u32 a.f2.f2) := by rw [cell_kept (HB.out.block x hx)]; exact X1.out 4 _ rfl
      have gb4 : wr.cell? ⟨y, o' + k * 10 + 4, none⟩ = some (.int .u32 b.f2.f2) := by rw [cell_kept (HB.out.block y hy)]; exact X2.out 4 _ rfl
      have ga5 : wr.cell? ⟨x, o + k * 10 + 5, none⟩ = some (.int .u32 a.f2.f3) := by rw [cell_kept (HB.out.block x hx)]; exact X1.out 5 _ rfl
      have gb5 : wr.cell? ⟨y, o' + k * 10 + 5, none⟩ = some (.int .u32 b.f2.f3) := by rw [cell_kept (HB.out.block y hy)]; exact X2.out 5 _ rfl
      have ga6 : wr.cell? ⟨x, o + k * 10 + 6, none⟩ = some (.int .u32 a.f2.f4) := by rw [cell_kept (HB.out.block x hx)]; exact X1.out 6 _ rfl
      have gb6 : wr.cell? ⟨y, o' + k * 10 + 6, none⟩ = some (.int .u32 b.f2.f4) := by rw [cell_kept (HB.out.block y hy)]; exact X2.out 6 _ rfl
      have ga7 : wr.cell? ⟨x, o + k * 10 + 7, none⟩ = some (.int .u32 a.f2.f5) := by rw [cell_kept (HB.out.block x hx)]; exact X1.out 7 _ rfl
      have gb7 : wr.cell? ⟨y, o' + k * 10 + 7, none⟩ = some (.int .u32 b.f2.f5) := by rw [cell_kept (HB.out.block y hy)]; exact X2.out 7 _ rfl
      have ga8 : wr.cell? ⟨x, o + k * 10 + 8, none⟩ = some (.int .u32 a.f2.f6) := by rw [cell_kept (HB.out.block x hx)]; exact X1.out 8 _ rfl
      have gb8 : wr.cell? ⟨y, o' + k * 10 + 8, none⟩ = some (.int .u32 b.f2.f6) := by rw [cell_kept (HB.out.block y hy)]; exact X2.out 8 _ rfl
      have ga9 : wr.cell? ⟨x, o + k * 10 + 9, none⟩ = some (.slice A9 a.f2.f7.length c9) := by rw [cell_kept (HB.out.block x hx)]; exact X1.out 9 _ rfl
      have gb9 : wr.cell? ⟨y, o' + k * 10 + 9, none⟩ = some (.slice B9 b.f2.f7.length d9) := by rw [cell_kept (HB.out.block y hy)]; exact X2.out 9 _ rfl
      clear hx hy
      go_wp2_with fail
      go_region_held3 (fun w' => Below w3.heap.size w3 w' ∧ w'.cell? ⟨w.heap.size, 17, none⟩ = some (.slice (some ⟨x, o, none⟩) n c2) ∧ w'.cell? ⟨w.heap.size + 1, 17, none⟩ = some (.slice (some ⟨y, o', none⟩) n d2) ∧ w'.cell? ⟨x, o + k * 10, none⟩ = some (.string b.f0) ∧ w'.cell? ⟨x, o + k * 10 + 1, none⟩ = some (.string b.f1) ∧ w'.cell? ⟨x, o + k * 10 + 2, none⟩ = some (.int .u32 a.f2.f0) ∧ w'.cell? ⟨x, o + k * 10 + 3, none⟩ = some (.int .u64 a.f2.f1) ∧ w'.cell? ⟨x, o + k * 10 + 4, none⟩ = some (.int .u32 a.f2.f2) ∧ w'.cell? ⟨x, o + k * 10 + 5, none⟩ = some (.int .u32 a.f2.f3) ∧ w'.cell? ⟨x, o + k * 10 + 6, none⟩ = some (.int .u32 a.f2.f4) ∧ w'.cell? ⟨x, o + k * 10 + 7, none⟩ = some (.int .u32 a.f2.f5) ∧ w'.cell? ⟨x, o + k * 10 + 8, none⟩ = some (.int .u32 a.f2.f6) ∧ w'.cell? ⟨x, o + k * 10 + 9, none⟩ = some (.slice A9 a.f2.f7.length c9) ∧ w'.cell? ⟨y, o' + k * 10, none⟩ = some (.string b.f0) ∧ w'.cell? ⟨y, o' + k * 10 + 1, none⟩ = some (.string b.f1) ∧ w'.cell? ⟨y, o' + k * 10 + 2, none⟩ = some (.int .u32 b.f2.f0) ∧ w'.cell? ⟨y, o' + k * 10 + 3, none⟩ = some (.int .u64 b.f2.f1) ∧ w'.cell? ⟨y, o' + k * 10 + 4, none⟩ = some (.int .u32 b.f2.f2) ∧ w'.cell? ⟨y, o' + k * 10 + 5, none⟩ = some (.int .u32 b.f2.f3) ∧ w'.cell? ⟨y, o' + k * 10 + 6, none⟩ = some (.int .u32 b.f2.f4) ∧ w'.cell? ⟨y, o' + k * 10 + 7, none⟩ = some (.int .u32 b.f2.f5) ∧ w'.cell? ⟨y, o' + k * 10 + 8, none⟩ = some (.int .u32 b.f2.f6) ∧ w'.cell? ⟨y, o' + k * 10 + 9, none⟩ = some (.slice B9 b.f2.f7.length d9))
       (((first | (go_split_ands) | skip); (repeat' apply And.intro) <;> first | assumption | exact zAp (by assumption) | exact Below.trans (by assumption) (hb.mono (Below.size (by assumption))) | exact zAW hb (Nat.lt_of_lt_of_le L2 (Below.size (by assumption))) (by assumption) | exact zAW hb (Nat.lt_of_lt_of_le L3 (Below.size (by assumption))) (by assumption) | exact zAW hb (Nat.lt_of_lt_of_le HX2.out (Below.size (by assumption))) (by assumption) | exact zAW hb (Nat.lt_of_lt_of_le HY2.out (Below.size (by assumption))) (by assumption)))
       (first
        | (go_at_call 34; refine (SD.out _ (by assumption)).mono ?_; rw [SV.out]; rintro r w' ⟨rfl, hb⟩))
      all_goals
       go_split_ands
       go_wp2_with fail
       go_ret
       exact ⟨by rw [H8.out]; rfl, HF.out.trans (Below.mono (by assumption) HF.out.size)⟩
     case pos =>
      have HJ2 := Lib.hid (show ∀ j, j < k + 1 → l[j]? = m[j]? from fun j hj => by
       rcases Nat.lt_or_ge j k with h | h
       ·exact HJ.out j h
       ·obtain rfl : j = k := by omega
        rw [HE.out.1, HE.out.2]
        cases a; cases b; simp_all)
      clear hf hg HJ
      have SD := Lib.hid (fun (U : World) (hU : Below w3.heap.size w3 U ∧ U.cell? ⟨w.heap.size, 17, none⟩ = some (.slice (some ⟨x, o, none⟩) n c2) ∧ U.cell? ⟨w.heap.size + 1, 17, none⟩ = some (.slice (some ⟨y, o', none⟩) n d2) ∧ U.cell? ⟨x, o + k * 10, none⟩ = some (.string b.f0) ∧ U.cell? ⟨x, o + k * 10 + 1, none⟩ = some (.string b.f1) ∧ U.cell? ⟨x, o + k * 10 + 2, none⟩ = some (.int .u32 a.f2.f0) ∧ U.cell? ⟨x, o + k * 10 + 3, none⟩ = some (.int .u64 a.f2.f1) ∧ U.cell? ⟨x, o + k * 10 + 4, none⟩ = some (.int .u32 a.f2.f2) ∧ U.cell? ⟨x, o + k * 10 + 5, none⟩ = some (.int .u32 a.f2.f3) ∧ U.cell? ⟨x, o + k * 10 + 6, none⟩ = some (.int .u32 a.f2.f4) ∧ U.cell? ⟨x, o + k * 10 + 7, none⟩ = some (.int .u32 a.f2.f5) ∧ U.cell? ⟨x, o + k * 10 + 8, none⟩ = some (.int .u32 a.f2.f6) ∧ U.cell? ⟨x, o + k * 10 + 9, none⟩ = some (.slice A9 a.f2.f7.length c9) ∧ U.cell? ⟨y, o' + k * 10, none⟩ = some (.string b.f0) ∧ U.cell? ⟨y, o' + k * 10 + 1, none⟩ = some (.string b.f1) ∧ U.cell? ⟨y, o' + k * 10 + 2, none⟩ = some (.int .u32 b.f2.f0) ∧ U.cell? ⟨y, o' + k * 10 + 3, none⟩ = some (.int .u64 b.f2.f1) ∧ U.cell? ⟨y, o' + k * 10 + 4, none⟩ = some (.int .u32 b.f2.f2) ∧ U.cell? ⟨y, o' + k * 10 + 5, none⟩ = some (.int .u32 b.f2.f3) ∧ U.cell? ⟨y, o' + k * 10 + 6, none⟩ = some (.int .u32 b.f2.f4) ∧ U.cell? ⟨y, o' + k * 10 + 7, none⟩ = some (.int .u32 b.f2.f5) ∧ U.cell? ⟨y, o' + k * 10 + 8, none⟩ = some (.int .u32 b.f2.f6) ∧ U.cell? ⟨y, o' + k * 10 + 9, none⟩ = some (.slice B9 b.f2.f7.length d9)) => zD1 a.f2 b.f2 A9 B9 c9 d9 U hl9 (Y1.out.below hU.1) (Y2.out.below hU.1))
      have SV := Lib.hid (show eqB a.f2 b.f2 = true from zB6 ha)
      clear ha
      have HX2 := Lib.hid hx
      have HY2 := Lib.hid hy
      have hb0 := HB.out
      have ga2 : wr.cell? ⟨x, o + k * 10 + 2, none⟩ = some (.int .u32 a.f2.f0) := by rw [cell_kept (HB.out.block x hx)]; exact X1.out 2 _ rfl
      have gb2 : wr.cell? ⟨y, o' + k * 10 + 2, none⟩ = some (.int .u32 b.f2.f0) := by rw [cell_kept (HB.out.block y hy)]; exact X2.out 2 _ rfl
      have ga3 : wr.cell? ⟨x, o + k * 10 + 3, none⟩ = some (.int .u64 a.f2.f1) := by rw [cell_kept (HB.out.block x hx)]; exact X1.out 3 _ rfl
      have gb3 : wr.cell? ⟨y, o' + k * 10 + 3, none⟩ = some (.int .u64 b.f2.f1) := by rw [cell_kept (HB.out.block y hy)]; exact X2.out 3 _ rfl
      have ga4 : wr.cell? ⟨x, o + k * 10 + 4, none⟩ = some (.int .u32 a.f2.f2) := by rw [cell_kept (HB.out.block x hx)]; exact X1.out 4 _ rfl
      have gb4 : wr.cell? ⟨y, o' + k * 10 + 4, none⟩ = some (.int .u32 b.f2.f2) := by rw [cell_kept (HB.out.block y hy)]; exact X2.out 4 _ rfl
      have ga5 : wr.cell? ⟨x, o + k * 10 + 5, none⟩ = some (.int .u32 a.f2.f3) := by rw [cell_kept (HB.out.block x hx)]; exact X1.out 5 _ rfl
      have gb5 : wr.cell? ⟨y, o' + k * 10 + 5, none⟩ = some (.int .u32 b.f2.f3) := by rw [cell_kept (HB.out.block y hy)]; exact X2.out 5 _ rfl
      have ga6 : wr.cell? ⟨x, o + k * 10 + 6, none⟩ = some (.int .u32 a.f2.f4) := by rw [cell_kept (HB.out.block x hx)]; exact X1.out 6 _ rfl
      have gb6 : wr.cell? ⟨y, o' + k * 10 + 6, none⟩ = some (.int .u32 b.f2.f4) := by rw [cell_kept (HB.out.block y hy)]; exact X2.out 6 _ rfl
      have ga7 : wr.cell? ⟨x, o + k * 10 + 7, none⟩ = some (.int .u32 a.f2.f5) := by rw [cell_kept (HB.out.block x hx)]; exact X1.out 7 _ rfl
      have gb7 : wr.cell? ⟨y, o' + k * 10 + 7, none⟩ = some (.int .u32 b.f2.f5) := by rw [cell_kept (HB.out.block y hy)]; exact X2.out 7 _ rfl
      have ga8 : wr.cell? ⟨x, o + k * 10 + 8, none⟩ = some (.int .u32 a.f2.f6) := by rw [cell_kept (HB.out.block x hx)]; exact X1.out 8 _ rfl
      have gb8 : wr.cell? ⟨y, o' + k * 10 + 8, none⟩ = some (.int .u32 b.f2.f6) := by rw [cell_kept (HB.out.block y hy)]; exact X2.out 8 _ rfl
      have ga9 : wr.cell? ⟨x, o + k * 10 + 9, none⟩ = some (.slice A9 a.f2.f7.length c9) := by rw [cell_kept (HB.out.block x hx)]; exact X1.out 9 _ rfl
      have gb9 : wr.cell? ⟨y, o' + k * 10 + 9, none⟩ = some (.slice B9 b.f2.f7.length d9) := by rw [cell_kept (HB.out.block y hy)]; exact X2.out 9 _ rfl
      clear hx hy
      go_wp2_with fail
      go_region_held3 (fun w' => Below w3.heap.size w3 w' ∧ w'.cell? ⟨w.heap.size, 17, none⟩ = some (.slice (some ⟨x, o, none⟩) n c2) ∧ w'.cell? ⟨w.heap.size + 1, 17, none⟩ = some (.slice (some ⟨y, o', none⟩) n d2) ∧ w'.cell? ⟨x, o + k * 10, none⟩ = some (.string b.f0) ∧ w'.cell? ⟨x, o + k * 10 + 1, none⟩ = some (.string b.f1) ∧ w'.cell? ⟨x, o + k * 10 + 2, none⟩ = some (.int .u32 a.f2.f0) ∧ w'.cell? ⟨x, o + k * 10 + 3, none⟩ = some (.int .u64 a.f2.f1) ∧ w'.cell? ⟨x, o + k * 10 + 4, none⟩ = some (.int .u32 a.f2.f2) ∧ w'.cell? ⟨x, o + k * 10 + 5, none⟩ = some (.int .u32 a.f2.f3) ∧ w'.cell? ⟨x, o + k * 10 + 6, none⟩ = some (.int .u32 a.f2.f4) ∧ w'.cell? ⟨x, o + k * 10 + 7, none⟩ = some (.int .u32 a.f2.f5) ∧ w'.cell? ⟨x, o + k * 10 + 8, none⟩ = some (.int .u32 a.f2.f6) ∧ w'.cell? ⟨x, o + k * 10 + 9, none⟩ = some (.slice A9 a.f2.f7.length c9) ∧ w'.cell? ⟨y, o' + k * 10, none⟩ = some (.string b.f0) ∧ w'.cell? ⟨y, o' + k * 10 + 1, none⟩ = some (.string b.f1) ∧ w'.cell? ⟨y, o' + k * 10 + 2, none⟩ = some (.int .u32 b.f2.f0) ∧ w'.cell? ⟨y, o' + k * 10 + 3, none⟩ = some (.int .u64 b.f2.f1) ∧ w'.cell? ⟨y, o' + k * 10 + 4, none⟩ = some (.int .u32 b.f2.f2) ∧ w'.cell? ⟨y, o' + k * 10 + 5, none⟩ = some (.int .u32 b.f2.f3) ∧ w'.cell? ⟨y, o' + k * 10 + 6, none⟩ = some (.int .u32 b.f2.f4) ∧ w'.cell? ⟨y, o' + k * 10 + 7, none⟩ = some (.int .u32 b.f2.f5) ∧ w'.cell? ⟨y, o' + k * 10 + 8, none⟩ = some (.int .u32 b.f2.f6) ∧ w'.cell? ⟨y, o' + k * 10 + 9, none⟩ = some (.slice B9 b.f2.f7.length d9))
       (((first | (go_split_ands) | skip); (repeat' apply And.intro) <;> first | assumption | exact zAp (by assumption) | exact Below.trans (by assumption) (hb.mono (Below.size (by assumption))) | exact zAW hb (Nat.lt_of_lt_of_le L2 (Below.size (by assumption))) (by assumption) | exact zAW hb (Nat.lt_of_lt_of_le L3 (Below.size (by assumption))) (by assumption) | exact zAW hb (Nat.lt_of_lt_of_le HX2.out (Below.size (by assumption))) (by assumption) | exact zAW hb (Nat.lt_of_lt_of_le HY2.out (Below.size (by assumption))) (by assumption)))
       (first
        | (go_at_call 34; refine (SD.out _ (by assumption)).mono ?_; rw [SV.out]; rintro r w' ⟨rfl, hb⟩))
      all_goals
       go_split_ands
       go_wp2_with fail
       go_roundw
       case rel => exact ⟨k + 1, by omega, by go_num, HJ2, Lib.hid (by assumption)⟩
       case measure => simp [intOf]; omega
   ·obtain rfl : k = n := by omega
    have heq : l = m := by
     apply List.ext_getElem?
     intro j
     rcases Nat.lt_or_ge j k with h | h
     ·exact HJ.out j h
     ·rw [List.getElem?_eq_none (by have := HL.out; omega), List.getElem?_eq_none (by have := HM.out; omega)]
    have H8 := Lib.hid (H9.out.trans (zB6 heq))
    have HF2 := Lib.hid (HF.out.trans (HB.out.mono HF.out.size))
    clear heq c17 d17 c17' d17' HJ
    go_wp2_with fail
    go_ret
    exact ⟨by rw [H8.out]; rfl, HF2.out⟩
def zDn (x : ByteArray) : Nat :=
 bif x.toList == [104, 97, 114, 100, 108, 105, 110, 107, 64, 111, 112, 101, 110, 115, 115, 104, 46, 99, 111, 109] then 0 else
 bif x.toList == [112, 111, 115, 105, 120, 45, 114, 101, 110, 97, 109, 101, 64, 111, 112, 101, 110, 115, 115, 104, 46, 99, 111, 109] then 1 else
 bif x.toList == [115, 116, 97, 116, 118, 102, 115, 64, 111, 112, 101, 110, 115, 115, 104, 46, 99, 111, 109] then 2 else
 bif x.toList == [102, 115, 116, 97, 116, 118, 102, 115, 64, 111, 112, 101, 110, 115, 115, 104, 46, 99, 111, 109] then 3 else
 bif x.toList == [102, 115, 121, 110, 99, 64, 111, 112, 101, 110, 115, 115, 104, 46, 99, 111, 109] then 4 else
 5
def zMm (n : Nat) : List Nat := match n with | 0 => [1, 2, 3, 16] | 1 => [1, 2, 3, 16] | 2 => [1, 2, 16] | 3 => [1, 4, 16] | 4 => [1, 4, 16] | _ => [1, 8, 16]
def zAd (t : Int) (x : ByteArray) : List Nat :=
 if t = 1 ∨ t = 2 then [11, 12] else
 if t = 3 then [1, 2, 7, 9] else
 if t = 4 ∨ t = 8 ∨ t = 12 ∨ t = 102 then [1, 4] else
 if t = 5 then [1, 4, 5, 6] else
 if t = 6 then [1, 4, 5, 8] else
 if t = 7 ∨ t = 11 ∨ t = 13 ∨ t = 15 ∨ t = 16 ∨ t = 17 ∨ t = 19 then [1, 2] else
 if t = 9 ∨ t = 14 then [1, 2, 9] else
 if t = 10 then [1, 4, 9] else
 if t = 18 ∨ t = 20 then [1, 2, 3] else
 if t = 101 then [1, 13, 14, 15] else
 if t = 103 ∨ t = 201 then [1, 8] else
 if t = 104 then [1, 10] else
 if t = 105 then [1, 9] else
 zMm (zDn x)
def zBL (p : Pk) : Pk := zEO (zAd p.f0 p.f16) p
def T27 (t : Int) : Prop := t = 1 ∨ t = 2 ∨ t = 3 ∨ t = 4 ∨ t = 5 ∨ t = 6 ∨ t = 7 ∨ t = 8 ∨ t = 9 ∨ t = 10 ∨ t = 11 ∨ t = 12 ∨ t = 13 ∨ t = 14 ∨ t = 15 ∨ t = 16 ∨ t = 17 ∨ t = 18 ∨ t = 19 ∨ t = 20 ∨ t = 101 ∨ t = 102 ∨ t = 103 ∨ t = 104 ∨ t = 105 ∨ t = 201 ∨ t = 200
theorem zLT {x : ByteArray}  (hx : (x.toList == [104, 97, 114, 100, 108, 105, 110, 107, 64, 111, 112, 101, 110, 115, 115, 104, 46, 99, 111, 109]) = true) : zDn x = 0 := by
 unfold zDn; rw [hx]; rfl
theorem zLU {x : ByteArray} (h0 : (x.toList == [104, 97, 114, 100, 108, 105, 110, 107, 64, 111, 112, 101, 110, 115, 115, 104, 46, 99, 111, 109]) = false) (hx : (x.toList == [112, 111, 115, 105, 120, 45, 114, 101, 110, 97, 109, 101, 64, 111, 112, 101, 110, 115, 115, 104, 46, 99, 111, 109]) = true) : zDn x = 1 := by
 unfold zDn; rw [h0, hx]; rfl
theorem zLV {x : ByteArray} (h0 : (x.toList == [104, 97, 114, 100, 108, 105, 110, 107, 64, 111, 112, 101, 110, 115, 115, 104, 46, 99, 111, 109]) = false) (h1 : (x.toList == [112, 111, 115, 105, 120, 45, 114, 101, 110, 97, 109, 101, 64, 111, 112, 101, 110, 115, 115, 104, 46, 99, 111, 109]) = false) (hx : (x.toList == [115, 116, 97, 116, 118, 102, 115, 64, 111, 112, 101, 110, 115, 115, 104, 46, 99, 111, 109]) = true) : zDn x = 2 := by
 unfold zDn; rw [h0, h1, hx]; rfl
theorem zLW {x : ByteArray} (h0 : (x.toList == [104, 97, 114, 100, 108, 105, 110, 107, 64, 111, 112, 101, 110, 115, 115, 104, 46, 99, 111, 109]) = false) (h1 : (x.toList == [112, 111, 115, 105, 120, 45, 114, 101, 110, 97, 109, 101, 64, 111, 112, 101, 110, 115, 115, 104, 46, 99, 111, 109]) = false) (h2 : (x.toList == [115, 116, 97, 116, 118, 102, 115, 64, 111, 112, 101, 110, 115, 115, 104, 46, 99, 111, 109]) = false) (hx : (x.toList == [102, 115, 116, 97, 116, 118, 102, 115, 64, 111, 112, 101, 110, 115, 115, 104, 46, 99, 111, 109]) = true) : zDn x = 3 := by
 unfold zDn; rw [h0, h1, h2, hx]; rfl
theorem zLX {x : ByteArray} (h0 : (x.toList == [104, 97, 114, 100, 108, 105, 110, 107, 64, 111, 112, 101, 110, 115, 115, 104, 46, 99, 111, 109]) = false) (h1 : (x.toList == [112, 111, 115, 105, 120, 45, 114, 101, 110, 97, 109, 101, 64, 111, 112, 101, 110, 115, 115, 104, 46, 99, 111, 109]) = false) (h2 : (x.toList == [115, 116, 97, 116, 118, 102, 115, 64, 111, 112, 101, 110, 115, 115, 104, 46, 99, 111, 109]) = false) (h3 : (x.toList == [102, 115, 116, 97, 116, 118, 102, 115, 64, 111, 112, 101, 110, 115, 115, 104, 46, 99, 111, 109]) = false) (hx : (x.toList == [102, 115, 121, 110, 99, 64, 111, 112, 101, 110, 115, 115, 104, 46, 99, 111, 109]) = true) : zDn x = 4 := by
 unfold zDn; rw [h0, h1, h2, h3, hx]; rfl
theorem zLY {x : ByteArray} (h0 : (x.toList == [104, 97, 114, 100, 108, 105, 110, 107, 64, 111, 112, 101, 110, 115, 115, 104, 46, 99, 111, 109]) = false) (h1 : (x.toList == [112, 111, 115, 105, 120, 45, 114, 101, 110, 97, 109, 101, 64, 111, 112, 101, 110, 115, 115, 104, 46, 99, 111, 109]) = false) (h2 : (x.toList == [115, 116, 97, 116, 118, 102, 115, 64, 111, 112, 101, 110, 115, 115, 104, 46, 99, 111, 109]) = false) (h3 : (x.toList == [102, 115, 116, 97, 116, 118, 102, 115, 64, 111, 112, 101, 110, 115, 115, 104, 46, 99, 111, 109]) = false) (h4 : (x.toList == [102, 115, 121, 110, 99, 64, 111, 112, 101, 110, 115, 115, 104, 46, 99, 111, 109]) = false) : zDn x = 5 := by
 unfold zDn; rw [h0, h1, h2, h3, h4]; rfl
structure OSt (w W : World) (p : Pk) (P R : Array Value) : Prop where
 src : W.heap[w.heap.size]? = some (.cells P 29 (0, 0))
 res : W.heap[w.heap.size + 1]? = some (.cells pZero 29 (0, 0))
 out : W.heap[w.heap.size + 1 + 1]? = some (.cells R 29 (0, 0))
 bel : Below w.heap.size w W
 sz : R.size = 24
theorem OSt.set {w W : World} {p : Pk} {P R : Array Value} (h : OSt w W p P R) (i : Nat) (v : Value) : OSt w (W.setCell ⟨w.heap.size + 1 + 1, i, none⟩ v) p P (R.setIfInBounds i v) :=
 ⟨(Below.heap_setCell _ _ _ _ (by show w.heap.size ≠ w.heap.size + 1 + 1; omega)).trans h.src, (Below.heap_setCell _ _ _ _ (by show w.heap.size + 1 ≠ w.heap.size + 1 + 1; omega)).trans h.res, zAT h.out v, h.bel.setCell (by show w.heap.size ≤ w.heap.size + 1 + 1; omega) _, by rw [Array.size_setIfInBounds]; exact h.sz⟩
theorem OSt.drew {w W : World} {p : Pk} {P R : Array Value} (h : OSt w W p P R) : OSt w W.drew p P R := ⟨h.src, h.res, h.out, zBH h.bel, h.sz⟩
section
variable {w W : World} {p q : Pk} {P : Array Value} {A1 : Option Addr} {c1 : Nat} {A2 : Option Addr} {c2 : Nat} {A3 : Option Addr} {c3 : Nat}
theorem OSt.s1 (h : OSt w W p P (pkC q A1 c1 A2 c2 A3 c3)) (x : Int) : OSt w (W.setCell ⟨w.heap.size + 1 + 1, 1, none⟩ (.int .u32 x)) p P (pkC { q with f1 := x } A1 c1 A2 c2 A3 c3) := h.set 1 (.int .u32 x)
theorem OSt.s2 (h : OSt w W p P (pkC q A1 c1 A2 c2 A3 c3)) (x : ByteArray) : OSt w (W.setCell ⟨w.heap.size + 1 + 1, 2, none⟩ (.string x)) p P (pkC { q with f2 := x } A1 c1 A2 c2 A3 c3) := h.set 2 (.string x)
theorem OSt.s3 (h : OSt w W p P (pkC q A1 c1 A2 c2 A3 c3)) (x : ByteArray) : OSt w (W.setCell ⟨w.heap.size + 1 + 1, 3, none⟩ (.string x)) p P (pkC { q with f3 := x } A1 c1 A2 c2 A3 c3) := h.set 3 (.string x)
theorem OSt.s4 (h : OSt w W p P (pkC q A1 c1 A2 c2 A3 c3)) (x : ByteArray) : OSt w (W.setCell ⟨w.heap.size + 1 + 1, 4, none⟩ (.string x)) p P (pkC { q with f4 := x } A1 c1 A2 c2 A3 c3) := h.set 4 (.string x)
theorem OSt.s5 (h : OSt w W p P (pkC q A1 c1 A2 c2 A3 c3)) (x : Int) : OSt w (W.setCell ⟨w.heap.size + 1 + 1, 5, none⟩ (.int .u64 x)) p P (pkC { q with f5 := x } A1 c1 A2 c2 A3 c3) := h.set 5 (.int .u64 x)
theorem OSt.s6 (h : OSt w W p P (pkC q A1 c1 A2 c2 A3 c3)) (x : Int) : OSt w (W.setCell ⟨w.heap.size + 1 + 1, 6, none⟩ (.int .u32 x)) p P (pkC { q with f6 := x } A1 c1 A2 c2 A3 c3) := h.set 6 (.int .u32 x)
theorem OSt.s7 (h : OSt w W p P (pkC q A1 c1 A2 c2 A3 c3)) (x : Int) : OSt w (W.setCell ⟨w.heap.size + 1 + 1, 7, none⟩ (.int .u32 x)) p P (pkC { q with f7 := x } A1 c1 A2 c2 A3 c3) := h.set 7 (.int .u32 x)
theorem OSt.s8 (h : OSt w W p P (pkC q A1 c1 A2 c2 A3 c3)) (x : ByteArray) : OSt w (W.setCell ⟨w.heap.size + 1 + 1, 8, none⟩ (.string x)) p P (pkC { q with f8 := x } A1 c1 A2 c2 A3 c3) := h.set 8 (.string x)
theorem OSt.s12 (h : OSt w W p P (pkC q A1 c1 A2 c2 A3 c3)) (x : Int) : OSt w (W.setCell ⟨w.heap.size + 1 + 1, 19, none⟩ (.int .u32 x)) p P (pkC { q with f12 := x } A1 c1 A2 c2 A3 c3) := h.set 19 (.int .u32 x)
theorem OSt.s13 (h : OSt w W p P (pkC q A1 c1 A2 c2 A3 c3)) (x : Int) : OSt w (W.setCell ⟨w.heap.size + 1 + 1, 20, none⟩ (.int .u32 x)) p P (pkC { q with f13 := x } A1 c1 A2 c2 A3 c3) := h.set 20 (.int .u32 x)
theorem OSt.s14 (h : OSt w W p P (pkC q A1 c1 A2 c2 A3 c3)) (x : ByteArray) : OSt w (W.setCell ⟨w.heap.size + 1 + 1, 21, none⟩ (.string x)) p P (pkC { q with f14 := x } A1 c1 A2 c2 A3 c3) := h.set 21 (.string x)
theorem OSt.s15 (h : OSt w W p P (pkC q A1 c1 A2 c2 A3 c3)) (x : ByteArray) : OSt w (W.setCell ⟨w.heap.size + 1 + 1, 22, none⟩ (.string x)) p P (pkC { q with f15 := x } A1 c1 A2 c2 A3 c3) := h.set 22 (.string x)
theorem OSt.s16 (h : OSt w W p P (pkC q A1 c1 A2 c2 A3 c3)) (x : ByteArray) : OSt w (W.setCell ⟨w.heap.size + 1 + 1, 23, none⟩ (.string x)) p P (pkC { q with f16 := x } A1 c1 A2 c2 A3 c3) := h.set 23 (.string x)
theorem OSt.s9 (h : OSt w W p P (pkC q A1 c1 A2 c2 A3 c3)) (x : Ats) (A : Option Addr) (c : Nat) : OSt w (W.setCells (w.heap.size + 1 + 1) 9 (at8 x.f0 x.f1 x.f2 x.f3 x.f4 x.f5 x.f6 (.slice A x.f7.length c)).toList) p P (pkC { q with f9 := x } A c A2 c2 A3 c3) := by
 have h0 : OSt w _ p P (pkC { q with f9 := ⟨x.f0, q.f9.f1, q.f9.f2, q.f9.f3, q.f9.f4, q.f9.f5, q.f9.f6, q.f9.f7⟩ } A1 c1 A2 c2 A3 c3) := h.set 9 (.int .u32 x.f0)
 have h1 : OSt w _ p P (pkC { q with f9 := ⟨x.f0, x.f1, q.f9.f2, q.f9.f3, q.f9.f4, q.f9.f5, q.f9.f6, q.f9.f7⟩ } A1 c1 A2 c2 A3 c3) := h0.set 10 (.int .u64 x.f1)
 have h2 : OSt w _ p P (pkC { q with f9 := ⟨x.f0, x.f1, x.f2, q.f9.f3, q.f9.f4, q.f9.f5, q.f9.f6, q.f9.f7⟩ } A1 c1 A2 c2 A3 c3) := h1.set 11 (.int .u32 x.f2)
 have h3 : OSt w _ p P (pkC { q with f9 := ⟨x.f0, x.f1, x.f2, x.f3, q.f9.f4, q.f9.f5, q.f9.f6, q.f9.f7⟩ } A1 c1 A2 c2 A3 c3) := h2.set 12 (.int .u32 x.f3)
 have h4 : OSt w _ p P (pkC { q with f9 := ⟨x.f0, x.f1, x.f2, x.f3, x.f4, q.f9.f5, q.f9.f6, q.f9.f7⟩ } A1 c1 A2 c2 A3 c3) := h3.set 13 (.int .u32 x.f4)
 have h5 : OSt w _ p P (pkC { q with f9 := ⟨x.f0, x.f1, x.f2, x.f3, x.f4, x.f5, q.f9.f6, q.f9.f7⟩ } A1 c1 A2 c2 A3 c3) := h4.set 14 (.int .u32 x.f5)
 have h6 : OSt w _ p P (pkC { q with f9 := ⟨x.f0, x.f1, x.f2, x.f3, x.f4, x.f5, x.f6, q.f9.f7⟩ } A1 c1 A2 c2 A3 c3) := h5.set 15 (.int .u32 x.f6)
 have h7 : OSt w _ p P (pkC { q with f9 := ⟨x.f0, x.f1, x.f2, x.f3, x.f4, x.f5, x.f6, x.f7⟩ } A c A2 c2 A3 c3) := h6.set 16 (.slice A x.f7.length c)
 exact h7
theorem OSt.s10 (h : OSt w W p P (pkC q A1 c1 A2 c2 A3 c3)) (x : List Nm) (A : Option Addr) (c : Nat) : OSt w (W.setCell ⟨w.heap.size + 1 + 1, 17, none⟩ (.slice A x.length c)) p P (pkC { q with f10 := x } A1 c1 A c A3 c3) := h.set 17 (.slice A x.length c)
theorem OSt.s11 (h : OSt w W p P (pkC q A1 c1 A2 c2 A3 c3)) (x : List Ex) (A : Option Addr) (c : Nat) : OSt w (W.setCell ⟨w.heap.size + 1 + 1, 18, none⟩ (.slice A x.length c)) p P (pkC { q with f11 := x } A1 c1 A2 c2 A c) := h.set 18 (.slice A x.length c)
end
theorem zEw {P : Program} {fn : Func} {p : Tmp} {ty : TypeId} (h : fn.results = #[.cell p ty]) (tmps : Array Value) (w : World) (g : Nat) (t : TypeId) (cs : Array Value) (fr : Nat × Nat) (d : TypeDesc)
  (hp : tmps.getD p undef = .pointer (some ⟨g, 0, none⟩)) (hg : w.heap[g]? = some (.cells cs t fr))
  (hu : P.underlying ty = some d) (hd : (match d with | .struct _ | .array _ _ => true | _ => false) = true) (hi : (P.info? ty).map (·.size) = some cs.size) :
  (results fn tmps).run P w = .ok (.agg cs) w := by
 have hp' : tmps[p]?.getD undef = .pointer (some ⟨g, 0, none⟩) := by simpa using hp
 simp [results, h, hp', asAddr, run_loadVar_row w g t ty cs fr d hg hu hd hi]
def z24 (t : Int) (id : Int) : Array Value := pkC ⟨t, id, e0, e0, e0, 0, 0, 0, e0, ⟨0, 0, 0, 0, 0, 0, 0, []⟩, [], [], 0, 0, e0, e0, e0⟩ none 0 none 0 none 0
theorem zDo (p : Pk) (A1 : Option Addr) (c1 : Nat) (A2 : Option Addr) (c2 : Nat) (A3 : Option Addr) (c3 : Nat) : (Tryz.prog.info? 29).map (·.size) = some (pkC p A1 c1 A2 c2 A3 c3).size := zAo
theorem zLZ (t id : Int) : (Tryz.prog.info? 29).map (·.size) = some (z24 t id).size := zAo
theorem zDU (p : Pk) (A1 : Option Addr) (c1 : Nat) (A2 : Option Addr) (c2 : Nat) (A3 : Option Addr) (c3 : Nat) : (pkC p A1 c1 A2 c2 A3 c3).all (·.oneCell') = true := by kernel_rfl
theorem zC0 (t id : Int) : (z24 t id).all (·.oneCell') = true := by kernel_rfl
theorem zEx {f0 f1 : Int} {f2 f3 f4 : ByteArray} {f5 f6 f7 : Int} {f8 : ByteArray} {f9 : Ats} {f10 : List Nm} {f11 : List Ex} {f12 f13 : Int} {f14 f15 f16 : ByteArray} (A1 : Option Addr) (c1 : Nat) (A2 : Option Addr) (c2 : Nat) (A3 : Option Addr) (c3 : Nat) (j : Nat) (v : Value)
  (hj : (at8 f9.f0 f9.f1 f9.f2 f9.f3 f9.f4 f9.f5 f9.f6 (.slice A1 f9.f7.length c1)).toList[j]? = some v) : (pkC (⟨f0, f1, f2, f3, f4, f5, f6, f7, f8, f9, f10, f11, f12, f13, f14, f15, f16⟩ : Pk) A1 c1 A2 c2 A3 c3)[9 + j]? = some v := by
 have hj8 : j < 8 := (List.getElem?_eq_some_iff.1 hj).1
 match j, hj8 with
 | 0, _ => exact hj
 | 1, _ => exact hj
 | 2, _ => exact hj
 | 3, _ => exact hj
 | 4, _ => exact hj
 | 5, _ => exact hj
 | 6, _ => exact hj
 | 7, _ => exact hj
set_option maxRecDepth 100000 in
theorem zMZ (p : Pk) (A1 : Option Addr) (c1 : Nat) (A2 : Option Addr) (c2 : Nat) (A3 : Option Addr) (c3 : Nat) (w : World) (ht : T27 p.f0) :
  Calls Tryz.prog 21 #[.agg (pkC p A1 c1 A2 c2 A3 c3)] w fun r w' => r = .returned (.agg (zEp (zAd p.f0 p.f16) p A1 c1 A2 c2 A3 c3)) ∧ Below w.heap.size w w' := by
 obtain ⟨f0, f1, f2, f3, f4, f5, f6, f7, f8, f9, f10, f11, f12, f13, f14, f15, f16⟩ := p
 obtain ⟨W0, hW0⟩ : ∃ W, w.alloc (.cells (pkC (⟨f0, f1, f2, f3, f4, f5, f6, f7, f8, f9, f10, f11, f12, f13, f14, f15, f16⟩ : Pk) A1 c1 A2 c2 A3 c3) 29) = W := ⟨_, rfl⟩
 obtain ⟨W1, hW1⟩ : ∃ W, W0.alloc (.cells pZero 29) = W := ⟨_, rfl⟩
 obtain ⟨W2, hW2⟩ : ∃ W, W1.alloc (.cells pZero 29) = W := ⟨_, rfl⟩
 obtain ⟨W4, hW4⟩ : ∃ W, W2.setRow (w.heap.size + 1 + 1) (z24 f0 f1) = W := ⟨_, rfl⟩
 have s0 : W0.heap.size = w.heap.size + 1 := by rw [← hW0]; simp
 have s1 : W1.heap.size = w.heap.size + 1 + 1 := by rw [← hW1]; simp [s0]
 have s2 : W2.heap.size = w.heap.size + 1 + 1 + 1 := by rw [← hW2]; simp [s1]
 have a0 : W0.heap[w.heap.size]? = some (.cells (pkC (⟨f0, f1, f2, f3, f4, f5, f6, f7, f8, f9, f10, f11, f12, f13, f14, f15, f16⟩ : Pk) A1 c1 A2 c2 A3 c3) 29 (0, 0)) := by rw [← hW0]; exact heap_alloc_new _ _
 have a1 : W1.heap[w.heap.size + 1]? = some (.cells pZero 29 (0, 0)) := by rw [← hW1, ← s0]; exact heap_alloc_new _ _
 have a2 : W2.heap[w.heap.size + 1 + 1]? = some (.cells pZero 29 (0, 0)) := by rw [← hW2, ← s1]; exact heap_alloc_new _ _
 have o2 : ∀ k, k < w.heap.size + 1 + 1 → W4.heap[k]? = W1.heap[k]? := fun k hk => by rw [← hW4, setRow_other _ _ _ _ (by omega), ← hW2, heap_alloc_old _ _ (by omega)]
 have o1 : ∀ k, k < w.heap.size + 1 → W1.heap[k]? = W0.heap[k]? := fun k hk => by rw [← hW1, heap_alloc_old _ _ (by omega)]
 have b4 : Below w.heap.size w W4 := by
  refine ⟨?_, ?_, ?_, ?_, fun k hk => ?_⟩
  ·rw [← hW4, ← hW2, ← hW1, ← hW0]; rfl
  ·rw [← hW4, ← hW2, ← hW1, ← hW0]; rfl
  ·rw [← hW4, ← hW2, ← hW1, ← hW0]; rfl
  ·rw [← hW4, setRow_size]; omega
  ·rw [o2 _ (by omega), o1 _ (by omega), ← hW0, heap_alloc_old _ _ hk]
 have OS := Lib.hid (show OSt w W4 (⟨f0, f1, f2, f3, f4, f5, f6, f7, f8, f9, f10, f11, f12, f13, f14, f15, f16⟩ : Pk) (pkC (⟨f0, f1, f2, f3, f4, f5, f6, f7, f8, f9, f10, f11, f12, f13, f14, f15, f16⟩ : Pk) A1 c1 A2 c2 A3 c3) (z24 f0 f1) from
  ⟨by rw [o2 _ (by omega), o1 _ (by omega)]; exact a0, by rw [o2 _ (by omega)]; exact a1, by rw [← hW4]; exact zAj a2, b4, rfl⟩)
 have x0 : W0.cell? ⟨w.heap.size, 0, none⟩ = some (.int .i64 f0) := by rw [zAA a0]; rfl
 have x1 : W0.cell? ⟨w.heap.size, 1, none⟩ = some (.int .u32 f1) := by rw [zAA a0]; rfl
 have y0 : W1.cell? ⟨w.heap.size, 0, none⟩ = some (.int .i64 f0) := by rw [cell_kept (o1 _ (by omega))]; exact x0
 have y1 : W1.cell? ⟨w.heap.size, 1, none⟩ = some (.int .u32 f1) := by rw [cell_kept (o1 _ (by omega))]; exact x1
 have z0 : W4.cell? ⟨w.heap.size, 0, none⟩ = some (.int .i64 f0) := by rw [zAA OS.out.src]; rfl
 have X0 := Lib.hid hW0
 have X1 := Lib.hid hW1
 have X2 := Lib.hid hW2
 have X4 := Lib.hid hW4
 have A2' := Lib.hid a2
 have S1 := Lib.hid s1
 have S0 := Lib.hid s0
 have HT := Lib.hid (show T27 f0 from ht)
 clear hW0 hW1 hW2 hW4 s0 s1 s2 a0 a1 a2 o1 o2 b4 x0 x1 ht
 go_enter Tryz.func21, Tryz.ntmps21
 go_upto_block 0 with (first
  | (refine wpList_boxTo rfl 29 _ rfl (some 1) rfl w.heap.size rfl (pkC (⟨f0, f1, f2, f3, f4, f5, f6, f7, f8, f9, f10, f11, f12, f13, f14, f15, f16⟩ : Pk) A1 c1 A2 c2 A3 c3) rfl ?_; rw [X0.out])
  | (refine wpList_allocTo rfl (some 2) rfl (.pointer (some ⟨w.heap.size + 1, 0, none⟩)) (.cells pZero 29) (by rw [← S0.out]; as_aux_lemma => kernel_rfl) ?_; rw [X1.out])
  | (refine wpList_allocTo rfl (some 3) rfl (.pointer (some ⟨w.heap.size + 1 + 1, 0, none⟩)) (.cells pZero 29) (by rw [← S1.out]; as_aux_lemma => kernel_rfl) ?_; rw [X2.out])
  | refine wpList_buildTo rfl 29 _ rfl (some 8) rfl (z24 f0 f1) (by as_aux_lemma => kernel_rfl) ?_
  | (refine wpList_store_row rfl 29 _ _ rfl (w.heap.size + 1 + 1) (z24 f0 f1) rfl rfl 29 pZero A2'.out (zLZ _ _) rfl (zC0 _ _) ?_; rw [X4.out]))
 clear y0 y1 z0 X0 X1 X2 X4 A2' S0 S1
 go_cut [] (fun wx => OSt w wx (⟨f0, f1, f2, f3, f4, f5, f6, f7, f8, f9, f10, f11, f12, f13, f14, f15, f16⟩ : Pk) (pkC (⟨f0, f1, f2, f3, f4, f5, f6, f7, f8, f9, f10, f11, f12, f13, f14, f15, f16⟩ : Pk) A1 c1 A2 c2 A3 c3) (zEp (zAd f0 f16) (⟨f0, f1, f2, f3, f4, f5, f6, f7, f8, f9, f10, f11, f12, f13, f14, f15, f16⟩ : Pk) A1 c1 A2 c2 A3 c3))
 case first =>
  have o0 := OS.out
  clear OS
  obtain ⟨wc0, hwc⟩ : ∃ W, W = W4 := ⟨_, rfl⟩
  subst hwc
  unfold T27 at HT
  rcases HT.out with rfl | rfl | rfl | rfl | rfl | rfl | rfl | rfl | rfl | rfl | rfl | rfl | rfl | rfl | rfl | rfl | rfl | rfl | rfl | rfl | rfl | rfl | rfl | rfl | rfl | rfl | rfl
  ·-- 1
   clear HT
   have O0 := Lib.hid o0
   clear o0
   go_wp2_with fail
   refine wp_region_held_drew (S := fun w' => w'.heap[w.heap.size]? = some (.cells (pkC (⟨1, f1, f2, f3, f4, f5, f6, f7, f8, f9, f10, f11, f12, f13, f14, f15, f16⟩ : Pk) A1 c1 A2 c2 A3 c3) 29 (0, 0))) (by kernel_rfl) O0.out.drew.src (fun hHeld => ?_)
   have o0 := O0.out.drew
   clear O0
   refine tkE 14 0 (.pointer (some ⟨w.heap.size, 19, none⟩)) hHeld ?_
   try simp only [zAJ]
   refine tkY 15 1 (.int .u32 f12) rfl (zAV (by rfl) 22 _ rfl zCq w.heap.size 19 (by rfl) _ _ (0, 0) _ (fun _ h => h) rfl) hHeld ?_
   try simp only [zAJ]
   refine tkE 16 2 (.pointer (some ⟨w.heap.size, 18, none⟩)) hHeld ?_
   try simp only [zAJ]
   refine tkY 17 3 (.slice A3 f11.length c3) rfl (zAV (by rfl) 24 _ rfl zDy w.heap.size 18 (by rfl) _ _ (0, 0) _ (fun _ h => h) rfl) hHeld ?_
   try simp only [zAJ]
   refine tkE 18 4 (.pointer (some ⟨w.heap.size + 1 + 1, 1, none⟩)) hHeld ?_
   try simp only [zAJ]
   refine wpAnyH_ready (rs := [5]) (by kernel_rfl) (by simp) (AllReadyH.cons rfl (fun K hK => ?_) AllReadyH.nil)
   rw [if_pos (by rfl)]
   refine zAt 22 _ _ rfl zEL (w.heap.size + 1 + 1) 1 (by rfl) (.int .u32 0) (by rfl) _ _ o0.out (by have := o0.sz; omega) rfl rfl ?_
   have o1 := o0.s1 0
   refine hK.out _ _ o1.src (fun hHeld => ?_)
   clear hK K
   try simp only [zAJ]
   refine tkE 19 6 (.pointer (some ⟨w.heap.size + 1 + 1, 19, none⟩)) hHeld ?_
   try simp only [zAJ]
   refine wpAnyH_ready (rs := [7]) (by kernel_rfl) (by simp) (AllReadyH.cons rfl (fun K hK => ?_) AllReadyH.nil)
   rw [if_pos (by rfl)]
   refine zAt 22 _ _ rfl zEL (w.heap.size + 1 + 1) 19 (by rfl) (.int .u32 f12) (by rfl) _ _ o1.out (by have := o1.sz; omega) rfl rfl ?_
   have o2 := o1.s12 f12
   refine hK.out _ _ o2.src (fun hHeld => ?_)
   clear hK K
   try simp only [zAJ]
   refine tkE 20 8 (.pointer (some ⟨w.heap.size + 1 + 1, 18, none⟩)) hHeld ?_
   try simp only [zAJ]
   refine wpAnyH_ready (rs := [9]) (by kernel_rfl) (by simp) (AllReadyH.cons rfl (fun K hK => ?_) AllReadyH.nil)
   rw [if_pos (by rfl)]
   refine zAt 24 _ _ rfl zKr (w.heap.size + 1 + 1) 18 (by rfl) (.slice A3 f11.length c3) (by rfl) _ _ o2.out (by have := o2.sz; omega) rfl rfl ?_
   have o3 := o2.s11 f11 A3 c3
   refine hK.out _ _ o3.src (fun hHeld => ?_)
   clear hK K
   try simp only [zAJ]
   have OF := Lib.hid o3
   clear o0 o1 o2 o3 hHeld
   refine wpAnyH_done (by kernel_rfl) ?_ _
   go_wp2_with fail
   go_meet
   exact OF.out
  ·-- 2
   clear HT
   have O0 := Lib.hid o0
   clear o0
   go_wp2_with fail
   refine wp_region_held_drew (S := fun w' => w'.heap[w.heap.size]? = some (.cells (pkC (⟨2, f1, f2, f3, f4, f5, f6, f7, f8, f9, f10, f11, f12, f13, f14, f15, f16⟩ : Pk) A1 c1 A2 c2 A3 c3) 29 (0, 0))) (by kernel_rfl) O0.out.drew.src (fun hHeld => ?_)
   have o0 := O0.out.drew
   clear O0
   refine tkE 14 0 (.pointer (some ⟨w.heap.size, 19, none⟩)) hHeld ?_
   try simp only [zAJ]
   refine tkY 15 1 (.int .u32 f12) rfl (zAV (by rfl) 22 _ rfl zCq w.heap.size 19 (by rfl) _ _ (0, 0) _ (fun _ h => h) rfl) hHeld ?_
   try simp only [zAJ]
   refine tkE 16 2 (.pointer (some ⟨w.heap.size, 18, none⟩)) hHeld ?_
   try simp only [zAJ]
   refine tkY 17 3 (.slice A3 f11.length c3) rfl (zAV (by rfl) 24 _ rfl zDy w.heap.size 18 (by rfl) _ _ (0, 0) _ (fun _ h => h) rfl) hHeld ?_
   try simp only [zAJ]
   refine tkE 18 4 (.pointer (some ⟨w.heap.size + 1 + 1, 1, none⟩)) hHeld ?_
   try simp only [zAJ]
   refine wpAnyH_ready (rs := [5]) (by kernel_rfl) (by simp) (AllReadyH.cons rfl (fun K hK => ?_) AllReadyH.nil)
   rw [if_pos (by rfl)]
   refine zAt 22 _ _ rfl zEL (w.heap.size + 1 + 1) 1 (by rfl) (.int .u32 0) (by rfl) _ _ o0.out (by have := o0.sz; omega) rfl rfl ?_
   have o1 := o0.s1 0
   refine hK.out _ _ o1.src (fun hHeld => ?_)
   clear hK K
   try simp only [zAJ]
   refine tkE 19 6 (.pointer (some ⟨w.heap.size + 1 + 1, 19, none⟩)) hHeld ?_
   try simp only [zAJ]
   refine wpAnyH_ready (rs := [7]) (by kernel_rfl) (by simp) (AllReadyH.cons rfl (fun K hK => ?_) AllReadyH.nil)
   rw [if_pos (by rfl)]
   refine zAt 22 _ _ rfl zEL (w.heap.size + 1 + 1) 19 (by rfl) (.int .u32 f12) (by rfl) _ _ o1.out (by have := o1.sz; omega) rfl rfl ?_
   have o2 := o1.s12 f12
   refine hK.out _ _ o2.src (fun hHeld => ?_)
   clear hK K
   try simp only [zAJ]
   refine tkE 20 8 (.pointer (some ⟨w.heap.size + 1 + 1, 18, none⟩)) hHeld ?_
   try simp only [zAJ]
   refine wpAnyH_ready (rs := [9]) (by kernel_rfl) (by simp) (AllReadyH.cons rfl (fun K hK => ?_) AllReadyH.nil)
   rw [if_pos (by rfl)]
   refine zAt 24 _ _ rfl zKr (w.heap.size + 1 + 1) 18 (by rfl) (.slice A3 f11.length c3) (by rfl) _ _ o2.out (by have := o2.sz; omega) rfl rfl ?_
   have o3 := o2.s11 f11 A3 c3
   refine hK.out _ _ o3.src (fun hHeld => ?_)
   clear hK K
   try simp only [zAJ]
   have OF := Lib.hid o3
   clear o0 o1 o2 o3 hHeld
   refine wpAnyH_done (by kernel_rfl) ?_ _
   go_wp2_with fail
   go_meet
   exact OF.out
  ·-- 3
   clear HT
   have O0 := Lib.hid o0
   clear o0
   go_wp2_with fail
   refine wp_region_held_drew (S := fun w' => w'.heap[w.heap.size]? = some (.cells (pkC (⟨3, f1, f2, f3, f4, f5, f6, f7, f8, f9, f10, f11, f12, f13, f14, f15, f16⟩ : Pk) A1 c1 A2 c2 A3 c3) 29 (0, 0))) (by kernel_rfl) O0.out.drew.src (fun hHeld => ?_)
   have o0 := O0.out.drew
   clear O0
   refine tkE 23 0 (.pointer (some ⟨w.heap.size, 2, none⟩)) hHeld ?_
   try simp only [zAJ]
   refine tkY 24 1 (.string f2) rfl (zAV (by rfl) 9 _ rfl zAk w.heap.size 2 (by rfl) _ _ (0, 0) _ (fun _ h => h) rfl) hHeld ?_
   try simp only [zAJ]
   refine tkE 25 2 (.pointer (some ⟨w.heap.size, 7, none⟩)) hHeld ?_
   try simp only [zAJ]
   refine tkY 26 3 (.int .u32 f7) rfl (zAV (by rfl) 22 _ rfl zCq w.heap.size 7 (by rfl) _ _ (0, 0) _ (fun _ h => h) rfl) hHeld ?_
   try simp only [zAJ]
   refine tkE 27 4 (.pointer (some ⟨w.heap.size, 9, none⟩)) hHeld ?_
   try simp only [zAJ]
   refine tkY 28 5 (.agg (at8 f9.f0 f9.f1 f9.f2 f9.f3 f9.f4 f9.f5 f9.f6 (.slice A1 f9.f7.length c1)).toList.toArray) rfl (yieldsIf_load_mid (by rfl) 26 _ (by rfl) w.heap.size 9 (by rfl) (at8 f9.f0 f9.f1 f9.f2 f9.f3 f9.f4 f9.f5 f9.f6 (.slice A1 f9.f7.length c1)).toList _ (fun w' hw' j v hj => by rw [zAA hw']; exact zEx _ _ _ _ _ _ j v hj) Tryz.underlying26 rfl (zBQ _ _ _ _ _ _ _ _)) hHeld ?_
   try simp only [zAJ]
   rw [Array.toArray_toList]
   refine tkE 29 6 (.pointer (some ⟨w.heap.size + 1 + 1, 2, none⟩)) hHeld ?_
   try simp only [zAJ]
   refine wpAnyH_ready (rs := [7]) (by kernel_rfl) (by simp) (AllReadyH.cons rfl (fun K hK => ?_) AllReadyH.nil)
   rw [if_pos (by rfl)]
   refine zAt 9 _ _ rfl zAw (w.heap.size + 1 + 1) 2 (by rfl) (.string f2) (by rfl) _ _ o0.out (by have := o0.sz; omega) rfl rfl ?_
   have o1 := o0.s2 f2
   refine hK.out _ _ o1.src (fun hHeld => ?_)
   clear hK K
   try simp only [zAJ]
   refine tkE 30 8 (.pointer (some ⟨w.heap.size + 1 + 1, 7, none⟩)) hHeld ?_
   try simp only [zAJ]
   refine wpAnyH_ready (rs := [9]) (by kernel_rfl) (by simp) (AllReadyH.cons rfl (fun K hK => ?_) AllReadyH.nil)
   rw [if_pos (by rfl)]
   refine zAt 22 _ _ rfl zEL (w.heap.size + 1 + 1) 7 (by rfl) (.int .u32 f7) (by rfl) _ _ o1.out (by have := o1.sz; omega) rfl rfl ?_
   have o2 := o1.s7 f7
   refine hK.out _ _ o2.src (fun hHeld => ?_)
   clear hK K
   try simp only [zAJ]
   refine tkE 31 10 (.pointer (some ⟨w.heap.size + 1 + 1, 9, none⟩)) hHeld ?_
   try simp only [zAJ]
   refine wpAnyH_ready (rs := [11]) (by kernel_rfl) (by simp) (AllReadyH.cons rfl (fun K hK => ?_) AllReadyH.nil)
   rw [if_pos (by rfl)]
   refine wp_store_mid 26 _ _ rfl (w.heap.size + 1 + 1) 9 (at8 f9.f0 f9.f1 f9.f2 f9.f3 f9.f4 f9.f5 f9.f6 (.slice A1 f9.f7.length c1)) (by rfl) (by rfl) (zB2 o2.out 9 8 (by have := o2.sz; omega)) (zBQ _ _ _ _ _ _ _ _) (zFQ _ _ _ _ _ _ _ _ _ _) ?_
   have o3 := o2.s9 f9 A1 c1
   refine hK.out _ _ o3.src (fun hHeld => ?_)
   clear hK K
   try simp only [zAJ]
   have OF := Lib.hid o3
   clear o0 o1 o2 o3 hHeld
   refine wpAnyH_done (by kernel_rfl) ?_ _
   go_wp2_with fail
   go_meet
   exact OF.out
  ·-- 4
   clear HT
   go_wp2_with (first | refine zA8 rfl 9 _ rfl zAk w.heap.size 4 (by rfl) _ _ (0, 0) (.string f4) o0.src rfl ?_ | refine zAh rfl 9 _ _ rfl zAw (w.heap.size + 1 + 1) 4 (by rfl) (.string f4) (by rfl) _ _ o0.out (by have := o0.sz; omega) rfl rfl ?_)
   have OF := Lib.hid (o0.s4 f4)
   clear o0
   go_meet
   exact OF.out
  ·-- 5
   clear HT
   have O0 := Lib.hid o0
   clear o0
   go_wp2_with fail
   refine wp_region_held_drew (S := fun w' => w'.heap[w.heap.size]? = some (.cells (pkC (⟨5, f1, f2, f3, f4, f5, f6, f7, f8, f9, f10, f11, f12, f13, f14, f15, f16⟩ : Pk) A1 c1 A2 c2 A3 c3) 29 (0, 0))) (by kernel_rfl) O0.out.drew.src (fun hHeld => ?_)
   have o0 := O0.out.drew
   clear O0
   refine tkE 42 0 (.pointer (some ⟨w.heap.size, 4, none⟩)) hHeld ?_
   try simp only [zAJ]
   refine tkY 43 1 (.string f4) rfl (zAV (by rfl) 9 _ rfl zAk w.heap.size 4 (by rfl) _ _ (0, 0) _ (fun _ h => h) rfl) hHeld ?_
   try simp only [zAJ]
   refine tkE 44 2 (.pointer (some ⟨w.heap.size, 5, none⟩)) hHeld ?_
   try simp only [zAJ]
   refine tkY 45 3 (.int .u64 f5) rfl (zAV (by rfl) 23 _ rfl zKq w.heap.size 5 (by rfl) _ _ (0, 0) _ (fun _ h => h) rfl) hHeld ?_
   try simp only [zAJ]
   refine tkE 46 4 (.pointer (some ⟨w.heap.size, 6, none⟩)) hHeld ?_
   try simp only [zAJ]
   refine tkY 47 5 (.int .u32 f6) rfl (zAV (by rfl) 22 _ rfl zCq w.heap.size 6 (by rfl) _ _ (0, 0) _ (fun _ h => h) rfl) hHeld ?_
   try simp only [zAJ]
   refine tkE 48 6 (.pointer (some ⟨w.heap.size + 1 + 1, 4, none⟩)) hHeld ?_
   try simp only [zAJ]
   refine wpAnyH_ready (rs := [7]) (by kernel_rfl) (by simp) (AllReadyH.cons rfl (fun K hK => ?_) AllReadyH.nil)
   rw [if_pos (by rfl)]
   refine zAt 9 _ _ rfl zAw (w.heap.size + 1 + 1) 4 (by rfl) (.string f4) (by rfl) _ _ o0.out (by have := o0.sz; omega) rfl rfl ?_
   have o1 := o0.s4 f4
   refine hK.out _ _ o1.src (fun hHeld => ?_)
   clear hK K
   try simp only [zAJ]
   refine tkE 49 8 (.pointer (some ⟨w.heap.size + 1 + 1, 5, none⟩)) hHeld ?_
   try simp only [zAJ]
   refine wpAnyH_ready (rs := [9]) (by kernel_rfl) (by simp) (AllReadyH.cons rfl (fun K hK => ?_) AllReadyH.nil)
   rw [if_pos (by rfl)]
   refine zAt 23 _ _ rfl zMe (w.heap.size + 1 + 1) 5 (by rfl) (.int .u64 f5) (by rfl) _ _ o1.out (by have := o1.sz; omega) rfl rfl ?_
   have o2 := o1.s5 f5
   refine hK.out _ _ o2.src (fun hHeld => ?_)
   clear hK K
   try simp only [zAJ]
   refine tkE 50 10 (.pointer (some ⟨w.heap.size + 1 + 1, 6, none⟩)) hHeld ?_
   try simp only [zAJ]
   refine wpAnyH_ready (rs := [11]) (by kernel_rfl) (by simp) (AllReadyH.cons rfl (fun K hK => ?_) AllReadyH.nil)
   rw [if_pos (by rfl)]
   refine zAt 22 _ _ rfl zEL (w.heap.size + 1 + 1) 6 (by rfl) (.int .u32 f6) (by rfl) _ _ o2.out (by have := o2.sz; omega) rfl rfl ?_
   have o3 := o2.s6 f6
   refine hK.out _ _ o3.src (fun hHeld => ?_)
   clear hK K
   try simp only [zAJ]
   have OF := Lib.hid o3
   clear o0 o1 o2 o3 hHeld
   refine wpAnyH_done (by kernel_rfl) ?_ _
   go_wp2_with fail
   go_meet
   exact OF.out
  ·-- 6
   clear HT
   have O0 := Lib.hid o0
   clear o0
   go_wp2_with fail
   refine wp_region_held_drew (S := fun w' => w'.heap[w.heap.size]? = some (.cells (pkC (⟨6, f1, f2, f3, f4, f5, f6, f7, f8, f9, f10, f11, f12, f13, f14, f15, f16⟩ : Pk) A1 c1 A2 c2 A3 c3) 29 (0, 0))) (by kernel_rfl) O0.out.drew.src (fun hHeld => ?_)
   have o0 := O0.out.drew
   clear O0
   refine tkE 53 0 (.pointer (some ⟨w.heap.size, 4, none⟩)) hHeld ?_
   try simp only [zAJ]
   refine tkY 54 1 (.string f4) rfl (zAV (by rfl) 9 _ rfl zAk w.heap.size 4 (by rfl) _ _ (0, 0) _ (fun _ h => h) rfl) hHeld ?_
   try simp only [zAJ]
   refine tkE 55 2 (.pointer (some ⟨w.heap.size, 5, none⟩)) hHeld ?_
   try simp only [zAJ]
   refine tkY 56 3 (.int .u64 f5) rfl (zAV (by rfl) 23 _ rfl zKq w.heap.size 5 (by rfl) _ _ (0, 0) _ (fun _ h => h) rfl) hHeld ?_
   try simp only [zAJ]
   refine tkE 57 4 (.pointer (some ⟨w.heap.size, 8, none⟩)) hHeld ?_
   try simp only [zAJ]
   refine tkY 58 5 (.string f8) rfl (zAV (by rfl) 9 _ rfl zAk w.heap.size 8 (by rfl) _ _ (0, 0) _ (fun _ h => h) rfl) hHeld ?_
   try simp only [zAJ]
   refine tkE 59 6 (.pointer (some ⟨w.heap.size + 1 + 1, 4, none⟩)) hHeld ?_
   try simp only [zAJ]
   refine wpAnyH_ready (rs := [7]) (by kernel_rfl) (by simp) (AllReadyH.cons rfl (fun K hK => ?_) AllReadyH.nil)
   rw [if_pos (by rfl)]
   refine zAt 9 _ _ rfl zAw (w.heap.size + 1 + 1) 4 (by rfl) (.string f4) (by rfl) _ _ o0.out (by have := o0.sz; omega) rfl rfl ?_
   have o1 := o0.s4 f4
   refine hK.out _ _ o1.src (fun hHeld => ?_)
   clear hK K
   try simp only [zAJ]
   refine tkE 60 8 (.pointer (some ⟨w.heap.size + 1 + 1, 5, none⟩)) hHeld ?_
   try simp only [zAJ]
   refine wpAnyH_ready (rs := [9]) (by kernel_rfl) (by simp) (AllReadyH.cons rfl (fun K hK => ?_) AllReadyH.nil)
   rw [if_pos (by rfl)]
   refine zAt 23 _ _ rfl zMe (w.heap.size + 1 + 1) 5 (by rfl) (.int .u64 f5) (by rfl) _ _ o1.out (by have := o1.sz; omega) rfl rfl ?_
   have o2 := o1.s5 f5
   refine hK.out _ _ o2.src (fun hHeld => ?_)
   clear hK K
   try simp only [zAJ]
   refine tkE 61 10 (.pointer (some ⟨w.heap.size + 1 + 1, 8, none⟩)) hHeld ?_
   try simp only [zAJ]
   refine wpAnyH_ready (rs := [11]) (by kernel_rfl) (by simp) (AllReadyH.cons rfl (fun K hK => ?_) AllReadyH.nil)
   rw [if_pos (by rfl)]
   refine zAt 9 _ _ rfl zAw (w.heap.size + 1 + 1) 8 (by rfl) (.string f8) (by rfl) _ _ o2.out (by have := o2.sz; omega) rfl rfl ?_
   have o3 := o2.s8 f8
   refine hK.out _ _ o3.src (fun hHeld => ?_)
   clear hK K
   try simp only [zAJ]
   have OF := Lib.hid o3
   clear o0 o1 o2 o3 hHeld
   refine wpAnyH_done (by kernel_rfl) ?_ _
   go_wp2_with fail
   go_meet
   exact OF.out
  ·-- 7
   clear HT
   go_wp2_with (first | refine zA8 rfl 9 _ rfl zAk w.heap.size 2 (by rfl) _ _ (0, 0) (.string f2) o0.src rfl ?_ | refine zAh rfl 9 _ _ rfl zAw (w.heap.size + 1 + 1) 2 (by rfl) (.string f2) (by rfl) _ _ o0.out (by have := o0.sz; omega) rfl rfl ?_)
   have OF := Lib.hid (o0.s2 f2)
   clear o0
   go_meet
   exact OF.out
  ·-- 8
   clear HT
   go_wp2_with (first | refine zA8 rfl 9 _ rfl zAk w.heap.size 4 (by rfl) _ _ (0, 0) (.string f4) o0.src rfl ?_ | refine zAh rfl 9 _ _ rfl zAw (w.heap.size + 1 + 1) 4 (by rfl) (.string f4) (by rfl) _ _ o0.out (by have := o0.sz; omega) rfl rfl ?_)
   have OF := Lib.hid (o0.s4 f4)
   clear o0
   go_meet
   exact OF.out
  ·-- 9
   clear HT
   have O0 := Lib.hid o0
   clear o0
   go_wp2_with fail
   refine wp_region_held_drew (S := fun w' => w'.heap[w.heap.size]? = some (.cells (pkC (⟨9, f1, f2, f3, f4, f5, f6, f7, f8, f9, f10, f11, f12, f13, f14, f15, f16⟩ : Pk) A1 c1 A2 c2 A3 c3) 29 (0, 0))) (by kernel_rfl) O0.out.drew.src (fun hHeld => ?_)
   have o0 := O0.out.drew
   clear O0
   refine tkE 76 0 (.pointer (some ⟨w.heap.size, 2, none⟩)) hHeld ?_
   try simp only [zAJ]
   refine tkY 77 1 (.string f2) rfl (zAV (by rfl) 9 _ rfl zAk w.heap.size 2 (by rfl) _ _ (0, 0) _ (fun _ h => h) rfl) hHeld ?_
   try simp only [zAJ]
   refine tkE 78 2 (.pointer (some ⟨w.heap.size, 9, none⟩)) hHeld ?_
   try simp only [zAJ]
   refine tkY 79 3 (.agg (at8 f9.f0 f9.f1 f9.f2 f9.f3 f9.f4 f9.f5 f9.f6 (.slice A1 f9.f7.length c1)).toList.toArray) rfl (yieldsIf_load_mid (by rfl) 26 _ (by rfl) w.heap.size 9 (by rfl) (at8 f9.f0 f9.f1 f9.f2 f9.f3 f9.f4 f9.f5 f9.f6 (.slice A1 f9.f7.length c1)).toList _ (fun w' hw' j v hj => by rw [zAA hw']; exact zEx _ _ _ _ _ _ j v hj) Tryz.underlying26 rfl (zBQ _ _ _ _ _ _ _ _)) hHeld ?_
   try simp only [zAJ]
   rw [Array.toArray_toList]
   refine tkE 80 4 (.pointer (some ⟨w.heap.size + 1 + 1, 2, none⟩)) hHeld ?_
   try simp only [zAJ]
   refine wpAnyH_ready (rs := [5]) (by kernel_rfl) (by simp) (AllReadyH.cons rfl (fun K hK => ?_) AllReadyH.nil)
   rw [if_pos (by rfl)]
   refine zAt 9 _ _ rfl zAw (w.heap.size + 1 + 1) 2 (by rfl) (.string f2) (by rfl) _ _ o0.out (by have := o0.sz; omega) rfl rfl ?_
   have o1 := o0.s2 f2
   refine hK.out _ _ o1.src (fun hHeld => ?_)
   clear hK K
   try simp only [zAJ]
   refine tkE 81 6 (.pointer (some ⟨w.heap.size + 1 + 1, 9, none⟩)) hHeld ?_
   try simp only [zAJ]
   refine wpAnyH_ready (rs := [7]) (by kernel_rfl) (by simp) (AllReadyH.cons rfl (fun K hK => ?_) AllReadyH.nil)
   rw [if_pos (by rfl)]
   refine wp_store_mid 26 _ _ rfl (w.heap.size + 1 + 1) 9 (at8 f9.f0 f9.f1 f9.f2 f9.f3 f9.f4 f9.f5 f9.f6 (.slice A1 f9.f7.length c1)) (by rfl) (by rfl) (zB2 o1.out 9 8 (by have := o1.sz; omega)) (zBQ _ _ _ _ _ _ _ _) (zFQ _ _ _ _ _ _ _ _ _ _) ?_
   have o2 := o1.s9 f9 A1 c1
   refine hK.out _ _ o2.src (fun hHeld => ?_)
   clear hK K
   try simp only [zAJ]
   have OF := Lib.hid o2
   clear o0 o1 o2 hHeld
   refine wpAnyH_done (by kernel_rfl) ?_ _
   go_wp2_with fail
   go_meet
   exact OF.out
  ·-- 10
   clear HT
   have O0 := Lib.hid o0
   clear o0
   go_wp2_with fail
   refine wp_region_held_drew (S := fun w' => w'.heap[w.heap.size]? = some (.cells (pkC (⟨10, f1, f2, f3, f4, f5, f6, f7, f8, f9, f10, f11, f12, f13, f14, f15, f16⟩ : Pk) A1 c1 A2 c2 A3 c3) 29 (0, 0))) (by kernel_rfl) O0.out.drew.src (fun hHeld => ?_)
   have o0 := O0.out.drew
   clear O0
   refine tkE 84 0 (.pointer (some ⟨w.heap.size, 4, none⟩)) hHeld ?_
   try simp only [zAJ]
   refine tkY 85 1 (.string f4) rfl (zAV (by rfl) 9 _ rfl zAk w.heap.size 4 (by rfl) _ _ (0, 0) _ (fun _ h => h) rfl) hHeld ?_
   try simp only [zAJ]
   refine tkE 86 2 (.pointer (some ⟨w.heap.size, 9, none⟩)) hHeld ?_
   try simp only [zAJ]
   refine tkY 87 3 (.agg (at8 f9.f0 f9.f1 f9.f2 f9.f3 f9.f4 f9.f5 f9.f6 (.slice A1 f9.f7.length c1)).toList.toArray) rfl (yieldsIf_load_mid (by rfl) 26 _ (by rfl) w.heap.size 9 (by rfl) (at8 f9.f0 f9.f1 f9.f2 f9.f3 f9.f4 f9.f5 f9.f6 (.slice A1 f9.f7.length c1)).toList _ (fun w' hw' j v hj => by rw [zAA hw']; exact zEx _ _ _ _ _ _ j v hj) Tryz.underlying26 rfl (zBQ _ _ _ _ _ _ _ _)) hHeld ?_
   try simp only [zAJ]
   rw [Array.toArray_toList]
   refine tkE 88 4 (.pointer (some ⟨w.heap.size + 1 + 1, 4, none⟩)) hHeld ?_
   try simp only [zAJ]
   refine wpAnyH_ready (rs := [5]) (by kernel_rfl) (by simp) (AllReadyH.cons rfl (fun K hK => ?_) AllReadyH.nil)
   rw [if_pos (by rfl)]
   refine zAt 9 _ _ rfl zAw (w.heap.size + 1 + 1) 4 (by rfl) (.string f4) (by rfl) _ _ o0.out (by have := o0.sz; omega) rfl rfl ?_
   have o1 := o0.s4 f4
   refine hK.out _ _ o1.src (fun hHeld => ?_)
   clear hK K
   try simp only [zAJ]
   refine tkE 89 6 (.pointer (some ⟨w.heap.size + 1 + 1, 9, none⟩)) hHeld ?_
   try simp only [zAJ]
   refine wpAnyH_ready (rs := [7]) (by kernel_rfl) (by simp) (AllReadyH.cons rfl (fun K hK => ?_) AllReadyH.nil)
   rw [if_pos (by rfl)]
   refine wp_store_mid 26 _ _ rfl (w.heap.size + 1 + 1) 9 (at8 f9.f0 f9.f1 f9.f2 f9.f3 f9.f4 f9.f5 f9.f6 (.slice A1 f9.f7.length c1)) (by rfl) (by rfl) (zB2 o1.out 9 8 (by have := o1.sz; omega)) (zBQ _ _ _ _ _ _ _ _) (zFQ _ _ _ _ _ _ _ _ _ _) ?_
   have o2 := o1.s9 f9 A1 c1
   refine hK.out _ _ o2.src (fun hHeld => ?_)
   clear hK K
   try simp only [zAJ]
   have OF := Lib.hid o2
   clear o0 o1 o2 hHeld
   refine wpAnyH_done (by kernel_rfl) ?_ _
   go_wp2_with fail
   go_meet
   exact OF.out
  ·-- 11
   clear HT
   go_wp2_with (first | refine zA8 rfl 9 _ rfl zAk w.heap.size 2 (by rfl) _ _ (0, 0) (.string f2) o0.src rfl ?_ | refine zAh rfl 9 _ _ rfl zAw (w.heap.size + 1 + 1) 2 (by rfl) (.string f2) (by rfl) _ _ o0.out (by have := o0.sz; omega) rfl rfl ?_)
   have OF := Lib.hid (o0.s2 f2)
   clear o0
   go_meet
   exact OF.out
  ·-- 12
   clear HT
   go_wp2_with (first | refine zA8 rfl 9 _ rfl zAk w.heap.size 4 (by rfl) _ _ (0, 0) (.string f4) o0.src rfl ?_ | refine zAh rfl 9 _ _ rfl zAw (w.heap.size + 1 + 1) 4 (by rfl) (.string f4) (by rfl) _ _ o0.out (by have := o0.sz; omega) rfl rfl ?_)
   have OF := Lib.hid (o0.s4 f4)
   clear o0
   go_meet
   exact OF.out
  ·-- 13
   clear HT
   go_wp2_with (first | refine zA8 rfl 9 _ rfl zAk w.heap.size 2 (by rfl) _ _ (0, 0) (.string f2) o0.src rfl ?_ | refine zAh rfl 9 _ _ rfl zAw (w.heap.size + 1 + 1) 2 (by rfl) (.string f2) (by rfl) _ _ o0.out (by have := o0.sz; omega) rfl rfl ?_)
   have OF := Lib.hid (o0.s2 f2)
   clear o0
   go_meet
   exact OF.out
  ·-- 14
   clear HT
   have O0 := Lib.hid o0
   clear o0
   go_wp2_with fail
   refine wp_region_held_drew (S := fun w' => w'.heap[w.heap.size]? = some (.cells (pkC (⟨14, f1, f2, f3, f4, f5, f6, f7, f8, f9, f10, f11, f12, f13, f14, f15, f16⟩ : Pk) A1 c1 A2 c2 A3 c3) 29 (0, 0))) (by kernel_rfl) O0.out.drew.src (fun hHeld => ?_)
   have o0 := O0.out.drew
   clear O0
   refine tkE 76 0 (.pointer (some ⟨w.heap.size, 2, none⟩)) hHeld ?_
   try simp only [zAJ]
   refine tkY 77 1 (.string f2) rfl (zAV (by rfl) 9 _ rfl zAk w.heap.size 2 (by rfl) _ _ (0, 0) _ (fun _ h => h) rfl) hHeld ?_
   try simp only [zAJ]
   refine tkE 78 2 (.pointer (some ⟨w.heap.size, 9, none⟩)) hHeld ?_
   try simp only [zAJ]
   refine tkY 79 3 (.agg (at8 f9.f0 f9.f1 f9.f2 f9.f3 f9.f4 f9.f5 f9.f6 (.slice A1 f9.f7.length c1)).toList.toArray) rfl (yieldsIf_load_mid (by rfl) 26 _ (by rfl) w.heap.size 9 (by rfl) (at8 f9.f0 f9.f1 f9.f2 f9.f3 f9.f4 f9.f5 f9.f6 (.slice A1 f9.f7.length c1)).toList _ (fun w' hw' j v hj => by rw [zAA hw']; exact zEx _ _ _ _ _ _ j v hj) Tryz.underlying26 rfl (zBQ _ _ _ _ _ _ _ _)) hHeld ?_
   try simp only [zAJ]
   rw [Array.toArray_toList]
   refine tkE 80 4 (.pointer (some ⟨w.heap.size + 1 + 1, 2, none⟩)) hHeld ?_
   try simp only [zAJ]
   refine wpAnyH_ready (rs := [5]) (by kernel_rfl) (by simp) (AllReadyH.cons rfl (fun K hK => ?_) AllReadyH.nil)
   rw [if_pos (by rfl)]
   refine zAt 9 _ _ rfl zAw (w.heap.size + 1 + 1) 2 (by rfl) (.string f2) (by rfl) _ _ o0.out (by have := o0.sz; omega) rfl rfl ?_
   have o1 := o0.s2 f2
   refine hK.out _ _ o1.src (fun hHeld => ?_)
   clear hK K
   try simp only [zAJ]
   refine tkE 81 6 (.pointer (some ⟨w.heap.size + 1 + 1, 9, none⟩)) hHeld ?_
   try simp only [zAJ]
   refine wpAnyH_ready (rs := [7]) (by kernel_rfl) (by simp) (AllReadyH.cons rfl (fun K hK => ?_) AllReadyH.nil)
   rw [if_pos (by rfl)]
   refine wp_store_mid 26 _ _ rfl (w.heap.size + 1 + 1) 9 (at8 f9.f0 f9.f1 f9.f2 f9.f3 f9.f4 f9.f5 f9.f6 (.slice A1 f9.f7.length c1)) (by rfl) (by rfl) (zB2 o1.out 9 8 (by have := o1.sz; omega)) (zBQ _ _ _ _ _ _ _ _) (zFQ _ _ _ _ _ _ _ _ _ _) ?_
   have o2 := o1.s9 f9 A1 c1
   refine hK.out _ _ o2.src (fun hHeld => ?_)
   clear hK K
   try simp only [zAJ]
   have OF := Lib.hid o2
   clear o0 o1 o2 hHeld
   refine wpAnyH_done (by kernel_rfl) ?_ _
   go_wp2_with fail
   go_meet
   exact OF.out
  ·-- 15
   clear HT
   go_wp2_with (first | refine zA8 rfl 9 _ rfl zAk w.heap.size 2 (by rfl) _ _ (0, 0) (.string f2) o0.src rfl ?_ | refine zAh rfl 9 _ _ rfl zAw (w.heap.size + 1 + 1) 2 (by rfl) (.string f2) (by rfl) _ _ o0.out (by have := o0.sz; omega) rfl rfl ?_)
   have OF := Lib.hid (o0.s2 f2)
   clear o0
   go_meet
   exact OF.out
  ·-- 16
   clear HT
   go_wp2_with (first | refine zA8 rfl 9 _ rfl zAk w.heap.size 2 (by rfl) _ _ (0, 0) (.string f2) o0.src rfl ?_ | refine zAh rfl 9 _ _ rfl zAw (w.heap.size + 1 + 1) 2 (by rfl) (.string f2) (by rfl) _ _ o0.out (by have := o0.sz; omega) rfl rfl ?_)
   have OF := Lib.hid (o0.s2 f2)
   clear o0
   go_meet
   exact OF.out
  ·-- 17
   clear HT
   go_wp2_with (first | refine zA8 rfl 9 _ rfl zAk w.heap.size 2 (by rfl) _ _ (0, 0) (.string f2) o0.src rfl ?_ | refine zAh rfl 9 _ _ rfl zAw (w.heap.size + 1 + 1) 2 (by rfl) (.string f2) (by rfl) _ _ o0.out (by have := o0.sz; omega) rfl rfl ?_)
   have OF := Lib.hid (o0.s2 f2)
   clear o0
   go_meet
   exact OF.out
  ·-- 18
   clear HT
   have O0 := Lib.hid o0
   clear o0
   go_wp2_with fail
   refine wp_region_held_drew (S := fun w' => w'.heap[w.heap.size]? = some (.cells (pkC (⟨18, f1, f2, f3, f4, f5, f6, f7, f8, f9, f10, f11, f12, f13, f14, f15, f16⟩ : Pk) A1 c1 A2 c2 A3 c3) 29 (0, 0))) (by kernel_rfl) O0.out.drew.src (fun hHeld => ?_)
   have o0 := O0.out.drew
   clear O0
   refine tkE 93 0 (.pointer (some ⟨w.heap.size, 2, none⟩)) hHeld ?_
   try simp only [zAJ]
   refine tkY 94 1 (.string f2) rfl (zAV (by rfl) 9 _ rfl zAk w.heap.size 2 (by rfl) _ _ (0, 0) _ (fun _ h => h) rfl) hHeld ?_
   try simp only [zAJ]
   refine tkE 95 2 (.pointer (some ⟨w.heap.size, 3, none⟩)) hHeld ?_
   try simp only [zAJ]
   refine tkY 96 3 (.string f3) rfl (zAV (by rfl) 9 _ rfl zAk w.heap.size 3 (by rfl) _ _ (0, 0) _ (fun _ h => h) rfl) hHeld ?_
   try simp only [zAJ]
   refine tkE 97 4 (.pointer (some ⟨w.heap.size + 1 + 1, 2, none⟩)) hHeld ?_
   try simp only [zAJ]
   refine wpAnyH_ready (rs := [5]) (by kernel_rfl) (by simp) (AllReadyH.cons rfl (fun K hK => ?_) AllReadyH.nil)
   rw [if_pos (by rfl)]
   refine zAt 9 _ _ rfl zAw (w.heap.size + 1 + 1) 2 (by rfl) (.string f2) (by rfl) _ _ o0.out (by have := o0.sz; omega) rfl rfl ?_
   have o1 := o0.s2 f2
   refine hK.out _ _ o1.src (fun hHeld => ?_)
   clear hK K
   try simp only [zAJ]
   refine tkE 98 6 (.pointer (some ⟨w.heap.size + 1 + 1, 3, none⟩)) hHeld ?_
   try simp only [zAJ]
   refine wpAnyH_ready (rs := [7]) (by kernel_rfl) (by simp) (AllReadyH.cons rfl (fun K hK => ?_) AllReadyH.nil)
   rw [if_pos (by rfl)]
   refine zAt 9 _ _ rfl zAw (w.heap.size + 1 + 1) 3 (by rfl) (.string f3) (by rfl) _ _ o1.out (by have := o1.sz; omega) rfl rfl ?_
   have o2 := o1.s3 f3
   refine hK.out _ _ o2.src (fun hHeld => ?_)
   clear hK K
   try simp only [zAJ]
   have OF := Lib.hid o2
   clear o0 o1 o2 hHeld
   refine wpAnyH_done (by kernel_rfl) ?_ _
   go_wp2_with fail
   go_meet
   exact OF.out
  ·-- 19
   clear HT
   go_wp2_with (first | refine zA8 rfl 9 _ rfl zAk w.heap.size 2 (by rfl) _ _ (0, 0) (.string f2) o0.src rfl ?_ | refine zAh rfl 9 _ _ rfl zAw (w.heap.size + 1 + 1) 2 (by rfl) (.string f2) (by rfl) _ _ o0.out (by have := o0.sz; omega) rfl rfl ?_)
   have OF := Lib.hid (o0.s2 f2)
   clear o0
   go_meet
   exact OF.out
  ·-- 20
   clear HT
   have O0 := Lib.hid o0
   clear o0
   go_wp2_with fail
   refine wp_region_held_drew (S := fun w' => w'.heap[w.heap.size]? = some (.cells (pkC (⟨20, f1, f2, f3, f4, f5, f6, f7, f8, f9, f10, f11, f12, f13, f14, f15, f16⟩ : Pk) A1 c1 A2 c2 A3 c3) 29 (0, 0))) (by kernel_rfl) O0.out.drew.src (fun hHeld => ?_)
   have o0 := O0.out.drew
   clear O0
   refine tkE 93 0 (.pointer (some ⟨w.heap.size, 2, none⟩)) hHeld ?_
   try simp only [zAJ]
   refine tkY 94 1 (.string f2) rfl (zAV (by rfl) 9 _ rfl zAk w.heap.size 2 (by rfl) _ _ (0, 0) _ (fun _ h => h) rfl) hHeld ?_
   try simp only [zAJ]
   refine tkE 95 2 (.pointer (some ⟨w.heap.size, 3, none⟩)) hHeld ?_
   try simp only [zAJ]
   refine tkY 96 3 (.string f3) rfl (zAV (by rfl) 9 _ rfl zAk w.heap.size 3 (by rfl) _ _ (0, 0) _ (fun _ h => h) rfl) hHeld ?_
   try simp only [zAJ]
   refine tkE 97 4 (.pointer (some ⟨w.heap.size + 1 + 1, 2, none⟩)) hHeld ?_
   try simp only [zAJ]
   refine wpAnyH_ready (rs := [5]) (by kernel_rfl) (by simp) (AllReadyH.cons rfl (fun K hK => ?_) AllReadyH.nil)
   rw [if_pos (by rfl)]
   refine zAt 9 _ _ rfl zAw (w.heap.size + 1 + 1) 2 (by rfl) (.string f2) (by rfl) _ _ o0.out (by have := o0.sz; omega) rfl rfl ?_
   have o1 := o0.s2 f2
   refine hK.out _ _ o1.src (fun hHeld => ?_)
   clear hK K
   try simp only [zAJ]
   refine tkE 98 6 (.pointer (some ⟨w.heap.size + 1 + 1, 3, none⟩)) hHeld ?_
   try simp only [zAJ]
   refine wpAnyH_ready (rs := [7]) (by kernel_rfl) (by simp) (AllReadyH.cons rfl (fun K hK => ?_) AllReadyH.nil)
   rw [if_pos (by rfl)]
   refine zAt 9 _ _ rfl zAw (w.heap.size + 1 + 1) 3 (by rfl) (.string f3) (by rfl) _ _ o1.out (by have := o1.sz; omega) rfl rfl ?_
   have o2 := o1.s3 f3
   refine hK.out _ _ o2.src (fun hHeld => ?_)
   clear hK K
   try simp only [zAJ]
   have OF := Lib.hid o2
   clear o0 o1 o2 hHeld
   refine wpAnyH_done (by kernel_rfl) ?_ _
   go_wp2_with fail
   go_meet
   exact OF.out
  ·-- 101
   clear HT
   have O0 := Lib.hid o0
   clear o0
   go_wp2_with fail
   refine wp_region_held_drew (S := fun w' => w'.heap[w.heap.size]? = some (.cells (pkC (⟨101, f1, f2, f3, f4, f5, f6, f7, f8, f9, f10, f11, f12, f13, f14, f15, f16⟩ : Pk) A1 c1 A2 c2 A3 c3) 29 (0, 0))) (by kernel_rfl) O0.out.drew.src (fun hHeld => ?_)
   have o0 := O0.out.drew
   clear O0
   refine tkE 101 0 (.pointer (some ⟨w.heap.size, 20, none⟩)) hHeld ?_
   try simp only [zAJ]
   refine tkY 102 1 (.int .u32 f13) rfl (zAV (by rfl) 22 _ rfl zCq w.heap.size 20 (by rfl) _ _ (0, 0) _ (fun _ h => h) rfl) hHeld ?_
   try simp only [zAJ]
   refine tkE 103 2 (.pointer (some ⟨w.heap.size, 21, none⟩)) hHeld ?_
   try simp only [zAJ]
   refine tkY 104 3 (.string f14) rfl (zAV (by rfl) 9 _ rfl zAk w.heap.size 21 (by rfl) _ _ (0, 0) _ (fun _ h => h) rfl) hHeld ?_
   try simp only [zAJ]
   refine tkE 105 4 (.pointer (some ⟨w.heap.size, 22, none⟩)) hHeld ?_
   try simp only [zAJ]
   refine tkY 106 5 (.string f15) rfl (zAV (by rfl) 9 _ rfl zAk w.heap.size 22 (by rfl) _ _ (0, 0) _ (fun _ h => h) rfl) hHeld ?_
   try simp only [zAJ]
   refine tkE 107 6 (.pointer (some ⟨w.heap.size + 1 + 1, 20, none⟩)) hHeld ?_
   try simp only [zAJ]
   refine wpAnyH_ready (rs := [7]) (by kernel_rfl) (by simp) (AllReadyH.cons rfl (fun K hK => ?_) AllReadyH.nil)
   rw [if_pos (by rfl)]
   refine zAt 22 _ _ rfl zEL (w.heap.size + 1 + 1) 20 (by rfl) (.int .u32 f13) (by rfl) _ _ o0.out (by have := o0.sz; omega) rfl rfl ?_
   have o1 := o0.s13 f13
   refine hK.out _ _ o1.src (fun hHeld => ?_)
   clear hK K
   try simp only [zAJ]
   refine tkE 108 8 (.pointer (some ⟨w.heap.size + 1 + 1, 21, none⟩)) hHeld ?_
   try simp only [zAJ]
   refine wpAnyH_ready (rs := [9]) (by kernel_rfl) (by simp) (AllReadyH.cons rfl (fun K hK => ?_) AllReadyH.nil)
   rw [if_pos (by rfl)]
   refine zAt 9 _ _ rfl zAw (w.heap.size + 1 + 1) 21 (by rfl) (.string f14) (by rfl) _ _ o1.out (by have := o1.sz; omega) rfl rfl ?_
   have o2 := o1.s14 f14
   refine hK.out _ _ o2.src (fun hHeld => ?_)
   clear hK K
   try simp only [zAJ]
   refine tkE 109 10 (.pointer (some ⟨w.heap.size + 1 + 1, 22, none⟩)) hHeld ?_
   try simp only [zAJ]
   refine wpAnyH_ready (rs := [11]) (by kernel_rfl) (by simp) (AllReadyH.cons rfl (fun K hK => ?_) AllReadyH.nil)
   rw [if_pos (by rfl)]
   refine zAt 9 _ _ rfl zAw (w.heap.size + 1 + 1) 22 (by rfl) (.string f15) (by rfl) _ _ o2.out (by have := o2.sz; omega) rfl rfl ?_
   have o3 := o2.s15 f15
   refine hK.out _ _ o3.src (fun hHeld => ?_)
   clear hK K
   try simp only [zAJ]
   have OF := Lib.hid o3
   clear o0 o1 o2 o3 hHeld
   refine wpAnyH_done (by kernel_rfl) ?_ _
   go_wp2_with fail
   go_meet
   exact OF.out
  ·-- 102
   clear HT
   go_wp2_with (first | refine zA8 rfl 9 _ rfl zAk w.heap.size 4 (by rfl) _ _ (0, 0) (.string f4) o0.src rfl ?_ | refine zAh rfl 9 _ _ rfl zAw (w.heap.size + 1 + 1) 4 (by rfl) (.string f4) (by rfl) _ _ o0.out (by have := o0.sz; omega) rfl rfl ?_)
   have OF := Lib.hid (o0.s4 f4)
   clear o0
   go_meet
   exact OF.out
  ·-- 103
   clear HT
   go_wp2_with (first | refine zA8 rfl 9 _ rfl zAk w.heap.size 8 (by rfl) _ _ (0, 0) (.string f8) o0.src rfl ?_ | refine zAh rfl 9 _ _ rfl zAw (w.heap.size + 1 + 1) 8 (by rfl) (.string f8) (by rfl) _ _ o0.out (by have := o0.sz; omega) rfl rfl ?_)
   have OF := Lib.hid (o0.s8 f8)
   clear o0
   go_meet
   exact OF.out
  ·-- 104
   clear HT
   go_wp2_with (first | refine zA8 rfl 27 _ rfl zJL w.heap.size 17 (by rfl) _ _ (0, 0) (.slice A2 f10.length c2) o0.src rfl ?_ | refine zAh rfl 27 _ _ rfl zME (w.heap.size + 1 + 1) 17 (by rfl) (.slice A2 f10.length c2) (by rfl) _ _ o0.out (by have := o0.sz; omega) rfl rfl ?_)
   have OF := Lib.hid (o0.s10 f10 A2 c2)
   clear o0
   go_meet
   exact OF.out
  ·-- 105
   clear HT
   go_wp2_with (first | refine wpList_load_mid rfl 26 _ rfl w.heap.size 9 (by rfl) (at8 f9.f0 f9.f1 f9.f2 f9.f3 f9.f4 f9.f5 f9.f6 (.slice A1 f9.f7.length c1)).toList _ (fun j v hj => by rw [zAA o0.src]; exact zEx _ _ _ _ _ _ j v hj) Tryz.underlying26 rfl (zBQ _ _ _ _ _ _ _ _) ?_ | refine wpList_store_mid rfl 26 _ _ rfl (w.heap.size + 1 + 1) 9 (at8 f9.f0 f9.f1 f9.f2 f9.f3 f9.f4 f9.f5 f9.f6 (.slice A1 f9.f7.length c1)) (by rfl) (by rfl) (zB2 o0.out 9 8 (by have := o0.sz; omega)) (zBQ _ _ _ _ _ _ _ _) (zFQ _ _ _ _ _ _ _ _ _ _) ?_)
   have OF := Lib.hid (o0.s9 f9 A1 c1)
   clear o0
   go_meet
   exact OF.out
  ·-- 201
   clear HT
   go_wp2_with (first | refine zA8 rfl 9 _ rfl zAk w.heap.size 8 (by rfl) _ _ (0, 0) (.string f8) o0.src rfl ?_ | refine zAh rfl 9 _ _ rfl zAw (w.heap.size + 1 + 1) 8 (by rfl) (.string f8) (by rfl) _ _ o0.out (by have := o0.sz; omega) rfl rfl ?_)
   have OF := Lib.hid (o0.s8 f8)
   clear o0
   go_meet
   exact OF.out
  ·-- 200
   clear HT
   have o1 := o0.s16 f16
   cases hx : (f16.toList == [104, 97, 114, 100, 108, 105, 110, 107, 64, 111, 112, 101, 110, 115, 115, 104, 46, 99, 111, 109]) with
   | true =>
    have hm : zAd 200 f16 = [1, 2, 3, 16] := by unfold zAd; rw [zLT hx]; rfl
    have HM := Lib.hid hm
    clear hm
    go_wp2_with (first | refine zA8 rfl 9 _ rfl zAk w.heap.size 23 (by rfl) _ _ (0, 0) (.string f16) o0.src rfl ?_ | refine zAh rfl 9 _ _ rfl zAw (w.heap.size + 1 + 1) 23 (by rfl) (.string f16) (by rfl) _ _ o0.out (by have := o0.sz; omega) rfl rfl ?_ | refine zA8 rfl 9 _ rfl zAk w.heap.size 23 (by rfl) _ _ (0, 0) (.string f16) o1.src rfl ?_)
    refine wp_region_held_drew (S := fun w' => w'.heap[w.heap.size]? = some (.cells (pkC (⟨200, f1, f2, f3, f4, f5, f6, f7, f8, f9, f10, f11, f12, f13, f14, f15, f16⟩ : Pk) A1 c1 A2 c2 A3 c3) 29 (0, 0))) (by kernel_rfl) o1.drew.src (fun hHeld => ?_)
    have r0 := o1.drew
    refine tkE 139 0 (.pointer (some ⟨w.heap.size, 2, none⟩)) hHeld ?_
    try simp only [zAJ]
    refine tkY 140 1 (.string f2) rfl (zAV (by rfl) 9 _ rfl zAk w.heap.size 2 (by rfl) _ _ (0, 0) _ (fun _ h => h) rfl) hHeld ?_
    try simp only [zAJ]
    refine tkE 141 2 (.pointer (some ⟨w.heap.size, 3, none⟩)) hHeld ?_
    try simp only [zAJ]
    refine tkY 142 3 (.string f3) rfl (zAV (by rfl) 9 _ rfl zAk w.heap.size 3 (by rfl) _ _ (0, 0) _ (fun _ h => h) rfl) hHeld ?_
    try simp only [zAJ]
    refine tkE 143 4 (.pointer (some ⟨w.heap.size + 1 + 1, 2, none⟩)) hHeld ?_
    try simp only [zAJ]
    refine wpAnyH_ready (rs := [5]) (by kernel_rfl) (by simp) (AllReadyH.cons rfl (fun K hK => ?_) AllReadyH.nil)
    rw [if_pos (by rfl)]
    refine zAt 9 _ _ rfl zAw (w.heap.size + 1 + 1) 2 (by rfl) (.string f2) (by rfl) _ _ r0.out (by have := r0.sz; omega) rfl rfl ?_
    have r1 := r0.s2 f2
    refine hK.out _ _ r1.src (fun hHeld => ?_)
    clear hK K
    try simp only [zAJ]
    refine tkE 144 6 (.pointer (some ⟨w.heap.size + 1 + 1, 3, none⟩)) hHeld ?_
    try simp only [zAJ]
    refine wpAnyH_ready (rs := [7]) (by kernel_rfl) (by simp) (AllReadyH.cons rfl (fun K hK => ?_) AllReadyH.nil)
    rw [if_pos (by rfl)]
    refine zAt 9 _ _ rfl zAw (w.heap.size + 1 + 1) 3 (by rfl) (.string f3) (by rfl) _ _ r1.out (by have := r1.sz; omega) rfl rfl ?_
    have r2 := r1.s3 f3
    refine hK.out _ _ r2.src (fun hHeld => ?_)
    clear hK K
    try simp only [zAJ]
    have OF := Lib.hid r2
    clear r1 r2 hHeld
    refine wpAnyH_done (by kernel_rfl) ?_ _
    go_wp2_with fail
    go_meet
    rw [HM.out]
    exact OF.out
   | false =>
    have h0 := hx
    clear hx
    cases hx : (f16.toList == [112, 111, 115, 105, 120, 45, 114, 101, 110, 97, 109, 101, 64, 111, 112, 101, 110, 115, 115, 104, 46, 99, 111, 109]) with
    | true =>
     have hm : zAd 200 f16 = [1, 2, 3, 16] := by unfold zAd; rw [zLU h0 hx]; rfl
     have HM := Lib.hid hm
     clear hm
     go_wp2_with (first | refine zA8 rfl 9 _ rfl zAk w.heap.size 23 (by rfl) _ _ (0, 0) (.string f16) o0.src rfl ?_ | refine zAh rfl 9 _ _ rfl zAw (w.heap.size + 1 + 1) 23 (by rfl) (.string f16) (by rfl) _ _ o0.out (by have := o0.sz; omega) rfl rfl ?_ | refine zA8 rfl 9 _ rfl zAk w.heap.size 23 (by rfl) _ _ (0, 0) (.string f16) o1.src rfl ?_)
     refine wp_region_held_drew (S := fun w' => w'.heap[w.heap.size]? = some (.cells (pkC (⟨200, f1, f2, f3, f4, f5, f6, f7, f8, f9, f10, f11, f12, f13, f14, f15, f16⟩ : Pk) A1 c1 A2 c2 A3 c3) 29 (0, 0))) (by kernel_rfl) o1.drew.src (fun hHeld => ?_)
     have r0 := o1.drew
     refine tkE 139 0 (.pointer (some ⟨w.heap.size, 2, none⟩)) hHeld ?_
     try simp only [zAJ]
     refine tkY 140 1 (.string f2) rfl (zAV (by rfl) 9 _ rfl zAk w.heap.size 2 (by rfl) _ _ (0, 0) _ (fun _ h => h) rfl) hHeld ?_
     try simp only [zAJ]
     refine tkE 141 2 (.pointer (some ⟨w.heap.size, 3, none⟩)) hHeld ?_
     try simp only [zAJ]
     refine tkY 142 3 (.string f3) rfl (zAV (by rfl) 9 _ rfl zAk w.heap.size 3 (by rfl) _ _ (0, 0) _ (fun _ h => h) rfl) hHeld ?_
     try simp only [zAJ]
     refine tkE 143 4 (.pointer (some ⟨w.heap.size + 1 + 1, 2, none⟩)) hHeld ?_
     try simp only [zAJ]
     refine wpAnyH_ready (rs := [5]) (by kernel_rfl) (by simp) (AllReadyH.cons rfl (fun K hK => ?_) AllReadyH.nil)
     rw [if_pos (by rfl)]
     refine zAt 9 _ _ rfl zAw (w.heap.size + 1 + 1) 2 (by rfl) (.string f2) (by rfl) _ _ r0.out (by have := r0.sz; omega) rfl rfl ?_
     have r1 := r0.s2 f2
     refine hK.out _ _ r1.src (fun hHeld => ?_)
     clear hK K
     try simp only [zAJ]
     refine tkE 144 6 (.pointer (some ⟨w.heap.size + 1 + 1, 3, none⟩)) hHeld ?_
     try simp only [zAJ]
     refine wpAnyH_ready (rs := [7]) (by kernel_rfl) (by simp) (AllReadyH.cons rfl (fun K hK => ?_) AllReadyH.nil)
     rw [if_pos (by rfl)]
     refine zAt 9 _ _ rfl zAw (w.heap.size + 1 + 1) 3 (by rfl) (.string f3) (by rfl) _ _ r1.out (by have := r1.sz; omega) rfl rfl ?_
     have r2 := r1.s3 f3
     refine hK.out _ _ r2.src (fun hHeld => ?_)
     clear hK K
     try simp only [zAJ]
     have OF := Lib.hid r2
     clear r1 r2 hHeld
     refine wpAnyH_done (by kernel_rfl) ?_ _
     go_wp2_with fail
     go_meet
     rw [HM.out]
     exact OF.out
    | false =>
     have h1 := hx
     clear hx
     cases hx : (f16.toList == [115, 116, 97, 116, 118, 102, 115, 64, 111, 112, 101, 110, 115, 115, 104, 46, 99, 111, 109]) with
     | true =>
      have hm : zAd 200 f16 = [1, 2, 16] := by unfold zAd; rw [zLV h0 h1 hx]; rfl
      have HM := Lib.hid hm
      clear hm
      go_wp2_with (first | refine zA8 rfl 9 _ rfl zAk w.heap.size 23 (by rfl) _ _ (0, 0) (.string f16) o0.src rfl ?_ | refine zAh rfl 9 _ _ rfl zAw (w.heap.size + 1 + 1) 23 (by rfl) (.string f16) (by rfl) _ _ o0.out (by have := o0.sz; omega) rfl rfl ?_ | refine zA8 rfl 9 _ rfl zAk w.heap.size 23 (by rfl) _ _ (0, 0) (.string f16) o1.src rfl ?_ | refine zA8 rfl 9 _ rfl zAk w.heap.size 2 (by rfl) _ _ (0, 0) (.string f2) o1.src rfl ?_ | refine zAh rfl 9 _ _ rfl zAw (w.heap.size + 1 + 1) 2 (by rfl) (.string f2) (by rfl) _ _ o1.out (by have := o1.sz; omega) rfl rfl ?_)
      have OF := Lib.hid (o1.s2 f2)
      clear o0 o1
      go_meet
      rw [HM.out]
      exact OF.out
     | false =>
      have h2 := hx
      clear hx
      cases hx : (f16.toList == [102, 115, 116, 97, 116, 118, 102, 115, 64, 111, 112, 101, 110, 115, 115, 104, 46, 99, 111, 109]) with
      | true =>
       have hm : zAd 200 f16 = [1, 4, 16] := by unfold zAd; rw [zLW h0 h1 h2 hx]; rfl
       have HM := Lib.hid hm
       clear hm
       go_wp2_with (first | refine zA8 rfl 9 _ rfl zAk w.heap.size 23 (by rfl) _ _ (0, 0) (.string f16) o0.src rfl ?_ | refine zAh rfl 9 _ _ rfl zAw (w.heap.size + 1 + 1) 23 (by rfl) (.string f16) (by rfl) _ _ o0.out (by have := o0.sz; omega) rfl rfl ?_ | refine zA8 rfl 9 _ rfl zAk w.heap.size 23 (by rfl) _ _ (0, 0) (.string f16) o1.src rfl ?_ | refine zA8 rfl 9 _ rfl zAk w.heap.size 4 (by rfl) _ _ (0, 0) (.string f4) o1.src rfl ?_ | refine zAh rfl 9 _ _ rfl zAw (w.heap.size + 1 + 1) 4 (by rfl) (.string f4) (by rfl) _ _ o1.out (by have := o1.sz; omega) rfl rfl ?_)
       have OF := Lib.hid (o1.s4 f4)
       clear o0 o1
       go_meet
       rw [HM.out]
       exact OF.out
      | false =>
       have h3 := hx
       clear hx
       cases hx : (f16.toList == [102, 115, 121, 110, 99, 64, 111, 112, 101, 110, 115, 115, 104, 46, 99, 111, 109]) with
       | true =>
        have hm : zAd 200 f16 = [1, 4, 16] := by unfold zAd; rw [zLX h0 h1 h2 h3 hx]; rfl
        have HM := Lib.hid hm
        clear hm
        go_wp2_with (first | refine zA8 rfl 9 _ rfl zAk w.heap.size 23 (by rfl) _ _ (0, 0) (.string f16) o0.src rfl ?_ | refine zAh rfl 9 _ _ rfl zAw (w.heap.size + 1 + 1) 23 (by rfl) (.string f16) (by rfl) _ _ o0.out (by have := o0.sz; omega) rfl rfl ?_ | refine zA8 rfl 9 _ rfl zAk w.heap.size 23 (by rfl) _ _ (0, 0) (.string f16) o1.src rfl ?_ | refine zA8 rfl 9 _ rfl zAk w.heap.size 4 (by rfl) _ _ (0, 0) (.string f4) o1.src rfl ?_ | refine zAh rfl 9 _ _ rfl zAw (w.heap.size + 1 + 1) 4 (by rfl) (.string f4) (by rfl) _ _ o1.out (by have := o1.sz; omega) rfl rfl ?_)
        have OF := Lib.hid (o1.s4 f4)
        clear o0 o1
        go_meet
        rw [HM.out]
        exact OF.out
       | false =>
        have h4 := hx
        clear hx
        have hm : zAd 200 f16 = [1, 8, 16] := by unfold zAd; rw [zLY h0 h1 h2 h3 h4]; rfl
        have HM := Lib.hid hm
        clear hm
        go_wp2_with (first | refine zA8 rfl 9 _ rfl zAk w.heap.size 23 (by rfl) _ _ (0, 0) (.string f16) o0.src rfl ?_ | refine zAh rfl 9 _ _ rfl zAw (w.heap.size + 1 + 1) 23 (by rfl) (.string f16) (by rfl) _ _ o0.out (by have := o0.sz; omega) rfl rfl ?_ | refine zA8 rfl 9 _ rfl zAk w.heap.size 23 (by rfl) _ _ (0, 0) (.string f16) o1.src rfl ?_ | refine zA8 rfl 9 _ rfl zAk w.heap.size 8 (by rfl) _ _ (0, 0) (.string f8) o1.src rfl ?_ | refine zAh rfl 9 _ _ rfl zAw (w.heap.size + 1 + 1) 8 (by rfl) (.string f8) (by rfl) _ _ o1.out (by have := o1.sz; omega) rfl rfl ?_)
        have OF := Lib.hid (o1.s8 f8)
        clear o0 o1
        go_meet
        rw [HM.out]
        exact OF.out
 case rest =>
  obtain ⟨W5, rfl⟩ : ∃ W : World, W = wc := ⟨_, rfl⟩
  have O5 := Lib.hid hcut
  clear hcut OS HT
  obtain ⟨W6, hW6⟩ : ∃ W, W5.setRow (w.heap.size + 1) (zEp (zAd f0 f16) (⟨f0, f1, f2, f3, f4, f5, f6, f7, f8, f9, f10, f11, f12, f13, f14, f15, f16⟩ : Pk) A1 c1 A2 c2 A3 c3) = W := ⟨_, rfl⟩
  have k6 : W6.heap[w.heap.size + 1]? = some (.cells (zEp (zAd f0 f16) (⟨f0, f1, f2, f3, f4, f5, f6, f7, f8, f9, f10, f11, f12, f13, f14, f15, f16⟩ : Pk) A1 c1 A2 c2 A3 c3) 29 (0, 0)) := by rw [← hW6]; exact zAj O5.out.res
  have b5 := O5.out.bel
  have b6 : Below w.heap.size w W6 := by rw [← hW6]; exact ⟨b5.os, b5.tape, b5.output, by rw [setRow_size]; exact b5.size, fun k hk => by rw [setRow_other _ _ _ _ (by omega)]; exact b5.block k hk⟩
  have X6 := Lib.hid hW6
  have K6 := Lib.hid k6
  have B6 := Lib.hid b6
  clear hW6 k6 b5 b6
  go_wp2_with (first
   | refine wpList_load_row rfl 29 _ rfl (w.heap.size + 1 + 1) rfl 29 (zEp (zAd f0 f16) (⟨f0, f1, f2, f3, f4, f5, f6, f7, f8, f9, f10, f11, f12, f13, f14, f15, f16⟩ : Pk) A1 c1 A2 c2 A3 c3) (0, 0) _ O5.out.out Tryz.underlying29 rfl (zDo _ _ _ _ _ _ _) ?_
   | (refine wpList_store_row rfl 29 _ _ rfl (w.heap.size + 1) (zEp (zAd f0 f16) (⟨f0, f1, f2, f3, f4, f5, f6, f7, f8, f9, f10, f11, f12, f13, f14, f15, f16⟩ : Pk) A1 c1 A2 c2 A3 c3) rfl rfl 29 pZero O5.out.res (zDo _ _ _ _ _ _ _) rfl (zDU _ _ _ _ _ _ _) ?_; rw [X6.out]))
  refine bodyPost_ret (zEw Tryz.results21 _ _ (w.heap.size + 1) 29 (zEp (zAd f0 f16) (⟨f0, f1, f2, f3, f4, f5, f6, f7, f8, f9, f10, f11, f12, f13, f14, f15, f16⟩ : Pk) A1 c1 A2 c2 A3 c3) (0, 0) _ rfl K6.out Tryz.underlying29 rfl (zDo _ _ _ _ _ _ _)) rfl ?_
  exact ⟨rfl, B6.out⟩
def zI7 (l : List Ex) : Prop := l.length ≤ 2147483647 ∧ ∀ e ∈ l, e.f0.size ≤ 2147483647 ∧ e.f1.size ≤ 2147483647
def zOR (l : List Nm) : Prop := l.length ≤ 2147483647 ∧ ∀ e ∈ l, e.f0.size ≤ 2147483647 ∧ e.f1.size ≤ 2147483647 ∧ zI7 e.f2.f7
structure zM0 (p : Pk) : Prop where
 s2 : p.f2.size ≤ 2147483647
 s3 : p.f3.size ≤ 2147483647
 s4 : p.f4.size ≤ 2147483647
 s8 : p.f8.size ≤ 2147483647
 s14 : p.f14.size ≤ 2147483647
 s15 : p.f15.size ≤ 2147483647
 s16 : p.f16.size ≤ 2147483647
 e9 : zI7 p.f9.f7
 e10 : zOR p.f10
 e11 : zI7 p.f11
def zDp (a : Ats) : Bool := zC8 a.f0 a.f1 a.f2 a.f3 a.f4 a.f5 a.f6 a.f7.length
theorem zDq {a : Ats} (h : zDp a = true) : a.f7.length ≤ 8 := by
 unfold zDp zC8 at h
 simp only [Bool.and_eq_true, Bool.not_eq_true', decide_eq_false_iff_not] at h
 omega
def zC1 : List Nm → Nat
 | [] => 0
 | e :: r => e.f0.size + e.f1.size + zB3 e.f2.f7 + zC1 r
theorem zL0 (a b : List Nm) : zC1 (a ++ b) = zC1 a + zC1 b := by
 induction a with
 | nil => simp [zC1]
 | cons x r ih => simp [zC1, ih]; omega
def zB7 (p : Pk) : Nat := p.f2.size + p.f3.size + p.f4.size + p.f8.size + p.f14.size + p.f15.size + p.f16.size
def zEQ (p : Pk) : Nat := zB7 p + zB3 (p.f11 ++ p.f9.f7) + zC1 p.f10
structure OkP (p : Pk) : Prop where
 ty : T27 p.f0
 told : zDp p.f9 = true
 n10 : p.f10.length ≤ 8
 n11 : p.f11.length ≤ 8
 ntold : ∀ e ∈ p.f10, zDp e.f2 = true
 sz : zEQ p ≤ 2000
 only : p = zBL p
def PkR (p : Pk) (w : World) (e : Ending) (w' : World) : Prop := (∃ r, e = .returned (.bool r) ∧ (r = true → OkP p)) ∧ Below w.heap.size w w'
theorem PkR.no {p : Pk} {w w' : World} (hb : Below w.heap.size w w') : PkR p w (.returned (.bool false)) w' := ⟨⟨false, rfl, fun h => by cases h⟩, hb⟩
theorem zJy (t : Int) : (T27 t ∧ (1 ≤ t ∧ t ≤ 20 ∨ 101 ≤ t ∧ t ≤ 105 ∨ t = 200 ∨ t = 201)) ∨ t < 1 ∨ (20 < t ∧ t < 101) ∨ (105 < t ∧ t ≠ 200 ∧ t ≠ 201) := by
 unfold T27
 omega
theorem zDA {P : Program} (w : World) {o : Oper} {a : Act} {K : Act → World → Prop} {Q : Exit → Act → World → Prop} (d : Nat) (hd : o.dst = some d) (s x : Operand) (t tn : TypeId)
  (ho : o.op = .call { callee := .builtin .append, args := #[s, x], argTypes := #[t, tn] }) (vs vx : Value) (hs : a.eval s = vs) (hx : a.eval x = vx)
  (v' : Value) (w' : World) (hr : (Builtin.append_ #[t, tn] o.type #[vs, vx]).run P w = .ok v' w') (h : K (a.put (some d) v') w') : o.wp P a w K Q := by
 rw [← hd] at h
 exact Lib.wp_append_run w s x t tn ho vs vx hs hx v' w' hr h
theorem zM1 (l : List Nm) (h : ∀ e ∈ l, e.f0.size ≤ 2147483647 ∧ e.f1.size ≤ 2147483647 ∧ zB3 e.f2.f7 ≤ 40000000000) : zC1 l ≤ l.length * 50000000000 := by
 induction l with
 | nil => simp [zC1]
 | cons x r ih =>
  have h1 := h x List.mem_cons_self
  have h2 := ih (fun e he => h e (List.mem_cons_of_mem _ he))
  simp only [zC1, List.length_cons]
  omega
theorem zL1 {l : List Ex} (h : zI7 l) (h8 : l.length ≤ 16) : zB3 l ≤ 80000000000 := by
 have h1 := zJO l h.2
 have h2 := Nat.mul_le_mul_right 4294967294 h8
 omega
theorem zFr (l : List Ex) (k : Nat) : zB3 (l.take k) ≤ zB3 l := by
 have h := zCw (l.take k) (l.drop k)
 rw [List.take_append_drop] at h
 omega
def XRow (w : World) (base : Nat) (v : Value) (l : List Ex) : Prop := w.ownsRow base 52 2 v l.length (iC l)
theorem zN7 (a b : List Ex) : iC (a ++ b) = iC a ++ iC b := by
 induction a with
 | nil => rfl
 | cons x r ih => simp [iC, ih]
theorem XRow.append {W : World} {base : Nat} {v : Value} {l0 : List Ex} (ho : XRow W base v l0) (A : Option Addr) (c : Nat) (l : List Ex) (h : SlE W A c l) (hb : l0.length + l.length ≤ 1000) (hbs : base ≤ W.heap.size) :
  ∃ v' w', (Builtin.append_ #[24, 24] 24 #[v, .slice A l.length c]).run Tryz.prog W = .ok v' w' ∧ XRow w' base v' (l0 ++ l) ∧ W.grownBy w' v.ownBlock := by
 obtain ⟨i0, hi0, hzz⟩ := Option.map_eq_some_iff.1 zNw
 simp only [Prod.mk.injEq] at hzz
 obtain ⟨hz0, hz1, hz2⟩ := hzz
 rcases A with _ | ad
 ·have hl : l = [] := by
   rcases Nat.eq_zero_or_pos l.length with h0 | h0
   ·exact List.length_eq_zero_iff.1 h0
   ·obtain ⟨x, p, hA, _⟩ := zHX h.1 h0
    cases hA
  subst hl
  refine ⟨v, W, ?_, by simpa using ho, ⟨rfl, rfl, rfl, Nat.le_refl _, fun _ _ _ => rfl⟩⟩
  rcases ho.2 with ⟨rfl, _⟩ | ⟨g, cap, cur, rfl, _, hg, hn, _⟩
  ·simp [Builtin.append_, run_underlying Tryz.underlying24, sizeOf, typeInfo, hi0, Builtin.lenOf, Builtin.firstCells, loadCells, loadCellsFrom]
  ·simp [Builtin.append_, run_underlying Tryz.underlying24, sizeOf, typeInfo, hi0, Builtin.lenOf, Builtin.firstCells, loadCells, loadCellsFrom, storeCells]
   intro hlt
   omega
 ·have hcell : ∀ j u, (iC l)[j]? = some u → W.cell? (ad.add j) = some u := by
   intro j u hj
   have hpos : 0 < l.length := by
    rcases Nat.eq_zero_or_pos l.length with h0 | h0
    ·rw [List.length_eq_zero_iff.1 h0] at hj; simp [iC] at hj
    ·exact h0
   obtain ⟨x, p, hA, _, hc⟩ := zHX h.1 hpos
   obtain rfl := Option.some.inj hA
   exact hc j u hj
  obtain ⟨v', w', hr, hown', hg, _, _⟩ := run_append_own_at (P := Tryz.prog) W base 24 24 52 i0 _ 2 32 Tryz.underlying24 hi0 hz0 hz1 hz2 rfl (by omega) v l0.length (iC l0) ho ad l.length c (iC l) (zLD l) hcell (zNH l) (by simp only [maxLen]; omega) (by omega) hbs
  refine ⟨v', w', hr, ?_, hg⟩
  unfold XRow
  rw [List.length_append, zN7]
  exact hown'
theorem XRow.shown {w : World} {base : Nat} {v : Value} {l : List Ex} (h : XRow w base v l) : ∃ V c, v = .slice V l.length c ∧ ∀ k e, l[k]? = some e → ∃ g, V = some ⟨g, 0, none⟩ ∧ g < w.heap.size ∧ w.cell? ⟨g, k * 2, none⟩ = some (.string e.f0) ∧ w.cell? ⟨g, k * 2 + 1, none⟩ = some (.string e.f1) := by
 rcases h.2 with ⟨rfl, h0⟩ | ⟨g, cap, cur, rfl, hb, hgg, hnc, hcm, hcs, htake⟩
 ·exact ⟨none, 0, by rw [h0], fun k e he => by rw [List.length_eq_zero_iff.1 h0] at he; simp at he⟩
 ·refine ⟨_, cap, rfl, fun k e he => ⟨g, rfl, zAC hgg, ?_⟩⟩
  have key : ∀ j u, (iC l)[j]? = some u → w.cell? ⟨g, j, none⟩ = some u := by
   intro j u hj
   rw [zAA hgg, ← Array.getElem?_toList]
   rw [← htake, List.getElem?_take] at hj
   split at hj
   ·exact hj
   ·cases hj
  exact ⟨key _ _ (zLE l k e he).1, key _ _ (zLE l k e he).2⟩
theorem zL2 {w : World} {p : Pk} {A : Option Addr} {c : Nat} (h : SlE w A c p.f9.f7) (m : List Nat) : SlE w (if m.contains 9 then A else none) (if m.contains 9 then c else 0) (zEO m p).f9.f7 := by
 unfold zEO
 cases m.contains 9
 ·exact ⟨zDj _ w, Nat.le_refl _⟩
 ·exact h
theorem zJz {w : World} {p : Pk} {A : Option Addr} {c : Nat} (h : SlN w A c p.f10) (m : List Nat) : SlN w (if m.contains 10 then A else none) (if m.contains 10 then c else 0) (zEO m p).f10 := by
 unfold zEO
 cases m.contains 10
 ·exact ⟨zDj _ w, Nat.le_refl _⟩
 ·exact h
theorem zKA {w : World} {p : Pk} {A : Option Addr} {c : Nat} (h : SlE w A c p.f11) (m : List Nat) : SlE w (if m.contains 11 then A else none) (if m.contains 11 then c else 0) (zEO m p).f11 := by
 unfold zEO
 cases m.contains 11
 ·exact ⟨zDj _ w, Nat.le_refl _⟩
 ·exact h
set_option maxRecDepth 100000 in
theorem zM2 (p : Pk) (A1 : Option Addr) (c1 : Nat) (A2 : Option Addr) (c2 : Nat) (A3 : Option Addr) (c3 : Nat) (w : World) (h1 : SlE w A1 c1 p.f9.f7) (h2 : SlN w A2 c2 p.f10) (h3 : SlE w A3 c3 p.f11) (fit : zM0 p) :
  Calls Tryz.prog 9 #[.agg (pkC p A1 c1 A2 c2 A3 c3)] w (PkR p w) := by
 obtain ⟨W0, hW0⟩ : ∃ W, w.alloc (.cells (pkC p A1 c1 A2 c2 A3 c3) 29) = W := ⟨_, rfl⟩
 have hb0 : Below w.heap.size w W0 := by rw [← hW0]; exact below_alloc _ _
 have k0 : W0.heap[w.heap.size]? = some (.cells (pkC p A1 c1 A2 c2 A3 c3) 29 (0, 0)) := by rw [← hW0]; exact heap_alloc_new _ _
 have c0 : W0.cell? ⟨w.heap.size, 0, none⟩ = some (.int .i64 p.f0) := (zAA k0 0).trans rfl
 have X0 := Lib.hid hW0
 have B0 := Lib.hid hb0
 have K0 := Lib.hid k0
 have H1 := Lib.hid h1
 have H2 := Lib.hid h2
 have H3 := Lib.hid h3
 clear hW0 hb0 k0 h1 h2 h3
 go_enter Tryz.func9, Tryz.ntmps9
 go_upto_block 0 with (refine wpList_boxTo rfl 29 _ rfl (some 1) rfl w.heap.size rfl (pkC p A1 c1 A2 c2 A3 c3) rfl ?_; rw [X0.out])
 go_cut [] (fun wx => wx = W0 ∧ T27 p.f0)
 case first =>
  rcases zJy p.f0 with ⟨ht, hr⟩ | hr | hr | hr
  ·have HT := Lib.hid ht
   clear ht
   rcases hr with ⟨r1, r2⟩ | ⟨r1, r2⟩ | hr | hr
   ·have d1 : decide (p.f0 ≥ 1) = true := by simpa using r1
    have d2 : decide (p.f0 ≤ 20) = true := by simpa using r2
    go_wp2_with fail
    go_meet
    exact ⟨rfl, HT.out⟩
   ·have q1 : ¬ p.f0 ≤ 20 := by omega
    go_wp2_with fail
    go_meet
    exact ⟨rfl, HT.out⟩
   ·generalize p.f0 = f0 at *
    subst hr
    go_wp2_with fail
    go_meet
    exact ⟨rfl, HT.out⟩
   ·generalize p.f0 = f0 at *
    subst hr
    go_wp2_with fail
    go_meet
    exact ⟨rfl, HT.out⟩
  ·go_wp2_with fail
   go_ret
   exact PkR.no B0.out
  ·obtain ⟨r1, r2⟩ := hr
   go_wp2_with fail
   go_ret
   exact PkR.no B0.out
  ·obtain ⟨r1, r2, r3⟩ := hr
   go_wp2_with fail
   go_ret
   exact PkR.no B0.out
 case rest =>
  obtain ⟨hw, hty⟩ := hcut
  subst hw
  have HTY := Lib.hid hty
  have q0 := zAC K0.out
  clear hty c0
  have zs2 := fit.s2
  have zs3 := fit.s3
  have zs4 := fit.s4
  have zs8 := fit.s8
  have zs14 := fit.s14
  have zs15 := fit.s15
  have zs16 := fit.s16
  have FIT := Lib.hid fit
  clear fit
  go_upto_region 6 with (fail)
  go_cut [3] (fun v wx => v = .int .i64 ((zB7 p : Nat) : Int) ∧ wx = wc)
  case first =>
   have c2 : wc.cell? ⟨w.heap.size, 2, none⟩ = some (.string p.f2) := (zAA K0.out 2).trans rfl
   have c3 : wc.cell? ⟨w.heap.size, 3, none⟩ = some (.string p.f3) := (zAA K0.out 3).trans rfl
   have c4 : wc.cell? ⟨w.heap.size, 4, none⟩ = some (.string p.f4) := (zAA K0.out 4).trans rfl
   have c8 : wc.cell? ⟨w.heap.size, 8, none⟩ = some (.string p.f8) := (zAA K0.out 8).trans rfl
   have c21 : wc.cell? ⟨w.heap.size, 21, none⟩ = some (.string p.f14) := (zAA K0.out 21).trans rfl
   have c22 : wc.cell? ⟨w.heap.size, 22, none⟩ = some (.string p.f15) := (zAA K0.out 22).trans rfl
   have c23 : wc.cell? ⟨w.heap.size, 23, none⟩ = some (.string p.f16) := (zAA K0.out 23).trans rfl
   have TX := Lib.hid (show ((zB7 p : Nat) : Int) = (p.f2.size : Int) + p.f3.size + p.f4.size + p.f8.size + p.f14.size + p.f15.size + p.f16.size by unfold zB7; omega)
   generalize p.f2 = x2 at *
   generalize p.f3 = x3 at *
   generalize p.f4 = x4 at *
   generalize p.f8 = x8 at *
   generalize p.f14 = x14 at *
   generalize p.f15 = x15 at *
   generalize p.f16 = x16 at *
   have w1 : IntKind.i64.wrap ((x2.size : Int) + x3.size) = (x2.size : Int) + x3.size := IntWalk.i64_in _ (by omega)
   have w2 : IntKind.i64.wrap ((x2.size : Int) + x3.size + x4.size) = (x2.size : Int) + x3.size + x4.size := IntWalk.i64_in _ (by omega)
   have w3 : IntKind.i64.wrap ((x2.size : Int) + x3.size + x4.size + x8.size) = (x2.size : Int) + x3.size + x4.size + x8.size := IntWalk.i64_in _ (by omega)
   have w4 : IntKind.i64.wrap ((x2.size : Int) + x3.size + x4.size + x8.size + x14.size) = (x2.size : Int) + x3.size + x4.size + x8.size + x14.size := IntWalk.i64_in _ (by omega)
   have w5 : IntKind.i64.wrap ((x2.size : Int) + x3.size + x4.size + x8.size + x14.size + x15.size) = (x2.size : Int) + x3.size + x4.size + x8.size + x14.size + x15.size := IntWalk.i64_in _ (by omega)
   have w6 : IntKind.i64.wrap ((x2.size : Int) + x3.size + x4.size + x8.size + x14.size + x15.size + x16.size) = (x2.size : Int) + x3.size + x4.size + x8.size + x14.size + x15.size + x16.size := IntWalk.i64_in _ (by omega)
   go_wp2_with fail
   go_meet
   exact ⟨by rw [TX.out], rfl⟩
  case rest =>
   obtain ⟨hv, hw⟩ := hcut
   subst hv hw
   clear zs2 zs3 zs4 zs8 zs14 zs15 zs16
   have c18 : wc.cell? ⟨w.heap.size, 18, none⟩ = some (.slice A3 p.f11.length c3) := (zAA K0.out 18).trans rfl
   have c17 : wc.cell? ⟨w.heap.size, 17, none⟩ = some (.slice A2 p.f10.length c2) := (zAA K0.out 17).trans rfl
   have c9 : wc.cell? ⟨w.heap.size, 9, none⟩ = some (.int .u32 p.f9.f0) := (zAA K0.out 9).trans rfl
   have c10 : wc.cell? ⟨w.heap.size, 10, none⟩ = some (.int .u64 p.f9.f1) := (zAA K0.out 10).trans rfl
   have c11 : wc.cell? ⟨w.heap.size, 11, none⟩ = some (.int .u32 p.f9.f2) := (zAA K0.out 11).trans rfl
   have c12 : wc.cell? ⟨w.heap.size, 12, none⟩ = some (.int .u32 p.f9.f3) := (zAA K0.out 12).trans rfl
   have c13 : wc.cell? ⟨w.heap.size, 13, none⟩ = some (.int .u32 p.f9.f4) := (zAA K0.out 13).trans rfl
   have c14 : wc.cell? ⟨w.heap.size, 14, none⟩ = some (.int .u32 p.f9.f5) := (zAA K0.out 14).trans rfl
   have c15 : wc.cell? ⟨w.heap.size, 15, none⟩ = some (.int .u32 p.f9.f6) := (zAA K0.out 15).trans rfl
   have c16 : wc.cell? ⟨w.heap.size, 16, none⟩ = some (.slice A1 p.f9.f7.length c1) := (zAA K0.out 16).trans rfl
   by_cases q11 : p.f11.length ≤ 8
   case neg =>
    have d0 : decide (((p.f11.length : Nat) : Int) > 8) = true := by simp; omega
    have d1 : (8 : Int) < ((p.f11.length : Nat) : Int) := by omega
    go_wp2_with fail
    go_ret
    exact PkR.no B0.out
   case pos =>
   have d0 : decide (((p.f11.length : Nat) : Int) > 8) = false := by simp; omega
   have d1 : ¬ (8 : Int) < ((p.f11.length : Nat) : Int) := by omega
   by_cases q10 : p.f10.length ≤ 8
   case neg =>
    have d2 : decide (((p.f10.length : Nat) : Int) > 8) = true := by simp; omega
    have d3 : (8 : Int) < ((p.f10.length : Nat) : Int) := by omega
    go_wp2_with fail
    go_ret
    exact PkR.no B0.out
   case pos =>
   have d2 : decide (((p.f10.length : Nat) : Int) > 8) = false := by simp; omega
   have d3 : ¬ (8 : Int) < ((p.f10.length : Nat) : Int) := by omega
   go_wp2_with fail
   refine (zLC p.f9.f0 p.f9.f1 p.f9.f2 p.f9.f3 p.f9.f4 p.f9.f5 p.f9.f6 A1 p.f9.f7.length c1 wc).mono ?_
   rintro r w1 ⟨rfl, hb1⟩
   have k1 := (hb1.block _ q0).trans K0.out
   have K1 := Lib.hid k1
   have B1 := Lib.hid (B0.out.trans (hb1.mono B0.out.size))
   clear hb1 k1 d0 d1 d2 d3 c9 c10 c11 c12 c13 c14 c15 c16 c17 c18
   cases ht : zC8 p.f9.f0 p.f9.f1 p.f9.f2 p.f9.f3 p.f9.f4 p.f9.f5 p.f9.f6 p.f9.f7.length with
   | false =>
    go_wp2_with fail
    go_ret
    exact PkR.no B1.out
   | true =>
   have q9 : p.f9.f7.length ≤ 8 := zDq ht
   have HT := Lib.hid (show zDp p.f9 = true from ht)
   clear ht
   have q1 := zAC K1.out
   go_upto_region 9 with (fail)
   go_cut [82, 83, 84] (fun x y z wx => ∃ V cx, x = .slice V (p.f11 ++ p.f9.f7).length cx ∧ y = .int .i64 (((p.f11 ++ p.f9.f7).length : Nat) : Int) ∧ z = .int .i64 ((0 : Nat) : Int) ∧ Hid (∀ k e, (p.f11 ++ p.f9.f7)[k]? = some e → ∃ g, V = some ⟨g, 0, none⟩ ∧ g < wx.heap.size ∧ wx.cell? ⟨g, k * 2, none⟩ = some (.string e.f0) ∧ wx.cell? ⟨g, k * 2 + 1, none⟩ = some (.string e.f1)) ∧ Hid (wx.heap[w.heap.size]? = some (.cells (pkC p A1 c1 A2 c2 A3 c3) 29 (0, 0))) ∧ Hid (Below w.heap.size w wx))
   case first =>
    refine wp_region_held_drew (S := fun w' => Below w.heap.size w w' ∧ w'.heap[w.heap.size]? = some (.cells (pkC p A1 c1 A2 c2 A3 c3) 29 (0, 0)) ∧ w1.heap.size ≤ w'.heap.size) (by kernel_rfl) ⟨zBH B1.out, K1.out, Nat.le_refl _⟩ (fun hHeld => ?_)
    refine tkE 76 0 (.pointer (some ⟨w.heap.size, 18, none⟩)) hHeld ?_
    try simp only [zAJ]
    refine tkY 77 1 (.slice A3 p.f11.length c3) rfl (zAV (by rfl) 24 _ rfl zDy w.heap.size 18 (by rfl) _ _ (0, 0) _ (fun _ h => h.2.1) rfl) hHeld ?_
    try simp only [zAJ]
    refine tkE 79 3 (.pointer (some ⟨w.heap.size, 9, none⟩)) hHeld ?_
    try simp only [zAJ]
    refine tkE 80 4 (.pointer (some ⟨w.heap.size, 16, none⟩)) hHeld ?_
    try simp only [zAJ]
    refine tkY 81 5 (.slice A1 p.f9.f7.length c1) rfl (zAV (by rfl) 24 _ rfl zDy w.heap.size 16 (by rfl) _ _ (0, 0) _ (fun _ h => h.2.1) rfl) hHeld ?_
    try simp only [zAJ]
    refine tkE 84 8 (.int .i64 0) hHeld ?_
    try simp only [zAJ]
    refine wpAnyH_ready (rs := [2]) (by kernel_rfl) (by simp) (AllReadyH.cons rfl (fun K hK => ?_) AllReadyH.nil)
    rw [if_pos (by rfl)]
    obtain ⟨v2, w2, hr2, hx2, hg2⟩ := XRow.append (W := w1.drew) (base := w1.heap.size) (v := .slice none 0 0) (l0 := []) ⟨rfl, .inl ⟨rfl, rfl⟩⟩ A3 c3 p.f11 (H3.out.below hHeld.1) (by simp; omega) (Nat.le_refl _)
    rw [List.nil_append] at hx2
    refine zDA _ 78 rfl _ _ _ _ rfl _ _ rfl rfl v2 w2 hr2 ?_
    have hb2 : Below w1.heap.size w1.drew w2 := ⟨hg2.os, hg2.tape, hg2.output, hg2.size, fun k hk => hg2.block k hk (by simp [Value.ownBlock])⟩
    refine hK.out _ _ ⟨hHeld.1.trans (hb2.mono hHeld.1.size), (hb2.block _ q1).trans hHeld.2.1, hb2.size⟩ (fun hHeld => ?_)
    clear hK K
    try simp only [zAJ]
    refine wpAnyH_ready (rs := [6]) (by kernel_rfl) (by simp) (AllReadyH.cons rfl (fun K hK => ?_) AllReadyH.nil)
    rw [if_pos (by rfl)]
    obtain ⟨v3, w3, hr3, hx3, hg3⟩ := hx2.append A1 c1 p.f9.f7 (H1.out.below hHeld.1) (by omega) hHeld.2.2
    refine zDA _ 82 rfl _ _ _ _ rfl _ _ rfl rfl v3 w3 hr3 ?_
    have hb3 : Below w1.heap.size w2 w3 := ⟨hg3.os, hg3.tape, hg3.output, hg3.size, fun k hk => hg3.block k (Nat.lt_of_lt_of_le hk hHeld.2.2) (fun e => by have := zGT hx2 e.symm; omega)⟩
    refine hK.out _ _ ⟨hHeld.1.trans (hb3.mono B1.out.size), (hb3.block _ q1).trans hHeld.2.1, Nat.le_trans hHeld.2.2 hb3.size⟩ (fun hHeld => ?_)
    clear hK K hr2 hr3
    obtain ⟨V, cx, rfl, hcells⟩ := hx3.shown
    try simp only [zAJ]
    refine tkE 83 7 (.int .i64 (((p.f11 ++ p.f9.f7).length : Nat) : Int)) hHeld ?_
    try simp only [zAJ]
    have HC := Lib.hid hcells
    have HK := Lib.hid hHeld.2.1
    have HB := Lib.hid hHeld.1
    clear hcells hHeld hx2 hx3 hg2 hg3 hb2 hb3
    generalize hN : (p.f11 ++ p.f9.f7).length = N at *
    clear hN
    refine wpAnyH_done (by kernel_rfl) ?_ _
    go_wp2_with fail
    go_meet
    exact ⟨V, cx, rfl, rfl, rfl, HC, HK, HB⟩
   case rest =>
    obtain ⟨V, cx, rfl, rfl, rfl, HC, HK, HB⟩ := hcut
    have hq := zAC HK.out
    have hLe : ∀ e ∈ p.f11 ++ p.f9.f7, e.f0.size ≤ 2147483647 ∧ e.f1.size ≤ 2147483647 := fun e he => by
     rcases List.mem_append.1 he with h | h
     ·exact FIT.out.e11.2 e h
     ·exact FIT.out.e9.2 e h
    have hL16 : (p.f11 ++ p.f9.f7).length ≤ 16 := by rw [List.length_append]; omega
    have hT : zB7 p ≤ 20000000000 := by
     have f := FIT.out
     have := f.s2; have := f.s3; have := f.s4; have := f.s8; have := f.s14; have := f.s15; have := f.s16
     unfold zB7
     omega
    have hX0 := zL1 (l := p.f11 ++ p.f9.f7) ⟨by omega, hLe⟩ hL16
    have HTOT := Lib.hid (show zEQ p = zB7 p + zB3 (p.f11 ++ p.f9.f7) + zC1 p.f10 from rfl)
    have HLE := Lib.hid hLe
    clear hLe K1 B1 q0 q1
    generalize zB7 p = T at *
    generalize p.f11 ++ p.f9.f7 = L at *
    generalize hN : L.length = N at *
    have HN := Lib.hid hN
    clear hN
    go_wp2_with fail
    go_loopw [3, 84] (fun s i wr => ∃ k : Nat, k ≤ N ∧ i = .int .i64 (k : Int) ∧ s = .int .i64 ((T + zB3 (L.take k) : Nat) : Int) ∧ Hid (Below wc.heap.size wc wr)) (fun _ i _ => N - (intOf i).toNat)
    case atStart => exact ⟨0, Nat.zero_le _, rfl, by simp [zB3], Lib.hid (Below.refl _ _)⟩
    case round =>
    obtain ⟨k, hk, rfl, rfl, HR⟩ := hrel
    by_cases hlt : k < N
    ·have hkl : k < L.length := by have := HN.out; omega
     have he : L[k]? = some L[k] := List.getElem?_eq_getElem hkl
     obtain ⟨gg, rfl, hgl, g1, g2⟩ := HC.out k _ he
     have e1 : wr.cell? ⟨gg, k * 2, none⟩ = some (.string L[k].f0) := by rw [cell_kept (HR.out.block gg hgl)]; exact g1
     have e2 : wr.cell? ⟨gg, k * 2 + 1, none⟩ = some (.string L[k].f1) := by rw [cell_kept (HR.out.block gg hgl)]; exact g2
     have HTk := Lib.hid (show zB3 (L.take (k + 1)) = zB3 (L.take k) + (L[k].f0.size + L[k].f1.size) by rw [List.take_succ_eq_append_getElem hkl, zCw]; simp [zB3])
     have hb1 := zFr L k
     obtain ⟨hb3, hb4⟩ := HLE.out _ (List.getElem_mem hkl)
     generalize zB3 (L.take k) = S0 at *
     generalize L[k].f0 = s1 at *
     generalize L[k].f1 = s2 at *
     have BR := Lib.hid HR.out
     clear he g1 g2 HR hkl
     generalize hS1 : T + S0 = S1 at *
     have HS1 := Lib.hid hS1
     have hS2 : S1 ≤ 110000000000 := by omega
     clear hS1
     have w1 : IntKind.i64.wrap ((s1.size : Int) + s2.size) = (s1.size : Int) + s2.size := IntWalk.i64_in _ (by omega)
     have w2 : IntKind.i64.wrap ((S1 : Int) + ((s1.size : Int) + s2.size)) = (S1 : Int) + ((s1.size : Int) + s2.size) := IntWalk.i64_in _ (by omega)
     go_wp2_with fail
     go_roundw
     case rel => exact ⟨k + 1, by omega, by go_num, zCQ (by rw [HTk.out]; have := HS1.out; omega), Lib.hid (BR.out.alloc BR.out.size _)⟩
     case measure => simp [intOf]; omega
    ·obtain rfl : k = N := by omega
     have hfull : L.take k = L := List.take_of_length_le (by have := HN.out; omega)
     rw [hfull]
     generalize hS1 : T + zB3 L = S1 at *
     have hS2 : S1 ≤ 110000000000 := by omega
     have HS1 := Lib.hid hS1
     have HRb := Lib.hid HR.out
     clear hfull hk hlt hS1 HR HC HLE
     have c17 : wr.cell? ⟨w.heap.size, 17, none⟩ = some (.slice A2 p.f10.length c2) := (zAA ((HRb.out.block _ hq).trans HK.out) 17).trans rfl
     have M2 := Lib.hid (fun k e he => zDm (H2.out.below HB.out).1 k e he)
     have F10 := Lib.hid FIT.out.e10.2
     have HP10 := Lib.hid (show ∀ q : List Nm, q = p.f10 → q = p.f10 from fun _ h => h)
     obtain ⟨l, hl⟩ : ∃ l, l = p.f10 := ⟨_, rfl⟩
     rw [← hl] at c17 q10 M2 F10
     have HLL := Lib.hid hl
     clear hl HP10
     generalize hn : l.length = n at *
     have HNN := Lib.hid hn
     clear hn
     go_wp2_with fail
     clear c17
     go_loopw [3, 101] (fun s i wr' => ∃ j : Nat, j ≤ n ∧ i = .int .i64 (j : Int) ∧ s = .int .i64 ((S1 + zC1 (l.take j) : Nat) : Int) ∧ Hid (∀ e ∈ l.take j, zDp e.f2 = true) ∧ Hid (Below wc.heap.size wc wr')) (fun _ i _ => n - (intOf i).toNat)
     case atStart => exact ⟨0, Nat.zero_le _, rfl, by simp [zC1], Lib.hid (fun e he => by simp at he), HRb⟩
     case round =>
     clear HRb
     obtain ⟨j, hj, rfl, rfl, HTD, HR⟩ := hrel
     by_cases hlt : j < n
     case neg =>
      obtain rfl : j = n := by omega
      have hfull : l.take j = l := List.take_of_length_le (by have := HNN.out; omega)
      rw [hfull] at HTD ⊢
      have hto : zEQ p = S1 + zC1 l := by rw [HTOT.out, HLL.out]
      have HTO := Lib.hid hto
      rw [← hto]
      have BK := Lib.hid ((HR.out.block _ hq).trans HK.out)
      have BW := Lib.hid (HB.out.trans (HR.out.mono HB.out.size))
      clear hfull hj hlt hto HR M2 F10
      obtain ⟨TT, hTT⟩ : ∃ x, x = zEQ p := ⟨_, rfl⟩
      rw [← hTT]
      have HTT := Lib.hid hTT
      clear hTT
      by_cases hS : TT ≤ 2000
      case neg =>
       have hS' : ¬ ((TT : Nat) : Int) ≤ 2000 := by omega
       have dS : decide (((TT : Nat) : Int) ≤ 2000) = false := by simp; omega
       go_wp2_with fail
       go_quiet (fail)
       go_wp2_with fail
       go_ret
       exact PkR.no (zBB BW.out _)
      case pos =>
      have hS' : ((TT : Nat) : Int) ≤ 2000 := by omega
      have dS : decide (((TT : Nat) : Int) ≤ 2000) = true := by simp; omega
      have OC := Lib.hid (fun W => zMZ p A1 c1 A2 c2 A3 c3 W HTY.out)
      have SC := Lib.hid (fun (W : World) (h : Below w.heap.size w W) => zMl p (zBL p) A1 c1 A2 c2 A3 c3 _ _ _ _ _ _ W (H1.out.below h) (zL2 (H1.out.below h) (zAd p.f0 p.f16)) (H2.out.below h) (zJz (H2.out.below h) (zAd p.f0 p.f16)) (H3.out.below h) (zKA (H3.out.below h) (zAd p.f0 p.f16)) (by omega) (by have := HLL.out; have := HNN.out; rw [← HLL.out]; omega) (by omega) (fun e he => (FIT.out.e10.2 e he).2.2.1))
      go_wp2_with fail
      refine wp_region_held_drew (S := fun w' => Below w.heap.size w w' ∧ w'.heap[w.heap.size]? = some (.cells (pkC p A1 c1 A2 c2 A3 c3) 29 (0, 0))) (by kernel_rfl) ⟨zBH BW.out, BK.out⟩ (fun hHeld => ?_)
      refine tkY 137 0 (.int .i64 ((TT : Nat) : Int)) rfl (Or.inl ⟨by rfl, fun w' hw' => by rfl⟩) hHeld ?_
      try simp only [zAJ]
      refine tkE 138 1 (.bool true) hHeld ?_
      try simp only [zAJ]
      refine tkY 139 2 (.bool true) rfl (Or.inl ⟨by rfl, fun w' hw' => by rfl⟩) hHeld ?_
      try simp only [zAJ]
      refine tkY 140 3 (.agg (pkC p A1 c1 A2 c2 A3 c3)) rfl (zCY (by rfl) 29 _ (by rfl) w.heap.size (by rfl) 29 (pkC p A1 c1 A2 c2 A3 c3) (0, 0) _ (fun w' hw' => hw'.2) Tryz.underlying29 rfl (zDo _ _ _ _ _ _ _)) hHeld ?_
      try simp only [zAJ]
      refine tkY 141 4 (.agg (pkC p A1 c1 A2 c2 A3 c3)) rfl (zCY (by rfl) 29 _ (by rfl) w.heap.size (by rfl) 29 (pkC p A1 c1 A2 c2 A3 c3) (0, 0) _ (fun w' hw' => hw'.2) Tryz.underlying29 rfl (zDo _ _ _ _ _ _ _)) hHeld ?_
      try simp only [zAJ]
      refine wpAnyH_ready (rs := [5]) (by kernel_rfl) (by simp) (AllReadyH.cons rfl (fun K hK => ?_) AllReadyH.nil)
      rw [if_pos (by rfl)]
      go_wp2_with ((go_at_call 21; refine (OC.out _).mono ?_; rintro e w5 ⟨rfl, hb⟩))
      refine hK.out _ _ ⟨hHeld.1.trans (hb.mono hHeld.1.size), zBO hb hHeld.2⟩ (fun hHeld => ?_)
      clear hK K
      try simp only [zAJ]
      refine wpAnyH_ready (rs := [6]) (by kernel_rfl) (by simp) (AllReadyH.cons rfl (fun K hK => ?_) AllReadyH.nil)
      rw [if_pos (by rfl)]
      go_wp2_with ((go_at_call 12; refine (SC.out _ hHeld.1).mono ?_; rintro e w6 ⟨rfl, hb⟩))
      refine hK.out _ _ ⟨hHeld.1.trans (hb.mono hHeld.1.size), zBO hb hHeld.2⟩ (fun hHeld => ?_)
      clear hK K
      try simp only [zAJ]
      refine tkE 144 7 (.bool (eqB p (zBL p))) hHeld ?_
      try simp only [zAJ]
      refine tkE 2 8 (.bool (eqB p (zBL p))) hHeld ?_
      try simp only [zAJ]
      refine wpAnyH_done (by kernel_rfl) ?_ _
      go_wp2_with fail
      go_ret
      refine ⟨⟨_, rfl, fun h => ⟨HTY.out, HT.out, by rw [← HLL.out]; have := HNN.out; omega, q11, fun e he => HTD.out e (by rw [HLL.out]; exact he), ?_, eqB_iff.1 h⟩⟩, hHeld.1⟩
      rw [← HTT.out]; exact hS
     case pos =>
      have hjl : j < l.length := by have := HNN.out; omega
      obtain ⟨x, o, A9, c9, rfl, hx, g1, g2⟩ := M2.out j l[j] (List.getElem?_eq_getElem hjl)
      obtain ⟨f0, f1, f2⟩ := F10.out _ (List.getElem_mem hjl)
      have hrow : wr.rangeAt x (o + j * 10) (nmC l[j] A9 c9) := fun i v hv => by rw [cell_kept (HR.out.block x hx)]; exact g1 i v hv
      have HSn := Lib.hid (show zC1 (l.take (j + 1)) = zC1 (l.take j) + (l[j].f0.size + l[j].f1.size + zB3 l[j].f2.f7) by rw [List.take_succ_eq_append_getElem hjl, zL0]; simp [zC1])
      have HTn := Lib.hid (show zDp l[j].f2 = true → ∀ e ∈ l.take (j + 1), zDp e.f2 = true from fun h e he => by
       rw [List.take_succ_eq_append_getElem hjl] at he
       rcases List.mem_append.1 he with h9 | h9
       ·exact HTD.out e h9
       ·rw [List.mem_singleton.1 h9]; exact h)
      have hnb : zC1 (l.take j) ≤ 400000000000 := by
       refine Nat.le_trans (zM1 _ (fun e he => ⟨(F10.out e (List.mem_of_mem_take he)).1, (F10.out e (List.mem_of_mem_take he)).2.1, ?_⟩)) ?_
       ·have h8 := zDq (HTD.out e he)
        have h1 := zJO e.f2.f7 (F10.out e (List.mem_of_mem_take he)).2.2.2
        have h2 := Nat.mul_le_mul_right 4294967294 h8
        omega
       ·have h9 : (l.take j).length ≤ 8 := by rw [List.length_take]; omega
        have := Nat.mul_le_mul_right 50000000000 h9
        omega
      generalize l[j] = a0 at *
      generalize zC1 (l.take j) = S2 at *
      clear hjl g1
      obtain ⟨W2, hW2⟩ : ∃ W2, (wr.alloc (.cells z10 54)).setRow wr.heap.size (nmC a0 A9 c9).toArray = W2 := ⟨_, rfl⟩
      have hq2 : W2.heap[wr.heap.size]? = some (.cells (nmC a0 A9 c9).toArray 54 (0, 0)) := by rw [← hW2]; exact zAj (heap_alloc_new _ _)
      have hb2 : Below wr.heap.size wr W2 := by rw [← hW2]; exact zBX (Below.refl _ _) (Nat.le_refl _) _ _ _
      have B2 := Lib.hid (HR.out.trans (hb2.mono HR.out.size))
      have Q2 := Lib.hid hq2
      have X2 := Lib.hid hW2
      have G3 := Lib.hid hrow
      clear hrow hq2 hb2 hW2 HR
      go_wp2_with (first | refine wpList_allocTo rfl (some 7) rfl (.pointer (some ⟨wr.heap.size, 0, none⟩)) (.cells z10 54) (by as_aux_lemma => kernel_rfl) ?_ | (refine wpList_store_row rfl 54 _ _ rfl wr.heap.size (nmC a0 A9 c9).toArray rfl rfl 54 z10 (heap_alloc_new _ _) (zLP _ _ _) rfl (zMk _ _ _) ?_; rw [X2.out]) | refine wpList_load_mid rfl 54 _ rfl x (o + j * 10) (by rfl) (nmC a0 A9 c9) _ G3.out Tryz.underlying54 rfl (zLQ _ _ _) ?_ | refine wpList_load_mid rfl 26 _ rfl wr.heap.size 2 (by rfl) [.int .u32 a0.f2.f0, .int .u64 a0.f2.f1, .int .u32 a0.f2.f2, .int .u32 a0.f2.f3, .int .u32 a0.f2.f4, .int .u32 a0.f2.f5, .int .u32 a0.f2.f6, .slice A9 a0.f2.f7.length c9] _ (fun i v hv => by rw [zAA Q2.out, Nat.add_comm, List.getElem?_toArray]; exact hv) Tryz.underlying26 rfl zMf ?_ | (go_at_call 20; refine (zLC a0.f2.f0 a0.f2.f1 a0.f2.f2 a0.f2.f3 a0.f2.f4 a0.f2.f5 a0.f2.f6 A9 a0.f2.f7.length c9 W2).mono ?_))
      rintro r w5 ⟨rfl, hb5⟩
      have q5 := (hb5.block _ (zAC Q2.out)).trans Q2.out
      have B5 := Lib.hid (B2.out.trans (hb5.mono B2.out.size))
      have c0 : w5.cell? ⟨wr.heap.size, 0, none⟩ = some (.string a0.f0) := (zAA q5 0).trans rfl
      have c1 : w5.cell? ⟨wr.heap.size, 1, none⟩ = some (.string a0.f1) := (zAA q5 1).trans rfl
      have c9' : w5.cell? ⟨wr.heap.size, 9, none⟩ = some (.slice A9 a0.f2.f7.length c9) := (zAA q5 9).trans rfl
      clear hb5 q5 Q2 B2 X2 G3
      cases ht : zC8 a0.f2.f0 a0.f2.f1 a0.f2.f2 a0.f2.f3 a0.f2.f4 a0.f2.f5 a0.f2.f6 a0.f2.f7.length with
      | false =>
       go_wp2_with fail
       go_ret
       exact PkR.no (HB.out.trans (B5.out.mono HB.out.size))
      | true =>
       have HT9 := Lib.hid (HTn.out ht)
       have q8 : a0.f2.f7.length ≤ 8 := zDq ht
       have hx8 := zL1 f2 (by omega)
       have G2 := Lib.hid g2
       have FE := Lib.hid f2.2
       clear ht HTn g2 f2
       generalize a0.f0 = s1 at *
       generalize a0.f1 = s2 at *
       generalize a0.f2.f7 = xs at *
       generalize hm : xs.length = nE at *
       have HM := Lib.hid hm
       generalize hS3 : S1 + S2 = S3 at *
       have HS3 := Lib.hid hS3
       have hS4 : S3 ≤ 600000000000 := by omega
       clear hm hS3
       have w1 : IntKind.i64.wrap ((s1.size : Int) + s2.size) = (s1.size : Int) + s2.size := IntWalk.i64_in _ (by omega)
       have w2 : IntKind.i64.wrap ((S3 : Int) + ((s1.size : Int) + s2.size)) = (S3 : Int) + ((s1.size : Int) + s2.size) := IntWalk.i64_in _ (by omega)
       go_wp2_with fail
       clear c0 c1 c9' w1 w2
       go_loopw [3, 122] (fun s i wr2 => ∃ m : Nat, m ≤ nE ∧ i = .int .i64 (m : Int) ∧ s = .int .i64 ((S3 + (s1.size + s2.size) + zB3 (xs.take m) : Nat) : Int) ∧ Hid (Below wc.heap.size wc wr2)) (fun _ i _ => nE - (intOf i).toNat)
       case atStart => exact ⟨0, Nat.zero_le _, rfl, zCQ (by simp [zB3]; have := HS3.out; omega), B5⟩
       case round =>
       clear B5
       obtain ⟨m, hm, rfl, rfl, HR⟩ := hrel
       by_cases hlt2 : m < nE
       ·have hml : m < xs.length := by have := HM.out; omega
        obtain ⟨x', o', rfl, hx', g1, g2⟩ := zJT G2.out.1 m xs[m] (List.getElem?_eq_getElem hml)
        have hsz := HB.out.size
        have e1 : wr.cell? ⟨x', o' + m * 2, none⟩ = some (.string xs[m].f0) := by rw [cell_kept (HR.out.block x' hx')]; exact g1
        have e2 : wr.cell? ⟨x', o' + m * 2 + 1, none⟩ = some (.string xs[m].f1) := by rw [cell_kept (HR.out.block x' hx')]; exact g2
        have HTk := Lib.hid (show zB3 (xs.take (m + 1)) = zB3 (xs.take m) + (xs[m].f0.size + xs[m].f1.size) by rw [List.take_succ_eq_append_getElem hml, zCw]; simp [zB3])
        have hb1 := zFr xs m
        obtain ⟨hb3, hb4⟩ := FE.out _ (List.getElem_mem hml)
        generalize zB3 (xs.take m) = S0 at *
        generalize xs[m].f0 = t1 at *
        generalize xs[m].f1 = t2 at *
        have BR := Lib.hid HR.out
        clear g1 g2 HR hml
        generalize hS5 : S3 + (s1.size + s2.size) + S0 = S5 at *
        have HS5 := Lib.hid hS5
        have hS6 : S5 ≤ 900000000000 := by omega
        clear hS5
        have w1 : IntKind.i64.wrap ((t1.size : Int) + t2.size) = (t1.size : Int) + t2.size := IntWalk.i64_in _ (by omega)
        have w2 : IntKind.i64.wrap ((S5 : Int) + ((t1.size : Int) + t2.size)) = (S5 : Int) + ((t1.size : Int) + t2.size) := IntWalk.i64_in _ (by omega)
        go_wp2_with fail
        go_roundw
        case rel => exact ⟨m + 1, by omega, by go_num, zCQ (by rw [HTk.out]; have := HS5.out; omega), Lib.hid (BR.out.alloc BR.out.size _)⟩
        case measure => simp [intOf]; omega
       ·obtain rfl : m = nE := by omega
        have hfull : xs.take m = xs := List.take_of_length_le (by have := HM.out; omega)
        rw [hfull]
        clear hfull hm hlt2
        go_wp2_with fail
        go_roundw
        case rel => exact ⟨j + 1, by omega, by go_num, zCQ (by rw [HSn.out]; have := HS3.out; omega), HT9, HR⟩
        case measure => simp [intOf]; omega
theorem zJY (k : Nat) (hk : 2147483647 < k) (l : List Ex) : ∃ r, PF.laws_zzFits6.f k l = some r ∧ (r = true → zI7 l) := by
 unfold PF.laws_zzFits6.f
 by_cases hl : (l.length : Int) > 2147483647
 ·rw [if_pos hl]
  exact ⟨false, rfl, fun h => by cases h⟩
 ·rw [if_neg hl]
  obtain ⟨r, hr⟩ := zLI l (by omega) l.length k 0 (by omega) (by omega)
  refine ⟨r, hr, fun h => ⟨by omega, fun e he => ?_⟩⟩
  subst h
  obtain ⟨j, hj, rfl⟩ := List.getElem_of_mem he
  exact zI0 l (by omega) k 0 hr j hj (by omega)
theorem zJZ (k : Nat) (hk : 2147483647 < k) (a b c d e f g : Int) (l : List Ex) : ∃ r, PF.laws_zzFits5.f k a b c d e f g l = some r ∧ (r = true → zI7 l) := by
 obtain ⟨r, hr, h⟩ := zJY k hk l
 refine ⟨r, ?_, h⟩
 unfold PF.laws_zzFits5.f
 rw [hr]
 cases r <;> rfl
def zOS (e : Nm) : Prop := e.f0.size ≤ 2147483647 ∧ e.f1.size ≤ 2147483647 ∧ zI7 e.f2.f7
theorem zM3 (k : Nat) (hk : 2147483647 < k) (x : Nm) : ∃ r, PF.laws_zzFits9.f k x.f0 x.f1 x.f2.f0 x.f2.f1 x.f2.f2 x.f2.f3 x.f2.f4 x.f2.f5 x.f2.f6 x.f2.f7 = some r ∧ (r = true → zOS x) := by
 unfold PF.laws_zzFits9.f
 by_cases h0 : (x.f0.size : Int) > 2147483647
 ·rw [if_pos h0]; exact ⟨false, rfl, fun h => by cases h⟩
 rw [if_neg h0]
 by_cases h1 : (x.f1.size : Int) > 2147483647
 ·rw [if_pos h1]; exact ⟨false, rfl, fun h => by cases h⟩
 rw [if_neg h1]
 obtain ⟨r, hr, h⟩ := zJZ k hk x.f2.f0 x.f2.f1 x.f2.f2 x.f2.f3 x.f2.f4 x.f2.f5 x.f2.f6 x.f2.f7
 rw [hr]
 refine ⟨r, by cases r <;> rfl, fun e => ⟨by omega, by omega, h e⟩⟩
theorem zKB (l : List Nm) (hl : l.length ≤ 2147483647) : ∀ (m : Nat) (k : Nat) (i : Nat), i + m = l.length → 2147483648 + m < k → ∃ r, PF.laws_zzFits8.l0 k l (l.length : Int) (i : Int) = some r ∧ (r = true → ∀ j (hj : j < l.length), i ≤ j → zOS l[j]) := by
 intro m
 induction m with
 | zero =>
  intro k i hi hk
  obtain ⟨k, rfl⟩ : ∃ j, k = j + 1 := ⟨k - 1, by omega⟩
  simp only [PF.laws_zzFits8.l0]
  rw [if_neg (by omega)]
  exact ⟨true, rfl, fun _ j hj h => by omega⟩
 | succ m ih =>
  intro k i hi hk
  obtain ⟨k, rfl⟩ : ∃ j, k = j + 1 := ⟨k - 1, by omega⟩
  have h1 : i < l.length := by omega
  have r1 : zAL l (i : Int) = l[i] := by
   unfold zAL
   rw [Int.toNat_natCast, List.getD_eq_getElem?_getD, List.getElem?_eq_getElem h1]
   rfl
  simp only [PF.laws_zzFits8.l0]
  rw [if_pos (by omega), if_pos (by omega), if_pos (by omega), zCC (by omega) (show (i : Int) < (l.length : Int) by omega) (by omega), r1]
  obtain ⟨r, hr, h⟩ := zM3 k (by omega) l[i]
  rw [hr]
  simp only [Option.bind_some]
  cases r with
  | false => exact ⟨false, rfl, fun h => by cases h⟩
  | true =>
   obtain ⟨r2, hr2, h2⟩ := ih k (i + 1) (by omega) (by omega)
   refine ⟨r2, ?_, fun e j hj hij => ?_⟩
   ·rw [if_pos rfl, show ((i : Int) + 1) = ((i + 1 : Nat) : Int) from by omega]
    exact hr2
   ·by_cases hji : j = i
    ·subst hji; exact h rfl
    ·exact h2 e j hj (by omega)
theorem zM4 (k : Nat) (hk : 5000000000 < k) (l : List Nm) : ∃ r, PF.laws_zzFits8.f k l = some r ∧ (r = true → zOR l) := by
 unfold PF.laws_zzFits8.f
 by_cases hl : (l.length : Int) > 2147483647
 ·rw [if_pos hl]; exact ⟨false, rfl, fun h => by cases h⟩
 ·rw [if_neg hl]
  obtain ⟨r, hr, h⟩ := zKB l (by omega) l.length k 0 (by omega) (by omega)
  refine ⟨r, hr, fun e => ⟨by omega, fun x hx => ?_⟩⟩
  obtain ⟨j, hj, rfl⟩ := List.getElem_of_mem hx
  exact h e j hj (by omega)
def zB0 (a : Ats) : List UInt8 := atB a.f0 a.f1 a.f2 a.f3 a.f4 a.f5 a.f6 (a.f7.map zA0)
def zA1 (p : Pk) : List UInt8 :=
 if p.f0 = 3 then str (tl p.f2) ++ zAQ p.f7 ++ zB0 p.f9 else
 if p.f0 = 4 ∨ p.f0 = 8 ∨ p.f0 = 12 ∨ p.f0 = 102 then str (tl p.f4) else
 if p.f0 = 5 then str (tl p.f4) ++ zBN p.f5 ++ zAQ p.f6 else
 if p.f0 = 6 then str (tl p.f4) ++ zBN p.f5 ++ str (tl p.f8) else
 if p.f0 = 7 ∨ p.f0 = 11 ∨ p.f0 = 13 ∨ p.f0 = 15 ∨ p.f0 = 16 ∨ p.f0 = 17 ∨ p.f0 = 19 then str (tl p.f2) else
 if p.f0 = 9 ∨ p.f0 = 14 then str (tl p.f2) ++ zB0 p.f9 else
 if p.f0 = 10 then str (tl p.f4) ++ zB0 p.f9 else
 if p.f0 = 18 then str (tl p.f2) ++ str (tl p.f3) else
 if p.f0 = 20 then str (tl p.f3) ++ str (tl p.f2) else
 if p.f0 = 101 then zAQ p.f13 ++ str (tl p.f14) ++ str (tl p.f15) else
 if p.f0 = 103 then str (tl p.f8) else
 if p.f0 = 104 then zAQ ((p.f10.length : Nat) : Int) ++ zBR (p.f10.map zBK) else
 if p.f0 = 105 then zB0 p.f9 else
 if p.f0 = 200 then str (tl p.f16) ++ zBP p.f16 p.f2 p.f3 p.f4 p.f8 else
 tl p.f8
def zAq (p : Pk) : List UInt8 := if p.f0 = 1 ∨ p.f0 = 2 then zBb p.f0 p.f12 p.f11 else zA2 p.f0 p.f1 (zA1 p)
theorem zL3 (l : List Nm) (x : Nm) (h : x ∈ l) : x.f0.size + x.f1.size + zB3 x.f2.f7 ≤ zC1 l := by
 induction l with
 | nil => cases h
 | cons y r ih =>
  simp only [zC1]
  rcases List.mem_cons.1 h with rfl | h
  ·omega
  ·have := ih h; omega
def zEY (a : Ats) : Prop := OkA a.f0 a.f1 a.f2 a.f3 a.f4 a.f5 a.f6 a.f7
theorem zJ0 {a : Ats} (g : zGO a) (ht : zDp a = true) (hs : zB3 a.f7 ≤ 2000) : zEY a := by
 obtain ⟨g0, g1, g2, g3, g4, g5, g6, _⟩ := g
 exact zNX g0 g1 g2 g3 g4 g5 g6 ht hs
structure Sound (p : Pk) : Prop where
 ok : OkP p
 g : zDH p
theorem Sound.at9 {p : Pk} (h : Sound p) : zEY p.f9 := by
 have hs := h.ok.sz
 unfold zEQ at hs
 rw [zCw] at hs
 exact zJ0 h.g.2.2.2.2.2.2.2.2.2.1 h.ok.told (by omega)
theorem Sound.txt {p : Pk} (h : Sound p) : zB7 p ≤ 2000 := by
 have hs := h.ok.sz
 unfold zEQ at hs
 omega
theorem Sound.ex11 {p : Pk} (h : Sound p) : gExB p.f11 := by
 have hs := h.ok.sz
 unfold zEQ at hs
 rw [zCw] at hs
 have h8 := h.ok.n11
 refine ⟨by simp; omega, by rw [zEo]; omega, fun x hx => ?_⟩
 obtain ⟨y, hy, rfl⟩ := List.mem_map.1 hx
 have := zHZ p.f11 y hy
 simp only [zA0]
 omega
theorem Sound.name {p : Pk} (h : Sound p) (e : Nm) (he : e ∈ p.f10) : (zBK e).Ok ∧ zEY e.f2 ∧ e.f0.size + e.f1.size ≤ 2000 := by
 have hs := h.ok.sz
 unfold zEQ at hs
 have hm := zL3 p.f10 e he
 have hg := (h.g.2.2.2.2.2.2.2.2.2.2.1).2 e he
 obtain ⟨_, _, ha⟩ := hg
 have ho := zJ0 ha (h.ok.ntold e he) (by omega)
 obtain ⟨g0, g1, g2, g3, g4, g5, g6, _⟩ := ha
 exact ⟨⟨by show e.f0.size ≤ _; omega, by show e.f1.size ≤ _; omega, ho.ex, g0, g1, g2, g3, g4, g5, g6⟩, ho, by omega⟩
theorem zL4 (l : List Nm) (h : ∀ e ∈ l, zEY e.f2 ∧ e.f0.size + e.f1.size ≤ 2000) : (zBR (l.map zBK)).length ≤ l.length * 6000 := by
 induction l with
 | nil => simp [zBR]
 | cons x r ih =>
  have h1 := h x List.mem_cons_self
  have h2 := ih (fun e he => h e (List.mem_cons_of_mem _ he))
  have h3 : (atB x.f2.f0 x.f2.f1 x.f2.f2 x.f2.f3 x.f2.f4 x.f2.f5 x.f2.f6 (x.f2.f7.map zA0)).length ≤ 3000 := h1.1.small
  have h4 : (neB (zBK x)).length = 8 + x.f0.size + x.f1.size + (atB x.f2.f0 x.f2.f1 x.f2.f2 x.f2.f3 x.f2.f4 x.f2.f5 x.f2.f6 (x.f2.f7.map zA0)).length := by
   unfold neB zBK
   simp only [List.length_append, zAK, zAH]
   omega
  simp only [List.map_cons, zBR, List.length_append, List.length_cons, h4]
  omega
theorem Sound.names {p : Pk} (h : Sound p) : (zBR (p.f10.map zBK)).length ≤ 48000 := by
 have h1 := zL4 p.f10 (fun e he => (h.name e he).2)
 have h8 := h.ok.n10
 have := Nat.mul_le_mul_right 6000 h8
 omega
theorem zL5 (p : Pk) (s : Sound p) (A1 : Option Addr) (c1 : Nat) (A2 : Option Addr) (c2 : Nat) (A3 : Option Addr) (c3 : Nat) (w : World) (k1 : SlE w A1 c1 p.f9.f7) (k2 : SlN w A2 c2 p.f10) (k3 : SlE w A3 c3 p.f11) :
  Calls Tryz.prog 10 #[.agg (pkC p A1 c1 A2 c2 A3 c3)] w fun e w' => e = .returned (.tuple #[.string (bs (zAq p)), .int .i64 0]) ∧ Below w.heap.size w w' := by
 have ht := s.ok.ty
 obtain ⟨_, ⟨i0, i1⟩, _, _, _, ⟨x0, x1⟩, ⟨y0, y1⟩, ⟨z0, z1⟩, _, ⟨ga, gb, gc, gd, ge, gf, gg, _⟩, _, _, ⟨v0, v1⟩, ⟨u0, u1⟩, _⟩ := s.g
 have hx := s.txt
 unfold zB7 at hx
 have l2 : p.f2.size ≤ 400000 := by omega
 have l3 : p.f3.size ≤ 400000 := by omega
 have l4 : p.f4.size ≤ 400000 := by omega
 have l8 : p.f8.size ≤ 400000 := by omega
 have l14 : p.f14.size ≤ 400000 := by omega
 have l15 : p.f15.size ≤ 400000 := by omega
 have l16 : p.f16.size ≤ 400000 := by omega
 have h9 := zLS p A1 c1 A2 c2 A3 c3
 have hA := s.at9
 unfold T27 at ht
 rcases ht with h | h | h | h | h | h | h | h | h | h | h | h | h | h | h | h | h | h | h | h | h | h | h | h | h | h | h
 ·have h0 : (pkC p A1 c1 A2 c2 A3 c3)[0]? = some (.int .i64 1) := by rw [← h]; rfl
  have e : zAq p = zBb 1 p.f12 p.f11 := by unfold zAq zA1; rw [h]; rfl
  rw [e]
  exact zI5 _ p.f12 A3 p.f11.length c3 p.f11 w rfl h0 rfl rfl rfl (by have := s.ok.n11; omega) s.ex11 k3.1 v0 v1
 ·have h0 : (pkC p A1 c1 A2 c2 A3 c3)[0]? = some (.int .i64 2) := by rw [← h]; rfl
  have e : zAq p = zBb 2 p.f12 p.f11 := by unfold zAq zA1; rw [h]; rfl
  rw [e]
  exact zFT _ p.f12 A3 p.f11.length c3 p.f11 w rfl h0 rfl rfl rfl (by have := s.ok.n11; omega) s.ex11 k3.1 v0 v1
 ·have h0 : (pkC p A1 c1 A2 c2 A3 c3)[0]? = some (.int .i64 3) := by rw [← h]; rfl
  have e : zAq p = zA2 3 p.f1 (str (tl p.f2) ++ zAQ p.f7 ++ zB0 p.f9) := by unfold zAq zA1; rw [h]; rfl
  rw [e]
  exact zI3 _ p.f2 p.f7 p.f9.f0 p.f9.f1 p.f9.f2 p.f9.f3 p.f9.f4 p.f9.f5 p.f9.f6 A1 p.f9.f7.length c1 p.f9.f7 p.f1 w rfl h0 rfl rfl rfl h9 rfl hA.ex k1.1 k1.2 (by omega) z0 z1 ga gb gc gd ge gf gg i0 i1
 ·have h0 : (pkC p A1 c1 A2 c2 A3 c3)[0]? = some (.int .i64 4) := by rw [← h]; rfl
  have e : zAq p = zA2 4 p.f1 (str (tl p.f4)) := by unfold zAq zA1; rw [h]; rfl
  rw [e]
  exact zHO _ p.f4 p.f1 w rfl h0 rfl rfl (by omega) i0 i1
 ·have h0 : (pkC p A1 c1 A2 c2 A3 c3)[0]? = some (.int .i64 5) := by rw [← h]; rfl
  have e : zAq p = zA2 5 p.f1 (str (tl p.f4) ++ zBN p.f5 ++ zAQ p.f6) := by unfold zAq zA1; rw [h]; rfl
  rw [e]
  exact zIR _ p.f4 p.f5 p.f6 p.f1 w rfl h0 rfl rfl rfl rfl (by omega) x0 x1 y0 y1 i0 i1
 ·have h0 : (pkC p A1 c1 A2 c2 A3 c3)[0]? = some (.int .i64 6) := by rw [← h]; rfl
  have e : zAq p = zA2 6 p.f1 (str (tl p.f4) ++ zBN p.f5 ++ str (tl p.f8)) := by unfold zAq zA1; rw [h]; rfl
  rw [e]
  exact zHS _ p.f4 p.f5 p.f8 p.f1 w rfl h0 rfl rfl rfl rfl (by omega) x0 x1 (by omega) i0 i1
 ·have h0 : (pkC p A1 c1 A2 c2 A3 c3)[0]? = some (.int .i64 7) := by rw [← h]; rfl
  have e : zAq p = zA2 7 p.f1 (str (tl p.f2)) := by unfold zAq zA1; rw [h]; rfl
  rw [e]
  exact zHP _ p.f2 p.f1 w rfl h0 rfl rfl (by omega) i0 i1
 ·have h0 : (pkC p A1 c1 A2 c2 A3 c3)[0]? = some (.int .i64 8) := by rw [← h]; rfl
  have e : zAq p = zA2 8 p.f1 (str (tl p.f4)) := by unfold zAq zA1; rw [h]; rfl
  rw [e]
  exact zHQ _ p.f4 p.f1 w rfl h0 rfl rfl (by omega) i0 i1
 ·have h0 : (pkC p A1 c1 A2 c2 A3 c3)[0]? = some (.int .i64 9) := by rw [← h]; rfl
  have e : zAq p = zA2 9 p.f1 (str (tl p.f2) ++ zB0 p.f9) := by unfold zAq zA1; rw [h]; rfl
  rw [e]
  exact zFS _ p.f2 p.f9.f0 p.f9.f1 p.f9.f2 p.f9.f3 p.f9.f4 p.f9.f5 p.f9.f6 A1 p.f9.f7.length c1 p.f9.f7 p.f1 w rfl h0 rfl rfl h9 rfl hA.ex k1.1 k1.2 (by omega) ga gb gc gd ge gf gg i0 i1
 ·have h0 : (pkC p A1 c1 A2 c2 A3 c3)[0]? = some (.int .i64 10) := by rw [← h]; rfl
  have e : zAq p = zA2 10 p.f1 (str (tl p.f4) ++ zB0 p.f9) := by unfold zAq zA1; rw [h]; rfl
  rw [e]
  exact zEv _ p.f4 p.f9.f0 p.f9.f1 p.f9.f2 p.f9.f3 p.f9.f4 p.f9.f5 p.f9.f6 A1 p.f9.f7.length c1 p.f9.f7 p.f1 w rfl h0 rfl rfl h9 rfl hA.ex k1.1 k1.2 (by omega) ga gb gc gd ge gf gg i0 i1
 ·have h0 : (pkC p A1 c1 A2 c2 A3 c3)[0]? = some (.int .i64 11) := by rw [← h]; rfl
  have e : zAq p = zA2 11 p.f1 (str (tl p.f2)) := by unfold zAq zA1; rw [h]; rfl
  rw [e]
  exact zFL _ p.f2 p.f1 w rfl h0 rfl rfl (by omega) i0 i1
 ·have h0 : (pkC p A1 c1 A2 c2 A3 c3)[0]? = some (.int .i64 12) := by rw [← h]; rfl
  have e : zAq p = zA2 12 p.f1 (str (tl p.f4)) := by unfold zAq zA1; rw [h]; rfl
  rw [e]
  exact zFM _ p.f4 p.f1 w rfl h0 rfl rfl (by omega) i0 i1
 ·have h0 : (pkC p A1 c1 A2 c2 A3 c3)[0]? = some (.int .i64 13) := by rw [← h]; rfl
  have e : zAq p = zA2 13 p.f1 (str (tl p.f2)) := by unfold zAq zA1; rw [h]; rfl
  rw [e]
  exact zGH _ p.f2 p.f1 w rfl h0 rfl rfl (by omega) i0 i1
 ·have h0 : (pkC p A1 c1 A2 c2 A3 c3)[0]? = some (.int .i64 14) := by rw [← h]; rfl
  have e : zAq p = zA2 14 p.f1 (str (tl p.f2) ++ zB0 p.f9) := by unfold zAq zA1; rw [h]; rfl
  rw [e]
  exact zH2 _ p.f2 p.f9.f0 p.f9.f1 p.f9.f2 p.f9.f3 p.f9.f4 p.f9.f5 p.f9.f6 A1 p.f9.f7.length c1 p.f9.f7 p.f1 w rfl h0 rfl rfl h9 rfl hA.ex k1.1 k1.2 (by omega) ga gb gc gd ge gf gg i0 i1
 ·have h0 : (pkC p A1 c1 A2 c2 A3 c3)[0]? = some (.int .i64 15) := by rw [← h]; rfl
  have e : zAq p = zA2 15 p.f1 (str (tl p.f2)) := by unfold zAq zA1; rw [h]; rfl
  rw [e]
  exact zHR _ p.f2 p.f1 w rfl h0 rfl rfl (by omega) i0 i1
 ·have h0 : (pkC p A1 c1 A2 c2 A3 c3)[0]? = some (.int .i64 16) := by rw [← h]; rfl
  have e : zAq p = zA2 16 p.f1 (str (tl p.f2)) := by unfold zAq zA1; rw [h]; rfl
  rw [e]
  exact zEg _ p.f2 p.f1 w rfl h0 rfl rfl (by omega) i0 i1
 ·have h0 : (pkC p A1 c1 A2 c2 A3 c3)[0]? = some (.int .i64 17) := by rw [← h]; rfl
  have e : zAq p = zA2 17 p.f1 (str (tl p.f2)) := by unfold zAq zA1; rw [h]; rfl
  rw [e]
  exact zIS _ p.f2 p.f1 w rfl h0 rfl rfl (by omega) i0 i1
 ·have h0 : (pkC p A1 c1 A2 c2 A3 c3)[0]? = some (.int .i64 18) := by rw [← h]; rfl
  have e : zAq p = zA2 18 p.f1 (str (tl p.f2) ++ str (tl p.f3)) := by unfold zAq zA1; rw [h]; rfl
  rw [e]
  exact zGI _ p.f2 p.f3 p.f1 w rfl h0 rfl rfl rfl (by omega) (by omega) i0 i1
 ·have h0 : (pkC p A1 c1 A2 c2 A3 c3)[0]? = some (.int .i64 19) := by rw [← h]; rfl
  have e : zAq p = zA2 19 p.f1 (str (tl p.f2)) := by unfold zAq zA1; rw [h]; rfl
  rw [e]
  exact zEh _ p.f2 p.f1 w rfl h0 rfl rfl (by omega) i0 i1
 ·have h0 : (pkC p A1 c1 A2 c2 A3 c3)[0]? = some (.int .i64 20) := by rw [← h]; rfl
  have e : zAq p = zA2 20 p.f1 (str (tl p.f3) ++ str (tl p.f2)) := by unfold zAq zA1; rw [h]; rfl
  rw [e]
  exact zFN _ p.f2 p.f3 p.f1 w rfl h0 rfl rfl rfl (by omega) (by omega) i0 i1
 ·have h0 : (pkC p A1 c1 A2 c2 A3 c3)[0]? = some (.int .i64 101) := by rw [← h]; rfl
  have e : zAq p = zA2 101 p.f1 (zAQ p.f13 ++ str (tl p.f14) ++ str (tl p.f15)) := by unfold zAq zA1; rw [h]; rfl
  rw [e]
  exact zGJ _ p.f13 p.f14 p.f15 p.f1 w rfl h0 rfl rfl rfl rfl u0 u1 (by omega) (by omega) i0 i1
 ·have h0 : (pkC p A1 c1 A2 c2 A3 c3)[0]? = some (.int .i64 102) := by rw [← h]; rfl
  have e : zAq p = zA2 102 p.f1 (str (tl p.f4)) := by unfold zAq zA1; rw [h]; rfl
  rw [e]
  exact zGK _ p.f4 p.f1 w rfl h0 rfl rfl (by omega) i0 i1
 ·have h0 : (pkC p A1 c1 A2 c2 A3 c3)[0]? = some (.int .i64 103) := by rw [← h]; rfl
  have e : zAq p = zA2 103 p.f1 (str (tl p.f8)) := by unfold zAq zA1; rw [h]; rfl
  rw [e]
  exact zIT _ p.f8 p.f1 w rfl h0 rfl rfl (by omega) i0 i1
 ·have h0 : (pkC p A1 c1 A2 c2 A3 c3)[0]? = some (.int .i64 104) := by rw [← h]; rfl
  have e : zAq p = zA2 104 p.f1 (zAQ ((p.f10.length : Nat) : Int) ++ zBR (p.f10.map zBK)) := by unfold zAq zA1; rw [h]; rfl
  rw [e]
  exact zI6 _ A2 p.f10.length c2 p.f10 p.f1 w rfl h0 rfl rfl rfl (by have := s.ok.n10; omega) k2.1 (fun e he => (s.name e he).1) (by have := s.names; omega) i0 i1
 ·have h0 : (pkC p A1 c1 A2 c2 A3 c3)[0]? = some (.int .i64 105) := by rw [← h]; rfl
  have e : zAq p = zA2 105 p.f1 (zB0 p.f9) := by unfold zAq zA1; rw [h]; rfl
  rw [e]
  exact zH3 _ p.f9.f0 p.f9.f1 p.f9.f2 p.f9.f3 p.f9.f4 p.f9.f5 p.f9.f6 A1 p.f9.f7.length c1 p.f9.f7 p.f1 w rfl h0 rfl h9 rfl hA.ex k1.1 k1.2 ga gb gc gd ge gf gg i0 i1
 ·have h0 : (pkC p A1 c1 A2 c2 A3 c3)[0]? = some (.int .i64 201) := by rw [← h]; rfl
  have e : zAq p = zA2 201 p.f1 (tl p.f8) := by unfold zAq zA1; rw [h]; rfl
  rw [e]
  exact zHU _ p.f8 p.f1 w rfl h0 rfl rfl (by omega) i0 i1
 ·have h0 : (pkC p A1 c1 A2 c2 A3 c3)[0]? = some (.int .i64 200) := by rw [← h]; rfl
  have e : zAq p = zA2 200 p.f1 (str (tl p.f16) ++ zBP p.f16 p.f2 p.f3 p.f4 p.f8) := by unfold zAq zA1; rw [h]; rfl
  rw [e]
  exact zEj _ p.f16 p.f2 p.f3 p.f4 p.f8 p.f1 w rfl h0 rfl rfl rfl rfl rfl rfl l2 l3 l4 l8 l16 i0 i1
theorem zN8 (s : ByteArray) (b : UInt8) (h : (tl s)[4]? = some b) (w : World) : (Instr.index 9 (.string s) (.int .i64 4)).run Tryz.prog w = .ok (.int .u8 (b.toNat : Int)) w := by
 have h4 : 4 < s.size := by
  have := (List.getElem?_eq_some_iff.1 h).1
  rwa [zAH] at this
 have hb : s[4] = b := by
  have := zIC s 4 h4
  rw [h] at this
  exact (Option.some.inj this).symm
 go_simp
 intro hh
 omega
def inner (p : Pk) : List UInt8 := bt p.f0 :: (if p.f0 = 1 ∨ p.f0 = 2 then zAQ p.f12 ++ exB (p.f11.map zA0) else zAQ p.f1 ++ zA1 p)
theorem zCj (p : Pk) : zAq p = zAQ ((inner p).length : Int) ++ inner p := by
 unfold zAq inner
 by_cases h : p.f0 = 1 ∨ p.f0 = 2
 ·rw [if_pos h, if_pos h]
  unfold zBb
  have e : (5 + (exB (p.f11.map zA0)).length) = (bt p.f0 :: (zAQ p.f12 ++ exB (p.f11.map zA0))).length := by
   simp only [List.length_cons, List.length_append, zAi]
   omega
  rw [e]
  simp only [List.append_assoc, List.cons_append]
 ·rw [if_neg h, if_neg h]
  unfold zA2
  have e : (5 + ((zA1 p).length : Int)) = ((bt p.f0 :: (zAQ p.f1 ++ zA1 p)).length : Nat) := by
   simp only [List.length_cons, List.length_append, zAi]
   omega
  rw [e]
  simp only [List.append_assoc, List.cons_append, List.nil_append]
theorem zM5 {c : Prop} [Decidable c] {a b : List UInt8} {n : Nat} (ha : a.length ≤ n) (hb : b.length ≤ n) : (if c then a else b).length ≤ n := by split <;> assumption
theorem Sound.body {p : Pk} (s : Sound p) : (zA1 p).length ≤ 100000 := by
 have hx := s.txt
 unfold zB7 at hx
 have ha := s.at9.small
 have hA : (zB0 p.f9).length ≤ 3000 := ha
 have hn := s.names
 have he : (zBP p.f16 p.f2 p.f3 p.f4 p.f8).length ≤ 2 * 2000 + 8 := zFj (by omega) (by omega) (by omega) (by omega)
 unfold zA1
 repeat' apply zM5
 all_goals try simp only [List.length_append, zAK, zAi, zAS, zAH]
 all_goals omega
theorem Sound.inner_len {p : Pk} (s : Sound p) : 5 ≤ (inner p).length ∧ (inner p).length ≤ 10100000 := by
 have h1 := s.body
 have h2 := s.ex11.2.1
 unfold inner
 rw [List.length_cons]
 split
 ·rw [List.length_append, zAi]; omega
 ·rw [List.length_append, zAi]; omega
theorem T27.range {t : Int} (h : T27 t) : 0 ≤ t ∧ t ≤ 255 := by
 unfold T27 at h
 omega
theorem T27.bt {t : Int} (h : T27 t) : ((bt t).toNat : Int) = t := by
 have := h.range
 rw [zDx]
 omega
theorem zOo (w : World) (cs : Array Value) : Below w.heap.size w (w.alloc (.cells cs 29)) ∧ (w.alloc (.cells cs 29)).heap[w.heap.size]? = some (.cells cs 29 (0, 0)) :=
 ⟨(Below.refl _ _).alloc (Nat.le_refl _) _, heap_alloc_new _ _⟩
theorem zH4 (p : Pk) (s : Sound p) : 9 ≤ (zAq p).length ∧ (zAq p).length ≤ 10100004 := by
 have h := s.inner_len
 rw [zCj, List.length_append, zAi]
 omega
theorem zJ1 {W : World} {cs : Array Value} {p : Pk} (hK : k29.K W p cs.toList) : PkV W cs p := by
 obtain ⟨A1, c1, A2, c2, A3, c3, he, l1, g1, l2, g2, l3, g3⟩ := zKj hK
 refine ⟨A1, c1, A2, c2, A3, c3, ?_, ⟨g1, l1⟩, ⟨g2, l2⟩, ⟨g3, l3⟩⟩
 cases cs
 simpa [pkC] using he
def zOT (p : Pk) (w : World) (e : Ending) (w' : World) : Prop := (∃ r, e = .returned (.bool r) ∧ (r = true → zM0 p)) ∧ Below w.heap.size w w'
theorem zOU (p : Pk) (A1 : Option Addr) (c1 : Nat) (A2 : Option Addr) (c2 : Nat) (A3 : Option Addr) (c3 : Nat) (w : World) (h1 : SlE w A1 c1 p.f9.f7) (h2 : SlN w A2 c2 p.f10) (h3 : SlE w A3 c3 p.f11) :
  Calls Tryz.prog 8 #[.agg (pkC p A1 c1 A2 c2 A3 c3)] w (zOT p w) := by
 obtain ⟨hb0, k0⟩ := zOo w (pkC p A1 c1 A2 c2 A3 c3)
 generalize hW0 : w.alloc (.cells (pkC p A1 c1 A2 c2 A3 c3) 29) = W0 at *
 have g2 : W0.cell? ⟨w.heap.size, 2, none⟩ = some (.string p.f2) := by rw [zAA k0]; rfl
 have g3 : W0.cell? ⟨w.heap.size, 3, none⟩ = some (.string p.f3) := by rw [zAA k0]; rfl
 have g4 : W0.cell? ⟨w.heap.size, 4, none⟩ = some (.string p.f4) := by rw [zAA k0]; rfl
 have g8 : W0.cell? ⟨w.heap.size, 8, none⟩ = some (.string p.f8) := by rw [zAA k0]; rfl
 have g9 : W0.cell? ⟨w.heap.size, 9, none⟩ = some (.int .u32 p.f9.f0) := by rw [zAA k0]; rfl
 have g10 : W0.cell? ⟨w.heap.size, 10, none⟩ = some (.int .u64 p.f9.f1) := by rw [zAA k0]; rfl
 have g11 : W0.cell? ⟨w.heap.size, 11, none⟩ = some (.int .u32 p.f9.f2) := by rw [zAA k0]; rfl
 have g12 : W0.cell? ⟨w.heap.size, 12, none⟩ = some (.int .u32 p.f9.f3) := by rw [zAA k0]; rfl
 have g13 : W0.cell? ⟨w.heap.size, 13, none⟩ = some (.int .u32 p.f9.f4) := by rw [zAA k0]; rfl
 have g14 : W0.cell? ⟨w.heap.size, 14, none⟩ = some (.int .u32 p.f9.f5) := by rw [zAA k0]; rfl
 have g15 : W0.cell? ⟨w.heap.size, 15, none⟩ = some (.int .u32 p.f9.f6) := by rw [zAA k0]; rfl
 have g16 : W0.cell? ⟨w.heap.size, 16, none⟩ = some (.slice A1 p.f9.f7.length c1) := by rw [zAA k0]; rfl
 obtain ⟨r5, e5, h5⟩ := zJZ 5000000001 (by omega) p.f9.f0 p.f9.f1 p.f9.f2 p.f9.f3 p.f9.f4 p.f9.f5 p.f9.f6 p.f9.f7
 obtain ⟨r8, e8, h8⟩ := zM4 5000000001 (by omega) p.f10
 obtain ⟨r6, e6, h6⟩ := zJY 5000000001 (by omega) p.f11
 have C5 := Lib.hid (PF.laws_zzFits5.calls 5000000001 p.f9.f0 p.f9.f1 p.f9.f2 p.f9.f3 p.f9.f4 p.f9.f5 p.f9.f6 A1 c1 p.f9.f7 r5 W0 (h1.below hb0).1 (h1.below hb0).2 e5)
 have C8 := Lib.hid (fun (W : World) (h : SlN W A2 c2 p.f10) => PF.laws_zzFits8.calls 5000000001 A2 c2 p.f10 r8 W h.1 h.2 e8)
 have C6 := Lib.hid (fun (W : World) (h : SlE W A3 c3 p.f11) => PF.laws_zzFits6.calls 5000000001 A3 c3 p.f11 r6 W h.1 h.2 e6)
 have H2 := Lib.hid (h2.below hb0)
 have H3 := Lib.hid (h3.below hb0)
 have HH := Lib.hid (And.intro h5 (And.intro h8 h6))
 have X0 := Lib.hid hW0
 have B0 := Lib.hid hb0
 have K0 := Lib.hid k0
 clear hW0 hb0 k0 h1 h2 h3 e5 e8 e6 h5 h8 h6
 by_cases s2 : (2147483647 : Int) < (p.f2.size : Int)
 ·clear C5 C8 C6
  go_enter Tryz.func8, Tryz.ntmps8
  go_wp2_with (refine wpList_boxTo rfl 29 _ rfl (some 1) rfl w.heap.size rfl (pkC p A1 c1 A2 c2 A3 c3) rfl ?_; rw [X0.out])
  go_ret
  exact ⟨⟨false, rfl, fun h => by cases h⟩, B0.out⟩
 by_cases s3 : (2147483647 : Int) < (p.f3.size : Int)
 ·clear C5 C8 C6
  go_enter Tryz.func8, Tryz.ntmps8
  go_wp2_with (refine wpList_boxTo rfl 29 _ rfl (some 1) rfl w.heap.size rfl (pkC p A1 c1 A2 c2 A3 c3) rfl ?_; rw [X0.out])
  go_ret
  exact ⟨⟨false, rfl, fun h => by cases h⟩, B0.out⟩
 by_cases s4 : (2147483647 : Int) < (p.f4.size : Int)
 ·clear C5 C8 C6
  go_enter Tryz.func8, Tryz.ntmps8
  go_wp2_with (refine wpList_boxTo rfl 29 _ rfl (some 1) rfl w.heap.size rfl (pkC p A1 c1 A2 c2 A3 c3) rfl ?_; rw [X0.out])
  go_ret
  exact ⟨⟨false, rfl, fun h => by cases h⟩, B0.out⟩
 by_cases s8 : (2147483647 : Int) < (p.f8.size : Int)
 ·clear C5 C8 C6
  go_enter Tryz.func8, Tryz.ntmps8
  go_wp2_with (refine wpList_boxTo rfl 29 _ rfl (some 1) rfl w.heap.size rfl (pkC p A1 c1 A2 c2 A3 c3) rfl ?_; rw [X0.out])
  go_ret
  exact ⟨⟨false, rfl, fun h => by cases h⟩, B0.out⟩
 go_enter Tryz.func8, Tryz.ntmps8
 go_wp2_with (refine wpList_boxTo rfl 29 _ rfl (some 1) rfl w.heap.size rfl (pkC p A1 c1 A2 c2 A3 c3) rfl ?_; rw [X0.out])
 refine C5.out.mono ?_
 rintro e w1 ⟨rfl, hb⟩
 clear g2 g3 g4 g8 g9 g10 g11 g12 g13 g14 g15 g16 C5
 have B1 := Lib.hid (B0.out.trans (hb.mono B0.out.size))
 have K1 := Lib.hid ((hb.block _ (zAC K0.out)).trans K0.out)
 have H2 := Lib.hid (H2.out.below hb)
 have H3 := Lib.hid (H3.out.below hb)
 have g17 : w1.cell? ⟨w.heap.size, 17, none⟩ = some (.slice A2 p.f10.length c2) := by rw [zAA K1.out]; rfl
 clear hb B0 K0
 cases r5 with
 | false =>
  go_wp2_with fail
  go_ret
  exact ⟨⟨false, rfl, fun h => by cases h⟩, B1.out⟩
 | true =>
 go_wp2_with fail
 refine (C8.out w1 H2.out).mono ?_
 rintro e w2 ⟨rfl, hb⟩
 clear g17 C8
 have B2 := Lib.hid (B1.out.trans (hb.mono B1.out.size))
 have K2 := Lib.hid ((hb.block _ (zAC K1.out)).trans K1.out)
 have H2 := Lib.hid (H2.out.below hb)
 have H3 := Lib.hid (H3.out.below hb)
 have g18 : w2.cell? ⟨w.heap.size, 18, none⟩ = some (.slice A3 p.f11.length c3) := by rw [zAA K2.out]; rfl
 clear hb B1 K1
 cases r8 with
 | false =>
  go_wp2_with fail
  go_ret
  exact ⟨⟨false, rfl, fun h => by cases h⟩, B2.out⟩
 | true =>
 go_wp2_with fail
 refine (C6.out w2 H3.out).mono ?_
 rintro e w3 ⟨rfl, hb⟩
 clear g18 C6
 have B3 := Lib.hid (B2.out.trans (hb.mono B2.out.size))
 have K3 := Lib.hid ((hb.block _ (zAC K2.out)).trans K2.out)
 have H2 := Lib.hid (H2.out.below hb)
 have H3 := Lib.hid (H3.out.below hb)
 have g21 : w3.cell? ⟨w.heap.size, 21, none⟩ = some (.string p.f14) := by rw [zAA K3.out]; rfl
 have g22 : w3.cell? ⟨w.heap.size, 22, none⟩ = some (.string p.f15) := by rw [zAA K3.out]; rfl
 have g23 : w3.cell? ⟨w.heap.size, 23, none⟩ = some (.string p.f16) := by rw [zAA K3.out]; rfl
 clear hb B2 K2
 cases r6 with
 | false =>
  go_wp2_with fail
  go_ret
  exact ⟨⟨false, rfl, fun h => by cases h⟩, B3.out⟩
 | true =>
 by_cases s14 : (2147483647 : Int) < (p.f14.size : Int)
 ·go_wp2_with fail
  go_ret
  exact ⟨⟨false, rfl, fun h => by cases h⟩, B3.out⟩
 by_cases s15 : (2147483647 : Int) < (p.f15.size : Int)
 ·go_wp2_with fail
  go_ret
  exact ⟨⟨false, rfl, fun h => by cases h⟩, B3.out⟩
 by_cases s16 : (2147483647 : Int) < (p.f16.size : Int)
 ·go_wp2_with fail
  go_ret
  exact ⟨⟨false, rfl, fun h => by cases h⟩, B3.out⟩
 have F := Lib.hid (show zM0 p from ⟨by omega, by omega, by omega, by omega, by omega, by omega, by omega, HH.out.1 (by trivial), HH.out.2.1 (by trivial), HH.out.2.2 (by trivial)⟩)
 go_wp2_with fail
 go_ret
 exact ⟨⟨true, rfl, fun _ => F.out⟩, B3.out⟩
section
variable {w0 w : World} {g o s q : Nat} {t : TypeId} {r : List UInt8} {cs : Array Value}
theorem zN9 {x : Int} (h : RSt w0 w g o s q t (some (zAQ x ++ r)) cs) (hq : q ≠ g) (x0 : 0 ≤ x) (x1 : x ≤ 4294967295) :
  Calls Tryz.prog 68 #[.pointer (some ⟨g, o, none⟩)] w fun e w' => e = .returned (.int .u32 x) ∧ RSt w0 w' g o s q t (some r) cs := by
 have h1 := zHY h hq
 rw [zBI _ _ x0 x1] at h1
 exact h1
theorem zNa {x : Int} (h : RSt w0 w g o s q t (some (zBN x ++ r)) cs) (hq : q ≠ g) (x0 : 0 ≤ x) (x1 : x ≤ 18446744073709551615) :
  Calls Tryz.prog 112 #[.pointer (some ⟨g, o, none⟩)] w fun e w' => e = .returned (.int .u64 x) ∧ RSt w0 w' g o s q t (some r) cs := by
 have h1 := zNx h hq
 rw [zEb _ _ x0 x1] at h1
 exact h1
theorem zBM {b : ByteArray} (h : RSt w0 w g o s q t (some (str (tl b) ++ r)) cs) (hq : q ≠ g) (hb : b.size ≤ 4294967295) :
  Calls Tryz.prog 78 #[.pointer (some ⟨g, o, none⟩)] w fun e w' => e = .returned (.string b) ∧ RSt w0 w' g o s q t (some r) cs := by
 have h1 := zLF h hq
 rw [zEn _ _ (by rw [zAH]; exact hb)] at h1
 dsimp only at h1
 rw [zGs] at h1
 exact h1
theorem zM6 {n : Nat} (h : RSt w0 w g o s q t (some (zAQ (n : Int) ++ r)) cs) (hq : q ≠ g) (x1 : n ≤ 4294967295) :
  Calls Tryz.prog 113 #[.pointer (some ⟨g, o, none⟩)] w fun e w' => e = .returned (.int .i64 (n : Int)) ∧ RSt w0 w' g o s q t (some r) cs := by
 have h1 := zJP h hq
 rw [zBI _ _ (by omega) (by omega)] at h1
 exact h1
theorem RSt.nilErr (h : RSt w0 w g o s q t (some r) cs) : w.cell? ⟨g, o + 2, none⟩ = some .nilIface := by
 obtain ⟨v, hv, he⟩ := h.rb.err
 have he' : v = .nilIface := he
 rw [hv, he']
end
theorem zM7 {a b c d e f g : Int} {l : List zAu} (h : AOk a b c d e f g l) (ht : zEN a b c d e f g l) (t : List UInt8) (v : Value) (pre post : List Value) :
  adC pre (c32 (some (atB a b c d e f g l ++ t))).1 (c32 (some (atB a b c d e f g l ++ t))).2 v post = zAg pre a b c d e f g v post := by
 unfold atB
 rw [List.append_assoc, zBI _ _ h.ga.1 h.ga.2]
 dsimp only
 unfold adC
 simp only [List.append_assoc]
 rw [zOD h ht]
 dsimp only
 rw [zOE h ht]
 dsimp only
 rw [zOF h ht]
 dsimp only
 rw [zOG h ht]
theorem zDJ {q g o s : Nat} {t : TypeId} {pre post : List Value} {a : Ats} {r : List UInt8} {w0 w : World} (ha : zEY a) (h : RSt w0 w g o s q t (some (zB0 a ++ r)) (zAg pre 0 0 0 0 0 0 0 (.slice none 0 0) post)) (hqg : q ≠ g) (hqs : q ≠ s) :
  Calls Tryz.prog 107 #[.pointer (some ⟨q, pre.length, none⟩), .pointer (some ⟨g, o, none⟩)] w fun e w' => ∃ v, e = .returned .nilIface ∧ zCx w' w.heap.size v (a.f7.map zA0) ∧ RSt w0 w' g o s q t (some r) (zAg pre a.f0 a.f1 a.f2 a.f3 a.f4 a.f5 a.f6 v post) := by
 refine (zJp q g o s t pre post _ w h.blk hqg hqs h.rb).mono ?_
 rintro e w' ⟨v, ev, rfl, he, hv, h2⟩
 have hR : adR (c32 (some (zB0 a ++ r))).1 (c32 (some (zB0 a ++ r))).2 = some r := zMV ha.ok r
 have hL : adL (c32 (some (zB0 a ++ r))).1 (c32 (some (zB0 a ++ r))).2 = a.f7.map zA0 := zMW ha.ok ha.told r
 have hC := zM7 ha.ok ha.told r v pre post
 rw [hR] at he
 rw [hL] at hv
 have h3 : RSt w w' g o s q t (some r) (zAg pre a.f0 a.f1 a.f2 a.f3 a.f4 a.f5 a.f6 v post) := by
  have := h2
  rw [hR] at this
  unfold zB0 at this
  rw [hC] at this
  exact this
 have he' : ev = .nilIface := he
 exact ⟨v, by rw [he'], hv, h3.rb, h3.blk, h.upd.trans h3.upd⟩
def PkF (w : World) (base : Nat) (P : Array Value) (p : Pk) : Prop := ∀ V : World, w.heap.size ≤ V.heap.size → (∀ k, base ≤ k → k < w.heap.size → V.heap[k]? = w.heap[k]?) → PkV V P p
theorem PkF.now {w : World} {base : Nat} {P : Array Value} {p : Pk} (h : PkF w base P p) : PkV w P p := h w (Nat.le_refl _) (fun _ _ _ => rfl)
theorem PkF.kept {w w1 : World} {base : Nat} {P : Array Value} {p : Pk} (h : PkF w base P p) (hs : w.heap.size ≤ w1.heap.size) (hk : ∀ k, base ≤ k → k < w.heap.size → w1.heap[k]? = w.heap[k]?) : PkF w1 base P p :=
 fun V h1 h2 => h V (Nat.le_trans hs h1) (fun k hb hl => (h2 k hb (Nat.lt_of_lt_of_le hl hs)).trans (hk k hb hl))
theorem PkF.lower {w : World} {base base' : Nat} {P : Array Value} {p : Pk} (h : PkF w base P p) (hb : base' ≤ base) : PkF w base' P p := fun V h1 h2 => h V h1 (fun k hk hl => h2 k (Nat.le_trans hb hk) hl)
theorem zGX {α : Type} {d : Kd α} {e : Nat} {w w1 : World} {base : Nat} {ok : Nat → Prop} {v : Value} {xs : List α} (h : d.R e w base ok v xs) (hm : ∀ k, base ≤ k → k < w.heap.size → w1.heap[k]? = w.heap[k]?) : d.R e w1 base ok v xs :=
 Kd.R_mono (Kd.R_move (Kd.R_bound h) (fun k hk => hm k hk.2.1 hk.2.2.1)) (fun _ hk => hk.1)
def zBJ (p : Pk) (w : World) (e : Ending) (w' : World) : Prop := ∃ P, e = .returned (.tuple #[.agg P, .bool true]) ∧ PkF w' w.heap.size P p ∧ Below w.heap.size w w'
def PlainQ (p : Pk) (tp : TypeId) (b : Nat) (w : World) : Prop := ∀ W, Below w.heap.size w W → Calls Tryz.prog 33 #[.int .u32 p.f1, .iface tp (.pointer (some ⟨b, 0, none⟩))] W (zBJ p W)
theorem PlainQ.below {p : Pk} {tp : TypeId} {b : Nat} {w w' : World} (h : PlainQ p tp b w) (hb : Below w.heap.size w w') : PlainQ p tp b w' := fun W hW => h W (hb.trans (hW.mono hb.size))
def zMn (p : Pk) (tp : TypeId) (b g o : Nat) (w : World) (e : Ending) (w' : World) : Prop := e = .returned .nilIface ∧ PlainQ p tp b w' ∧ UpdG g o b w w'
structure zBU (p : Pk) (tp t : TypeId) (zs : Array Value) (F : Nat) : Prop where
 meth : ∀ (v : Value) (w : World), (Go.method 357 tp v "UnmarshalPacketBody").run Tryz.prog w = .ok (F, v) w
 ent : ∀ (args : Array Value) (w : World), (callFunc F args).run Tryz.prog w = .ok (.enter F args) w
 fill : ∀ (b g o s : Nat) (W : World), W.heap[b]? = some (.cells zs t (0, 0)) → b ≠ g → b ≠ s → RBuf W g o s (some (zA1 p)) → Calls Tryz.prog F #[.pointer (some ⟨b, 0, none⟩), .pointer (some ⟨g, o, none⟩)] W (zMn p tp b g o W)
theorem RSt.setRow {w0 w : World} {g o s q : Nat} {t : TypeId} {r : Option (List UInt8)} {cs : Array Value} (h : RSt w0 w g o s q t r cs) (hq : q ≠ g) (hs : q ≠ s) (cs' : Array Value) : RSt w0 (w.setRow q cs') g o s q t r cs' :=
 ⟨h.rb.kept (setRow_other _ _ _ _ (Ne.symm hq)) (setRow_other _ _ _ _ (Ne.symm hs)) (by rw [setRow_size]; exact Nat.le_refl _), zAj h.blk, h.upd.keep ⟨rfl, rfl, rfl, by rw [setRow_size]; exact Nat.le_refl _, fun k _ e => setRow_other _ _ _ _ (fun e2 => e (.inr e2))⟩ (setRow_other _ _ _ _ (Ne.symm hq))⟩
theorem zKC (q g o s : Nat) (a : ByteArray) (r : List UInt8) (w : World) (hq : w.heap[q]? = some (.cells #[.string ⟨#[]⟩] 122 (0, 0))) (hqg : q ≠ g) (hqs : q ≠ s) (hB : RBuf w g o s (some (str (tl a) ++ r))) (ha : a.size ≤ 1000000) :
  Calls Tryz.prog 121 #[.pointer (some ⟨q, 0, none⟩), .pointer (some ⟨g, o, none⟩)] w fun e w' => e = .returned .nilIface ∧ w'.heap[q]? = some (.cells #[.string a] 122 (0, 0)) ∧ UpdG g o q w w' := by
 have C0 := Lib.hid (zBM (w0 := w) ⟨hB, hq, UpdG.refl _ _ _ _⟩ hqg (by omega))
 clear hB hq
 go_enter Tryz.func121, Tryz.ntmps121
 go_wp2_with fail
 refine C0.out.mono ?_
 rintro e w1 ⟨rfl, h⟩
 clear C0
 have c0 : w1.cell? ⟨q, 0, none⟩ = some (.string ⟨#[]⟩) := by rw [h.cell]; rfl
 have f0 := h.frz 0
 have h9 : RSt w (w1.setCell ⟨q, 0, none⟩ (.string a)) g o s q 122 (some r) #[.string a] := (h.set hqg hqs 0 (.string a))
 have cn := h9.nilErr
 have H9 := Lib.hid h9
 clear h h9
 generalize hW : w1.setCell ⟨q, 0, none⟩ (.string a) = W at *
 have X := Lib.hid hW
 clear hW
 have hW := X.out
 go_wp2_with fail
 go_ret
 exact ⟨rfl, H9.out.blk, H9.out.upd⟩
theorem zKD (q g o s : Nat) (a : ByteArray) (r : List UInt8) (w : World) (hq : w.heap[q]? = some (.cells #[.string ⟨#[]⟩] 133 (0, 0))) (hqg : q ≠ g) (hqs : q ≠ s) (hB : RBuf w g o s (some (str (tl a) ++ r))) (ha : a.size ≤ 1000000) :
  Calls Tryz.prog 134 #[.pointer (some ⟨q, 0, none⟩), .pointer (some ⟨g, o, none⟩)] w fun e w' => e = .returned .nilIface ∧ w'.heap[q]? = some (.cells #[.string a] 133 (0, 0)) ∧ UpdG g o q w w' := by
 have C0 := Lib.hid (zBM (w0 := w) ⟨hB, hq, UpdG.refl _ _ _ _⟩ hqg (by omega))
 clear hB hq
 go_enter Tryz.func134, Tryz.ntmps134
 go_wp2_with fail
 refine C0.out.mono ?_
 rintro e w1 ⟨rfl, h⟩
 clear C0
 have c0 : w1.cell? ⟨q, 0, none⟩ = some (.string ⟨#[]⟩) := by rw [h.cell]; rfl
 have f0 := h.frz 0
 have h9 : RSt w (w1.setCell ⟨q, 0, none⟩ (.string a)) g o s q 133 (some r) #[.string a] := (h.set hqg hqs 0 (.string a))
 have cn := h9.nilErr
 have H9 := Lib.hid h9
 clear h h9
 generalize hW : w1.setCell ⟨q, 0, none⟩ (.string a) = W at *
 have X := Lib.hid hW
 clear hW
 have hW := X.out
 go_wp2_with fail
 go_ret
 exact ⟨rfl, H9.out.blk, H9.out.upd⟩
theorem zH5 (q g o s : Nat) (a : ByteArray) (r : List UInt8) (w : World) (hq : w.heap[q]? = some (.cells #[.string ⟨#[]⟩] 143 (0, 0))) (hqg : q ≠ g) (hqs : q ≠ s) (hB : RBuf w g o s (some (str (tl a) ++ r))) (ha : a.size ≤ 1000000) :
  Calls Tryz.prog 146 #[.pointer (some ⟨q, 0, none⟩), .pointer (some ⟨g, o, none⟩)] w fun e w' => e = .returned .nilIface ∧ w'.heap[q]? = some (.cells #[.string a] 143 (0, 0)) ∧ UpdG g o q w w' := by
 have C0 := Lib.hid (zBM (w0 := w) ⟨hB, hq, UpdG.refl _ _ _ _⟩ hqg (by omega))
 clear hB hq
 go_enter Tryz.func146, Tryz.ntmps146
 go_wp2_with fail
 refine C0.out.mono ?_
 rintro e w1 ⟨rfl, h⟩
 clear C0
 have c0 : w1.cell? ⟨q, 0, none⟩ = some (.string ⟨#[]⟩) := by rw [h.cell]; rfl
 have f0 := h.frz 0
 have h9 : RSt w (w1.setCell ⟨q, 0, none⟩ (.string a)) g o s q 143 (some r) #[.string a] := (h.set hqg hqs 0 (.string a))
 have cn := h9.nilErr
 have H9 := Lib.hid h9
 clear h h9
 generalize hW : w1.setCell ⟨q, 0, none⟩ (.string a) = W at *
 have X := Lib.hid hW
 clear hW
 have hW := X.out
 go_wp2_with fail
 go_ret
 exact ⟨rfl, H9.out.blk, H9.out.upd⟩
theorem zI8 (q g o s : Nat) (a : ByteArray) (r : List UInt8) (w : World) (hq : w.heap[q]? = some (.cells #[.string ⟨#[]⟩] 167 (0, 0))) (hqg : q ≠ g) (hqs : q ≠ s) (hB : RBuf w g o s (some (str (tl a) ++ r))) (ha : a.size ≤ 1000000) :
  Calls Tryz.prog 179 #[.pointer (some ⟨q, 0, none⟩), .pointer (some ⟨g, o, none⟩)] w fun e w' => e = .returned .nilIface ∧ w'.heap[q]? = some (.cells #[.string a] 167 (0, 0)) ∧ UpdG g o q w w' := by
 have C0 := Lib.hid (zBM (w0 := w) ⟨hB, hq, UpdG.refl _ _ _ _⟩ hqg (by omega))
 clear hB hq
 go_enter Tryz.func179, Tryz.ntmps179
 go_wp2_with fail
 refine C0.out.mono ?_
 rintro e w1 ⟨rfl, h⟩
 clear C0
 have c0 : w1.cell? ⟨q, 0, none⟩ = some (.string ⟨#[]⟩) := by rw [h.cell]; rfl
 have f0 := h.frz 0
 have h9 : RSt w (w1.setCell ⟨q, 0, none⟩ (.string a)) g o s q 167 (some r) #[.string a] := (h.set hqg hqs 0 (.string a))
 have cn := h9.nilErr
 have H9 := Lib.hid h9
 clear h h9
 generalize hW : w1.setCell ⟨q, 0, none⟩ (.string a) = W at *
 have X := Lib.hid hW
 clear hW
 have hW := X.out
 go_wp2_with fail
 go_ret
 exact ⟨rfl, H9.out.blk, H9.out.upd⟩
theorem zKE (q g o s : Nat) (a : ByteArray) (r : List UInt8) (w : World) (hq : w.heap[q]? = some (.cells #[.string ⟨#[]⟩] 131 (0, 0))) (hqg : q ≠ g) (hqs : q ≠ s) (hB : RBuf w g o s (some (str (tl a) ++ r))) (ha : a.size ≤ 1000000) :
  Calls Tryz.prog 131 #[.pointer (some ⟨q, 0, none⟩), .pointer (some ⟨g, o, none⟩)] w fun e w' => e = .returned .nilIface ∧ w'.heap[q]? = some (.cells #[.string a] 131 (0, 0)) ∧ UpdG g o q w w' := by
 have C0 := Lib.hid (zBM (w0 := w) ⟨hB, hq, UpdG.refl _ _ _ _⟩ hqg (by omega))
 clear hB hq
 go_enter Tryz.func131, Tryz.ntmps131
 go_wp2_with fail
 refine C0.out.mono ?_
 rintro e w1 ⟨rfl, h⟩
 clear C0
 have c0 : w1.cell? ⟨q, 0, none⟩ = some (.string ⟨#[]⟩) := by rw [h.cell]; rfl
 have f0 := h.frz 0
 have h9 : RSt w (w1.setCell ⟨q, 0, none⟩ (.string a)) g o s q 131 (some r) #[.string a] := (h.set hqg hqs 0 (.string a))
 have cn := h9.nilErr
 have H9 := Lib.hid h9
 clear h h9
 generalize hW : w1.setCell ⟨q, 0, none⟩ (.string a) = W at *
 have X := Lib.hid hW
 clear hW
 have hW := X.out
 go_wp2_with fail
 go_ret
 exact ⟨rfl, H9.out.blk, H9.out.upd⟩
theorem zH6 (q g o s : Nat) (a : ByteArray) (r : List UInt8) (w : World) (hq : w.heap[q]? = some (.cells #[.string ⟨#[]⟩] 141 (0, 0))) (hqg : q ≠ g) (hqs : q ≠ s) (hB : RBuf w g o s (some (str (tl a) ++ r))) (ha : a.size ≤ 1000000) :
  Calls Tryz.prog 143 #[.pointer (some ⟨q, 0, none⟩), .pointer (some ⟨g, o, none⟩)] w fun e w' => e = .returned .nilIface ∧ w'.heap[q]? = some (.cells #[.string a] 141 (0, 0)) ∧ UpdG g o q w w' := by
 have C0 := Lib.hid (zBM (w0 := w) ⟨hB, hq, UpdG.refl _ _ _ _⟩ hqg (by omega))
 clear hB hq
 go_enter Tryz.func143, Tryz.ntmps143
 go_wp2_with fail
 refine C0.out.mono ?_
 rintro e w1 ⟨rfl, h⟩
 clear C0
 have c0 : w1.cell? ⟨q, 0, none⟩ = some (.string ⟨#[]⟩) := by rw [h.cell]; rfl
 have f0 := h.frz 0
 have h9 : RSt w (w1.setCell ⟨q, 0, none⟩ (.string a)) g o s q 141 (some r) #[.string a] := (h.set hqg hqs 0 (.string a))
 have cn := h9.nilErr
 have H9 := Lib.hid h9
 clear h h9
 generalize hW : w1.setCell ⟨q, 0, none⟩ (.string a) = W at *
 have X := Lib.hid hW
 clear hW
 have hW := X.out
 go_wp2_with fail
 go_ret
 exact ⟨rfl, H9.out.blk, H9.out.upd⟩
theorem zI9 (q g o s : Nat) (a : ByteArray) (r : List UInt8) (w : World) (hq : w.heap[q]? = some (.cells #[.string ⟨#[]⟩] 145 (0, 0))) (hqg : q ≠ g) (hqs : q ≠ s) (hB : RBuf w g o s (some (str (tl a) ++ r))) (ha : a.size ≤ 1000000) :
  Calls Tryz.prog 149 #[.pointer (some ⟨q, 0, none⟩), .pointer (some ⟨g, o, none⟩)] w fun e w' => e = .returned .nilIface ∧ w'.heap[q]? = some (.cells #[.string a] 145 (0, 0)) ∧ UpdG g o q w w' := by
 have C0 := Lib.hid (zBM (w0 := w) ⟨hB, hq, UpdG.refl _ _ _ _⟩ hqg (by omega))
 clear hB hq
 go_enter Tryz.func149, Tryz.ntmps149
 go_wp2_with fail
 refine C0.out.mono ?_
 rintro e w1 ⟨rfl, h⟩
 clear C0
 have c0 : w1.cell? ⟨q, 0, none⟩ = some (.string ⟨#[]⟩) := by rw [h.cell]; rfl
 have f0 := h.frz 0
 have h9 : RSt w (w1.setCell ⟨q, 0, none⟩ (.string a)) g o s q 145 (some r) #[.string a] := (h.set hqg hqs 0 (.string a))
 have cn := h9.nilErr
 have H9 := Lib.hid h9
 clear h h9
 generalize hW : w1.setCell ⟨q, 0, none⟩ (.string a) = W at *
 have X := Lib.hid hW
 clear hW
 have hW := X.out
 go_wp2_with fail
 go_ret
 exact ⟨rfl, H9.out.blk, H9.out.upd⟩
theorem zKF (q g o s : Nat) (a : ByteArray) (r : List UInt8) (w : World) (hq : w.heap[q]? = some (.cells #[.string ⟨#[]⟩] 149 (0, 0))) (hqg : q ≠ g) (hqs : q ≠ s) (hB : RBuf w g o s (some (str (tl a) ++ r))) (ha : a.size ≤ 1000000) :
  Calls Tryz.prog 155 #[.pointer (some ⟨q, 0, none⟩), .pointer (some ⟨g, o, none⟩)] w fun e w' => e = .returned .nilIface ∧ w'.heap[q]? = some (.cells #[.string a] 149 (0, 0)) ∧ UpdG g o q w w' := by
 have C0 := Lib.hid (zBM (w0 := w) ⟨hB, hq, UpdG.refl _ _ _ _⟩ hqg (by omega))
 clear hB hq
 go_enter Tryz.func155, Tryz.ntmps155
 go_wp2_with fail
 refine C0.out.mono ?_
 rintro e w1 ⟨rfl, h⟩
 clear C0
 have c0 : w1.cell? ⟨q, 0, none⟩ = some (.string ⟨#[]⟩) := by rw [h.cell]; rfl
 have f0 := h.frz 0
 have h9 : RSt w (w1.setCell ⟨q, 0, none⟩ (.string a)) g o s q 149 (some r) #[.string a] := (h.set hqg hqs 0 (.string a))
 have cn := h9.nilErr
 have H9 := Lib.hid h9
 clear h h9
 generalize hW : w1.setCell ⟨q, 0, none⟩ (.string a) = W at *
 have X := Lib.hid hW
 clear hW
 have hW := X.out
 go_wp2_with fail
 go_ret
 exact ⟨rfl, H9.out.blk, H9.out.upd⟩
theorem zGY (q g o s : Nat) (a : ByteArray) (r : List UInt8) (w : World) (hq : w.heap[q]? = some (.cells #[.string ⟨#[]⟩] 151 (0, 0))) (hqg : q ≠ g) (hqs : q ≠ s) (hB : RBuf w g o s (some (str (tl a) ++ r))) (ha : a.size ≤ 1000000) :
  Calls Tryz.prog 158 #[.pointer (some ⟨q, 0, none⟩), .pointer (some ⟨g, o, none⟩)] w fun e w' => e = .returned .nilIface ∧ w'.heap[q]? = some (.cells #[.string a] 151 (0, 0)) ∧ UpdG g o q w w' := by
 have C0 := Lib.hid (zBM (w0 := w) ⟨hB, hq, UpdG.refl _ _ _ _⟩ hqg (by omega))
 clear hB hq
 go_enter Tryz.func158, Tryz.ntmps158
 go_wp2_with fail
 refine C0.out.mono ?_
 rintro e w1 ⟨rfl, h⟩
 clear C0
 have c0 : w1.cell? ⟨q, 0, none⟩ = some (.string ⟨#[]⟩) := by rw [h.cell]; rfl
 have f0 := h.frz 0
 have h9 : RSt w (w1.setCell ⟨q, 0, none⟩ (.string a)) g o s q 151 (some r) #[.string a] := (h.set hqg hqs 0 (.string a))
 have cn := h9.nilErr
 have H9 := Lib.hid h9
 clear h h9
 generalize hW : w1.setCell ⟨q, 0, none⟩ (.string a) = W at *
 have X := Lib.hid hW
 clear hW
 have hW := X.out
 go_wp2_with fail
 go_ret
 exact ⟨rfl, H9.out.blk, H9.out.upd⟩
theorem zL6 (q g o s : Nat) (a : ByteArray) (r : List UInt8) (w : World) (hq : w.heap[q]? = some (.cells #[.string ⟨#[]⟩] 153 (0, 0))) (hqg : q ≠ g) (hqs : q ≠ s) (hB : RBuf w g o s (some (str (tl a) ++ r))) (ha : a.size ≤ 1000000) :
  Calls Tryz.prog 161 #[.pointer (some ⟨q, 0, none⟩), .pointer (some ⟨g, o, none⟩)] w fun e w' => e = .returned .nilIface ∧ w'.heap[q]? = some (.cells #[.string a] 153 (0, 0)) ∧ UpdG g o q w w' := by
 have C0 := Lib.hid (zBM (w0 := w) ⟨hB, hq, UpdG.refl _ _ _ _⟩ hqg (by omega))
 clear hB hq
 go_enter Tryz.func161, Tryz.ntmps161
 go_wp2_with fail
 refine C0.out.mono ?_
 rintro e w1 ⟨rfl, h⟩
 clear C0
 have c0 : w1.cell? ⟨q, 0, none⟩ = some (.string ⟨#[]⟩) := by rw [h.cell]; rfl
 have f0 := h.frz 0
 have h9 : RSt w (w1.setCell ⟨q, 0, none⟩ (.string a)) g o s q 153 (some r) #[.string a] := (h.set hqg hqs 0 (.string a))
 have cn := h9.nilErr
 have H9 := Lib.hid h9
 clear h h9
 generalize hW : w1.setCell ⟨q, 0, none⟩ (.string a) = W at *
 have X := Lib.hid hW
 clear hW
 have hW := X.out
 go_wp2_with fail
 go_ret
 exact ⟨rfl, H9.out.blk, H9.out.upd⟩
theorem zGZ (q g o s : Nat) (a : ByteArray) (r : List UInt8) (w : World) (hq : w.heap[q]? = some (.cells #[.string ⟨#[]⟩] 158 (0, 0))) (hqg : q ≠ g) (hqs : q ≠ s) (hB : RBuf w g o s (some (str (tl a) ++ r))) (ha : a.size ≤ 1000000) :
  Calls Tryz.prog 167 #[.pointer (some ⟨q, 0, none⟩), .pointer (some ⟨g, o, none⟩)] w fun e w' => e = .returned .nilIface ∧ w'.heap[q]? = some (.cells #[.string a] 158 (0, 0)) ∧ UpdG g o q w w' := by
 have C0 := Lib.hid (zBM (w0 := w) ⟨hB, hq, UpdG.refl _ _ _ _⟩ hqg (by omega))
 clear hB hq
 go_enter Tryz.func167, Tryz.ntmps167
 go_wp2_with fail
 refine C0.out.mono ?_
 rintro e w1 ⟨rfl, h⟩
 clear C0
 have c0 : w1.cell? ⟨q, 0, none⟩ = some (.string ⟨#[]⟩) := by rw [h.cell]; rfl
 have f0 := h.frz 0
 have h9 : RSt w (w1.setCell ⟨q, 0, none⟩ (.string a)) g o s q 158 (some r) #[.string a] := (h.set hqg hqs 0 (.string a))
 have cn := h9.nilErr
 have H9 := Lib.hid h9
 clear h h9
 generalize hW : w1.setCell ⟨q, 0, none⟩ (.string a) = W at *
 have X := Lib.hid hW
 clear hW
 have hW := X.out
 go_wp2_with fail
 go_ret
 exact ⟨rfl, H9.out.blk, H9.out.upd⟩
theorem zL7 (q g o s : Nat) (a : ByteArray) (x : Int) (y : Int) (r : List UInt8) (w : World) (hq : w.heap[q]? = some (.cells #[.string ⟨#[]⟩, .int .u64 0, .int .u32 0] 125 (0, 0))) (hqg : q ≠ g) (hqs : q ≠ s) (hB : RBuf w g o s (some (str (tl a) ++ (zBN x ++ (zAQ y ++ r))))) (ha : a.size ≤ 1000000) (x0 : 0 ≤ x) (x1 : x ≤ 18446744073709551615) (y0 : 0 ≤ y) (y1 : y ≤ 4294967295) :
  Calls Tryz.prog 124 #[.pointer (some ⟨q, 0, none⟩), .pointer (some ⟨g, o, none⟩)] w fun e w' => e = .returned .nilIface ∧ w'.heap[q]? = some (.cells #[.string a, .int .u64 x, .int .u32 y] 125 (0, 0)) ∧ UpdG g o q w w' := by
 have C0 := Lib.hid (zBM (w0 := w) ⟨hB, hq, UpdG.refl _ _ _ _⟩ hqg (by omega))
 clear hB hq
 go_enter Tryz.func124, Tryz.ntmps124
 go_wp2_with fail
 refine C0.out.mono ?_
 rintro e w1 ⟨rfl, h⟩
 have C1 := Lib.hid (zNa h hqg x0 x1)
 clear h C0
 go_wp2_with fail
 refine C1.out.mono ?_
 rintro e w2 ⟨rfl, h⟩
 have C2 := Lib.hid (zN9 h hqg y0 y1)
 clear h C1
 go_wp2_with fail
 refine C2.out.mono ?_
 rintro e w3 ⟨rfl, h⟩
 clear C2
 have c0 : w3.cell? ⟨q, 0, none⟩ = some (.string ⟨#[]⟩) := by rw [h.cell]; rfl
 have f0 := h.frz 0
 have c1 : w3.cell? ⟨q, 1, none⟩ = some (.int .u64 0) := by rw [h.cell]; rfl
 have f1 := h.frz 1
 have c2 : w3.cell? ⟨q, 2, none⟩ = some (.int .u32 0) := by rw [h.cell]; rfl
 have f2 := h.frz 2
 have h9 : RSt w (((w3.setCell ⟨q, 0, none⟩ (.string a)).setCell ⟨q, 1, none⟩ (.int .u64 x)).setCell ⟨q, 2, none⟩ (.int .u32 y)) g o s q 125 (some r) #[.string a, .int .u64 x, .int .u32 y] := (((h.set hqg hqs 0 (.string a)).set hqg hqs 1 (.int .u64 x)).set hqg hqs 2 (.int .u32 y))
 have cn := h9.nilErr
 have H9 := Lib.hid h9
 clear h h9
 generalize hW : ((w3.setCell ⟨q, 0, none⟩ (.string a)).setCell ⟨q, 1, none⟩ (.int .u64 x)).setCell ⟨q, 2, none⟩ (.int .u32 y) = W at *
 have X := Lib.hid hW
 clear hW
 have hW := X.out
 go_wp2_with fail
 go_ret
 exact ⟨rfl, H9.out.blk, H9.out.upd⟩
theorem zIa (q g o s : Nat) (a : ByteArray) (b : ByteArray) (r : List UInt8) (w : World) (hq : w.heap[q]? = some (.cells #[.string ⟨#[]⟩, .string ⟨#[]⟩] 156 (0, 0))) (hqg : q ≠ g) (hqs : q ≠ s) (hB : RBuf w g o s (some (str (tl a) ++ (str (tl b) ++ r)))) (ha : a.size ≤ 1000000) (hb : b.size ≤ 1000000) :
  Calls Tryz.prog 164 #[.pointer (some ⟨q, 0, none⟩), .pointer (some ⟨g, o, none⟩)] w fun e w' => e = .returned .nilIface ∧ w'.heap[q]? = some (.cells #[.string a, .string b] 156 (0, 0)) ∧ UpdG g o q w w' := by
 have C0 := Lib.hid (zBM (w0 := w) ⟨hB, hq, UpdG.refl _ _ _ _⟩ hqg (by omega))
 clear hB hq
 go_enter Tryz.func164, Tryz.ntmps164
 go_wp2_with fail
 refine C0.out.mono ?_
 rintro e w1 ⟨rfl, h⟩
 have C1 := Lib.hid (zBM h hqg (by omega))
 clear h C0
 go_wp2_with fail
 refine C1.out.mono ?_
 rintro e w2 ⟨rfl, h⟩
 clear C1
 have c0 : w2.cell? ⟨q, 0, none⟩ = some (.string ⟨#[]⟩) := by rw [h.cell]; rfl
 have f0 := h.frz 0
 have c1 : w2.cell? ⟨q, 1, none⟩ = some (.string ⟨#[]⟩) := by rw [h.cell]; rfl
 have f1 := h.frz 1
 have h9 : RSt w ((w2.setCell ⟨q, 0, none⟩ (.string a)).setCell ⟨q, 1, none⟩ (.string b)) g o s q 156 (some r) #[.string a, .string b] := ((h.set hqg hqs 0 (.string a)).set hqg hqs 1 (.string b))
 have cn := h9.nilErr
 have H9 := Lib.hid h9
 clear h h9
 generalize hW : (w2.setCell ⟨q, 0, none⟩ (.string a)).setCell ⟨q, 1, none⟩ (.string b) = W at *
 have X := Lib.hid hW
 clear hW
 have hW := X.out
 go_wp2_with fail
 go_ret
 exact ⟨rfl, H9.out.blk, H9.out.upd⟩
theorem zH7 (q g o s : Nat) (a : ByteArray) (b : ByteArray) (r : List UInt8) (w : World) (hq : w.heap[q]? = some (.cells #[.string ⟨#[]⟩, .string ⟨#[]⟩] 161 (0, 0))) (hqg : q ≠ g) (hqs : q ≠ s) (hB : RBuf w g o s (some (str (tl a) ++ (str (tl b) ++ r)))) (ha : a.size ≤ 1000000) (hb : b.size ≤ 1000000) :
  Calls Tryz.prog 170 #[.pointer (some ⟨q, 0, none⟩), .pointer (some ⟨g, o, none⟩)] w fun e w' => e = .returned .nilIface ∧ w'.heap[q]? = some (.cells #[.string b, .string a] 161 (0, 0)) ∧ UpdG g o q w w' := by
 have C0 := Lib.hid (zBM (w0 := w) ⟨hB, hq, UpdG.refl _ _ _ _⟩ hqg (by omega))
 clear hB hq
 go_enter Tryz.func170, Tryz.ntmps170
 go_wp2_with fail
 refine C0.out.mono ?_
 rintro e w1 ⟨rfl, h⟩
 have C1 := Lib.hid (zBM h hqg (by omega))
 clear h C0
 go_wp2_with fail
 refine C1.out.mono ?_
 rintro e w2 ⟨rfl, h⟩
 clear C1
 have c0 : w2.cell? ⟨q, 0, none⟩ = some (.string ⟨#[]⟩) := by rw [h.cell]; rfl
 have f0 := h.frz 0
 have c1 : w2.cell? ⟨q, 1, none⟩ = some (.string ⟨#[]⟩) := by rw [h.cell]; rfl
 have f1 := h.frz 1
 have h9 : RSt w ((w2.setCell ⟨q, 0, none⟩ (.string b)).setCell ⟨q, 1, none⟩ (.string a)) g o s q 161 (some r) #[.string b, .string a] := ((h.set hqg hqs 0 (.string b)).set hqg hqs 1 (.string a))
 have cn := h9.nilErr
 have H9 := Lib.hid h9
 clear h h9
 generalize hW : (w2.setCell ⟨q, 0, none⟩ (.string b)).setCell ⟨q, 1, none⟩ (.string a) = W at *
 have X := Lib.hid hW
 clear hW
 have hW := X.out
 go_wp2_with fail
 go_ret
 exact ⟨rfl, H9.out.blk, H9.out.upd⟩
theorem zIb (q g o s : Nat) (x : Int) (a : ByteArray) (b : ByteArray) (r : List UInt8) (w : World) (hq : w.heap[q]? = some (.cells #[.int .u32 0, .string ⟨#[]⟩, .string ⟨#[]⟩] 165 (0, 0))) (hqg : q ≠ g) (hqs : q ≠ s) (hB : RBuf w g o s (some (zAQ x ++ (str (tl a) ++ (str (tl b) ++ r))))) (x0 : 0 ≤ x) (x1 : x ≤ 4294967295) (ha : a.size ≤ 1000000) (hb : b.size ≤ 1000000) :
  Calls Tryz.prog 174 #[.pointer (some ⟨q, 0, none⟩), .pointer (some ⟨g, o, none⟩)] w fun e w' => e = .returned .nilIface ∧ w'.heap[q]? = some (.cells #[.int .u32 x, .string a, .string b] 165 (0, 0)) ∧ UpdG g o q w w' := by
 have C0 := Lib.hid (zN9 (w0 := w) ⟨hB, hq, UpdG.refl _ _ _ _⟩ hqg x0 x1)
 clear hB hq
 go_enter Tryz.func174, Tryz.ntmps174
 go_wp2_with fail
 refine C0.out.mono ?_
 rintro e w1 ⟨rfl, h⟩
 have C1 := Lib.hid (zBM h hqg (by omega))
 clear h C0
 go_wp2_with fail
 refine C1.out.mono ?_
 rintro e w2 ⟨rfl, h⟩
 have C2 := Lib.hid (zBM h hqg (by omega))
 clear h C1
 go_wp2_with fail
 refine C2.out.mono ?_
 rintro e w3 ⟨rfl, h⟩
 clear C2
 have c0 : w3.cell? ⟨q, 0, none⟩ = some (.int .u32 0) := by rw [h.cell]; rfl
 have f0 := h.frz 0
 have c1 : w3.cell? ⟨q, 1, none⟩ = some (.string ⟨#[]⟩) := by rw [h.cell]; rfl
 have f1 := h.frz 1
 have c2 : w3.cell? ⟨q, 2, none⟩ = some (.string ⟨#[]⟩) := by rw [h.cell]; rfl
 have f2 := h.frz 2
 have h9 : RSt w (((w3.setCell ⟨q, 0, none⟩ (.int .u32 x)).setCell ⟨q, 1, none⟩ (.string a)).setCell ⟨q, 2, none⟩ (.string b)) g o s q 165 (some r) #[.int .u32 x, .string a, .string b] := (((h.set hqg hqs 0 (.int .u32 x)).set hqg hqs 1 (.string a)).set hqg hqs 2 (.string b))
 have cn := h9.nilErr
 have H9 := Lib.hid h9
 clear h h9
 generalize hW : ((w3.setCell ⟨q, 0, none⟩ (.int .u32 x)).setCell ⟨q, 1, none⟩ (.string a)).setCell ⟨q, 2, none⟩ (.string b) = W at *
 have X := Lib.hid hW
 clear hW
 have hW := X.out
 go_wp2_with fail
 go_ret
 exact ⟨rfl, H9.out.blk, H9.out.upd⟩
theorem zL8 (_x : Int) : (Tryz.prog.info? 119).map (·.size) = some 10 := by kernel_rfl
theorem zL9 (q g o s : Nat) (a : ByteArray) (x : Int) (a9 : Ats) (r : List UInt8) (w : World) (hq : w.heap[q]? = some (.cells (zAg [.string ⟨#[]⟩, .int .u32 0] 0 0 0 0 0 0 0 (.slice none 0 0) []) 119 (0, 0))) (hqg : q ≠ g) (hqs : q ≠ s) (hB : RBuf w g o s (some (str (tl a) ++ (zAQ x ++ ((zB0 a9 ++ r)))))) (ha : a.size ≤ 1000000) (x0 : 0 ≤ x) (x1 : x ≤ 4294967295) (ha9 : zEY a9) :
  Calls Tryz.prog 100 #[.pointer (some ⟨q, 0, none⟩), .pointer (some ⟨g, o, none⟩)] w fun e w' => ∃ v, e = .returned .nilIface ∧ zCx w' w.heap.size v (a9.f7.map zA0) ∧ w'.heap[q]? = some (.cells (zAg [.string a, .int .u32 x] a9.f0 a9.f1 a9.f2 a9.f3 a9.f4 a9.f5 a9.f6 v []) 119 (0, 0)) ∧ UpdG g o q w w' := by
 have C0 := Lib.hid (zBM (w0 := w) ⟨hB, hq, UpdG.refl _ _ _ _⟩ hqg (by omega))
 clear hB hq
 go_enter Tryz.func100, Tryz.ntmps100
 go_wp2_with fail
 refine C0.out.mono ?_
 rintro e w1 ⟨rfl, h⟩
 have C1 := Lib.hid (zN9 h hqg x0 x1)
 clear h C0
 go_wp2_with fail
 refine C1.out.mono ?_
 rintro e w2 ⟨rfl, h⟩
 clear C1
 have zw : w.heap.size ≤ w2.heap.size := h.upd.size
 have h9 := h.setRow hqg hqs (zAg [.string a, .int .u32 x] 0 0 0 0 0 0 0 (.slice none 0 0) [])
 generalize hW : w2.setRow q (zAg [.string a, .int .u32 x] 0 0 0 0 0 0 0 (.slice none 0 0) []) = W at h9
 have zW : w.heap.size ≤ W.heap.size := by rw [← hW, setRow_size]; exact zw
 have D := Lib.hid (zDJ (pre := [.string a, .int .u32 x]) (post := []) ha9 h9 hqg hqs)
 have K := Lib.hid h.blk
 have X := Lib.hid hW
 have Z := Lib.hid zW
 clear h h9 hW zw zW
 go_wp2_with (first
  | refine wpList_buildTo rfl 119 _ rfl (some 10) rfl (zAg [.string a, .int .u32 x] 0 0 0 0 0 0 0 (.slice none 0 0) []) (by as_aux_lemma => kernel_rfl) ?_
  | (refine wpList_store_row rfl 119 _ _ rfl q (zAg [.string a, .int .u32 x] 0 0 0 0 0 0 0 (.slice none 0 0) []) rfl rfl 119 (zAg [.string ⟨#[]⟩, .int .u32 0] 0 0 0 0 0 0 0 (.slice none 0 0) []) K.out (zL8 0) rfl (by kernel_rfl) ?_; rw [X.out]))
 refine D.out.mono ?_
 rintro e w9 ⟨v, rfl, hv, h9⟩
 have F := Lib.hid (show zCx w9 w.heap.size v (a9.f7.map zA0) from by
  rcases hv with hv | ⟨x, e1, e2, e3, e4⟩
  ·exact .inl hv
  ·exact .inr ⟨x, e1, by have := Z.out; omega, e3, e4⟩)
 have H9 := Lib.hid h9
 clear hv h9
 go_wp2_with fail
 go_ret
 exact ⟨v, rfl, F.out, H9.out.blk, H9.out.upd⟩
theorem zH8 (_x : Int) : (Tryz.prog.info? 136).map (·.size) = some 9 := by kernel_rfl
theorem zH9 (q g o s : Nat) (a : ByteArray) (a9 : Ats) (r : List UInt8) (w : World) (hq : w.heap[q]? = some (.cells (zAg [.string ⟨#[]⟩] 0 0 0 0 0 0 0 (.slice none 0 0) []) 136 (0, 0))) (hqg : q ≠ g) (hqs : q ≠ s) (hB : RBuf w g o s (some (str (tl a) ++ ((zB0 a9 ++ r))))) (ha : a.size ≤ 1000000) (ha9 : zEY a9) :
  Calls Tryz.prog 137 #[.pointer (some ⟨q, 0, none⟩), .pointer (some ⟨g, o, none⟩)] w fun e w' => ∃ v, e = .returned .nilIface ∧ zCx w' w.heap.size v (a9.f7.map zA0) ∧ w'.heap[q]? = some (.cells (zAg [.string a] a9.f0 a9.f1 a9.f2 a9.f3 a9.f4 a9.f5 a9.f6 v []) 136 (0, 0)) ∧ UpdG g o q w w' := by
 have C0 := Lib.hid (zBM (w0 := w) ⟨hB, hq, UpdG.refl _ _ _ _⟩ hqg (by omega))
 clear hB hq
 go_enter Tryz.func137, Tryz.ntmps137
 go_wp2_with fail
 refine C0.out.mono ?_
 rintro e w1 ⟨rfl, h⟩
 clear C0
 have zw : w.heap.size ≤ w1.heap.size := h.upd.size
 have h9 := h.setRow hqg hqs (zAg [.string a] 0 0 0 0 0 0 0 (.slice none 0 0) [])
 generalize hW : w1.setRow q (zAg [.string a] 0 0 0 0 0 0 0 (.slice none 0 0) []) = W at h9
 have zW : w.heap.size ≤ W.heap.size := by rw [← hW, setRow_size]; exact zw
 have D := Lib.hid (zDJ (pre := [.string a]) (post := []) ha9 h9 hqg hqs)
 have K := Lib.hid h.blk
 have X := Lib.hid hW
 have Z := Lib.hid zW
 clear h h9 hW zw zW
 go_wp2_with (first
  | refine wpList_buildTo rfl 136 _ rfl (some 8) rfl (zAg [.string a] 0 0 0 0 0 0 0 (.slice none 0 0) []) (by as_aux_lemma => kernel_rfl) ?_
  | (refine wpList_store_row rfl 136 _ _ rfl q (zAg [.string a] 0 0 0 0 0 0 0 (.slice none 0 0) []) rfl rfl 136 (zAg [.string ⟨#[]⟩] 0 0 0 0 0 0 0 (.slice none 0 0) []) K.out (zH8 0) rfl (by kernel_rfl) ?_; rw [X.out]))
 refine D.out.mono ?_
 rintro e w9 ⟨v, rfl, hv, h9⟩
 have F := Lib.hid (show zCx w9 w.heap.size v (a9.f7.map zA0) from by
  rcases hv with hv | ⟨x, e1, e2, e3, e4⟩
  ·exact .inl hv
  ·exact .inr ⟨x, e1, by have := Z.out; omega, e3, e4⟩)
 have H9 := Lib.hid h9
 clear hv h9
 go_wp2_with fail
 go_ret
 exact ⟨v, rfl, F.out, H9.out.blk, H9.out.upd⟩
theorem zG0 (_x : Int) : (Tryz.prog.info? 139).map (·.size) = some 9 := by kernel_rfl
theorem zG1 (q g o s : Nat) (a : ByteArray) (a9 : Ats) (r : List UInt8) (w : World) (hq : w.heap[q]? = some (.cells (zAg [.string ⟨#[]⟩] 0 0 0 0 0 0 0 (.slice none 0 0) []) 139 (0, 0))) (hqg : q ≠ g) (hqs : q ≠ s) (hB : RBuf w g o s (some (str (tl a) ++ ((zB0 a9 ++ r))))) (ha : a.size ≤ 1000000) (ha9 : zEY a9) :
  Calls Tryz.prog 140 #[.pointer (some ⟨q, 0, none⟩), .pointer (some ⟨g, o, none⟩)] w fun e w' => ∃ v, e = .returned .nilIface ∧ zCx w' w.heap.size v (a9.f7.map zA0) ∧ w'.heap[q]? = some (.cells (zAg [.string a] a9.f0 a9.f1 a9.f2 a9.f3 a9.f4 a9.f5 a9.f6 v []) 139 (0, 0)) ∧ UpdG g o q w w' := by
 have C0 := Lib.hid (zBM (w0 := w) ⟨hB, hq, UpdG.refl _ _ _ _⟩ hqg (by omega))
 clear hB hq
 go_enter Tryz.func140, Tryz.ntmps140
 go_wp2_with fail
 refine C0.out.mono ?_
 rintro e w1 ⟨rfl, h⟩
 clear C0
 have zw : w.heap.size ≤ w1.heap.size := h.upd.size
 have h9 := h.setRow hqg hqs (zAg [.string a] 0 0 0 0 0 0 0 (.slice none 0 0) [])
 generalize hW : w1.setRow q (zAg [.string a] 0 0 0 0 0 0 0 (.slice none 0 0) []) = W at h9
 have zW : w.heap.size ≤ W.heap.size := by rw [← hW, setRow_size]; exact zw
 have D := Lib.hid (zDJ (pre := [.string a]) (post := []) ha9 h9 hqg hqs)
 have K := Lib.hid h.blk
 have X := Lib.hid hW
 have Z := Lib.hid zW
 clear h h9 hW zw zW
 go_wp2_with (first
  | refine wpList_buildTo rfl 139 _ rfl (some 8) rfl (zAg [.string a] 0 0 0 0 0 0 0 (.slice none 0 0) []) (by as_aux_lemma => kernel_rfl) ?_
  | (refine wpList_store_row rfl 139 _ _ rfl q (zAg [.string a] 0 0 0 0 0 0 0 (.slice none 0 0) []) rfl rfl 139 (zAg [.string ⟨#[]⟩] 0 0 0 0 0 0 0 (.slice none 0 0) []) K.out (zG0 0) rfl (by kernel_rfl) ?_; rw [X.out]))
 refine D.out.mono ?_
 rintro e w9 ⟨v, rfl, hv, h9⟩
 have F := Lib.hid (show zCx w9 w.heap.size v (a9.f7.map zA0) from by
  rcases hv with hv | ⟨x, e1, e2, e3, e4⟩
  ·exact .inl hv
  ·exact .inr ⟨x, e1, by have := Z.out; omega, e3, e4⟩)
 have H9 := Lib.hid h9
 clear hv h9
 go_wp2_with fail
 go_ret
 exact ⟨v, rfl, F.out, H9.out.blk, H9.out.upd⟩
theorem zKG (_x : Int) : (Tryz.prog.info? 147).map (·.size) = some 9 := by kernel_rfl
theorem zKH (q g o s : Nat) (a : ByteArray) (a9 : Ats) (r : List UInt8) (w : World) (hq : w.heap[q]? = some (.cells (zAg [.string ⟨#[]⟩] 0 0 0 0 0 0 0 (.slice none 0 0) []) 147 (0, 0))) (hqg : q ≠ g) (hqs : q ≠ s) (hB : RBuf w g o s (some (str (tl a) ++ ((zB0 a9 ++ r))))) (ha : a.size ≤ 1000000) (ha9 : zEY a9) :
  Calls Tryz.prog 152 #[.pointer (some ⟨q, 0, none⟩), .pointer (some ⟨g, o, none⟩)] w fun e w' => ∃ v, e = .returned .nilIface ∧ zCx w' w.heap.size v (a9.f7.map zA0) ∧ w'.heap[q]? = some (.cells (zAg [.string a] a9.f0 a9.f1 a9.f2 a9.f3 a9.f4 a9.f5 a9.f6 v []) 147 (0, 0)) ∧ UpdG g o q w w' := by
 have C0 := Lib.hid (zBM (w0 := w) ⟨hB, hq, UpdG.refl _ _ _ _⟩ hqg (by omega))
 clear hB hq
 go_enter Tryz.func152, Tryz.ntmps152
 go_wp2_with fail
 refine C0.out.mono ?_
 rintro e w1 ⟨rfl, h⟩
 clear C0
 have zw : w.heap.size ≤ w1.heap.size := h.upd.size
 have h9 := h.setRow hqg hqs (zAg [.string a] 0 0 0 0 0 0 0 (.slice none 0 0) [])
 generalize hW : w1.setRow q (zAg [.string a] 0 0 0 0 0 0 0 (.slice none 0 0) []) = W at h9
 have zW : w.heap.size ≤ W.heap.size := by rw [← hW, setRow_size]; exact zw
 have D := Lib.hid (zDJ (pre := [.string a]) (post := []) ha9 h9 hqg hqs)
 have K := Lib.hid h.blk
 have X := Lib.hid hW
 have Z := Lib.hid zW
 clear h h9 hW zw zW
 go_wp2_with (first
  | refine wpList_buildTo rfl 147 _ rfl (some 8) rfl (zAg [.string a] 0 0 0 0 0 0 0 (.slice none 0 0) []) (by as_aux_lemma => kernel_rfl) ?_
  | (refine wpList_store_row rfl 147 _ _ rfl q (zAg [.string a] 0 0 0 0 0 0 0 (.slice none 0 0) []) rfl rfl 147 (zAg [.string ⟨#[]⟩] 0 0 0 0 0 0 0 (.slice none 0 0) []) K.out (zKG 0) rfl (by kernel_rfl) ?_; rw [X.out]))
 refine D.out.mono ?_
 rintro e w9 ⟨v, rfl, hv, h9⟩
 have F := Lib.hid (show zCx w9 w.heap.size v (a9.f7.map zA0) from by
  rcases hv with hv | ⟨x, e1, e2, e3, e4⟩
  ·exact .inl hv
  ·exact .inr ⟨x, e1, by have := Z.out; omega, e3, e4⟩)
 have H9 := Lib.hid h9
 clear hv h9
 go_wp2_with fail
 go_ret
 exact ⟨v, rfl, F.out, H9.out.blk, H9.out.upd⟩
theorem zKI (q g o s : Nat)  (a9 : Ats) (r : List UInt8) (w : World) (hq : w.heap[q]? = some (.cells (zAg [] 0 0 0 0 0 0 0 (.slice none 0 0) []) 180 (0, 0))) (hqg : q ≠ g) (hqs : q ≠ s) (hB : RBuf w g o s (some (zB0 a9 ++ r)))  (ha9 : zEY a9) :
  Calls Tryz.prog 191 #[.pointer (some ⟨q, 0, none⟩), .pointer (some ⟨g, o, none⟩)] w fun e w' => ∃ v, e = .returned .nilIface ∧ zCx w' w.heap.size v (a9.f7.map zA0) ∧ w'.heap[q]? = some (.cells (zAg [] a9.f0 a9.f1 a9.f2 a9.f3 a9.f4 a9.f5 a9.f6 v []) 180 (0, 0)) ∧ UpdG g o q w w' := by
 have C0 := Lib.hid (zDJ (pre := []) (post := []) (w0 := w) ha9 ⟨hB, hq, UpdG.refl _ _ _ _⟩ hqg hqs)
 clear hB hq
 go_enter Tryz.func191, Tryz.ntmps191
 go_wp2_with fail
 refine C0.out.mono ?_
 rintro e w9 ⟨v, rfl, hv, h9⟩
 have F := Lib.hid hv
 have H9 := Lib.hid h9
 clear hv h9
 go_wp2_with fail
 go_ret
 exact ⟨v, rfl, F.out, H9.out.blk, H9.out.upd⟩
def OwnB (B : Nat) (w : World) (v : Value) (l : List UInt8) : Prop :=
 (v = .slice none 0 0 ∧ l = []) ∨ ∃ h c, v = .slice (some ⟨h, 0, none⟩) l.length c ∧ B ≤ h ∧ h < w.heap.size ∧ Lies w h 0 l ∧ l.length ≤ c
theorem zER (n m : Nat) : (Builtin.zeroCells (Value.int .u8 0).cells n ++ Builtin.zeroCells (Value.int .u8 0).cells m) = (List.replicate (n + m) (u8 0)).toArray := by
 have h : ∀ k, Builtin.zeroCells (Value.int .u8 0).cells k = (List.replicate k (u8 0)).toArray := fun k => by
  apply Array.ext
  ·simp [Builtin.zeroCells, Value.cells]
  ·intro i h1 h2
   simp [Builtin.zeroCells, Value.cells, u8, Nat.mod_one]
 rw [h, h, List.append_toArray, List.replicate_append_replicate]
theorem zG2 {w0 w : World} {g o s q : Nat} {t : TypeId} {r : List UInt8} {cs : Array Value} {b : ByteArray} (h : RSt w0 w g o s q t (some (str (tl b) ++ r)) cs) (hq : q ≠ g) (hb : b.size ≤ 1000000) :
  Calls Tryz.prog 128 #[.pointer (some ⟨g, o, none⟩), .slice none 0 0] w fun e w' => ∃ v, e = .returned v ∧ OwnB w.heap.size w' v (tl b) ∧ RSt w0 w' g o s q t (some r) cs := by
 have C := zDa g o s _ w h.rb
 unfold zMx at C
 rw [zEn _ _ (by rw [zAH]; omega)] at C
 dsimp only at C
 have hl := zAH b
 have C := Lib.hid C
 have H := Lib.hid h
 have HL := Lib.hid hl
 clear h hl
 go_enter Tryz.func128, Tryz.ntmps128
 go_wp2_with fail
 refine C.out.mono ?_
 rintro e w1 ⟨v, rfl, hv, hb1, hu1⟩
 have h1 := H.out.consumed hq hb1 hu1
 have zz : w.heap.size ≤ w1.heap.size := hu1.size
 have H1 := Lib.hid h1
 have ZZ := Lib.hid zz
 clear hb1 hu1 h1 H C zz
 by_cases hz : b.size = 0
 ·have hz0 : (tl b).length = 0 := by rw [HL.out]; exact hz
  have hz1 : tl b = [] := List.eq_nil_of_length_eq_zero hz0
  have F := Lib.hid (show ∃ v, Ending.returned (.slice none 0 0) = .returned v ∧ OwnB w.heap.size w1 v (tl b) ∧ RSt w0 w1 g o s q t (some r) cs from ⟨_, rfl, .inl ⟨rfl, hz1⟩, H1.out⟩)
  clear hz1 hz HL H1 ZZ
  rcases hv with ⟨rfl, _⟩ | ⟨p, c, rfl, _, _, _, _⟩
  ·clear hz0
   go_wp2_with (refine wpList_copy_nothing rfl (.tmp 20) (.tmp 21) 56 56 rfl 5 Tryz.underlying56 zCn none none 0 0 0 0 rfl rfl rfl ?_)
   go_ret
   exact F.out
  ·rw [hz0]
   clear hz0
   go_wp2_with (refine wpList_copy_nothing rfl (.tmp 20) (.tmp 21) 56 56 rfl 5 Tryz.underlying56 zCn none (some ⟨s, p, none⟩) 0 0 0 c rfl rfl rfl ?_)
   go_ret
   exact F.out
 ·rcases hv with ⟨_, h0⟩ | ⟨p, c, rfl, hc, hsg, hs, hL⟩
  ·exact absurd (by rw [← HL.out, h0]; rfl) hz
  ·obtain ⟨i0, hi, hzz⟩ := Option.map_eq_some_iff.1 zBt
   simp only [Prod.mk.injEq] at hzz
   obtain ⟨hz0, hz1, hz2⟩ := hzz
   rw [HL.out]
   have hn0 : 0 < b.size := by omega
   have hra := Lib.run_append_nil_zeros (P := Tryz.prog) w1 56 3 56 5 i0 (.int .u8 0) .i64 .i64 Tryz.underlying56 Tryz.underlying3 hi hz0 b.size hn0 (by omega) (by omega) (by rw [hz2]; omega)
   rw [zER] at hra
   have hcap : b.size ≤ grownCap w1 b.size 0 5 := grownCap_ge _ _ _ _
   rw [show b.size + (grownCap w1 b.size 0 5 - b.size) = grownCap w1 b.size 0 5 from by omega] at hra
   generalize hG : grownCap w1 b.size 0 5 = G at hra hcap
   obtain ⟨W2, hW2⟩ : ∃ W, w1.drew.alloc (.cells (List.replicate G (u8 0)).toArray 5) = W := ⟨_, rfl⟩
   rw [hW2] at hra
   have k2 : W2.heap[w1.heap.size]? = some (.cells (List.replicate G (u8 0)).toArray 5 (0, 0)) := by rw [← hW2]; exact heap_alloc_new _ _
   have b2 : Below w1.heap.size w1 W2 := by rw [← hW2]; exact (zAp (Below.refl w1.heap.size w1)).alloc (Nat.le_refl _) _
   have L2 : Lies W2 s p (tl b) := hL.kept (b2.block s hs)
   have hsrc : ∀ j v, (u8s (tl b))[j]? = some v → W2.cell? (Addr.add ⟨s, p, none⟩ j) = some v := fun j v hj => by
    simp only [u8s, List.getElem?_map, Option.map_eq_some_iff] at hj
    obtain ⟨x, hx, rfl⟩ := hj
    rw [add_plain]
    exact L2 j x hx
   have hone : ∀ v ∈ u8s (tl b), v.oneCell' = true := by
    intro v hv
    simp only [u8s, List.mem_map] at hv
    obtain ⟨x, _, rfl⟩ := hv
    rfl
   have hcs : (u8s (tl b)).length = b.size := by rw [zBC, HL.out]
   have c1 : (b.size : Int) ≤ (G : Int) := by omega
   have c2 : (0 : Int) < (b.size : Int) := by omega
   have K2 := Lib.hid k2
   have B2 := Lib.hid b2
   have HS := Lib.hid hsrc
   have HO := Lib.hid hone
   have HC := Lib.hid hcs
   have RA := Lib.hid hra
   have CP := Lib.hid hcap
   clear hW2 k2 b2 L2 hsrc hone hcs hL hz0 hz1 hz2 hi hn0 hG hra hcap hz
   go_wp2_with (first
    | refine Lib.wpList_append_run w1 rfl (.tmp 17) (.tmp 18) 56 3 rfl _ _ rfl rfl _ _ RA.out ?_
    | (refine wpList_copy_splice rfl (.tmp 20) (.tmp 21) 56 56 rfl 5 Tryz.underlying56 zCn (some ⟨w1.heap.size, 0, none⟩) (some ⟨s, p, none⟩) b.size G b.size c rfl rfl w1.heap.size 0 (List.replicate G (u8 0)) 5 K2.out (u8s (tl b)) (by rw [HC.out]; simp) (fun _ => ⟨rfl, _, rfl, HS.out⟩) (by rw [HC.out, List.length_replicate]; have := CP.out; omega) HO.out w1.heap.size w1 B2.out (Nat.le_refl _) ?_; intro w3 hw3 hb3; rw [HC.out]))
   go_ret
   have h3 : RSt w0 w3 g o s q t (some r) cs := by
    have hR := H1.out
    have hlt := hR.rb.lt
    exact ⟨hR.rb.kept (hb3.block _ hlt.1) (hb3.block _ hlt.2) hb3.size, (hb3.block _ (zAC hR.blk)).trans hR.blk, hR.upd.keep ⟨hb3.os, hb3.tape, hb3.output, hb3.size, fun k hk _ => hb3.block k hk⟩ (hb3.block _ hlt.1)⟩
   refine ⟨_, rfl, .inr ⟨w1.heap.size, G, by rw [HL.out]; rfl, ZZ.out, zAC hw3.out, fun j x hj => ?_, by rw [HL.out]; exact CP.out⟩, h3⟩
   have hjl : j < (u8s (tl b)).length := by rw [zBC]; exact (List.getElem?_eq_some_iff.1 hj).1
   rw [Nat.zero_add, zAA hw3.out, List.getElem?_toArray]
   unfold splice
   rw [List.take_zero, List.nil_append, List.getElem?_append_left hjl, u8s, List.getElem?_map, hj]
   rfl
end Go.Proofs.YtgnficcjnijdbaaGreat
