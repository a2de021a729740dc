/-
  laws.FnAttrsTell answers true.
-/
import Derived.Test.YtmenkckgpiafiaaGreatTB
import Derived.Test.YtmenkckgpiafiaaGreatTF
import Derived.Test.YtmenkckgpiafiaaGreatV
namespace Go.Proofs.YtmenkckgpiafiaaGreat
open Go.RowKit Go.Great Go.Proofs.YtmenkckgpiafiaaGreatW.PrintWords Go.Proofs.YtmenkckgpiafiaaGreatW.PrintLast Go.Proofs.YtmenkckgpiafiaaGreatW.PrintMore Go.Proofs.YtmenkckgpiafiaaGreat.KK

/-- The world behind a boxed argument of attributes. -/
theorem box8 (w : World) (cs : Array Value) : Below w.heap.size w (w.alloc (.cells cs 26)) ∧ (w.alloc (.cells cs 26)).heap[w.heap.size]? = some (.cells cs 26 (0, 0)) :=
  ⟨(Below.refl _ _).alloc (Nat.le_refl _) _, heap_alloc_new _ _⟩

set_option maxRecDepth 5000 in
set_option maxHeartbeats 1600000 in
theorem tellLaw (a b c d e f g : Int) (A : Option Addr) (cap : Nat) (l : List S89) (w : World) (hr : Kd.C k89 w A l.length l) (hc : l.length ≤ cap) :
    Calls Tryz.prog 13 #[.agg (at8 a b c d e f g (.slice A l.length cap))] w fun r w' => r = .returned (.bool true) ∧ Below w.heap.size w w' := by
  obtain ⟨hb0, k0⟩ := box8 w (at8 a b c d e f g (.slice A l.length cap))
  generalize hW0 : w.alloc (.cells (at8 a b c d e f g (.slice A l.length cap)) 26) = W0 at *
  obtain ⟨fit, hfit, C⟩ := fits5C a b c d e f g A cap l W0 (Kd.C_below hr hb0) hc
  have C := Lib.hid C
  have X0 := Lib.hid hW0
  have B0 := Lib.hid hb0
  have K0 := Lib.hid k0
  have R0 := Lib.hid (Kd.C_below hr hb0)
  clear hW0 hb0 k0 hr
  go_enter Tryz.func13, Tryz.ntmps13
  go_wp2_with (first
    | (refine wpList_boxTo rfl 26 _ rfl (some 1) rfl w.heap.size rfl (at8 a b c d e f g (.slice A l.length cap)) rfl ?_; rw [X0.out])
    | refine wpList_load_row rfl 26 _ rfl w.heap.size rfl 26 (at8 a b c d e f g (.slice A l.length cap)) (0, 0) _ K0.out Tryz.underlying26 rfl (ainfo8 _ _ _ _ _ _ _ _) ?_)
  refine C.out.mono ?_
  rintro r w1 ⟨rfl, hb1⟩
  have z0 := lt_of_blk K0.out
  have k1 := (hb1.block _ z0).trans K0.out
  have hB1 : Below w.heap.size w w1 := B0.out.trans (hb1.mono B0.out.size)
  have c7 : w1.cell? ⟨w.heap.size, 7, none⟩ = some (.slice A l.length cap) := by rw [cell_of_blk k1]; rfl
  have r1 := Kd.C_below R0.out hb1
  have B1 := Lib.hid hB1
  have K1 := Lib.hid k1
  have R1 := Lib.hid r1
  clear hb1 hB1 k1 r1 C X0 B0 K0 R0
  cases fit with
  | false =>
    go_wp2_with fail
    go_ret
    exact ⟨rfl, B1.out⟩
  | true =>
    have hl := hfit rfl
    clear hfit
    by_cases h0 : 0 < l.length
    · have d0 : decide ((l.length : Int) > 0) = true := by simp; omega
      have d1 : (0 : Int) < (l.length : Int) := by omega
      go_wp2_with fail
      go_ret
      exact ⟨rfl, B1.out⟩
    · obtain rfl : l = [] := List.eq_nil_of_length_eq_zero (by omega)
      have C2 := Lib.hid (attrsTell a b c d e f g A 0 cap [] w1 rfl (by simp) R1.out (by simp))
      clear hl h0
      go_wp2_with (refine wpList_load_row rfl 26 _ rfl w.heap.size rfl 26 (at8 a b c d e f g (.slice A 0 cap)) (0, 0) _ K1.out Tryz.underlying26 rfl (ainfo8 _ _ _ _ _ _ _ _) ?_)
      refine C2.out.mono ?_
      rintro r w2 ⟨rfl, hb2⟩
      have k2 := (hb2.block _ (lt_of_blk K1.out)).trans K1.out
      have c0 : w2.cell? ⟨w.heap.size, 0, none⟩ = some (.int .u32 a) := by rw [cell_of_blk k2]; rfl
      have c1 : w2.cell? ⟨w.heap.size, 1, none⟩ = some (.int .u64 b) := by rw [cell_of_blk k2]; rfl
      have c2 : w2.cell? ⟨w.heap.size, 2, none⟩ = some (.int .u32 c) := by rw [cell_of_blk k2]; rfl
      have c3 : w2.cell? ⟨w.heap.size, 3, none⟩ = some (.int .u32 d) := by rw [cell_of_blk k2]; rfl
      have c4 : w2.cell? ⟨w.heap.size, 4, none⟩ = some (.int .u32 e) := by rw [cell_of_blk k2]; rfl
      have c5 : w2.cell? ⟨w.heap.size, 5, none⟩ = some (.int .u32 f) := by rw [cell_of_blk k2]; rfl
      have c6 : w2.cell? ⟨w.heap.size, 6, none⟩ = some (.int .u32 g) := by rw [cell_of_blk k2]; rfl
      have B2 := Lib.hid (B1.out.trans (hb2.mono B1.out.size))
      unfold tellsV flg
      generalize h1 : (bits .and .u32 a 1 != 0) = f1
      generalize h2 : (bits .and .u32 a 2 != 0) = f2
      generalize h3 : (bits .and .u32 a 4 != 0) = f3
      generalize h4 : (bits .and .u32 a 8 != 0) = f4
      clear hb2 k2 c7 C2 B1 R1 K1
      cases f1 <;> cases f2 <;> cases f3 <;> cases f4
      all_goals
        go_wp2_with (go_at_call 23; refine (awake _).mono ?_; rintro e w' ⟨rfl, hb⟩)
        go_ret
        exact ⟨rfl, B2.out.trans (hb.mono B2.out.size)⟩
theorem tellLawK (cs : Array Value) (y : S26) (W : World) (hK : k26.K W y cs.toList) :
    Calls Tryz.prog 13 #[.agg cs] W fun r w' => r = .returned (.bool true) ∧ Below W.heap.size W w' := by
  obtain ⟨A, c, he, hl, hC⟩ := k26_open hK
  obtain rfl : cs = at8 y.f0 y.f1 y.f2 y.f3 y.f4 y.f5 y.f6 (.slice A y.f7.length c) := by
    cases cs
    simpa [at8] using he
  exact tellLaw _ _ _ _ _ _ _ A c y.f7 W hC hl
end Go.Proofs.YtmenkckgpiafiaaGreat
