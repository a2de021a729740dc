/-
  Contracts of the buffer's Consume functions for texts; its unconsumed bytes.
-/
import Derived.Test.YtmenkckgpiafiaaGreatE
import Derived.Laws.BytesArg
namespace Go.Proofs.YtmenkckgpiafiaaGreat
open Go.RowKit

theorem c32_range (r : Option (List UInt8)) : 0 ≤ (c32 r).1 ∧ (c32 r).1 ≤ 4294967295 := by
  cases r with
  | none => simp [c32]
  | some l =>
    simp only [c32]
    split
    · exact rd32_range l
    · simp
/-- A text behind its length. -/
def cB (r : Option (List UInt8)) : List UInt8 × Option (List UInt8) :=
  match c32 r with
  | (x, some l) => if x ≤ (l.length : Int) then (l.take x.toNat, some (l.drop x.toNat)) else ([], none)
  | (_, none) => ([], none)
theorem strOfNums_bs (l : List UInt8) : strOfNums (l.map fun b => (b.toNat : Int)) = bs l := by
  unfold strOfNums bs
  congr 1
  apply Array.ext'
  simp only [List.map_map]
  exact List.map_id'' (fun b => by simp) l
theorem conv_str (w : World) (s p c : Nat) (l : List UInt8) (hL : Lies w s p l) (src dst e : TypeId) (hs : Tryz.prog.underlying src = some (.slice e)) (he : Tryz.prog.underlying e = some (.int .u8)) (hd : Tryz.prog.underlying dst = some .string) :
    (convert src dst (.slice (some ⟨s, p, none⟩) l.length c)).run Tryz.prog w = .ok (.string (bs l)) w := by
  rw [← strOfNums_bs]
  refine run_convert_bytes_arg w src e hs he s p l.length c _ (by simp) (fun i hi => ?_) dst hd
  rw [hL.at_ i hi]
  simp [List.getD_eq_getElem?_getD, List.getElem?_eq_getElem hi]
/-- A slice of bytes that is read: nil, or bytes that lie outside block g. -/
def Bytes (w : World) (g s : Nat) (v : Value) (l : List UInt8) : Prop :=
  (v = .slice none 0 0 ∧ l = []) ∨ ∃ p c, v = .slice (some ⟨s, p, none⟩) l.length c ∧ l.length ≤ c ∧ s ≠ g ∧ s < w.heap.size ∧ Lies w s p l

def GotB (g o s : Nat) (r : Option (List UInt8)) (w : World) (e : Ending) (w' : World) : Prop :=
  ∃ v, e = .returned v ∧ Bytes w' g s v (cB r).1 ∧ RBuf w' g o s (cB r).2 ∧ UpdR g o w w'

set_option maxHeartbeats 1600000 in
theorem consumeBytes (g o s : Nat) (r : Option (List UInt8)) (w : World) (hb : RBuf w g o s r) :
    Calls Tryz.prog 150 #[.pointer (some ⟨g, o, none⟩)] w (GotB g o s r w) := by
  have hC := consume32 g o s r w hb
  have hx := c32_range r
  have hD : cB r = match c32 r with
    | (x, some l) => if x ≤ (l.length : Int) then (l.take x.toNat, some (l.drop x.toNat)) else ([], none)
    | (_, none) => ([], none) := rfl
  unfold GotB
  rw [hD]
  clear hD hb
  generalize c32 r = q at hC hx ⊢
  obtain ⟨x, r1⟩ := q
  dsimp only at hC
  have HC := Lib.hid hC
  clear hC
  dsimp only at hx
  cases r1 with
  | none =>
    go_enter Tryz.func150, Tryz.ntmps150
    go_wp2_with fail
    refine HC.out.mono ?_
    rintro e w1 ⟨rfl, hb1, hu1⟩
    obtain ⟨p, n, c, off, h0, h1, hsg, hon, hnc, hn, t, v, h2⟩ := hb1.ex
    have HB := Lib.hid hb1
    have HU := Lib.hid hu1
    clear hb1 hu1
    go_wp2_with fail
    go_ret
    exact ⟨_, rfl, .inl ⟨rfl, rfl⟩, HB.out, HU.out⟩
  | some l =>
    by_cases hlen : x ≤ (l.length : Int)
    · simp only [hlen, if_true]
      obtain ⟨x0, x1⟩ := hx
      obtain ⟨m, rfl⟩ := Int.eq_ofNat_of_zero_le x0
      rw [Int.toNat_natCast]
      go_enter Tryz.func150, Tryz.ntmps150
      go_wp2_with fail
      refine HC.out.mono ?_
      rintro e w1 ⟨rfl, hb1, hu1⟩
      obtain ⟨p, n, c, off, h0, h1, hsg, hon, hnc, hn, h2, hl, hL⟩ := hb1.ex
      have l1 : ¬ ((n : Int) - (off : Int) < (m : Int)) := by omega
      have l3 : (off : Int) ≤ (n : Int) := by omega
      have l4 : off + m ≤ n := by omega
      have f1 := hb1.frz (o + 1)
      have f2 := hb1.frz (o + 2)
      have HB := Lib.hid hb1
      have HU := Lib.hid hu1
      have HL := Lib.hid hl
      clear hb1 hu1 hl
      go_wp2_with fail
      refine (lenB g o s p n c off _ h0 h1 hon hn).mono ?_
      rintro e W ⟨rfl, k, hW⟩
      have hu : UpdR g o w W := by rw [hW]; exact HU.out.drewN k
      replace hsg : s ≠ g ∧ s < W.heap.size := by rw [hW]; exact hsg
      replace h0 : W.cell? ⟨g, o, none⟩ = some (.slice (some ⟨s, p, none⟩) n c) := by rw [hW]; exact h0
      replace h1 : W.cell? ⟨g, o + 1, none⟩ = some (.int .i64 ((off : Nat) : Int)) := by rw [hW]; exact h1
      replace h2 : W.cell? ⟨g, o + 2, none⟩ = some .nilIface := by rw [hW]; exact h2
      replace f1 : W.frozen? ⟨g, o + 1, none⟩ = false := by rw [hW]; exact f1
      replace f2 : W.frozen? ⟨g, o + 2, none⟩ = false := by rw [hW]; exact f2
      have hfr : ∀ i, W.frozen? ⟨g, i, none⟩ = false := by rw [hW]; exact HB.out.frz
      have hLW : Lies W s (p + off) l := by rw [hW]; exact hL
      have HUW := Lib.hid hu
      have HF := Lib.hid hfr
      have HLW := Lib.hid hLW
      clear hW hu hfr hLW hL
      go_wp2_with fail
      by_cases hcap : c = off
      · obtain rfl : m = 0 := by have := HL.out; omega
        obtain rfl : n = off := by omega
        subst hcap
        go_quiet (fail)
        go_wp2_with fail
        go_ret
        have hm := RBuf.adv (w := W.drewN nq) (k := 0) h0 h1 h2 hsg HL.out hnc hn HLW.out HF.out (by omega) (v := .int .i64 ((c : Int))) rfl
        refine ⟨_, rfl, .inr ⟨p, 0, ?_, by simp, hsg.1, by simpa [World.setCell] using hsg.2, ?_⟩, hm.1, HUW.out.trans ((UpdR.refl _ _ _).drewN nq |>.trans hm.2)⟩
        · simp
        · intro j b hj
          simp at hj
      · go_quiet (fail)
        go_wp2_with fail
        all_goals
          go_ret
          have hm := RBuf.adv (w := W.drewN nq) (k := m) h0 h1 h2 hsg HL.out hnc hn HLW.out HF.out (by omega) (v := .int .i64 ((off : Int) + (m : Int))) (by rw [Int.natCast_add])
          have fin : ∀ C, m ≤ C → ∃ v, Ending.returned (Value.slice (some ⟨s, p + off, none⟩) m C) = .returned v ∧ Bytes ((W.drewN nq).setCell ⟨g, o + 1, none⟩ (.int .i64 ((off : Int) + (m : Int)))) g s v (l.take m) ∧ RBuf ((W.drewN nq).setCell ⟨g, o + 1, none⟩ (.int .i64 ((off : Int) + (m : Int)))) g o s (some (l.drop m)) ∧ UpdR g o w ((W.drewN nq).setCell ⟨g, o + 1, none⟩ (.int .i64 ((off : Int) + (m : Int)))) := fun C hC =>
            have e : (l.take m).length = m := by simp; omega
            ⟨_, rfl, .inr ⟨p + off, C, by rw [e], by rw [e]; exact hC, hsg.1, by simpa [World.setCell] using hsg.2, (HLW.out.take m).kept (Below.heap_setCell _ _ _ _ hsg.1)⟩, hm.1, HUW.out.trans ((UpdR.refl _ _ _).drewN nq |>.trans hm.2)⟩
          first
            | exact fin m (Nat.le_refl _)
            | (have e : n - off = m := by omega
               obtain ⟨v, hv, rest⟩ := fin (c - off) (by omega)
               exact ⟨v, by rw [← hv]; exact congrArg (fun z => Ending.returned (Value.slice (some ⟨s, p + off, none⟩) z (c - off))) e, rest⟩)
    · simp only [hlen, if_false]
      go_enter Tryz.func150, Tryz.ntmps150
      go_wp2_with fail
      refine HC.out.mono ?_
      rintro e w1 ⟨rfl, hb1, hu1⟩
      obtain ⟨p, n, c, off, h0, h1, hsg, hon, hnc, hn, h2, hl, hL⟩ := hb1.ex
      have l1 : (n : Int) - (off : Int) < x := by omega
      have f1 := hb1.frz (o + 1)
      have f2 := hb1.frz (o + 2)
      have HB := Lib.hid hb1
      have HU := Lib.hid hu1
      clear hb1 hu1 hl hL
      go_wp2_with fail
      refine (lenB g o s p n c off _ h0 h1 hon hn).mono ?_
      rintro e W ⟨rfl, k, hW⟩
      have hu : UpdR g o w W := by rw [hW]; exact HU.out.drewN k
      replace hsg : s ≠ g ∧ s < W.heap.size := by rw [hW]; exact hsg
      replace h0 : W.cell? ⟨g, o, none⟩ = some (.slice (some ⟨s, p, none⟩) n c) := by rw [hW]; exact h0
      replace h1 : W.cell? ⟨g, o + 1, none⟩ = some (.int .i64 ((off : Nat) : Int)) := by rw [hW]; exact h1
      replace h2 : W.cell? ⟨g, o + 2, none⟩ = some .nilIface := by rw [hW]; exact h2
      replace f1 : W.frozen? ⟨g, o + 1, none⟩ = false := by rw [hW]; exact f1
      replace f2 : W.frozen? ⟨g, o + 2, none⟩ = false := by rw [hW]; exact f2
      have hfr : ∀ i, W.frozen? ⟨g, i, none⟩ = false := by rw [hW]; exact HB.out.frz
      have HUW := Lib.hid hu
      have HF := Lib.hid hfr
      clear hW hu hfr
      go_wp2_with fail
      refine (errShort _).mono ?_
      rintro e w2 ⟨t, v, rfl, hb2⟩
      have hm := RBuf.fail (w := W) (w1 := w2) (t := t) (v := v) h0 h1 h2 hsg hnc hn HF.out hb2
      have hgl : g < W.heap.size := World.block_lt_of_cell? W _ h0
      have q2 : w2.cell? ⟨g, o + 2, none⟩ = some .nilIface := by
        rw [hb2.cell (by simpa [World.setCell] using hgl), sc_other (ne_off (by omega))]; exact h2
      have fq : w2.frozen? ⟨g, o + 2, none⟩ = false := by
        rw [hb2.frozen (by simpa [World.setCell] using hgl), sc_frz]; exact f2
      have HM := Lib.hid hm
      clear hm hb2
      go_wp2_with fail
      go_ret
      exact ⟨_, rfl, .inl ⟨rfl, rfl⟩, HM.out.1, HUW.out.trans HM.out.2⟩

set_option maxHeartbeats 800000 in
theorem consumeString (g o s : Nat) (r : Option (List UInt8)) (w : World) (hb : RBuf w g o s r) :
    Calls Tryz.prog 136 #[.pointer (some ⟨g, o, none⟩)] w fun e w' => e = .returned (.string (bs (cB r).1)) ∧ RBuf w' g o s (cB r).2 ∧ UpdR g o w w' := by
  go_enter Tryz.func136, Tryz.ntmps136
  go_wp2_with fail
  refine (consumeBytes g o s r _ hb).mono ?_
  rintro e w1 ⟨v, rfl, hv, hb1, hu1⟩
  have HB := Lib.hid hb1
  have HU := Lib.hid hu1
  clear hb1 hu1
  rcases hv with ⟨rfl, hl⟩ | ⟨p, c, rfl, hlc, hsg, hss, hL⟩
  · have kc := fun W => run_convert_bytes_nil (P := Tryz.prog) W 93 5 Tryz.underlying93 Tryz.underlying5 0 0 9 Tryz.underlying9
    have HL := Lib.hid hl
    clear hl
    go_wp2_with fail
    go_ret
    exact ⟨by rw [HL.out]; rfl, HB.out, HU.out⟩
  · have kc := conv_str w1 s p c _ hL 93 9 5 Tryz.underlying93 Tryz.underlying5 Tryz.underlying9
    clear hL hss hlc
    go_wp2_with fail
    go_ret
    exact ⟨rfl, HB.out, HU.out⟩

set_option maxHeartbeats 800000 in
/-- The bytes that are left. -/
theorem bytesB (g o s : Nat) (l : List UInt8) (w : World) (hb : RBuf w g o s (some l)) :
    Calls Tryz.prog 106 #[.pointer (some ⟨g, o, none⟩)] w fun e w' => ∃ p c, e = .returned (.slice (some ⟨s, p, none⟩) l.length c) ∧ l.length ≤ c ∧ s ≠ g ∧ s < w'.heap.size ∧ Lies w' s p l ∧ ∃ k, w' = w.drewN k := by
  obtain ⟨p, n, c, off, h0, h1, hsg, hon, hnc, hn, h2, hl, hL⟩ := hb.ex
  have HL := Lib.hid hL
  have HE := Lib.hid hl
  have l3 : (off : Int) ≤ (n : Int) := by omega
  clear hb hL hl
  by_cases hcap : c = off
  · obtain rfl : n = off := by omega
    subst hcap
    have hl0 : l = [] := List.eq_nil_of_length_eq_zero (by have := HE.out; omega)
    subst hl0
    go_enter Tryz.func106, Tryz.ntmps106
    go_wp2_with fail
    go_quiet (fail)
    go_wp2_with fail
    go_ret
    exact ⟨p, 0, by simp, by simp, hsg.1, hsg.2, fun j b hj => by simp at hj, _, rfl⟩
  · go_enter Tryz.func106, Tryz.ntmps106
    go_wp2_with fail
    go_quiet (fail)
    go_wp2_with fail
    go_ret
    have e : n - off = l.length := by have := HE.out; omega
    exact ⟨p + off, c - off, congrArg (fun z => Ending.returned (Value.slice (some ⟨s, p + off, none⟩) z (c - off))) e, by omega, hsg.1, hsg.2, HL.out, _, rfl⟩

/-- The error that a buffer has. -/
def errOf (r : Option (List UInt8)) (v : Value) : Prop := match r with | some _ => v = .nilIface | none => ∃ t u, v = .iface t u
theorem RBuf.err {w : World} {g o s : Nat} {r : Option (List UInt8)} (h : RBuf w g o s r) : ∃ v, w.cell? ⟨g, o + 2, none⟩ = some v ∧ errOf r v := by
  obtain ⟨p, n, c, off, h0, h1, hsg, hon, hnc, hn, hr⟩ := h.ex
  cases r with
  | some l => exact ⟨_, hr.1, rfl⟩
  | none =>
    obtain ⟨t, u, h2⟩ := hr
    exact ⟨_, h2, t, u, rfl⟩
end Go.Proofs.YtmenkckgpiafiaaGreat
