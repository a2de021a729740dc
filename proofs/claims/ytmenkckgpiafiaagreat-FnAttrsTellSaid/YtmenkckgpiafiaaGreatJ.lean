/-
  Contracts of the reader of one packet's bytes.
-/
import Derived.Test.YtmenkckgpiafiaaGreatI
namespace Go.Proofs.YtmenkckgpiafiaaGreat
open Go.RowKit

set_option maxHeartbeats 400000 in
theorem unm32 (s p n c : Nat) (l : List UInt8) (w : World) (hn : 4 ≤ n) (hn2 : n ≤ 1000000000) (hnc : n ≤ c) (hl : 4 ≤ l.length) (h : Lies w s p l) :
    Calls Tryz.prog 142 #[.slice (some ⟨s, p, none⟩) n c] w fun e w' => e = .returned (.int .u32 (rd32 l)) ∧ ∃ k, w' = w.drewN k := by
  have l1 : (4 : Int) ≤ (c : Int) := by omega
  go_enter Tryz.func142, Tryz.ntmps142
  go_wp2_with fail
  refine (sysU32L s p 4 c l w (by omega) (by omega) hl h).mono ?_
  rintro e W ⟨rfl, k, hW⟩
  go_wp2_with fail
  go_ret
  exact ⟨rfl, k, rfl⟩

/-- What readPacket answers: none, an error. -/
def gotP (M : Int) (L : List UInt8) : Option (List UInt8) :=
  if L.length < 4 then none else if rd32 L < 5 then none else if M < rd32 L then none else if (L.length : Int) - 4 < rd32 L then none else some ((L.drop 4).take (rd32 L).toNat)
def RP (w : World) (rr : Nat) (r : Option (List UInt8)) (e : Ending) (w' : World) : Prop :=
  UpdB (fun k => k = rr) w w' ∧ match r with
  | none => ∃ v t x, e = .returned (.tuple #[v, .iface t x])
  | some l => ∃ h c, e = .returned (.tuple #[.slice (some ⟨h, 0, none⟩) l.length c, .nilIface]) ∧ l.length ≤ c ∧ w.heap.size ≤ h ∧ h < w'.heap.size ∧ Lies w' h 0 l

theorem Rd.kept {w w' : World} {rr s : Nat} {L : List UInt8} (h : Rd w rr s L) (h1 : w'.heap[rr]? = w.heap[rr]?) (h2 : w'.heap[s]? = w.heap[s]?) (hz : w.heap.size ≤ w'.heap.size) : Rd w' rr s L := by
  obtain ⟨p, c, hb, hc, hl, hs⟩ := h
  exact ⟨p, c, by rw [h1]; exact hb, hc, hl.kept h2, by omega⟩

theorem made64 (W : World) (m : Nat) : (W.alloc (.cells (madeCells #[.int .u8 0] m) 5)).heap[W.heap.size]? = some (.cells (List.replicate m (u8 0)).toArray 5 (0, 0)) := by
  rw [heap_alloc_new]
  have hl : (madeCells #[Value.int .u8 0] m) = (List.replicate m (u8 0)).toArray := by
    apply Array.ext
    · simp [madeCells]
    · intro i h1 h2
      simp [u8, madeCells, Nat.mod_one]
  rw [hl]

theorem UpdB.trans' {w w1 w2 : World} {rr h : Nat} (h1 : UpdB (fun k => k = rr) w w1) (h2 : UpdB (fun k => k = rr ∨ k = h) w1 w2) (hh : w.heap.size ≤ h) : UpdB (fun k => k = rr) w w2 :=
  ⟨h2.os.trans h1.os, h2.tape.trans h1.tape, h2.output.trans h1.output, Nat.le_trans h1.size h2.size, fun k hk e => (h2.block k (by have := h1.size; omega) (by omega)).trans (h1.block k hk e)⟩
theorem rd32_take (l : List UInt8) : rd32 (l.take 4) = rd32 l := by
  unfold rd32 gi
  have h : ∀ i, i < 4 → (l.take 4).getD i 0 = l.getD i 0 := fun i hi => by simp only [List.getD_eq_getElem?_getD, List.getElem?_take, hi, if_true]
  rw [h 0 (by omega), h 1 (by omega), h 2 (by omega), h 3 (by omega)]
theorem RP.none {w w' : World} {rr : Nat} {M : Int} {L : List UInt8} {v x : Value} {t : TypeId} (hu : UpdB (fun k => k = rr) w w') (hg : gotP M L = none) : RP w rr (gotP M L) (.returned (.tuple #[v, .iface t x])) w' := by
  rw [hg]
  exact ⟨hu, v, t, x, rfl⟩

set_option maxRecDepth 5000 in
set_option maxHeartbeats 1600000 in
theorem readPacket (rr s : Nat) (L : List UInt8) (M : Int) (w : World) (hr : Rd w rr s L) (hL : L.length ≤ 1000000000) (hM0 : 0 ≤ M) (hM : M ≤ 1000000000) (hrs : rr ≠ s) :
    Calls Tryz.prog 117 #[.pointer (some ⟨rr, 0, none⟩), .slice none 0 0, .int .u32 M] w (RP w rr (gotP M L)) := by
  have hrl : rr < w.heap.size := by obtain ⟨p, c, hb, _⟩ := hr; exact lt_of_blk hb
  have hsl : s < w.heap.size := by obtain ⟨p, c, hb, _, _, h⟩ := hr; exact h
  have hmk : (Instr.makeSlice 93 (.int .i64 64) (.int .i64 64)).run Tryz.prog w = .ok (.slice (some ⟨w.heap.size, 0, none⟩) 64 64) (w.alloc (.cells (madeCells #[.int .u8 0] 64) 5)) := make8 64 (by omega) w
  have hblk := made64 w 64
  have hsz : (w.alloc (.cells (madeCells #[.int .u8 0] 64) 5)).heap.size = w.heap.size + 1 := by simp
  have hbl : Below w.heap.size w (w.alloc (.cells (madeCells #[.int .u8 0] 64) 5)) := (Below.refl _ _).alloc (Nat.le_refl _) _
  generalize w.alloc (.cells (madeCells #[.int .u8 0] 64) 5) = W0 at hmk hblk hsz hbl
  have hr0 : Rd W0 rr s L := hr.kept (hbl.block _ hrl) (hbl.block _ hsl) (by omega)
  generalize hh : w.heap.size = h at *
  have hrh : rr ≠ h := by omega
  have hsh : s ≠ h := by omega
  have HR0 := Lib.hid hr0
  have HB := Lib.hid hblk
  have HBL := Lib.hid hbl
  have HSZ := Lib.hid hsz
  have HH := Lib.hid hh
  clear hr0 hblk hr hbl hsz hh
  go_enter Tryz.func117, Tryz.ntmps117
  go_wp2_with fail
  by_cases hl4 : 4 ≤ L.length
  · refine (readFull_ok rr s h 4 64 L (List.replicate 64 (u8 0)) W0 HR0.out hl4 (by omega) hL (by omega) HB.out (by simp) hrh hsh hrs).mono ?_
    rintro e w1 ⟨rfl, hb1, hr1, hu1, hz1⟩
    have l1 : Lies w1 h 0 (L.take 4) := by
      intro j b hj
      rw [cell_of_blk hb1]
      rw [Nat.zero_add, List.getElem?_toArray, List.getElem?_append_left (by rw [u8s_length]; exact (List.getElem?_eq_some_iff.1 hj).1)]
      unfold u8s; rw [List.getElem?_map, hj]; rfl
    have R1 := Lib.hid hr1
    have U1 := Lib.hid hu1
    have B1 := Lib.hid hb1
    have L1 := Lib.hid l1
    clear hr1 hu1 hb1 l1
    go_wp2_with fail
    refine (unm32 h 0 64 64 (L.take 4) w1 (by omega) (by omega) (by omega) (by simp; omega) L1.out).mono ?_
    rintro e w2 ⟨rfl, k2, hw2⟩
    rw [rd32_take]
    have hh := HH.out
    have hR2 : Rd w2 rr s (L.drop 4) := by rw [hw2]; exact R1.out.kept rfl rfl (Nat.le_refl _)
    have hB2 : w2.heap[h]? = some (.cells (u8s (L.take 4) ++ (List.replicate 64 (u8 0)).drop 4).toArray 5 (0, 0)) := by rw [hw2]; exact B1.out
    have hU2 : UpdB (fun k => k = rr) w w2 := by
      rw [hw2]
      refine ⟨?_, ?_, ?_, ?_, fun k hk e => ?_⟩
      · rw [show (w1.drewN k2).os = w1.os from rfl, U1.out.os, HBL.out.os]
      · rw [show (w1.drewN k2).tape = w1.tape from rfl, U1.out.tape, HBL.out.tape]
      · rw [show (w1.drewN k2).output = w1.output from rfl, U1.out.output, HBL.out.output]
      · rw [show (w1.drewN k2).heap.size = w1.heap.size from rfl, hz1, HSZ.out]; omega
      · rw [show (w1.drewN k2).heap[k]? = w1.heap[k]? from rfl, U1.out.block k (by rw [HSZ.out]; omega) (by omega), HBL.out.block k (by omega)]
    have hS2 : w2.heap.size = h + 1 := by rw [hw2]; show w1.heap.size = _; rw [hz1, HSZ.out]
    clear hw2 hz1 R1 B1 L1 U1 HBL HSZ HB HR0
    have x0 := (rd32_range L).1
    have x1 := (rd32_range L).2
    have R2 := Lib.hid hR2
    have U2 := Lib.hid hU2
    have B2 := Lib.hid hB2
    have S2 := Lib.hid hS2
    clear hR2 hU2 hB2 hS2 hh
    by_cases h5 : rd32 L < 5
    · have G := Lib.hid (show gotP M L = none by simp [gotP, h5])
      have h5' := Lib.hid h5
      generalize rd32 L = x at *
      have hx0 : ¬ x < 0 := by omega
      go_wp2_with (first
        | (go_at_call 144; refine (errShort _).mono ?_; rintro e W ⟨t, v, rfl, hW⟩)
        | (go_at_call 143; refine (errLong _).mono ?_; rintro e W ⟨t, v, rfl, hW⟩))
      go_ret2
      exact RP.none (U2.out.trans ⟨hW.os, hW.tape, hW.output, hW.size, fun k hk _ => hW.block k hk⟩) G.out
    · by_cases hMx : M < rd32 L
      · have G := Lib.hid (show gotP M L = none by simp [gotP, hMx])
        generalize rd32 L = x at *
        go_wp2_with (first
          | (go_at_call 144; refine (errShort _).mono ?_; rintro e W ⟨t, v, rfl, hW⟩)
          | (go_at_call 143; refine (errLong _).mono ?_; rintro e W ⟨t, v, rfl, hW⟩))
        go_ret2
        exact RP.none (U2.out.trans ⟨hW.os, hW.tape, hW.output, hW.size, fun k hk _ => hW.block k hk⟩) G.out
      · obtain ⟨m, hm⟩ := Int.eq_ofNat_of_zero_le x0
        have G0 : ¬ (L.length < 4) := by omega
        have G := Lib.hid (show gotP M L = if (L.length : Int) - 4 < (m : Int) then none else some ((L.drop 4).take m) by simp only [gotP, G0, if_false, h5, hMx]; rw [hm]; rfl)
        clear G0
        rw [hm] at h5 hMx x1 ⊢
        clear hm x0
        by_cases h64 : 64 < m
        · have hmk2 : (Instr.makeSlice 93 (.int .u32 (m : Int)) (.int .u32 (m : Int))).run Tryz.prog w2 = .ok (.slice (some ⟨w2.heap.size, 0, none⟩) m m) (w2.alloc (.cells (madeCells #[.int .u8 0] m) 5)) :=
            run_make_row' 93 5 (.int .u8 0) 1 Tryz.underlying93 info8 rfl .u32 .u32 m (by omega) (by omega) w2
          have hblk := made64 w2 m
          have hsz : (w2.alloc (.cells (madeCells #[.int .u8 0] m) 5)).heap.size = h + 1 + 1 := by rw [← S2.out]; simp
          have hbl : Below w2.heap.size w2 (w2.alloc (.cells (madeCells #[.int .u8 0] m) 5)) := (Below.refl _ _).alloc (Nat.le_refl _) _
          rw [S2.out] at hmk2 hblk
          generalize w2.alloc (.cells (madeCells #[.int .u8 0] m) 5) = W3 at hmk2 hblk hsz hbl
          have hr3 : Rd W3 rr s (L.drop 4) := R2.out.kept (hbl.block _ (by rw [S2.out]; have := HH.out; omega)) (hbl.block _ (by rw [S2.out]; have := HH.out; omega)) (by rw [S2.out]; omega)
          have hu3 : UpdB (fun k => k = rr) w W3 := U2.out.trans ⟨hbl.os, hbl.tape, hbl.output, hbl.size, fun k hk _ => hbl.block k hk⟩
          have R3 := Lib.hid hr3
          have U3 := Lib.hid hu3
          have B3 := Lib.hid hblk
          have S3 := Lib.hid hsz
          clear hr3 hu3 hblk hsz hbl
          go_wp2_with fail
          by_cases hlm : m ≤ (L.drop 4).length
          · refine (readFull_ok rr s (h + 1) m m (L.drop 4) (List.replicate m (u8 0)) W3 R3.out hlm (by omega) (by simp; omega) (by omega) B3.out (by simp) (by omega) (by omega) hrs).mono ?_
            rintro e w3 ⟨rfl, hb3, _, hu3, hz3⟩
            have E := Lib.hid (show RP w rr (gotP M L) (.returned (.tuple #[.slice (some ⟨(h + 1), 0, none⟩) m m, .nilIface])) w3 by
              rw [G.out, if_neg (by simp at hlm; omega)]
              have hh := HH.out
              have e1 : ((L.drop 4).take m).length = m := by rw [List.length_take]; omega
              refine ⟨U3.out.trans' hu3 (by omega), (h + 1), m, by rw [e1], by rw [e1]; omega, by omega, by rw [hz3, S3.out]; omega, ?_⟩
              intro j b hj
              rw [cell_of_blk hb3]
              rw [Nat.zero_add, List.getElem?_toArray, List.getElem?_append_left (by rw [u8s_length]; exact (List.getElem?_eq_some_iff.1 hj).1)]
              unfold u8s; rw [List.getElem?_map, hj]; rfl)
            clear hb3 hu3 hz3
            go_wp2_with fail
            go_ret2
            exact E.out
          · refine (readFull_short rr s (h + 1) m m (L.drop 4) (List.replicate m (u8 0)) W3 R3.out (by omega) (by simp; omega) (by omega) B3.out (by simp) (by omega) (by omega) hrs).mono ?_
            rintro e w3 ⟨⟨n, t, v, rfl, hn⟩, hu3, hz3⟩
            have E := Lib.hid (show ∀ u, RP w rr (gotP M L) (.returned (.tuple #[u, .iface t v])) w3 from fun u => by
              have hh := HH.out
              exact RP.none (U3.out.trans' hu3 (by omega)) (by rw [G.out, if_pos (by simp at hlm; omega)]))
            clear hu3 hz3
            have i2 : (n : Int) ≤ (m : Int) := by omega
            go_wp2_with fail
            go_ret2
            exact E.out _
        · have i1 : (m : Int) ≤ 64 := by omega
          go_wp2_with fail
          by_cases hlm : m ≤ (L.drop 4).length
          · refine (readFull_ok rr s h m 64 (L.drop 4) (u8s (L.take 4) ++ (List.replicate 64 (u8 0)).drop 4) w2 R2.out hlm (by omega) (by simp; omega) (by omega) B2.out (by simp [u8s_length]; omega) (by omega) (by omega) hrs).mono ?_
            rintro e w3 ⟨rfl, hb3, _, hu3, hz3⟩
            have E := Lib.hid (show RP w rr (gotP M L) (.returned (.tuple #[.slice (some ⟨h, 0, none⟩) m 64, .nilIface])) w3 by
              rw [G.out, if_neg (by simp at hlm; omega)]
              have hh := HH.out
              have e1 : ((L.drop 4).take m).length = m := by rw [List.length_take]; omega
              refine ⟨U2.out.trans' hu3 (by omega), h, 64, by rw [e1], by rw [e1]; omega, by omega, by rw [hz3, S2.out]; omega, ?_⟩
              intro j b hj
              rw [cell_of_blk hb3]
              rw [Nat.zero_add, List.getElem?_toArray, List.getElem?_append_left (by rw [u8s_length]; exact (List.getElem?_eq_some_iff.1 hj).1)]
              unfold u8s; rw [List.getElem?_map, hj]; rfl)
            clear hb3 hu3 hz3
            go_wp2_with fail
            go_ret2
            exact E.out
          · refine (readFull_short rr s h m 64 (L.drop 4) (u8s (L.take 4) ++ (List.replicate 64 (u8 0)).drop 4) w2 R2.out (by omega) (by simp; omega) (by omega) B2.out (by simp [u8s_length]; omega) (by omega) (by omega) hrs).mono ?_
            rintro e w3 ⟨⟨n, t, v, rfl, hn⟩, hu3, hz3⟩
            have E := Lib.hid (show ∀ u, RP w rr (gotP M L) (.returned (.tuple #[u, .iface t v])) w3 from fun u => by
              have hh := HH.out
              exact RP.none (U2.out.trans' hu3 (by omega)) (by rw [G.out, if_pos (by simp at hlm; omega)]))
            clear hu3 hz3
            have i2 : (n : Int) ≤ (64 : Int) := by omega
            go_wp2_with fail
            go_ret2
            exact E.out _
  · refine (readFull_short rr s h 4 64 L (List.replicate 64 (u8 0)) W0 HR0.out (by omega) hL (by omega) HB.out (by simp) hrh hsh hrs).mono ?_
    rintro e w1 ⟨⟨n, t, v, rfl, hn⟩, hu1, hz1⟩
    have hh := HH.out
    have U2 : UpdB (fun k => k = rr) w w1 := by
      refine ⟨?_, ?_, ?_, ?_, fun k hk e => ?_⟩
      · rw [hu1.os, HBL.out.os]
      · rw [hu1.tape, HBL.out.tape]
      · rw [hu1.output, HBL.out.output]
      · rw [hz1, HSZ.out]; omega
      · rw [hu1.block k (by rw [HSZ.out]; omega) (by omega), HBL.out.block k (by omega)]
    have G := Lib.hid (show gotP M L = none by simp [gotP]; omega)
    clear hu1 hz1 HBL HSZ HB HR0 hh
    go_wp2_with fail
    go_ret2
    exact RP.none U2 G.out
end Go.Proofs.YtmenkckgpiafiaaGreat
