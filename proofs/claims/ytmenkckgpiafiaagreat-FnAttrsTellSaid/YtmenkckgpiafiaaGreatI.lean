/-
  Contracts of the reader of packets.
-/
import Derived.Test.YtmenkckgpiafiaaGreatH
import Derived.Laws.CopyRow
namespace Go.Proofs.YtmenkckgpiafiaaGreat
open Go.RowKit

section
variable {P : Program} {ops : Array Oper} {rest : List Oper} {o : Oper} {a : Act} {Q : Exit → Act → World → Prop}
theorem copy_run {w : World} (hgd : o.guard = none) (d s : Operand) (t t' : TypeId)
    (ho : o.op = .call { callee := .builtin .copy, args := #[d, s], argTypes := #[t, t'] }) (v u : Value) (hd : a.eval d = v) (hs : a.eval s = u) {v' : Value} {w' : World}
    (hr : (Builtin.copy_ #[t, t'] o.type #[v, u]).run P w = .ok v' w') (h : Hid (wpList P ops Q rest (a.put o.dst v') w')) : wpList P ops Q (o :: rest) a w := by
  refine wpList_plain hgd fun K hK => ?_
  unfold Oper.wp execOp
  simp only [ho, resolve, invoke, builtin, Sem.run_bind, Sem.run_pure, Result.andThen_ok, List.map_toArray, List.map_cons, List.map_nil, hd, hs, hr]
  exact hK _ _ h.out
end
/-- A reader: block rr holds what is left of its bytes, which lie in block s. -/
def Rd (w : World) (rr s : Nat) (L : List UInt8) : Prop :=
  ∃ p c, w.heap[rr]? = some (.cells #[.slice (some ⟨s, p, none⟩) L.length c] 113 (0, 0)) ∧ L.length ≤ c ∧ Lies w s p L ∧ s < w.heap.size

theorem info8s : (Tryz.prog.info? 5).map (·.size) = some 1 := by kernel_rfl

set_option maxHeartbeats 1600000 in
theorem readFull_ok (rr s h m cap : Nat) (L : List UInt8) (cur : List Value) (w : World) (hr : Rd w rr s L) (hm : m ≤ L.length) (hm0 : 0 < m) (hL : L.length ≤ 1000000000) (hmb : m ≤ 5000000000) (hh : w.heap[h]? = some (.cells cur.toArray 5 (0, 0))) (hcur : m ≤ cur.length) (hrh : rr ≠ h) (hsh : s ≠ h) (hrs : rr ≠ s) :
    Calls Tryz.prog 141 #[.pointer (some ⟨rr, 0, none⟩), .slice (some ⟨h, 0, none⟩) m cap] w fun e w' => e = .returned (.tuple #[.int .i64 (m : Int), .nilIface]) ∧ w'.heap[h]? = some (.cells (u8s (L.take m) ++ cur.drop m).toArray 5 (0, 0)) ∧ Rd w' rr s (L.drop m) ∧ UpdB (fun k => k = rr ∨ k = h) w w' ∧ w'.heap.size = w.heap.size := by
  obtain ⟨p, c, hb, hc, hLies, hs⟩ := hr
  have c0 : w.cell? ⟨rr, 0, none⟩ = some (.slice (some ⟨s, p, none⟩) L.length c) := by rw [cell_of_blk hb]; rfl
  have HB := Lib.hid hb
  have HL := Lib.hid hLies
  clear hb hLies
  have hsrc : ∀ j v, (u8s (L.take m))[j]? = some v → w.cell? ((⟨s, p, none⟩ : Addr).add j) = some v := by
    intro j v hj
    obtain ⟨b, hb, rfl⟩ := Option.map_eq_some_iff.1 ((by unfold u8s at hj; rwa [List.getElem?_map] at hj) : (L.take m)[j]?.map u8 = some v)
    rw [add_plain]
    exact (HL.out.take m) j b hb
  have hone : ∀ v ∈ u8s (L.take m), v.oneCell' = true := by
    intro v hv
    simp only [u8s, List.mem_map] at hv
    obtain ⟨b, _, rfl⟩ := hv
    rfl
  have he : (u8s (L.take m)).length = m := by rw [u8s_length, List.length_take]; omega
  have hr := run_copy_row (P := Tryz.prog) w 93 93 3 5 h 0 m cap ⟨s, p, none⟩ L.length c cur.toArray 5 (u8s (L.take m)) Tryz.underlying93 info8s hh (by rw [he]; show m = min L.length m; omega) hsrc (by rw [he]; simp; omega) hone
  rw [he] at hr
  have z1 : (w.setRow h (cur.toArray.toList.take 0 ++ u8s (L.take m) ++ cur.toArray.toList.drop (0 + m)).toArray).heap[h]? = some (.cells (u8s (L.take m) ++ cur.drop m).toArray 5 (0, 0)) := by rw [setRow_heap w h _ _ _ _ hh]; simp
  have z2 := fun k (hk : k ≠ h) => setRow_other w h k (cur.toArray.toList.take 0 ++ u8s (L.take m) ++ cur.toArray.toList.drop (0 + m)).toArray hk
  have z3 := setRow_size w h (cur.toArray.toList.take 0 ++ u8s (L.take m) ++ cur.toArray.toList.drop (0 + m)).toArray
  have z4 : UpdB (fun k => k = rr ∨ k = h) w (w.setRow h (cur.toArray.toList.take 0 ++ u8s (L.take m) ++ cur.toArray.toList.drop (0 + m)).toArray) := ⟨rfl, rfl, rfl, by rw [z3]; omega, fun k _ e => z2 k (fun e2 => e (.inr e2))⟩
  generalize w.setRow h (cur.toArray.toList.take 0 ++ u8s (L.take m) ++ cur.toArray.toList.drop (0 + m)).toArray = w1 at hr z1 z2 z3 z4
  have k1 : w1.heap[rr]? = some (.cells #[.slice (some ⟨s, p, none⟩) L.length c] 113 (0, 0)) := by rw [z2 rr hrh]; exact HB.out
  have c1 : w1.cell? ⟨rr, 0, none⟩ = some (.slice (some ⟨s, p, none⟩) L.length c) := by rw [cell_of_blk k1]; rfl
  have f1 : w1.frozen? ⟨rr, 0, none⟩ = false := frozen_of_blk k1 0
  have l1 : Lies w1 s p L := HL.out.kept (z2 s hsh)
  have i1 : (m : Int) ≤ (L.length : Int) := by omega
  have Z1 := Lib.hid z1
  have Z2 := Lib.hid z2
  have Z3 := Lib.hid z3
  have Z4 := Lib.hid z4
  have K1 := Lib.hid k1
  have L1 := Lib.hid l1
  have fin : ∀ (p' c' : Nat), L.length - m ≤ c' → Lies w1 s p' (L.drop m) →
      (w1.setCell ⟨rr, 0, none⟩ (.slice (some ⟨s, p', none⟩) (L.length - m) c')).heap[h]? = some (.cells (u8s (L.take m) ++ cur.drop m).toArray 5 (0, 0)) ∧ Rd (w1.setCell ⟨rr, 0, none⟩ (.slice (some ⟨s, p', none⟩) (L.length - m) c')) rr s (L.drop m) ∧ UpdB (fun k => k = rr ∨ k = h) w (w1.setCell ⟨rr, 0, none⟩ (.slice (some ⟨s, p', none⟩) (L.length - m) c')) ∧ (w1.setCell ⟨rr, 0, none⟩ (.slice (some ⟨s, p', none⟩) (L.length - m) c')).heap.size = w.heap.size := by
    intro p' c' hc' hl'
    have e : (L.drop m).length = L.length - m := List.length_drop
    refine ⟨by rw [Below.heap_setCell _ _ _ _ (Ne.symm hrh)]; exact Z1.out, ⟨p', c', ?_, by rw [e]; exact hc', hl'.kept (Below.heap_setCell _ _ _ _ (Ne.symm hrs)), by simp [World.setCell, Z3.out]; exact hs⟩, Z4.out.setCell (.inl rfl) _, by simp [World.setCell, Z3.out]⟩
    rw [e, setCell_blk K1.out]; rfl
  have FIN := Lib.hid fin
  have HR := Lib.hid hr
  clear fin z1 z2 z3 z4 k1 l1 hsrc hone he hr
  go_enter Tryz.func141, Tryz.ntmps141
  go_wp2_with (with_reducible refine copy_run rfl _ _ 93 93 rfl (.slice (some ⟨h, 0, none⟩) m cap) (.slice (some ⟨s, p, none⟩) L.length c) rfl rfl HR.out ?_)
  refine Lib.hid ?_
  clear HR
  by_cases hcap : c = m
  · subst hcap
    have d1 : (c == c) = true := by simp
    go_wp2_with fail
    go_ret2
    have f := FIN.out p 0 (by omega) (fun j b hj => by rw [List.drop_of_length_le (by omega)] at hj; simp at hj)
    rw [show L.length - c = 0 from by omega] at f
    exact ⟨rfl, f⟩
  · have d1 : (m == m) = true := by simp
    go_wp2_with fail
    go_ret2
    have f := FIN.out (p + m) (c - m) (by omega) (L1.out.drop m)
    exact ⟨rfl, f⟩

set_option maxHeartbeats 1600000 in
theorem readFull_short (rr s h m cap : Nat) (L : List UInt8) (cur : List Value) (w : World) (hr : Rd w rr s L) (hm : L.length < m) (hL : L.length ≤ 1000000000) (hmb : m ≤ 5000000000) (hh : w.heap[h]? = some (.cells cur.toArray 5 (0, 0))) (hcur : m ≤ cur.length) (hrh : rr ≠ h) (hsh : s ≠ h) (hrs : rr ≠ s) :
    Calls Tryz.prog 141 #[.pointer (some ⟨rr, 0, none⟩), .slice (some ⟨h, 0, none⟩) m cap] w fun e w' => (∃ n t v, e = .returned (.tuple #[.int .i64 ((n : Nat) : Int), .iface t v]) ∧ n ≤ L.length) ∧ UpdB (fun k => k = rr ∨ k = h) w w' ∧ w'.heap.size = w.heap.size := by
  obtain ⟨p, c, hb, hc, hLies, hs⟩ := hr
  have c0 : w.cell? ⟨rr, 0, none⟩ = some (.slice (some ⟨s, p, none⟩) L.length c) := by rw [cell_of_blk hb]; rfl
  have HB := Lib.hid hb
  have HL := Lib.hid hLies
  clear hb hLies
  have hsrc : ∀ j v, (u8s (L))[j]? = some v → w.cell? ((⟨s, p, none⟩ : Addr).add j) = some v := by
    intro j v hj
    obtain ⟨b, hb, rfl⟩ := Option.map_eq_some_iff.1 ((by unfold u8s at hj; rwa [List.getElem?_map] at hj) : (L)[j]?.map u8 = some v)
    rw [add_plain]
    exact (HL.out) j b hb
  have hone : ∀ v ∈ u8s (L), v.oneCell' = true := by
    intro v hv
    simp only [u8s, List.mem_map] at hv
    obtain ⟨b, _, rfl⟩ := hv
    rfl
  have he : (u8s (L)).length = L.length := u8s_length L
  have hr := run_copy_row (P := Tryz.prog) w 93 93 3 5 h 0 m cap ⟨s, p, none⟩ L.length c cur.toArray 5 (u8s (L)) Tryz.underlying93 info8s hh (by rw [he]; show L.length = min L.length m; omega) hsrc (by rw [he]; simp; omega) hone
  rw [he] at hr
  have z1 : (w.setRow h (cur.toArray.toList.take 0 ++ u8s (L) ++ cur.toArray.toList.drop (0 + L.length)).toArray).heap[h]? = some (.cells (u8s (L) ++ cur.drop L.length).toArray 5 (0, 0)) := by rw [setRow_heap w h _ _ _ _ hh]; simp
  have z2 := fun k (hk : k ≠ h) => setRow_other w h k (cur.toArray.toList.take 0 ++ u8s (L) ++ cur.toArray.toList.drop (0 + L.length)).toArray hk
  have z3 := setRow_size w h (cur.toArray.toList.take 0 ++ u8s (L) ++ cur.toArray.toList.drop (0 + L.length)).toArray
  have z4 : UpdB (fun k => k = rr ∨ k = h) w (w.setRow h (cur.toArray.toList.take 0 ++ u8s (L) ++ cur.toArray.toList.drop (0 + L.length)).toArray) := ⟨rfl, rfl, rfl, by rw [z3]; omega, fun k _ e => z2 k (fun e2 => e (.inr e2))⟩
  generalize w.setRow h (cur.toArray.toList.take 0 ++ u8s (L) ++ cur.toArray.toList.drop (0 + L.length)).toArray = w1 at hr z1 z2 z3 z4
  have k1 : w1.heap[rr]? = some (.cells #[.slice (some ⟨s, p, none⟩) L.length c] 113 (0, 0)) := by rw [z2 rr hrh]; exact HB.out
  have c1 : w1.cell? ⟨rr, 0, none⟩ = some (.slice (some ⟨s, p, none⟩) L.length c) := by rw [cell_of_blk k1]; rfl
  have f1 : w1.frozen? ⟨rr, 0, none⟩ = false := frozen_of_blk k1 0
  have l1 : Lies w1 s p L := HL.out.kept (z2 s hsh)
  have Z3 := Lib.hid z3
  have Z4 := Lib.hid z4
  have fin : ∀ v, UpdB (fun k => k = rr ∨ k = h) w (w1.setCell ⟨rr, 0, none⟩ v) ∧ (w1.setCell ⟨rr, 0, none⟩ v).heap.size = w.heap.size := fun v => ⟨Z4.out.setCell (.inl rfl) _, by simp [World.setCell, Z3.out]⟩
  have FIN := Lib.hid fin
  have HR := Lib.hid hr
  clear fin z1 z2 z3 z4 k1 l1 hsrc hone he hr
  have d1 : ((L.length : Int) == (m : Int)) = false := beq_eq_false_iff_ne.2 (by omega)
  go_enter Tryz.func141, Tryz.ntmps141
  go_wp2_with (with_reducible refine copy_run rfl _ _ 93 93 rfl (.slice (some ⟨h, 0, none⟩) m cap) (.slice (some ⟨s, p, none⟩) L.length c) rfl rfl HR.out ?_)
  refine Lib.hid ?_
  clear HR
  by_cases h0 : L.length = 0
  · have d2 : ((L.length : Int) == 0) = true := beq_iff_eq.2 (by omega)
    by_cases hcap : c = L.length
    · go_wp2_with fail
      go_ret2
      exact ⟨⟨0, _, _, rfl, by omega⟩, FIN.out _⟩
    · go_wp2_with fail
      go_ret2
      exact ⟨⟨0, _, _, rfl, by omega⟩, FIN.out _⟩
  · have d2 : ((L.length : Int) == 0) = false := beq_eq_false_iff_ne.2 (by omega)
    by_cases hcap : c = L.length
    · go_wp2_with fail
      go_ret2
      exact ⟨⟨_, _, _, rfl, Nat.le_refl _⟩, FIN.out _⟩
    · go_wp2_with fail
      go_ret2
      exact ⟨⟨_, _, _, rfl, Nat.le_refl _⟩, FIN.out _⟩
end Go.Proofs.YtmenkckgpiafiaaGreat
