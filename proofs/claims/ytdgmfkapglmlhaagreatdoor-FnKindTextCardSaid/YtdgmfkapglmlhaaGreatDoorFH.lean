/-
  Contracts of zzSplit at semicolons, and of setSize.
-/
import Derived.Test.YtdgmfkapglmlhaaGreatDoorFG
import Derived.Maps.AppendAt
import Derived.OwnWalk
import Derived.Laws.OwnMore
import Derived.Tactics
import Derived.OneCell
import Derived.Lib.AppendZeros
import Derived.KernelRfl
import Derived.Deep.OwnRows
namespace Go.Proofs.YtdgmfkapglmlhaaGreatDoor
open Go.RowKit

section
variable {P : Program} {ops : Array Oper} {rest : List Oper} {o : Oper} {a : Act} {Q : Exit → Act → World → Prop}
/-- One value is appended to a row of the call's own. -/
theorem app_one {w : World} (hgd : o.guard = none) (s x : Operand) (t e : TypeId) (z : Value) (bytes : Nat) (ho : o.op = .call { callee := .builtin .append, args := #[s, x], argTypes := #[t, t] })
    (ht : P.underlying t = some (.slice e)) (hinfo : (P.info? e).map (fun i => (i.zero, i.size, i.bytes)) = some (some z, 1, bytes)) (hzs : z.cells.size = 1)
    (base : Nat) (v : Value) (n : Nat) (xs : List Value) (hs : a.eval s = v) (hown : w.ownsRow base e 1 v n xs)
    (m c : Nat) (u : Value) (hx : a.eval x = .slice (some ⟨w.heap.size, 0, none⟩) m c)
    (h : ∀ v' w', w'.ownsRow base e 1 v' (n + 1) (xs ++ [u]) → w.grownBy w' v.ownBlock → wpList P ops Q rest (a.put o.dst v') w')
    (hm : m = 1) (hu : u.oneCell' = true) (hlen : n + 1 ≤ 1000000) (hb : bytes ≤ 1000) (hbase : base ≤ w.heap.size) :
    wpList P ops Q (o :: rest) a (w.alloc (.cells #[u] e)) := by
  subst hm
  obtain ⟨i0, hi, hzz⟩ := Option.map_eq_some_iff.1 hinfo
  simp only [Prod.mk.injEq] at hzz
  obtain ⟨hz0, hz1, hz2⟩ := hzz
  refine wpList_append_own_at _ hgd s x t ho base e i0 z 1 bytes ht hi hz0 hz1 hz2 hzs (by omega) v n xs hs (hown.alloc _) ⟨w.heap.size, 0, none⟩ 1 c [u] hx rfl ?_ (by simpa using hu) (by simp only [maxLen]; omega) ?_ (by simp; omega) ?_
  · intro j q hq
    match j with
    | 0 =>
      have : q = u := by simpa using hq.symm
      subst this
      show World.cell? _ (Addr.add ⟨w.heap.size, 0, none⟩ 0) = _
      rw [show (Addr.add ⟨w.heap.size, 0, none⟩ 0) = ⟨w.heap.size, 0, none⟩ from by simp [Addr.add]]
      have hb := heap_alloc_new w (.cells #[q] e (0, 0))
      simp only [World.cell?]
      rw [hb]
      rfl
    | j + 1 => simp at hq
  · calc (n + 1) * bytes ≤ 1000000 * 1000 := Nat.mul_le_mul hlen hb
      _ ≤ _ := by omega
  · intro v1 w1 hown1 hg _ _
    exact h v1 w1 hown1 (World.grownBy.trans (World.grownBy_alloc w _ _) hg)
end
theorem Below.grown {B : Nat} {w w1 w2 : World} {v : Value} {e : TypeId} {n : Nat} {xs : List Value} (h : Below B w w1) (hown : w1.ownsRow B e 1 v n xs) (hg : w1.grownBy w2 v.ownBlock) (hB : B ≤ w1.heap.size) : Below B w w2 :=
  h.trans ⟨hg.os, hg.tape, hg.output, hg.size, fun k hk => hg.block k (by omega) (fun e => by have := (hown.lt k e.symm).1; omega)⟩

theorem infoS : (Tryz.prog.info? 9).map (fun i => (i.zero, i.size, i.bytes)) = some (some (.string ⟨#[]⟩), 1, 16) := by kernel_rfl

/-- A text's length. -/
def txtSz : Value → Nat
  | .string s => s.size
  | _ => 0
/-- Texts with semicolons between. -/
def joinF : List (List UInt8) → List UInt8
  | [] => []
  | [a] => a
  | a :: b :: r => a ++ 59 :: joinF (b :: r)
def strV (l : List UInt8) : Value := .string (bs l)

set_option maxRecDepth 5000 in
set_option maxHeartbeats 1600000 in
theorem split_any (s : ByteArray) (fs : List (List UInt8)) (w : World) (hs : s.size ≤ 1000000) (hn : fs.length ≤ 1000) (hne : fs ≠ []) (hj : tl s = joinF fs) (hf : ∀ f ∈ fs, (59 : UInt8) ∉ f) :
    Calls Tryz.prog 63 #[.string s, .string ⟨#[59]⟩] w fun e w' => ∃ v, e = .returned v ∧ w'.ownsRow w.heap.size 9 1 v fs.length (fs.map strV) ∧ Below w.heap.size w w' := by
  have HJ := Lib.hid hj
  have HF := Lib.hid hf
  have HN := Lib.hid hne
  clear hj hf hne
  have e59 : (⟨#[59]⟩ : ByteArray).size = 1 := rfl
  go_enter Tryz.func63, Tryz.ntmps63
  go_wp2
  go_loopw [0, 5] (fun v0 v5 wr => ∃ fs' done : List (List UInt8), v0 = .string (bs (joinF fs')) ∧ Hid (fs' ≠ [] ∧ done ++ fs' = fs ∧ (joinF fs').length ≤ s.size) ∧ wr.ownsRow w.heap.size 9 1 v5 done.length (done.map strV) ∧ Below w.heap.size w wr) (fun v0 _ _ => txtSz v0)
  case atStart => exact ⟨fs, [], by rw [← HJ.out, bs_tl], Lib.hid ⟨HN.out, rfl, by rw [← HJ.out, tl_length]; omega⟩, ⟨rfl, .inl ⟨rfl, rfl⟩⟩, Below.refl _ _⟩
  case round =>
    obtain ⟨fs', done, rfl, HH, hown, hbel⟩ := hrel
    obtain ⟨hne', hdone, hlen'⟩ := HH.out
    have hsz : (bs (joinF fs')).size ≤ 1000000 := by rw [size_bs]; omega
    have hz := hbel.size
    have hdl : done.length + fs'.length = fs.length := by rw [← hdone]; simp
    have HO := Lib.hid hown
    have HB := Lib.hid hbel
    clear hown hbel HH
    match fs', hne', hdone, hlen', hsz, hdl with
    | [], h, _, _, _, _ => exact absurd rfl h
    | [a], _, hdone, hlen', hsz, hdl =>
      have ha : (59 : UInt8) ∉ tl (bs (joinF [a])) := HF.out a (by rw [← hdone]; simp)
      have C := Lib.hid (fun w => index1_no (bs (joinF [a])) 59 w (by omega) ha)
      have E := Lib.hid (show ∀ (v' : Value) (w' : World), w'.ownsRow w.heap.size 9 1 v' (done.length + 1) (done.map strV ++ [strV (joinF [a])]) → w'.ownsRow w.heap.size 9 1 v' fs.length (fs.map strV) from by
        intro v' w' h
        rw [← hdone]
        simpa [joinF] using h)
      clear ha hdone hne' hlen'
      generalize hg : joinF [a] = la at *
      clear hg
      simp only [List.length_cons, List.length_nil] at hdl
      go_wp2_with (first
        | (go_at_call 55; refine (C.out _).mono ?_; rintro e w' ⟨rfl, rfl⟩)
        | (at_builtin; refine app_one rfl _ _ 36 9 (.string ⟨#[]⟩) 16 rfl Tryz.underlying36 infoS rfl w.heap.size _ done.length (done.map strV) rfl HO.out 1 1 (strV la) rfl ?_ rfl rfl ?c1 ?c2 ?c3; intro v1 w1 hown1 hg1; have HO1 := Lib.hid (E.out v1 w1 hown1); have HB1 := Lib.hid (Below.grown HB.out HO.out hg1 hz); clear hown1 hg1))
      · go_ret
        exact ⟨_, rfl, HO1.out, HB1.out⟩
      case c1 => omega
      case c2 => omega
      case c3 => exact hz
    | a :: b :: r, _, hdone, hlen', hsz, hdl =>
      have ha : (59 : UInt8) ∉ a := HF.out a (by rw [← hdone]; simp)
      have hj2 : joinF (a :: b :: r) = a ++ 59 :: joinF (b :: r) := rfl
      have C := Lib.hid (fun w => index1 (bs (joinF (a :: b :: r))) 59 a (joinF (b :: r)) w (by omega) hj2 ha)
      have hla : (joinF (a :: b :: r)).length = a.length + 1 + (joinF (b :: r)).length := by rw [hj2]; simp; omega
      have x1 : (bs (joinF (a :: b :: r))).extract 0 a.length = bs a := by rw [ext_take, tl_bs, hj2]; simp
      have x2 : (bs (joinF (a :: b :: r))).extract (a.length + 1) (bs (joinF (a :: b :: r))).size = bs (joinF (b :: r)) := by
        rw [ext_drop, tl_bs, hj2]
        rw [show a ++ 59 :: joinF (b :: r) = (a ++ [59]) ++ joinF (b :: r) from by simp]
        rw [List.drop_left' (by simp)]
      have X1 := Lib.hid x1
      have X2 := Lib.hid x2
      have E := Lib.hid (show (done ++ [a]) ++ (b :: r) = fs ∧ (done ++ [a]).length = done.length + 1 ∧ (done ++ [a]).map strV = done.map strV ++ [strV a] ∧ (joinF (b :: r)).length ≤ s.size from ⟨by rw [← hdone]; simp, by simp, by simp, by omega⟩)
      have i1 : (a.length : Int) ≤ ((bs (joinF (a :: b :: r))).size : Int) := by rw [size_bs]; omega
      have i2 : (a.length : Int) + 1 ≤ ((bs (joinF (a :: b :: r))).size : Int) := by rw [size_bs]; omega
      have i3 : (0 : Int) ≤ (a.length : Int) + 1 := by omega
      have i4 : ((a.length : Int) + 1).toNat = a.length + 1 := by omega
      have hms : (bs (joinF (b :: r))).size < (bs (joinF (a :: b :: r))).size := by rw [size_bs, size_bs]; omega
      simp only [List.length_cons] at hdl
      clear ha hdone hne' hlen' hj2 x1 x2 hla
      generalize joinF (a :: b :: r) = la at *
      generalize hlb : joinF (b :: r) = lb at *
      have HL := Lib.hid hlb
      clear hlb
      go_wp2_with (first
        | (go_at_call 55; refine (C.out _).mono ?_; rintro e w' ⟨rfl, rfl⟩)
        | (at_builtin; rw [X1.out]; refine app_one rfl _ _ 36 9 (.string ⟨#[]⟩) 16 rfl Tryz.underlying36 infoS rfl w.heap.size _ done.length (done.map strV) rfl HO.out 1 1 (strV a) rfl ?_ rfl rfl ?c1 ?c2 ?c3; intro v1 w1 hown1 hg1; have HB1 := Lib.hid (Below.grown HB.out HO.out hg1 hz); have HO1 := Lib.hid hown1; clear hown1 hg1))
      · go_roundw
        case rel =>
          obtain ⟨e1, e2, e3, e4⟩ := E.out
          exact ⟨b :: r, done ++ [a], by rw [HL.out]; exact str_eq X2.out, Lib.hid ⟨by simp, e1, by rw [HL.out]; exact e4⟩, by rw [e2, e3]; exact HO1.out, HB1.out⟩
        case measure =>
          simp only [txtSz]
          rw [X2.out]
          exact hms
      case c1 => omega
      case c2 => omega
      case c3 => exact hz

/-- An entry's cells. -/
def ent (name target : ByteArray) (ty sz tm : Int) : Array Value := #[.string name, .string target, .int .i64 ty, .int .u64 sz, .int .i64 tm]
theorem cell_of_blk {w : World} {g : Nat} {cs : Array Value} {t : TypeId} {f : Nat × Nat} (h : w.heap[g]? = some (.cells cs t f)) (i : Nat) : w.cell? ⟨g, i, none⟩ = cs[i]? := by
  simp [World.cell?, h]
theorem frozen_of_blk {w : World} {g : Nat} {cs : Array Value} {t : TypeId} (h : w.heap[g]? = some (.cells cs t (0, 0))) (i : Nat) : w.frozen? ⟨g, i, none⟩ = false := by
  simp [World.frozen?, h]
theorem setCell_blk {w : World} {g i : Nat} {cs : Array Value} {t : TypeId} {f : Nat × Nat} (h : w.heap[g]? = some (.cells cs t f)) (v : Value) : (w.setCell ⟨g, i, none⟩ v).heap[g]? = some (.cells (cs.setIfInBounds i v) t f) := by
  simp [World.setCell, Array.getElem?_modify, h]
theorem lt_of_blk {w : World} {g : Nat} {o : Obj} (h : w.heap[g]? = some o) : g < w.heap.size := by
  rcases Nat.lt_or_ge g w.heap.size with h' | h'
  · exact h'
  · rw [Array.getElem?_eq_none h'] at h
    cases h

set_option maxHeartbeats 800000 in
theorem puint (s : ByteArray) (b : Int) (w : World) (hs : s.size ≤ 1000000) (hd : Digs s) (hn : dval (tl s) < 4611686018427387904) (h0 : 0 < s.size) (hb : b = 10 ∨ b = 0 ∧ 49 ≤ (s[0].toNat : Int)) :
    Calls Tryz.prog 61 #[.string s, .int .i64 b, .int .i64 64] w fun e w' => e = .returned (.tuple #[.int .u64 (dval (tl s) : Int), .nilIface]) ∧ Below w.heap.size w w' := by
  have C := Lib.hid (puintI s b w hs hd hn h0 hb)
  clear hd hb hn
  go_enter Tryz.func61, Tryz.ntmps61
  go_wp2_with fail
  refine C.out.mono ?_
  rintro e w1 ⟨rfl, hb⟩
  have HB := Lib.hid hb
  clear hb C
  go_wp2_with fail
  go_ret2
  exact ⟨rfl, HB.out⟩
/-- A block alone has turned, and what is new. -/
structure Turned (x : Nat) (w w' : World) : Prop where
  os : w'.os = w.os
  tape : w'.tape = w.tape
  output : w'.output = w.output
  size : w.heap.size ≤ w'.heap.size
  block : ∀ k, k < w.heap.size → k ≠ x → w'.heap[k]? = w.heap[k]?
theorem Turned.trans {x : Nat} {w w1 w2 : World} (h1 : Turned x w w1) (h2 : Turned x w1 w2) : Turned x w w2 :=
  ⟨h2.os.trans h1.os, h2.tape.trans h1.tape, h2.output.trans h1.output, Nat.le_trans h1.size h2.size, fun k hk e => (h2.block k (by have := h1.size; omega) e).trans (h1.block k hk e)⟩
theorem Turned.of_below {x : Nat} {w w1 : World} (h : Below w.heap.size w w1) : Turned x w w1 := ⟨h.os, h.tape, h.output, h.size, fun k hk _ => h.block k hk⟩
theorem Turned.setCell {x i : Nat} {w w1 : World} (h : Turned x w w1) (v : Value) : Turned x w (w1.setCell ⟨x, i, none⟩ v) :=
  h.trans ⟨rfl, rfl, rfl, by simp [World.setCell], fun k _ e => Below.heap_setCell _ _ _ _ e⟩
theorem Turned.refl (x : Nat) (w : World) : Turned x w w := ⟨rfl, rfl, rfl, Nat.le_refl _, fun _ _ _ => rfl⟩
theorem Turned.below {x B : Nat} {w w1 : World} (h : Turned x w w1) (hx : B ≤ x) (hB : B ≤ w.heap.size) : Below B w w1 := ⟨h.os, h.tape, h.output, h.size, fun k hk => h.block k (by omega) (by omega)⟩

set_option maxHeartbeats 800000 in
theorem setSize_any (x : Nat) (nm tg s : ByteArray) (ty sz tm : Int) (w : World) (hx : w.heap[x]? = some (.cells (ent nm tg ty sz tm) 74 (0, 0))) (hs : s.size ≤ 1000000) (hd : Digs s) (hn : dval (tl s) < 4611686018427387904) (h0 : 0 < s.size) (hb : 49 ≤ (s[0].toNat : Int)) :
    Calls Tryz.prog 54 #[.pointer (some ⟨x, 0, none⟩), .string s] w fun e w' => e = .returned .nilIface ∧ w'.heap[x]? = some (.cells (ent nm tg ty (dval (tl s)) tm) 74 (0, 0)) ∧ Turned x w w' := by
  have C := Lib.hid (puint s 0 w hs hd hn h0 (.inr ⟨rfl, hb⟩))
  have X := Lib.hid hx
  clear hd hb hn hx
  go_enter Tryz.func54, Tryz.ntmps54
  go_wp2_with fail
  refine C.out.mono ?_
  rintro e w1 ⟨rfl, hb⟩
  have hx1 := (hb.block x (lt_of_blk X.out)).trans X.out
  have c3 : w1.cell? ⟨x, 3, none⟩ = some (.int .u64 sz) := by rw [cell_of_blk hx1]; rfl
  have f3 := frozen_of_blk hx1 3
  have X1 := Lib.hid hx1
  have HB := Lib.hid (Turned.of_below (x := x) hb)
  clear hb C hx1
  go_wp2_with fail
  go_ret
  exact ⟨rfl, by rw [setCell_blk X1.out]; rfl, HB.out.setCell _⟩
end Go.Proofs.YtdgmfkapglmlhaaGreatDoor
