/-
  The sanity check of listings; KindText.
-/
import Derived.Test.YtdgmfkapglmlhaaGreatDoorFJ
namespace Go.Proofs.YtdgmfkapglmlhaaGreatDoor
open Go.RowKit Go.Great

theorem parse1 (s : ByteArray) (name : List UInt8) (fs : List (List UInt8)) (st : Nat → Int × Int × Int) (now : Int) (w : World)
    (hs : s.size ≤ 10000) (hline : tl s = (joinF fs ++ [59]) ++ 32 :: name) (h32 : (32 : UInt8) ∉ joinF fs) (hne : fs ≠ []) (hf : ∀ f ∈ fs, (59 : UInt8) ∉ f) (hn : fs.length ≤ 1000)
    (h0 : st 0 = (0, 0, 0)) (hst : ∀ k f, fs[k]? = some f → Fact f (st k) (st (k + 1))) :
    Calls Tryz.prog 25 #[.int .i64 1, .string s, .int .i64 now] w (Parsed (bs name) ⟨#[]⟩ (st fs.length).1 (st fs.length).2.1 (st fs.length).2.2 w) := by
  have C := Lib.hid (rfc_any s name fs st (.int .i64 now) (.pointer none) w hs hline h32 hne hf hn h0 hst)
  clear hline h32 hne hf hn h0 hst
  go_enter Tryz.func25, Tryz.ntmps25
  go_wp2_with fail
  refine C.out.mono ?_
  rintro e w1 ⟨⟨x, rfl, hx⟩, hb⟩
  have HX := Lib.hid hx
  have HB := Lib.hid hb
  clear hx hb C
  go_wp2_with fail
  go_ret2
  exact ⟨⟨x, rfl, HX.out⟩, HB.out⟩

def date1 : List UInt8 := [50, 48, 49, 53, 48, 56, 48, 54, 50, 51, 53, 56, 49, 55]
def fin1 : PT := ⟨2015, 8, 6, 23, 58, 17, false, false, []⟩
theorem steps1 : steps (tl layM) (pt0 date1) = some fin1 := by kernel_rfl
theorem ok1 : FinOk fin1 := by
  refine ⟨rfl, by decide, ?_, by decide, by decide, by decide, by decide, by decide, by decide, by decide, by decide, by decide, by decide⟩
  show (6 : Int) ≤ mdays 8 2015
  decide
theorem secs1 : fin1.secs = 1438905497 + 62135596800 := by kernel_rfl
theorem digs_bs (l : List UInt8) (h : ∀ c ∈ l, 48 ≤ (c.toNat : Int) ∧ (c.toNat : Int) ≤ 57) : Digs (bs l) := by
  intro i hi
  have := tl_getElem (bs l) i hi
  rw [tl_bs] at this
  exact h _ (List.mem_of_getElem? this)
theorem size5 : ∀ (x : Nat) (nm tg : ByteArray) (w : World), w.heap[x]? = some (.cells (ent nm tg 0 0 0) 74 (0, 0)) → Calls Tryz.prog 54 #[.pointer (some ⟨x, 0, none⟩), .string (bs [53])] w fun e w' => e = .returned .nilIface ∧ w'.heap[x]? = some (.cells (ent nm tg 0 5 0) 74 (0, 0)) ∧ Turned x w w' := by
  intro x nm tg w hx
  exact setSize_any x nm tg (bs [53]) 0 0 0 w hx (by decide) (digs_bs [53] (by decide)) (by decide) (by decide) (by decide)
def line1 : ByteArray := ⟨#[116, 121, 112, 101, 61, 102, 105, 108, 101, 59, 115, 105, 122, 101, 61, 53, 59, 109, 111, 100, 105, 102, 121, 61, 50, 48, 49, 53, 48, 56, 48, 54, 50, 51, 53, 56, 49, 55, 59, 32, 110, 97, 109, 101]⟩
def line2 : ByteArray := ⟨#[116, 121, 112, 101, 61, 100, 105, 114, 59, 109, 111, 100, 105, 102, 121, 61, 50, 48, 49, 53, 48, 56, 48, 54, 50, 51, 53, 56, 49, 55, 59, 32, 111, 116, 104, 101, 114]⟩
def fs1 : List (List UInt8) := [kType ++ 61 :: [102, 105, 108, 101], kSize ++ 61 :: [53], kModify ++ 61 :: date1]
def fs2 : List (List UInt8) := [kType ++ 61 :: [100, 105, 114], kModify ++ 61 :: date1]
def st1 : Nat → Int × Int × Int
  | 0 => (0, 0, 0)
  | 1 => (0, 0, 0)
  | 2 => (0, 5, 0)
  | _ => (0, 5, fin1.secs)
def st2 : Nat → Int × Int × Int
  | 0 => (0, 0, 0)
  | 1 => (1, 0, 0)
  | _ => (1, 0, fin1.secs)
theorem facts1 : ∀ k f, fs1[k]? = some f → Fact f (st1 k) (st1 (k + 1)) := by
  intro k f h
  match k with
  | 0 => obtain rfl : kType ++ 61 :: [102, 105, 108, 101] = f := Option.some.inj h; exact .file 0 0 0
  | 1 => obtain rfl : kSize ++ 61 :: [53] = f := Option.some.inj h; exact .size [53] 0 0 0 5 (by decide) size5
  | 2 => obtain rfl : kModify ++ 61 :: date1 = f := Option.some.inj h; exact .modify date1 0 5 0 fin1 (by decide) steps1 ok1
  | k + 3 => cases h
theorem facts2 : ∀ k f, fs2[k]? = some f → Fact f (st2 k) (st2 (k + 1)) := by
  intro k f h
  match k with
  | 0 => obtain rfl : kType ++ 61 :: [100, 105, 114] = f := Option.some.inj h; exact .dir 0 0 0
  | 1 => obtain rfl : kModify ++ 61 :: date1 = f := Option.some.inj h; exact .modify date1 1 0 0 fin1 (by decide) steps1 ok1
  | k + 2 => cases h
theorem list1 (w : World) : Calls Tryz.prog 10 #[.int .i64 1, .string line1, .int .i64 1500000000] w fun e w' => e = .returned (.tuple #[.agg (ent (bs [110, 97, 109, 101]) ⟨#[]⟩ 0 5 1438905497), .int .i64 0]) ∧ Below w.heap.size w w' := by
  have h := list_ok 1 line1 1500000000 (bs [110, 97, 109, 101]) ⟨#[]⟩ 0 5 fin1.secs w (by decide) (by decide) (by rw [secs1]; decide) (by rw [secs1]; decide)
    (fun W => parse1 line1 [110, 97, 109, 101] fs1 st1 (1500000000 + 62135596800) W (by decide) (by decide) (by decide) (by decide) (by decide) (by decide) rfl facts1)
  rw [secs1] at h
  exact h
theorem list2 (w : World) : Calls Tryz.prog 10 #[.int .i64 1, .string line2, .int .i64 1500000000] w fun e w' => e = .returned (.tuple #[.agg (ent (bs [111, 116, 104, 101, 114]) ⟨#[]⟩ 1 0 1438905497), .int .i64 0]) ∧ Below w.heap.size w w' := by
  have h := list_ok 1 line2 1500000000 (bs [111, 116, 104, 101, 114]) ⟨#[]⟩ 1 0 fin1.secs w (by decide) (by decide) (by rw [secs1]; decide) (by rw [secs1]; decide)
    (fun W => parse1 line2 [111, 116, 104, 101, 114] fs2 st2 (1500000000 + 62135596800) W (by decide) (by decide) (by decide) (by decide) (by decide) (by decide) rfl facts2)
  rw [secs1] at h
  exact h

set_option maxRecDepth 100000 in
set_option maxHeartbeats 4000000 in
theorem listed_any (w : World) : Calls Tryz.prog 11 #[] w fun e w' => e = .returned (.bool true) ∧ Below w.heap.size w w' := by
  have e1 : ((bs [110, 97, 109, 101]).toList == [110, 97, 109, 101]) = true := by rw [ByteArray.toList_eq]; decide
  have e2 : ((bs [111, 116, 104, 101, 114]).toList == [111, 116, 104, 101, 114]) = true := by rw [ByteArray.toList_eq]; decide
  have L1 := Lib.hid list1
  have L2 := Lib.hid list2
  generalize hn1 : bs [110, 97, 109, 101] = n1 at *
  generalize hn2 : bs [111, 116, 104, 101, 114] = n2 at *
  clear hn1 hn2
  go_enter Tryz.func11, Tryz.ntmps11
  go_wp2_with fail
  refine (L1.out w).mono ?_
  rintro e w1 ⟨rfl, hb1⟩
  obtain ⟨W1, hW1⟩ : ∃ W, w1.alloc (.cells ent0 24) = W := ⟨_, rfl⟩
  obtain ⟨W2, hW2⟩ : ∃ W, W1.setRow w1.heap.size (ent n1 ⟨#[]⟩ 0 5 1438905497) = W := ⟨_, rfl⟩
  have k1 : W1.heap[w1.heap.size]? = some (.cells ent0 24 (0, 0)) := by rw [← hW1]; exact heap_alloc_new _ _
  have k2 : W2.heap[w1.heap.size]? = some (.cells (ent n1 ⟨#[]⟩ 0 5 1438905497) 24 (0, 0)) := by rw [← hW2]; exact setRow_blk k1
  have b2 : Below w.heap.size w W2 := by
    have h1 := hb1.alloc hb1.size (.cells ent0 24)
    rw [hW1] at h1
    have := hb1.size
    rw [← hW2]
    exact ⟨h1.os, h1.tape, h1.output, by rw [setRow_size]; exact h1.size, fun k hk => by rw [setRow_other _ _ _ _ (by omega)]; exact h1.block k hk⟩
  have X1 := Lib.hid hW1
  have X2 := Lib.hid hW2
  have K1 := Lib.hid k1
  have K2 := Lib.hid k2
  have B2 := Lib.hid b2
  have z1 := hb1.size
  clear hW1 hW2 k1 k2 b2 hb1 L1
  go_wp2_with (first
    | (refine wpList_allocTo rfl (some 1) rfl (.pointer (some ⟨w1.heap.size, 0, none⟩)) (.cells ent0 24) (by as_aux_lemma => kernel_rfl) ?_; rw [X1.out])
    | (refine wpList_store_row rfl 24 _ _ rfl w1.heap.size (ent n1 ⟨#[]⟩ 0 5 1438905497) rfl rfl 24 ent0 K1.out (einfo _ _ _ _ _) rfl (eone _ _ _ _ _) ?_; rw [X2.out]))
  refine (L2.out W2).mono ?_
  rintro e w3 ⟨rfl, hb3⟩
  have j3 := (hb3.block w1.heap.size (lt_of_blk K2.out)).trans K2.out
  have b3 : Below w.heap.size w w3 := B2.out.trans (hb3.mono B2.out.size)
  obtain ⟨W4, hW4⟩ : ∃ W, w3.alloc (.cells ent0 24) = W := ⟨_, rfl⟩
  obtain ⟨W5, hW5⟩ : ∃ W, W4.setRow w3.heap.size (ent n2 ⟨#[]⟩ 1 0 1438905497) = W := ⟨_, rfl⟩
  have z3 := hb3.size
  have hlt := lt_of_blk K2.out
  have k4 : W4.heap[w3.heap.size]? = some (.cells ent0 24 (0, 0)) := by rw [← hW4]; exact heap_alloc_new _ _
  have k5 : W5.heap[w3.heap.size]? = some (.cells (ent n2 ⟨#[]⟩ 1 0 1438905497) 24 (0, 0)) := by rw [← hW5]; exact setRow_blk k4
  have j5 : W5.heap[w1.heap.size]? = some (.cells (ent n1 ⟨#[]⟩ 0 5 1438905497) 24 (0, 0)) := by rw [← hW5, setRow_other _ _ _ _ (by omega), ← hW4, heap_alloc_old _ _ (by omega)]; exact j3
  have b5 : Below w.heap.size w W5 := by
    have h1 := b3.alloc b3.size (.cells ent0 24)
    rw [hW4] at h1
    have := b3.size
    rw [← hW5]
    exact ⟨h1.os, h1.tape, h1.output, by rw [setRow_size]; exact h1.size, fun k hk => by rw [setRow_other _ _ _ _ (by omega)]; exact h1.block k hk⟩
  have c0 : W5.cell? ⟨w1.heap.size, 0, none⟩ = some (.string n1) := by rw [cell_of_blk j5]; rfl
  have c2 : W5.cell? ⟨w1.heap.size, 2, none⟩ = some (.int .i64 0) := by rw [cell_of_blk j5]; rfl
  have c3 : W5.cell? ⟨w1.heap.size, 3, none⟩ = some (.int .u64 5) := by rw [cell_of_blk j5]; rfl
  have c4 : W5.cell? ⟨w1.heap.size, 4, none⟩ = some (.int .i64 1438905497) := by rw [cell_of_blk j5]; rfl
  have d0 : W5.cell? ⟨w3.heap.size, 0, none⟩ = some (.string n2) := by rw [cell_of_blk k5]; rfl
  have d2 : W5.cell? ⟨w3.heap.size, 2, none⟩ = some (.int .i64 1) := by rw [cell_of_blk k5]; rfl
  have X4 := Lib.hid hW4
  have X5 := Lib.hid hW5
  have K4 := Lib.hid k4
  have B5 := Lib.hid b5
  clear hW4 hW5 k4 k5 j5 b5 j3 b3 hb3 L2 K2 B2 X1 X2 K1
  go_wp2_with (first
    | (refine wpList_allocTo rfl (some 3) rfl (.pointer (some ⟨w3.heap.size, 0, none⟩)) (.cells ent0 24) (by as_aux_lemma => kernel_rfl) ?_; rw [X4.out])
    | (refine wpList_store_row rfl 24 _ _ rfl w3.heap.size (ent n2 ⟨#[]⟩ 1 0 1438905497) rfl rfl 24 ent0 K4.out (einfo _ _ _ _ _) rfl (eone _ _ _ _ _) ?_; rw [X5.out]))
  go_ret
  exact ⟨rfl, B5.out⟩

theorem kindIdle (p : Addr) (w : World) :
    CallsD Tryz.prog 29 #[.pointer (some p)] .returning w fun e u' w' => e = .returned (.tuple #[]) ∧ u' = .returning ∧ w' = w := by
  refine callsD_of_wpS Tryz.func29 rfl fun c₀ cs hu => ?_
  apply wpS_seq
  apply wpS_region
  simp [wpOpsS, go_sem, recoverD, hu, Tryz.ntmps29, Exit.thenS]
  refine wpS_cond (t := false) (by simp [Act.eval, Array.replicate]) ?_
  simp only [Bool.false_eq_true, if_false]
  refine wpS_of_wp (wp_skip ?_)
  cases c₀
  simp_all [bodyPostS, results, Tryz.results29]
/-- The names of kinds. -/
def kname (k : Nat) : ByteArray := match k with
  | 0 => ⟨#[102, 105, 108, 101]⟩
  | 1 => ⟨#[102, 111, 108, 100, 101, 114]⟩
  | _ => ⟨#[108, 105, 110, 107]⟩
theorem kindString (k : Nat) (w : World) (hk : k < 3) : Calls Tryz.prog 30 #[.int .i64 (k : Int)] w fun e w' => e = .returned (.string (kname k)) ∧ w = w' := by
  have i0 : ∀ w, (Instr.index 83 (.agg #[.string ⟨#[102, 105, 108, 101]⟩, .string ⟨#[102, 111, 108, 100, 101, 114]⟩, .string ⟨#[108, 105, 110, 107]⟩]) (.int .i64 0)).run Tryz.prog w = .ok (.string ⟨#[102, 105, 108, 101]⟩) w := fun _ => by kernel_rfl
  have i1 : ∀ w, (Instr.index 83 (.agg #[.string ⟨#[102, 105, 108, 101]⟩, .string ⟨#[102, 111, 108, 100, 101, 114]⟩, .string ⟨#[108, 105, 110, 107]⟩]) (.int .i64 1)).run Tryz.prog w = .ok (.string ⟨#[102, 111, 108, 100, 101, 114]⟩) w := fun _ => by kernel_rfl
  have i2 : ∀ w, (Instr.index 83 (.agg #[.string ⟨#[102, 105, 108, 101]⟩, .string ⟨#[102, 111, 108, 100, 101, 114]⟩, .string ⟨#[108, 105, 110, 107]⟩]) (.int .i64 2)).run Tryz.prog w = .ok (.string ⟨#[108, 105, 110, 107]⟩) w := fun _ => by kernel_rfl
  rcases (by omega : k = 0 ∨ k = 1 ∨ k = 2) with rfl | rfl | rfl
  all_goals
    go_enter Tryz.func30, Tryz.ntmps30
    go_wp2
    go_ret
    exact ⟨rfl, rfl⟩
set_option maxHeartbeats 1600000 in
theorem kindText (k : Nat) (w : World) (hk : k < 3) : Calls Tryz.prog 13 #[.int .i64 (k : Int)] w fun e w' => e = .returned (.string (kname k)) ∧ Below w.heap.size w w' := by
  have hmf : ∀ (fn : Fn) (first cap : Array Value) (w : World), (Instr.makeFunc fn first cap).run Tryz.prog w = .ok (.func fn first cap) w := fun _ _ _ _ => rfl
  go_enter_defers Tryz.func13, Tryz.ntmps13
  go_wp2_with (go_at_call 30; refine (kindString k _ hk).mono ?_; rintro e w' ⟨rfl, rfl⟩)
  refine leaves_cons (f := 29) (args := #[.pointer (some ⟨w.heap.size, 0, none⟩)]) (by simp) (by simp [go_sem]) ?_
  refine (kindIdle _ _).mono ?_
  rintro e u' w'' ⟨rfl, rfl, rfl⟩
  simp [Leaves, settle, results, Tryz.results13, go_sem]
  exact (Below.refl _ _).alloc (Nat.le_refl _) _

set_option maxRecDepth 100000 in
set_option maxHeartbeats 1600000 in
theorem kindLaw (a : Int) (w : World) (h : 0 ≤ a ∧ a ≤ 255) : Calls Tryz.prog 5 #[.int .u8 a] w fun e w' => e = .returned (.bool true) ∧ Below w.heap.size w w' := by
  obtain ⟨h0, h1⟩ := h
  obtain ⟨m, hm, hm3⟩ : ∃ m : Nat, a % 3 = (m : Int) ∧ m < 3 := ⟨(a % 3).toNat, by omega, by omega⟩
  have C := Lib.hid (fun W => kindText m W hm3)
  have e0 : ((kname 0).toList == [102, 105, 108, 101]) = true := by rw [ByteArray.toList_eq]; decide
  have e1 : ((kname 1).toList == [102, 111, 108, 100, 101, 114]) = true := by rw [ByteArray.toList_eq]; decide
  have e2 : ((kname 2).toList == [108, 105, 110, 107]) = true := by rw [ByteArray.toList_eq]; decide
  rcases (by omega : m = 0 ∨ m = 1 ∨ m = 2) with rfl | rfl | rfl
  all_goals
    go_enter Tryz.func5, Tryz.ntmps5
    go_wp2_with fail
    refine (C.out _).mono ?_
    rintro e w1 ⟨rfl, hb1⟩
    have B1 := Lib.hid (show Below w.heap.size w w1 from ((Below.refl _ _).alloc (Nat.le_refl _) _).trans (hb1.mono (by simp)))
    clear hb1 C
    go_wp2_with fail
    refine (listed_any _).mono ?_
    rintro e w2 ⟨rfl, hb2⟩
    have B2 := Lib.hid (B1.out.trans (hb2.mono B1.out.size))
    clear hb2 B1
    go_wp2_with fail
    go_ret
    exact ⟨rfl, B2.out⟩
end Go.Proofs.YtdgmfkapglmlhaaGreatDoor
