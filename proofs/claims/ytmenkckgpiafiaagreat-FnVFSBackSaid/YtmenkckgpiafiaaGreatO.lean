/-
  Contracts of the statvfs packet's reader.
-/
import Derived.Test.YtmenkckgpiafiaaGreatN
namespace Go.Proofs.YtmenkckgpiafiaaGreat
open Go.RowKit Go.Great

/-- What is left behind n numbers read. -/
def rv (r : Option (List UInt8)) : Nat → Option (List UInt8)
  | 0 => r
  | n + 1 => (c64 (rv r n)).2
def xv (r : Option (List UInt8)) (i : Nat) : Int := (c64 (rv r i)).1
def vcells (X : Nat → Int) : Array Value := #[.int .u64 (X 0), .int .u64 (X 1), .int .u64 (X 2), .int .u64 (X 3), .int .u64 (X 4), .int .u64 (X 5), .int .u64 (X 6), .int .u64 (X 7), .int .u64 (X 8), .int .u64 (X 9), .int .u64 (X 10)]
theorem vinfo (X : Nat → Int) : (Tryz.prog.info? 151).map (·.size) = some (vcells X).size := by kernel_rfl
theorem vone (X : Nat → Int) : (vcells X).all (·.oneCell') = true := by kernel_rfl

set_option maxRecDepth 5000 in
set_option maxHeartbeats 1600000 in
theorem vfsFrom (q g s : Nat) (cs0 : Array Value) (r : Option (List UInt8)) (w0 : World) (hq : w0.heap[q]? = some (.cells cs0 151 (0, 0))) (hsz : cs0.size = 11) (hqg : q ≠ g) (hqs : q ≠ s) (hb : RBuf w0 g 0 s r) :
    Calls Tryz.prog 127 #[.pointer (some ⟨q, 0, none⟩), .pointer (some ⟨g, 0, none⟩)] w0 fun e w' => ∃ v, e = .returned v ∧ errOf (rv r 11) v ∧ w'.heap[q]? = some (.cells (vcells (xv r)) 151 (0, 0)) ∧ UpdB (fun k => k = g ∨ k = q) w0 w' := by
  have hql := lt_of_blk hq
  have R0 := Lib.hid hb
  have U0 := Lib.hid (UpdR.refl g 0 w0)
  have HQ := Lib.hid hq
  clear hb hq
  go_enter Tryz.func127, Tryz.ntmps127
  go_wp2_with fail
  refine (consume64 g 0 s (rv r 0) w0 R0.out).mono ?_
  rintro e w1 ⟨rfl, hb, hu⟩
  have R1 := Lib.hid (show RBuf w1 g 0 s (rv r 1) from hb)
  have U1 := Lib.hid (U0.out.trans hu)
  clear hb hu R0 U0
  go_wp2_with fail
  refine (consume64 g 0 s (rv r 1) w1 R1.out).mono ?_
  rintro e w2 ⟨rfl, hb, hu⟩
  have R2 := Lib.hid (show RBuf w2 g 0 s (rv r 2) from hb)
  have U2 := Lib.hid (U1.out.trans hu)
  clear hb hu R1 U1
  go_wp2_with fail
  refine (consume64 g 0 s (rv r 2) w2 R2.out).mono ?_
  rintro e w3 ⟨rfl, hb, hu⟩
  have R3 := Lib.hid (show RBuf w3 g 0 s (rv r 3) from hb)
  have U3 := Lib.hid (U2.out.trans hu)
  clear hb hu R2 U2
  go_wp2_with fail
  refine (consume64 g 0 s (rv r 3) w3 R3.out).mono ?_
  rintro e w4 ⟨rfl, hb, hu⟩
  have R4 := Lib.hid (show RBuf w4 g 0 s (rv r 4) from hb)
  have U4 := Lib.hid (U3.out.trans hu)
  clear hb hu R3 U3
  go_wp2_with fail
  refine (consume64 g 0 s (rv r 4) w4 R4.out).mono ?_
  rintro e w5 ⟨rfl, hb, hu⟩
  have R5 := Lib.hid (show RBuf w5 g 0 s (rv r 5) from hb)
  have U5 := Lib.hid (U4.out.trans hu)
  clear hb hu R4 U4
  go_wp2_with fail
  refine (consume64 g 0 s (rv r 5) w5 R5.out).mono ?_
  rintro e w6 ⟨rfl, hb, hu⟩
  have R6 := Lib.hid (show RBuf w6 g 0 s (rv r 6) from hb)
  have U6 := Lib.hid (U5.out.trans hu)
  clear hb hu R5 U5
  go_wp2_with fail
  refine (consume64 g 0 s (rv r 6) w6 R6.out).mono ?_
  rintro e w7 ⟨rfl, hb, hu⟩
  have R7 := Lib.hid (show RBuf w7 g 0 s (rv r 7) from hb)
  have U7 := Lib.hid (U6.out.trans hu)
  clear hb hu R6 U6
  go_wp2_with fail
  refine (consume64 g 0 s (rv r 7) w7 R7.out).mono ?_
  rintro e w8 ⟨rfl, hb, hu⟩
  have R8 := Lib.hid (show RBuf w8 g 0 s (rv r 8) from hb)
  have U8 := Lib.hid (U7.out.trans hu)
  clear hb hu R7 U7
  go_wp2_with fail
  refine (consume64 g 0 s (rv r 8) w8 R8.out).mono ?_
  rintro e w9 ⟨rfl, hb, hu⟩
  have R9 := Lib.hid (show RBuf w9 g 0 s (rv r 9) from hb)
  have U9 := Lib.hid (U8.out.trans hu)
  clear hb hu R8 U8
  go_wp2_with fail
  refine (consume64 g 0 s (rv r 9) w9 R9.out).mono ?_
  rintro e w10 ⟨rfl, hb, hu⟩
  have R10 := Lib.hid (show RBuf w10 g 0 s (rv r 10) from hb)
  have U10 := Lib.hid (U9.out.trans hu)
  clear hb hu R9 U9
  go_wp2_with fail
  refine (consume64 g 0 s (rv r 10) w10 R10.out).mono ?_
  rintro e w11 ⟨rfl, hb, hu⟩
  have R11 := Lib.hid (show RBuf w11 g 0 s (rv r 11) from hb)
  have U11 := Lib.hid (U10.out.trans hu)
  clear hb hu R10 U10
  have hq11 : w11.heap[q]? = some (.cells cs0 151 (0, 0)) := by rw [U11.out.block q hql hqg]; exact HQ.out
  generalize hW : w11.setRow q (vcells (xv r)) = W
  have hbW : RBuf W g 0 s (rv r 11) := by rw [← hW]; exact R11.out.kept (setRow_other _ _ _ _ (Ne.symm hqg)) (setRow_other _ _ _ _ (Ne.symm hqs)) (by rw [setRow_size]; exact Nat.le_refl _)
  have hqW : W.heap[q]? = some (.cells (vcells (xv r)) 151 (0, 0)) := by rw [← hW]; exact setRow_heap _ _ _ _ _ _ hq11
  have hUW : UpdB (fun k => k = g ∨ k = q) w0 W := by
    rw [← hW]
    exact ((U11.out.updB (ks := fun k => k = g ∨ k = q) (.inl rfl))).trans ⟨rfl, rfl, rfl, by rw [setRow_size]; exact Nat.le_refl _, fun k _ e => setRow_other _ _ _ _ (fun e2 => e (.inr e2))⟩
  obtain ⟨v, cv, hv⟩ := hbW.err
  have X := Lib.hid hW
  have HB := Lib.hid hqW
  have HU := Lib.hid hUW
  have HV := Lib.hid hv
  have H11 := Lib.hid hq11
  clear hbW hqW hUW hv hq11 hW R11 U11 HQ
  go_wp2_with (first
    | refine wpList_buildTo rfl 151 _ rfl (some 28) rfl (vcells (xv r)) (by as_aux_lemma => kernel_rfl) ?_
    | (refine wpList_store_row rfl 151 _ _ rfl q (vcells (xv r)) rfl rfl 151 cs0 H11.out (vinfo _) hsz (vone _) ?_; rw [X.out]))
  go_ret
  exact ⟨v, rfl, HV.out, HB.out, HU.out⟩
end Go.Proofs.YtmenkckgpiafiaaGreat
