/-
  The seam's packets: a close packet's fields; impl.body at it.
-/
import Derived.Test.YtmenkckgpiafiaaGreatM
import Derived.Test.YtmenkckgpiafiaaGreatD
import Derived.Defers
import Derived.Recover
import Derived.Great.Walk
namespace Go.Proofs.YtmenkckgpiafiaaGreat
open Go.RowKit Go.Great

section
variable {P : Program} {ops : Array Oper} {rest : List Oper} {o : Oper} {a : Act} {Q : Exit → Act → World → Prop} {w : World}
/-- At one operation, told by its slot: the walk may be stopped there to write its world anew. -/
theorem at_dst (n : Nat) (_hd : o.dst = some n) (h : wpList P ops Q (o :: rest) a w) : wpList P ops Q (o :: rest) a w := h
end

def es : Value := .string ⟨#[]⟩
def n32 (x : Int) : Value := .int .u32 x
def nilS : Value := .slice none 0 0
/-- A close packet of the seam. -/
def pClose (id : Int) (h : ByteArray) : Array Value :=
  #[.int .i64 4, n32 id, es, es, .string h, .int .u64 0, n32 0, n32 0, es, n32 0, .int .u64 0, n32 0, n32 0, n32 0, n32 0, n32 0, nilS, nilS, nilS, n32 0, n32 0, es, es, es]
/-- The seam's packet of zeros. -/
def pZero : Array Value :=
  #[.int .i64 0, n32 0, es, es, es, .int .u64 0, n32 0, n32 0, es, n32 0, .int .u64 0, n32 0, n32 0, n32 0, n32 0, n32 0, nilS, nilS, nilS, n32 0, n32 0, es, es, es]

set_option maxRecDepth 5000 in
set_option maxHeartbeats 1600000 in
theorem bodyClose (id : Int) (h : ByteArray) (w : World) :
    Calls Tryz.prog 54 #[.agg (pClose id h)] w fun e w' => (∃ b, e = .returned (.iface 187 (.pointer (some ⟨b, 0, none⟩))) ∧ w'.heap[b]? = some (.cells #[.string h] 189 (0, 0))) ∧ Below w.heap.size w w' := by
  have hb := heap_alloc_new w (.cells (pClose id h) 29 (0, 0))
  have hbl : Below w.heap.size w (w.alloc (.cells (pClose id h) 29)) := (Below.refl _ _).alloc (Nat.le_refl _) _
  generalize hW : w.alloc (.cells (pClose id h) 29) = W at hb hbl
  have c0 : W.cell? ⟨w.heap.size, 0, none⟩ = some (.int .i64 4) := by rw [cell_of_blk hb]; rfl
  have c4 : W.cell? ⟨w.heap.size, 4, none⟩ = some (.string h) := by rw [cell_of_blk hb]; rfl
  have HB := Lib.hid hbl
  have HW := Lib.hid hW
  clear hb hbl hW
  go_enter Tryz.func54, Tryz.ntmps54
  go_wp2_with (refine wpList_boxTo rfl 29 _ rfl (some 1) rfl w.heap.size rfl (pClose id h) rfl ?_; rw [HW.out])
  go_ret
  exact ⟨⟨_, rfl, heap_alloc_new _ _⟩, HB.out.alloc (by have := HB.out.size; omega) _⟩
end Go.Proofs.YtmenkckgpiafiaaGreat
