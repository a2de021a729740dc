/-
  No cell of these rows narrows 'for every input' (looked for: loops, veiled, ifaces, maps, wideKeys, modest, calm, conditions, laid).
  DERIVED. THE GIVEN ROWS OF THIS SEAT. 5 by the template 'for every input the law returns true; each argument reads behind the call as it read before'; 0 by the template 'total and deterministic' (their statements: YtgnficcjnijdbaaGreatTotals.lean).
  GIVEN WITH THE SEED: the statements are not yours to turn. If you find one false, say at which input.
  Laid BY PROGRAM, IN A SANDBOX (cutbox-rows.mjs): the forced cells as the released guide's own fill.sh prints them over the translation 641372edd8c4714c… (all of the seat's roots in one cut). By AI agents, Wed Nov 11 2026. No macro, syntax, notation, axiom, sorry.
-/
import Derived.Test.YtgnficcjnijdbaaGreatChecked
import GoSem.Claim
import GoSem.ClaimJoined
import GoSem.ClaimMapViews
import Derived.JoinedTies
import Derived.KernelRfl
namespace Go.Proofs.YtgnficcjnijdbaaGreat
/- THE CELL 'sum', in the pinned program and in every row, IS THE sha256 OF THE DUMP (.gsa) THAT YtgnficcjnijdbaaGreatProg.lean LOADS. Nothing in Lean hashes anything: it is a label: what it is worth is what the hold of that sum in a sandbox is worth. -/
noncomputable def Tryz.pinned : Pinned := { name := "ytgnficcjnijdbaagreat", sum := "641372edd8c4714c579ed637ce6c92a4acadd8f0893a93db4bcb730c30e420d1", checked := Tryz.checked }
namespace Rows
def none {H : Type} : Left H := { results := [], args := [] }

/-- 'laws.FnWireBack': WHATEVER THE INPUT: true; the input reads as it did. -/
def fnWireBackSpec : ChangeSpec := { name := "fnWireBack", fn := fun _ => fun
  | [d] => { results := [.lit (.bool true)], args := [d] }
  | _ => none }
def fnWireBackRow : OpenClaim := { program := "ytgnficcjnijdbaagreat", sum := "641372edd8c4714c579ed637ce6c92a4acadd8f0893a93db4bcb730c30e420d1", func := "pub-gabbart/laws.FnWireBack", spec := "fnWireBack", unfollowed := true, recurses := true, apart := false }
def FnWireBackSaid : Prop := fnWireBackRow.holds Tryz.pinned (OpenSpec.ofChange fnWireBackSpec)

/-- ITS FALSE NEIGHBOUR: 'it returns false'. Refute it at one input. -/
def fnWireBackWrong : ChangeSpec := { name := "fnWireBack", fn := fun _ => fun
  | [d] => { results := [.lit (.bool false)], args := [d] }
  | _ => none }
def FnWireBackWrongFalsely : Prop := fnWireBackRow.holds Tryz.pinned (OpenSpec.ofChange fnWireBackWrong)

/-- 'laws.FnWireForm': WHATEVER THE INPUT: true; the input reads as it did. -/
def fnWireFormSpec : ChangeSpec := { name := "fnWireForm", fn := fun _ => fun
  | [d] => { results := [.lit (.bool true)], args := [d] }
  | _ => none }
def fnWireFormRow : OpenClaim := { program := "ytgnficcjnijdbaagreat", sum := "641372edd8c4714c579ed637ce6c92a4acadd8f0893a93db4bcb730c30e420d1", func := "pub-gabbart/laws.FnWireForm", spec := "fnWireForm", unfollowed := true, recurses := true, apart := false }
def FnWireFormSaid : Prop := fnWireFormRow.holds Tryz.pinned (OpenSpec.ofChange fnWireFormSpec)

/-- ITS FALSE NEIGHBOUR: 'it returns false'. Refute it at one input. -/
def fnWireFormWrong : ChangeSpec := { name := "fnWireForm", fn := fun _ => fun
  | [d] => { results := [.lit (.bool false)], args := [d] }
  | _ => none }
def FnWireFormWrongFalsely : Prop := fnWireFormRow.holds Tryz.pinned (OpenSpec.ofChange fnWireFormWrong)

/-- 'laws.FnWireLong': WHATEVER THE INPUT: true; the input reads as it did. -/
def fnWireLongSpec : ChangeSpec := { name := "fnWireLong", fn := fun _ => fun
  | [d1, d2] => { results := [.lit (.bool true)], args := [d1, d2] }
  | _ => none }
def fnWireLongRow : OpenClaim := { program := "ytgnficcjnijdbaagreat", sum := "641372edd8c4714c579ed637ce6c92a4acadd8f0893a93db4bcb730c30e420d1", func := "pub-gabbart/laws.FnWireLong", spec := "fnWireLong", unfollowed := true, recurses := true, apart := false }
def FnWireLongSaid : Prop := fnWireLongRow.holds Tryz.pinned (OpenSpec.ofChange fnWireLongSpec)

/-- ITS FALSE NEIGHBOUR: 'it returns false'. Refute it at one input. -/
def fnWireLongWrong : ChangeSpec := { name := "fnWireLong", fn := fun _ => fun
  | [d1, d2] => { results := [.lit (.bool false)], args := [d1, d2] }
  | _ => none }
def FnWireLongWrongFalsely : Prop := fnWireLongRow.holds Tryz.pinned (OpenSpec.ofChange fnWireLongWrong)

/-- 'laws.FnWireShort': WHATEVER THE INPUT: true; the input reads as it did. -/
def fnWireShortSpec : ChangeSpec := { name := "fnWireShort", fn := fun _ => fun
  | [d1, d2] => { results := [.lit (.bool true)], args := [d1, d2] }
  | _ => none }
def fnWireShortRow : OpenClaim := { program := "ytgnficcjnijdbaagreat", sum := "641372edd8c4714c579ed637ce6c92a4acadd8f0893a93db4bcb730c30e420d1", func := "pub-gabbart/laws.FnWireShort", spec := "fnWireShort", unfollowed := true, recurses := true, apart := false }
def FnWireShortSaid : Prop := fnWireShortRow.holds Tryz.pinned (OpenSpec.ofChange fnWireShortSpec)

/-- ITS FALSE NEIGHBOUR: 'it returns false'. Refute it at one input. -/
def fnWireShortWrong : ChangeSpec := { name := "fnWireShort", fn := fun _ => fun
  | [d1, d2] => { results := [.lit (.bool false)], args := [d1, d2] }
  | _ => none }
def FnWireShortWrongFalsely : Prop := fnWireShortRow.holds Tryz.pinned (OpenSpec.ofChange fnWireShortWrong)

/-- 'laws.FnWireTwo': WHATEVER THE INPUT: true; the input reads as it did. -/
def fnWireTwoSpec : ChangeSpec := { name := "fnWireTwo", fn := fun _ => fun
  | [d1, d2] => { results := [.lit (.bool true)], args := [d1, d2] }
  | _ => none }
def fnWireTwoRow : OpenClaim := { program := "ytgnficcjnijdbaagreat", sum := "641372edd8c4714c579ed637ce6c92a4acadd8f0893a93db4bcb730c30e420d1", func := "pub-gabbart/laws.FnWireTwo", spec := "fnWireTwo", unfollowed := true, recurses := true, apart := false }
def FnWireTwoSaid : Prop := fnWireTwoRow.holds Tryz.pinned (OpenSpec.ofChange fnWireTwoSpec)

/-- ITS FALSE NEIGHBOUR: 'it returns false'. Refute it at one input. -/
def fnWireTwoWrong : ChangeSpec := { name := "fnWireTwo", fn := fun _ => fun
  | [d1, d2] => { results := [.lit (.bool false)], args := [d1, d2] }
  | _ => none }
def FnWireTwoWrongFalsely : Prop := fnWireTwoRow.holds Tryz.pinned (OpenSpec.ofChange fnWireTwoWrong)

/- THE SECOND FORM. 'bulk': how many values and letters a reading holds, each counted each time it is reached (what is shared counts as often as it is met; a slice's spare places count too). A statement '..UptoSaid' is the law's where the arguments, and the package variables that the reading takes, are together of bulk at most 1048576: NARROWER than '..Said'. Prove '..Said' where nothing that the law and all that it calls make is longer than what came in: it says more and counts as full. Else prove '..UptoSaid'. A law counts once. -/
mutual
def uptoBulk {H : Type} : DataW H → Nat
  | .lit (.string bytes) => bytes.length + 1
  | .lit _ => 1
  | .nil => 1
  | .ptr d => uptoBulk d + 1
  | .slice elems spare => uptoBulkAll elems + uptoBulkAll spare + 1
  | .agg parts => uptoBulkAll parts + 1
  | .iface _ d => uptoBulk d + 1
  | .map entries => uptoBulkEntries entries + 1
  | .held _ => 1
def uptoBulkAll {H : Type} : List (DataW H) → Nat
  | [] => 0
  | d :: r => uptoBulk d + uptoBulkAll r
def uptoBulkEntries {H : Type} : List (Lit × DataW H) → Nat
  | [] => 0
  | x :: r => uptoBulkEntry x + uptoBulkEntries r
def uptoBulkEntry {H : Type} : Lit × DataW H → Nat
  | (.string bytes, d) => bytes.length + uptoBulk d + 1
  | (_, d) => uptoBulk d + 1
 end
def uptoSmall : (H : Type) → List (DataW H) → Bool := fun _ ds => decide (uptoBulkAll ds ≤ 1048576)
def OpenSpec.upto (s : _root_.Go.ChangeSpec) : _root_.Go.OpenSpec := { _root_.Go.OpenSpec.ofChange s with cond := some uptoSmall }

/-- 'laws.FnWireBack', WHERE WHAT IT READS IS OF BULK AT MOST 1048576: true; the input reads as it did. -/
def fnWireBackUptoRow : OpenClaim := { program := "ytgnficcjnijdbaagreat", sum := "641372edd8c4714c579ed637ce6c92a4acadd8f0893a93db4bcb730c30e420d1", func := "pub-gabbart/laws.FnWireBack", spec := "fnWireBack", unfollowed := true, recurses := true, apart := false, narrowed := true }
def FnWireBackUptoSaid : Prop := fnWireBackUptoRow.holds Tryz.pinned (OpenSpec.upto fnWireBackSpec)

/-- 'laws.FnWireForm', WHERE WHAT IT READS IS OF BULK AT MOST 1048576: true; the input reads as it did. -/
def fnWireFormUptoRow : OpenClaim := { program := "ytgnficcjnijdbaagreat", sum := "641372edd8c4714c579ed637ce6c92a4acadd8f0893a93db4bcb730c30e420d1", func := "pub-gabbart/laws.FnWireForm", spec := "fnWireForm", unfollowed := true, recurses := true, apart := false, narrowed := true }
def FnWireFormUptoSaid : Prop := fnWireFormUptoRow.holds Tryz.pinned (OpenSpec.upto fnWireFormSpec)

/-- 'laws.FnWireLong', WHERE WHAT IT READS IS OF BULK AT MOST 1048576: true; the input reads as it did. -/
def fnWireLongUptoRow : OpenClaim := { program := "ytgnficcjnijdbaagreat", sum := "641372edd8c4714c579ed637ce6c92a4acadd8f0893a93db4bcb730c30e420d1", func := "pub-gabbart/laws.FnWireLong", spec := "fnWireLong", unfollowed := true, recurses := true, apart := false, narrowed := true }
def FnWireLongUptoSaid : Prop := fnWireLongUptoRow.holds Tryz.pinned (OpenSpec.upto fnWireLongSpec)

/-- 'laws.FnWireShort', WHERE WHAT IT READS IS OF BULK AT MOST 1048576: true; the input reads as it did. -/
def fnWireShortUptoRow : OpenClaim := { program := "ytgnficcjnijdbaagreat", sum := "641372edd8c4714c579ed637ce6c92a4acadd8f0893a93db4bcb730c30e420d1", func := "pub-gabbart/laws.FnWireShort", spec := "fnWireShort", unfollowed := true, recurses := true, apart := false, narrowed := true }
def FnWireShortUptoSaid : Prop := fnWireShortUptoRow.holds Tryz.pinned (OpenSpec.upto fnWireShortSpec)

/-- 'laws.FnWireTwo', WHERE WHAT IT READS IS OF BULK AT MOST 1048576: true; the input reads as it did. -/
def fnWireTwoUptoRow : OpenClaim := { program := "ytgnficcjnijdbaagreat", sum := "641372edd8c4714c579ed637ce6c92a4acadd8f0893a93db4bcb730c30e420d1", func := "pub-gabbart/laws.FnWireTwo", spec := "fnWireTwo", unfollowed := true, recurses := true, apart := false, narrowed := true }
def FnWireTwoUptoSaid : Prop := fnWireTwoUptoRow.holds Tryz.pinned (OpenSpec.upto fnWireTwoSpec)

end Rows
end Go.Proofs.YtgnficcjnijdbaaGreat
