/-
  No cell of these rows narrows 'for every input' (looked for: loops, veiled, ifaces, maps, wideKeys, modest, calm, conditions, laid).
  DERIVED. THE GIVEN ROWS OF THIS SEAT. 15 by the template 'for every input the law returns true; each argument reads behind the call as it read before'; 0 by the template 'total and deterministic' (their statements: YtmenkckgpiafiaaGreatTotals.lean).
  GIVEN WITH THE SEED: the statements are not yours to turn. If you find one false, say at which input.
  Laid BY PROGRAM, IN A SANDBOX (cutbox-rows.mjs): the forced cells as the released guide's own fill.sh prints them over the translation 078da3e1af5ec3a1… (all of the seat's roots in one cut). By AI agents, Wed Nov 11 2026. No macro, syntax, notation, axiom, sorry.
-/
import Derived.Test.YtmenkckgpiafiaaGreatChecked
import GoSem.Claim
import GoSem.ClaimJoined
import GoSem.ClaimMapViews
import Derived.JoinedTies
import Derived.KernelRfl
namespace Go.Proofs.YtmenkckgpiafiaaGreat
/- THE CELL 'sum', in the pinned program and in every row, IS THE sha256 OF THE DUMP (.gsa) THAT YtmenkckgpiafiaaGreatProg.lean LOADS. Nothing in Lean hashes anything: it is a label: what it is worth is what the hold of that sum in a sandbox is worth. -/
noncomputable def Tryz.pinned : Pinned := { name := "ytmenkckgpiafiaagreat", sum := "078da3e1af5ec3a158d6bbaed65a19c5628215c836bca0fd59d7ddb99a54dd70", checked := Tryz.checked }
namespace Rows
def none {H : Type} : Left H := { results := [], args := [] }

/-- 'laws.FnWireBack': WHATEVER THE INPUT: true; the input reads as it did. -/
def fnWireBackSpec : ChangeSpec := { name := "fnWireBack", fn := fun _ => fun
  | [d] => { results := [.lit (.bool true)], args := [d] }
  | _ => none }
def fnWireBackRow : OpenClaim := { program := "ytmenkckgpiafiaagreat", sum := "078da3e1af5ec3a158d6bbaed65a19c5628215c836bca0fd59d7ddb99a54dd70", func := "pub-gabbart/laws.FnWireBack", spec := "fnWireBack", unfollowed := true, recurses := true, apart := false }
def FnWireBackSaid : Prop := fnWireBackRow.holds Tryz.pinned (OpenSpec.ofChange fnWireBackSpec)

/-- ITS FALSE NEIGHBOUR: 'it returns false'. Refute it at one input. -/
def fnWireBackWrong : ChangeSpec := { name := "fnWireBack", fn := fun _ => fun
  | [d] => { results := [.lit (.bool false)], args := [d] }
  | _ => none }
def FnWireBackWrongFalsely : Prop := fnWireBackRow.holds Tryz.pinned (OpenSpec.ofChange fnWireBackWrong)

/-- 'laws.FnWireForm': WHATEVER THE INPUT: true; the input reads as it did. -/
def fnWireFormSpec : ChangeSpec := { name := "fnWireForm", fn := fun _ => fun
  | [d] => { results := [.lit (.bool true)], args := [d] }
  | _ => none }
def fnWireFormRow : OpenClaim := { program := "ytmenkckgpiafiaagreat", sum := "078da3e1af5ec3a158d6bbaed65a19c5628215c836bca0fd59d7ddb99a54dd70", func := "pub-gabbart/laws.FnWireForm", spec := "fnWireForm", unfollowed := true, recurses := true, apart := false }
def FnWireFormSaid : Prop := fnWireFormRow.holds Tryz.pinned (OpenSpec.ofChange fnWireFormSpec)

/-- ITS FALSE NEIGHBOUR: 'it returns false'. Refute it at one input. -/
def fnWireFormWrong : ChangeSpec := { name := "fnWireForm", fn := fun _ => fun
  | [d] => { results := [.lit (.bool false)], args := [d] }
  | _ => none }
def FnWireFormWrongFalsely : Prop := fnWireFormRow.holds Tryz.pinned (OpenSpec.ofChange fnWireFormWrong)

/-- 'laws.FnWireLong': WHATEVER THE INPUT: true; the input reads as it did. -/
def fnWireLongSpec : ChangeSpec := { name := "fnWireLong", fn := fun _ => fun
  | [d1, d2] => { results := [.lit (.bool true)], args := [d1, d2] }
  | _ => none }
def fnWireLongRow : OpenClaim := { program := "ytmenkckgpiafiaagreat", sum := "078da3e1af5ec3a158d6bbaed65a19c5628215c836bca0fd59d7ddb99a54dd70", func := "pub-gabbart/laws.FnWireLong", spec := "fnWireLong", unfollowed := true, recurses := true, apart := false }
def FnWireLongSaid : Prop := fnWireLongRow.holds Tryz.pinned (OpenSpec.ofChange fnWireLongSpec)

/-- ITS FALSE NEIGHBOUR: 'it returns false'. Refute it at one input. -/
def fnWireLongWrong : ChangeSpec := { name := "fnWireLong", fn := fun _ => fun
  | [d1, d2] => { results := [.lit (.bool false)], args := [d1, d2] }
  | _ => none }
def FnWireLongWrongFalsely : Prop := fnWireLongRow.holds Tryz.pinned (OpenSpec.ofChange fnWireLongWrong)

/-- 'laws.FnWireShort': WHATEVER THE INPUT: true; the input reads as it did. -/
def fnWireShortSpec : ChangeSpec := { name := "fnWireShort", fn := fun _ => fun
  | [d1, d2] => { results := [.lit (.bool true)], args := [d1, d2] }
  | _ => none }
def fnWireShortRow : OpenClaim := { program := "ytmenkckgpiafiaagreat", sum := "078da3e1af5ec3a158d6bbaed65a19c5628215c836bca0fd59d7ddb99a54dd70", func := "pub-gabbart/laws.FnWireShort", spec := "fnWireShort", unfollowed := true, recurses := true, apart := false }
def FnWireShortSaid : Prop := fnWireShortRow.holds Tryz.pinned (OpenSpec.ofChange fnWireShortSpec)

/-- ITS FALSE NEIGHBOUR: 'it returns false'. Refute it at one input. -/
def fnWireShortWrong : ChangeSpec := { name := "fnWireShort", fn := fun _ => fun
  | [d1, d2] => { results := [.lit (.bool false)], args := [d1, d2] }
  | _ => none }
def FnWireShortWrongFalsely : Prop := fnWireShortRow.holds Tryz.pinned (OpenSpec.ofChange fnWireShortWrong)

/-- 'laws.FnAttrsForm': WHATEVER THE INPUT: true; the input reads as it did. -/
def fnAttrsFormSpec : ChangeSpec := { name := "fnAttrsForm", fn := fun _ => fun
  | [d] => { results := [.lit (.bool true)], args := [d] }
  | _ => none }
def fnAttrsFormRow : OpenClaim := { program := "ytmenkckgpiafiaagreat", sum := "078da3e1af5ec3a158d6bbaed65a19c5628215c836bca0fd59d7ddb99a54dd70", func := "pub-gabbart/laws.FnAttrsForm", spec := "fnAttrsForm", unfollowed := true, recurses := true, apart := false }
def FnAttrsFormSaid : Prop := fnAttrsFormRow.holds Tryz.pinned (OpenSpec.ofChange fnAttrsFormSpec)

/-- ITS FALSE NEIGHBOUR: 'it returns false'. Refute it at one input. -/
def fnAttrsFormWrong : ChangeSpec := { name := "fnAttrsForm", fn := fun _ => fun
  | [d] => { results := [.lit (.bool false)], args := [d] }
  | _ => none }
def FnAttrsFormWrongFalsely : Prop := fnAttrsFormRow.holds Tryz.pinned (OpenSpec.ofChange fnAttrsFormWrong)

/-- 'laws.FnWireTwo': WHATEVER THE INPUT: true; the input reads as it did. -/
def fnWireTwoSpec : ChangeSpec := { name := "fnWireTwo", fn := fun _ => fun
  | [d1, d2] => { results := [.lit (.bool true)], args := [d1, d2] }
  | _ => none }
def fnWireTwoRow : OpenClaim := { program := "ytmenkckgpiafiaagreat", sum := "078da3e1af5ec3a158d6bbaed65a19c5628215c836bca0fd59d7ddb99a54dd70", func := "pub-gabbart/laws.FnWireTwo", spec := "fnWireTwo", unfollowed := true, recurses := true, apart := false }
def FnWireTwoSaid : Prop := fnWireTwoRow.holds Tryz.pinned (OpenSpec.ofChange fnWireTwoSpec)

/-- ITS FALSE NEIGHBOUR: 'it returns false'. Refute it at one input. -/
def fnWireTwoWrong : ChangeSpec := { name := "fnWireTwo", fn := fun _ => fun
  | [d1, d2] => { results := [.lit (.bool false)], args := [d1, d2] }
  | _ => none }
def FnWireTwoWrongFalsely : Prop := fnWireTwoRow.holds Tryz.pinned (OpenSpec.ofChange fnWireTwoWrong)

/-- 'laws.FnAttrsRead': WHATEVER THE INPUT: true; the input reads as it did. -/
def fnAttrsReadSpec : ChangeSpec := { name := "fnAttrsRead", fn := fun _ => fun
  | [d] => { results := [.lit (.bool true)], args := [d] }
  | _ => none }
def fnAttrsReadRow : OpenClaim := { program := "ytmenkckgpiafiaagreat", sum := "078da3e1af5ec3a158d6bbaed65a19c5628215c836bca0fd59d7ddb99a54dd70", func := "pub-gabbart/laws.FnAttrsRead", spec := "fnAttrsRead", unfollowed := true, recurses := true, apart := false }
def FnAttrsReadSaid : Prop := fnAttrsReadRow.holds Tryz.pinned (OpenSpec.ofChange fnAttrsReadSpec)

/-- ITS FALSE NEIGHBOUR: 'it returns false'. Refute it at one input. -/
def fnAttrsReadWrong : ChangeSpec := { name := "fnAttrsRead", fn := fun _ => fun
  | [d] => { results := [.lit (.bool false)], args := [d] }
  | _ => none }
def FnAttrsReadWrongFalsely : Prop := fnAttrsReadRow.holds Tryz.pinned (OpenSpec.ofChange fnAttrsReadWrong)

/-- 'laws.FnModeParts': WHATEVER THE INPUT: true; the input reads as it did. -/
def fnModePartsSpec : ChangeSpec := { name := "fnModeParts", fn := fun _ => fun
  | [d] => { results := [.lit (.bool true)], args := [d] }
  | _ => none }
def fnModePartsRow : OpenClaim := { program := "ytmenkckgpiafiaagreat", sum := "078da3e1af5ec3a158d6bbaed65a19c5628215c836bca0fd59d7ddb99a54dd70", func := "pub-gabbart/laws.FnModeParts", spec := "fnModeParts", unfollowed := true, recurses := true, apart := false }
def FnModePartsSaid : Prop := fnModePartsRow.holds Tryz.pinned (OpenSpec.ofChange fnModePartsSpec)

/-- ITS FALSE NEIGHBOUR: 'it returns false'. Refute it at one input. -/
def fnModePartsWrong : ChangeSpec := { name := "fnModeParts", fn := fun _ => fun
  | [d] => { results := [.lit (.bool false)], args := [d] }
  | _ => none }
def FnModePartsWrongFalsely : Prop := fnModePartsRow.holds Tryz.pinned (OpenSpec.ofChange fnModePartsWrong)

/-- 'laws.FnVFSBack': WHATEVER THE INPUT: true; the input reads as it did. -/
def fnVFSBackSpec : ChangeSpec := { name := "fnVFSBack", fn := fun _ => fun
  | [d] => { results := [.lit (.bool true)], args := [d] }
  | _ => none }
def fnVFSBackRow : OpenClaim := { program := "ytmenkckgpiafiaagreat", sum := "078da3e1af5ec3a158d6bbaed65a19c5628215c836bca0fd59d7ddb99a54dd70", func := "pub-gabbart/laws.FnVFSBack", spec := "fnVFSBack", unfollowed := true, recurses := true, apart := false }
def FnVFSBackSaid : Prop := fnVFSBackRow.holds Tryz.pinned (OpenSpec.ofChange fnVFSBackSpec)

/-- ITS FALSE NEIGHBOUR: 'it returns false'. Refute it at one input. -/
def fnVFSBackWrong : ChangeSpec := { name := "fnVFSBack", fn := fun _ => fun
  | [d] => { results := [.lit (.bool false)], args := [d] }
  | _ => none }
def FnVFSBackWrongFalsely : Prop := fnVFSBackRow.holds Tryz.pinned (OpenSpec.ofChange fnVFSBackWrong)

/-- 'laws.FnAttrsShort': WHATEVER THE INPUT: true; the input reads as it did. -/
def fnAttrsShortSpec : ChangeSpec := { name := "fnAttrsShort", fn := fun _ => fun
  | [d1, d2] => { results := [.lit (.bool true)], args := [d1, d2] }
  | _ => none }
def fnAttrsShortRow : OpenClaim := { program := "ytmenkckgpiafiaagreat", sum := "078da3e1af5ec3a158d6bbaed65a19c5628215c836bca0fd59d7ddb99a54dd70", func := "pub-gabbart/laws.FnAttrsShort", spec := "fnAttrsShort", unfollowed := true, recurses := true, apart := false }
def FnAttrsShortSaid : Prop := fnAttrsShortRow.holds Tryz.pinned (OpenSpec.ofChange fnAttrsShortSpec)

/-- ITS FALSE NEIGHBOUR: 'it returns false'. Refute it at one input. -/
def fnAttrsShortWrong : ChangeSpec := { name := "fnAttrsShort", fn := fun _ => fun
  | [d1, d2] => { results := [.lit (.bool false)], args := [d1, d2] }
  | _ => none }
def FnAttrsShortWrongFalsely : Prop := fnAttrsShortRow.holds Tryz.pinned (OpenSpec.ofChange fnAttrsShortWrong)

/-- 'laws.FnAttrsTell': WHATEVER THE INPUT: true; the input reads as it did. -/
def fnAttrsTellSpec : ChangeSpec := { name := "fnAttrsTell", fn := fun _ => fun
  | [d] => { results := [.lit (.bool true)], args := [d] }
  | _ => none }
def fnAttrsTellRow : OpenClaim := { program := "ytmenkckgpiafiaagreat", sum := "078da3e1af5ec3a158d6bbaed65a19c5628215c836bca0fd59d7ddb99a54dd70", func := "pub-gabbart/laws.FnAttrsTell", spec := "fnAttrsTell", unfollowed := true, recurses := true, apart := false }
def FnAttrsTellSaid : Prop := fnAttrsTellRow.holds Tryz.pinned (OpenSpec.ofChange fnAttrsTellSpec)

/-- ITS FALSE NEIGHBOUR: 'it returns false'. Refute it at one input. -/
def fnAttrsTellWrong : ChangeSpec := { name := "fnAttrsTell", fn := fun _ => fun
  | [d] => { results := [.lit (.bool false)], args := [d] }
  | _ => none }
def FnAttrsTellWrongFalsely : Prop := fnAttrsTellRow.holds Tryz.pinned (OpenSpec.ofChange fnAttrsTellWrong)

/-- 'laws.FnAttrsBack': WHATEVER THE INPUT: true; the input reads as it did. -/
def fnAttrsBackSpec : ChangeSpec := { name := "fnAttrsBack", fn := fun _ => fun
  | [d] => { results := [.lit (.bool true)], args := [d] }
  | _ => none }
def fnAttrsBackRow : OpenClaim := { program := "ytmenkckgpiafiaagreat", sum := "078da3e1af5ec3a158d6bbaed65a19c5628215c836bca0fd59d7ddb99a54dd70", func := "pub-gabbart/laws.FnAttrsBack", spec := "fnAttrsBack", unfollowed := true, recurses := true, apart := false }
def FnAttrsBackSaid : Prop := fnAttrsBackRow.holds Tryz.pinned (OpenSpec.ofChange fnAttrsBackSpec)

/-- ITS FALSE NEIGHBOUR: 'it returns false'. Refute it at one input. -/
def fnAttrsBackWrong : ChangeSpec := { name := "fnAttrsBack", fn := fun _ => fun
  | [d] => { results := [.lit (.bool false)], args := [d] }
  | _ => none }
def FnAttrsBackWrongFalsely : Prop := fnAttrsBackRow.holds Tryz.pinned (OpenSpec.ofChange fnAttrsBackWrong)

/-- 'laws.FnAttrsSet': WHATEVER THE INPUT: true; the input reads as it did. -/
def fnAttrsSetSpec : ChangeSpec := { name := "fnAttrsSet", fn := fun _ => fun
  | [d1, d2, d3, d4] => { results := [.lit (.bool true)], args := [d1, d2, d3, d4] }
  | _ => none }
def fnAttrsSetRow : OpenClaim := { program := "ytmenkckgpiafiaagreat", sum := "078da3e1af5ec3a158d6bbaed65a19c5628215c836bca0fd59d7ddb99a54dd70", func := "pub-gabbart/laws.FnAttrsSet", spec := "fnAttrsSet", unfollowed := true, recurses := true, apart := false }
def FnAttrsSetSaid : Prop := fnAttrsSetRow.holds Tryz.pinned (OpenSpec.ofChange fnAttrsSetSpec)

/-- ITS FALSE NEIGHBOUR: 'it returns false'. Refute it at one input. -/
def fnAttrsSetWrong : ChangeSpec := { name := "fnAttrsSet", fn := fun _ => fun
  | [d1, d2, d3, d4] => { results := [.lit (.bool false)], args := [d1, d2, d3, d4] }
  | _ => none }
def FnAttrsSetWrongFalsely : Prop := fnAttrsSetRow.holds Tryz.pinned (OpenSpec.ofChange fnAttrsSetWrong)

/-- 'laws.FnModeText': WHATEVER THE INPUT: true; the input reads as it did. -/
def fnModeTextSpec : ChangeSpec := { name := "fnModeText", fn := fun _ => fun
  | [d] => { results := [.lit (.bool true)], args := [d] }
  | _ => none }
def fnModeTextRow : OpenClaim := { program := "ytmenkckgpiafiaagreat", sum := "078da3e1af5ec3a158d6bbaed65a19c5628215c836bca0fd59d7ddb99a54dd70", func := "pub-gabbart/laws.FnModeText", spec := "fnModeText", unfollowed := true, recurses := true, apart := false }
def FnModeTextSaid : Prop := fnModeTextRow.holds Tryz.pinned (OpenSpec.ofChange fnModeTextSpec)

/-- ITS FALSE NEIGHBOUR: 'it returns false'. Refute it at one input. -/
def fnModeTextWrong : ChangeSpec := { name := "fnModeText", fn := fun _ => fun
  | [d] => { results := [.lit (.bool false)], args := [d] }
  | _ => none }
def FnModeTextWrongFalsely : Prop := fnModeTextRow.holds Tryz.pinned (OpenSpec.ofChange fnModeTextWrong)

/-- 'laws.FnBuffer': WHATEVER THE INPUT: true; the input reads as it did. -/
def fnBufferSpec : ChangeSpec := { name := "fnBuffer", fn := fun _ => fun
  | [d1, d2] => { results := [.lit (.bool true)], args := [d1, d2] }
  | _ => none }
def fnBufferRow : OpenClaim := { program := "ytmenkckgpiafiaagreat", sum := "078da3e1af5ec3a158d6bbaed65a19c5628215c836bca0fd59d7ddb99a54dd70", func := "pub-gabbart/laws.FnBuffer", spec := "fnBuffer", unfollowed := true, recurses := true, apart := false }
def FnBufferSaid : Prop := fnBufferRow.holds Tryz.pinned (OpenSpec.ofChange fnBufferSpec)

/-- ITS FALSE NEIGHBOUR: 'it returns false'. Refute it at one input. -/
def fnBufferWrong : ChangeSpec := { name := "fnBuffer", fn := fun _ => fun
  | [d1, d2] => { results := [.lit (.bool false)], args := [d1, d2] }
  | _ => none }
def FnBufferWrongFalsely : Prop := fnBufferRow.holds Tryz.pinned (OpenSpec.ofChange fnBufferWrong)

/- THE SECOND FORM. 'bulk': how many values and letters a reading holds, each counted each time it is reached (what is shared counts as often as it is met; a slice's spare places count too). A statement '..UptoSaid' is the law's where the arguments, and the package variables that the reading takes, are together of bulk at most 1048576: NARROWER than '..Said'. Prove '..Said' where nothing that the law and all that it calls make is longer than what came in: it says more and counts as full. Else prove '..UptoSaid'. A law counts once. -/
mutual
def uptoBulk {H : Type} : DataW H → Nat
  | .lit (.string bytes) => bytes.length + 1
  | .lit _ => 1
  | .nil => 1
  | .ptr d => uptoBulk d + 1
  | .slice elems spare => uptoBulkAll elems + uptoBulkAll spare + 1
  | .agg parts => uptoBulkAll parts + 1
  | .iface _ d => uptoBulk d + 1
  | .map entries => uptoBulkEntries entries + 1
  | .held _ => 1
def uptoBulkAll {H : Type} : List (DataW H) → Nat
  | [] => 0
  | d :: r => uptoBulk d + uptoBulkAll r
def uptoBulkEntries {H : Type} : List (Lit × DataW H) → Nat
  | [] => 0
  | x :: r => uptoBulkEntry x + uptoBulkEntries r
def uptoBulkEntry {H : Type} : Lit × DataW H → Nat
  | (.string bytes, d) => bytes.length + uptoBulk d + 1
  | (_, d) => uptoBulk d + 1
 end
def uptoSmall : (H : Type) → List (DataW H) → Bool := fun _ ds => decide (uptoBulkAll ds ≤ 1048576)
def OpenSpec.upto (s : _root_.Go.ChangeSpec) : _root_.Go.OpenSpec := { _root_.Go.OpenSpec.ofChange s with cond := some uptoSmall }

/-- 'laws.FnWireBack', WHERE WHAT IT READS IS OF BULK AT MOST 1048576: true; the input reads as it did. -/
def fnWireBackUptoRow : OpenClaim := { program := "ytmenkckgpiafiaagreat", sum := "078da3e1af5ec3a158d6bbaed65a19c5628215c836bca0fd59d7ddb99a54dd70", func := "pub-gabbart/laws.FnWireBack", spec := "fnWireBack", unfollowed := true, recurses := true, apart := false, narrowed := true }
def FnWireBackUptoSaid : Prop := fnWireBackUptoRow.holds Tryz.pinned (OpenSpec.upto fnWireBackSpec)

/-- 'laws.FnWireForm', WHERE WHAT IT READS IS OF BULK AT MOST 1048576: true; the input reads as it did. -/
def fnWireFormUptoRow : OpenClaim := { program := "ytmenkckgpiafiaagreat", sum := "078da3e1af5ec3a158d6bbaed65a19c5628215c836bca0fd59d7ddb99a54dd70", func := "pub-gabbart/laws.FnWireForm", spec := "fnWireForm", unfollowed := true, recurses := true, apart := false, narrowed := true }
def FnWireFormUptoSaid : Prop := fnWireFormUptoRow.holds Tryz.pinned (OpenSpec.upto fnWireFormSpec)

/-- 'laws.FnWireLong', WHERE WHAT IT READS IS OF BULK AT MOST 1048576: true; the input reads as it did. -/
def fnWireLongUptoRow : OpenClaim := { program := "ytmenkckgpiafiaagreat", sum := "078da3e1af5ec3a158d6bbaed65a19c5628215c836bca0fd59d7ddb99a54dd70", func := "pub-gabbart/laws.FnWireLong", spec := "fnWireLong", unfollowed := true, recurses := true, apart := false, narrowed := true }
def FnWireLongUptoSaid : Prop := fnWireLongUptoRow.holds Tryz.pinned (OpenSpec.upto fnWireLongSpec)

/-- 'laws.FnWireShort', WHERE WHAT IT READS IS OF BULK AT MOST 1048576: true; the input reads as it did. -/
def fnWireShortUptoRow : OpenClaim := { program := "ytmenkckgpiafiaagreat", sum := "078da3e1af5ec3a158d6bbaed65a19c5628215c836bca0fd59d7ddb99a54dd70", func := "pub-gabbart/laws.FnWireShort", spec := "fnWireShort", unfollowed := true, recurses := true, apart := false, narrowed := true }
def FnWireShortUptoSaid : Prop := fnWireShortUptoRow.holds Tryz.pinned (OpenSpec.upto fnWireShortSpec)

/-- 'laws.FnAttrsForm', WHERE WHAT IT READS IS OF BULK AT MOST 1048576: true; the input reads as it did. -/
def fnAttrsFormUptoRow : OpenClaim := { program := "ytmenkckgpiafiaagreat", sum := "078da3e1af5ec3a158d6bbaed65a19c5628215c836bca0fd59d7ddb99a54dd70", func := "pub-gabbart/laws.FnAttrsForm", spec := "fnAttrsForm", unfollowed := true, recurses := true, apart := false, narrowed := true }
def FnAttrsFormUptoSaid : Prop := fnAttrsFormUptoRow.holds Tryz.pinned (OpenSpec.upto fnAttrsFormSpec)

/-- 'laws.FnWireTwo', WHERE WHAT IT READS IS OF BULK AT MOST 1048576: true; the input reads as it did. -/
def fnWireTwoUptoRow : OpenClaim := { program := "ytmenkckgpiafiaagreat", sum := "078da3e1af5ec3a158d6bbaed65a19c5628215c836bca0fd59d7ddb99a54dd70", func := "pub-gabbart/laws.FnWireTwo", spec := "fnWireTwo", unfollowed := true, recurses := true, apart := false, narrowed := true }
def FnWireTwoUptoSaid : Prop := fnWireTwoUptoRow.holds Tryz.pinned (OpenSpec.upto fnWireTwoSpec)

/-- 'laws.FnAttrsRead', WHERE WHAT IT READS IS OF BULK AT MOST 1048576: true; the input reads as it did. -/
def fnAttrsReadUptoRow : OpenClaim := { program := "ytmenkckgpiafiaagreat", sum := "078da3e1af5ec3a158d6bbaed65a19c5628215c836bca0fd59d7ddb99a54dd70", func := "pub-gabbart/laws.FnAttrsRead", spec := "fnAttrsRead", unfollowed := true, recurses := true, apart := false, narrowed := true }
def FnAttrsReadUptoSaid : Prop := fnAttrsReadUptoRow.holds Tryz.pinned (OpenSpec.upto fnAttrsReadSpec)

/-- 'laws.FnModeParts', WHERE WHAT IT READS IS OF BULK AT MOST 1048576: true; the input reads as it did. -/
def fnModePartsUptoRow : OpenClaim := { program := "ytmenkckgpiafiaagreat", sum := "078da3e1af5ec3a158d6bbaed65a19c5628215c836bca0fd59d7ddb99a54dd70", func := "pub-gabbart/laws.FnModeParts", spec := "fnModeParts", unfollowed := true, recurses := true, apart := false, narrowed := true }
def FnModePartsUptoSaid : Prop := fnModePartsUptoRow.holds Tryz.pinned (OpenSpec.upto fnModePartsSpec)

/-- 'laws.FnVFSBack', WHERE WHAT IT READS IS OF BULK AT MOST 1048576: true; the input reads as it did. -/
def fnVFSBackUptoRow : OpenClaim := { program := "ytmenkckgpiafiaagreat", sum := "078da3e1af5ec3a158d6bbaed65a19c5628215c836bca0fd59d7ddb99a54dd70", func := "pub-gabbart/laws.FnVFSBack", spec := "fnVFSBack", unfollowed := true, recurses := true, apart := false, narrowed := true }
def FnVFSBackUptoSaid : Prop := fnVFSBackUptoRow.holds Tryz.pinned (OpenSpec.upto fnVFSBackSpec)

/-- 'laws.FnAttrsShort', WHERE WHAT IT READS IS OF BULK AT MOST 1048576: true; the input reads as it did. -/
def fnAttrsShortUptoRow : OpenClaim := { program := "ytmenkckgpiafiaagreat", sum := "078da3e1af5ec3a158d6bbaed65a19c5628215c836bca0fd59d7ddb99a54dd70", func := "pub-gabbart/laws.FnAttrsShort", spec := "fnAttrsShort", unfollowed := true, recurses := true, apart := false, narrowed := true }
def FnAttrsShortUptoSaid : Prop := fnAttrsShortUptoRow.holds Tryz.pinned (OpenSpec.upto fnAttrsShortSpec)

/-- 'laws.FnAttrsTell', WHERE WHAT IT READS IS OF BULK AT MOST 1048576: true; the input reads as it did. -/
def fnAttrsTellUptoRow : OpenClaim := { program := "ytmenkckgpiafiaagreat", sum := "078da3e1af5ec3a158d6bbaed65a19c5628215c836bca0fd59d7ddb99a54dd70", func := "pub-gabbart/laws.FnAttrsTell", spec := "fnAttrsTell", unfollowed := true, recurses := true, apart := false, narrowed := true }
def FnAttrsTellUptoSaid : Prop := fnAttrsTellUptoRow.holds Tryz.pinned (OpenSpec.upto fnAttrsTellSpec)

/-- 'laws.FnAttrsBack', WHERE WHAT IT READS IS OF BULK AT MOST 1048576: true; the input reads as it did. -/
def fnAttrsBackUptoRow : OpenClaim := { program := "ytmenkckgpiafiaagreat", sum := "078da3e1af5ec3a158d6bbaed65a19c5628215c836bca0fd59d7ddb99a54dd70", func := "pub-gabbart/laws.FnAttrsBack", spec := "fnAttrsBack", unfollowed := true, recurses := true, apart := false, narrowed := true }
def FnAttrsBackUptoSaid : Prop := fnAttrsBackUptoRow.holds Tryz.pinned (OpenSpec.upto fnAttrsBackSpec)

/-- 'laws.FnAttrsSet', WHERE WHAT IT READS IS OF BULK AT MOST 1048576: true; the input reads as it did. -/
def fnAttrsSetUptoRow : OpenClaim := { program := "ytmenkckgpiafiaagreat", sum := "078da3e1af5ec3a158d6bbaed65a19c5628215c836bca0fd59d7ddb99a54dd70", func := "pub-gabbart/laws.FnAttrsSet", spec := "fnAttrsSet", unfollowed := true, recurses := true, apart := false, narrowed := true }
def FnAttrsSetUptoSaid : Prop := fnAttrsSetUptoRow.holds Tryz.pinned (OpenSpec.upto fnAttrsSetSpec)

/-- 'laws.FnModeText', WHERE WHAT IT READS IS OF BULK AT MOST 1048576: true; the input reads as it did. -/
def fnModeTextUptoRow : OpenClaim := { program := "ytmenkckgpiafiaagreat", sum := "078da3e1af5ec3a158d6bbaed65a19c5628215c836bca0fd59d7ddb99a54dd70", func := "pub-gabbart/laws.FnModeText", spec := "fnModeText", unfollowed := true, recurses := true, apart := false, narrowed := true }
def FnModeTextUptoSaid : Prop := fnModeTextUptoRow.holds Tryz.pinned (OpenSpec.upto fnModeTextSpec)

/-- 'laws.FnBuffer', WHERE WHAT IT READS IS OF BULK AT MOST 1048576: true; the input reads as it did. -/
def fnBufferUptoRow : OpenClaim := { program := "ytmenkckgpiafiaagreat", sum := "078da3e1af5ec3a158d6bbaed65a19c5628215c836bca0fd59d7ddb99a54dd70", func := "pub-gabbart/laws.FnBuffer", spec := "fnBuffer", unfollowed := true, recurses := true, apart := false, narrowed := true }
def FnBufferUptoSaid : Prop := fnBufferUptoRow.holds Tryz.pinned (OpenSpec.upto fnBufferSpec)

end Rows
end Go.Proofs.YtmenkckgpiafiaaGreat
