/-
  No cell of these rows narrows 'for every input' (looked for: loops, veiled, ifaces, maps, wideKeys, modest, calm, conditions, laid).
  DERIVED. THE GIVEN ROWS OF THIS SEAT. 5 by the template 'for every input the law returns true; each argument reads behind the call as it read before'; 0 by the template 'total and deterministic' (their statements: Qxb6600977aTotals.lean).
  GIVEN WITH THE SEED: the statements are not yours to turn. If you find one false, say at which input.
  Laid BY PROGRAM, IN A SANDBOX (cutbox-rows.mjs): the forced cells as the released guide's own fill.sh prints them over the translation 092d836d7c2ee821… (all of the seat's roots in one cut). By AI agents, Wed Nov 11 2026. No macro, syntax, notation, axiom, sorry.
-/
import Derived.Test.Qxb6600977aChecked
import GoSem.Claim
import GoSem.ClaimJoined
import GoSem.ClaimMapViews
import Derived.JoinedTies
import Derived.KernelRfl
namespace Go.Proofs.Qxb6600977a
/- THE CELL 'sum', in the pinned program and in every row, IS THE sha256 OF THE DUMP (.gsa) THAT Qxb6600977aProg.lean LOADS. Nothing in Lean hashes anything: it is a label: what it is worth is what the hold of that sum in a sandbox is worth. -/
noncomputable def Try.pinned : Pinned := { name := "qxb6600977a", sum := "092d836d7c2ee8214682397018332310b20ce3e6b92383a10ca7ee06b8c266aa", checked := Try.checked }
namespace Rows
def none {H : Type} : Left H := { results := [], args := [] }

/-- 'zzlaws_prefixtree_b1.FnSetScriptMatchesLastWriteModel': WHATEVER THE INPUT: true; the input reads as it did. -/
def fnSetScriptMatchesLastWriteModelSpec : ChangeSpec := { name := "fnSetScriptMatchesLastWriteModel", fn := fun _ => fun
  | [d1, d2, d3] => { results := [.lit (.bool true)], args := [d1, d2, d3] }
  | _ => none }
def fnSetScriptMatchesLastWriteModelRow : OpenClaim := { program := "qxb6600977a", sum := "092d836d7c2ee8214682397018332310b20ce3e6b92383a10ca7ee06b8c266aa", func := "example.com/prefixary/prefixary/zzlaws_prefixtree_b1.FnSetScriptMatchesLastWriteModel", spec := "fnSetScriptMatchesLastWriteModel", recurses := true, apart := false }
def FnSetScriptMatchesLastWriteModelSaid : Prop := fnSetScriptMatchesLastWriteModelRow.holds Try.pinned (OpenSpec.ofChange fnSetScriptMatchesLastWriteModelSpec)

/-- ITS FALSE NEIGHBOUR: 'it returns false'. Refute it at one input. -/
def fnSetScriptMatchesLastWriteModelWrong : ChangeSpec := { name := "fnSetScriptMatchesLastWriteModel", fn := fun _ => fun
  | [d1, d2, d3] => { results := [.lit (.bool false)], args := [d1, d2, d3] }
  | _ => none }
def FnSetScriptMatchesLastWriteModelWrongFalsely : Prop := fnSetScriptMatchesLastWriteModelRow.holds Try.pinned (OpenSpec.ofChange fnSetScriptMatchesLastWriteModelWrong)

/-- 'zzlaws_prefixtree_b1.FnSetKeepsTreeMinimal': WHATEVER THE INPUT: true; the input reads as it did. -/
def fnSetKeepsTreeMinimalSpec : ChangeSpec := { name := "fnSetKeepsTreeMinimal", fn := fun _ => fun
  | [d1, d2] => { results := [.lit (.bool true)], args := [d1, d2] }
  | _ => none }
def fnSetKeepsTreeMinimalRow : OpenClaim := { program := "qxb6600977a", sum := "092d836d7c2ee8214682397018332310b20ce3e6b92383a10ca7ee06b8c266aa", func := "example.com/prefixary/prefixary/zzlaws_prefixtree_b1.FnSetKeepsTreeMinimal", spec := "fnSetKeepsTreeMinimal", recurses := true, apart := false }
def FnSetKeepsTreeMinimalSaid : Prop := fnSetKeepsTreeMinimalRow.holds Try.pinned (OpenSpec.ofChange fnSetKeepsTreeMinimalSpec)

/-- ITS FALSE NEIGHBOUR: 'it returns false'. Refute it at one input. -/
def fnSetKeepsTreeMinimalWrong : ChangeSpec := { name := "fnSetKeepsTreeMinimal", fn := fun _ => fun
  | [d1, d2] => { results := [.lit (.bool false)], args := [d1, d2] }
  | _ => none }
def FnSetKeepsTreeMinimalWrongFalsely : Prop := fnSetKeepsTreeMinimalRow.holds Try.pinned (OpenSpec.ofChange fnSetKeepsTreeMinimalWrong)

/-- 'zzlaws_prefixtree_b1.FnSetAccountsForEveryNode': WHATEVER THE INPUT: true; the input reads as it did. -/
def fnSetAccountsForEveryNodeSpec : ChangeSpec := { name := "fnSetAccountsForEveryNode", fn := fun _ => fun
  | [d1, d2] => { results := [.lit (.bool true)], args := [d1, d2] }
  | _ => none }
def fnSetAccountsForEveryNodeRow : OpenClaim := { program := "qxb6600977a", sum := "092d836d7c2ee8214682397018332310b20ce3e6b92383a10ca7ee06b8c266aa", func := "example.com/prefixary/prefixary/zzlaws_prefixtree_b1.FnSetAccountsForEveryNode", spec := "fnSetAccountsForEveryNode", recurses := true, apart := false }
def FnSetAccountsForEveryNodeSaid : Prop := fnSetAccountsForEveryNodeRow.holds Try.pinned (OpenSpec.ofChange fnSetAccountsForEveryNodeSpec)

/-- ITS FALSE NEIGHBOUR: 'it returns false'. Refute it at one input. -/
def fnSetAccountsForEveryNodeWrong : ChangeSpec := { name := "fnSetAccountsForEveryNode", fn := fun _ => fun
  | [d1, d2] => { results := [.lit (.bool false)], args := [d1, d2] }
  | _ => none }
def FnSetAccountsForEveryNodeWrongFalsely : Prop := fnSetAccountsForEveryNodeRow.holds Try.pinned (OpenSpec.ofChange fnSetAccountsForEveryNodeWrong)

/-- 'zzlaws_prefixtree_b1.FnNewNodeRunClosedForm': WHATEVER THE INPUT: true; the input reads as it did. -/
def fnNewNodeRunClosedFormSpec : ChangeSpec := { name := "fnNewNodeRunClosedForm", fn := fun _ => fun
  | [d1, d2, d3] => { results := [.lit (.bool true)], args := [d1, d2, d3] }
  | _ => none }
def fnNewNodeRunClosedFormRow : OpenClaim := { program := "qxb6600977a", sum := "092d836d7c2ee8214682397018332310b20ce3e6b92383a10ca7ee06b8c266aa", func := "example.com/prefixary/prefixary/zzlaws_prefixtree_b1.FnNewNodeRunClosedForm", spec := "fnNewNodeRunClosedForm", recurses := true, apart := false }
def FnNewNodeRunClosedFormSaid : Prop := fnNewNodeRunClosedFormRow.holds Try.pinned (OpenSpec.ofChange fnNewNodeRunClosedFormSpec)

/-- ITS FALSE NEIGHBOUR: 'it returns false'. Refute it at one input. -/
def fnNewNodeRunClosedFormWrong : ChangeSpec := { name := "fnNewNodeRunClosedForm", fn := fun _ => fun
  | [d1, d2, d3] => { results := [.lit (.bool false)], args := [d1, d2, d3] }
  | _ => none }
def FnNewNodeRunClosedFormWrongFalsely : Prop := fnNewNodeRunClosedFormRow.holds Try.pinned (OpenSpec.ofChange fnNewNodeRunClosedFormWrong)

/-- 'zzlaws_prefixtree_b1.FnNewNodeHandsOutNoLiveNode': WHATEVER THE INPUT: true; the input reads as it did. -/
def fnNewNodeHandsOutNoLiveNodeSpec : ChangeSpec := { name := "fnNewNodeHandsOutNoLiveNode", fn := fun _ => fun
  | [d1, d2, d3, d4] => { results := [.lit (.bool true)], args := [d1, d2, d3, d4] }
  | _ => none }
def fnNewNodeHandsOutNoLiveNodeRow : OpenClaim := { program := "qxb6600977a", sum := "092d836d7c2ee8214682397018332310b20ce3e6b92383a10ca7ee06b8c266aa", func := "example.com/prefixary/prefixary/zzlaws_prefixtree_b1.FnNewNodeHandsOutNoLiveNode", spec := "fnNewNodeHandsOutNoLiveNode", recurses := true, apart := false }
def FnNewNodeHandsOutNoLiveNodeSaid : Prop := fnNewNodeHandsOutNoLiveNodeRow.holds Try.pinned (OpenSpec.ofChange fnNewNodeHandsOutNoLiveNodeSpec)

/-- ITS FALSE NEIGHBOUR: 'it returns false'. Refute it at one input. -/
def fnNewNodeHandsOutNoLiveNodeWrong : ChangeSpec := { name := "fnNewNodeHandsOutNoLiveNode", fn := fun _ => fun
  | [d1, d2, d3, d4] => { results := [.lit (.bool false)], args := [d1, d2, d3, d4] }
  | _ => none }
def FnNewNodeHandsOutNoLiveNodeWrongFalsely : Prop := fnNewNodeHandsOutNoLiveNodeRow.holds Try.pinned (OpenSpec.ofChange fnNewNodeHandsOutNoLiveNodeWrong)

end Rows
end Go.Proofs.Qxb6600977a
