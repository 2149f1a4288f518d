/-
  No cell of these rows narrows 'for every input' (looked for: loops, veiled, ifaces, maps, wideKeys, modest, calm, conditions, laid).
  DERIVED. THE GIVEN ROWS OF THIS SEAT. 6 by the template 'for every input the law returns true; each argument reads behind the call as it read before'; 0 by the template 'total and deterministic' (their statements: Qxb6602785aTotals.lean).
  GIVEN WITH THE SEED: the statements are not yours to turn. If you find one false, say at which input.
  Laid BY PROGRAM, IN A SANDBOX (cutbox-rows.mjs): the forced cells as the released guide's own fill.sh prints them over the translation aa14ddaf445a6c41… (all of the seat's roots in one cut). By AI agents, Wed Nov 11 2026. No macro, syntax, notation, axiom, sorry.
-/
import Derived.Test.Qxb6602785aChecked
import GoSem.Claim
import GoSem.ClaimJoined
import GoSem.ClaimMapViews
import Derived.JoinedTies
import Derived.KernelRfl
namespace Go.Proofs.Qxb6602785a
/- THE CELL 'sum', in the pinned program and in every row, IS THE sha256 OF THE DUMP (.gsa) THAT Qxb6602785aProg.lean LOADS. Nothing in Lean hashes anything: it is a label: what it is worth is what the hold of that sum in a sandbox is worth. -/
noncomputable def Try.pinned : Pinned := { name := "qxb6602785a", sum := "aa14ddaf445a6c41ea5de064560df3ead66d0ba533cedfa99990d569a484444a", checked := Try.checked }
namespace Rows
def none {H : Type} : Left H := { results := [], args := [] }

/-- 'zzlaws_root_b1.FnOrgEffectDenyOverridesModel': WHATEVER THE INPUT: true; the input reads as it did. -/
def fnOrgEffectDenyOverridesModelSpec : ChangeSpec := { name := "fnOrgEffectDenyOverridesModel", fn := fun _ => fun
  | [d1, d2, d3, d4, d5, d6, d7] => { results := [.lit (.bool true)], args := [d1, d2, d3, d4, d5, d6, d7] }
  | _ => none }
def fnOrgEffectDenyOverridesModelRow : OpenClaim := { program := "qxb6602785a", sum := "aa14ddaf445a6c41ea5de064560df3ead66d0ba533cedfa99990d569a484444a", func := "example.com/privilege/privilege/zzlaws_root_b1.FnOrgEffectDenyOverridesModel", spec := "fnOrgEffectDenyOverridesModel", plainKeys := false, apart := false }
def FnOrgEffectDenyOverridesModelSaid : Prop := fnOrgEffectDenyOverridesModelRow.holds Try.pinned (OpenSpec.ofChange fnOrgEffectDenyOverridesModelSpec)

/-- ITS FALSE NEIGHBOUR: 'it returns false'. Refute it at one input. -/
def fnOrgEffectDenyOverridesModelWrong : ChangeSpec := { name := "fnOrgEffectDenyOverridesModel", fn := fun _ => fun
  | [d1, d2, d3, d4, d5, d6, d7] => { results := [.lit (.bool false)], args := [d1, d2, d3, d4, d5, d6, d7] }
  | _ => none }
def FnOrgEffectDenyOverridesModelWrongFalsely : Prop := fnOrgEffectDenyOverridesModelRow.holds Try.pinned (OpenSpec.ofChange fnOrgEffectDenyOverridesModelWrong)

/-- 'zzlaws_root_b1.FnOrgEffectIsJoinOfSingleRoles': WHATEVER THE INPUT: true; the input reads as it did. -/
def fnOrgEffectIsJoinOfSingleRolesSpec : ChangeSpec := { name := "fnOrgEffectIsJoinOfSingleRoles", fn := fun _ => fun
  | [d1, d2, d3, d4, d5, d6] => { results := [.lit (.bool true)], args := [d1, d2, d3, d4, d5, d6] }
  | _ => none }
def fnOrgEffectIsJoinOfSingleRolesRow : OpenClaim := { program := "qxb6602785a", sum := "aa14ddaf445a6c41ea5de064560df3ead66d0ba533cedfa99990d569a484444a", func := "example.com/privilege/privilege/zzlaws_root_b1.FnOrgEffectIsJoinOfSingleRoles", spec := "fnOrgEffectIsJoinOfSingleRoles", plainKeys := false, apart := false }
def FnOrgEffectIsJoinOfSingleRolesSaid : Prop := fnOrgEffectIsJoinOfSingleRolesRow.holds Try.pinned (OpenSpec.ofChange fnOrgEffectIsJoinOfSingleRolesSpec)

/-- ITS FALSE NEIGHBOUR: 'it returns false'. Refute it at one input. -/
def fnOrgEffectIsJoinOfSingleRolesWrong : ChangeSpec := { name := "fnOrgEffectIsJoinOfSingleRoles", fn := fun _ => fun
  | [d1, d2, d3, d4, d5, d6] => { results := [.lit (.bool false)], args := [d1, d2, d3, d4, d5, d6] }
  | _ => none }
def FnOrgEffectIsJoinOfSingleRolesWrongFalsely : Prop := fnOrgEffectIsJoinOfSingleRolesRow.holds Try.pinned (OpenSpec.ofChange fnOrgEffectIsJoinOfSingleRolesWrong)

/-- 'zzlaws_root_b1.FnOrgEffectMembershipOnlyAddsDeny': WHATEVER THE INPUT: true; the input reads as it did. -/
def fnOrgEffectMembershipOnlyAddsDenySpec : ChangeSpec := { name := "fnOrgEffectMembershipOnlyAddsDeny", fn := fun _ => fun
  | [d1, d2, d3, d4, d5, d6] => { results := [.lit (.bool true)], args := [d1, d2, d3, d4, d5, d6] }
  | _ => none }
def fnOrgEffectMembershipOnlyAddsDenyRow : OpenClaim := { program := "qxb6602785a", sum := "aa14ddaf445a6c41ea5de064560df3ead66d0ba533cedfa99990d569a484444a", func := "example.com/privilege/privilege/zzlaws_root_b1.FnOrgEffectMembershipOnlyAddsDeny", spec := "fnOrgEffectMembershipOnlyAddsDeny", plainKeys := false, apart := false }
def FnOrgEffectMembershipOnlyAddsDenySaid : Prop := fnOrgEffectMembershipOnlyAddsDenyRow.holds Try.pinned (OpenSpec.ofChange fnOrgEffectMembershipOnlyAddsDenySpec)

/-- ITS FALSE NEIGHBOUR: 'it returns false'. Refute it at one input. -/
def fnOrgEffectMembershipOnlyAddsDenyWrong : ChangeSpec := { name := "fnOrgEffectMembershipOnlyAddsDeny", fn := fun _ => fun
  | [d1, d2, d3, d4, d5, d6] => { results := [.lit (.bool false)], args := [d1, d2, d3, d4, d5, d6] }
  | _ => none }
def FnOrgEffectMembershipOnlyAddsDenyWrongFalsely : Prop := fnOrgEffectMembershipOnlyAddsDenyRow.holds Try.pinned (OpenSpec.ofChange fnOrgEffectMembershipOnlyAddsDenyWrong)

/-- 'zzlaws_root_b1.FnNamedIDsFirstOccurrenceModel': WHATEVER THE INPUT: true; the input reads as it did. -/
def fnNamedIDsFirstOccurrenceModelSpec : ChangeSpec := { name := "fnNamedIDsFirstOccurrenceModel", fn := fun _ => fun
  | [d1, d2, d3, d4, d5, d6, d7, d8, d9, d10] => { results := [.lit (.bool true)], args := [d1, d2, d3, d4, d5, d6, d7, d8, d9, d10] }
  | _ => none }
def fnNamedIDsFirstOccurrenceModelRow : OpenClaim := { program := "qxb6602785a", sum := "aa14ddaf445a6c41ea5de064560df3ead66d0ba533cedfa99990d569a484444a", func := "example.com/privilege/privilege/zzlaws_root_b1.FnNamedIDsFirstOccurrenceModel", spec := "fnNamedIDsFirstOccurrenceModel", plainKeys := false, apart := false }
def FnNamedIDsFirstOccurrenceModelSaid : Prop := fnNamedIDsFirstOccurrenceModelRow.holds Try.pinned (OpenSpec.ofChange fnNamedIDsFirstOccurrenceModelSpec)

/-- ITS FALSE NEIGHBOUR: 'it returns false'. Refute it at one input. -/
def fnNamedIDsFirstOccurrenceModelWrong : ChangeSpec := { name := "fnNamedIDsFirstOccurrenceModel", fn := fun _ => fun
  | [d1, d2, d3, d4, d5, d6, d7, d8, d9, d10] => { results := [.lit (.bool false)], args := [d1, d2, d3, d4, d5, d6, d7, d8, d9, d10] }
  | _ => none }
def FnNamedIDsFirstOccurrenceModelWrongFalsely : Prop := fnNamedIDsFirstOccurrenceModelRow.holds Try.pinned (OpenSpec.ofChange fnNamedIDsFirstOccurrenceModelWrong)

/-- 'zzlaws_root_b1.FnNamedIDsIgnoresRepetition': WHATEVER THE INPUT: true; the input reads as it did. -/
def fnNamedIDsIgnoresRepetitionSpec : ChangeSpec := { name := "fnNamedIDsIgnoresRepetition", fn := fun _ => fun
  | [d1, d2, d3, d4, d5, d6, d7, d8, d9, d10] => { results := [.lit (.bool true)], args := [d1, d2, d3, d4, d5, d6, d7, d8, d9, d10] }
  | _ => none }
def fnNamedIDsIgnoresRepetitionRow : OpenClaim := { program := "qxb6602785a", sum := "aa14ddaf445a6c41ea5de064560df3ead66d0ba533cedfa99990d569a484444a", func := "example.com/privilege/privilege/zzlaws_root_b1.FnNamedIDsIgnoresRepetition", spec := "fnNamedIDsIgnoresRepetition", plainKeys := false, apart := false }
def FnNamedIDsIgnoresRepetitionSaid : Prop := fnNamedIDsIgnoresRepetitionRow.holds Try.pinned (OpenSpec.ofChange fnNamedIDsIgnoresRepetitionSpec)

/-- ITS FALSE NEIGHBOUR: 'it returns false'. Refute it at one input. -/
def fnNamedIDsIgnoresRepetitionWrong : ChangeSpec := { name := "fnNamedIDsIgnoresRepetition", fn := fun _ => fun
  | [d1, d2, d3, d4, d5, d6, d7, d8, d9, d10] => { results := [.lit (.bool false)], args := [d1, d2, d3, d4, d5, d6, d7, d8, d9, d10] }
  | _ => none }
def FnNamedIDsIgnoresRepetitionWrongFalsely : Prop := fnNamedIDsIgnoresRepetitionRow.holds Try.pinned (OpenSpec.ofChange fnNamedIDsIgnoresRepetitionWrong)

/-- 'zzlaws_root_b1.FnNamedIDsOnlyOnStepsThatReadTheID': WHATEVER THE INPUT: true; the input reads as it did. -/
def fnNamedIDsOnlyOnStepsThatReadTheIDSpec : ChangeSpec := { name := "fnNamedIDsOnlyOnStepsThatReadTheID", fn := fun _ => fun
  | [d1, d2, d3, d4, d5, d6, d7, d8, d9, d10] => { results := [.lit (.bool true)], args := [d1, d2, d3, d4, d5, d6, d7, d8, d9, d10] }
  | _ => none }
def fnNamedIDsOnlyOnStepsThatReadTheIDRow : OpenClaim := { program := "qxb6602785a", sum := "aa14ddaf445a6c41ea5de064560df3ead66d0ba533cedfa99990d569a484444a", func := "example.com/privilege/privilege/zzlaws_root_b1.FnNamedIDsOnlyOnStepsThatReadTheID", spec := "fnNamedIDsOnlyOnStepsThatReadTheID", plainKeys := false, apart := false }
def FnNamedIDsOnlyOnStepsThatReadTheIDSaid : Prop := fnNamedIDsOnlyOnStepsThatReadTheIDRow.holds Try.pinned (OpenSpec.ofChange fnNamedIDsOnlyOnStepsThatReadTheIDSpec)

/-- ITS FALSE NEIGHBOUR: 'it returns false'. Refute it at one input. -/
def fnNamedIDsOnlyOnStepsThatReadTheIDWrong : ChangeSpec := { name := "fnNamedIDsOnlyOnStepsThatReadTheID", fn := fun _ => fun
  | [d1, d2, d3, d4, d5, d6, d7, d8, d9, d10] => { results := [.lit (.bool false)], args := [d1, d2, d3, d4, d5, d6, d7, d8, d9, d10] }
  | _ => none }
def FnNamedIDsOnlyOnStepsThatReadTheIDWrongFalsely : Prop := fnNamedIDsOnlyOnStepsThatReadTheIDRow.holds Try.pinned (OpenSpec.ofChange fnNamedIDsOnlyOnStepsThatReadTheIDWrong)

end Rows
end Go.Proofs.Qxb6602785a
