/-
  No cell of these rows narrows 'for every input' (looked for: loops, veiled, ifaces, maps, wideKeys, modest, calm, conditions, laid).
  DERIVED. THE GIVEN ROWS OF THIS SEAT. 4 by the template 'for every input the law returns true; each argument reads behind the call as it read before'; 0 by the template 'total and deterministic' (their statements: Qxb6616843aTotals.lean).
  GIVEN WITH THE SEED: the statements are not yours to turn. If you find one false, say at which input.
  Laid BY PROGRAM, IN A SANDBOX (cutbox-rows.mjs): the forced cells as the released guide's own fill.sh prints them over the translation a478160d3865fccd… (all of the seat's roots in one cut). By AI agents, Wed Nov 11 2026. No macro, syntax, notation, axiom, sorry.
-/
import Derived.Test.Qxb6616843aChecked
import GoSem.Claim
import GoSem.ClaimJoined
import GoSem.ClaimMapViews
import Derived.JoinedTies
import Derived.KernelRfl
namespace Go.Proofs.Qxb6616843a
/- THE CELL 'sum', in the pinned program and in every row, IS THE sha256 OF THE DUMP (.gsa) THAT Qxb6616843aProg.lean LOADS. Nothing in Lean hashes anything: it is a label: what it is worth is what the hold of that sum in a sandbox is worth. -/
noncomputable def Try.pinned : Pinned := { name := "qxb6616843a", sum := "a478160d3865fccda6b0c311cbd08142f96d119a7be909929d2d6d5f63b8785a", checked := Try.checked }
namespace Rows
def none {H : Type} : Left H := { results := [], args := [] }

/-- 'zzlaws_internal_jsonschema_b1.FnPathMemberChain': WHATEVER THE INPUT: true; the input reads as it did. -/
def fnPathMemberChainSpec : ChangeSpec := { name := "fnPathMemberChain", fn := fun _ => fun
  | [d] => { results := [.lit (.bool true)], args := [d] }
  | _ => none }
def fnPathMemberChainRow : OpenClaim := { program := "qxb6616843a", sum := "a478160d3865fccda6b0c311cbd08142f96d119a7be909929d2d6d5f63b8785a", func := "example.com/tool-funnel/tool-funnel/zzlaws_internal_jsonschema_b1.FnPathMemberChain", spec := "fnPathMemberChain", apart := false }
def FnPathMemberChainSaid : Prop := fnPathMemberChainRow.holds Try.pinned (OpenSpec.ofChange fnPathMemberChainSpec)

/-- ITS FALSE NEIGHBOUR: 'it returns false'. Refute it at one input. -/
def fnPathMemberChainWrong : ChangeSpec := { name := "fnPathMemberChain", fn := fun _ => fun
  | [d] => { results := [.lit (.bool false)], args := [d] }
  | _ => none }
def FnPathMemberChainWrongFalsely : Prop := fnPathMemberChainRow.holds Try.pinned (OpenSpec.ofChange fnPathMemberChainWrong)

/-- 'zzlaws_internal_jsonschema_b1.FnPathMemberSiblings': WHATEVER THE INPUT: true; the input reads as it did. -/
def fnPathMemberSiblingsSpec : ChangeSpec := { name := "fnPathMemberSiblings", fn := fun _ => fun
  | [d1, d2, d3] => { results := [.lit (.bool true)], args := [d1, d2, d3] }
  | _ => none }
def fnPathMemberSiblingsRow : OpenClaim := { program := "qxb6616843a", sum := "a478160d3865fccda6b0c311cbd08142f96d119a7be909929d2d6d5f63b8785a", func := "example.com/tool-funnel/tool-funnel/zzlaws_internal_jsonschema_b1.FnPathMemberSiblings", spec := "fnPathMemberSiblings", apart := false }
def FnPathMemberSiblingsSaid : Prop := fnPathMemberSiblingsRow.holds Try.pinned (OpenSpec.ofChange fnPathMemberSiblingsSpec)

/-- ITS FALSE NEIGHBOUR: 'it returns false'. Refute it at one input. -/
def fnPathMemberSiblingsWrong : ChangeSpec := { name := "fnPathMemberSiblings", fn := fun _ => fun
  | [d1, d2, d3] => { results := [.lit (.bool false)], args := [d1, d2, d3] }
  | _ => none }
def FnPathMemberSiblingsWrongFalsely : Prop := fnPathMemberSiblingsRow.holds Try.pinned (OpenSpec.ofChange fnPathMemberSiblingsWrong)

/-- 'zzlaws_internal_jsonschema_b1.FnDynamicTargetOuterFirst': WHATEVER THE INPUT: true; the input reads as it did. -/
def fnDynamicTargetOuterFirstSpec : ChangeSpec := { name := "fnDynamicTargetOuterFirst", fn := fun _ => fun
  | [d1, d2, d3, d4] => { results := [.lit (.bool true)], args := [d1, d2, d3, d4] }
  | _ => none }
def fnDynamicTargetOuterFirstRow : OpenClaim := { program := "qxb6616843a", sum := "a478160d3865fccda6b0c311cbd08142f96d119a7be909929d2d6d5f63b8785a", func := "example.com/tool-funnel/tool-funnel/zzlaws_internal_jsonschema_b1.FnDynamicTargetOuterFirst", spec := "fnDynamicTargetOuterFirst", apart := false }
def FnDynamicTargetOuterFirstSaid : Prop := fnDynamicTargetOuterFirstRow.holds Try.pinned (OpenSpec.ofChange fnDynamicTargetOuterFirstSpec)

/-- ITS FALSE NEIGHBOUR: 'it returns false'. Refute it at one input. -/
def fnDynamicTargetOuterFirstWrong : ChangeSpec := { name := "fnDynamicTargetOuterFirst", fn := fun _ => fun
  | [d1, d2, d3, d4] => { results := [.lit (.bool false)], args := [d1, d2, d3, d4] }
  | _ => none }
def FnDynamicTargetOuterFirstWrongFalsely : Prop := fnDynamicTargetOuterFirstRow.holds Try.pinned (OpenSpec.ofChange fnDynamicTargetOuterFirstWrong)

/-- 'zzlaws_internal_jsonschema_b1.FnDynamicTargetOutsideScope': WHATEVER THE INPUT: true; the input reads as it did. -/
def fnDynamicTargetOutsideScopeSpec : ChangeSpec := { name := "fnDynamicTargetOutsideScope", fn := fun _ => fun
  | [d1, d2, d3, d4] => { results := [.lit (.bool true)], args := [d1, d2, d3, d4] }
  | _ => none }
def fnDynamicTargetOutsideScopeRow : OpenClaim := { program := "qxb6616843a", sum := "a478160d3865fccda6b0c311cbd08142f96d119a7be909929d2d6d5f63b8785a", func := "example.com/tool-funnel/tool-funnel/zzlaws_internal_jsonschema_b1.FnDynamicTargetOutsideScope", spec := "fnDynamicTargetOutsideScope", apart := false }
def FnDynamicTargetOutsideScopeSaid : Prop := fnDynamicTargetOutsideScopeRow.holds Try.pinned (OpenSpec.ofChange fnDynamicTargetOutsideScopeSpec)

/-- ITS FALSE NEIGHBOUR: 'it returns false'. Refute it at one input. -/
def fnDynamicTargetOutsideScopeWrong : ChangeSpec := { name := "fnDynamicTargetOutsideScope", fn := fun _ => fun
  | [d1, d2, d3, d4] => { results := [.lit (.bool false)], args := [d1, d2, d3, d4] }
  | _ => none }
def FnDynamicTargetOutsideScopeWrongFalsely : Prop := fnDynamicTargetOutsideScopeRow.holds Try.pinned (OpenSpec.ofChange fnDynamicTargetOutsideScopeWrong)

end Rows
end Go.Proofs.Qxb6616843a
