/-
  No cell of these rows narrows 'for every input' (looked for: loops, veiled, ifaces, maps, wideKeys, modest, calm, conditions, laid).
  DERIVED. THE GIVEN ROWS OF THIS SEAT. 4 by the template 'for every input the law returns true; each argument reads behind the call as it read before'; 0 by the template 'total and deterministic' (their statements: Qxb6617267aTotals.lean).
  GIVEN WITH THE SEED: the statements are not yours to turn. If you find one false, say at which input.
  Laid BY PROGRAM, IN A SANDBOX (cutbox-rows.mjs): the forced cells as the released guide's own fill.sh prints them over the translation 63609b91b50b2abf… (all of the seat's roots in one cut). By AI agents, Wed Nov 11 2026. No macro, syntax, notation, axiom, sorry.
-/
import Derived.Test.Qxb6617267aChecked
import GoSem.Claim
import GoSem.ClaimJoined
import GoSem.ClaimMapViews
import Derived.JoinedTies
import Derived.KernelRfl
namespace Go.Proofs.Qxb6617267a
/- THE CELL 'sum', in the pinned program and in every row, IS THE sha256 OF THE DUMP (.gsa) THAT Qxb6617267aProg.lean LOADS. Nothing in Lean hashes anything: it is a label: what it is worth is what the hold of that sum in a sandbox is worth. -/
noncomputable def Try.pinned : Pinned := { name := "qxb6617267a", sum := "63609b91b50b2abfc9be13b93a8a4c04cc2a51f8b03b8e94f8b43eb9b127bf7e", checked := Try.checked }
namespace Rows
def none {H : Type} : Left H := { results := [], args := [] }

/-- 'zzlaws_internal_replay_b1.FnDeclarationsWhole': WHATEVER THE INPUT: true; the input reads as it did. -/
def fnDeclarationsWholeSpec : ChangeSpec := { name := "fnDeclarationsWhole", fn := fun _ => fun
  | [d1, d2] => { results := [.lit (.bool true)], args := [d1, d2] }
  | _ => none }
def fnDeclarationsWholeRow : OpenClaim := { program := "qxb6617267a", sum := "63609b91b50b2abfc9be13b93a8a4c04cc2a51f8b03b8e94f8b43eb9b127bf7e", func := "example.com/holdfast/holdfast/zzlaws_internal_replay_b1.FnDeclarationsWhole", spec := "fnDeclarationsWhole", apart := false }
def FnDeclarationsWholeSaid : Prop := fnDeclarationsWholeRow.holds Try.pinned (OpenSpec.ofChange fnDeclarationsWholeSpec)

/-- ITS FALSE NEIGHBOUR: 'it returns false'. Refute it at one input. -/
def fnDeclarationsWholeWrong : ChangeSpec := { name := "fnDeclarationsWhole", fn := fun _ => fun
  | [d1, d2] => { results := [.lit (.bool false)], args := [d1, d2] }
  | _ => none }
def FnDeclarationsWholeWrongFalsely : Prop := fnDeclarationsWholeRow.holds Try.pinned (OpenSpec.ofChange fnDeclarationsWholeWrong)

/-- 'zzlaws_internal_replay_b1.FnIsItemCut': WHATEVER THE INPUT: true; the input reads as it did. -/
def fnIsItemCutSpec : ChangeSpec := { name := "fnIsItemCut", fn := fun _ => fun
  | [d1, d2] => { results := [.lit (.bool true)], args := [d1, d2] }
  | _ => none }
def fnIsItemCutRow : OpenClaim := { program := "qxb6617267a", sum := "63609b91b50b2abfc9be13b93a8a4c04cc2a51f8b03b8e94f8b43eb9b127bf7e", func := "example.com/holdfast/holdfast/zzlaws_internal_replay_b1.FnIsItemCut", spec := "fnIsItemCut", apart := false }
def FnIsItemCutSaid : Prop := fnIsItemCutRow.holds Try.pinned (OpenSpec.ofChange fnIsItemCutSpec)

/-- ITS FALSE NEIGHBOUR: 'it returns false'. Refute it at one input. -/
def fnIsItemCutWrong : ChangeSpec := { name := "fnIsItemCut", fn := fun _ => fun
  | [d1, d2] => { results := [.lit (.bool false)], args := [d1, d2] }
  | _ => none }
def FnIsItemCutWrongFalsely : Prop := fnIsItemCutRow.holds Try.pinned (OpenSpec.ofChange fnIsItemCutWrong)

/-- 'zzlaws_internal_replay_b1.FnCeilingsWhole': WHATEVER THE INPUT: true; the input reads as it did. -/
def fnCeilingsWholeSpec : ChangeSpec := { name := "fnCeilingsWhole", fn := fun _ => fun
  | [d] => { results := [.lit (.bool true)], args := [d] }
  | _ => none }
def fnCeilingsWholeRow : OpenClaim := { program := "qxb6617267a", sum := "63609b91b50b2abfc9be13b93a8a4c04cc2a51f8b03b8e94f8b43eb9b127bf7e", func := "example.com/holdfast/holdfast/zzlaws_internal_replay_b1.FnCeilingsWhole", spec := "fnCeilingsWhole", unfollowed := true, recurses := true, apart := false }
def FnCeilingsWholeSaid : Prop := fnCeilingsWholeRow.holds Try.pinned (OpenSpec.ofChange fnCeilingsWholeSpec)

/-- ITS FALSE NEIGHBOUR: 'it returns false'. Refute it at one input. -/
def fnCeilingsWholeWrong : ChangeSpec := { name := "fnCeilingsWhole", fn := fun _ => fun
  | [d] => { results := [.lit (.bool false)], args := [d] }
  | _ => none }
def FnCeilingsWholeWrongFalsely : Prop := fnCeilingsWholeRow.holds Try.pinned (OpenSpec.ofChange fnCeilingsWholeWrong)

/-- 'zzlaws_internal_replay_b1.FnCeilingsOfDeclarations': WHATEVER THE INPUT: true; the input reads as it did. -/
def fnCeilingsOfDeclarationsSpec : ChangeSpec := { name := "fnCeilingsOfDeclarations", fn := fun _ => fun
  | [d1, d2] => { results := [.lit (.bool true)], args := [d1, d2] }
  | _ => none }
def fnCeilingsOfDeclarationsRow : OpenClaim := { program := "qxb6617267a", sum := "63609b91b50b2abfc9be13b93a8a4c04cc2a51f8b03b8e94f8b43eb9b127bf7e", func := "example.com/holdfast/holdfast/zzlaws_internal_replay_b1.FnCeilingsOfDeclarations", spec := "fnCeilingsOfDeclarations", unfollowed := true, recurses := true, apart := false }
def FnCeilingsOfDeclarationsSaid : Prop := fnCeilingsOfDeclarationsRow.holds Try.pinned (OpenSpec.ofChange fnCeilingsOfDeclarationsSpec)

/-- ITS FALSE NEIGHBOUR: 'it returns false'. Refute it at one input. -/
def fnCeilingsOfDeclarationsWrong : ChangeSpec := { name := "fnCeilingsOfDeclarations", fn := fun _ => fun
  | [d1, d2] => { results := [.lit (.bool false)], args := [d1, d2] }
  | _ => none }
def FnCeilingsOfDeclarationsWrongFalsely : Prop := fnCeilingsOfDeclarationsRow.holds Try.pinned (OpenSpec.ofChange fnCeilingsOfDeclarationsWrong)

end Rows
end Go.Proofs.Qxb6617267a
