/-
  No cell of these rows narrows 'for every input' (looked for: loops, veiled, ifaces, maps, wideKeys, modest, calm, conditions, laid).
  DERIVED. THE GIVEN ROWS OF THIS SEAT. 2 by the template 'for every input the law returns true; each argument reads behind the call as it read before'; 0 by the template 'total and deterministic' (their statements: Qxb6630207aTotals.lean).
  GIVEN WITH THE SEED: the statements are not yours to turn. If you find one false, say at which input.
  Laid BY PROGRAM, IN A SANDBOX (cutbox-rows.mjs): the forced cells as the released guide's own fill.sh prints them over the translation 0dfc07a9034ea520… (all of the seat's roots in one cut). By AI agents, Wed Nov 11 2026. No macro, syntax, notation, axiom, sorry.
-/
import Derived.Test.Qxb6630207aChecked
import GoSem.Claim
import GoSem.ClaimJoined
import GoSem.ClaimMapViews
import Derived.JoinedTies
import Derived.KernelRfl
namespace Go.Proofs.Qxb6630207a
/- THE CELL 'sum', in the pinned program and in every row, IS THE sha256 OF THE DUMP (.gsa) THAT Qxb6630207aProg.lean LOADS. Nothing in Lean hashes anything: it is a label: what it is worth is what the hold of that sum in a sandbox is worth. -/
noncomputable def Try.pinned : Pinned := { name := "qxb6630207a", sum := "0dfc07a9034ea520d48eb42475dd8f54d06782449a217443f43aa234a86e80dc", checked := Try.checked }
namespace Rows
def none {H : Type} : Left H := { results := [], args := [] }

/-- 'zzlaws_action_b1.FnValidNameIsAlphabetAndLength': WHATEVER THE INPUT: true; the input reads as it did. -/
def fnValidNameIsAlphabetAndLengthSpec : ChangeSpec := { name := "fnValidNameIsAlphabetAndLength", fn := fun _ => fun
  | [d] => { results := [.lit (.bool true)], args := [d] }
  | _ => none }
def fnValidNameIsAlphabetAndLengthRow : OpenClaim := { program := "qxb6630207a", sum := "0dfc07a9034ea520d48eb42475dd8f54d06782449a217443f43aa234a86e80dc", func := "example.com/tidemark/tidemark/zzlaws_action_b1.FnValidNameIsAlphabetAndLength", spec := "fnValidNameIsAlphabetAndLength", apart := false }
def FnValidNameIsAlphabetAndLengthSaid : Prop := fnValidNameIsAlphabetAndLengthRow.holds Try.pinned (OpenSpec.ofChange fnValidNameIsAlphabetAndLengthSpec)

/-- ITS FALSE NEIGHBOUR: 'it returns false'. Refute it at one input. -/
def fnValidNameIsAlphabetAndLengthWrong : ChangeSpec := { name := "fnValidNameIsAlphabetAndLength", fn := fun _ => fun
  | [d] => { results := [.lit (.bool false)], args := [d] }
  | _ => none }
def FnValidNameIsAlphabetAndLengthWrongFalsely : Prop := fnValidNameIsAlphabetAndLengthRow.holds Try.pinned (OpenSpec.ofChange fnValidNameIsAlphabetAndLengthWrong)

/-- 'zzlaws_action_b1.FnValidNameJoinAtAnyCut': WHATEVER THE INPUT: true; the input reads as it did. -/
def fnValidNameJoinAtAnyCutSpec : ChangeSpec := { name := "fnValidNameJoinAtAnyCut", fn := fun _ => fun
  | [d1, d2] => { results := [.lit (.bool true)], args := [d1, d2] }
  | _ => none }
def fnValidNameJoinAtAnyCutRow : OpenClaim := { program := "qxb6630207a", sum := "0dfc07a9034ea520d48eb42475dd8f54d06782449a217443f43aa234a86e80dc", func := "example.com/tidemark/tidemark/zzlaws_action_b1.FnValidNameJoinAtAnyCut", spec := "fnValidNameJoinAtAnyCut", apart := false }
def FnValidNameJoinAtAnyCutSaid : Prop := fnValidNameJoinAtAnyCutRow.holds Try.pinned (OpenSpec.ofChange fnValidNameJoinAtAnyCutSpec)

/-- ITS FALSE NEIGHBOUR: 'it returns false'. Refute it at one input. -/
def fnValidNameJoinAtAnyCutWrong : ChangeSpec := { name := "fnValidNameJoinAtAnyCut", fn := fun _ => fun
  | [d1, d2] => { results := [.lit (.bool false)], args := [d1, d2] }
  | _ => none }
def FnValidNameJoinAtAnyCutWrongFalsely : Prop := fnValidNameJoinAtAnyCutRow.holds Try.pinned (OpenSpec.ofChange fnValidNameJoinAtAnyCutWrong)

end Rows
end Go.Proofs.Qxb6630207a
