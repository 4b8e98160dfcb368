/-
  No cell of these rows narrows 'for every input' (looked for: loops, veiled, ifaces, maps, wideKeys, modest, calm, conditions, laid).
  DERIVED. THE GIVEN ROWS OF THIS SEAT. 2 by the template 'for every input the law returns true; each argument reads behind the call as it read before'; 0 by the template 'total and deterministic' (their statements: Qxb6630183aTotals.lean).
  GIVEN WITH THE SEED: the statements are not yours to turn. If you find one false, say at which input.
  Laid BY PROGRAM, IN A SANDBOX (cutbox-rows.mjs): the forced cells as the released guide's own fill.sh prints them over the translation 25aafc79b1120384… (all of the seat's roots in one cut). By AI agents, Wed Nov 11 2026. No macro, syntax, notation, axiom, sorry.
-/
import Derived.Test.Qxb6630183aChecked
import GoSem.Claim
import GoSem.ClaimJoined
import GoSem.ClaimMapViews
import Derived.JoinedTies
import Derived.KernelRfl
namespace Go.Proofs.Qxb6630183a
/- THE CELL 'sum', in the pinned program and in every row, IS THE sha256 OF THE DUMP (.gsa) THAT Qxb6630183aProg.lean LOADS. Nothing in Lean hashes anything: it is a label: what it is worth is what the hold of that sum in a sandbox is worth. -/
noncomputable def Try.pinned : Pinned := { name := "qxb6630183a", sum := "25aafc79b1120384c0c2469bff783cb3f518f94f3e79a1df1de4623acbb7f74c", checked := Try.checked }
namespace Rows
def none {H : Type} : Left H := { results := [], args := [] }

/-- 'zzlaws_internal_state_b1.FnInAnyScopeExact': WHATEVER THE INPUT: true; the input reads as it did. -/
def fnInAnyScopeExactSpec : ChangeSpec := { name := "fnInAnyScopeExact", fn := fun _ => fun
  | [d] => { results := [.lit (.bool true)], args := [d] }
  | _ => none }
def fnInAnyScopeExactRow : OpenClaim := { program := "qxb6630183a", sum := "25aafc79b1120384c0c2469bff783cb3f518f94f3e79a1df1de4623acbb7f74c", func := "example.com/hookwright/hookwright/zzlaws_internal_state_b1.FnInAnyScopeExact", spec := "fnInAnyScopeExact", apart := false }
def FnInAnyScopeExactSaid : Prop := fnInAnyScopeExactRow.holds Try.pinned (OpenSpec.ofChange fnInAnyScopeExactSpec)

/-- ITS FALSE NEIGHBOUR: 'it returns false'. Refute it at one input. -/
def fnInAnyScopeExactWrong : ChangeSpec := { name := "fnInAnyScopeExact", fn := fun _ => fun
  | [d] => { results := [.lit (.bool false)], args := [d] }
  | _ => none }
def FnInAnyScopeExactWrongFalsely : Prop := fnInAnyScopeExactRow.holds Try.pinned (OpenSpec.ofChange fnInAnyScopeExactWrong)

/-- 'zzlaws_internal_state_b1.FnInAnyScopeEnterNew': WHATEVER THE INPUT: true; the input reads as it did. -/
def fnInAnyScopeEnterNewSpec : ChangeSpec := { name := "fnInAnyScopeEnterNew", fn := fun _ => fun
  | [d1, d2, d3, d4] => { results := [.lit (.bool true)], args := [d1, d2, d3, d4] }
  | _ => none }
def fnInAnyScopeEnterNewRow : OpenClaim := { program := "qxb6630183a", sum := "25aafc79b1120384c0c2469bff783cb3f518f94f3e79a1df1de4623acbb7f74c", func := "example.com/hookwright/hookwright/zzlaws_internal_state_b1.FnInAnyScopeEnterNew", spec := "fnInAnyScopeEnterNew", apart := false }
def FnInAnyScopeEnterNewSaid : Prop := fnInAnyScopeEnterNewRow.holds Try.pinned (OpenSpec.ofChange fnInAnyScopeEnterNewSpec)

/-- ITS FALSE NEIGHBOUR: 'it returns false'. Refute it at one input. -/
def fnInAnyScopeEnterNewWrong : ChangeSpec := { name := "fnInAnyScopeEnterNew", fn := fun _ => fun
  | [d1, d2, d3, d4] => { results := [.lit (.bool false)], args := [d1, d2, d3, d4] }
  | _ => none }
def FnInAnyScopeEnterNewWrongFalsely : Prop := fnInAnyScopeEnterNewRow.holds Try.pinned (OpenSpec.ofChange fnInAnyScopeEnterNewWrong)

end Rows
end Go.Proofs.Qxb6630183a
