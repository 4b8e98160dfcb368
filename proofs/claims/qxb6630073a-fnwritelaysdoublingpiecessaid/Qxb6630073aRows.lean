/-
  No cell of these rows narrows 'for every input' (looked for: loops, veiled, ifaces, maps, wideKeys, modest, calm, conditions, laid).
  DERIVED. THE GIVEN ROWS OF THIS SEAT. 2 by the template 'for every input the law returns true; each argument reads behind the call as it read before'; 0 by the template 'total and deterministic' (their statements: Qxb6630073aTotals.lean).
  GIVEN WITH THE SEED: the statements are not yours to turn. If you find one false, say at which input.
  Laid BY PROGRAM, IN A SANDBOX (cutbox-rows.mjs): the forced cells as the released guide's own fill.sh prints them over the translation f5d596963fe95877… (all of the seat's roots in one cut). By AI agents, Wed Nov 11 2026. No macro, syntax, notation, axiom, sorry.
-/
import Derived.Test.Qxb6630073aChecked
import GoSem.Claim
import GoSem.ClaimJoined
import GoSem.ClaimMapViews
import Derived.JoinedTies
import Derived.KernelRfl
namespace Go.Proofs.Qxb6630073a
/- THE CELL 'sum', in the pinned program and in every row, IS THE sha256 OF THE DUMP (.gsa) THAT Qxb6630073aProg.lean LOADS. Nothing in Lean hashes anything: it is a label: what it is worth is what the hold of that sum in a sandbox is worth. -/
noncomputable def Try.pinned : Pinned := { name := "qxb6630073a", sum := "f5d596963fe95877a1c4c4119a1a43074e94d911a65a73e646e6b9596ca9a0a8", checked := Try.checked }
namespace Rows
def none {H : Type} : Left H := { results := [], args := [] }

/-- 'zzlaws_internal_buffer_b1.FnWriteAppendsAtAnyCut': WHATEVER THE INPUT: true; the input reads as it did. -/
def fnWriteAppendsAtAnyCutSpec : ChangeSpec := { name := "fnWriteAppendsAtAnyCut", fn := fun _ => fun
  | [d1, d2, d3] => { results := [.lit (.bool true)], args := [d1, d2, d3] }
  | _ => none }
def fnWriteAppendsAtAnyCutRow : OpenClaim := { program := "qxb6630073a", sum := "f5d596963fe95877a1c4c4119a1a43074e94d911a65a73e646e6b9596ca9a0a8", func := "example.com/bellerophon/bellerophon/zzlaws_internal_buffer_b1.FnWriteAppendsAtAnyCut", spec := "fnWriteAppendsAtAnyCut", apart := false }
def FnWriteAppendsAtAnyCutSaid : Prop := fnWriteAppendsAtAnyCutRow.holds Try.pinned (OpenSpec.ofChange fnWriteAppendsAtAnyCutSpec)

/-- ITS FALSE NEIGHBOUR: 'it returns false'. Refute it at one input. -/
def fnWriteAppendsAtAnyCutWrong : ChangeSpec := { name := "fnWriteAppendsAtAnyCut", fn := fun _ => fun
  | [d1, d2, d3] => { results := [.lit (.bool false)], args := [d1, d2, d3] }
  | _ => none }
def FnWriteAppendsAtAnyCutWrongFalsely : Prop := fnWriteAppendsAtAnyCutRow.holds Try.pinned (OpenSpec.ofChange fnWriteAppendsAtAnyCutWrong)

/-- 'zzlaws_internal_buffer_b1.FnWriteLaysDoublingPieces': WHATEVER THE INPUT: true; the input reads as it did. -/
def fnWriteLaysDoublingPiecesSpec : ChangeSpec := { name := "fnWriteLaysDoublingPieces", fn := fun _ => fun
  | [d1, d2] => { results := [.lit (.bool true)], args := [d1, d2] }
  | _ => none }
def fnWriteLaysDoublingPiecesRow : OpenClaim := { program := "qxb6630073a", sum := "f5d596963fe95877a1c4c4119a1a43074e94d911a65a73e646e6b9596ca9a0a8", func := "example.com/bellerophon/bellerophon/zzlaws_internal_buffer_b1.FnWriteLaysDoublingPieces", spec := "fnWriteLaysDoublingPieces", apart := false }
def FnWriteLaysDoublingPiecesSaid : Prop := fnWriteLaysDoublingPiecesRow.holds Try.pinned (OpenSpec.ofChange fnWriteLaysDoublingPiecesSpec)

/-- ITS FALSE NEIGHBOUR: 'it returns false'. Refute it at one input. -/
def fnWriteLaysDoublingPiecesWrong : ChangeSpec := { name := "fnWriteLaysDoublingPieces", fn := fun _ => fun
  | [d1, d2] => { results := [.lit (.bool false)], args := [d1, d2] }
  | _ => none }
def FnWriteLaysDoublingPiecesWrongFalsely : Prop := fnWriteLaysDoublingPiecesRow.holds Try.pinned (OpenSpec.ofChange fnWriteLaysDoublingPiecesWrong)

end Rows
end Go.Proofs.Qxb6630073a
