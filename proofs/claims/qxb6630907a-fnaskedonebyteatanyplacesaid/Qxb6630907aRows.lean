/-
  No cell of these rows narrows 'for every input' (looked for: loops, veiled, ifaces, maps, wideKeys, modest, calm, conditions, laid).
  DERIVED. THE GIVEN ROWS OF THIS SEAT. 2 by the template 'for every input the law returns true; each argument reads behind the call as it read before'; 0 by the template 'total and deterministic' (their statements: Qxb6630907aTotals.lean).
  GIVEN WITH THE SEED: the statements are not yours to turn. If you find one false, say at which input.
  Laid BY PROGRAM, IN A SANDBOX (cutbox-rows.mjs): the forced cells as the released guide's own fill.sh prints them over the translation 113cc72e60b9782a… (all of the seat's roots in one cut). By AI agents, Wed Nov 11 2026. No macro, syntax, notation, axiom, sorry.
-/
import Derived.Test.Qxb6630907aChecked
import GoSem.Claim
import GoSem.ClaimJoined
import GoSem.ClaimMapViews
import Derived.JoinedTies
import Derived.KernelRfl
namespace Go.Proofs.Qxb6630907a
/- THE CELL 'sum', in the pinned program and in every row, IS THE sha256 OF THE DUMP (.gsa) THAT Qxb6630907aProg.lean LOADS. Nothing in Lean hashes anything: it is a label: what it is worth is what the hold of that sum in a sandbox is worth. -/
noncomputable def Try.pinned : Pinned := { name := "qxb6630907a", sum := "113cc72e60b9782a6993592c47102f2dd737fea8d77fa2b3f3cb6e04dc08bc81", checked := Try.checked }
namespace Rows
def none {H : Type} : Left H := { results := [], args := [] }

/-- 'zzlaws_internal_words_b1.FnAskedJoinAtAnyCut': WHATEVER THE INPUT: true; the input reads as it did. -/
def fnAskedJoinAtAnyCutSpec : ChangeSpec := { name := "fnAskedJoinAtAnyCut", fn := fun _ => fun
  | [d1, d2] => { results := [.lit (.bool true)], args := [d1, d2] }
  | _ => none }
def fnAskedJoinAtAnyCutRow : OpenClaim := { program := "qxb6630907a", sum := "113cc72e60b9782a6993592c47102f2dd737fea8d77fa2b3f3cb6e04dc08bc81", func := "example.com/ephemeral/ephemeral/zzlaws_internal_words_b1.FnAskedJoinAtAnyCut", spec := "fnAskedJoinAtAnyCut", apart := false }
def FnAskedJoinAtAnyCutSaid : Prop := fnAskedJoinAtAnyCutRow.holds Try.pinned (OpenSpec.ofChange fnAskedJoinAtAnyCutSpec)

/-- ITS FALSE NEIGHBOUR: 'it returns false'. Refute it at one input. -/
def fnAskedJoinAtAnyCutWrong : ChangeSpec := { name := "fnAskedJoinAtAnyCut", fn := fun _ => fun
  | [d1, d2] => { results := [.lit (.bool false)], args := [d1, d2] }
  | _ => none }
def FnAskedJoinAtAnyCutWrongFalsely : Prop := fnAskedJoinAtAnyCutRow.holds Try.pinned (OpenSpec.ofChange fnAskedJoinAtAnyCutWrong)

/-- 'zzlaws_internal_words_b1.FnAskedOneByteAtAnyPlace': WHATEVER THE INPUT: true; the input reads as it did. -/
def fnAskedOneByteAtAnyPlaceSpec : ChangeSpec := { name := "fnAskedOneByteAtAnyPlace", fn := fun _ => fun
  | [d1, d2, d3] => { results := [.lit (.bool true)], args := [d1, d2, d3] }
  | _ => none }
def fnAskedOneByteAtAnyPlaceRow : OpenClaim := { program := "qxb6630907a", sum := "113cc72e60b9782a6993592c47102f2dd737fea8d77fa2b3f3cb6e04dc08bc81", func := "example.com/ephemeral/ephemeral/zzlaws_internal_words_b1.FnAskedOneByteAtAnyPlace", spec := "fnAskedOneByteAtAnyPlace", apart := false }
def FnAskedOneByteAtAnyPlaceSaid : Prop := fnAskedOneByteAtAnyPlaceRow.holds Try.pinned (OpenSpec.ofChange fnAskedOneByteAtAnyPlaceSpec)

/-- ITS FALSE NEIGHBOUR: 'it returns false'. Refute it at one input. -/
def fnAskedOneByteAtAnyPlaceWrong : ChangeSpec := { name := "fnAskedOneByteAtAnyPlace", fn := fun _ => fun
  | [d1, d2, d3] => { results := [.lit (.bool false)], args := [d1, d2, d3] }
  | _ => none }
def FnAskedOneByteAtAnyPlaceWrongFalsely : Prop := fnAskedOneByteAtAnyPlaceRow.holds Try.pinned (OpenSpec.ofChange fnAskedOneByteAtAnyPlaceWrong)

end Rows
end Go.Proofs.Qxb6630907a
