/-
  No cell of these rows narrows 'for every input' (looked for: loops, veiled, ifaces, maps, wideKeys, modest, calm, conditions, laid).
  DERIVED. THE GIVEN ROWS OF THIS SEAT. 2 by the template 'for every input the law returns true; each argument reads behind the call as it read before'; 0 by the template 'total and deterministic' (their statements: Qxb6630221aTotals.lean).
  GIVEN WITH THE SEED: the statements are not yours to turn. If you find one false, say at which input.
  Laid BY PROGRAM, IN A SANDBOX (cutbox-rows.mjs): the forced cells as the released guide's own fill.sh prints them over the translation 720052f5d6bedb50… (all of the seat's roots in one cut). By AI agents, Wed Nov 11 2026. No macro, syntax, notation, axiom, sorry.
-/
import Derived.Test.Qxb6630221aChecked
import GoSem.Claim
import GoSem.ClaimJoined
import GoSem.ClaimMapViews
import Derived.JoinedTies
import Derived.KernelRfl
namespace Go.Proofs.Qxb6630221a
/- THE CELL 'sum', in the pinned program and in every row, IS THE sha256 OF THE DUMP (.gsa) THAT Qxb6630221aProg.lean LOADS. Nothing in Lean hashes anything: it is a label: what it is worth is what the hold of that sum in a sandbox is worth. -/
noncomputable def Try.pinned : Pinned := { name := "qxb6630221a", sum := "720052f5d6bedb50bf81fa56c70d0c05c8b47595501b284ef8ba1a66e0d79e7f", checked := Try.checked }
namespace Rows
def none {H : Type} : Left H := { results := [], args := [] }

/-- 'zzlaws_internal_session_b1.FnAppendRowIsDstFollowedByOwnLine': WHATEVER THE INPUT: true; the input reads as it did. -/
def fnAppendRowIsDstFollowedByOwnLineSpec : ChangeSpec := { name := "fnAppendRowIsDstFollowedByOwnLine", fn := fun _ => fun
  | [d1, d2, d3, d4] => { results := [.lit (.bool true)], args := [d1, d2, d3, d4] }
  | _ => none }
def fnAppendRowIsDstFollowedByOwnLineRow : OpenClaim := { program := "qxb6630221a", sum := "720052f5d6bedb50bf81fa56c70d0c05c8b47595501b284ef8ba1a66e0d79e7f", func := "example.com/portage-ledger/portage-ledger/zzlaws_internal_session_b1.FnAppendRowIsDstFollowedByOwnLine", spec := "fnAppendRowIsDstFollowedByOwnLine", apart := false }
def FnAppendRowIsDstFollowedByOwnLineSaid : Prop := fnAppendRowIsDstFollowedByOwnLineRow.holds Try.pinned (OpenSpec.ofChange fnAppendRowIsDstFollowedByOwnLineSpec)

/-- ITS FALSE NEIGHBOUR: 'it returns false'. Refute it at one input. -/
def fnAppendRowIsDstFollowedByOwnLineWrong : ChangeSpec := { name := "fnAppendRowIsDstFollowedByOwnLine", fn := fun _ => fun
  | [d1, d2, d3, d4] => { results := [.lit (.bool false)], args := [d1, d2, d3, d4] }
  | _ => none }
def FnAppendRowIsDstFollowedByOwnLineWrongFalsely : Prop := fnAppendRowIsDstFollowedByOwnLineRow.holds Try.pinned (OpenSpec.ofChange fnAppendRowIsDstFollowedByOwnLineWrong)

/-- 'zzlaws_internal_session_b1.FnAppendRowActiveAndInactiveDifferOnlyInMark': WHATEVER THE INPUT: true; the input reads as it did. -/
def fnAppendRowActiveAndInactiveDifferOnlyInMarkSpec : ChangeSpec := { name := "fnAppendRowActiveAndInactiveDifferOnlyInMark", fn := fun _ => fun
  | [d1, d2, d3] => { results := [.lit (.bool true)], args := [d1, d2, d3] }
  | _ => none }
def fnAppendRowActiveAndInactiveDifferOnlyInMarkRow : OpenClaim := { program := "qxb6630221a", sum := "720052f5d6bedb50bf81fa56c70d0c05c8b47595501b284ef8ba1a66e0d79e7f", func := "example.com/portage-ledger/portage-ledger/zzlaws_internal_session_b1.FnAppendRowActiveAndInactiveDifferOnlyInMark", spec := "fnAppendRowActiveAndInactiveDifferOnlyInMark", apart := false }
def FnAppendRowActiveAndInactiveDifferOnlyInMarkSaid : Prop := fnAppendRowActiveAndInactiveDifferOnlyInMarkRow.holds Try.pinned (OpenSpec.ofChange fnAppendRowActiveAndInactiveDifferOnlyInMarkSpec)

/-- ITS FALSE NEIGHBOUR: 'it returns false'. Refute it at one input. -/
def fnAppendRowActiveAndInactiveDifferOnlyInMarkWrong : ChangeSpec := { name := "fnAppendRowActiveAndInactiveDifferOnlyInMark", fn := fun _ => fun
  | [d1, d2, d3] => { results := [.lit (.bool false)], args := [d1, d2, d3] }
  | _ => none }
def FnAppendRowActiveAndInactiveDifferOnlyInMarkWrongFalsely : Prop := fnAppendRowActiveAndInactiveDifferOnlyInMarkRow.holds Try.pinned (OpenSpec.ofChange fnAppendRowActiveAndInactiveDifferOnlyInMarkWrong)

end Rows
end Go.Proofs.Qxb6630221a
