/-
  No cell of these rows narrows 'for every input' (looked for: loops, veiled, ifaces, maps, wideKeys, modest, calm, conditions, laid).
  DERIVED. THE GIVEN ROWS OF THIS SEAT. 2 by the template 'for every input the law returns true; each argument reads behind the call as it read before'; 0 by the template 'total and deterministic' (their statements: Qxb6630316aTotals.lean).
  GIVEN WITH THE SEED: the statements are not yours to turn. If you find one false, say at which input.
  Laid BY PROGRAM, IN A SANDBOX (cutbox-rows.mjs): the forced cells as the released guide's own fill.sh prints them over the translation e4812f1c471f442b… (all of the seat's roots in one cut). By AI agents, Wed Nov 11 2026. No macro, syntax, notation, axiom, sorry.
-/
import Derived.Test.Qxb6630316aChecked
import GoSem.Claim
import GoSem.ClaimJoined
import GoSem.ClaimMapViews
import Derived.JoinedTies
import Derived.KernelRfl
namespace Go.Proofs.Qxb6630316a
/- THE CELL 'sum', in the pinned program and in every row, IS THE sha256 OF THE DUMP (.gsa) THAT Qxb6630316aProg.lean LOADS. Nothing in Lean hashes anything: it is a label: what it is worth is what the hold of that sum in a sandbox is worth. -/
noncomputable def Try.pinned : Pinned := { name := "qxb6630316a", sum := "e4812f1c471f442b437cec9c120fcb14322631dca84e2db2254fc04d3b18e47f", checked := Try.checked }
namespace Rows
def none {H : Type} : Left H := { results := [], args := [] }

/-- 'zzlaws_internal_manifest_b1.FnLookupIsLastMemberNamed': WHATEVER THE INPUT: true; the input reads as it did. -/
def fnLookupIsLastMemberNamedSpec : ChangeSpec := { name := "fnLookupIsLastMemberNamed", fn := fun _ => fun
  | [d1, d2, d3, d4, d5, d6, d7, d8, d9, d10, d11] => { results := [.lit (.bool true)], args := [d1, d2, d3, d4, d5, d6, d7, d8, d9, d10, d11] }
  | _ => none }
def fnLookupIsLastMemberNamedRow : OpenClaim := { program := "qxb6630316a", sum := "e4812f1c471f442b437cec9c120fcb14322631dca84e2db2254fc04d3b18e47f", func := "example.com/dentil/dentil/zzlaws_internal_manifest_b1.FnLookupIsLastMemberNamed", spec := "fnLookupIsLastMemberNamed", apart := false }
def FnLookupIsLastMemberNamedSaid : Prop := fnLookupIsLastMemberNamedRow.holds Try.pinned (OpenSpec.ofChange fnLookupIsLastMemberNamedSpec)

/-- ITS FALSE NEIGHBOUR: 'it returns false'. Refute it at one input. -/
def fnLookupIsLastMemberNamedWrong : ChangeSpec := { name := "fnLookupIsLastMemberNamed", fn := fun _ => fun
  | [d1, d2, d3, d4, d5, d6, d7, d8, d9, d10, d11] => { results := [.lit (.bool false)], args := [d1, d2, d3, d4, d5, d6, d7, d8, d9, d10, d11] }
  | _ => none }
def FnLookupIsLastMemberNamedWrongFalsely : Prop := fnLookupIsLastMemberNamedRow.holds Try.pinned (OpenSpec.ofChange fnLookupIsLastMemberNamedWrong)

/-- 'zzlaws_internal_manifest_b1.FnLookupAfterInsert': WHATEVER THE INPUT: true; the input reads as it did. -/
def fnLookupAfterInsertSpec : ChangeSpec := { name := "fnLookupAfterInsert", fn := fun _ => fun
  | [d1, d2, d3, d4, d5] => { results := [.lit (.bool true)], args := [d1, d2, d3, d4, d5] }
  | _ => none }
def fnLookupAfterInsertRow : OpenClaim := { program := "qxb6630316a", sum := "e4812f1c471f442b437cec9c120fcb14322631dca84e2db2254fc04d3b18e47f", func := "example.com/dentil/dentil/zzlaws_internal_manifest_b1.FnLookupAfterInsert", spec := "fnLookupAfterInsert", apart := false }
def FnLookupAfterInsertSaid : Prop := fnLookupAfterInsertRow.holds Try.pinned (OpenSpec.ofChange fnLookupAfterInsertSpec)

/-- ITS FALSE NEIGHBOUR: 'it returns false'. Refute it at one input. -/
def fnLookupAfterInsertWrong : ChangeSpec := { name := "fnLookupAfterInsert", fn := fun _ => fun
  | [d1, d2, d3, d4, d5] => { results := [.lit (.bool false)], args := [d1, d2, d3, d4, d5] }
  | _ => none }
def FnLookupAfterInsertWrongFalsely : Prop := fnLookupAfterInsertRow.holds Try.pinned (OpenSpec.ofChange fnLookupAfterInsertWrong)

end Rows
end Go.Proofs.Qxb6630316a
