/-
  No cell of these rows narrows 'for every input' (looked for: loops, veiled, ifaces, maps, wideKeys, modest, calm, conditions, laid).
  DERIVED. THE GIVEN ROWS OF THIS SEAT. 2 by the template 'for every input the law returns true; each argument reads behind the call as it read before'; 0 by the template 'total and deterministic' (their statements: Qxb6630272aTotals.lean).
  GIVEN WITH THE SEED: the statements are not yours to turn. If you find one false, say at which input.
  Laid BY PROGRAM, IN A SANDBOX (cutbox-rows.mjs): the forced cells as the released guide's own fill.sh prints them over the translation 3f1e620a12b2b02c… (all of the seat's roots in one cut). By AI agents, Wed Nov 11 2026. No macro, syntax, notation, axiom, sorry.
-/
import Derived.Test.Qxb6630272aChecked
import GoSem.Claim
import GoSem.ClaimJoined
import GoSem.ClaimMapViews
import Derived.JoinedTies
import Derived.KernelRfl
namespace Go.Proofs.Qxb6630272a
/- THE CELL 'sum', in the pinned program and in every row, IS THE sha256 OF THE DUMP (.gsa) THAT Qxb6630272aProg.lean LOADS. Nothing in Lean hashes anything: it is a label: what it is worth is what the hold of that sum in a sandbox is worth. -/
noncomputable def Try.pinned : Pinned := { name := "qxb6630272a", sum := "3f1e620a12b2b02c9b37f71224a75ec8049bd6d06311ecc5c983398b7f65078e", checked := Try.checked }
namespace Rows
def none {H : Type} : Left H := { results := [], args := [] }

/-- 'zzlaws_internal_bson_b1.FnLookupSplitsAtAnyCut': WHATEVER THE INPUT: true; the input reads as it did. -/
def fnLookupSplitsAtAnyCutSpec : ChangeSpec := { name := "fnLookupSplitsAtAnyCut", fn := fun _ => fun
  | [d1, d2, d3] => { results := [.lit (.bool true)], args := [d1, d2, d3] }
  | _ => none }
def fnLookupSplitsAtAnyCutRow : OpenClaim := { program := "qxb6630272a", sum := "3f1e620a12b2b02c9b37f71224a75ec8049bd6d06311ecc5c983398b7f65078e", func := "example.com/saltwire/saltwire/zzlaws_internal_bson_b1.FnLookupSplitsAtAnyCut", spec := "fnLookupSplitsAtAnyCut", apart := false }
def FnLookupSplitsAtAnyCutSaid : Prop := fnLookupSplitsAtAnyCutRow.holds Try.pinned (OpenSpec.ofChange fnLookupSplitsAtAnyCutSpec)

/-- ITS FALSE NEIGHBOUR: 'it returns false'. Refute it at one input. -/
def fnLookupSplitsAtAnyCutWrong : ChangeSpec := { name := "fnLookupSplitsAtAnyCut", fn := fun _ => fun
  | [d1, d2, d3] => { results := [.lit (.bool false)], args := [d1, d2, d3] }
  | _ => none }
def FnLookupSplitsAtAnyCutWrongFalsely : Prop := fnLookupSplitsAtAnyCutRow.holds Try.pinned (OpenSpec.ofChange fnLookupSplitsAtAnyCutWrong)

/-- 'zzlaws_internal_bson_b1.FnLookupFindsInsertedUnlessEarlier': WHATEVER THE INPUT: true; the input reads as it did. -/
def fnLookupFindsInsertedUnlessEarlierSpec : ChangeSpec := { name := "fnLookupFindsInsertedUnlessEarlier", fn := fun _ => fun
  | [d1, d2, d3, d4, d5] => { results := [.lit (.bool true)], args := [d1, d2, d3, d4, d5] }
  | _ => none }
def fnLookupFindsInsertedUnlessEarlierRow : OpenClaim := { program := "qxb6630272a", sum := "3f1e620a12b2b02c9b37f71224a75ec8049bd6d06311ecc5c983398b7f65078e", func := "example.com/saltwire/saltwire/zzlaws_internal_bson_b1.FnLookupFindsInsertedUnlessEarlier", spec := "fnLookupFindsInsertedUnlessEarlier", apart := false }
def FnLookupFindsInsertedUnlessEarlierSaid : Prop := fnLookupFindsInsertedUnlessEarlierRow.holds Try.pinned (OpenSpec.ofChange fnLookupFindsInsertedUnlessEarlierSpec)

/-- ITS FALSE NEIGHBOUR: 'it returns false'. Refute it at one input. -/
def fnLookupFindsInsertedUnlessEarlierWrong : ChangeSpec := { name := "fnLookupFindsInsertedUnlessEarlier", fn := fun _ => fun
  | [d1, d2, d3, d4, d5] => { results := [.lit (.bool false)], args := [d1, d2, d3, d4, d5] }
  | _ => none }
def FnLookupFindsInsertedUnlessEarlierWrongFalsely : Prop := fnLookupFindsInsertedUnlessEarlierRow.holds Try.pinned (OpenSpec.ofChange fnLookupFindsInsertedUnlessEarlierWrong)

end Rows
end Go.Proofs.Qxb6630272a
