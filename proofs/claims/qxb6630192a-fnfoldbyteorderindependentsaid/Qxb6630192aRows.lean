/-
  No cell of these rows narrows 'for every input' (looked for: loops, veiled, ifaces, maps, wideKeys, modest, calm, conditions, laid).
  DERIVED. THE GIVEN ROWS OF THIS SEAT. 2 by the template 'for every input the law returns true; each argument reads behind the call as it read before'; 0 by the template 'total and deterministic' (their statements: Qxb6630192aTotals.lean).
  GIVEN WITH THE SEED: the statements are not yours to turn. If you find one false, say at which input.
  Laid BY PROGRAM, IN A SANDBOX (cutbox-rows.mjs): the forced cells as the released guide's own fill.sh prints them over the translation c9ba0836b874ed19… (all of the seat's roots in one cut). By AI agents, Wed Nov 11 2026. No macro, syntax, notation, axiom, sorry.
-/
import Derived.Test.Qxb6630192aChecked
import GoSem.Claim
import GoSem.ClaimJoined
import GoSem.ClaimMapViews
import Derived.JoinedTies
import Derived.KernelRfl
namespace Go.Proofs.Qxb6630192a
/- THE CELL 'sum', in the pinned program and in every row, IS THE sha256 OF THE DUMP (.gsa) THAT Qxb6630192aProg.lean LOADS. Nothing in Lean hashes anything: it is a label: what it is worth is what the hold of that sum in a sandbox is worth. -/
noncomputable def Try.pinned : Pinned := { name := "qxb6630192a", sum := "c9ba0836b874ed19f0241c7e691251d86d5f1dd57e00c4608a8b225e9c99910d", checked := Try.checked }
namespace Rows
def none {H : Type} : Left H := { results := [], args := [] }

/-- 'zzlaws_internal_checksum_b1.FnFoldAddsWithEndAroundCarry': WHATEVER THE INPUT: true; the input reads as it did. -/
def fnFoldAddsWithEndAroundCarrySpec : ChangeSpec := { name := "fnFoldAddsWithEndAroundCarry", fn := fun _ => fun
  | [d1, d2] => { results := [.lit (.bool true)], args := [d1, d2] }
  | _ => none }
def fnFoldAddsWithEndAroundCarryRow : OpenClaim := { program := "qxb6630192a", sum := "c9ba0836b874ed19f0241c7e691251d86d5f1dd57e00c4608a8b225e9c99910d", func := "example.com/hushlink/hushlink/zzlaws_internal_checksum_b1.FnFoldAddsWithEndAroundCarry", spec := "fnFoldAddsWithEndAroundCarry", apart := false }
def FnFoldAddsWithEndAroundCarrySaid : Prop := fnFoldAddsWithEndAroundCarryRow.holds Try.pinned (OpenSpec.ofChange fnFoldAddsWithEndAroundCarrySpec)

/-- ITS FALSE NEIGHBOUR: 'it returns false'. Refute it at one input. -/
def fnFoldAddsWithEndAroundCarryWrong : ChangeSpec := { name := "fnFoldAddsWithEndAroundCarry", fn := fun _ => fun
  | [d1, d2] => { results := [.lit (.bool false)], args := [d1, d2] }
  | _ => none }
def FnFoldAddsWithEndAroundCarryWrongFalsely : Prop := fnFoldAddsWithEndAroundCarryRow.holds Try.pinned (OpenSpec.ofChange fnFoldAddsWithEndAroundCarryWrong)

/-- 'zzlaws_internal_checksum_b1.FnFoldByteOrderIndependent': WHATEVER THE INPUT: true; the input reads as it did. -/
def fnFoldByteOrderIndependentSpec : ChangeSpec := { name := "fnFoldByteOrderIndependent", fn := fun _ => fun
  | [d] => { results := [.lit (.bool true)], args := [d] }
  | _ => none }
def fnFoldByteOrderIndependentRow : OpenClaim := { program := "qxb6630192a", sum := "c9ba0836b874ed19f0241c7e691251d86d5f1dd57e00c4608a8b225e9c99910d", func := "example.com/hushlink/hushlink/zzlaws_internal_checksum_b1.FnFoldByteOrderIndependent", spec := "fnFoldByteOrderIndependent", apart := false }
def FnFoldByteOrderIndependentSaid : Prop := fnFoldByteOrderIndependentRow.holds Try.pinned (OpenSpec.ofChange fnFoldByteOrderIndependentSpec)

/-- ITS FALSE NEIGHBOUR: 'it returns false'. Refute it at one input. -/
def fnFoldByteOrderIndependentWrong : ChangeSpec := { name := "fnFoldByteOrderIndependent", fn := fun _ => fun
  | [d] => { results := [.lit (.bool false)], args := [d] }
  | _ => none }
def FnFoldByteOrderIndependentWrongFalsely : Prop := fnFoldByteOrderIndependentRow.holds Try.pinned (OpenSpec.ofChange fnFoldByteOrderIndependentWrong)

end Rows
end Go.Proofs.Qxb6630192a
