/-
  No cell of these rows narrows 'for every input' (looked for: loops, veiled, ifaces, maps, wideKeys, modest, calm, conditions, laid).
  DERIVED. THE GIVEN ROWS OF THIS SEAT. 1 by the template 'for every input the law returns true; each argument reads behind the call as it read before'; 0 by the template 'total and deterministic' (their statements: Qxb6608851aTotals.lean).
  GIVEN WITH THE SEED: the statements are not yours to turn. If you find one false, say at which input.
  Laid BY PROGRAM, IN A SANDBOX (cutbox-rows.mjs): the forced cells as the released guide's own fill.sh prints them over the translation 029c7f5ecac305d9… (all of the seat's roots in one cut). By AI agents, Wed Nov 11 2026. No macro, syntax, notation, axiom, sorry.
-/
import Derived.Test.Qxb6608851aChecked
import GoSem.Claim
import GoSem.ClaimJoined
import GoSem.ClaimMapViews
import Derived.JoinedTies
import Derived.KernelRfl
namespace Go.Proofs.Qxb6608851a
/- THE CELL 'sum', in the pinned program and in every row, IS THE sha256 OF THE DUMP (.gsa) THAT Qxb6608851aProg.lean LOADS. Nothing in Lean hashes anything: it is a label: what it is worth is what the hold of that sum in a sandbox is worth. -/
noncomputable def Try.pinned : Pinned := { name := "qxb6608851a", sum := "029c7f5ecac305d9c0b5645d3201b2e899fc021bfcb8af8478365191f60e17c4", checked := Try.checked }
namespace Rows
def none {H : Type} : Left H := { results := [], args := [] }

/-- 'zzlaws_root_b1.FnDequeLenIsDistanceAnywhereOnTheRing': WHATEVER THE INPUT: true; the input reads as it did. -/
def fnDequeLenIsDistanceAnywhereOnTheRingSpec : ChangeSpec := { name := "fnDequeLenIsDistanceAnywhereOnTheRing", fn := fun _ => fun
  | [d1, d2, d3] => { results := [.lit (.bool true)], args := [d1, d2, d3] }
  | _ => none }
def fnDequeLenIsDistanceAnywhereOnTheRingRow : OpenClaim := { program := "qxb6608851a", sum := "029c7f5ecac305d9c0b5645d3201b2e899fc021bfcb8af8478365191f60e17c4", func := "example.com/kendall/kendall/zzlaws_root_b1.FnDequeLenIsDistanceAnywhereOnTheRing", spec := "fnDequeLenIsDistanceAnywhereOnTheRing", inPlace := ["sync/atomic.StoreUint64", "sync/atomic.LoadUint64"], apart := false }
def FnDequeLenIsDistanceAnywhereOnTheRingSaid : Prop := fnDequeLenIsDistanceAnywhereOnTheRingRow.holds Try.pinned (OpenSpec.ofChange fnDequeLenIsDistanceAnywhereOnTheRingSpec)

/-- ITS FALSE NEIGHBOUR: 'it returns false'. Refute it at one input. -/
def fnDequeLenIsDistanceAnywhereOnTheRingWrong : ChangeSpec := { name := "fnDequeLenIsDistanceAnywhereOnTheRing", fn := fun _ => fun
  | [d1, d2, d3] => { results := [.lit (.bool false)], args := [d1, d2, d3] }
  | _ => none }
def FnDequeLenIsDistanceAnywhereOnTheRingWrongFalsely : Prop := fnDequeLenIsDistanceAnywhereOnTheRingRow.holds Try.pinned (OpenSpec.ofChange fnDequeLenIsDistanceAnywhereOnTheRingWrong)

end Rows
end Go.Proofs.Qxb6608851a
