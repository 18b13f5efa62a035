/-
  No cell of these rows narrows 'for every input' (looked for: loops, veiled, ifaces, maps, wideKeys, modest, calm, conditions, laid).
  DERIVED. THE GIVEN ROWS OF THIS SEAT. 2 by the template 'for every input the law returns true; each argument reads behind the call as it read before'; 0 by the template 'total and deterministic' (their statements: Qxb6605950aTotals.lean).
  GIVEN WITH THE SEED: the statements are not yours to turn. If you find one false, say at which input.
  Laid BY PROGRAM, IN A SANDBOX (cutbox-rows.mjs): the forced cells as the released guide's own fill.sh prints them over the translation 7203a51e35c8d927… (all of the seat's roots in one cut). By AI agents, Wed Nov 11 2026. No macro, syntax, notation, axiom, sorry.
-/
import Derived.Test.Qxb6605950aChecked
import GoSem.Claim
import GoSem.ClaimJoined
import GoSem.ClaimMapViews
import Derived.JoinedTies
import Derived.KernelRfl
namespace Go.Proofs.Qxb6605950a
/- THE CELL 'sum', in the pinned program and in every row, IS THE sha256 OF THE DUMP (.gsa) THAT Qxb6605950aProg.lean LOADS. Nothing in Lean hashes anything: it is a label: what it is worth is what the hold of that sum in a sandbox is worth. -/
noncomputable def Try.pinned : Pinned := { name := "qxb6605950a", sum := "7203a51e35c8d927d8d2624d638dc1f3df5a709d4f8404798c44844245b94593", checked := Try.checked }
namespace Rows
def none {H : Type} : Left H := { results := [], args := [] }

/-- 'zzlaws_internal_emailreply_b1.FnSplitAddressSplitsAtLastAt': WHATEVER THE INPUT: true; the input reads as it did. -/
def fnSplitAddressSplitsAtLastAtSpec : ChangeSpec := { name := "fnSplitAddressSplitsAtLastAt", fn := fun _ => fun
  | [d] => { results := [.lit (.bool true)], args := [d] }
  | _ => none }
def fnSplitAddressSplitsAtLastAtRow : OpenClaim := { program := "qxb6605950a", sum := "7203a51e35c8d927d8d2624d638dc1f3df5a709d4f8404798c44844245b94593", func := "example.com/sigilpost/sigilpost/zzlaws_internal_emailreply_b1.FnSplitAddressSplitsAtLastAt", spec := "fnSplitAddressSplitsAtLastAt", apart := false }
def FnSplitAddressSplitsAtLastAtSaid : Prop := fnSplitAddressSplitsAtLastAtRow.holds Try.pinned (OpenSpec.ofChange fnSplitAddressSplitsAtLastAtSpec)

/-- ITS FALSE NEIGHBOUR: 'it returns false'. Refute it at one input. -/
def fnSplitAddressSplitsAtLastAtWrong : ChangeSpec := { name := "fnSplitAddressSplitsAtLastAt", fn := fun _ => fun
  | [d] => { results := [.lit (.bool false)], args := [d] }
  | _ => none }
def FnSplitAddressSplitsAtLastAtWrongFalsely : Prop := fnSplitAddressSplitsAtLastAtRow.holds Try.pinned (OpenSpec.ofChange fnSplitAddressSplitsAtLastAtWrong)

/-- 'zzlaws_internal_emailreply_b1.FnSplitAddressUndoesJoin': WHATEVER THE INPUT: true; the input reads as it did. -/
def fnSplitAddressUndoesJoinSpec : ChangeSpec := { name := "fnSplitAddressUndoesJoin", fn := fun _ => fun
  | [d1, d2] => { results := [.lit (.bool true)], args := [d1, d2] }
  | _ => none }
def fnSplitAddressUndoesJoinRow : OpenClaim := { program := "qxb6605950a", sum := "7203a51e35c8d927d8d2624d638dc1f3df5a709d4f8404798c44844245b94593", func := "example.com/sigilpost/sigilpost/zzlaws_internal_emailreply_b1.FnSplitAddressUndoesJoin", spec := "fnSplitAddressUndoesJoin", apart := false }
def FnSplitAddressUndoesJoinSaid : Prop := fnSplitAddressUndoesJoinRow.holds Try.pinned (OpenSpec.ofChange fnSplitAddressUndoesJoinSpec)

/-- ITS FALSE NEIGHBOUR: 'it returns false'. Refute it at one input. -/
def fnSplitAddressUndoesJoinWrong : ChangeSpec := { name := "fnSplitAddressUndoesJoin", fn := fun _ => fun
  | [d1, d2] => { results := [.lit (.bool false)], args := [d1, d2] }
  | _ => none }
def FnSplitAddressUndoesJoinWrongFalsely : Prop := fnSplitAddressUndoesJoinRow.holds Try.pinned (OpenSpec.ofChange fnSplitAddressUndoesJoinWrong)

end Rows
end Go.Proofs.Qxb6605950a
