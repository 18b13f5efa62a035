/-
  No cell of these rows narrows 'for every input' (looked for: loops, veiled, ifaces, maps, wideKeys, modest, calm, conditions, laid).
  DERIVED. THE GIVEN ROWS OF THIS SEAT. 3 by the template 'for every input the law returns true; each argument reads behind the call as it read before'; 0 by the template 'total and deterministic' (their statements: Qxb6605882aTotals.lean).
  GIVEN WITH THE SEED: the statements are not yours to turn. If you find one false, say at which input.
  Laid BY PROGRAM, IN A SANDBOX (cutbox-rows.mjs): the forced cells as the released guide's own fill.sh prints them over the translation b8d84c5395ca9083… (all of the seat's roots in one cut). By AI agents, Wed Nov 11 2026. No macro, syntax, notation, axiom, sorry.
-/
import Derived.Test.Qxb6605882aChecked
import GoSem.Claim
import GoSem.ClaimJoined
import GoSem.ClaimMapViews
import Derived.JoinedTies
import Derived.KernelRfl
namespace Go.Proofs.Qxb6605882a
/- THE CELL 'sum', in the pinned program and in every row, IS THE sha256 OF THE DUMP (.gsa) THAT Qxb6605882aProg.lean LOADS. Nothing in Lean hashes anything: it is a label: what it is worth is what the hold of that sum in a sandbox is worth. -/
noncomputable def Try.pinned : Pinned := { name := "qxb6605882a", sum := "b8d84c5395ca90837b55d79bacf21be08904d118f4366f04e85f5a2eb87077e9", checked := Try.checked }
namespace Rows
def none {H : Type} : Left H := { results := [], args := [] }

/-- 'zzlaws_internal_selector_b1.FnIsWordByteTable': WHATEVER THE INPUT: true; the input reads as it did. -/
def fnIsWordByteTableSpec : ChangeSpec := { name := "fnIsWordByteTable", fn := fun _ => fun
  | [d] => { results := [.lit (.bool true)], args := [d] }
  | _ => none }
def fnIsWordByteTableRow : OpenClaim := { program := "qxb6605882a", sum := "b8d84c5395ca90837b55d79bacf21be08904d118f4366f04e85f5a2eb87077e9", func := "example.com/tidewatch/tidewatch/zzlaws_internal_selector_b1.FnIsWordByteTable", spec := "fnIsWordByteTable", apart := false }
def FnIsWordByteTableSaid : Prop := fnIsWordByteTableRow.holds Try.pinned (OpenSpec.ofChange fnIsWordByteTableSpec)

/-- ITS FALSE NEIGHBOUR: 'it returns false'. Refute it at one input. -/
def fnIsWordByteTableWrong : ChangeSpec := { name := "fnIsWordByteTable", fn := fun _ => fun
  | [d] => { results := [.lit (.bool false)], args := [d] }
  | _ => none }
def FnIsWordByteTableWrongFalsely : Prop := fnIsWordByteTableRow.holds Try.pinned (OpenSpec.ofChange fnIsWordByteTableWrong)

/-- 'zzlaws_internal_selector_b1.FnFieldsMatchesSpec': WHATEVER THE INPUT: true; the input reads as it did. -/
def fnFieldsMatchesSpecSpec : ChangeSpec := { name := "fnFieldsMatchesSpec", fn := fun _ => fun
  | [d1, d2, d3] => { results := [.lit (.bool true)], args := [d1, d2, d3] }
  | _ => none }
def fnFieldsMatchesSpecRow : OpenClaim := { program := "qxb6605882a", sum := "b8d84c5395ca90837b55d79bacf21be08904d118f4366f04e85f5a2eb87077e9", func := "example.com/tidewatch/tidewatch/zzlaws_internal_selector_b1.FnFieldsMatchesSpec", spec := "fnFieldsMatchesSpec", unfollowed := true, recurses := true, apart := false }
def FnFieldsMatchesSpecSaid : Prop := fnFieldsMatchesSpecRow.holds Try.pinned (OpenSpec.ofChange fnFieldsMatchesSpecSpec)

/-- ITS FALSE NEIGHBOUR: 'it returns false'. Refute it at one input. -/
def fnFieldsMatchesSpecWrong : ChangeSpec := { name := "fnFieldsMatchesSpec", fn := fun _ => fun
  | [d1, d2, d3] => { results := [.lit (.bool false)], args := [d1, d2, d3] }
  | _ => none }
def FnFieldsMatchesSpecWrongFalsely : Prop := fnFieldsMatchesSpecRow.holds Try.pinned (OpenSpec.ofChange fnFieldsMatchesSpecWrong)

/-- 'zzlaws_internal_selector_b1.FnFieldsMatchesSplitFlip': WHATEVER THE INPUT: true; the input reads as it did. -/
def fnFieldsMatchesSplitFlipSpec : ChangeSpec := { name := "fnFieldsMatchesSplitFlip", fn := fun _ => fun
  | [d1, d2, d3, d4] => { results := [.lit (.bool true)], args := [d1, d2, d3, d4] }
  | _ => none }
def fnFieldsMatchesSplitFlipRow : OpenClaim := { program := "qxb6605882a", sum := "b8d84c5395ca90837b55d79bacf21be08904d118f4366f04e85f5a2eb87077e9", func := "example.com/tidewatch/tidewatch/zzlaws_internal_selector_b1.FnFieldsMatchesSplitFlip", spec := "fnFieldsMatchesSplitFlip", unfollowed := true, recurses := true, apart := false }
def FnFieldsMatchesSplitFlipSaid : Prop := fnFieldsMatchesSplitFlipRow.holds Try.pinned (OpenSpec.ofChange fnFieldsMatchesSplitFlipSpec)

/-- ITS FALSE NEIGHBOUR: 'it returns false'. Refute it at one input. -/
def fnFieldsMatchesSplitFlipWrong : ChangeSpec := { name := "fnFieldsMatchesSplitFlip", fn := fun _ => fun
  | [d1, d2, d3, d4] => { results := [.lit (.bool false)], args := [d1, d2, d3, d4] }
  | _ => none }
def FnFieldsMatchesSplitFlipWrongFalsely : Prop := fnFieldsMatchesSplitFlipRow.holds Try.pinned (OpenSpec.ofChange fnFieldsMatchesSplitFlipWrong)

end Rows
end Go.Proofs.Qxb6605882a
