/-
  No cell of these rows narrows 'for every input' (looked for: loops, veiled, ifaces, maps, wideKeys, modest, calm, conditions, laid).
  DERIVED. THE GIVEN ROWS OF THIS SEAT. 4 by the template 'for every input the law returns true; each argument reads behind the call as it read before'; 0 by the template 'total and deterministic' (their statements: Qxb6605856aTotals.lean).
  GIVEN WITH THE SEED: the statements are not yours to turn. If you find one false, say at which input.
  Laid BY PROGRAM, IN A SANDBOX (cutbox-rows.mjs): the forced cells as the released guide's own fill.sh prints them over the translation 3bd2c8ca88d5f618… (all of the seat's roots in one cut). By AI agents, Wed Nov 11 2026. No macro, syntax, notation, axiom, sorry.
-/
import Derived.Test.Qxb6605856aChecked
import GoSem.Claim
import GoSem.ClaimJoined
import GoSem.ClaimMapViews
import Derived.JoinedTies
import Derived.KernelRfl
namespace Go.Proofs.Qxb6605856a
/- THE CELL 'sum', in the pinned program and in every row, IS THE sha256 OF THE DUMP (.gsa) THAT Qxb6605856aProg.lean LOADS. Nothing in Lean hashes anything: it is a label: what it is worth is what the hold of that sum in a sandbox is worth. -/
noncomputable def Try.pinned : Pinned := { name := "qxb6605856a", sum := "3bd2c8ca88d5f61879eafd9aca35fa869595a97bb4d3bab380896a1445854578", checked := Try.checked }
namespace Rows
def none {H : Type} : Left H := { results := [], args := [] }

/-- 'zzlaws_internal_git_b1.FnIsFileOctalModel': WHATEVER THE INPUT: true; the input reads as it did. -/
def fnIsFileOctalModelSpec : ChangeSpec := { name := "fnIsFileOctalModel", fn := fun _ => fun
  | [d1, d2] => { results := [.lit (.bool true)], args := [d1, d2] }
  | _ => none }
def fnIsFileOctalModelRow : OpenClaim := { program := "qxb6605856a", sum := "3bd2c8ca88d5f61879eafd9aca35fa869595a97bb4d3bab380896a1445854578", func := "example.com/sluice/sluice/zzlaws_internal_git_b1.FnIsFileOctalModel", spec := "fnIsFileOctalModel", apart := false }
def FnIsFileOctalModelSaid : Prop := fnIsFileOctalModelRow.holds Try.pinned (OpenSpec.ofChange fnIsFileOctalModelSpec)

/-- ITS FALSE NEIGHBOUR: 'it returns false'. Refute it at one input. -/
def fnIsFileOctalModelWrong : ChangeSpec := { name := "fnIsFileOctalModel", fn := fun _ => fun
  | [d1, d2] => { results := [.lit (.bool false)], args := [d1, d2] }
  | _ => none }
def FnIsFileOctalModelWrongFalsely : Prop := fnIsFileOctalModelRow.holds Try.pinned (OpenSpec.ofChange fnIsFileOctalModelWrong)

/-- 'zzlaws_internal_git_b1.FnIsFileOneByteOff': WHATEVER THE INPUT: true; the input reads as it did. -/
def fnIsFileOneByteOffSpec : ChangeSpec := { name := "fnIsFileOneByteOff", fn := fun _ => fun
  | [d1, d2, d3, d4] => { results := [.lit (.bool true)], args := [d1, d2, d3, d4] }
  | _ => none }
def fnIsFileOneByteOffRow : OpenClaim := { program := "qxb6605856a", sum := "3bd2c8ca88d5f61879eafd9aca35fa869595a97bb4d3bab380896a1445854578", func := "example.com/sluice/sluice/zzlaws_internal_git_b1.FnIsFileOneByteOff", spec := "fnIsFileOneByteOff", apart := false }
def FnIsFileOneByteOffSaid : Prop := fnIsFileOneByteOffRow.holds Try.pinned (OpenSpec.ofChange fnIsFileOneByteOffSpec)

/-- ITS FALSE NEIGHBOUR: 'it returns false'. Refute it at one input. -/
def fnIsFileOneByteOffWrong : ChangeSpec := { name := "fnIsFileOneByteOff", fn := fun _ => fun
  | [d1, d2, d3, d4] => { results := [.lit (.bool false)], args := [d1, d2, d3, d4] }
  | _ => none }
def FnIsFileOneByteOffWrongFalsely : Prop := fnIsFileOneByteOffRow.holds Try.pinned (OpenSpec.ofChange fnIsFileOneByteOffWrong)

/-- 'zzlaws_internal_git_b1.FnLockFilesModel': WHATEVER THE INPUT: true; the input reads as it did. -/
def fnLockFilesModelSpec : ChangeSpec := { name := "fnLockFilesModel", fn := fun _ => fun
  | [d1, d2, d3, d4, d5] => { results := [.lit (.bool true)], args := [d1, d2, d3, d4, d5] }
  | _ => none }
def fnLockFilesModelRow : OpenClaim := { program := "qxb6605856a", sum := "3bd2c8ca88d5f61879eafd9aca35fa869595a97bb4d3bab380896a1445854578", func := "example.com/sluice/sluice/zzlaws_internal_git_b1.FnLockFilesModel", spec := "fnLockFilesModel", inPlace := ["internal/bytealg.IndexByteString", "internal/bytealg.IndexString", "internal/abi.NoEscape", "internal/bytealg.MakeNoZero"], named := ["internal/bytealg.MaxLen"], apart := false }
def FnLockFilesModelSaid : Prop := fnLockFilesModelRow.holds Try.pinned (OpenSpec.ofChange fnLockFilesModelSpec)

/-- ITS FALSE NEIGHBOUR: 'it returns false'. Refute it at one input. -/
def fnLockFilesModelWrong : ChangeSpec := { name := "fnLockFilesModel", fn := fun _ => fun
  | [d1, d2, d3, d4, d5] => { results := [.lit (.bool false)], args := [d1, d2, d3, d4, d5] }
  | _ => none }
def FnLockFilesModelWrongFalsely : Prop := fnLockFilesModelRow.holds Try.pinned (OpenSpec.ofChange fnLockFilesModelWrong)

/-- 'zzlaws_internal_git_b1.FnLockFilesIgnoreGitDirAndValues': WHATEVER THE INPUT: true; the input reads as it did. -/
def fnLockFilesIgnoreGitDirAndValuesSpec : ChangeSpec := { name := "fnLockFilesIgnoreGitDirAndValues", fn := fun _ => fun
  | [d1, d2, d3, d4, d5, d6, d7, d8] => { results := [.lit (.bool true)], args := [d1, d2, d3, d4, d5, d6, d7, d8] }
  | _ => none }
def fnLockFilesIgnoreGitDirAndValuesRow : OpenClaim := { program := "qxb6605856a", sum := "3bd2c8ca88d5f61879eafd9aca35fa869595a97bb4d3bab380896a1445854578", func := "example.com/sluice/sluice/zzlaws_internal_git_b1.FnLockFilesIgnoreGitDirAndValues", spec := "fnLockFilesIgnoreGitDirAndValues", inPlace := ["internal/bytealg.IndexByteString", "internal/bytealg.IndexString", "internal/abi.NoEscape", "internal/bytealg.MakeNoZero"], named := ["internal/bytealg.MaxLen"], apart := false }
def FnLockFilesIgnoreGitDirAndValuesSaid : Prop := fnLockFilesIgnoreGitDirAndValuesRow.holds Try.pinned (OpenSpec.ofChange fnLockFilesIgnoreGitDirAndValuesSpec)

/-- ITS FALSE NEIGHBOUR: 'it returns false'. Refute it at one input. -/
def fnLockFilesIgnoreGitDirAndValuesWrong : ChangeSpec := { name := "fnLockFilesIgnoreGitDirAndValues", fn := fun _ => fun
  | [d1, d2, d3, d4, d5, d6, d7, d8] => { results := [.lit (.bool false)], args := [d1, d2, d3, d4, d5, d6, d7, d8] }
  | _ => none }
def FnLockFilesIgnoreGitDirAndValuesWrongFalsely : Prop := fnLockFilesIgnoreGitDirAndValuesRow.holds Try.pinned (OpenSpec.ofChange fnLockFilesIgnoreGitDirAndValuesWrong)

end Rows
end Go.Proofs.Qxb6605856a
