/-
  The contract of 'git.ZZisFile' (function 8; she goes through '(treeEntry).isFile', function 21): of the mode's bytes alone.
-/
import Derived.Test.Qxb6605856aRows
import Derived.Test.Qxb6605856aPlain
import Derived.WalkKit
import Derived.ProofKit
import Derived.OpenShut
import Derived.ShutString
namespace Go.Proofs.Qxb6605856a
open Go.ChangeShapes Go.WideShapes Go.ChangeAt Go.RowKit

theorem isFile_any (m d : ByteArray) (w : World) :
    Calls Try.prog 8 #[.string m, .string d] w fun e w' => e = .returned (.bool (Plain.isF m.toList)) ∧ Grown w w' := by
  go_enter Try.func8, Try.ntmps8
  go_wp2
  · have h : m.toList = [49, 48, 48, 54, 52, 52] := by assumption
    go_ret
    exact ⟨by rw [h]; rfl, by repeat (first | exact Grown.refl _ | apply Grown.drew | apply Grown.alloc)⟩
  · go_ret
    exact ⟨rfl, by repeat (first | exact Grown.refl _ | apply Grown.drew | apply Grown.alloc)⟩
theorem bl (s : ByteArray) : s.toList.length = s.size := by rw [ByteArray.toList_eq]; simp
theorem b_mem (s : ByteArray) (k : Nat) (h : k < s.size) : s[k] ∈ s.toList := by
  rw [ByteArray.toList_eq]
  show s.data[k] ∈ s.data.toList
  simp
theorem b_take (s : ByteArray) (k : Nat) (h : k < s.size) : s.toList.take (k + 1) = s.toList.take k ++ [s[k]] := by
  rw [ByteArray.toList_eq, List.take_succ_eq_append_getElem (by simpa using h)]; rfl
theorem b_head (s : ByteArray) (c : UInt8) (t : List UInt8) (h : 0 < s.size) (hL : s.toList = c :: t) : s[0] = c := by
  rw [ByteArray.toList_eq] at hL
  have : s.data.toList[0]'(by simpa using h) = c := by simp only [hL, List.getElem_cons_zero]
  rw [← this]; rfl

theorem Grown_trans {a b c : World} (h : Grown a b) (k : Grown b c) : Grown a c :=
  ⟨World.keptBut_trans h.1 (World.keptBut_mono (fun _ f => f) k.1), fun x => (k.2.1 x).trans (h.2.1 x), Nat.le_trans h.2.2 k.2.2⟩

theorem isFile_is {b : Bool} {m : ByteArray} (h : Plain.isF m.toList = b) (d : ByteArray) (w : World) :
    Calls Try.prog 8 #[.string m, .string d] w fun e w' => e = .returned (.bool b) ∧ Grown w w' := by
  subst h
  exact isFile_any m d w
end Go.Proofs.Qxb6605856a
