/-
  The walks of 'FnIsWordByteTable' (function 3) and of what she calls.
-/
import Derived.Test.Qxb6605882aRows
import Derived.WalkKit
import Derived.ProofKit
import Derived.OpenShut
namespace Go.Proofs.Qxb6605882a.Word
open Go.ChangeShapes Go.WideShapes Go.ChangeAt Go.RowKit

theorem ret_bool {a b : Bool} (h : a = b) : Ending.returned (.bool a) = .returned (.bool b) := by rw [h]
def alB (c : Int) : Bool := decide (97 ≤ c ∧ c ≤ 122 ∨ 65 ≤ c ∧ c ≤ 90 ∨ 48 ≤ c ∧ c ≤ 57)
def wdB (c : Int) : Bool := decide (97 ≤ c ∧ c ≤ 122 ∨ 65 ≤ c ∧ c ≤ 90 ∨ 48 ≤ c ∧ c ≤ 57 ∨ c = 45 ∨ c = 95 ∨ c = 46 ∨ c = 47)

theorem alnum_any (c : Int) (w : World) :
    Calls Try.prog 16 #[.int .u8 c] w fun e w' => e = .returned (.bool (alB c)) ∧ w' = w := by
  go_enter Try.func16, Try.ntmps16
  go_wp2
  all_goals go_ret
  all_goals refine ⟨ret_bool ?_, rfl⟩
  all_goals (rw [Bool.eq_iff_iff]; simp [alB]; omega)

theorem alnum_is {b : Bool} (c : Int) (w : World) (h : alB c = b) :
    Calls Try.prog 16 #[.int .u8 c] w fun e w' => e = .returned (.bool b) ∧ w' = w := by
  subst h; exact alnum_any c w

theorem word_any (c : Int) (w : World) :
    Calls Try.prog 6 #[.int .u8 c] w fun e w' => e = .returned (.bool (wdB c)) ∧ w' = w := by
  by_cases h : alB c = true
  · have hw : wdB c = true := by simp [alB] at h; simp [wdB]; omega
    have H : Hid (alB c = true) := h; clear h
    go_enter Try.func6, Try.ntmps6
    go_wp2_with (first | (go_at_call 16; refine (alnum_is _ _ H.out).mono ?_; rintro e w' ⟨rfl, rfl⟩) | go_in)
    go_ret
    exact ⟨ret_bool hw.symm, rfl⟩
  · have h : alB c = false := by simpa using h
    have H : Hid (alB c = false) := h; clear h
    go_enter Try.func6, Try.ntmps6
    go_wp2_with (first | (go_at_call 16; refine (alnum_is _ _ H.out).mono ?_; rintro e w' ⟨rfl, rfl⟩) | go_in)
    all_goals go_ret
    all_goals refine ⟨ret_bool ?_, rfl⟩
    all_goals (have h := H.out; simp [alB] at h; rw [Bool.eq_iff_iff]; simp [wdB]; omega)

/-- the law's own table -/
def tab : ByteArray := ⟨#[97, 98, 99, 100, 101, 102, 103, 104, 105, 106, 107, 108, 109, 110, 111, 112, 113, 114, 115, 116, 117, 118, 119, 120, 121, 122, 65, 66, 67, 68, 69, 70, 71, 72, 73, 74, 75, 76, 77, 78, 79, 80, 81, 82, 83, 84, 85, 86, 87, 88, 89, 90, 48, 49, 50, 51, 52, 53, 54, 55, 56, 57, 45, 95, 46, 47]⟩
def inTab (a : Int) (k : Nat) : Bool := (tab.data.toList.take k).any (fun x => (x.toNat : Int) == a)

theorem inTab_step (a : Int) (k : Nat) (hk : k < tab.size) {b : Bool} (h : ((tab[k].toNat : Int) == a) = b) : inTab a (k + 1) = (inTab a k || b) := by
  unfold inTab
  rw [List.take_succ_eq_append_getElem (by simpa using hk), List.any_append, ← h]
  simp only [List.any_cons, List.any_nil, Bool.or_false]
  rfl

theorem inTab_all (a : Int) (h0 : 0 ≤ a) (h1 : a < 256) : inTab a 66 = wdB a := by
  have h : ∀ n : Fin 256, inTab (n.val : Int) 66 = wdB (n.val : Int) := by decide +kernel
  obtain ⟨n, rfl⟩ := Int.eq_ofNat_of_zero_le h0
  exact h ⟨n, by omega⟩

theorem walk (a0 : Int) (w0 : (Lit.int .u8 a0).wf = true) (w : World) :
    Calls Try.prog 3 #[.int .u8 a0] w fun e w' => e = .returned (.bool true) ∧ Grown w w' := by
  have hb := bounds_u8 w0
  have HE : Hid (inTab a0 66 = wdB a0) := inTab_all a0 (by omega) (by omega)
  clear w0
  go_enter Try.func3, Try.ntmps3
  go_wp2
  go_loop [3, 4] (fun m i => ∃ k : Nat, k ≤ 66 ∧ i = .int .i64 k ∧ m = .bool (inTab a0 k)) (fun _ i => 66 - (intOf i).toNat)
  case atStart => exact ⟨0, Nat.zero_le _, rfl, rfl⟩
  case round =>
    obtain ⟨k, hk, rfl, rfl⟩ := hrel
    by_cases hlt : k < 66
    · have HS' : Hid (∀ b : Bool, (((tab[k]'hlt).toNat : Int) == a0) = b → inTab a0 (k + 1) = (inTab a0 k || b)) := fun b h => inTab_step a0 k hlt h
      go_wp2_with fail
      · rename_i h
        go_round
        case rel => exact ⟨k + 1, by omega, by go_num, by rw [HS'.out true h]; simp⟩
        case measure => simp [intOf]; omega
      · rename_i h
        go_round
        case rel => exact ⟨k + 1, by omega, by go_num, by rw [HS'.out false h]; simp⟩
        case measure => simp [intOf]; omega
    · obtain rfl : k = 66 := by omega
      rw [HE.out]
      go_wp2_with (go_at_call 6; refine (word_any _ _).mono ?_; rintro e w' ⟨rfl, rfl⟩)
      go_ret
      exact ⟨by simp, Grown.refl _⟩
end Go.Proofs.Qxb6605882a.Word
