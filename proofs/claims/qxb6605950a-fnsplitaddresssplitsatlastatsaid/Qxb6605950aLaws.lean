/-
  The walks of the two laws: 'FnSplitAddressSplitsAtLastAt' (3), 'FnSplitAddressUndoesJoin' (4).
-/
import Derived.Test.Qxb6605950aSplit
import Derived.Lib.Strings
namespace Go.Proofs.Qxb6605950a
open Go.ChangeShapes Go.WideShapes Go.ChangeAt Go.RowKit

/-! ### plain -/
theorem noAt_tail (s : ByteArray) (p : Nat) (h : LastAt s p) : NoAt (s.extract (p + 1) s.size) := by
  intro k hk
  obtain ⟨h1, h2⟩ := extract_get s (p + 1) s.size k (Nat.le_refl _) hk
  rw [h2]
  exact h.2.2 _ h1 (by omega)

theorem glue (s : ByteArray) (p : Nat) (h : LastAt s p) : ((s.extract 0 p ++ ⟨#[64]⟩ ++ s.extract (p + 1) s.size).toList == s.toList) = true := by
  obtain ⟨hp, he, _⟩ := h
  rw [beq_iff_eq, Lib.toList_data, Lib.toList_data]
  have e : s.data.toList[p]'(by simpa using hp) = 64 := by
    apply UInt8.toNat.inj
    exact he
  have hl : s.data.toList.length = s.size := by simp
  simp only [ByteArray.data_append, Array.toList_append, Lib.extract_data, List.drop_zero, Nat.sub_zero]
  rw [List.take_of_length_le (l := s.data.toList.drop (p + 1)) (by simp)]
  have h2 : s.data.toList = s.data.toList.take p ++ (s.data.toList[p]'(by simpa using hp) :: s.data.toList.drop (p + 1)) := by
    rw [← List.drop_eq_getElem_cons, List.take_append_drop]
  conv => rhs; rw [h2, e]
  simp

theorem lastAt_join (l d : ByteArray) (h : NoAt d) : LastAt (l ++ ⟨#[64]⟩ ++ d) l.size := by
  have hs : (l ++ ⟨#[64]⟩ ++ d).size = l.size + 1 + d.size := by simp [ByteArray.size_append]; rfl
  refine ⟨by omega, ?_, ?_⟩
  · have e : (l ++ ⟨#[64]⟩ ++ d)[l.size]'(by omega) = 64 := by
      rw [ByteArray.getElem_append_left (by simp [ByteArray.size_append]; exact Nat.lt_succ_self _), ByteArray.getElem_append_right (Nat.le_refl _)]
      simp
      rfl
    rw [e]; rfl
  · intro k hk hlt
    have hk2 : k - (l.size + 1) < d.size := by omega
    have e : (l ++ ⟨#[64]⟩ ++ d)[k] = d[k - (l.size + 1)] := by
      rw [ByteArray.getElem_append_right (by simp [ByteArray.size_append]; exact hlt)]
      simp [ByteArray.size_append]
      rfl
    rw [e]
    exact h _ hk2

theorem bytes5_yes (a0 : ByteArray) (h : a0.size ≤ 1048576) (w : World) :
    Calls Try.prog 5 #[.string a0] w fun e w' => e = .returned (.bool true) ∧ w' = w := by
  go_enter Try.func5, Try.ntmps5
  go_wp2
  go_ret
  exact ⟨rfl, rfl⟩

theorem big3 (a0 : ByteArray) (w0 : a0.size ≤ maxLen) (h : ¬ a0.size ≤ 1048576) (w : World) :
    Calls Try.prog 3 #[.string a0] w fun e w' => e = .returned (.bool true) ∧ Grown w w' := by
  unfold maxLen at w0
  go_enter Try.func3, Try.ntmps3
  go_wp2
  go_ret
  exact ⟨rfl, Grown.refl _⟩

theorem law3_no (a0 : ByteArray) (w0 : a0.size ≤ maxLen) (h : a0.size ≤ 1048576) (hn : NoAt a0) (w : World) :
    Calls Try.prog 3 #[.string a0] w fun e w' => e = .returned (.bool true) ∧ Grown w w' := by
  have H : Hid (NoAt a0) := hn
  clear hn
  go_enter Try.func3, Try.ntmps3
  go_wp2_with (first | (go_at_call 6; refine (split_no _ w0 H.out _).mono ?_; rintro e w' ⟨rfl, rfl⟩) | (go_at_call 7; refine (hasAt_no _ w0 H.out _).mono ?_; rintro e w' ⟨rfl, rfl⟩) | go_in)
  go_ret
  exact ⟨rfl, Grown.refl _⟩

theorem law3_at (a0 : ByteArray) (w0 : a0.size ≤ maxLen) (h : a0.size ≤ 1048576) (p : Nat) (hp : LastAt a0 p) (w : World) :
    Calls Try.prog 3 #[.string a0] w fun e w' => e = .returned (.bool true) ∧ Grown w w' := by
  have H : Hid (LastAt a0 p) := hp
  have hps : p < a0.size := hp.1
  have HT : Hid (NoAt (a0.extract (p + 1) a0.size)) := noAt_tail a0 p hp
  have hz : (a0.extract (p + 1) a0.size).size ≤ maxLen := by simp; omega
  have HZ : Hid ((a0.extract (p + 1) a0.size).size ≤ maxLen) := hz
  have hg := glue a0 p hp
  clear hp hz
  go_enter Try.func3, Try.ntmps3
  go_wp2_with fail
  refine (bytes5_yes _ h _).mono ?_; rintro e w' ⟨rfl, rfl⟩
  go_wp2_with fail
  refine (split_at _ w0 p H.out _).mono ?_; rintro e w' ⟨rfl, n, rfl⟩
  go_wp2_with fail
  refine (hasAt_yes _ w0 p hps H.out.2.1 _).mono ?_; rintro e w' ⟨rfl, rfl⟩
  go_wp2_with fail
  refine (hasAt_no _ HZ.out HT.out _).mono ?_; rintro e w' ⟨rfl, rfl⟩
  go_wp2_with fail
  go_ret
  exact ⟨rfl, Grown_drewN (Grown.refl _) _⟩

theorem join_size (l d : ByteArray) : (l ++ ⟨#[64]⟩ ++ d).size = l.size + 1 + d.size := by simp [ByteArray.size_append]; rfl

theorem join_left (l d : ByteArray) : (((l ++ ⟨#[64]⟩ ++ d).extract 0 l.size).toList == l.toList) = true := by
  rw [beq_iff_eq, Lib.toList_data, Lib.toList_data, Lib.extract_data]
  simp [ByteArray.data_append]

theorem join_right (l d : ByteArray) : (((l ++ ⟨#[64]⟩ ++ d).extract (l.size + 1) (l ++ ⟨#[64]⟩ ++ d).size).toList == d.toList) = true := by
  rw [beq_iff_eq, Lib.toList_data, Lib.toList_data, Lib.extract_data, join_size]
  have : l.data.toList.length = l.size := by simp
  simp only [ByteArray.data_append, Array.toList_append, List.append_assoc]
  rw [← this, List.drop_append, List.drop_of_length_le (by omega)]
  simp
  exact List.take_of_length_le (by simp)

theorem bytes8_yes (a0 a1 : ByteArray) (h : a0.size + a1.size ≤ 1048576) (w : World) :
    Calls Try.prog 8 #[.string a0, .string a1] w fun e w' => e = .returned (.bool true) ∧ w' = w := by
  go_enter Try.func8, Try.ntmps8
  go_wp2
  go_ret
  exact ⟨rfl, rfl⟩

theorem bytes8_no (a0 a1 : ByteArray) (w0 : a0.size ≤ maxLen) (w1 : a1.size ≤ maxLen) (h : ¬ a0.size + a1.size ≤ 1048576) (w : World) :
    Calls Try.prog 8 #[.string a0, .string a1] w fun e w' => e = .returned (.bool false) ∧ w' = w := by
  unfold maxLen at w0 w1
  go_enter Try.func8, Try.ntmps8
  go_wp2
  all_goals (go_ret; exact ⟨rfl, rfl⟩)

theorem big4 (a0 a1 : ByteArray) (w0 : a0.size ≤ maxLen) (w1 : a1.size ≤ maxLen) (h : ¬ a0.size + a1.size ≤ 1048576) (w : World) :
    Calls Try.prog 4 #[.string a0, .string a1] w fun e w' => e = .returned (.bool true) ∧ Grown w w' := by
  go_enter Try.func4, Try.ntmps4
  go_wp2_with (go_at_call 8; refine (bytes8_no _ _ w0 w1 h _).mono ?_; rintro e w' ⟨rfl, rfl⟩)
  go_ret
  exact ⟨rfl, Grown.refl _⟩

theorem law4_yes (a0 a1 : ByteArray) (w1 : a1.size ≤ maxLen) (h : a0.size + a1.size ≤ 1048576) (p : Nat) (hp : LastAt a1 p) (w : World) :
    Calls Try.prog 4 #[.string a0, .string a1] w fun e w' => e = .returned (.bool true) ∧ Grown w w' := by
  have H : Hid (LastAt a1 p) := hp
  have hps : p < a1.size := hp.1
  clear hp
  go_enter Try.func4, Try.ntmps4
  go_wp2_with (first | (go_at_call 8; refine (bytes8_yes _ _ h _).mono ?_; rintro e w' ⟨rfl, rfl⟩) | (go_at_call 7; refine (hasAt_yes _ w1 p hps H.out.2.1 _).mono ?_; rintro e w' ⟨rfl, rfl⟩))
  go_ret
  exact ⟨rfl, Grown.refl _⟩

theorem law4_no (a0 a1 : ByteArray) (w1 : a1.size ≤ maxLen) (h : a0.size + a1.size ≤ 1048576) (hn : NoAt a1) (w : World) :
    Calls Try.prog 4 #[.string a0, .string a1] w fun e w' => e = .returned (.bool true) ∧ Grown w w' := by
  have H : Hid (NoAt a1) := hn
  have HL : Hid (LastAt (a0 ++ ⟨#[64]⟩ ++ a1) a0.size) := lastAt_join a0 a1 hn
  have hz : (a0 ++ ⟨#[64]⟩ ++ a1).size ≤ maxLen := by rw [join_size]; unfold maxLen; omega
  have HZ : Hid ((a0 ++ ⟨#[64]⟩ ++ a1).size ≤ maxLen) := hz
  have hl := join_left a0 a1
  have hr := join_right a0 a1
  have HL2 : Hid ((((a0 ++ ⟨#[64]⟩ ++ a1).extract 0 a0.size).toList == a0.toList) = true) := hl
  have HR2 : Hid ((((a0 ++ ⟨#[64]⟩ ++ a1).extract (a0.size + 1) (a0 ++ ⟨#[64]⟩ ++ a1).size).toList == a1.toList) = true) := hr
  clear hn hz hl hr
  go_enter Try.func4, Try.ntmps4
  go_wp2_with fail
  refine (bytes8_yes _ _ h _).mono ?_; rintro e w' ⟨rfl, rfl⟩
  go_wp2_with fail
  refine (hasAt_no _ w1 H.out _).mono ?_; rintro e w' ⟨rfl, rfl⟩
  go_wp2_with fail
  refine (split_at _ HZ.out _ HL.out _).mono ?_; rintro e w' ⟨rfl, n, rfl⟩
  generalize hA : (a0 ++ ⟨#[64]⟩ ++ a1).extract 0 a0.size = A
  generalize hB : (a0 ++ ⟨#[64]⟩ ++ a1).extract (a0.size + 1) (a0 ++ ⟨#[64]⟩ ++ a1).size = B
  have e1 := HL2.out
  have e2 := HR2.out
  rw [hA] at e1
  rw [hB] at e2
  clear hA hB
  go_wp2_with fail
  go_ret
  exact ⟨rfl, Grown_drewN (Grown.refl _) _⟩
end Go.Proofs.Qxb6605950a
