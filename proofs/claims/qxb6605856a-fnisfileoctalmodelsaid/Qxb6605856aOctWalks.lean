/-
  The walks of 'FnIsFileOctalModel' (function 3), one a way through her tests.
-/
import Derived.Test.Qxb6605856aIsFile
namespace Go.Proofs.Qxb6605856a.Oct
open Go.ChangeShapes Go.WideShapes Go.ChangeAt Go.RowKit

theorem bytes7_yes (a0 a1 : ByteArray) (w : World) (h : a0.size + a1.size ≤ 1048576) :
    Calls Try.prog 7 #[.string a0, .string a1] w fun e w' => e = .returned (.bool true) ∧ w' = w := by
  go_enter Try.func7, Try.ntmps7
  go_wp2
  go_ret
  exact ⟨rfl, rfl⟩

theorem bytes7_no (a0 a1 : ByteArray) (w : World) (w0 : a0.size ≤ maxLen) (w1 : a1.size ≤ maxLen) (h : ¬ a0.size + a1.size ≤ 1048576) :
    Calls Try.prog 7 #[.string a0, .string a1] w fun e w' => e = .returned (.bool false) ∧ w' = w := by
  unfold maxLen at w0 w1
  go_enter Try.func7, Try.ntmps7
  go_wp2
  all_goals (go_ret; exact ⟨rfl, rfl⟩)

theorem big (a0 a1 : ByteArray) (w0 : a0.size ≤ maxLen) (w1 : a1.size ≤ maxLen) (w : World) (h : ¬ a0.size + a1.size ≤ 1048576) :
    Calls Try.prog 3 #[.string a0, .string a1] w fun e w' => e = .returned (.bool true) ∧ Grown w w' := by
  go_enter Try.func3, Try.ntmps3
  go_wp2_with (go_at_call 7; refine (bytes7_no _ _ _ w0 w1 h).mono ?_; rintro e w' ⟨rfl, rfl⟩)
  go_ret
  exact ⟨rfl, Grown.refl _⟩

theorem out1 (a0 a1 : ByteArray) (w : World) (h : a0.size + a1.size ≤ 1048576) (hl : ¬ 1 ≤ a0.size ∨ 7 < a0.size) (Hf : Hid (Plain.isF a0.toList = false)) :
    Calls Try.prog 3 #[.string a0, .string a1] w fun e w' => e = .returned (.bool true) ∧ Grown w w' := by
  rcases hl with hl | hl
  all_goals
    go_enter Try.func3, Try.ntmps3
    go_wp2_with (first | (go_at_call 7; refine (bytes7_yes _ _ _ h).mono ?_; rintro e w' ⟨rfl, rfl⟩) | (go_at_call 8; refine (isFile_is Hf.out _ _).mono ?_; rintro e w2 ⟨rfl, hg⟩))
    go_ret
    exact ⟨rfl, Grown_trans (by assumption) hg⟩

theorem out2 (a0 a1 : ByteArray) (w : World) (h : a0.size + a1.size ≤ 1048576) (hl1 : 1 ≤ a0.size) (hl2 : a0.size ≤ 7) (h0 : (a0[0].toNat : Int) = 48) (Hf : Hid (Plain.isF a0.toList = false)) :
    Calls Try.prog 3 #[.string a0, .string a1] w fun e w' => e = .returned (.bool true) ∧ Grown w w' := by
  go_enter Try.func3, Try.ntmps3
  go_wp2_with (first | (go_at_call 7; refine (bytes7_yes _ _ _ h).mono ?_; rintro e w' ⟨rfl, rfl⟩) | (go_at_call 8; refine (isFile_is Hf.out _ _).mono ?_; rintro e w2 ⟨rfl, hg⟩))
  go_ret
  exact ⟨rfl, Grown_trans (by assumption) hg⟩

theorem loop (a0 a1 : ByteArray) (w : World) (h : a0.size + a1.size ≤ 1048576) (hl1 : 1 ≤ a0.size) (hl2 : a0.size ≤ 7) (h0 : ((a0[0].toNat : Int) != 48) = true) :
    Calls Try.prog 3 #[.string a0, .string a1] w fun e w' => e = .returned (.bool true) ∧ Grown w w' := by
  go_enter Try.func3, Try.ntmps3
  go_wp2_with (first | (go_at_call 7; refine (bytes7_yes _ _ _ h).mono ?_; rintro e w' ⟨rfl, rfl⟩))
  go_loop [6, 7, 8] (fun v o i => ∃ k : Nat, k ≤ a0.size ∧ i = .int .i64 k ∧ o = .bool true ∧ (a0.toList.take k).all Plain.dig = true ∧ v = .int .i64 (Plain.octV (a0.toList.take k))) (fun _ _ i => a0.size - (intOf i).toNat)
  case atStart => exact ⟨0, Nat.zero_le _, rfl, rfl, rfl, rfl⟩
  case round =>
    obtain ⟨k, hk, rfl, rfl, hd, rfl⟩ := hrel
    have hv := Plain.octV_bd7 _ hd (by rw [List.length_take]; omega)
    have HD : Hid ((a0.toList.take k).all Plain.dig = true) := hd
    clear hd
    generalize hV : Plain.octV (a0.toList.take k) = V at *
    have HV : Hid (Plain.octV (a0.toList.take k) = V) := hV
    clear hV
    by_cases hlt : k < a0.size
    · have hmem : a0[k] ∈ a0.toList := b_mem a0 k hlt
      have HT : Hid (a0.toList.take (k + 1) = a0.toList.take k ++ [a0[k]]) := b_take a0 k hlt
      have hb : 0 ≤ (a0[k].toNat : Int) ∧ (a0[k].toNat : Int) < 256 := by have := a0[k].toNat_lt; omega
      by_cases hd : Plain.dig a0[k] = true
      · have hd2 := Plain.dig_bd hd
        go_wp2_with fail
        go_round
        case rel => exact ⟨k + 1, by omega, by go_num, rfl, by rw [HT.out, List.all_append, HD.out]; simp [hd], by rw [HT.out, Plain.octV_snoc, HV.out]⟩
        case measure => simp [intOf]; omega
      · have hd3 : Plain.dig a0[k] = false := by simpa using hd
        have HF : Hid (Plain.isF a0.toList = false) := Plain.isF_bad _ _ hmem hd3
        have hd4 : (a0[k].toNat : Int) < 48 ∨ 55 < (a0[k].toNat : Int) := by rw [Plain.dig_iff] at hd; omega
        clear hd hd3 hmem
        rcases hd4 with hd4 | hd4
        all_goals
          go_wp2_with (go_at_call 8; refine (isFile_is HF.out _ _).mono ?_; rintro e w2 ⟨rfl, hg⟩)
          go_ret
          exact ⟨rfl, Grown_trans (by assumption) hg⟩
    · have e4 := Plain.i64_and4095 V
      have hk' : a0.toList.take k = a0.toList := List.take_of_length_le (by rw [bl]; omega)
      have HW : Hid (Plain.isF a0.toList = Plain.wantB V) := by
        have hd := HD.out
        have hvv := HV.out
        rw [hk'] at hd hvv
        rw [← hvv]
        have hlen : a0.toList.length = a0.size := bl a0
        match hL : a0.toList with
        | [] => rw [hL] at hlen; simp at hlen; omega
        | c :: t =>
          refine Plain.isF_oct (c :: t) c t rfl (by rw [← hL, hlen]; exact hl2) ?_ (by rw [← hL]; exact hd)
          intro hc
          have h00 : a0[0] = c := b_head a0 c t (by omega) hL
          rw [h00, hc] at h0
          simp at h0
      clear hk' HD HV
      by_cases q1 : V / 4096 = 8
      · by_cases q2 : V % 4096 = 420
        · have HF : Hid (Plain.isF a0.toList = true) := HW.out.trans (by simp [Plain.wantB, q1, q2])
          go_wp2_with (go_at_call 8; refine (isFile_is HF.out _ _).mono ?_; rintro e w2 ⟨rfl, hg⟩)
          go_ret
          exact ⟨rfl, Grown_trans (by assumption) hg⟩
        · by_cases q3 : V % 4096 = 493
          · have HF : Hid (Plain.isF a0.toList = true) := HW.out.trans (by simp [Plain.wantB, q1, q3])
            go_wp2_with (go_at_call 8; refine (isFile_is HF.out _ _).mono ?_; rintro e w2 ⟨rfl, hg⟩)
            go_ret
            exact ⟨rfl, Grown_trans (by assumption) hg⟩
          · have HF : Hid (Plain.isF a0.toList = false) := HW.out.trans (by simp [Plain.wantB, q1, q2, q3])
            have q3' : (V % 4096 == 493) = false := by simpa using q3
            have q2' : (V % 4096 == 420) = false := by simpa using q2
            go_wp2_with (go_at_call 8; refine (isFile_is HF.out _ _).mono ?_; rintro e w2 ⟨rfl, hg⟩)
            go_ret
            exact ⟨rfl, Grown_trans (by assumption) hg⟩
      · have HF : Hid (Plain.isF a0.toList = false) := HW.out.trans (by simp [Plain.wantB, q1])
        go_wp2_with (go_at_call 8; refine (isFile_is HF.out _ _).mono ?_; rintro e w2 ⟨rfl, hg⟩)
        go_ret
        exact ⟨rfl, Grown_trans (by assumption) hg⟩

end Go.Proofs.Qxb6605856a.Oct
