/-
  What both laws of this seat go through: 'zzHasAt' (7), 'bytealg.LastIndexByteString' (11), 'strings.LastIndexByte' (10), 'splitAddress' (9), 'ZZsplitAddress' (6).
-/
import Derived.Test.Qxb6605950aRows
import Derived.WalkKit
import Derived.ProofKit
import Derived.OpenShut
import Derived.ShutString
import Derived.WalkSpells
import Derived.Deep.QuietTactic
import Derived.BigQuiet
namespace Go.Proofs.Qxb6605950a
open Go.ChangeShapes Go.WideShapes Go.ChangeAt Go.RowKit

/-- the last '@' stands at p -/
def LastAt (s : ByteArray) (p : Nat) : Prop := ∃ h : p < s.size, s[p].toNat = 64 ∧ ∀ k (hk : k < s.size), p < k → s[k].toNat ≠ 64
/-- no '@' -/
def NoAt (s : ByteArray) : Prop := ∀ k (hk : k < s.size), s[k].toNat ≠ 64

theorem Grown_drewN {a b : World} (h : Grown a b) (n : Nat) : Grown a (b.drewN n) := by
  induction n generalizing b with
  | zero => exact h
  | succ n ih => exact ih h.drew

/-- an '@' or none -/
theorem at_cases (s : ByteArray) : NoAt s ∨ ∃ p, LastAt s p := by
  suffices h : ∀ n, n ≤ s.size → (∀ k (hk : k < s.size), n ≤ k → s[k].toNat ≠ 64) → NoAt s ∨ ∃ p, LastAt s p from
    h s.size (Nat.le_refl _) (fun k hk h => absurd hk (by omega))
  intro n
  induction n with
  | zero => intro _ h; exact .inl fun k hk => h k hk (Nat.zero_le _)
  | succ n ih =>
    intro hn h
    by_cases he : s[n].toNat = 64
    · exact .inr ⟨n, hn, he, fun k hk hlt => h k hk hlt⟩
    · refine ih (by omega) fun k hk hle => ?_
      by_cases hkn : k = n
      · subst hkn; exact he
      · exact h k hk (by omega)

theorem extract_get (s : ByteArray) (a b k : Nat) (hb : b ≤ s.size) (hk : k < (s.extract a b).size) : ∃ h : a + k < s.size, (s.extract a b)[k] = s[a + k] := by
  have hk' : k < b - a := by simp at hk; omega
  refine ⟨by omega, ?_⟩
  simp [ByteArray.getElem_extract]

theorem last_no (s : ByteArray) (hs : s.size ≤ maxLen) (h : NoAt s) (w : World) :
    Calls Try.prog 11 #[.string s, .int .u8 64] w fun e w' => e = .returned (.int .i64 (-1)) ∧ w' = w := by
  unfold maxLen at hs
  have H : Hid (NoAt s) := h
  clear h
  go_enter Try.func11, Try.ntmps11
  go_wp2
  go_loop [5] (fun i => (∃ m : Nat, m < s.size ∧ i = .int .i64 m) ∨ i = .int .i64 (-1)) (fun i => (intOf i + 1).toNat)
  case atStart =>
    by_cases h0 : s.size = 0
    · right; rw [h0]; rfl
    · left; exact ⟨s.size - 1, by omega, by congr 1; omega⟩
  case round =>
    rcases hrel with ⟨m, hm, rfl⟩ | rfl
    · have hne := H.out m hm
      have hb : ((s[m].toNat : Int) == 64) = false := by rw [beq_eq_false_iff_ne]; omega
      clear hne
      go_wp2
      go_round
      case rel =>
        by_cases h0 : m = 0
        · right; subst h0; rfl
        · left; exact ⟨m - 1, by omega, by congr 1; omega⟩
      case measure => simp [intOf]
    · go_wp2
      go_ret
      exact ⟨rfl, rfl⟩

theorem last_at (s : ByteArray) (hs : s.size ≤ maxLen) (p : Nat) (hp : p < s.size) (he : s[p].toNat = 64) (h : ∀ k (hk : k < s.size), p < k → s[k].toNat ≠ 64) (w : World) :
    Calls Try.prog 11 #[.string s, .int .u8 64] w fun e w' => e = .returned (.int .i64 p) ∧ w' = w := by
  unfold maxLen at hs
  have H : Hid (∀ k (hk : k < s.size), p < k → s[k].toNat ≠ 64) := h
  have HE : Hid (s[p].toNat = 64) := he
  clear h he
  go_enter Try.func11, Try.ntmps11
  go_wp2
  go_loop [5] (fun i => ∃ m : Nat, m < s.size ∧ p ≤ m ∧ i = .int .i64 m) (fun i => (intOf i + 1).toNat)
  case atStart => exact ⟨s.size - 1, by omega, by omega, by congr 1; omega⟩
  case round =>
    obtain ⟨m, hm, hpm, rfl⟩ := hrel
    by_cases hmp : m = p
    · subst hmp
      have hb : ((s[m].toNat : Int) == 64) = true := by rw [beq_iff_eq]; have := HE.out; omega
      go_wp2
      go_ret
      exact ⟨rfl, rfl⟩
    · have hne := H.out m hm (by omega)
      have hb : ((s[m].toNat : Int) == 64) = false := by rw [beq_eq_false_iff_ne]; omega
      clear hne
      go_wp2
      go_round
      case rel => exact ⟨m - 1, by omega, by omega, by congr 1; omega⟩
      case measure => simp [intOf]

theorem hasAt_no (s : ByteArray) (hs : s.size ≤ maxLen) (h : NoAt s) (w : World) :
    Calls Try.prog 7 #[.string s] w fun e w' => e = .returned (.bool false) ∧ w' = w := by
  unfold maxLen at hs
  have H : Hid (NoAt s) := h
  clear h
  go_enter Try.func7, Try.ntmps7
  go_wp2
  go_loop [3] (fun i => ∃ m : Nat, m ≤ s.size ∧ i = .int .i64 m) (fun i => s.size - (intOf i).toNat)
  case atStart => exact ⟨0, by omega, rfl⟩
  case round =>
    obtain ⟨m, hm, rfl⟩ := hrel
    by_cases hlt : m < s.size
    · have hne := H.out m hlt
      have hb : ((s[m].toNat : Int) == 64) = false := by rw [beq_eq_false_iff_ne]; omega
      clear hne
      go_wp2
      go_round
      case rel => exact ⟨m + 1, by omega, by go_num⟩
      case measure => simp [intOf]; omega
    · go_wp2
      go_ret
      exact ⟨rfl, rfl⟩

theorem hasAt_yes (s : ByteArray) (hs : s.size ≤ maxLen) (p : Nat) (hp : p < s.size) (he : s[p].toNat = 64) (w : World) :
    Calls Try.prog 7 #[.string s] w fun e w' => e = .returned (.bool true) ∧ w' = w := by
  unfold maxLen at hs
  have HE : Hid (s[p].toNat = 64) := he
  clear he
  go_enter Try.func7, Try.ntmps7
  go_wp2
  go_loop [3] (fun i => ∃ m : Nat, m ≤ p ∧ i = .int .i64 m) (fun i => s.size - (intOf i).toNat)
  case atStart => exact ⟨0, by omega, rfl⟩
  case round =>
    obtain ⟨m, hm, rfl⟩ := hrel
    have hlt : m < s.size := by omega
    by_cases hb : ((s[m].toNat : Int) == 64) = true
    · go_wp2
      go_ret
      exact ⟨rfl, rfl⟩
    · have hb' : ((s[m].toNat : Int) == 64) = false := by simpa using hb
      have hmp : m ≠ p := by
        rintro rfl
        have := HE.out
        rw [beq_eq_false_iff_ne] at hb'
        omega
      clear hb
      go_wp2
      go_round
      case rel => exact ⟨m + 1, by omega, by go_num⟩
      case measure => simp [intOf]; omega

theorem split_no (s : ByteArray) (hs : s.size ≤ maxLen) (h : NoAt s) (w : World) :
    Calls Try.prog 6 #[.string s] w fun e w' => e = .returned (.tuple #[.string s, .string ⟨#[]⟩]) ∧ w' = w := by
  have H : Hid (NoAt s) := h
  clear h
  go_enter Try.func6, Try.ntmps6
  go_wp2_with (first | (go_at_call 11; refine (last_no _ hs H.out _).mono ?_; rintro e w' ⟨rfl, rfl⟩) | go_in)
  go_ret2
  exact ⟨rfl, rfl⟩

theorem split_at (s : ByteArray) (hs : s.size ≤ maxLen) (p : Nat) (h : LastAt s p) (w : World) :
    Calls Try.prog 6 #[.string s] w fun e w' => e = .returned (.tuple #[.string (s.extract 0 p), .string (s.extract (p + 1) s.size)]) ∧ ∃ n, w' = w.drewN n := by
  obtain ⟨hp, he, h⟩ := h
  have H : Hid (∀ k (hk : k < s.size), p < k → s[k].toNat ≠ 64) := h
  have HE : Hid (s[p].toNat = 64) := he
  have hs' := hs
  unfold maxLen at hs'
  clear h he
  go_enter Try.func6, Try.ntmps6
  go_wp2_with (first | (go_at_call 11; refine (last_at _ hs p hp HE.out H.out _).mono ?_; rintro e w' ⟨rfl, rfl⟩) | go_in)
  go_quiet (fail)
  go_wp2
  go_ret2
  exact ⟨rfl, _, rfl⟩
end Go.Proofs.Qxb6605950a
