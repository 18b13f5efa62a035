/-
  How the arguments of the FieldsMatches laws lie in memory, and the plain function behind 'lookupPair'.
-/
import Derived.Test.Qxb6605882aRows
import Derived.WalkKit
import Derived.ProofKit
import Derived.OpenShut
import Derived.WalkSpells
import Derived.Deep.QuietTactic
import Derived.BigQuiet
import Derived.Deep.OwnRows
namespace Go.Proofs.Qxb6605882a
open Go.ChangeShapes Go.WideShapes Go.ChangeAt Go.RowKit

/-- behind a lie n strings: K 0, K 1, .. -/
def StrsAt (w : World) (a : Option Addr) (n : Nat) (K : Nat → ByteArray) : Prop :=
  0 < n → ∃ b off, a = some ⟨b, off, none⟩ ∧ b < w.heap.size ∧ ∀ i, i < n → w.cell? ⟨b, off + i, none⟩ = some (.string (K i))

/-- the last of the first n pairs whose key is p, else the empty string -/
def look (K V : Nat → ByteArray) (p : ByteArray) : Nat → ByteArray
  | 0 => ⟨#[]⟩
  | n + 1 => if (K n).toList == p.toList then V n else look K V p n

theorem lookup_any (ak av : Option Addr) (n ck cv : Nat) (K V : Nat → ByteArray) (p : ByteArray) (w : World) (hn : n ≤ 65536) (hk : StrsAt w ak n K) (hv : StrsAt w av n V) :
    Calls Try.prog 10 #[.slice ak n ck, .slice av n cv, .string p] w fun e w' => e = .returned (.string (look K V p n)) ∧ w' = w := by
  have HK : Hid (StrsAt w ak n K) := hk
  have HV : Hid (StrsAt w av n V) := hv
  clear hk hv
  go_enter Try.func10, Try.ntmps10
  go_wp2
  go_loop [7] (fun i => (∃ m : Nat, m < n ∧ i = .int .i64 m ∧ look K V p n = look K V p (m + 1)) ∨ (i = .int .i64 (-1) ∧ look K V p n = ⟨#[]⟩)) (fun i => (intOf i + 1).toNat)
  case atStart =>
    by_cases h0 : n = 0
    · right; subst h0; exact ⟨rfl, rfl⟩
    · left; obtain ⟨m, rfl⟩ : ∃ m, n = m + 1 := ⟨n - 1, by omega⟩
      exact ⟨m, by omega, by congr 1; omega, rfl⟩
  case round =>
    rcases hrel with ⟨m, hm, rfl, hl⟩ | ⟨rfl, hl⟩
    · have HL : Hid (look K V p n = look K V p (m + 1)) := hl
      clear hl
      obtain ⟨bk, ok, rfl, _, hck⟩ := HK.out (by omega)
      obtain ⟨bv, ov, rfl, _, hcv⟩ := HV.out (by omega)
      have c1 := hck m hm
      have c2 := hcv m hm
      clear hck hcv
      by_cases he : ((K m).toList == p.toList) = true
      · have h2 : look K V p (m + 1) = V m := by unfold look; rw [if_pos he]
        have HR : Hid (look K V p n = V m) := HL.out.trans h2
        clear h2
        go_wp2
        go_ret
        exact ⟨by rw [HR.out]; rfl, rfl⟩
      · have h2 : look K V p (m + 1) = look K V p m := by conv => lhs; unfold look; rw [if_neg he]
        have he' : ((K m).toList == p.toList) = false := by simpa using he
        clear he
        have HR : Hid (look K V p n = look K V p m) := HL.out.trans h2
        clear h2
        go_wp2
        go_round
        case rel =>
          by_cases h0 : m = 0
          · right; subst h0; exact ⟨rfl, HR.out⟩
          · left; obtain ⟨j, rfl⟩ : ∃ j, m = j + 1 := ⟨m - 1, by omega⟩
            exact ⟨j, by omega, by congr 1; omega, HR.out⟩
        case measure => simp [intOf]
    · have HL : Hid (look K V p n = ⟨#[]⟩) := hl
      clear hl
      go_wp2
      go_ret
      exact ⟨by rw [HL.out]; rfl, rfl⟩
end Go.Proofs.Qxb6605882a
