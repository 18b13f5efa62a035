/-
  'objectOf' (12): the map that she makes answers, at every key, as 'lookupPair' does.
-/
import Derived.Test.Qxb6605882aClone
import Derived.Maps.Own
import Derived.Maps.StringElems
import Derived.RegionTactic
import Derived.BigRegion
namespace Go.Proofs.Qxb6605882a
open Go.ChangeShapes Go.WideShapes Go.ChangeAt Go.RowKit Go.Maps Go.WideMaps Go.WideElems

theorem law9 : Keyed Try.prog 9 := string_keyed Try.underlying9
theorem zero9 (w : World) : (zeroValue 9).run Try.prog w = .ok (.string ⟨#[]⟩) w := by kernel_rfl
theorem run_makeMap32 (n : Int) (w : World) : (Instr.makeMap 32 (some (.int .i64 n))).run Try.prog w = .ok (.map (some w.heap.size)) (w.alloc (.map #[] 0)) := by kernel_rfl

/-- the map after k stores, as data -/
def Dm (K V : Nat → ByteArray) : Nat → DataW Unit
  | 0 => .map []
  | k + 1 => (Dm K V k).put (.string (K k).data.toList) (.lit (.string (V k).data.toList))

theorem Dm_isMap (K V : Nat → ByteArray) : ∀ k, IsMap (Dm K V k)
  | 0 => isMap_empty
  | k + 1 => (Dm_isMap K V k).put _ _

theorem Dm_at (K V : Nat → ByteArray) (p : ByteArray) : ∀ k, (Dm K V k).atKey (.string p.data.toList) (.lit (.string [])) = .lit (.string (look K V p k).data.toList)
  | 0 => by rfl
  | k + 1 => by
    unfold Dm look
    by_cases h : (K k).data.toList = p.data.toList
    · rw [h, atKey_put_same (Dm_isMap K V k) (by simp [WideAt.IsKeyLit])]
      rw [if_pos (by rw [beq_iff_eq, ByteArray.toList_eq, ByteArray.toList_eq]; exact h)]
    · rw [atKey_put_other (fun e => h (by injection e with e; exact e.symm)), Dm_at K V p k]
      rw [if_neg (by rw [beq_iff_eq, ByteArray.toList_eq, ByteArray.toList_eq]; exact h)]

/-- block B is a map that answers f -/
def MapAt (w : World) (B : Nat) (f : ByteArray → ByteArray) : Prop :=
  B < w.heap.size ∧ ∀ wx : World, wx.heap[B]? = w.heap[B]? → ∀ p : ByteArray, p.size ≤ maxLen → (Instr.lookup 32 (.map (some B)) (.string p) false).run Try.prog wx = .ok (.string (f p)) wx

theorem map_below {w w' : World} {B : Nat} {f : ByteArray → ByteArray} (h : MapAt w B f) {C : Nat} (hb : Below C w w') (hC : w.heap.size ≤ C) : MapAt w' B f :=
  ⟨Nat.lt_of_lt_of_le h.1 hb.size, fun wx e => h.2 wx (e.trans (hb.block B (Nat.lt_of_lt_of_le h.1 hC)))⟩

theorem map_of_owns {w : World} {B k : Nat} {K V : Nat → ByteArray} (h : w.ownsMap Try.prog 9 (plainElem (H := Unit) Try.prog 9) B k (Dm K V k)) : MapAt w B (fun p => look K V p k) := by
  refine ⟨h.lt, fun wx e p hp => ?_⟩
  have hx : wx.ownsMap Try.prog 9 (plainElem (H := Unit) Try.prog 9) B k (Dm K V k) := by
    obtain ⟨es, clock, h1, h2⟩ := h
    exact ⟨es, clock, e.trans h1, h2⟩
  obtain ⟨v, ps, hrun, hv⟩ := hx.lookup law9 Try.underlying32 (zero9 wx) (plainElem_string Try.underlying9 (s := ⟨#[]⟩) (by decide)) (keyOf_string_mk Try.underlying9 hp)
  obtain ⟨s, rfl, hs, _⟩ := plainElem_string_inv Try.underlying9 hv
  rw [hrun]
  rw [show ((⟨#[]⟩ : ByteArray).data.toList) = [] from rfl, Dm_at K V p k] at hs
  simp only [Prod.mk.injEq, DataW.lit.injEq, Lit.string.injEq] at hs
  have : s = look K V p k := by
    cases s; cases hl : look K V p k
    rw [hl] at hs
    have h2 := hs.1
    simp only at h2
    congr 1
    exact (Array.toList_inj.1 h2).symm
  rw [this]

theorem object_any (ak av : Option Addr) (n ck cv : Nat) (K V : Nat → ByteArray) (w : World) (hn : n ≤ 65536) (hk : StrsAt w ak n K) (hv : StrsAt w av n V) (sk : ∀ i, i < n → (K i).size ≤ maxLen) (sv : ∀ i, i < n → (V i).size ≤ maxLen) :
    Calls Try.prog 12 #[.slice ak n ck, .slice av n cv] w fun e w' => ∃ B, e = .returned (.map (some B)) ∧ MapAt w' B (fun p => look K V p n) ∧ Below w.heap.size w w' := by
  have HK : Hid (StrsAt w ak n K) := hk
  have HV : Hid (StrsAt w av n V) := hv
  have SK : Hid (∀ i, i < n → (K i).size ≤ maxLen) := sk
  have SV : Hid (∀ i, i < n → (V i).size ≤ maxLen) := sv
  have hmm := run_makeMap32
  clear hk hv sk sv
  go_enter Try.func12, Try.ntmps12
  go_wp2
  go_loopw [6] (fun i wr => ∃ k : Nat, k ≤ n ∧ i = .int .i64 k ∧ wr.ownsMap Try.prog 9 (plainElem (H := Unit) Try.prog 9) w.heap.size k (Dm K V k) ∧ Below w.heap.size w wr) (fun i _ => n - (intOf i).toNat)
  case atStart => exact ⟨0, Nat.zero_le _, rfl, World.ownsMap_made _ _ _ _, (Below.refl _ _).alloc (Nat.le_refl _) _⟩
  case round =>
    obtain ⟨k, hk, rfl, hown, hb⟩ := hrel
    by_cases hlt : k < n
    · obtain ⟨bk, ok, e1, hbk, hck⟩ := HK.out (by omega)
      obtain ⟨bv, ov, e2, hbv, hcv⟩ := HV.out (by omega)
      subst e1 e2
      have c1 := (hb.cell (p := ⟨bk, ok + k, none⟩) hbk).trans (hck k hlt)
      have c2 := (hb.cell (p := ⟨bv, ov + k, none⟩) hbv).trans (hcv k hlt)
      obtain ⟨w1, hrun, hown1, hg1⟩ := hown.drew.update law9 Try.underlying32 (by unfold maxLen; omega) (keyOf_string_mk Try.underlying9 (SK.out k hlt)) (plainElem_string Try.underlying9 (SV.out k hlt))
      have HO : Hid (w1.ownsMap Try.prog 9 (plainElem (H := Unit) Try.prog 9) w.heap.size (k + 1) (Dm K V (k + 1))) := hown1
      have HB : Hid (Below w.heap.size w w1) := hb.drew.grown hg1 hb.size (fun j hj => by cases hj; exact Nat.le_refl _)
      have hi : (k : Int) < (n : Int) := by omega
      clear hck hcv hown hb hown1 hg1
      go_wp2
      go_region
      go_wp2
      go_roundw
      case rel => exact ⟨k + 1, by omega, by go_num, HO.out, HB.out⟩
      case measure => simp [intOf]; omega
    · obtain rfl : k = n := by omega
      go_wp2
      go_ret
      exact ⟨_, rfl, map_of_owns hown, hb⟩
end Go.Proofs.Qxb6605882a
