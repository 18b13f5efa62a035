/-
  The walks of 'FnIsFileOneByteOff' (function 4): the ways out ahead, and one walk for each of the two modes and the six places.
-/
import Derived.Test.Qxb6605856aIsFile
import Derived.Lib.SlBytesConst
namespace Go.Proofs.Qxb6605856a.Off
open Go.ChangeShapes Go.WideShapes Go.ChangeAt Go.RowKit

theorem isFile_b {b : Bool} {m : ByteArray} (h : Plain.isF m.toList = b) (d : ByteArray) (w : World) :
    Calls Try.prog 8 #[.string m, .string d] w fun e w' => e = .returned (.bool b) ∧ Below w.heap.size w w' := by
  subst h
  go_enter Try.func8, Try.ntmps8
  go_wp2
  · have h : m.toList = [49, 48, 48, 54, 52, 52] := by assumption
    go_ret
    exact ⟨by rw [h]; rfl, (Below.refl _ _).alloc (Nat.le_refl _) _⟩
  · go_ret
    exact ⟨rfl, (Below.refl _ _).alloc (Nat.le_refl _) _⟩

theorem big (a0 : Bool) (a1 a2 : Int) (a3 : ByteArray) (w3 : a3.size ≤ maxLen) (h : ¬ a3.size ≤ 1048576) (w : World) :
    Calls Try.prog 4 #[.bool a0, .int .i64 a1, .int .u8 a2, .string a3] w fun e w' => e = .returned (.bool true) ∧ Below w.heap.size w w' := by
  unfold maxLen at w3
  go_enter Try.func4, Try.ntmps4
  go_wp2
  all_goals (go_ret; exact ⟨rfl, Below.refl _ _⟩)

theorem out (a0 : Bool) (a1 a2 : Int) (a3 : ByteArray) (h : a3.size ≤ 1048576) (hi : a1 < 0 ∨ 6 ≤ a1) (w : World) :
    Calls Try.prog 4 #[.bool a0, .int .i64 a1, .int .u8 a2, .string a3] w fun e w' => e = .returned (.bool true) ∧ Below w.heap.size w w' := by
  rcases hi with hi | hi
  all_goals
    go_enter Try.func4, Try.ntmps4
    go_wp2
    go_ret
    exact ⟨rfl, Below.refl _ _⟩


theorem byte_is (a : Int) (h0 : 0 ≤ a) (h1 : a < 256) (c : Nat) (hc : c < 256) : (UInt8.ofNat a.toNat == UInt8.ofNat c) = (a == (c : Int)) := by
  rw [Bool.eq_iff_iff, beq_iff_eq, beq_iff_eq]
  constructor
  · intro h
    have := congrArg UInt8.toNat h
    simp at this
    omega
  · intro h
    subst h
    simp

/-! a block that bears a mark ('[]byte' of a constant) -/
theorem cellM (w : World) (C : Array Value) (lo hi n j : Nat) (hn : n = w.heap.size) : (w.alloc (.cells C 5 (lo, hi))).cell? ⟨n, j, none⟩ = C[j]? := by
  subst hn; exact World.cell?_alloc_mark w C 5 (lo, hi) j
theorem frozM (w : World) (C : Array Value) (lo hi n j : Nat) (hn : n = w.heap.size) : (w.alloc (.cells C 5 (lo, hi))).frozen? ⟨n, j, none⟩ = (decide (lo ≤ j) && decide (j < hi)) := by
  subst hn; exact World.frozen?_alloc_mark w C 5 lo hi j
theorem constM (w : World) (C : Array Value) (n c m : Nat) (hm : m = w.heap.size) :
    (convert 25 25 (.slice (some ⟨m, 0, none⟩) n c)).run Try.prog (w.alloc (.cells C 5)) = .ok (.slice (some ⟨m, 0, none⟩) n c) (w.alloc (.cells C 5 (C.size, C.size + 1))) := by
  subst hm; exact Lib.run_convert_bytes_const (P := Try.prog) w 25 5 C n c Try.underlying25 Try.underlying5
theorem setM (w : World) (C : Array Value) (lo hi n j : Nat) (v : Value) (hn : n = w.heap.size) : (w.alloc (.cells C 5 (lo, hi))).setCell ⟨n, j, none⟩ v = w.alloc (.cells (C.setIfInBounds j v) 5 (lo, hi)) := by
  subst hn
  unfold World.setCell World.alloc
  congr 1
  apply Array.ext_getElem?
  intro k
  simp only [Array.getElem?_modify, Array.getElem?_push]
  by_cases hk : k = w.heap.size
  · subst hk; simp
  · simp [hk, Ne.symm hk]
theorem conv6 (w : World) (x0 x1 x2 x3 x4 x5 : Int) (lo hi n : Nat) (hn : n = w.heap.size) :
    (convert 25 9 (.slice (some ⟨n, 0, none⟩) 6 6)).run Try.prog (w.alloc (.cells #[.int .u8 x0, .int .u8 x1, .int .u8 x2, .int .u8 x3, .int .u8 x4, .int .u8 x5] 5 (lo, hi)))
      = .ok (.string ⟨#[UInt8.ofNat x0.toNat, UInt8.ofNat x1.toNat, UInt8.ofNat x2.toNat, UInt8.ofNat x3.toNat, UInt8.ofNat x4.toNat, UInt8.ofNat x5.toNat]⟩) (w.alloc (.cells #[.int .u8 x0, .int .u8 x1, .int .u8 x2, .int .u8 x3, .int .u8 x4, .int .u8 x5] 5 (lo, hi))) := by
  subst hn
  rw [run_convert_bytes_string _ 25 9 5 (some ⟨w.heap.size, 0, none⟩) 6 6 Try.underlying25 Try.underlying5 Try.underlying9]
  have hl := run_loadCells_list (P := Try.prog) (w.alloc (.cells #[.int .u8 x0, .int .u8 x1, .int .u8 x2, .int .u8 x3, .int .u8 x4, .int .u8 x5] 5 (lo, hi))) ⟨w.heap.size, 0, none⟩ ([x0, x1, x2, x3, x4, x5].map (Value.int .u8)) (fun j v hj => by
    rw [add_plain, Nat.zero_add, World.cell?_alloc_mark]
    simpa using hj)
  rw [run_bytesToString _ ⟨w.heap.size, 0, none⟩ 6 6 [x0, x1, x2, x3, x4, x5] hl]
  rfl


theorem at_p0 (a2 : Int) (a3 : ByteArray) (h0 : 0 ≤ a2) (h1 : a2 < 256) (h : a3.size ≤ 1048576) (w : World) :
    Calls Try.prog 4 #[.bool false, .int .i64 0, .int .u8 a2, .string a3] w fun e w' => e = .returned (.bool true) ∧ Below w.heap.size w w' := by
  have HF : Hid (Plain.isF (ByteArray.mk #[UInt8.ofNat a2.toNat, 48, 48, 54, 52, 52]).toList = (a2 == 49)) := by
    rw [Hid, ByteArray.toList_eq]
    refine Eq.trans ?_ (byte_is a2 h0 h1 49 (by omega))
    simp [Plain.isF]
  have kc := constM
  have k1 := cellM
  have k2 := frozM
  have k3 := setM
  have k4 := conv6
  go_enter Try.func4, Try.ntmps4
  go_wp2_with (first | (go_at_call 8; refine (isFile_b HF.out _ _).mono ?_; rintro e w2 ⟨rfl, hg⟩) | go_in)
  go_ret
  exact ⟨by simp, (((Below.refl _ _).alloc (Nat.le_refl _) _)).trans (hg.mono (by simp))⟩

theorem at_p1 (a2 : Int) (a3 : ByteArray) (h0 : 0 ≤ a2) (h1 : a2 < 256) (h : a3.size ≤ 1048576) (w : World) :
    Calls Try.prog 4 #[.bool false, .int .i64 1, .int .u8 a2, .string a3] w fun e w' => e = .returned (.bool true) ∧ Below w.heap.size w w' := by
  have HF : Hid (Plain.isF (ByteArray.mk #[49, UInt8.ofNat a2.toNat, 48, 54, 52, 52]).toList = (a2 == 48)) := by
    rw [Hid, ByteArray.toList_eq]
    refine Eq.trans ?_ (byte_is a2 h0 h1 48 (by omega))
    simp [Plain.isF]
  have kc := constM
  have k1 := cellM
  have k2 := frozM
  have k3 := setM
  have k4 := conv6
  go_enter Try.func4, Try.ntmps4
  go_wp2_with (first | (go_at_call 8; refine (isFile_b HF.out _ _).mono ?_; rintro e w2 ⟨rfl, hg⟩) | go_in)
  go_ret
  exact ⟨by simp, (((Below.refl _ _).alloc (Nat.le_refl _) _)).trans (hg.mono (by simp))⟩

theorem at_p2 (a2 : Int) (a3 : ByteArray) (h0 : 0 ≤ a2) (h1 : a2 < 256) (h : a3.size ≤ 1048576) (w : World) :
    Calls Try.prog 4 #[.bool false, .int .i64 2, .int .u8 a2, .string a3] w fun e w' => e = .returned (.bool true) ∧ Below w.heap.size w w' := by
  have HF : Hid (Plain.isF (ByteArray.mk #[49, 48, UInt8.ofNat a2.toNat, 54, 52, 52]).toList = (a2 == 48)) := by
    rw [Hid, ByteArray.toList_eq]
    refine Eq.trans ?_ (byte_is a2 h0 h1 48 (by omega))
    simp [Plain.isF]
  have kc := constM
  have k1 := cellM
  have k2 := frozM
  have k3 := setM
  have k4 := conv6
  go_enter Try.func4, Try.ntmps4
  go_wp2_with (first | (go_at_call 8; refine (isFile_b HF.out _ _).mono ?_; rintro e w2 ⟨rfl, hg⟩) | go_in)
  go_ret
  exact ⟨by simp, (((Below.refl _ _).alloc (Nat.le_refl _) _)).trans (hg.mono (by simp))⟩

theorem at_p3 (a2 : Int) (a3 : ByteArray) (h0 : 0 ≤ a2) (h1 : a2 < 256) (h : a3.size ≤ 1048576) (w : World) :
    Calls Try.prog 4 #[.bool false, .int .i64 3, .int .u8 a2, .string a3] w fun e w' => e = .returned (.bool true) ∧ Below w.heap.size w w' := by
  have HF : Hid (Plain.isF (ByteArray.mk #[49, 48, 48, UInt8.ofNat a2.toNat, 52, 52]).toList = (a2 == 54)) := by
    rw [Hid, ByteArray.toList_eq]
    refine Eq.trans ?_ (byte_is a2 h0 h1 54 (by omega))
    simp [Plain.isF]
  have kc := constM
  have k1 := cellM
  have k2 := frozM
  have k3 := setM
  have k4 := conv6
  go_enter Try.func4, Try.ntmps4
  go_wp2_with (first | (go_at_call 8; refine (isFile_b HF.out _ _).mono ?_; rintro e w2 ⟨rfl, hg⟩) | go_in)
  go_ret
  exact ⟨by simp, (((Below.refl _ _).alloc (Nat.le_refl _) _)).trans (hg.mono (by simp))⟩

theorem at_p4 (a2 : Int) (a3 : ByteArray) (h0 : 0 ≤ a2) (h1 : a2 < 256) (h : a3.size ≤ 1048576) (w : World) :
    Calls Try.prog 4 #[.bool false, .int .i64 4, .int .u8 a2, .string a3] w fun e w' => e = .returned (.bool true) ∧ Below w.heap.size w w' := by
  have HF : Hid (Plain.isF (ByteArray.mk #[49, 48, 48, 54, UInt8.ofNat a2.toNat, 52]).toList = (a2 == 52)) := by
    rw [Hid, ByteArray.toList_eq]
    refine Eq.trans ?_ (byte_is a2 h0 h1 52 (by omega))
    simp [Plain.isF]
  have kc := constM
  have k1 := cellM
  have k2 := frozM
  have k3 := setM
  have k4 := conv6
  go_enter Try.func4, Try.ntmps4
  go_wp2_with (first | (go_at_call 8; refine (isFile_b HF.out _ _).mono ?_; rintro e w2 ⟨rfl, hg⟩) | go_in)
  go_ret
  exact ⟨by simp, (((Below.refl _ _).alloc (Nat.le_refl _) _)).trans (hg.mono (by simp))⟩

theorem at_p5 (a2 : Int) (a3 : ByteArray) (h0 : 0 ≤ a2) (h1 : a2 < 256) (h : a3.size ≤ 1048576) (w : World) :
    Calls Try.prog 4 #[.bool false, .int .i64 5, .int .u8 a2, .string a3] w fun e w' => e = .returned (.bool true) ∧ Below w.heap.size w w' := by
  have HF : Hid (Plain.isF (ByteArray.mk #[49, 48, 48, 54, 52, UInt8.ofNat a2.toNat]).toList = (a2 == 52)) := by
    rw [Hid, ByteArray.toList_eq]
    refine Eq.trans ?_ (byte_is a2 h0 h1 52 (by omega))
    simp [Plain.isF]
  have kc := constM
  have k1 := cellM
  have k2 := frozM
  have k3 := setM
  have k4 := conv6
  go_enter Try.func4, Try.ntmps4
  go_wp2_with (first | (go_at_call 8; refine (isFile_b HF.out _ _).mono ?_; rintro e w2 ⟨rfl, hg⟩) | go_in)
  go_ret
  exact ⟨by simp, (((Below.refl _ _).alloc (Nat.le_refl _) _)).trans (hg.mono (by simp))⟩

theorem at_x0 (a2 : Int) (a3 : ByteArray) (h0 : 0 ≤ a2) (h1 : a2 < 256) (h : a3.size ≤ 1048576) (w : World) :
    Calls Try.prog 4 #[.bool true, .int .i64 0, .int .u8 a2, .string a3] w fun e w' => e = .returned (.bool true) ∧ Below w.heap.size w w' := by
  have HF : Hid (Plain.isF (ByteArray.mk #[UInt8.ofNat a2.toNat, 48, 48, 55, 53, 53]).toList = (a2 == 49)) := by
    rw [Hid, ByteArray.toList_eq]
    refine Eq.trans ?_ (byte_is a2 h0 h1 49 (by omega))
    simp [Plain.isF]
  have kc := constM
  have k1 := cellM
  have k2 := frozM
  have k3 := setM
  have k4 := conv6
  go_enter Try.func4, Try.ntmps4
  go_wp2_with (first | (go_at_call 8; refine (isFile_b HF.out _ _).mono ?_; rintro e w2 ⟨rfl, hg⟩) | go_in)
  go_ret
  exact ⟨by simp, ((((Below.refl _ _).alloc (Nat.le_refl _) _).alloc (by simp) _)).trans (hg.mono (by simp; omega))⟩

theorem at_x1 (a2 : Int) (a3 : ByteArray) (h0 : 0 ≤ a2) (h1 : a2 < 256) (h : a3.size ≤ 1048576) (w : World) :
    Calls Try.prog 4 #[.bool true, .int .i64 1, .int .u8 a2, .string a3] w fun e w' => e = .returned (.bool true) ∧ Below w.heap.size w w' := by
  have HF : Hid (Plain.isF (ByteArray.mk #[49, UInt8.ofNat a2.toNat, 48, 55, 53, 53]).toList = (a2 == 48)) := by
    rw [Hid, ByteArray.toList_eq]
    refine Eq.trans ?_ (byte_is a2 h0 h1 48 (by omega))
    simp [Plain.isF]
  have kc := constM
  have k1 := cellM
  have k2 := frozM
  have k3 := setM
  have k4 := conv6
  go_enter Try.func4, Try.ntmps4
  go_wp2_with (first | (go_at_call 8; refine (isFile_b HF.out _ _).mono ?_; rintro e w2 ⟨rfl, hg⟩) | go_in)
  go_ret
  exact ⟨by simp, ((((Below.refl _ _).alloc (Nat.le_refl _) _).alloc (by simp) _)).trans (hg.mono (by simp; omega))⟩

theorem at_x2 (a2 : Int) (a3 : ByteArray) (h0 : 0 ≤ a2) (h1 : a2 < 256) (h : a3.size ≤ 1048576) (w : World) :
    Calls Try.prog 4 #[.bool true, .int .i64 2, .int .u8 a2, .string a3] w fun e w' => e = .returned (.bool true) ∧ Below w.heap.size w w' := by
  have HF : Hid (Plain.isF (ByteArray.mk #[49, 48, UInt8.ofNat a2.toNat, 55, 53, 53]).toList = (a2 == 48)) := by
    rw [Hid, ByteArray.toList_eq]
    refine Eq.trans ?_ (byte_is a2 h0 h1 48 (by omega))
    simp [Plain.isF]
  have kc := constM
  have k1 := cellM
  have k2 := frozM
  have k3 := setM
  have k4 := conv6
  go_enter Try.func4, Try.ntmps4
  go_wp2_with (first | (go_at_call 8; refine (isFile_b HF.out _ _).mono ?_; rintro e w2 ⟨rfl, hg⟩) | go_in)
  go_ret
  exact ⟨by simp, ((((Below.refl _ _).alloc (Nat.le_refl _) _).alloc (by simp) _)).trans (hg.mono (by simp; omega))⟩

theorem at_x3 (a2 : Int) (a3 : ByteArray) (h0 : 0 ≤ a2) (h1 : a2 < 256) (h : a3.size ≤ 1048576) (w : World) :
    Calls Try.prog 4 #[.bool true, .int .i64 3, .int .u8 a2, .string a3] w fun e w' => e = .returned (.bool true) ∧ Below w.heap.size w w' := by
  have HF : Hid (Plain.isF (ByteArray.mk #[49, 48, 48, UInt8.ofNat a2.toNat, 53, 53]).toList = (a2 == 55)) := by
    rw [Hid, ByteArray.toList_eq]
    refine Eq.trans ?_ (byte_is a2 h0 h1 55 (by omega))
    simp [Plain.isF]
  have kc := constM
  have k1 := cellM
  have k2 := frozM
  have k3 := setM
  have k4 := conv6
  go_enter Try.func4, Try.ntmps4
  go_wp2_with (first | (go_at_call 8; refine (isFile_b HF.out _ _).mono ?_; rintro e w2 ⟨rfl, hg⟩) | go_in)
  go_ret
  exact ⟨by simp, ((((Below.refl _ _).alloc (Nat.le_refl _) _).alloc (by simp) _)).trans (hg.mono (by simp; omega))⟩

theorem at_x4 (a2 : Int) (a3 : ByteArray) (h0 : 0 ≤ a2) (h1 : a2 < 256) (h : a3.size ≤ 1048576) (w : World) :
    Calls Try.prog 4 #[.bool true, .int .i64 4, .int .u8 a2, .string a3] w fun e w' => e = .returned (.bool true) ∧ Below w.heap.size w w' := by
  have HF : Hid (Plain.isF (ByteArray.mk #[49, 48, 48, 55, UInt8.ofNat a2.toNat, 53]).toList = (a2 == 53)) := by
    rw [Hid, ByteArray.toList_eq]
    refine Eq.trans ?_ (byte_is a2 h0 h1 53 (by omega))
    simp [Plain.isF]
  have kc := constM
  have k1 := cellM
  have k2 := frozM
  have k3 := setM
  have k4 := conv6
  go_enter Try.func4, Try.ntmps4
  go_wp2_with (first | (go_at_call 8; refine (isFile_b HF.out _ _).mono ?_; rintro e w2 ⟨rfl, hg⟩) | go_in)
  go_ret
  exact ⟨by simp, ((((Below.refl _ _).alloc (Nat.le_refl _) _).alloc (by simp) _)).trans (hg.mono (by simp; omega))⟩

theorem at_x5 (a2 : Int) (a3 : ByteArray) (h0 : 0 ≤ a2) (h1 : a2 < 256) (h : a3.size ≤ 1048576) (w : World) :
    Calls Try.prog 4 #[.bool true, .int .i64 5, .int .u8 a2, .string a3] w fun e w' => e = .returned (.bool true) ∧ Below w.heap.size w w' := by
  have HF : Hid (Plain.isF (ByteArray.mk #[49, 48, 48, 55, 53, UInt8.ofNat a2.toNat]).toList = (a2 == 53)) := by
    rw [Hid, ByteArray.toList_eq]
    refine Eq.trans ?_ (byte_is a2 h0 h1 53 (by omega))
    simp [Plain.isF]
  have kc := constM
  have k1 := cellM
  have k2 := frozM
  have k3 := setM
  have k4 := conv6
  go_enter Try.func4, Try.ntmps4
  go_wp2_with (first | (go_at_call 8; refine (isFile_b HF.out _ _).mono ?_; rintro e w2 ⟨rfl, hg⟩) | go_in)
  go_ret
  exact ⟨by simp, ((((Below.refl _ _).alloc (Nat.le_refl _) _).alloc (by simp) _)).trans (hg.mono (by simp; omega))⟩
end Go.Proofs.Qxb6605856a.Off
