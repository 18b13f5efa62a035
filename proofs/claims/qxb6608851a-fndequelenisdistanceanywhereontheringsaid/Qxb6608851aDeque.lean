/-
  The contracts of what the law goes through: 'zzDist' (4), 'ZZnewDeque' (5), 'zzPack' (6), 'ZZdequeLen' (7).
-/
import Derived.Test.Qxb6608851aRows
import Derived.WalkKit
import Derived.ProofKit
import Derived.OpenShut
import Derived.Laws.LoneSync
import Derived.Laws.BitsLemmas
namespace Go.Proofs.Qxb6608851a
open Go.ChangeShapes Go.WideShapes Go.ChangeAt Go.RowKit
set_option linter.unusedVariables false

/-- the cells of a deque whose ends word is y and whose slots are empty -/
def zc (y : Int) : Array Value := #[.int .u64 y] ++ Array.replicate 256 (.pointer none)

theorem run_zero (w : World) : (zeroValue 45).run Try.prog w = .ok (.agg (zc 0)) w := by kernel_rfl

theorem zc_cell (y : Int) : (zc y)[0]? = some (.int .u64 y) := by simp [zc]
theorem zc_set (x y : Int) : (zc x).setIfInBounds 0 (.int .u64 y) = zc y := by
  unfold zc
  apply Array.ext_getElem?
  intro i
  rw [Array.getElem?_setIfInBounds]
  by_cases h : 0 = i
  · subst h; simp
  · rw [if_neg h]
    rw [Array.getElem?_append_right (by simp; omega), Array.getElem?_append_right (by simp; omega)]
    simp

theorem run_stored (w : World) (y : Int) : (callFunc 10 #[.pointer (some ⟨w.heap.size, 0, none⟩), .int .u64 y]).run Try.prog (w.alloc (.cells (zc 0) 45)) = .ok (.value (.tuple #[])) (w.alloc (.cells (zc y) 45)) := by
  rw [run_call_store (P := Try.prog) Try.func10 (by kernel_rfl) (by kernel_rfl) (by kernel_rfl) (by kernel_rfl) (k := .u64) (y := y) (a := ⟨w.heap.size, 0, none⟩) (u := .int .u64 0) (w := w.alloc (.cells (zc 0) 45)) (by rw [World.cell?_alloc_at _ _ _ _ rfl, zc_cell]) (by rw [frozen?_alloc_cells]; simp [World.frozen?])]
  rw [World.setCell_alloc_at _ _ _ _ _ rfl, zc_set]

theorem new_any (y : Int) (w : World) :
    Calls Try.prog 5 #[.int .u64 y] w fun e w' => e = .returned (.pointer (some ⟨w.heap.size, 0, none⟩)) ∧ w' = w.alloc (.cells (zc y) 45) := by
  have h1 := run_zero
  have h3 := run_stored
  go_enter Try.func5, Try.ntmps5
  go_wp2
  go_end0
  go_wp2
  go_ret
  exact ⟨rfl, rfl⟩


theorem wrap_u16 (n : Int) : IntKind.u16.wrap n = n % 65536 := by simp [IntKind.wrap, IntKind.bits, IntKind.signed]
theorem wrap_u64 (n : Int) (h0 : 0 ≤ n) (h1 : n < 2 ^ 64) : IntKind.u64.wrap n = n := by
  simp [IntKind.wrap, IntKind.bits, IntKind.signed]
  omega
theorem or_comm64 (x y : Int) : bits .or .u64 x y = bits .or .u64 y x := by simp only [bits, BitVec.or_comm]
theorem packed (t b s : Int) (t0 : 0 ≤ t) (t1 : t < 65536) (b0 : 0 ≤ b) (b1 : b < 65536) (s0 : 0 ≤ s) (s1 : s < 4294967296) :
    bits .or .u64 (bits .or .u64 t (b * 65536)) (s * 4294967296) = t + b * 65536 + s * 4294967296 := by
  have e1 : bits .or .u64 t (b * 65536) = t + b * 65536 := by
    rw [or_comm64, bits_join .u64 64 (by decide) wrap_u64 16 (b * 65536) t (by omega) (by omega) (by omega) t0 (by omega) (by omega)]
    omega
  rw [e1, or_comm64, bits_join .u64 64 (by decide) wrap_u64 32 (s * 4294967296) (t + b * 65536) (by omega) (by omega) (by omega) (by omega) (by omega) (by omega)]
  omega
theorem ret_int {k : IntKind} {a b : Int} (h : a = b) : Ending.returned (.int k a) = .returned (.int k b) := by rw [h]

theorem unpack_any (y : Int) (w : World) (h0 : 0 ≤ y) (h1 : y ≤ 18446744073709551615) :
    Calls Try.prog 11 #[.int .u64 y] w fun e w' => e = .returned (.tuple #[.int .u16 (y % 65536), .int .u16 (y / 65536 % 65536), .int .u32 (y / 4294967296)]) ∧ w' = w := by
  go_enter Try.func11, Try.ntmps11
  go_wp2
  go_ret3
  exact ⟨by simp only [wrap_u16]; rfl, rfl⟩

theorem len_any (b : Nat) (y : Int) (w : World) (hc : w.cell? ⟨b, 0, none⟩ = some (.int .u64 y)) (h0 : 0 ≤ y) (h1 : y ≤ 18446744073709551615) :
    Calls Try.prog 7 #[.pointer (some ⟨b, 0, none⟩)] w fun e w' => e = .returned (.int .i64 ((y / 65536 - y) % 65536)) ∧ w' = w := by
  have hl := run_call_load (P := Try.prog) Try.func13 (by kernel_rfl) (by kernel_rfl) (by kernel_rfl) .u64 (by kernel_rfl) hc
  go_enter Try.func7, Try.ntmps7
  go_wp2_with (first | (go_at_call 11; refine (unpack_any _ _ h0 h1).mono ?_; rintro e w' ⟨rfl, rfl⟩) | go_in)
  go_ret
  refine ⟨ret_int ?_, rfl⟩
  rw [wrap_u16]
  unfold wrap64
  omega

theorem len_is (b : Nat) (y : Int) (w : World) (d : Nat) (hc : w.cell? ⟨b, 0, none⟩ = some (.int .u64 y)) (h0 : 0 ≤ y) (h1 : y ≤ 18446744073709551615) (hd : (y / 65536 - y) % 65536 = d) :
    Calls Try.prog 7 #[.pointer (some ⟨b, 0, none⟩)] w fun e w' => e = .returned (.int .i64 d) ∧ w' = w := by
  rw [← hd]
  exact len_any b y w hc h0 h1

theorem pack_any (t b s : Int) (w : World) (t0 : 0 ≤ t) (t1 : t < 65536) (b0 : 0 ≤ b) (b1 : b < 65536) (s0 : 0 ≤ s) (s1 : s < 4294967296) :
    Calls Try.prog 6 #[.int .u16 t, .int .u16 b, .int .u32 s] w fun e w' => e = .returned (.int .u64 (t + b * 65536 + s * 4294967296)) ∧ w' = w := by
  go_enter Try.func6, Try.ntmps6
  go_wp2
  go_ret
  exact ⟨ret_int (packed t b s t0 t1 b0 b1 s0 s1), rfl⟩

theorem dist_yes (t b : Int) (w : World) (t0 : 0 ≤ t) (t1 : t < 65536) (b0 : 0 ≤ b) (b1 : b < 65536) (d : Nat) (hd : (b - t) % 65536 = d) (h : d ≤ 256) :
    Calls Try.prog 4 #[.int .u16 t, .int .u16 b] w fun e w' => e = .returned (.tuple #[.int .i64 d, .bool true]) ∧ w' = w := by
  have HD : Hid ((b - t) % 65536 = d) := hd
  clear hd
  go_enter Try.func4, Try.ntmps4
  go_wp2
  go_loop [6] (fun i => ∃ k : Nat, k ≤ d ∧ i = .int .i64 k) (fun i => 257 - (intOf i).toNat)
  case atStart => exact ⟨0, Nat.zero_le _, rfl⟩
  case round =>
    obtain ⟨k, hk, rfl⟩ := hrel
    by_cases hkd : k = d
    · subst hkd
      have hq : (IntKind.u16.wrap (t + (k : Int)) == b) = true := by rw [beq_iff_eq, wrap_u16]; have := HD.out; omega
      go_wp2
      go_ret2
      exact ⟨rfl, rfl⟩
    · have hq : (IntKind.u16.wrap (t + (k : Int)) == b) = false := by rw [beq_eq_false_iff_ne, wrap_u16]; have := HD.out; omega
      go_wp2
      go_round
      case rel => exact ⟨k + 1, by omega, by go_num⟩
      case measure => simp [intOf]; omega

theorem dist_no (t b : Int) (w : World) (t0 : 0 ≤ t) (t1 : t < 65536) (b0 : 0 ≤ b) (b1 : b < 65536) (h : 256 < (b - t) % 65536) :
    Calls Try.prog 4 #[.int .u16 t, .int .u16 b] w fun e w' => e = .returned (.tuple #[.int .i64 0, .bool false]) ∧ w' = w := by
  have HD : Hid (256 < (b - t) % 65536) := h
  clear h
  go_enter Try.func4, Try.ntmps4
  go_wp2
  go_loop [6] (fun i => ∃ k : Nat, k ≤ 257 ∧ i = .int .i64 k) (fun i => 257 - (intOf i).toNat)
  case atStart => exact ⟨0, Nat.zero_le _, rfl⟩
  case round =>
    obtain ⟨k, hk, rfl⟩ := hrel
    by_cases hkd : k = 257
    · subst hkd
      go_wp2
      go_ret2
      exact ⟨rfl, rfl⟩
    · have hq : (IntKind.u16.wrap (t + (k : Int)) == b) = false := by rw [beq_eq_false_iff_ne, wrap_u16]; have := HD.out; omega
      go_wp2
      go_round
      case rel => exact ⟨k + 1, by omega, by go_num⟩
      case measure => simp [intOf]; omega

theorem law_no (a0 a1 a2 : Int) (w : World) (h0 : 0 ≤ a0) (h1 : a0 ≤ 18446744073709551615) (h : 256 < (a0 / 65536 % 65536 - a0 % 65536) % 65536) :
    Calls Try.prog 3 #[.int .u64 a0, .int .u16 a1, .int .u32 a2] w fun e w' => e = .returned (.bool true) ∧ Grown w w' := by
  have HD : Hid (256 < (a0 / 65536 % 65536 - a0 % 65536) % 65536) := h
  clear h
  go_enter Try.func3, Try.ntmps3
  go_wp2_with fail
  simp only [wrap_u16]
  refine (dist_no _ _ _ (by omega) (by omega) (by omega) (by omega) HD.out).mono ?_; rintro e w' ⟨rfl, rfl⟩
  go_wp2_with fail
  go_ret
  exact ⟨rfl, Grown.refl _⟩

theorem law_yes (a0 a1 a2 : Int) (w : World) (h0 : 0 ≤ a0) (h1 : a0 ≤ 18446744073709551615) (s0 : 0 ≤ a1) (s1 : a1 < 65536) (q0 : 0 ≤ a2) (q1 : a2 < 4294967296) (d : Nat) (hd : (a0 / 65536 % 65536 - a0 % 65536) % 65536 = d) (h : d ≤ 256) :
    Calls Try.prog 3 #[.int .u64 a0, .int .u16 a1, .int .u32 a2] w fun e w' => e = .returned (.bool true) ∧ Grown w w' := by
  have HD : Hid ((a0 / 65536 % 65536 - a0 % 65536) % 65536 = d) := hd
  clear hd
  go_enter Try.func3, Try.ntmps3
  go_wp2_with fail
  simp only [wrap_u16]
  refine (dist_yes _ _ _ (by omega) (by omega) (by omega) (by omega) d HD.out h).mono ?_; rintro e w' ⟨rfl, rfl⟩
  go_wp2_with fail
  refine (new_any _ _).mono ?_; rintro e w1 ⟨rfl, rfl⟩
  go_wp2_with fail
  have eT : IntKind.u16.wrap (a0 % 65536 + a1) = (a0 % 65536 + a1) % 65536 := wrap_u16 _
  have eB : IntKind.u16.wrap (a0 / 65536 % 65536 + a1) = (a0 / 65536 % 65536 + a1) % 65536 := wrap_u16 _
  have hTB : Hid (((a0 / 65536 % 65536 + a1) % 65536 - (a0 % 65536 + a1) % 65536) % 65536 = d) := by have := HD.out; unfold Hid; omega
  rw [← eT, ← eB] at hTB
  have t0 : 0 ≤ IntKind.u16.wrap (a0 % 65536 + a1) := by omega
  have t1 : IntKind.u16.wrap (a0 % 65536 + a1) < 65536 := by omega
  have b0 : 0 ≤ IntKind.u16.wrap (a0 / 65536 % 65536 + a1) := by omega
  have b1 : IntKind.u16.wrap (a0 / 65536 % 65536 + a1) < 65536 := by omega
  clear eT eB
  generalize IntKind.u16.wrap (a0 % 65536 + a1) = T at *
  generalize IntKind.u16.wrap (a0 / 65536 % 65536 + a1) = B at *
  refine (pack_any T B a2 _ t0 t1 b0 b1 q0 q1).mono ?_; rintro e w1 ⟨rfl, rfl⟩
  have y0 : 0 ≤ T + B * 65536 + a2 * 4294967296 := by omega
  have y1 : T + B * 65536 + a2 * 4294967296 ≤ 18446744073709551615 := by omega
  have HY : Hid (((T + B * 65536 + a2 * 4294967296) / 65536 - (T + B * 65536 + a2 * 4294967296)) % 65536 = d) := by have := hTB.out; unfold Hid; omega
  have HX : Hid ((a0 / 65536 - a0) % 65536 = d) := by have := HD.out; unfold Hid; omega
  clear t0 t1 b0 b1
  generalize T + B * 65536 + a2 * 4294967296 = Y at *
  go_wp2_with fail
  refine (new_any Y _).mono ?_; rintro e w1 ⟨rfl, rfl⟩
  go_wp2_with fail
  refine (len_is _ a0 _ d (by simp [zc_cell]) h0 h1 HX.out).mono ?_; rintro e w1 ⟨rfl, rfl⟩
  go_wp2_with fail
  refine (len_is _ Y _ d (by simp [zc_cell]) y0 y1 HY.out).mono ?_; rintro e w1 ⟨rfl, rfl⟩
  go_wp2_with fail
  go_ret
  exact ⟨rfl, ((Grown.refl _).alloc _ _).alloc _ _⟩
end Go.Proofs.Qxb6608851a
