/-
  'cloneStrings' (9) and 'cloneReqs' (8): the copy holds the same; nothing old turns.
-/
import Derived.Test.Qxb6605882aMem
namespace Go.Proofs.Qxb6605882a
open Go.ChangeShapes Go.WideShapes Go.ChangeAt Go.RowKit

theorem info9 : (Try.prog.info? 9).map (fun i => (i.zero, i.size, i.bytes)) = some (some (.string ⟨#[]⟩), 1, 16) := by kernel_rfl

/-- a row of n strings of which the first k are K's -/
def half (K : Nat → ByteArray) (k : Nat) (i : Nat) : Value := if i < k then .string (K i) else .string ⟨#[]⟩

theorem half_step {w : World} {b n k : Nat} {K : Nat → ByteArray} (h : w.rowIs b 9 n (half K k)) : (w.setCell ⟨b, k, none⟩ (.string (K k))).rowIs b 9 n (half K (k + 1)) :=
  (h.set k _).congr fun i _ => by
    unfold half
    by_cases h1 : i = k
    · subst h1; simp
    · rw [if_neg h1]
      by_cases h2 : i < k
      · rw [if_pos h2, if_pos (by omega)]
      · rw [if_neg h2, if_neg (by omega)]

theorem strs_of_row {w : World} {b n : Nat} {K : Nat → ByteArray} (h : w.rowIs b 9 n (half K n)) : StrsAt w (some ⟨b, 0, none⟩) n K := fun _ =>
  ⟨b, 0, rfl, h.lt, fun i hi => by rw [Nat.zero_add, h.cell hi]; simp [half, hi]⟩

theorem strs_below {w w' : World} {a : Option Addr} {n : Nat} {K : Nat → ByteArray} (h : StrsAt w a n K) {B : Nat} (hb : Below B w w') (hB : w.heap.size ≤ B) : StrsAt w' a n K := fun hn => by
  obtain ⟨b, off, h1, h2, h3⟩ := h hn
  exact ⟨b, off, h1, Nat.lt_of_lt_of_le h2 hb.size, fun i hi => (hb.cell (p := ⟨b, off + i, none⟩) (Nat.lt_of_lt_of_le h2 hB)).trans (h3 i hi)⟩

theorem clone_strs (a : Option Addr) (n c : Nat) (K : Nat → ByteArray) (w : World) (hn : n ≤ 65536) (h : StrsAt w a n K) :
    Calls Try.prog 9 #[.slice a n c] w fun e w' => ∃ a' c', e = .returned (.slice a' n c') ∧ StrsAt w' a' n K ∧ Below w.heap.size w w' := by
  have heq : ∀ (w : World) (a : Option Addr) (n c n' c' : Nat), (binOp .eql 24 (.slice a n c) (.slice none n' c')).run Try.prog w = .ok (.bool a.isNone) w := fun w a n c n' c' => Lib.run_eql_slice_nil w _ _ a n c n' c' Try.underlying24
  cases a with
  | none =>
    have h0 : n = 0 := by
      rcases Nat.eq_zero_or_pos n with h0 | h0
      · exact h0
      · obtain ⟨_, _, h1, _⟩ := h h0
        cases h1
    subst h0
    go_enter Try.func9, Try.ntmps9
    go_wp2
    go_ret
    exact ⟨none, 0, rfl, fun h => absurd h (by omega), Below.refl _ _⟩
  | some ad =>
    have H : Hid (StrsAt w (some ad) n K) := h
    clear h
    have hmk := run_make_row' (P := Try.prog) 24 9 (.string ⟨#[]⟩) 16 Try.underlying24 info9 rfl .i64 .i64 n (by omega) (by omega)
    go_enter Try.func9, Try.ntmps9
    go_wp2
    go_loopw [4] (fun i wr => ∃ k : Nat, k ≤ n ∧ i = .int .i64 k ∧ wr.rowIs w.heap.size 9 n (half K k) ∧ Below w.heap.size w wr) (fun i _ => n - (intOf i).toNat)
    case atStart => exact ⟨0, Nat.zero_le _, rfl, (World.rowIs_made _ _ _ _).congr (fun i _ => by simp [half]), (Below.refl _ _).alloc (Nat.le_refl _) _⟩
    case round =>
      obtain ⟨k, hk, rfl, hrow, hb⟩ := hrel
      by_cases hlt : k < n
      · obtain ⟨b, off, e1, hbl, hc⟩ := H.out (by omega)
        cases e1
        have c1 := (hb.cell (p := ⟨b, off + k, none⟩) hbl).trans (hc k hlt)
        have c2 := hrow.cell hlt
        have c3 := hrow.frozen k
        have HR : Hid (wr.rowIs w.heap.size 9 n (half K k)) := hrow
        have HB : Hid (Below w.heap.size w wr) := hb
        clear hc hrow hb
        go_wp2
        go_roundw
        case rel => exact ⟨k + 1, by omega, by go_num, half_step HR.out, HB.out.setCell (Nat.le_refl _) _⟩
        case measure => simp [intOf]; omega
      · obtain rfl : k = n := by omega
        go_wp2
        go_ret
        exact ⟨some ⟨w.heap.size, 0, none⟩, _, rfl, strs_of_row hrow, hb⟩

/-- behind a lie n requirements: path, 'not equals', value -/
def ReqsAt (w : World) (a : Option Addr) (n : Nat) (P : Nat → ByteArray) (N : Nat → Bool) (V : Nat → ByteArray) : Prop :=
  0 < n → ∃ b off, a = some ⟨b, off, none⟩ ∧ b < w.heap.size ∧ ∀ i, i < n → w.cell? ⟨b, off + i * 3, none⟩ = some (.string (P i)) ∧ w.cell? ⟨b, off + i * 3 + 1, none⟩ = some (.bool (N i)) ∧ w.cell? ⟨b, off + i * 3 + 2, none⟩ = some (.string (V i))

theorem info27 : (Try.prog.info? 27).map (fun i => (i.zero, i.size, i.bytes)) = some (some (.agg #[.string ⟨#[]⟩, .bool false, .string ⟨#[]⟩]), 3, 40) := by kernel_rfl

/-- 'make([]T, n)', T of three cells -/
theorem run_make3 (t e : TypeId) (z0 z1 z2 : Value) (bytes : Nat) (ht : Try.prog.underlying t = some (.slice e)) (hinfo : (Try.prog.info? e).map (fun i => (i.zero, i.size, i.bytes)) = some (some (.agg #[z0, z1, z2]), 3, bytes))
    (n : Nat) (hbytes : bytes * n ≤ 281474976710656) (h63 : n ≤ 9223372036854775807) (w : World) :
    (Instr.makeSlice t (.int .i64 (n : Int)) (.int .i64 (n : Int))).run Try.prog w = .ok (.slice (some ⟨w.heap.size, 0, none⟩) n n) (w.alloc (.cells (madeCells #[z0, z1, z2] (n * 3)) e)) := by
  obtain ⟨i, hi, hzz⟩ := Option.map_eq_some_iff.1 hinfo
  simp only [Prod.mk.injEq] at hzz
  obtain ⟨hz, hs, hb⟩ := hzz
  have := run_make (P := Try.prog) w t e i _ ht hi hz .i64 .i64 n n (by omega) (by omega) (by rw [hb]; omega) (by omega)
  rw [Int.toNat_natCast, hs] at this
  exact this

/-- cell j of a row of structs of three cells: of the first k structs by the three columns, else zero -/
def half3 (A B C : Nat → Value) (z0 z1 z2 : Value) (k j : Nat) : Value :=
  if j / 3 < k then (if j % 3 = 0 then A (j / 3) else if j % 3 = 1 then B (j / 3) else C (j / 3)) else (if j % 3 = 0 then z0 else if j % 3 = 1 then z1 else z2)

theorem half3_made (w : World) (A B C : Nat → Value) (z0 z1 z2 : Value) (n : Nat) (t : TypeId) : (w.alloc (.cells (madeCells #[z0, z1, z2] (n * 3)) t)).rowIs w.heap.size t (n * 3) (half3 A B C z0 z1 z2 0) := by
  have h := World.rowIs_alloc w (madeCells #[z0, z1, z2] (n * 3)) t (half3 A B C z0 z1 z2 0) (fun i hi => by
    rw [size_madeCells] at hi
    have h3 : i % 3 = 0 ∨ i % 3 = 1 ∨ i % 3 = 2 := by omega
    simp only [madeCells, half3, Array.getElem?_map, Nat.not_lt_zero, if_false]
    rcases h3 with e | e | e <;> simp [hi, e])
  rwa [size_madeCells] at h

theorem half3_step {w : World} {A B C : Nat → Value} {z0 z1 z2 : Value} {b n k : Nat} {t : TypeId} (h : w.rowIs b t n (half3 A B C z0 z1 z2 k)) :
    (((w.setCell ⟨b, k * 3, none⟩ (A k)).setCell ⟨b, k * 3 + 1, none⟩ (B k)).setCell ⟨b, k * 3 + 2, none⟩ (C k)).rowIs b t n (half3 A B C z0 z1 z2 (k + 1)) :=
  (((h.set (k * 3) (A k)).set (k * 3 + 1) (B k)).set (k * 3 + 2) (C k)).congr fun j _ => by
    unfold half3
    by_cases h2 : j = k * 3 + 2
    · have e1 : j / 3 = k := by omega
      have e2 : j % 3 = 2 := by omega
      rw [if_pos h2, e1, e2, if_pos (Nat.lt_succ_self k), if_neg (by decide), if_neg (by decide)]
    · rw [if_neg h2]
      by_cases h1 : j = k * 3 + 1
      · have e1 : j / 3 = k := by omega
        have e2 : j % 3 = 1 := by omega
        rw [if_pos h1, e1, e2, if_pos (Nat.lt_succ_self k), if_neg (by decide), if_pos rfl]
      · rw [if_neg h1]
        by_cases h0 : j = k * 3
        · have e1 : j / 3 = k := by omega
          have e2 : j % 3 = 0 := by omega
          rw [if_pos h0, e1, e2, if_pos (Nat.lt_succ_self k), if_pos rfl]
        · rw [if_neg h0]
          by_cases hlt : j / 3 < k
          · rw [if_pos hlt, if_pos (show j / 3 < k + 1 by omega)]
          · rw [if_neg hlt, if_neg (show ¬ j / 3 < k + 1 by omega)]

theorem half3_cells {w : World} {A B C : Nat → Value} {z0 z1 z2 : Value} {b n k : Nat} {t : TypeId} (h : w.rowIs b t (n * 3) (half3 A B C z0 z1 z2 k)) {i : Nat} (hi : i < n) (hk : i < k) :
    w.cell? ⟨b, i * 3, none⟩ = some (A i) ∧ w.cell? ⟨b, i * 3 + 1, none⟩ = some (B i) ∧ w.cell? ⟨b, i * 3 + 2, none⟩ = some (C i) := by
  refine ⟨?_, ?_, ?_⟩
  · rw [h.cell (by omega)]
    simp [half3, hk]
  · rw [h.cell (by omega)]
    have e1 : (i * 3 + 1) / 3 = i := by omega
    have e2 : (i * 3 + 1) % 3 = 1 := by omega
    simp [half3, e1, e2, hk]
  · rw [h.cell (by omega)]
    have e1 : (i * 3 + 2) / 3 = i := by omega
    have e2 : (i * 3 + 2) % 3 = 2 := by omega
    simp [half3, e1, e2, hk]

theorem reqs_of_row {w : World} {b n : Nat} {P : Nat → ByteArray} {N : Nat → Bool} {V : Nat → ByteArray} {z0 z1 z2 : Value} (h : w.rowIs b 27 (n * 3) (half3 (fun i => .string (P i)) (fun i => .bool (N i)) (fun i => .string (V i)) z0 z1 z2 n)) :
    ReqsAt w (some ⟨b, 0, none⟩) n P N V := fun _ =>
  ⟨b, 0, rfl, h.lt, fun i hi => by simpa using half3_cells h hi hi⟩

theorem reqs_below {w w' : World} {a : Option Addr} {n : Nat} {P : Nat → ByteArray} {N : Nat → Bool} {V : Nat → ByteArray} (h : ReqsAt w a n P N V) {B : Nat} (hb : Below B w w') (hB : w.heap.size ≤ B) : ReqsAt w' a n P N V := fun hn => by
  obtain ⟨b, off, h1, h2, h3⟩ := h hn
  have hlt := Nat.lt_of_lt_of_le h2 hB
  exact ⟨b, off, h1, Nat.lt_of_lt_of_le h2 hb.size, fun i hi => ⟨(hb.cell (p := ⟨b, _, none⟩) hlt).trans (h3 i hi).1, (hb.cell (p := ⟨b, _, none⟩) hlt).trans (h3 i hi).2.1, (hb.cell (p := ⟨b, _, none⟩) hlt).trans (h3 i hi).2.2⟩⟩

theorem clone_reqs (a : Option Addr) (n c : Nat) (P : Nat → ByteArray) (N : Nat → Bool) (V : Nat → ByteArray) (w : World) (hn : n ≤ 65536) (h : ReqsAt w a n P N V) :
    Calls Try.prog 8 #[.slice a n c] w fun e w' => ∃ a' c', e = .returned (.slice a' n c') ∧ n ≤ c' ∧ ReqsAt w' a' n P N V ∧ Below w.heap.size w w' := by
  have heq : ∀ (w : World) (a : Option Addr) (n c n' c' : Nat), (binOp .eql 23 (.slice a n c) (.slice none n' c')).run Try.prog w = .ok (.bool a.isNone) w := fun w a n c n' c' => Lib.run_eql_slice_nil w _ _ a n c n' c' Try.underlying23
  cases a with
  | none =>
    have h0 : n = 0 := by
      rcases Nat.eq_zero_or_pos n with h0 | h0
      · exact h0
      · obtain ⟨_, _, h1, _⟩ := h h0
        cases h1
    subst h0
    go_enter Try.func8, Try.ntmps8
    go_wp2
    go_ret
    exact ⟨none, 0, rfl, Nat.le_refl _, fun h => absurd h (by omega), Below.refl _ _⟩
  | some ad =>
    have H : Hid (ReqsAt w (some ad) n P N V) := h
    clear h
    have hmk := run_make3 23 27 (.string ⟨#[]⟩) (.bool false) (.string ⟨#[]⟩) 40 Try.underlying23 info27 n (by omega) (by omega)
    go_enter Try.func8, Try.ntmps8
    go_wp2
    go_loopw [4] (fun i wr => ∃ k : Nat, k ≤ n ∧ i = .int .i64 k ∧ wr.rowIs w.heap.size 27 (n * 3) (half3 (fun i => .string (P i)) (fun i => .bool (N i)) (fun i => .string (V i)) (.string ⟨#[]⟩) (.bool false) (.string ⟨#[]⟩) k) ∧ Below w.heap.size w wr) (fun i _ => n - (intOf i).toNat)
    case atStart => exact ⟨0, Nat.zero_le _, rfl, half3_made _ _ _ _ _ _ _ _ _, (Below.refl _ _).alloc (Nat.le_refl _) _⟩
    case round =>
      obtain ⟨k, hk, rfl, hrow, hb⟩ := hrel
      by_cases hlt : k < n
      · obtain ⟨b, off, e1, hbl, hc⟩ := H.out (by omega)
        cases e1
        have c1 := (hb.cell (p := ⟨b, off + k * 3, none⟩) hbl).trans (hc k hlt).1
        have c2 := (hb.cell (p := ⟨b, off + k * 3 + 1, none⟩) hbl).trans (hc k hlt).2.1
        have c3 := (hb.cell (p := ⟨b, off + k * 3 + 2, none⟩) hbl).trans (hc k hlt).2.2
        have d1 := hrow.cell (i := k * 3) (by omega)
        have d2 := hrow.cell (i := k * 3 + 1) (by omega)
        have d3 := hrow.cell (i := k * 3 + 2) (by omega)
        have f1 := hrow.frozen (k * 3)
        have f2 := hrow.frozen (k * 3 + 1)
        have f3 := hrow.frozen (k * 3 + 2)
        have HR := half3_step hrow
        have HR' : Hid ((((wr.setCell ⟨w.heap.size, k * 3, none⟩ (.string (P k))).setCell ⟨w.heap.size, k * 3 + 1, none⟩ (.bool (N k))).setCell ⟨w.heap.size, k * 3 + 2, none⟩ (.string (V k))).rowIs w.heap.size 27 (n * 3) (half3 (fun i => .string (P i)) (fun i => .bool (N i)) (fun i => .string (V i)) (.string ⟨#[]⟩) (.bool false) (.string ⟨#[]⟩) (k + 1))) := HR
        have HB : Hid (Below w.heap.size w wr) := hb
        clear hc hrow hb HR
        go_wp2
        go_roundw
        case rel => exact ⟨k + 1, by omega, by go_num, HR'.out, ((HB.out.setCell (Nat.le_refl _) _).setCell (Nat.le_refl _) _).setCell (Nat.le_refl _) _⟩
        case measure => simp [intOf]; omega
      · obtain rfl : k = n := by omega
        go_wp2
        go_ret
        exact ⟨some ⟨w.heap.size, 0, none⟩, k, rfl, Nat.le_refl _, reqs_of_row hrow, hb⟩
end Go.Proofs.Qxb6605882a
