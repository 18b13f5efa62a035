/-
  What 'FnFieldsMatchesSplitFlip' wants besides: a copy whose shape is told, slices of it, the state between her calls, plain laws.
-/
import Derived.Test.Qxb6605882aFm
import Derived.Test.Qxb6605882aBytes
namespace Go.Proofs.Qxb6605882a
open Go.ChangeShapes Go.WideShapes Go.ChangeAt Go.RowKit Go.Maps

/-- nil, or the whole of a new row -/
def Shape (a : Option Addr) (n c : Nat) : Prop := (a = none ∧ n = 0 ∧ c = 0) ∨ ∃ b, a = some ⟨b, 0, none⟩ ∧ c = n

theorem Shape.le {a : Option Addr} {n c : Nat} (h : Shape a n c) : n ≤ c := by
  rcases h with ⟨_, h1, h2⟩ | ⟨_, _, h⟩ <;> omega

theorem clone_reqs2 (a : Option Addr) (n c : Nat) (P : Nat → ByteArray) (N : Nat → Bool) (V : Nat → ByteArray) (w : World) (hn : n ≤ 65536) (h : ReqsAt w a n P N V) :
    Calls Try.prog 8 #[.slice a n c] w fun e w' => ∃ a' c', e = .returned (.slice a' n c') ∧ Shape a' n c' ∧ ReqsAt w' a' n P N V ∧ Below w.heap.size w w' := by
  have heq : ∀ (w : World) (a : Option Addr) (n c n' c' : Nat), (binOp .eql 23 (.slice a n c) (.slice none n' c')).run Try.prog w = .ok (.bool a.isNone) w := fun w a n c n' c' => Lib.run_eql_slice_nil w _ _ a n c n' c' Try.underlying23
  cases a with
  | none =>
    have h0 : n = 0 := by
      rcases Nat.eq_zero_or_pos n with h0 | h0
      · exact h0
      · obtain ⟨_, _, h1, _⟩ := h h0
        cases h1
    subst h0
    go_enter Try.func8, Try.ntmps8
    go_wp2
    go_ret
    exact ⟨none, 0, rfl, .inl ⟨rfl, rfl, rfl⟩, fun h => absurd h (by omega), Below.refl _ _⟩
  | some ad =>
    have H : Hid (ReqsAt w (some ad) n P N V) := h
    clear h
    have hmk := run_make3 23 27 (.string ⟨#[]⟩) (.bool false) (.string ⟨#[]⟩) 40 Try.underlying23 info27 n (by omega) (by omega)
    go_enter Try.func8, Try.ntmps8
    go_wp2
    go_loopw [4] (fun i wr => ∃ k : Nat, k ≤ n ∧ i = .int .i64 k ∧ wr.rowIs w.heap.size 27 (n * 3) (half3 (fun i => .string (P i)) (fun i => .bool (N i)) (fun i => .string (V i)) (.string ⟨#[]⟩) (.bool false) (.string ⟨#[]⟩) k) ∧ Below w.heap.size w wr) (fun i _ => n - (intOf i).toNat)
    case atStart => exact ⟨0, Nat.zero_le _, rfl, half3_made _ _ _ _ _ _ _ _ _, (Below.refl _ _).alloc (Nat.le_refl _) _⟩
    case round =>
      obtain ⟨k, hk, rfl, hrow, hb⟩ := hrel
      by_cases hlt : k < n
      · obtain ⟨b, off, e1, hbl, hc⟩ := H.out (by omega)
        cases e1
        have c1 := (hb.cell (p := ⟨b, off + k * 3, none⟩) hbl).trans (hc k hlt).1
        have c2 := (hb.cell (p := ⟨b, off + k * 3 + 1, none⟩) hbl).trans (hc k hlt).2.1
        have c3 := (hb.cell (p := ⟨b, off + k * 3 + 2, none⟩) hbl).trans (hc k hlt).2.2
        have d1 := hrow.cell (i := k * 3) (by omega)
        have d2 := hrow.cell (i := k * 3 + 1) (by omega)
        have d3 := hrow.cell (i := k * 3 + 2) (by omega)
        have f1 := hrow.frozen (k * 3)
        have f2 := hrow.frozen (k * 3 + 1)
        have f3 := hrow.frozen (k * 3 + 2)
        have HR := half3_step hrow
        have HR' : Hid ((((wr.setCell ⟨w.heap.size, k * 3, none⟩ (.string (P k))).setCell ⟨w.heap.size, k * 3 + 1, none⟩ (.bool (N k))).setCell ⟨w.heap.size, k * 3 + 2, none⟩ (.string (V k))).rowIs w.heap.size 27 (n * 3) (half3 (fun i => .string (P i)) (fun i => .bool (N i)) (fun i => .string (V i)) (.string ⟨#[]⟩) (.bool false) (.string ⟨#[]⟩) (k + 1))) := HR
        have HB : Hid (Below w.heap.size w wr) := hb
        clear hc hrow hb HR
        go_wp2
        go_roundw
        case rel => exact ⟨k + 1, by omega, by go_num, HR'.out, ((HB.out.setCell (Nat.le_refl _) _).setCell (Nat.le_refl _) _).setCell (Nat.le_refl _) _⟩
        case measure => simp [intOf]; omega
      · obtain rfl : k = n := by omega
        go_wp2
        go_ret
        exact ⟨some ⟨w.heap.size, 0, none⟩, k, rfl, .inr ⟨_, rfl, rfl⟩, reqs_of_row hrow, hb⟩

/-! ### slices of the copy -/
theorem elem23 : Try.prog.underlying 23 = some (.slice (Try.prog.elem 23)) := by kernel_rfl
theorem size27 (w : World) : (sizeOf (Try.prog.elem 23)).run Try.prog w = .ok 3 w := by kernel_rfl

theorem add_zero' (a : Addr) : a.add 0 = a := by simp [Addr.add]

theorem slice_head (a : Option Addr) (n c k : Nat) (hk : k ≤ c) (w : World) :
    (Instr.slice 23 (.slice a n c) none (some (.int .i64 (k : Int))) none).run Try.prog w = .ok (.slice a k c) w := by
  rw [run_slice_h w 23 a n c elem23 .i64 (k : Int) (by omega) (by omega), size27]
  simp only [Result.andThen, sliced, Int.toNat_natCast, Nat.sub_zero, Nat.zero_mul]
  congr 2
  split
  · rfl
  · cases a <;> simp [add_zero']

/-- where the tail from k on begins -/
def tailA (a : Option Addr) (c k : Nat) : Option Addr := if c = k then a else a.map (·.add (k * 3))

theorem slice_tail (a : Option Addr) (n c k : Nat) (hk : k ≤ n) (w : World) :
    (Instr.slice 23 (.slice a n c) (some (.int .i64 (k : Int))) none none).run Try.prog w = .ok (.slice (tailA a c k) (n - k) (c - k)) w := by
  rw [run_slice_l w 23 a n c elem23 .i64 (k : Int) (by omega) (by omega), size27]
  simp only [Result.andThen, sliced, Int.toNat_natCast, tailA]

theorem reqs_head {w : World} {a : Option Addr} {n k : Nat} {P : Nat → ByteArray} {N : Nat → Bool} {V : Nat → ByteArray} (h : ReqsAt w a n P N V) (hk : k ≤ n) : ReqsAt w a k P N V := fun h0 => by
  obtain ⟨b, off, h1, h2, h3⟩ := h (by omega)
  exact ⟨b, off, h1, h2, fun i hi => h3 i (by omega)⟩

theorem reqs_tail {w : World} {a : Option Addr} {n c k : Nat} {P : Nat → ByteArray} {N : Nat → Bool} {V : Nat → ByteArray} (h : ReqsAt w a n P N V) (hk : k ≤ n) (hc : n ≤ c) :
    ReqsAt w (tailA a c k) (n - k) (fun i => P (k + i)) (fun i => N (k + i)) (fun i => V (k + i)) := fun h0 => by
  obtain ⟨b, off, rfl, h2, h3⟩ := h (by omega)
  refine ⟨b, off + k * 3, ?_, h2, fun i hi => ?_⟩
  · unfold tailA
    rw [if_neg (by omega), Option.map_some, add_plain]
  · have := h3 (k + i) (by omega)
    rw [show off + (k + i) * 3 = off + k * 3 + i * 3 by omega] at this
    exact this

theorem reqs_one (w : World) (p v : ByteArray) (b : Bool) : ReqsAt (w.alloc (.cells #[.string p, .bool b, .string v] 27)) (some ⟨w.heap.size, 0, none⟩) 1 (fun _ => p) (fun _ => b) (fun _ => v) := fun _ =>
  ⟨w.heap.size, 0, rfl, by simp, fun i hi => by
    obtain rfl : i = 0 := by omega
    simp⟩

/-! ### the state between her calls -/
structure St (w0 w : World) (a1 : Option Addr) (nr : Nat) (P : Nat → ByteArray) (N : Nat → Bool) (V : Nat → ByteArray) (a2 a3 : Option Addr) (nk : Nat) (K L : Nat → ByteArray) (B : Nat) : Prop where
  reqs : ReqsAt w a1 nr P N V
  keys : StrsAt w a2 nk K
  vals : StrsAt w a3 nk L
  map : MapAt w B (fun p => look K L p nk)
  below : Below w0.heap.size w0 w

theorem St.next {w0 w w' : World} {a1 : Option Addr} {nr : Nat} {P : Nat → ByteArray} {N : Nat → Bool} {V : Nat → ByteArray} {a2 a3 : Option Addr} {nk : Nat} {K L : Nat → ByteArray} {B : Nat}
    (h : St w0 w a1 nr P N V a2 a3 nk K L B) (hb : Below w.heap.size w w') : St w0 w' a1 nr P N V a2 a3 nk K L B :=
  ⟨reqs_below h.reqs hb (Nat.le_refl _), strs_below h.keys hb (Nat.le_refl _), strs_below h.vals hb (Nat.le_refl _), map_below h.map hb (Nat.le_refl _), h.below.trans (hb.mono h.below.size)⟩

/-! ### plain laws -/
section
variable {f : ByteArray → ByteArray} {P : Nat → ByteArray} {N : Nat → Bool} {V : Nat → ByteArray}

theorem allMet_iff {n : Nat} : allMet f P N V n = true ↔ ∀ i, i < n → met f P N V i = true := by
  unfold allMet
  rw [List.all_eq_true]
  exact ⟨fun h i hi => h i (List.mem_range.2 hi), fun h i hi => h i (List.mem_range.1 hi)⟩

theorem allMet_split {n k : Nat} (hk : k ≤ n) : allMet f P N V n = (allMet f P N V k && allMet f (fun i => P (k + i)) (fun i => N (k + i)) (fun i => V (k + i)) (n - k)) := by
  rw [Bool.eq_iff_iff, Bool.and_eq_true, allMet_iff, allMet_iff, allMet_iff]
  constructor
  · intro h
    exact ⟨fun i hi => h i (by omega), fun i hi => h (k + i) (by omega)⟩
  · rintro ⟨h1, h2⟩ i hi
    by_cases hik : i < k
    · exact h1 i hik
    · have := h2 (i - k) (by omega)
      unfold met at this ⊢
      dsimp only at this
      rwa [show k + (i - k) = i by omega] at this

theorem allMet_rev {n : Nat} : allMet f (fun i => P (n - 1 - i)) (fun i => N (n - 1 - i)) (fun i => V (n - 1 - i)) n = allMet f P N V n := by
  rw [Bool.eq_iff_iff, allMet_iff, allMet_iff]
  constructor
  · intro h i hi
    have := h (n - 1 - i) (by omega)
    unfold met at this ⊢
    dsimp only at this
    rwa [show n - 1 - (n - 1 - i) = i by omega] at this
  · intro h i hi
    exact h (n - 1 - i) (by omega)

theorem allMet_zero : allMet f P N V 0 = true := rfl
theorem allMet_one : allMet f P N V 1 = met f P N V 0 := by simp [allMet, List.range_succ]

/-- one requirement -/
def met1 (f : ByteArray → ByteArray) (p : ByteArray) (b : Bool) (v : ByteArray) : Bool := ((f p).toList == v.toList) != b

theorem met1_flip (p : ByteArray) (b : Bool) (v : ByteArray) : (met1 f p b v == met1 f p (!b) v) = false := by
  unfold met1
  cases ((f p).toList == v.toList) <;> cases b <;> rfl

theorem met1_own (p : ByteArray) : met1 f p false (f p) = true := by simp [met1]
end

theorem below_alloc' {B : Nat} {a w : World} (h : Below B a w) (hB : B ≤ a.heap.size) (o : Obj) : Below B a (w.alloc o) := h.alloc (Nat.le_trans hB h.size) o

/-- 'fieldsMatch' of one requirement that lies in a row of its own, somewhere behind w13 -/
theorem fm_step {w13 W : World} {B : Nat} {f : ByteArray → ByteArray} (hM : MapAt w13 B f) (blk : Nat) (p : ByteArray) (b : Bool) (v : ByteArray) (hp : p.size ≤ maxLen) (hB : Below w13.heap.size w13 W)
    (c1 : W.cell? ⟨blk, 0, none⟩ = some (.string p)) (c2 : W.cell? ⟨blk, 1, none⟩ = some (.bool b)) (c3 : W.cell? ⟨blk, 2, none⟩ = some (.string v)) (hl : blk < W.heap.size) :
    Calls Try.prog 11 #[.slice (some ⟨blk, 0, none⟩) 1 1, .map (some B)] W fun e w' => e = .returned (.bool (met1 f p b v)) ∧ Below w13.heap.size w13 w' ∧ (∀ b o, b < W.heap.size → w'.cell? ⟨b, o, none⟩ = W.cell? ⟨b, o, none⟩) ∧ W.heap.size ≤ w'.heap.size := by
  have hr : ReqsAt W (some ⟨blk, 0, none⟩) 1 (fun _ => p) (fun _ => b) (fun _ => v) := fun _ =>
    ⟨blk, 0, rfl, hl, fun i hi => by
      obtain rfl : i = 0 := by omega
      simpa using ⟨c1, c2, c3⟩⟩
  refine (fm_any (some ⟨blk, 0, none⟩) 1 1 B (fun _ => p) (fun _ => b) (fun _ => v) f W (by omega) hr (map_below hM hB (Nat.le_refl _)) (fun _ _ => hp)).mono ?_
  rintro e w' ⟨rfl, hb⟩
  refine ⟨by rw [allMet_one]; rfl, hB.trans (hb.mono hB.size), fun b o h => hb.cell (p := ⟨b, o, none⟩) h, hb.size⟩
end Go.Proofs.Qxb6605882a
