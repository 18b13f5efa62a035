/-
  'fieldsMatch' (11).
-/
import Derived.Test.Qxb6605882aZZ
namespace Go.Proofs.Qxb6605882a
open Go.ChangeShapes Go.WideShapes Go.ChangeAt Go.RowKit Go.Maps

theorem info4 : (Try.prog.info? 4).map (fun i => (i.zero, i.size, i.bytes)) = some (some (.bool false), 1, 1) := by kernel_rfl

/-- a row of n bools of which the first k are N's -/
def halfB (N : Nat → Bool) (k : Nat) (i : Nat) : Value := if i < k then .bool (N i) else .bool false

theorem halfB_step {w : World} {b n k : Nat} {N : Nat → Bool} (h : w.rowIs b 4 n (halfB N k)) : (w.setCell ⟨b, k, none⟩ (.bool (N k))).rowIs b 4 n (halfB N (k + 1)) :=
  (h.set k _).congr fun i _ => by
    unfold halfB
    by_cases h1 : i = k
    · subst h1; simp
    · rw [if_neg h1]
      by_cases h2 : i < k
      · rw [if_pos h2, if_pos (by omega)]
      · rw [if_neg h2, if_neg (by omega)]

theorem bools_of_row {w : World} {b n : Nat} {N : Nat → Bool} (h : w.rowIs b 4 n (halfB N n)) : BoolsAt w (some ⟨b, 0, none⟩) n N := fun _ =>
  ⟨b, 0, rfl, h.lt, fun i hi => by rw [Nat.zero_add, h.cell hi]; simp [halfB, hi]⟩

/-- the three rows that 'fieldsMatch' fills, after k rounds -/
def Rows3 (B n : Nat) (P : Nat → ByteArray) (N : Nat → Bool) (V : Nat → ByteArray) (k : Nat) (wr : World) : Prop :=
  wr.rowIs B 9 n (half P k) ∧ wr.rowIs (B + 1) 4 n (halfB N k) ∧ wr.rowIs (B + 2) 9 n (half V k)

theorem rows3_step {B n : Nat} {P : Nat → ByteArray} {N : Nat → Bool} {V : Nat → ByteArray} {k : Nat} {wr : World} (h : Rows3 B n P N V k wr) :
    Rows3 B n P N V (k + 1) (((wr.setCell ⟨B, k, none⟩ (.string (P k))).setCell ⟨B + 1, k, none⟩ (.bool (N k))).setCell ⟨B + 2, k, none⟩ (.string (V k))) := by
  obtain ⟨h1, h2, h3⟩ := h
  refine ⟨?_, ?_, ?_⟩
  · exact ((half_step h1).setOther (by simp) _).setOther (by simp) _
  · exact (halfB_step (h2.setOther (by simp) _)).setOther (by simp) _
  · exact half_step ((h3.setOther (by simp) _).setOther (by simp) _)

theorem rows3_made (w : World) (n : Nat) (P : Nat → ByteArray) (N : Nat → Bool) (V : Nat → ByteArray) :
    Rows3 w.heap.size n P N V 0 (((w.alloc (.cells (madeCells #[.string ⟨#[]⟩] n) 9)).alloc (.cells (madeCells #[.bool false] n) 4)).alloc (.cells (madeCells #[.string ⟨#[]⟩] n) 9)) := by
  have h1 := World.rowIs_made w (.string ⟨#[]⟩) n 9
  have h2 := World.rowIs_made (w.alloc (.cells (madeCells #[.string ⟨#[]⟩] n) 9)) (.bool false) n 4
  have h3 := World.rowIs_made ((w.alloc (.cells (madeCells #[.string ⟨#[]⟩] n) 9)).alloc (.cells (madeCells #[.bool false] n) 4)) (.string ⟨#[]⟩) n 9
  simp only [World.size_alloc] at h2 h3
  exact ⟨((h1.alloc _).alloc _).congr fun i _ => by simp [half], (h2.alloc _).congr fun i _ => by simp [halfB], h3.congr fun i _ => by simp [half]⟩

theorem fm_any (a : Option Addr) (n c B : Nat) (P : Nat → ByteArray) (N : Nat → Bool) (V : Nat → ByteArray) (f : ByteArray → ByteArray) (w : World) (hn : n ≤ 65536)
    (h : ReqsAt w a n P N V) (hm : MapAt w B f) (hs : ∀ i, i < n → (P i).size ≤ maxLen) :
    Calls Try.prog 11 #[.slice a n c, .map (some B)] w fun e w' => e = .returned (.bool (allMet f P N V n)) ∧ Below w.heap.size w w' := by
  have H : Hid (ReqsAt w a n P N V) := h
  have HM : Hid (MapAt w B f) := hm
  have HS : Hid (∀ i, i < n → (P i).size ≤ maxLen) := hs
  clear h hm hs
  have hmk := run_make_row' (P := Try.prog) 24 9 (.string ⟨#[]⟩) 16 Try.underlying24 info9 rfl .i64 .i64 n (by omega) (by omega)
  have hmk2 := run_make_row' (P := Try.prog) 35 4 (.bool false) 1 Try.underlying35 info4 rfl .i64 .i64 n (by omega) (by omega)
  go_enter Try.func11, Try.ntmps11
  go_wp2
  go_loopw [8] (fun i wr => ∃ k : Nat, k ≤ n ∧ i = .int .i64 k ∧ Rows3 w.heap.size n P N V k wr ∧ Below w.heap.size w wr) (fun i _ => n - (intOf i).toNat)
  case atStart => exact ⟨0, Nat.zero_le _, rfl, rows3_made w n P N V, (((Below.refl _ _).alloc (Nat.le_refl _) _).alloc (by simp) _).alloc (by simp; omega) _⟩
  case round =>
    obtain ⟨k, hk, rfl, hrow, hb⟩ := hrel
    by_cases hlt : k < n
    · obtain ⟨b, off, e1, hbl, hc⟩ := H.out (by omega)
      subst e1
      have c1 := (hb.cell (p := ⟨b, off + k * 3, none⟩) hbl).trans (hc k hlt).1
      have c2 := (hb.cell (p := ⟨b, off + k * 3 + 1, none⟩) hbl).trans (hc k hlt).2.1
      have c3 := (hb.cell (p := ⟨b, off + k * 3 + 2, none⟩) hbl).trans (hc k hlt).2.2
      have d1 := hrow.1.cell hlt
      have d2 := hrow.2.1.cell hlt
      have d3 := hrow.2.2.cell hlt
      have f1 := hrow.1.frozen k
      have f2 := hrow.2.1.frozen k
      have f3 := hrow.2.2.frozen k
      have n1 : ¬ b = w.heap.size := by omega
      have n2 : ¬ b = w.heap.size + 1 := by omega
      have n3 : ¬ b = w.heap.size + 2 := by omega
      have HR : Hid (Rows3 w.heap.size n P N V k wr) := hrow
      have HB : Hid (Below w.heap.size w wr) := hb
      clear hc hrow hb hbl
      go_wp2
      go_roundw
      case rel => exact ⟨k + 1, by omega, by go_num, rows3_step HR.out, ((HB.out.setCell (Nat.le_refl _) _).setCell (Nat.le_succ _) _).setCell (Nat.le_add_right _ 2) _⟩
      case measure => simp [intOf]; omega
    · obtain rfl : k = n := by omega
      have HP : Hid (StrsAt wr (some ⟨w.heap.size, 0, none⟩) k P) := strs_of_row hrow.1
      have HN : Hid (BoolsAt wr (some ⟨w.heap.size + 1, 0, none⟩) k N) := bools_of_row hrow.2.1
      have HV : Hid (StrsAt wr (some ⟨w.heap.size + 2, 0, none⟩) k V) := strs_of_row hrow.2.2
      have HM2 : Hid (MapAt wr B f) := map_below HM.out hb (Nat.le_refl _)
      have hsz := hb.size
      have HB : Hid (Below w.heap.size w wr) := hb
      clear hrow hb
      go_wp2_with fail
      refine (zz_any _ _ _ k _ _ _ B P N V f _ hn HP.out HN.out HV.out HM2.out HS.out).mono ?_
      rintro e w1 ⟨rfl, hb1⟩
      go_wp2_with fail
      go_ret
      exact ⟨rfl, HB.out.trans (hb1.mono hsz)⟩
end Go.Proofs.Qxb6605882a
