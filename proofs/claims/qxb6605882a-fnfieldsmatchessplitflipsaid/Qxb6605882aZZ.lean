/-
  'ZZFieldsMatches' (15).
-/
import Derived.Test.Qxb6605882aMatch
namespace Go.Proofs.Qxb6605882a
open Go.ChangeShapes Go.WideShapes Go.ChangeAt Go.RowKit Go.Maps

/-- behind a lie n bools -/
def BoolsAt (w : World) (a : Option Addr) (n : Nat) (N : Nat → Bool) : Prop :=
  0 < n → ∃ b off, a = some ⟨b, off, none⟩ ∧ b < w.heap.size ∧ ∀ i, i < n → w.cell? ⟨b, off + i, none⟩ = some (.bool (N i))

theorem info40 : (Try.prog.info? 40).map (fun i => (i.zero, i.size, i.bytes)) = some (some (.agg #[.string ⟨#[]⟩, .string ⟨#[]⟩, .string ⟨#[]⟩]), 3, 48) := by kernel_rfl

def selRow (P : Nat → ByteArray) (N : Nat → Bool) (V : Nat → ByteArray) (k : Nat) : Nat → Value :=
  half3 (fun i => .string (P i)) (fun i => .string (opOf (N i))) (fun i => .string (V i)) (.string ⟨#[]⟩) (.string ⟨#[]⟩) (.string ⟨#[]⟩) k

theorem sel_false {w : World} {P : Nat → ByteArray} {N : Nat → Bool} {V : Nat → ByteArray} {b n k : Nat} (hN : N k = false) (h : w.rowIs b 40 n (selRow P N V k)) :
    ((((w.setCell ⟨b, k * 3, none⟩ (.string (P k))).setCell ⟨b, k * 3 + 1, none⟩ (.string ⟨#[61]⟩)).setCell ⟨b, k * 3 + 2, none⟩ (.string (V k))).drew).rowIs b 40 n (selRow P N V (k + 1)) := by
  have := half3_step h
  rw [hN] at this
  exact this.drew

theorem sel_true {w : World} {P : Nat → ByteArray} {N : Nat → Bool} {V : Nat → ByteArray} {b n k : Nat} (hN : N k = true) (h : w.rowIs b 40 n (selRow P N V k)) :
    (((((w.setCell ⟨b, k * 3, none⟩ (.string (P k))).setCell ⟨b, k * 3 + 1, none⟩ (.string ⟨#[61]⟩)).setCell ⟨b, k * 3 + 2, none⟩ (.string (V k))).setCell ⟨b, k * 3 + 1, none⟩ (.string ⟨#[33, 61]⟩)).drew).rowIs b 40 n (selRow P N V (k + 1)) := by
  have h1 : w.rowIs b 40 n (half3 (fun i => .string (P i)) (fun i => if i = k then .string ⟨#[61]⟩ else .string (opOf (N i))) (fun i => .string (V i)) (.string ⟨#[]⟩) (.string ⟨#[]⟩) (.string ⟨#[]⟩) k) :=
    h.congr fun j _ => by
      unfold selRow half3
      by_cases hj : j / 3 < k
      · rw [if_pos hj, if_pos hj]
        dsimp only
        rw [if_neg (show ¬ j / 3 = k by omega)]
      · rw [if_neg hj, if_neg hj]
  have h2 := half3_step h1
  simp only [if_true] at h2
  refine ((h2.set (k * 3 + 1) (.string ⟨#[33, 61]⟩)).congr fun j _ => ?_).drew
  unfold selRow half3
  by_cases h1 : j = k * 3 + 1
  · have e1 : j / 3 = k := by omega
    have e2 : j % 3 = 1 := by omega
    rw [if_pos h1, e1, e2, if_pos (Nat.lt_succ_self k), if_neg (by decide), if_pos rfl]
    dsimp only
    rw [hN]
    rfl
  · rw [if_neg h1]
    by_cases hj : j / 3 < k + 1
    · rw [if_pos hj, if_pos hj]
      by_cases h0 : j % 3 = 0
      · rw [if_pos h0, if_pos h0]
      · rw [if_neg h0, if_neg h0]
        by_cases h3 : j % 3 = 1
        · rw [if_pos h3, if_pos h3]
          dsimp only
          rw [if_neg (show ¬ j / 3 = k by omega)]
        · rw [if_neg h3, if_neg h3]
    · rw [if_neg hj, if_neg hj]

theorem freqs_of_row {w : World} {b n : Nat} {P : Nat → ByteArray} {N : Nat → Bool} {V : Nat → ByteArray} (h : w.rowIs b 40 (n * 3) (selRow P N V n)) : FReqsAt w (some ⟨b, 0, none⟩) n P N V := fun _ =>
  ⟨b, 0, rfl, h.lt, fun i hi => by simpa using half3_cells h hi hi⟩

theorem zz_any (ap an av : Option Addr) (n cp cn cv B : Nat) (P : Nat → ByteArray) (N : Nat → Bool) (V : Nat → ByteArray) (f : ByteArray → ByteArray) (w : World) (hn : n ≤ 65536)
    (hP : StrsAt w ap n P) (hN : BoolsAt w an n N) (hV : StrsAt w av n V) (hm : MapAt w B f) (hs : ∀ i, i < n → (P i).size ≤ maxLen) :
    Calls Try.prog 15 #[.slice ap n cp, .slice an n cn, .slice av n cv, .map (some B)] w fun e w' => e = .returned (.bool (allMet f P N V n)) ∧ Below w.heap.size w w' := by
  have HP : Hid (StrsAt w ap n P) := hP
  have HN : Hid (BoolsAt w an n N) := hN
  have HV : Hid (StrsAt w av n V) := hV
  have HM : Hid (MapAt w B f) := hm
  have HS : Hid (∀ i, i < n → (P i).size ≤ maxLen) := hs
  clear hP hN hV hm hs
  have hmk := run_make3 37 40 (.string ⟨#[]⟩) (.string ⟨#[]⟩) (.string ⟨#[]⟩) 48 Try.underlying37 info40 n (by omega) (by omega)
  have hmf : ∀ (fn : Fn) (first cap : Array Value) (w : World), (Instr.makeFunc fn first cap).run Try.prog w = .ok (.func fn first cap) w := fun _ _ _ _ => rfl
  go_enter Try.func15, Try.ntmps15
  go_wp2
  go_loopw [16] (fun i wr => ∃ k : Nat, k ≤ n ∧ i = .int .i64 k ∧ wr.rowIs (w.heap.size + 1) 40 (n * 3) (selRow P N V k) ∧ Below (w.heap.size + 1) (w.alloc (.cells #[.map (some B)] 32)) wr) (fun i _ => n - (intOf i).toNat)
  case atStart =>
    have h1 := half3_made (w.alloc (.cells #[.map (some B)] 32)) (fun i => .string (P i)) (fun i => .string (opOf (N i))) (fun i => .string (V i)) (.string ⟨#[]⟩) (.string ⟨#[]⟩) (.string ⟨#[]⟩) n 40
    rw [World.size_alloc] at h1
    exact ⟨0, Nat.zero_le _, rfl, h1, (Below.refl _ _).alloc (by simp) _⟩
  case round =>
    obtain ⟨k, hk, rfl, hrow, hb⟩ := hrel
    by_cases hlt : k < n
    · obtain ⟨bp, op, e1, hbp, hcp⟩ := HP.out (by omega)
      obtain ⟨bn, on, e2, hbn, hcn⟩ := HN.out (by omega)
      obtain ⟨bv, ov, e3, hbv, hcv⟩ := HV.out (by omega)
      subst e1 e2 e3
      have hb0 : Below w.heap.size w wr := ((Below.refl _ _).alloc (Nat.le_refl _) _).trans (hb.mono (Nat.le_succ _))
      have c1 := (hb0.cell (p := ⟨bp, op + k, none⟩) hbp).trans (hcp k hlt)
      have c2 := (hb0.cell (p := ⟨bn, on + k, none⟩) hbn).trans (hcn k hlt)
      have c3 := (hb0.cell (p := ⟨bv, ov + k, none⟩) hbv).trans (hcv k hlt)
      have d1 := hrow.cell (i := k * 3) (by omega)
      have d2 := hrow.cell (i := k * 3 + 1) (by omega)
      have d3 := hrow.cell (i := k * 3 + 2) (by omega)
      have f1 := hrow.frozen (k * 3)
      have f2 := hrow.frozen (k * 3 + 1)
      have f3 := hrow.frozen (k * 3 + 2)
      have hne : ¬ bn = w.heap.size + 1 := by omega
      have hi : (k : Int) < (n : Int) := by omega
      have HR : Hid (wr.rowIs (w.heap.size + 1) 40 (n * 3) (selRow P N V k)) := hrow
      have HB : Hid (Below (w.heap.size + 1) (w.alloc (.cells #[.map (some B)] 32)) wr) := hb
      clear hcp hcn hcv hrow hb hb0 hbp hbn hbv
      cases hN : N k with
      | true =>
        rw [hN] at c2
        have HN2 : Hid (N k = true) := hN
        clear hN
        go_wp2
        go_region
        go_wp2
        go_roundw
        case rel => exact ⟨k + 1, by omega, by go_num, sel_true HN2.out HR.out, ((((HB.out.setCell (Nat.le_refl _) _).setCell (Nat.le_refl _) _).setCell (Nat.le_refl _) _).setCell (Nat.le_refl _) _).drew⟩
        case measure => simp [intOf]; omega
      | false =>
        rw [hN] at c2
        have HN2 : Hid (N k = false) := hN
        clear hN
        go_wp2
        go_region
        go_wp2
        go_roundw
        case rel => exact ⟨k + 1, by omega, by go_num, sel_false HN2.out HR.out, (((HB.out.setCell (Nat.le_refl _) _).setCell (Nat.le_refl _) _).setCell (Nat.le_refl _) _).drew⟩
        case measure => simp [intOf]; omega
    · obtain rfl : k = n := by omega
      have hb0 : Below w.heap.size w wr := ((Below.refl _ _).alloc (Nat.le_refl _) _).trans (hb.mono (Nat.le_succ _))
      have HF : Hid (FReqsAt wr (some ⟨w.heap.size + 1, 0, none⟩) k P N V) := freqs_of_row hrow
      have HX : Hid (wr.cell? ⟨w.heap.size, 0, none⟩ = some (.map (some B))) := (hb.cell (p := ⟨w.heap.size, 0, none⟩) (Nat.lt_succ_self _)).trans (by simp)
      have hlt : w.heap.size < wr.heap.size := by have := hb.size; rw [World.size_alloc] at this; omega
      have HM2 : Hid (MapAt wr B f) := map_below HM.out hb0 (Nat.le_refl _)
      have HB0 : Hid (Below w.heap.size w wr) := hb0
      clear hrow hb hb0
      go_wp2_with fail
      refine (matches_any _ k _ _ B P N V f _ hn HF.out HX.out hlt HM2.out HS.out).mono ?_
      rintro e w1 ⟨rfl, hb1⟩
      go_wp2_with fail
      go_ret
      exact ⟨rfl, HB0.out.trans (hb1.mono (Nat.le_of_lt hlt))⟩
end Go.Proofs.Qxb6605882a
