/-
  The closure (18) and "Matches" (17).
-/
import Derived.Test.Qxb6605882aObj
import Derived.WalkSmall
namespace Go.Proofs.Qxb6605882a
open Go.ChangeShapes Go.WideShapes Go.ChangeAt Go.RowKit Go.Maps

/-- the closure of 'ZZFieldsMatches': the object's field at a path -/
theorem field_any (p : ByteArray) (bx B : Nat) (f : ByteArray → ByteArray) (w : World) (hx : w.cell? ⟨bx, 0, none⟩ = some (.map (some B))) (hm : MapAt w B f) (hp : p.size ≤ maxLen) :
    Calls Try.prog 18 #[.string p, .pointer (some ⟨bx, 0, none⟩)] w fun e w' => e = .returned (.string (f p)) ∧ w' = w := by
  have hl := hm.2 w rfl p hp
  clear hm
  go_enter Try.func18, Try.ntmps18
  go_wp2
  go_ret
  exact ⟨rfl, rfl⟩

/-- the operator, as the selector writes it -/
def opOf : Bool → ByteArray
  | true => ⟨#[33, 61]⟩
  | false => ⟨#[61]⟩

/-- behind a lie n requirements of the selector's own: path, operator, value -/
def FReqsAt (w : World) (a : Option Addr) (n : Nat) (P : Nat → ByteArray) (N : Nat → Bool) (V : Nat → ByteArray) : Prop :=
  0 < n → ∃ b off, a = some ⟨b, off, none⟩ ∧ b < w.heap.size ∧ ∀ i, i < n → w.cell? ⟨b, off + i * 3, none⟩ = some (.string (P i)) ∧ w.cell? ⟨b, off + i * 3 + 1, none⟩ = some (.string (opOf (N i))) ∧ w.cell? ⟨b, off + i * 3 + 2, none⟩ = some (.string (V i))

/-- requirement i is met -/
def met (f : ByteArray → ByteArray) (P : Nat → ByteArray) (N : Nat → Bool) (V : Nat → ByteArray) (i : Nat) : Bool := ((f (P i)).toList == (V i).toList) != N i

/-- all of the first n are -/
def allMet (f : ByteArray → ByteArray) (P : Nat → ByteArray) (N : Nat → Bool) (V : Nat → ByteArray) (n : Nat) : Bool := (List.range n).all (met f P N V)

theorem allMet_bad {f : ByteArray → ByteArray} {P : Nat → ByteArray} {N : Nat → Bool} {V : Nat → ByteArray} {n k : Nat} (hk : k < n) (h : met f P N V k = false) : allMet f P N V n = false := by
  rw [Bool.eq_false_iff]
  intro ha
  have := List.all_eq_true.1 ha k (List.mem_range.2 hk)
  rw [h] at this
  cases this

theorem allMet_step {f : ByteArray → ByteArray} {P : Nat → ByteArray} {N : Nat → Bool} {V : Nat → ByteArray} {k : Nat} (h : allMet f P N V k = true) (hk : met f P N V k = true) : allMet f P N V (k + 1) = true := by
  unfold allMet at *
  rw [List.range_succ, List.all_append, h]
  simp [hk]

theorem matches_any (a : Option Addr) (n c bx B : Nat) (P : Nat → ByteArray) (N : Nat → Bool) (V : Nat → ByteArray) (f : ByteArray → ByteArray) (w : World) (hn : n ≤ 65536)
    (h : FReqsAt w a n P N V) (hx : w.cell? ⟨bx, 0, none⟩ = some (.map (some B))) (hbx : bx < w.heap.size) (hm : MapAt w B f) (hp : ∀ i, i < n → (P i).size ≤ maxLen) :
    Calls Try.prog 17 #[.agg #[.slice a n c], .func (.func 18) #[] #[.pointer (some ⟨bx, 0, none⟩)]] w fun e w' => e = .returned (.bool (allMet f P N V n)) ∧ Below w.heap.size w w' := by
  have H : Hid (FReqsAt w a n P N V) := h
  have HM : Hid (MapAt w B f) := hm
  have HX : Hid (w.cell? ⟨bx, 0, none⟩ = some (.map (some B))) := hx
  have HP : Hid (∀ i, i < n → (P i).size ≤ maxLen) := hp
  clear h hx hm hp
  go_enter Try.func17, Try.ntmps17
  go_wp2
  go_loopw [10] (fun i wr => ∃ k : Nat, k ≤ n ∧ i = .int .i64 k ∧ allMet f P N V k = true ∧ Below w.heap.size w wr) (fun i _ => n - (intOf i).toNat)
  case atStart => exact ⟨0, Nat.zero_le _, rfl, rfl, (Below.refl _ _).alloc (Nat.le_refl _) _⟩
  case round =>
    obtain ⟨k, hk, rfl, hall, hb⟩ := hrel
    by_cases hlt : k < n
    · obtain ⟨b, off, e1, hbl, hc⟩ := H.out (by omega)
      subst e1
      have c1 := (hb.cell (p := ⟨b, off + k * 3, none⟩) hbl).trans (hc k hlt).1
      have c2 := (hb.cell (p := ⟨b, off + k * 3 + 1, none⟩) hbl).trans (hc k hlt).2.1
      have c3 := (hb.cell (p := ⟨b, off + k * 3 + 2, none⟩) hbl).trans (hc k hlt).2.2
      have HA : Hid (allMet f P N V k = true) := hall
      have HB : Hid (Below w.heap.size w wr) := hb
      have hbn : Below w.heap.size w (wr.alloc (.cells #[.string (P k), .string (opOf (N k)), .string (V k)] 40)) := hb.alloc hb.size _
      have HX2 : Hid (∀ m, ((wr.alloc (.cells #[.string (P k), .string (opOf (N k)), .string (V k)] 40)).drewN m).cell? ⟨bx, 0, none⟩ = some (.map (some B))) := fun m => ((below_drewN hbn m).cell (p := ⟨bx, 0, none⟩) hbx).trans HX.out
      have HM2 : Hid (∀ m, MapAt ((wr.alloc (.cells #[.string (P k), .string (opOf (N k)), .string (V k)] 40)).drewN m) B f) := fun m => map_below HM.out (below_drewN hbn m) (Nat.le_refl _)
      have HP2 : Hid ((P k).size ≤ maxLen) := HP.out k hlt
      have HBn : Hid (Below w.heap.size w (wr.alloc (.cells #[.string (P k), .string (opOf (N k)), .string (V k)] 40))) := hbn
      clear hc hb hall hbn
      by_cases hq : ((f (P k)).toList == (V k).toList) = true
      · cases hN : N k with
        | true =>
          have ho : opOf (N k) = ⟨#[33, 61]⟩ := by rw [hN]; rfl
          have HE : Hid (allMet f P N V n = false) := allMet_bad hlt (by simp [met, hq, hN])
          clear hN
          rw [ho] at HX2 HM2 HBn c2
          go_wp2
          go_quiet ((go_at_call 18; exact Calls.quiet_of_same (field_any _ bx B f _ (HX2.out _) (HM2.out _) HP2.out)))
          go_wp2
          go_ret
          exact ⟨by rw [HE.out]; rfl, below_drewN HBn.out _⟩
        | false =>
          have ho : opOf (N k) = ⟨#[61]⟩ := by rw [hN]; rfl
          have HE : Hid (allMet f P N V (k + 1) = true) := allMet_step HA.out (by simp [met, hq, hN])
          clear hN
          rw [ho] at HX2 HM2 HBn c2
          go_wp2
          go_quiet ((go_at_call 18; exact Calls.quiet_of_same (field_any _ bx B f _ (HX2.out _) (HM2.out _) HP2.out)))
          go_wp2
          go_roundw
          case rel => exact ⟨k + 1, by omega, by go_num, HE.out, below_drewN HBn.out _⟩
          case measure => simp [intOf]; omega
      · have hq : ((f (P k)).toList == (V k).toList) = false := by simpa using hq
        cases hN : N k with
        | true =>
          have ho : opOf (N k) = ⟨#[33, 61]⟩ := by rw [hN]; rfl
          have HE : Hid (allMet f P N V (k + 1) = true) := allMet_step HA.out (by simp [met, hq, hN])
          clear hN
          rw [ho] at HX2 HM2 HBn c2
          go_wp2
          go_quiet ((go_at_call 18; exact Calls.quiet_of_same (field_any _ bx B f _ (HX2.out _) (HM2.out _) HP2.out)))
          go_wp2
          go_roundw
          case rel => exact ⟨k + 1, by omega, by go_num, HE.out, below_drewN HBn.out _⟩
          case measure => simp [intOf]; omega
        | false =>
          have ho : opOf (N k) = ⟨#[61]⟩ := by rw [hN]; rfl
          have HE : Hid (allMet f P N V n = false) := allMet_bad hlt (by simp [met, hq, hN])
          clear hN
          rw [ho] at HX2 HM2 HBn c2
          go_wp2
          go_quiet ((go_at_call 18; exact Calls.quiet_of_same (field_any _ bx B f _ (HX2.out _) (HM2.out _) HP2.out)))
          go_wp2
          go_ret
          exact ⟨by rw [HE.out]; rfl, below_drewN HBn.out _⟩
    · obtain rfl : k = n := by omega
      have HA : Hid (allMet f P N V k = true) := hall
      clear hall
      go_wp2
      go_ret
      exact ⟨by rw [HA.out]; rfl, hb⟩
end Go.Proofs.Qxb6605882a
