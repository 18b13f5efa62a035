import Derived.Laws.Bits128
namespace Go.Proofs.Qxb6605856a.Plain

/-- what 'isFile' answers, of a mode's bytes -/
def isF (l : List UInt8) : Bool := l == [49, 48, 48, 54, 52, 52] || l == [49, 48, 48, 55, 53, 53]
/-- the number that a row of octal digits writes -/
def octV (l : List UInt8) : Int := l.foldl (fun v c => v * 8 + ((c.toNat : Int) - 48)) 0
/-- is it an octal digit? -/
def dig (c : UInt8) : Bool := decide (48 ≤ (c.toNat : Int)) && decide ((c.toNat : Int) ≤ 55)
/-- the law's own test of the number -/
def wantB (v : Int) : Bool := v / 4096 == 8 && (v % 4096 == 420 || v % 4096 == 493)

theorem i64_and4095 (n : Int) : bits .and .i64 n 4095 = n % 4096 := by
  have h : (BitVec.ofInt 64 4095).toNat = 2 ^ 12 - 1 := by decide
  have key : (BitVec.ofInt 64 n &&& BitVec.ofInt 64 4095).toNat = (n % ((2 ^ 64 : Nat) : Int)).toNat % 2 ^ 12 := by
    rw [BitVec.toNat_and, BitVec.toNat_ofInt, h, Nat.and_two_pow_sub_one_eq_mod]
  show IntKind.i64.wrap ((BitVec.ofInt 64 n &&& BitVec.ofInt 64 4095).toNat : Nat) = n % 4096
  rw [key, IntKind.wrap_i64]
  omega

theorem octV_snoc (l : List UInt8) (c : UInt8) : octV (l ++ [c]) = octV l * 8 + ((c.toNat : Int) - 48) := by
  simp [octV]

theorem dig_iff (c : UInt8) : dig c = true ↔ 48 ≤ c.toNat ∧ c.toNat ≤ 55 := by
  simp [dig]; omega

theorem dig_bd {c : UInt8} (h : dig c = true) : 48 ≤ (c.toNat : Int) ∧ (c.toNat : Int) ≤ 55 := by
  have := (dig_iff c).1 h; omega

theorem octV_from (l : List UInt8) (h : l.all dig = true) : ∀ v : Int, 0 ≤ v → 0 ≤ l.foldl (fun v c => v * 8 + ((c.toNat : Int) - 48)) v ∧ l.foldl (fun v c => v * 8 + ((c.toNat : Int) - 48)) v < (v + 1) * 8 ^ l.length := by
  induction l with
  | nil => intro v hv; simp; omega
  | cons c t ih =>
    simp only [List.all_cons, Bool.and_eq_true] at h
    intro v hv
    have hd := dig_bd h.1
    have h1 := ih h.2 (v * 8 + ((c.toNat : Int) - 48)) (by omega)
    have hp : 0 ≤ (8 : Int) ^ t.length := by exact_mod_cast Nat.zero_le (8 ^ t.length)
    have hm : (v * 8 + ((c.toNat : Int) - 48) + 1) * 8 ^ t.length ≤ ((v + 1) * 8) * 8 ^ t.length := Int.mul_le_mul_of_nonneg_right (by omega) hp
    rw [List.foldl_cons, List.length_cons, Int.pow_succ', ← Int.mul_assoc]
    omega

theorem octV_bd (l : List UInt8) (h : l.all dig = true) : 0 ≤ octV l ∧ octV l < 8 ^ l.length := by
  have := octV_from l h 0 (by omega)
  simpa [octV] using this

theorem octV_bd7 (l : List UInt8) (h : l.all dig = true) (h7 : l.length ≤ 7) : 0 ≤ octV l ∧ octV l < 2097152 := by
  have h1 := octV_bd l h
  have h2 : (8 : Nat) ^ l.length ≤ 8 ^ 7 := Nat.pow_le_pow_right (by decide) h7
  have h3 : ((8 ^ l.length : Nat) : Int) ≤ ((8 ^ 7 : Nat) : Int) := Int.ofNat_le.2 h2
  have h4 : ((8 ^ 7 : Nat) : Int) = 2097152 := by decide
  rw [Int.natCast_pow, h4] at h3
  exact ⟨h1.1, Int.lt_of_lt_of_le h1.2 h3⟩

/-- a byte that is no octal digit: no file mode -/
theorem isF_bad (l : List UInt8) (c : UInt8) (hc : c ∈ l) (h : dig c = false) : isF l = false := by
  rw [Bool.eq_false_iff]
  intro hf
  simp only [isF, Bool.or_eq_true, beq_iff_eq] at hf
  have h1 : ¬ dig c = true := by simp [h]
  rw [dig_iff] at h1
  rcases hf with rfl | rfl <;> (simp at hc; rcases hc with rfl | rfl | rfl | rfl | rfl | rfl <;> exact h1 (by decide))

theorem isF_long (l : List UInt8) (h : l.length = 0 ∨ 7 < l.length) : isF l = false := by
  rw [Bool.eq_false_iff]
  intro hf
  simp only [isF, Bool.or_eq_true, beq_iff_eq] at hf
  rcases hf with rfl | rfl <;> simp at h

theorem isF_zero (l : List UInt8) (h : l.head? = some 48) : isF l = false := by
  rw [Bool.eq_false_iff]
  intro hf
  simp only [isF, Bool.or_eq_true, beq_iff_eq] at hf
  rcases hf with rfl | rfl <;> simp at h

theorem u8_of {c : UInt8} {n : Nat} (hn : n < 256) (h : (c.toNat : Int) = n) : c = UInt8.ofNat n := by
  apply UInt8.toNat.inj
  simp
  omega

theorem wantB_iff (v : Int) (h0 : 0 ≤ v) : wantB v = true ↔ v = 33188 ∨ v = 33261 := by
  simp [wantB]
  omega

theorem isF_oct (l : List UInt8) (c : UInt8) (t : List UInt8) (hl : l = c :: t) (h7 : l.length ≤ 7) (hc : c ≠ 48) (hd : l.all dig = true) :
    isF l = wantB (octV l) := by
  have hv := octV_bd l hd
  rw [Bool.eq_iff_iff, wantB_iff _ hv.1]
  subst hl
  have hc' : (c.toNat : Int) ≠ 48 := fun h => hc (u8_of (n := 48) (by omega) h)
  constructor
  · intro hf
    simp only [isF, Bool.or_eq_true, beq_iff_eq] at hf
    rcases hf with h | h <;> (rw [h]; decide)
  · intro h
    match t, h7 with
    | [], _ => simp [octV, List.all_cons] at h hd; have := dig_bd hd; omega
    | [c1], _ => simp [octV, List.all_cons] at h hd; have := dig_bd hd.1; have := dig_bd hd.2; omega
    | [c1, c2], _ => simp [octV, List.all_cons] at h hd; have := dig_bd hd.1; have := dig_bd hd.2.1; have := dig_bd hd.2.2; omega
    | [c1, c2, c3], _ => simp [octV, List.all_cons] at h hd; have := dig_bd hd.1; have := dig_bd hd.2.1; have := dig_bd hd.2.2.1; have := dig_bd hd.2.2.2; omega
    | [c1, c2, c3, c4], _ => simp [octV, List.all_cons] at h hd; have := dig_bd hd.1; have := dig_bd hd.2.1; have := dig_bd hd.2.2.1; have := dig_bd hd.2.2.2.1; have := dig_bd hd.2.2.2.2; omega
    | [c1, c2, c3, c4, c5], _ =>
      simp only [octV, List.foldl_cons, List.foldl_nil, List.all_cons, List.all_nil, Bool.and_true, Bool.and_eq_true] at h hd
      have b0 := dig_bd hd.1; have b1 := dig_bd hd.2.1; have b2 := dig_bd hd.2.2.1; have b3 := dig_bd hd.2.2.2.1; have b4 := dig_bd hd.2.2.2.2.1; have b5 := dig_bd hd.2.2.2.2.2
      have e0 : c = 49 := u8_of (n := 49) (by omega) (by omega)
      have e1 : c1 = 48 := u8_of (n := 48) (by omega) (by omega)
      have e2 : c2 = 48 := u8_of (n := 48) (by omega) (by omega)
      rcases h with h | h
      · have e3 : c3 = 54 := u8_of (n := 54) (by omega) (by omega)
        have e4 : c4 = 52 := u8_of (n := 52) (by omega) (by omega)
        have e5 : c5 = 52 := u8_of (n := 52) (by omega) (by omega)
        subst e0 e1 e2 e3 e4 e5; rfl
      · have e3 : c3 = 55 := u8_of (n := 55) (by omega) (by omega)
        have e4 : c4 = 53 := u8_of (n := 53) (by omega) (by omega)
        have e5 : c5 = 53 := u8_of (n := 53) (by omega) (by omega)
        subst e0 e1 e2 e3 e4 e5; rfl
    | [c1, c2, c3, c4, c5, c6], _ =>
      simp only [octV, List.foldl_cons, List.foldl_nil, List.all_cons, List.all_nil, Bool.and_true, Bool.and_eq_true] at h hd
      have b0 := dig_bd hd.1; have b1 := dig_bd hd.2.1; have b2 := dig_bd hd.2.2.1; have b3 := dig_bd hd.2.2.2.1; have b4 := dig_bd hd.2.2.2.2.1; have b5 := dig_bd hd.2.2.2.2.2.1; have b6 := dig_bd hd.2.2.2.2.2.2
      omega
    | _ :: _ :: _ :: _ :: _ :: _ :: _ :: _, h => simp at h
end Go.Proofs.Qxb6605856a.Plain
