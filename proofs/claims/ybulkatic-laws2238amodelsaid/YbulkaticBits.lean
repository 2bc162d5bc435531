import Derived.Test.YbulkaticKp
namespace Go.Proofs.Ybulkatic
open Go.RowKit

theorem toNat_ofInt64 (z : Int) (h0 : 0 ≤ z) (h1 : z ≤ 18446744073709551615) : (BitVec.ofInt 64 z).toNat = z.toNat := by
  rw [BitVec.toNat_ofInt]
  congr 1
  exact Int.emod_eq_of_lt h0 (by omega)
theorem wrap64 (n : Nat) (h : n < 18446744073709551616) : IntKind.u64.wrap (n : Int) = n := by
  simp [IntKind.wrap, IntKind.bits, IntKind.signed]; omega
theorem bits_and_one (z : Int) (h0 : 0 ≤ z) (h1 : z ≤ 18446744073709551615) : bits .and .u64 z 1 = ((z.toNat % 2 : Nat) : Int) := by
  show IntKind.u64.wrap (((BitVec.ofInt 64 z &&& BitVec.ofInt 64 1).toNat : Nat) : Int) = _
  rw [BitVec.toNat_and, toNat_ofInt64 z h0 h1, toNat_ofInt64 1 (by omega) (by omega), show (1 : Int).toNat = 1 from rfl, Nat.and_one_is_mod, wrap64 _ (by omega)]
theorem bits_or_two (z : Int) (i : Nat) (h0 : 0 ≤ z) (h1 : z ≤ 18446744073709551615) (hi : i < 64) : bits .or .u64 z ((2 ^ i : Nat) : Int) = ((z.toNat ||| 2 ^ i : Nat) : Int) := by
  have h2 : 2 ^ i < 2 ^ 64 := Nat.pow_lt_pow_right (by omega) hi
  show IntKind.u64.wrap (((BitVec.ofInt 64 z ||| BitVec.ofInt 64 ((2 ^ i : Nat) : Int)).toNat : Nat) : Int) = _
  rw [BitVec.toNat_or, toNat_ofInt64 z h0 h1, toNat_ofInt64 _ (Int.natCast_nonneg _) (Int.ofNat_le.2 (by omega : 2 ^ i ≤ 18446744073709551615)), Int.toNat_natCast]
  exact wrap64 _ (Nat.or_lt_two_pow (n := 64) (by omega) h2)

/-- The bit that 'contains' reads. -/
theorem bit_eq (x y r : Int) (hx : 0 ≤ x ∧ x ≤ 18446744073709551615) (hy : 0 ≤ y ∧ y ≤ 18446744073709551615) : bit x y r = (if r < 64 then x else y).toNat.testBit (r % 64).toNat := by
  unfold bit
  have hz : 0 ≤ (if r < 64 then x else y) ∧ (if r < 64 then x else y) ≤ 18446744073709551615 := by split <;> assumption
  generalize (if r < 64 then x else y) = z at hz
  generalize (r % 64).toNat = i
  obtain ⟨n, rfl⟩ : ∃ n : Nat, z = n := ⟨z.toNat, by omega⟩
  have e : (n : Int) / 2 ^ i = ((n / 2 ^ i : Nat) : Int) := by
    rw [Int.natCast_ediv]; congr 1
  have hle : n / 2 ^ i ≤ n := Nat.div_le_self _ _
  rw [e, bits_and_one _ (Int.natCast_nonneg _) (Int.ofNat_le.2 (by omega : n / 2 ^ i ≤ 18446744073709551615)), Int.toNat_natCast, Int.toNat_natCast, Nat.testBit_eq_decide_div_mod_eq]
  rcases Nat.mod_two_eq_zero_or_one (n / 2 ^ i) with h | h <;> simp [h]

/-- The two words hold f, as far as k. -/
def BitsK (x y : Int) (f : Int → Bool) (k : Int) : Prop :=
  (0 ≤ x ∧ x ≤ 18446744073709551615) ∧ (0 ≤ y ∧ y ≤ 18446744073709551615) ∧ ∀ r, 0 ≤ r → r < 128 → bit x y r = (decide (r < k) && f r)
theorem bitsK_zero (f : Int → Bool) : BitsK 0 0 f 0 := by
  refine ⟨by omega, by omega, fun r h0 h1 => ?_⟩
  rw [bit_eq 0 0 r (by omega) (by omega)]
  simp; omega
theorem bitsK_skip {x y : Int} {f : Int → Bool} {k : Int} (h : BitsK x y f k) (hf : f k = false) : BitsK x y f (k + 1) := by
  refine ⟨h.1, h.2.1, fun r h0 h1 => ?_⟩
  rw [h.2.2 r h0 h1]
  by_cases e : r = k
  · subst e; simp [hf]
  · have : decide (r < k) = decide (r < k + 1) := by
      by_cases hh : r < k
      · rw [decide_eq_true hh, decide_eq_true (by omega)]
      · rw [decide_eq_false hh, decide_eq_false (by omega)]
    rw [this]
theorem or_bd (z : Int) (i : Nat) (h0 : 0 ≤ z) (h1 : z ≤ 18446744073709551615) (hi : i < 64) : 0 ≤ ((z.toNat ||| 2 ^ i : Nat) : Int) ∧ ((z.toNat ||| 2 ^ i : Nat) : Int) ≤ 18446744073709551615 := by
  have h2 : 2 ^ i < 2 ^ 64 := Nat.pow_lt_pow_right (by omega) hi
  have := Nat.or_lt_two_pow (n := 64) (x := z.toNat) (y := 2 ^ i) (by omega) h2
  omega
theorem bitsK_setX {x y : Int} {f : Int → Bool} {k : Int} (h : BitsK x y f k) (hf : f k = true) (k0 : 0 ≤ k) (k1 : k < 64) : BitsK ((x.toNat ||| 2 ^ k.toNat : Nat) : Int) y f (k + 1) := by
  obtain ⟨hx, hy, hb⟩ := h
  have hx' := or_bd x k.toNat hx.1 hx.2 (by omega)
  refine ⟨hx', hy, fun r h0 h1 => ?_⟩
  have hr := hb r h0 h1
  rw [bit_eq _ _ _ hx hy] at hr
  rw [bit_eq _ _ _ hx' hy]
  by_cases h64 : r < 64
  · rw [if_pos h64] at hr ⊢
    have e : (r % 64).toNat = r.toNat := by omega
    rw [e] at hr ⊢
    rw [Int.toNat_natCast, Nat.testBit_or, hr, Nat.testBit_two_pow]
    by_cases ek : r = k
    · subst ek; simp [hf]; omega
    · rw [decide_eq_false (show ¬ k.toNat = r.toNat by omega), Bool.or_false]
      have : decide (r < k) = decide (r < k + 1) := by
        by_cases hh : r < k
        · rw [decide_eq_true hh, decide_eq_true (by omega)]
        · rw [decide_eq_false hh, decide_eq_false (by omega)]
      rw [this]
  · rw [if_neg h64] at hr ⊢
    rw [hr, decide_eq_false (show ¬ r < k by omega), decide_eq_false (show ¬ r < k + 1 by omega)]
theorem bitsK_setY {x y : Int} {f : Int → Bool} {k : Int} (h : BitsK x y f k) (hf : f k = true) (k0 : 64 ≤ k) (k1 : k < 128) : BitsK x ((y.toNat ||| 2 ^ (k % 64).toNat : Nat) : Int) f (k + 1) := by
  obtain ⟨hx, hy, hb⟩ := h
  have hy' := or_bd y (k % 64).toNat hy.1 hy.2 (by omega)
  refine ⟨hx, hy', fun r h0 h1 => ?_⟩
  have hr := hb r h0 h1
  rw [bit_eq _ _ _ hx hy] at hr
  rw [bit_eq _ _ _ hx hy']
  by_cases h64 : r < 64
  · rw [if_pos h64] at hr ⊢
    rw [hr, decide_eq_true (show r < k by omega), decide_eq_true (show r < k + 1 by omega)]
  · rw [if_neg h64] at hr ⊢
    rw [Int.toNat_natCast, Nat.testBit_or, hr, Nat.testBit_two_pow]
    by_cases ek : r = k
    · subst ek; simp [hf]; omega
    · rw [decide_eq_false (show ¬ (k % 64).toNat = (r % 64).toNat by omega), Bool.or_false]
      have : decide (r < k) = decide (r < k + 1) := by
        by_cases hh : r < k
        · rw [decide_eq_true hh, decide_eq_true (by omega)]
        · rw [decide_eq_false hh, decide_eq_false (by omega)]
      rw [this]

/-- The two words hold f. -/
def BitsOK (x y : Int) (f : Int → Bool) : Prop :=
  (0 ≤ x ∧ x ≤ 18446744073709551615) ∧ (0 ≤ y ∧ y ≤ 18446744073709551615) ∧ ∀ r, 0 ≤ r → r < 128 → bit x y r = f r
theorem BitsK.ok {x y : Int} {f : Int → Bool} (h : BitsK x y f 128) : BitsOK x y f :=
  ⟨h.1, h.2.1, fun r h0 h1 => by rw [h.2.2 r h0 h1, decide_eq_true h1, Bool.true_and]⟩
end Go.Proofs.Ybulkatic
