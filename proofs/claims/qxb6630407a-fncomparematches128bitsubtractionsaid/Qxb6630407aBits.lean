/-
  PLAIN ARITHMETIC for seat b6630407a: the borrow of a full subtractor by its bit formula. No Go program in sight.
-/
import Derived.Laws.BitsAllLaws
import Derived.Laws.Bits64
namespace Go.Proofs.Qxb6630407a

/-- The top bit of the bit formula, over Nat. -/
theorem formula_nat (x y d : Nat) : (((18446744073709551615 ^^^ x) &&& y) ||| ((18446744073709551615 ^^^ (x ^^^ y)) &&& d)) / 9223372036854775808 =
    (((1 ^^^ (x / 9223372036854775808)) &&& (y / 9223372036854775808)) ||| ((1 ^^^ ((x / 9223372036854775808) ^^^ (y / 9223372036854775808))) &&& (d / 9223372036854775808))) := by
  have e : ∀ n : Nat, n / 9223372036854775808 = n >>> 63 := fun n => by rw [Nat.shiftRight_eq_div_pow]
  simp only [e, Nat.shiftRight_or_distrib, Nat.shiftRight_and_distrib, Nat.shiftRight_xor_distrib]
  rfl

/-- The borrow of 'x - y - b'. -/
def bor (x y b : Int) : Int := if x < y + b then 1 else 0

theorem formula_bits (a b c : Nat) (ha : a ≤ 1) (hb : b ≤ 1) (hc : c ≤ 1) :
    (((1 ^^^ a) &&& b) ||| ((1 ^^^ (a ^^^ b)) &&& c)) = if a < b then 1 else if b < a then 0 else c := by
  match a, ha, b, hb, c, hc with
  | 0, _, 0, _, 0, _ => rfl
  | 0, _, 0, _, 1, _ => rfl
  | 0, _, 1, _, 0, _ => rfl
  | 0, _, 1, _, 1, _ => rfl
  | 1, _, 0, _, 0, _ => rfl
  | 1, _, 0, _, 1, _ => rfl
  | 1, _, 1, _, 0, _ => rfl
  | 1, _, 1, _, 1, _ => rfl

/-- The bit formula's answer IS the borrow. -/
theorem borrow_nat (x y b d : Nat) (hx : x < 18446744073709551616) (hy : y < 18446744073709551616) (hb : b ≤ 1) (hd : (d : Int) = ((x : Int) - y - b) % 18446744073709551616) :
    (((((18446744073709551615 ^^^ x) &&& y) ||| ((18446744073709551615 ^^^ (x ^^^ y)) &&& d)) / 9223372036854775808 : Nat) : Int) = bor x y b := by
  rw [formula_nat, formula_bits _ _ _ (by omega) (by omega) (by omega)]
  unfold bor
  by_cases h1 : x / 9223372036854775808 < y / 9223372036854775808
  · rw [if_pos h1, if_pos (by omega)]; rfl
  rw [if_neg h1]
  by_cases h2 : y / 9223372036854775808 < x / 9223372036854775808
  · rw [if_pos h2, if_neg (by omega)]; rfl
  rw [if_neg h2]
  by_cases h3 : (x : Int) < y + b
  · rw [if_pos h3]; omega
  · rw [if_neg h3]; omega

theorem diff_eq (x y b : Int) : IntKind.u64.wrap (IntKind.u64.wrap (x - y) - b) = (x - y - b) % 18446744073709551616 := by
  rw [IntKind.wrap_u64, IntKind.wrap_u64]; omega

/-- The same in the walk's own spelling. -/
theorem borrow_int (x y b : Int) (hx : 0 ≤ x) (hx' : x ≤ 18446744073709551615) (hy : 0 ≤ y) (hy' : y ≤ 18446744073709551615) (hb : 0 ≤ b) (hb' : b ≤ 1) :
    bits .or .u64 (bits .and .u64 (bits .xor .u64 IntKind.u64.max x) y) (bits .and .u64 (bits .xor .u64 IntKind.u64.max (bits .xor .u64 x y)) (IntKind.u64.wrap (IntKind.u64.wrap (x - y) - b))) / 9223372036854775808 = bor x y b := by
  obtain ⟨x, rfl⟩ := Int.eq_ofNat_of_zero_le hx
  obtain ⟨y, rfl⟩ := Int.eq_ofNat_of_zero_le hy
  obtain ⟨b, rfl⟩ := Int.eq_ofNat_of_zero_le hb
  rw [diff_eq]
  obtain ⟨d, hd⟩ : ∃ d : Nat, ((x : Int) - y - b) % 18446744073709551616 = (d : Int) := ⟨_, (Int.toNat_of_nonneg (by omega)).symm⟩
  have hM : IntKind.u64.max = ((18446744073709551615 : Nat) : Int) := rfl
  have lx : x < 2 ^ 64 := by omega
  have ly : y < 2 ^ 64 := by omega
  have ld : d < 2 ^ 64 := by omega
  have lM : 18446744073709551615 < 2 ^ 64 := by omega
  have n1 : (18446744073709551615 ^^^ x) < 2 ^ 64 := Nat.xor_lt_two_pow lM lx
  have n2 : x ^^^ y < 2 ^ 64 := Nat.xor_lt_two_pow lx ly
  have n3 : (18446744073709551615 ^^^ (x ^^^ y)) < 2 ^ 64 := Nat.xor_lt_two_pow lM n2
  have n4 : (18446744073709551615 ^^^ x) &&& y < 2 ^ 64 := Nat.lt_of_le_of_lt Nat.and_le_right ly
  have n5 : (18446744073709551615 ^^^ (x ^^^ y)) &&& d < 2 ^ 64 := Nat.lt_of_le_of_lt Nat.and_le_right ld
  rw [hd, hM, u64_xor_nat _ x lM lx, u64_xor_nat x y lx ly, u64_xor_nat _ _ lM n2, u64_and_nat _ _ n1 ly, u64_and_nat _ _ n3 ld, u64_or_nat _ _ n4 n5]
  have := borrow_nat x y b d (by omega) (by omega) (by omega) hd.symm
  rw [← this]
  rfl

/-- 'lo | hi == 0' just where both are nought. -/
theorem or_zero (a b : Int) (ha : 0 ≤ a) (ha' : a ≤ 18446744073709551615) (hb : 0 ≤ b) (hb' : b ≤ 18446744073709551615) : (bits .or .u64 a b == 0) = (decide (a = 0) && decide (b = 0)) := by
  obtain ⟨a, rfl⟩ := Int.eq_ofNat_of_zero_le ha
  obtain ⟨b, rfl⟩ := Int.eq_ofNat_of_zero_le hb
  rw [u64_or_nat a b (by omega) (by omega)]
  rw [Bool.eq_iff_iff]
  simp

end Go.Proofs.Qxb6630407a
