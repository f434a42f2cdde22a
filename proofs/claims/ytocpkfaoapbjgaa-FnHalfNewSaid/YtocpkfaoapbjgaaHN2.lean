/- Doubles in Go's math: Abs, Signbit, Frexp, Ldexp, where the laws need them. -/
import Derived.Test.YtocpkfaoapbjgaaA
import Derived.Test.YtocpkfaoapbjgaaHN1
import Derived.Deep.QuietTactic
import Derived.BigQuiet
import Derived.Deep.RegionWith
import Derived.Lib.Hide
import Derived.Outline
set_option linter.unusedVariables false
set_option linter.unusedSimpArgs false
namespace Go.Proofs.Ytocpkfaoapbjgaa
open Go.ChangeShapes Go.WideShapes Go.ChangeAt Go.RowKit
theorem f64bits (b : Nat) (w : World) : (callFunc 33 #[.float .f64 b]).run Try.prog w = .ok (.value (.int .u64 b)) w := by kernel_rfl
theorem f64from (n : Int) (w : World) : (callFunc 32 #[.int .u64 n]).run Try.prog w = .ok (.value (.float .f64 n.toNat)) w := by kernel_rfl
theorem abs_bits (b R : Nat) (h : R < 9223372036854775808) : bits .andNot .u64 ((sg b + R : Nat) : Int) 9223372036854775808 = ((R : Nat) : Int) := by
  have hs := sg_01 b
  have := u64_andNot_nat (sg b + R) 9223372036854775808 (by omega) (by decide)
  rw [show ((9223372036854775808 : Nat) : Int) = 9223372036854775808 from rfl] at this
  rw [this]
  have e : (18446744073709551615 - 9223372036854775808 : Nat) = 2 ^ 63 - 1 := by decide
  rw [e, Nat.and_two_pow_sub_one_eq_mod]
  rcases hs with e | e <;> rw [e] <;> congr 1 <;> omega
set_option maxRecDepth 100000 in
theorem abs_is (b R : Nat) (h : R < 9223372036854775808) (w : World) : Calls Try.prog 22 #[.float .f64 (sg b + R)] w fun e w' => e = .returned (.float .f64 R) ∧ w = w' := by
  have h1 := f64bits
  have h2 := f64from
  have h3 := abs_bits b R h
  generalize sg b + R = x at h3 ⊢
  go_enter Try.func22, Try.ntmps22
  go_wp2
  go_ret
  exact ⟨rfl, rfl⟩
theorem abs_some (x : Nat) (w : World) : Calls Try.prog 22 #[.float .f64 x] w fun e w' => (∃ y, e = .returned (.float .f64 y)) ∧ w = w' := by
  have h1 := f64bits
  have h2 := f64from
  go_enter Try.func22, Try.ntmps22
  go_wp2
  go_ret
  exact ⟨⟨_, rfl⟩, rfl⟩
theorem signbit_any (x : Nat) (w : World) : Calls Try.prog 23 #[.float .f64 x] w fun e w' => e = .returned (.bool (decide (wrap64 (x : Int) < 0))) ∧ w = w' := by
  have h1 := f64bits
  have h2 := f64from
  go_enter Try.func23, Try.ntmps23
  go_wp2
  go_ret
  exact ⟨by simp, rfl⟩
theorem ford (x y : Nat) (hx : x ≤ 9218868437227405312) (hy : y ≤ 9218868437227405312) : FloatKind.f64.format.order x y = some (compare x y) := order_pos x y hx hy
theorem ord_lt {x y : Nat} (hx : x ≤ 9218868437227405312) (hy : y ≤ 9218868437227405312) : (FloatKind.f64.format.order x y == some .lt) = decide (x < y) := by
  rw [ford x y hx hy]
  rcases Nat.lt_trichotomy x y with h | h | h
  · rw [Nat.compare_eq_lt.2 h]; simp [h]
  · subst h; simp
  · rw [Nat.compare_eq_gt.2 h]; simp; omega
theorem ord_gt {x y : Nat} (hx : x ≤ 9218868437227405312) (hy : y ≤ 9218868437227405312) : (FloatKind.f64.format.order x y == some .gt) = decide (y < x) := by
  rw [ford x y hx hy]
  rcases Nat.lt_trichotomy x y with h | h | h
  · rw [Nat.compare_eq_lt.2 h]; simp; omega
  · subst h; simp
  · rw [Nat.compare_eq_gt.2 h]; simp [h]
theorem ord_eq {x y : Nat} (hx : x ≤ 9218868437227405312) (hy : y ≤ 9218868437227405312) : (FloatKind.f64.format.order x y == some .eq) = decide (x = y) := by
  rw [ford x y hx hy]
  rcases Nat.lt_trichotomy x y with h | h | h
  · rw [Nat.compare_eq_lt.2 h]; simp; omega
  · subst h; simp
  · rw [Nat.compare_eq_gt.2 h]; simp; omega
theorem sg_zero : sg 0 = 0 := by decide
theorem abs_pos (R : Nat) (h : R < 9223372036854775808) (w : World) : Calls Try.prog 22 #[.float .f64 R] w fun e w' => e = .returned (.float .f64 R) ∧ w = w' := by
  have := abs_is 0 R h w
  rwa [sg_zero, Nat.zero_add] at this
set_option maxRecDepth 100000 in
theorem isInf_any (R : Nat) (h : R < 9218868437227405312) (w : World) : Calls Try.prog 44 #[.float .f64 R, .int .i64 0] w fun e w' => e = .returned (.bool false) ∧ w = w' := by
  have h3 : (FloatKind.f64.format.order R 9218868437227405311 == some .gt) = false := by rw [ord_gt (by omega) (by omega)]; simp; omega
  have hA := Lib.hid (fun W => abs_pos R (by omega) W)
  clear h
  go_enter Try.func44, Try.ntmps44
  go_wp2_with (go_at_call 22; (with_reducible refine (hA.out _).mono ?_); rintro e w' ⟨rfl, rfl⟩)
  go_ret
  exact ⟨rfl, rfl⟩
set_option maxRecDepth 100000 in
theorem isNaN_any (R : Nat) (h : R < 9218868437227405312) (w : World) : Calls Try.prog 45 #[.float .f64 R] w fun e w' => e = .returned (.bool false) ∧ w = w' := by
  have h3 : FloatKind.f64.format.order R R = some .eq := by rw [ford R R (by omega) (by omega)]; simp
  clear h
  go_enter Try.func45, Try.ntmps45
  go_wp2
  go_ret
  exact ⟨by simp, rfl⟩
set_option maxRecDepth 100000 in
theorem normalize_any (R : Nat) (h1 : 4503599627370496 ≤ R) (h : R < 9218868437227405312) (w : World) : Calls Try.prog 46 #[.float .f64 R] w fun e w' => e = .returned (.tuple #[.float .f64 R, .int .i64 0]) ∧ w = w' := by
  have h3 : (FloatKind.f64.format.order R 4503599627370496 == some .lt) = false := by rw [ord_lt (by omega) (by omega)]; simp; omega
  have hA := Lib.hid (fun W => abs_pos R (by omega) W)
  clear h h1
  go_enter Try.func46, Try.ntmps46
  go_wp2_with (go_at_call 22; (with_reducible refine (hA.out _).mono ?_); rintro e w' ⟨rfl, rfl⟩)
  go_ret2
  exact ⟨rfl, rfl⟩
theorem exp_of (R : Nat) (h : R < 9218868437227405312) : bits .and .u64 ((R : Int) / 4503599627370496) 2047 = ((R / 4503599627370496 : Nat) : Int) := by
  have h0 : ((R : Int) / 4503599627370496) = ((R / 4503599627370496 : Nat) : Int) := by omega
  rw [h0]
  have := u64_and_nat (R / 4503599627370496) 2047 (by omega) (by decide)
  rw [show ((2047 : Nat) : Int) = 2047 from rfl] at this
  rw [this, nat_mask11, Nat.mod_eq_of_lt (by omega)]
theorem frac_of (R : Nat) (h : R < 9218868437227405312) : bits .andNot .u64 (R : Int) 9218868437227405312 = ((R % 4503599627370496 : Nat) : Int) := by
  have := u64_andNot_nat R 9218868437227405312 (by omega) (by decide)
  rw [show ((9218868437227405312 : Nat) : Int) = 9218868437227405312 from rfl] at this
  rw [this]
  congr 1
  apply Nat.eq_of_testBit_eq
  intro i
  have e : (18446744073709551615 - 9218868437227405312 : Nat) = 2 ^ 63 + (2 ^ 52 - 1) := by decide
  rw [Nat.testBit_and, e, show (4503599627370496 : Nat) = 2 ^ 52 by decide, Nat.testBit_mod_two_pow]
  have hR : R < 2 ^ 63 := by omega
  by_cases h1 : i < 52
  · have : (2 ^ 63 + (2 ^ 52 - 1) : Nat).testBit i = true := by
      rw [show (2 ^ 63 + (2 ^ 52 - 1) : Nat) = 2 ^ 52 * 2048 + (2 ^ 52 - 1) by decide, Nat.testBit_two_pow_mul_add _ (by decide)]
      rw [if_pos h1, Nat.testBit_two_pow_sub_one]; simp [h1]
    simp [this, h1]
  · by_cases h2 : i < 63
    · have : (2 ^ 63 + (2 ^ 52 - 1) : Nat).testBit i = false := by
        rw [show (2 ^ 63 + (2 ^ 52 - 1) : Nat) = 2 ^ 52 * 2048 + (2 ^ 52 - 1) by decide, Nat.testBit_two_pow_mul_add _ (by decide), if_neg h1, show (2048 : Nat) = 2 ^ 11 by decide, Nat.testBit_two_pow]
        simp; omega
      simp [this, h1]
    · have : R.testBit i = false := Nat.testBit_lt_two_pow (Nat.lt_of_lt_of_le hR (Nat.pow_le_pow_right (by decide) (by omega)))
      simp [this, h1]
theorem or_exp (M E : Nat) (h : M < 4503599627370496) (hE : E < 2048) : bits .or .u64 (M : Int) ((E * 4503599627370496 : Nat) : Int) = ((E * 4503599627370496 + M : Nat) : Int) := by
  rw [u64_or_nat M _ (by omega) (by omega), Nat.or_comm, nat_join 52 _ M (by simp) (by simpa using h)]
end Go.Proofs.Ytocpkfaoapbjgaa
