/- Frexp and Ldexp of doubles that are normal. -/
import Derived.Test.YtocpkfaoapbjgaaHN2
set_option linter.unusedVariables false
set_option linter.unusedSimpArgs false
namespace Go.Proofs.Ytocpkfaoapbjgaa
open Go.ChangeShapes Go.WideShapes Go.ChangeAt Go.RowKit
set_option maxRecDepth 100000 in
set_option maxHeartbeats 1000000 in
theorem frexp_in (R : Nat) (h1 : 4503599627370496 ≤ R) (h : R < 9218868437227405312) (w : World) :
    Calls Try.prog 35 #[.float .f64 R] w fun e w' => e = .returned (.tuple #[.float .f64 (4602678819172646912 + R % 4503599627370496), .int .i64 (((R / 4503599627370496 : Nat) : Int) - 1023 + 1)]) ∧ w = w' := by
  have g1 := f64bits
  have g2 := f64from
  have h3 : (FloatKind.f64.format.order R 0 == some .eq) = false := by rw [ord_eq (by omega) (by omega)]; simp; omega
  have e1 := exp_of R h
  have e2 := frac_of R h
  have e3 := or_exp (R % 4503599627370496) 1022 (by omega) (by omega)
  rw [show ((1022 * 4503599627370496 : Nat) : Int) = 4602678819172646912 from rfl, show (1022 * 4503599627370496 : Nat) = 4602678819172646912 from rfl] at e3
  have hI := Lib.hid (fun W => isInf_any R h W)
  have hN := Lib.hid (fun W => isNaN_any R h W)
  have hZ := Lib.hid (fun W => normalize_any R h1 h W)
  have hE : R / 4503599627370496 < 2048 := by omega
  clear h1 h
  generalize hq : R / 4503599627370496 = q at *
  generalize R % 4503599627370496 = m at *
  clear hq
  go_enter Try.func35, Try.ntmps35
  go_wp2_with (first
    | (go_at_call 44; (with_reducible refine (hI.out _).mono ?_); rintro e w' ⟨rfl, rfl⟩)
    | (go_at_call 45; (with_reducible refine (hN.out _).mono ?_); rintro e w' ⟨rfl, rfl⟩)
    | (go_at_call 46; (with_reducible refine (hZ.out _).mono ?_); rintro e w' ⟨rfl, rfl⟩))
  go_ret2
  exact ⟨rfl, rfl⟩
theorem frexp_any (R : Nat) (h1 : 4503599627370496 ≤ R) (h : R < 9218868437227405312) (w : World) :
    Calls Try.prog 24 #[.float .f64 R] w fun e w' => e = .returned (.tuple #[.float .f64 (4602678819172646912 + R % 4503599627370496), .int .i64 (((R / 4503599627370496 : Nat) : Int) - 1023 + 1)]) ∧ w = w' := by
  have hI := Lib.hid (fun W => frexp_in R h1 h W)
  generalize 4602678819172646912 + R % 4503599627370496 = m at *
  generalize (((R / 4503599627370496 : Nat) : Int) - 1023 + 1) = q at *
  clear h1 h
  go_enter Try.func24, Try.ntmps24
  go_wp2_with (go_at_call 35; (with_reducible refine (hI.out _).mono ?_); rintro e w' ⟨rfl, rfl⟩)
  go_ret2
  exact ⟨rfl, rfl⟩
set_option maxRecDepth 100000 in
set_option maxHeartbeats 1000000 in
theorem ldexp_in (M : Nat) (h : M < 4503599627370496) (w : World) :
    Calls Try.prog 37 #[.float .f64 (4602678819172646912 + M), .int .i64 11] w fun e w' => e = .returned (.float .f64 (4652218415073722368 + M)) ∧ w = w' := by
  have g1 := f64bits
  have g2 := f64from
  have h3 : (FloatKind.f64.format.order (4602678819172646912 + M) 0 == some .eq) = false := by rw [ord_eq (by omega) (by omega)]; simp
  have e1 : (((4602678819172646912 + M : Nat) : Int) / 4503599627370496) = 1022 := by omega
  have e1b : bits .and .i64 1022 2047 = 1022 := by decide
  have e2 := frac_of (4602678819172646912 + M) (by omega)
  rw [show (4602678819172646912 + M) % 4503599627370496 = M by omega] at e2
  have e3 := or_exp M 1033 h (by omega)
  rw [show ((1033 * 4503599627370496 : Nat) : Int) = 4652218415073722368 from rfl, show (1033 * 4503599627370496 : Nat) = 4652218415073722368 from rfl] at e3
  have hI := Lib.hid (fun W => isInf_any (4602678819172646912 + M) (by omega) W)
  have hN := Lib.hid (fun W => isNaN_any (4602678819172646912 + M) (by omega) W)
  have hZ := Lib.hid (fun W => normalize_any (4602678819172646912 + M) (by omega) (by omega) W)
  have hm := fun W => run_float_arith (P := Try.prog) W .mul 45 .f64 _ _ _ (mul_one M h)
  have hMM := Lib.hid h
  clear h
  generalize 4602678819172646912 + M = F at *
  go_enter Try.func37, Try.ntmps37
  go_wp2_with (first
    | (go_at_call 44; (with_reducible refine (hI.out _).mono ?_); rintro e w' ⟨rfl, rfl⟩)
    | (go_at_call 45; (with_reducible refine (hN.out _).mono ?_); rintro e w' ⟨rfl, rfl⟩)
    | (go_at_call 46; (with_reducible refine (hZ.out _).mono ?_); rintro e w' ⟨rfl, rfl⟩))
  go_ret
  exact ⟨rfl, rfl⟩
theorem ldexp_any (M : Nat) (h : M < 4503599627370496) (w : World) :
    Calls Try.prog 25 #[.float .f64 (4602678819172646912 + M), .int .i64 11] w fun e w' => e = .returned (.float .f64 (4652218415073722368 + M)) ∧ w = w' := by
  have hI := Lib.hid (fun W => ldexp_in M h W)
  generalize 4602678819172646912 + M = m at *
  generalize 4652218415073722368 + M = q at *
  clear h
  go_enter Try.func25, Try.ntmps25
  go_wp2_with (go_at_call 37; (with_reducible refine (hI.out _).mono ?_); rintro e w' ⟨rfl, rfl⟩)
  go_ret
  exact ⟨rfl, rfl⟩
end Go.Proofs.Ytocpkfaoapbjgaa
