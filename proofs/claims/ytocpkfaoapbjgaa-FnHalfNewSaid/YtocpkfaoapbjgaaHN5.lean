/- The half that is due, by the bits of a float. -/
import Derived.Test.YtocpkfaoapbjgaaHN4
set_option linter.unusedVariables false
set_option linter.unusedSimpArgs false
namespace Go.Proofs.Ytocpkfaoapbjgaa
open Go.ChangeShapes Go.WideShapes Go.ChangeAt Go.RowKit
def PCut (w : World) (n : Int) (k : Bool) (e : Ending) (w' : World) : Prop := e = .returned (.tuple #[.int .u16 n, .bool k]) ∧ Grown w w'
def sgn16 (sb : Bool) : Int := if sb then 32768 else 0
set_option maxRecDepth 100000 in
set_option maxHeartbeats 2000000 in
theorem cut_zero (b x R : Nat) (sb : Bool) (hc : floatToFloatBits .f32 b .f64 = some x)
    (hA : ∀ W, Calls Try.prog 22 #[.float .f64 x] W fun e w' => e = .returned (.float .f64 R) ∧ W = w')
    (hS : ∀ W, Calls Try.prog 23 #[.float .f64 x] W fun e w' => e = .returned (.bool sb) ∧ W = w')
    (o0 : FloatKind.f32.format.order b b = some .eq)
    (p0 : (FloatKind.f64.format.order R 4679235614791434240 == some .gt) = false)
    (p1 : (FloatKind.f64.format.order R 0 == some .gt) = false)
    (p2 : (FloatKind.f64.format.order R 4679240012837945344 == some .gt) = false)
    (p3 : (FloatKind.f64.format.order R 4679240012837945344 == some .eq) = false)
    (p4 : (FloatKind.f64.format.order R 4544132024016830464 == some .lt) = true)
    (w : World) : Calls Try.prog 10 #[.float .f32 b] w (PCut w (sgn16 sb) true) := by
  have hcv := fun W => run_convert_float_float (P := Try.prog) W 30 45 .f32 .f64 b x (by kernel_rfl) (by kernel_rfl) hc
  have HA := Lib.hid hA
  have HS := Lib.hid hS
  clear hA hS hc
  cases sb
  all_goals
    go_enter Try.func10, Try.ntmps10
    go_wp2_with (first
      | (go_at_call 22; (with_reducible refine (HA.out _).mono ?_); rintro e w' ⟨rfl, rfl⟩)
      | (go_at_call 23; (with_reducible refine (HS.out _).mono ?_); rintro e w' ⟨rfl, rfl⟩))
    go_ret2
    exact ⟨rfl, by go_grown⟩
set_option maxRecDepth 100000 in
set_option maxHeartbeats 2000000 in
theorem cut_sub (b x R : Nat) (sb : Bool) (hc : floatToFloatBits .f32 b .f64 = some x)
    (hA : ∀ W, Calls Try.prog 22 #[.float .f64 x] W fun e w' => e = .returned (.float .f64 R) ∧ W = w')
    (hS : ∀ W, Calls Try.prog 23 #[.float .f64 x] W fun e w' => e = .returned (.bool sb) ∧ W = w')
    (o0 : FloatKind.f32.format.order b b = some .eq)
    (p0 : (FloatKind.f64.format.order R 4679235614791434240 == some .gt) = false)
    (p1 : (FloatKind.f64.format.order R 0 == some .gt) = true)
    (p2 : (FloatKind.f64.format.order R 4039728865751334912 == some .lt) = true)
    (w : World) : Calls Try.prog 10 #[.float .f32 b] w (PCut w 0 false) := by
  have hcv := fun W => run_convert_float_float (P := Try.prog) W 30 45 .f32 .f64 b x (by kernel_rfl) (by kernel_rfl) hc
  have HA := Lib.hid hA
  have HS := Lib.hid hS
  clear hA hS hc
  cases sb
  all_goals
    go_enter Try.func10, Try.ntmps10
    go_wp2_with (first
      | (go_at_call 22; (with_reducible refine (HA.out _).mono ?_); rintro e w' ⟨rfl, rfl⟩)
      | (go_at_call 23; (with_reducible refine (HS.out _).mono ?_); rintro e w' ⟨rfl, rfl⟩))
    go_ret2
    exact ⟨rfl, by go_grown⟩
set_option maxRecDepth 100000 in
set_option maxHeartbeats 2000000 in
theorem cut_big (b x R : Nat) (sb : Bool) (hc : floatToFloatBits .f32 b .f64 = some x)
    (hA : ∀ W, Calls Try.prog 22 #[.float .f64 x] W fun e w' => e = .returned (.float .f64 R) ∧ W = w')
    (hS : ∀ W, Calls Try.prog 23 #[.float .f64 x] W fun e w' => e = .returned (.bool sb) ∧ W = w')
    (o0 : FloatKind.f32.format.order b b = some .eq)
    (p0 : (FloatKind.f64.format.order R 4679235614791434240 == some .gt) = true)
    (p1 : (FloatKind.f64.format.order R 4679240012837945344 == some .lt) = false)
    (p2 : (FloatKind.f64.format.order R 0 == some .gt) = true)
    (p3 : (FloatKind.f64.format.order R 4039728865751334912 == some .lt) = false)
    (p4 : (FloatKind.f64.format.order R 4679240012837945344 == some .gt || FloatKind.f64.format.order R 4679240012837945344 == some .eq) = true)
    (w : World) : Calls Try.prog 10 #[.float .f32 b] w (PCut w (sgn16 sb + 31744) true) := by
  have hcv := fun W => run_convert_float_float (P := Try.prog) W 30 45 .f32 .f64 b x (by kernel_rfl) (by kernel_rfl) hc
  have HA := Lib.hid hA
  have HS := Lib.hid hS
  clear hA hS hc
  have q1 : bits .or .u16 0 31744 = 31744 := by decide
  have q2 : bits .or .u16 32768 31744 = 64512 := by decide
  cases sb
  all_goals
    go_enter Try.func10, Try.ntmps10
    go_wp2_with (first
      | (go_at_call 22; (with_reducible refine (HA.out _).mono ?_); rintro e w' ⟨rfl, rfl⟩)
      | (go_at_call 23; (with_reducible refine (HS.out _).mono ?_); rintro e w' ⟨rfl, rfl⟩))
    go_ret2
    exact ⟨rfl, by go_grown⟩
set_option maxRecDepth 100000 in
set_option maxHeartbeats 2000000 in
theorem cut_gap (b x R : Nat) (sb : Bool) (hc : floatToFloatBits .f32 b .f64 = some x)
    (hA : ∀ W, Calls Try.prog 22 #[.float .f64 x] W fun e w' => e = .returned (.float .f64 R) ∧ W = w')
    (hS : ∀ W, Calls Try.prog 23 #[.float .f64 x] W fun e w' => e = .returned (.bool sb) ∧ W = w')
    (o0 : FloatKind.f32.format.order b b = some .eq)
    (p0 : (FloatKind.f64.format.order R 4679235614791434240 == some .gt) = true)
    (p1 : (FloatKind.f64.format.order R 4679240012837945344 == some .lt) = true)
    (w : World) : Calls Try.prog 10 #[.float .f32 b] w (PCut w 0 false) := by
  have hcv := fun W => run_convert_float_float (P := Try.prog) W 30 45 .f32 .f64 b x (by kernel_rfl) (by kernel_rfl) hc
  have HA := Lib.hid hA
  have HS := Lib.hid hS
  clear hA hS hc
  cases sb
  all_goals
    go_enter Try.func10, Try.ntmps10
    go_wp2_with (first
      | (go_at_call 22; (with_reducible refine (HA.out _).mono ?_); rintro e w' ⟨rfl, rfl⟩)
      | (go_at_call 23; (with_reducible refine (HS.out _).mono ?_); rintro e w' ⟨rfl, rfl⟩))
    go_ret2
    exact ⟨rfl, by go_grown⟩
set_option maxRecDepth 100000 in
set_option maxHeartbeats 2000000 in
theorem cut_small (b x R : Nat) (sb : Bool) (hc : floatToFloatBits .f32 b .f64 = some x)
    (hA : ∀ W, Calls Try.prog 22 #[.float .f64 x] W fun e w' => e = .returned (.float .f64 R) ∧ W = w')
    (hS : ∀ W, Calls Try.prog 23 #[.float .f64 x] W fun e w' => e = .returned (.bool sb) ∧ W = w')
    (o0 : FloatKind.f32.format.order b b = some .eq)
    (p0 : (FloatKind.f64.format.order R 4679235614791434240 == some .gt) = false)
    (p1 : (FloatKind.f64.format.order R 0 == some .gt) = true)
    (p2 : (FloatKind.f64.format.order R 4039728865751334912 == some .lt) = false)
    (p3 : (FloatKind.f64.format.order R 4679240012837945344 == some .gt) = false)
    (p4 : (FloatKind.f64.format.order R 4679240012837945344 == some .eq) = false)
    (p5 : (FloatKind.f64.format.order R 4544132024016830464 == some .lt) = true)
    (w : World) : Calls Try.prog 10 #[.float .f32 b] w (PCut w (sgn16 sb) true) := by
  have hcv := fun W => run_convert_float_float (P := Try.prog) W 30 45 .f32 .f64 b x (by kernel_rfl) (by kernel_rfl) hc
  have HA := Lib.hid hA
  have HS := Lib.hid hS
  clear hA hS hc
  cases sb
  all_goals
    go_enter Try.func10, Try.ntmps10
    go_wp2_with (first
      | (go_at_call 22; (with_reducible refine (HA.out _).mono ?_); rintro e w' ⟨rfl, rfl⟩)
      | (go_at_call 23; (with_reducible refine (HS.out _).mono ?_); rintro e w' ⟨rfl, rfl⟩))
    go_ret2
    exact ⟨rfl, by go_grown⟩
end Go.Proofs.Ytocpkfaoapbjgaa
