/- The half that is due, for every float. -/
import Derived.Test.YtocpkfaoapbjgaaHN5
set_option linter.unusedVariables false
set_option linter.unusedSimpArgs false
namespace Go.Proofs.Ytocpkfaoapbjgaa
open Go.ChangeShapes Go.WideShapes Go.ChangeAt Go.RowKit
theorem or_sg (sb : Bool) (X : Int) (h0 : 0 ≤ X) (h1 : X < 32768) : bits .or .u16 (sgn16 sb) X = sgn16 sb + X := by
  obtain ⟨n, rfl⟩ := Int.eq_ofNat_of_zero_le h0
  have hn : n < 32768 := by omega
  cases sb
  · show bits .or .u16 ((0 : Nat) : Int) (n : Int) = _
    rw [u16_or_nat 0 n (by decide) (by omega)]; simp [sgn16]
  · show bits .or .u16 ((32768 : Nat) : Int) (n : Int) = _
    rw [u16_or_nat 32768 n (by decide) (by omega), nat_join 15 32768 n (by decide) (by simpa using hn)]; simp [sgn16]
set_option maxRecDepth 100000 in
set_option maxHeartbeats 2000000 in
theorem cut_mid (b x R : Nat) (sb : Bool) (hc : floatToFloatBits .f32 b .f64 = some x)
    (hA : ∀ W, Calls Try.prog 22 #[.float .f64 x] W fun e w' => e = .returned (.float .f64 R) ∧ W = w')
    (hS : ∀ W, Calls Try.prog 23 #[.float .f64 x] W fun e w' => e = .returned (.bool sb) ∧ W = w')
    (o0 : FloatKind.f32.format.order b b = some .eq)
    (p0 : (FloatKind.f64.format.order R 4679235614791434240 == some .gt) = false)
    (p1 : (FloatKind.f64.format.order R 0 == some .gt) = true)
    (p2 : (FloatKind.f64.format.order R 4039728865751334912 == some .lt) = false)
    (p3 : (FloatKind.f64.format.order R 4679240012837945344 == some .gt) = false)
    (p4 : (FloatKind.f64.format.order R 4679240012837945344 == some .eq) = false)
    (p5 : (FloatKind.f64.format.order R 4544132024016830464 == some .lt) = false)
    (q M : Nat) (hq : R / 4503599627370496 = q) (hM : R % 4503599627370496 = M) (h1 : 1009 ≤ q) (h2 : q ≤ 1038)
    (w : World) : Calls Try.prog 10 #[.float .f32 b] w (PCut w (sgn16 sb + (((q : Int) - 1023 + 1 + 13) * 1024 + (1024 + (M / 4398046511104 : Nat)))) true) := by
  have hcv := fun W => run_convert_float_float (P := Try.prog) W 30 45 .f32 .f64 b x (by kernel_rfl) (by kernel_rfl) hc
  have hMlt : M < 4503599627370496 := by omega
  have hfr := Lib.hid (fun W => frexp_any R (by omega) (by omega) W)
  rw [hq, hM] at hfr
  have hld := Lib.hid (fun W => ldexp_any M hMlt W)
  have hci := fun W => run_convert_float_int (P := Try.prog) W 45 3 .f64 .i64 _ _ (by kernel_rfl) (by kernel_rfl) (int_of M hMlt)
  have hor := or_sg sb (((q : Int) - 1023 + 1 + 13) * 1024 + (1024 + (M / 4398046511104 : Nat))) (by omega) (by omega)
  have hk : M / 4398046511104 ≤ 1023 := by omega
  have HA := Lib.hid hA
  have HS := Lib.hid hS
  clear hA hS hc hq hM hMlt
  generalize M / 4398046511104 = k at *
  generalize 4602678819172646912 + M = F at *
  generalize 4652218415073722368 + M = G at *
  rw [show ((1024 + k : Nat) : Int) = 1024 + (k : Int) by omega] at hci
  cases sb
  all_goals
    simp only [sgn16, Bool.false_eq_true, if_false, if_true] at hor ⊢
    go_enter Try.func10, Try.ntmps10
    go_wp2_with (first
      | (go_at_call 22; (with_reducible refine (HA.out _).mono ?_); rintro e w' ⟨rfl, rfl⟩)
      | (go_at_call 24; (with_reducible refine (hfr.out _).mono ?_); rintro e w' ⟨rfl, rfl⟩)
      | (go_at_call 25; (with_reducible refine (hld.out _).mono ?_); rintro e w' ⟨rfl, rfl⟩)
      | (go_at_call 23; (with_reducible refine (HS.out _).mono ?_); rintro e w' ⟨rfl, rfl⟩))
    go_ret2
    exact ⟨by first | rfl | (simp only [Int.zero_add]; rfl), by go_grown⟩
def nanY (b : Nat) (W : World) : Nat := (Question.nanConv .f64 b).cut (W.tape W.drawn (Question.nanConv .f64 b))
theorem nan_conv (b : Nat) (h : 2139095040 < b % 2147483648) (W : World) : (convert 30 45 (.float .f32 b)).run Try.prog W = .ok (.float .f64 (nanY b W)) W.drew := by
  obtain ⟨s, f, hd⟩ := read_nan b h
  have h1 : Try.prog.underlying 30 = some (.float .f32) := by kernel_rfl
  have h2 : Try.prog.underlying 45 = some (.float .f64) := by kernel_rfl
  simp [convert, run_underlying h1, run_underlying h2, Conv.floatToFloat, hd]
  rw [if_neg (by simp [Question.forced])]
  rfl
set_option maxRecDepth 100000 in
set_option maxHeartbeats 2000000 in
theorem cut_nan (b : Nat) (h : 2139095040 < b % 2147483648) (w : World) : Calls Try.prog 10 #[.float .f32 b] w (PCut w 0 false) := by
  have hcv := fun W => nan_conv b h W
  have o0 : (FloatKind.f32.format.order b b != some .eq) = true := by
    rw [show FloatKind.f32.format.order b b = none from sgl_nan b h]; rfl
  clear h
  generalize nanY b = Y at hcv
  go_enter Try.func10, Try.ntmps10
  go_wp2_with (first
      | (go_at_call 22; (with_reducible refine (abs_some _ _).mono ?_); rintro e w' ⟨⟨y, rfl⟩, rfl⟩)
      | (go_at_call 23; (with_reducible refine (signbit_any _ _).mono ?_); rintro e w' ⟨rfl, rfl⟩))
  all_goals go_ret2
  all_goals exact ⟨rfl, by go_grown⟩
set_option maxRecDepth 100000 in
theorem sgn_of (b R : Nat) (hb : b < 4294967296) (h : R < 9223372036854775808) : decide (wrap64 ((sg b + R : Nat) : Int) < 0) = decide (b / 2147483648 = 1) := by
  have h1 : b / 2147483648 = 0 ∨ b / 2147483648 = 1 := by omega
  rcases h1 with e | e
  · have : sg b = 0 := by unfold sg; rw [e]; rfl
    rw [this, e, decide_eq_decide]
    unfold wrap64; omega
  · have : sg b = 9223372036854775808 := by unfold sg; rw [e]; rfl
    rw [this, e, decide_eq_decide]
    unfold wrap64; omega
def PC2 (b : Nat) (w : World) (e : Ending) (w' : World) : Prop := ∃ (n : Int) (k : Bool), e = .returned (.tuple #[.int .u16 n, .bool k]) ∧ (k = true → n = ((hnew b : Nat) : Int)) ∧ Grown w w'
theorem pc2_no {b : Nat} {w w' : World} {n : Int} {e : Ending} (h : PCut w n false e w') : PC2 b w e w' := ⟨n, false, h.1, (fun h => by cases h), h.2⟩
theorem pc2_yes {b : Nat} {w w' : World} {n : Int} {e : Ending} (h : PCut w n true e w') (hn : n = ((hnew b : Nat) : Int)) : PC2 b w e w' := ⟨n, true, h.1, fun _ => hn, h.2⟩
theorem sgn16_of (b : Nat) (hb : b < 4294967296) : sgn16 (decide (b / 2147483648 = 1)) = ((b / 2147483648 * 32768 : Nat) : Int) := by
  have h1 : b / 2147483648 = 0 ∨ b / 2147483648 = 1 := by omega
  rcases h1 with e | e <;> rw [e] <;> rfl
set_option maxRecDepth 100000 in
theorem cut_any (b : Nat) (hb : b < 4294967296) (w : World) : Calls Try.prog 10 #[.float .f32 b] w (PC2 b w) := by
  have hr : b % 2147483648 < 2147483648 := Nat.mod_lt _ (by omega)
  have he : b / 8388608 % 256 = b % 2147483648 / 8388608 := by omega
  have hf : b / 8192 % 1024 = b % 2147483648 % 8388608 / 8192 := by omega
  have hs := sgn16_of b hb
  by_cases c0 : 2139095040 < b % 2147483648
  · exact (cut_nan b c0 w).mono fun e w' h => pc2_no h
  · have o0 : FloatKind.f32.format.order b b = some .eq := sgl_self b (by omega)
    by_cases c1 : b % 2147483648 = 0
    · have hc := conv_zero b c1
      refine (cut_zero b _ 0 _ hc (fun W => abs_is b 0 (by omega) W) (fun W => by have := signbit_any (sg b + 0) W; rwa [sgn_of b 0 hb (by omega)] at this) o0 ?_ ?_ ?_ ?_ ?_ w).mono fun e w' h => pc2_yes h ?_
      · rw [ord_gt (by omega) (by omega)]; decide
      · rw [ord_gt (by omega) (by omega)]; decide
      · rw [ord_gt (by omega) (by omega)]; decide
      · rw [ord_eq (by omega) (by omega)]; decide
      · rw [ord_lt (by omega) (by omega)]; decide
      · rw [hs]; unfold hnew; rw [he, hf, c1]; simp
    · by_cases c2 : b % 2147483648 < 8388608
      · obtain ⟨R, hc, hR0, hR1⟩ := conv_sub b (by omega) c2
        refine (cut_sub b _ R _ hc (fun W => abs_is b R (by omega) W) (fun W => signbit_any _ W) o0 ?_ ?_ ?_ w).mono fun e w' h => pc2_no h
        · rw [ord_gt (by omega) (by omega), decide_eq_false_iff_not]; omega
        · rw [ord_gt (by omega) (by omega), decide_eq_true_iff]; omega
        · rw [ord_lt (by omega) (by omega), decide_eq_true_iff]; omega
      · have hc : ∃ R, floatToFloatBits .f32 b .f64 = some (sg b + R) ∧ R = b % 2147483648 * 536870912 + 4035225266123964416 ∧ R ≤ 9218868437227405312 ∨ (floatToFloatBits .f32 b .f64 = some (sg b + R) ∧ R = 9218868437227405312 ∧ b % 2147483648 = 2139095040) := by
          by_cases c3 : b % 2147483648 = 2139095040
          · exact ⟨_, .inr ⟨conv_inf b c3, rfl, c3⟩⟩
          · exact ⟨_, .inl ⟨conv_norm b (by omega) (by omega), rfl, by omega⟩⟩
        obtain ⟨R, hc⟩ := hc
        have hconv : floatToFloatBits .f32 b .f64 = some (sg b + R) := by rcases hc with h | h <;> exact h.1
        have hRle : R ≤ 9218868437227405312 := by rcases hc with h | h <;> omega
        have hA := fun W => abs_is b R (by omega) W
        have hS := fun W => by have := signbit_any (sg b + R) W; rwa [sgn_of b R hb (by omega)] at this
        by_cases c4 : 1199570944 ≤ b % 2147483648
        · have hbig : 4679240012837945344 ≤ R := by rcases hc with h | h <;> omega
          refine (cut_big b _ R _ hconv hA hS o0 ?_ ?_ ?_ ?_ ?_ w).mono fun e w' h => pc2_yes h ?_
          · rw [ord_gt (by omega) (by omega), decide_eq_true_iff]; omega
          · rw [ord_lt (by omega) (by omega), decide_eq_false_iff_not]; omega
          · rw [ord_gt (by omega) (by omega), decide_eq_true_iff]; omega
          · rw [ord_lt (by omega) (by omega), decide_eq_false_iff_not]; omega
          · rw [ord_gt (by omega) (by omega), ord_eq (by omega) (by omega)]; simp; omega
          · rw [hs]; unfold hnew; rw [he, hf]
            have e1 : b % 2147483648 / 8388608 ≠ 0 := by omega
            rw [if_neg e1]
            by_cases c5 : b % 2147483648 / 8388608 = 255
            · rw [if_pos c5, show b % 2147483648 % 8388608 / 8192 = 0 by omega]; omega
            · rw [if_neg c5, if_pos (by omega)]; omega
        · have hReq : R = b % 2147483648 * 536870912 + 4035225266123964416 := by rcases hc with h | h <;> omega
          clear hc
          by_cases c5 : 1199562752 < b % 2147483648
          · refine (cut_gap b _ R _ hconv hA hS o0 ?_ ?_ w).mono fun e w' h => pc2_no h
            · rw [ord_gt (by omega) (by omega), decide_eq_true_iff]; omega
            · rw [ord_lt (by omega) (by omega), decide_eq_true_iff]; omega
          · by_cases c6 : b % 2147483648 < 947912704
            · refine (cut_small b _ R _ hconv hA hS o0 ?_ ?_ ?_ ?_ ?_ ?_ w).mono fun e w' h => pc2_yes h ?_
              · rw [ord_gt (by omega) (by omega), decide_eq_false_iff_not]; omega
              · rw [ord_gt (by omega) (by omega), decide_eq_true_iff]; omega
              · rw [ord_lt (by omega) (by omega), decide_eq_false_iff_not]; omega
              · rw [ord_gt (by omega) (by omega), decide_eq_false_iff_not]; omega
              · rw [ord_eq (by omega) (by omega), decide_eq_false_iff_not]; omega
              · rw [ord_lt (by omega) (by omega), decide_eq_true_iff]; omega
              · rw [hs]; unfold hnew; rw [he, hf, if_neg (by omega), if_neg (by omega), if_neg (by omega), if_pos (by omega)]; simp
            · refine (cut_mid b _ R _ hconv hA hS o0 ?_ ?_ ?_ ?_ ?_ ?_ (b % 2147483648 / 8388608 + 896) (b % 2147483648 % 8388608 * 536870912) (by omega) (by omega) (by omega) (by omega) w).mono fun e w' h => pc2_yes h ?_
              · rw [ord_gt (by omega) (by omega), decide_eq_false_iff_not]; omega
              · rw [ord_gt (by omega) (by omega), decide_eq_true_iff]; omega
              · rw [ord_lt (by omega) (by omega), decide_eq_false_iff_not]; omega
              · rw [ord_gt (by omega) (by omega), decide_eq_false_iff_not]; omega
              · rw [ord_eq (by omega) (by omega), decide_eq_false_iff_not]; omega
              · rw [ord_lt (by omega) (by omega), decide_eq_false_iff_not]; omega
              · rw [hs]; unfold hnew; rw [he, hf, if_neg (by omega), if_neg (by omega), if_neg (by omega), if_neg (by omega)]; omega
end Go.Proofs.Ytocpkfaoapbjgaa
