/- Bits counted: the library's two counters, small helpers. -/
import Derived.Test.YtfodkdadbcojeaaDoorR1
import Derived.Test.YtfodkdadbcojeaaDoorC1
import Derived.Laws.BitsAllLaws
import Derived.Lib.QuoteBits
set_option linter.unusedVariables false
set_option linter.unusedSimpArgs false
namespace Go.Proofs.YtfodkdadbcojeaaDoor
open Go.ChangeShapes Go.WideShapes Go.ChangeAt Go.RowKit
theorem wrap_u64 (n : Nat) (h : n < 18446744073709551616) : IntKind.u64.wrap (n : Int) = (n : Int) := by
  simp [IntKind.wrap, IntKind.signed, IntKind.bits]; omega
theorem and64k (a : Nat) (k : Nat) (ha : a < 18446744073709551616) (hk : k < 18446744073709551616) : bits .and .u64 (a : Int) (k : Int) = ((a &&& k : Nat) : Int) := u64_and_nat a k ha hk
theorem oc64_arith (d : List Nat) (hs : Small d) (hl : d.length = 8) (y1 y2 y3 y4 y5 y6 : Nat)
    (h1 : y1 = (le d / 2 &&& 6148914691236517205) + (le d &&& 6148914691236517205)) (h2 : y2 = (y1 / 4 &&& 3689348814741910323) + (y1 &&& 3689348814741910323)) (h3 : y3 = (y2 / 16 + y2) &&& 1085102592571150095)
    (h4 : y4 = y3 + y3 / 256) (h5 : y5 = y4 + y4 / 65536) (h6 : y6 = y5 + y5 / 4294967296) : y1 < 18446744073709551616 ∧ y2 < 18446744073709551616 ∧ y2 / 16 + y2 < 18446744073709551616 ∧ y3 < 18446744073709551616 ∧ y4 < 18446744073709551616 ∧ y5 < 18446744073709551616 ∧ y6 < 9223372036854775808 ∧ y6 % 128 = (d.map pc8).sum := by
  have e1 : y1 = s1 (rep 85 8) (le d) := h1
  have e2 : y2 = s2 (rep 51 8) y1 := h2
  have e3 : y3 = s3 (rep 15 8) y2 := h3
  have hb1 : y1 ≤ 6148914691236517205 + 6148914691236517205 := by rw [h1]; exact Nat.add_le_add Nat.and_le_right Nat.and_le_right
  have hb2 : y2 ≤ 3689348814741910323 + 3689348814741910323 := by rw [h2]; exact Nat.add_le_add Nat.and_le_right Nat.and_le_right
  have hb3 : y3 ≤ 1085102592571150095 := by rw [h3]; exact Nat.and_le_right
  have hsw := swar d hs
  rw [hl] at hsw
  rw [← e1, ← e2, ← e3] at hsw
  match d, hl, hs with
  | [p0, p1, p2, p3, p4, p5, p6, p7], _, hs =>
    have hf := fold8 (pc8 p0) (pc8 p1) (pc8 p2) (pc8 p3) (pc8 p4) (pc8 p5) (pc8 p6) (pc8 p7) (pc8_le _) (pc8_le _) (pc8_le _) (pc8_le _) (pc8_le _) (pc8_le _) (pc8_le _) (pc8_le _) y3 y4 y5 y6 hsw h4 h5 h6
    refine ⟨by omega, by omega, by omega, by omega, hf.2.2.1, hf.2.1, hf.1, ?_⟩
    rw [hf.2.2.2]
    simp [Nat.add_assoc]
theorem and127_i64 (x : Nat) (h : x < 9223372036854775808) : bits .and .i64 (x : Int) 127 = ((x % 128 : Nat) : Int) := by
  show IntKind.i64.wrap ((BitVec.ofInt 64 (x : Int) &&& BitVec.ofInt 64 ((127 : Nat) : Int)).toNat : Int) = _
  rw [BitVec.toNat_and, ofInt_u64 x (by omega), ofInt_u64 127 (by omega), show (127 : Nat) = 2 ^ 7 - 1 from rfl, Nat.and_two_pow_sub_one_eq_mod]
  exact Lib.wrap_i64_small _ (by omega)
theorem andNot7_i64 (i : Nat) (h : i < 9223372036854775807) : bits .andNot .i64 (i : Int) 7 = ((i / 8 * 8 : Nat) : Int) := by
  show IntKind.i64.wrap ((BitVec.ofInt 64 (i : Int) &&& ~~~BitVec.ofInt 64 ((7 : Nat) : Int)).toNat : Int) = _
  rw [BitVec.toNat_and, BitVec.toNat_not, ofInt_u64 i (by omega), ofInt_u64 7 (by omega)]
  have e : 2 ^ 64 - 1 - 7 = 18446744073709551608 := by decide
  rw [e, nat_hi64_3, Nat.mod_eq_of_lt (by omega)]
  exact Lib.wrap_i64_small _ (by omega)
theorem divNat (a k : Nat) : ((a : Int) / (k : Int)) = ((a / k : Nat) : Int) := by simp
set_option maxRecDepth 100000 in
theorem oc64_any (w : World) (d : List Nat) (hs : Small d) (hl : d.length = 8) :
    Calls Tryd.prog 47 #[.int .u64 (le d : Int)] w fun e w' => e = .returned (.int .i64 ((d.map pc8).sum : Int)) ∧ w = w' := by
  have hx : le d < 18446744073709551616 := by have := le_lt d hs; rw [hl] at this; exact this
  have ar := oc64_arith d hs hl _ _ _ _ _ _ rfl rfl rfl rfl rfl rfl
  generalize le d = x at hx ar
  obtain ⟨k1, k2, k3, k4, k5, k6, k7, k8⟩ := ar
  generalize g1 : (x / 2 &&& 6148914691236517205) + (x &&& 6148914691236517205) = y1 at *
  generalize g2 : (y1 / 4 &&& 3689348814741910323) + (y1 &&& 3689348814741910323) = y2 at *
  generalize g3 : (y2 / 16 + y2) &&& 1085102592571150095 = y3 at *
  generalize g4 : y3 + y3 / 256 = y4 at *
  generalize g5 : y4 + y4 / 65536 = y5 at *
  generalize g6 : y5 + y5 / 4294967296 = y6 at *
  have f1 : IntKind.u64.wrap (bits BinOp.and IntKind.u64 ((x : Int) / 2) 6148914691236517205 + bits BinOp.and IntKind.u64 (x : Int) 6148914691236517205) = (y1 : Int) := by
    have h1 := and64k (x / 2) 6148914691236517205 (by omega) (by decide)
    have h2 := and64k x 6148914691236517205 hx (by decide)
    rw [show ((x : Int) / 2) = ((x / 2 : Nat) : Int) from divNat x 2]
    rw [show ((6148914691236517205 : Nat) : Int) = 6148914691236517205 from rfl] at h1 h2
    rw [h1, h2, ← Int.natCast_add, g1, wrap_u64 _ k1]
  have f2 : IntKind.u64.wrap (bits BinOp.and IntKind.u64 ((y1 : Int) / 4) 3689348814741910323 + bits BinOp.and IntKind.u64 (y1 : Int) 3689348814741910323) = (y2 : Int) := by
    have h1 := and64k (y1 / 4) 3689348814741910323 (by omega) (by decide)
    have h2 := and64k y1 3689348814741910323 k1 (by decide)
    rw [show ((y1 : Int) / 4) = ((y1 / 4 : Nat) : Int) from divNat y1 4]
    rw [show ((3689348814741910323 : Nat) : Int) = 3689348814741910323 from rfl] at h1 h2
    rw [h1, h2, ← Int.natCast_add, g2, wrap_u64 _ k2]
  have f3 : bits BinOp.and IntKind.u64 (IntKind.u64.wrap ((y2 : Int) / 16 + (y2 : Int))) 1085102592571150095 = (y3 : Int) := by
    have h1 := and64k (y2 / 16 + y2) 1085102592571150095 k3 (by decide)
    rw [show ((y2 : Int) / 16 + (y2 : Int)) = ((y2 / 16 + y2 : Nat) : Int) by simp]
    rw [show ((1085102592571150095 : Nat) : Int) = 1085102592571150095 from rfl] at h1
    rw [wrap_u64 _ k3, h1, g3]
  have f4 : IntKind.u64.wrap ((y3 : Int) + (y3 : Int) / 256) = (y4 : Int) := by
    rw [show ((y3 : Int) + (y3 : Int) / 256) = ((y3 + y3 / 256 : Nat) : Int) by simp, g4, wrap_u64 _ k5]
  have f5 : IntKind.u64.wrap ((y4 : Int) + (y4 : Int) / 65536) = (y5 : Int) := by
    rw [show ((y4 : Int) + (y4 : Int) / 65536) = ((y4 + y4 / 65536 : Nat) : Int) by simp, g5, wrap_u64 _ k6]
  have f6 : IntKind.u64.wrap ((y5 : Int) + (y5 : Int) / 4294967296) = (y6 : Int) := by
    rw [show ((y5 : Int) + (y5 : Int) / 4294967296) = ((y5 + y5 / 4294967296 : Nat) : Int) by simp, g6, wrap_u64 _ (by omega)]
  have F := Lib.hid (And.intro f1 (And.intro f2 (And.intro f3 (And.intro f4 (And.intro f5 f6)))))
  clear f1 f2 f3 f4 f5 f6
  have K := Lib.hid (And.intro k7 k8)
  clear k1 k2 k3 k4 k5 k6 k7 k8 g1 g2 g3 g4 g5 g6
  go_enter Tryd.func47, Tryd.ntmps47
  go_wp2
  go_ret
  refine ⟨ret_int ?_, rfl⟩
  obtain ⟨f1, f2, f3, f4, f5, f6⟩ := F.out
  rw [f1, f2, f3, f4, f5, f6]
  obtain ⟨k7, k8⟩ := K.out
  rw [IntWalk.wrap64_in _ (by omega)]
  rw [and127_i64 _ k7, k8]
set_option maxRecDepth 100000 in
theorem oc8_any (w : World) (x : Nat) (hx : x < 256) :
    Calls Tryd.prog 48 #[.int .u8 (x : Int)] w fun e w' => e = .returned (.int .i64 (pc8 x : Int)) ∧ w = w' := by
  go_enter Tryd.func48, Tryd.ntmps48
  go_wp2
  go_ret
  refine ⟨ret_int ?_, rfl⟩
  obtain ⟨y, rfl⟩ : ∃ y : Fin 256, y.val = x := ⟨⟨x, hx⟩, rfl⟩
  clear hx
  rename_i hlt
  try clear w
  revert hlt y
  decide +kernel
theorem min_any (w : World) (x y : Int) :
    Calls Tryd.prog 53 #[.int .i64 x, .int .i64 y] w fun e w' => e = .returned (.int .i64 (if x < y then x else y)) ∧ w = w' := by
  go_enter Tryd.func53, Tryd.ntmps53
  go_wp2
  all_goals (go_ret; refine ⟨ret_int ?_, rfl⟩)
  all_goals rfl
theorem roundUp_any (w : World) (x : Nat) (hx : x ≤ 65536) :
    Calls Tryd.prog 71 #[.int .i64 (x : Int), .int .i64 64] w fun e w' => e = .returned (.int .i64 (((x + 63) / 64 * 64 : Nat) : Int)) ∧ w = w' := by
  go_enter Tryd.func71, Tryd.ntmps71
  go_wp2
  all_goals (go_ret; refine ⟨ret_int ?_, rfl⟩)
  all_goals omega
theorem bfb_any (w : World) (x : Nat) (hx : x ≤ 65536) :
    Calls Tryd.prog 55 #[.int .i64 (x : Int)] w fun e w' => e = .returned (.int .i64 (((x + 7) / 8 : Nat) : Int)) ∧ w = w' := by
  go_enter Tryd.func55, Tryd.ntmps55
  go_wp2
  all_goals (go_ret; refine ⟨ret_int ?_, rfl⟩)
  all_goals omega
end Go.Proofs.YtfodkdadbcojeaaDoor
