/- Bits counted: BitIsSet, Uint64, BitList. -/
import Derived.Test.YtfodkdadbcojeaaDoorC2
import Derived.Test.YtfodkdadbcojeaaDoorG3
import Derived.Deep.QuietTactic
import Derived.BigQuiet
import Derived.Lib.EndianBits
set_option linter.unusedVariables false
set_option linter.unusedSimpArgs false
namespace Go.Proofs.YtfodkdadbcojeaaDoor
open Go.ChangeShapes Go.WideShapes Go.ChangeAt Go.RowKit Go
theorem and_pow_ne (x k : Nat) (hx : x < 256) (hk : k < 8) : (bits .and .u8 (x : Int) ((2 ^ k : Nat) : Int) == 0) = !x.testBit k := by
  rw [u8_and_nat x (2 ^ k) hx (pow_lt8 hk)]
  have hp := Nat.two_pow_pos k
  cases hb : x.testBit k
  · have h : x &&& 2 ^ k = 0 := by
      apply Nat.eq_of_testBit_eq; intro j
      rw [Nat.testBit_and, Nat.testBit_two_pow]
      by_cases hj : k = j
      · subst hj; rw [hb]; simp
      · simp [hj]
    rw [h]; rfl
  · have h : x &&& 2 ^ k ≠ 0 := by
      intro h
      have := congrArg (fun y => y.testBit k) h
      simp only [Nat.testBit_and, hb, Nat.testBit_two_pow_self, Nat.zero_testBit, Bool.and_true] at this
      cases this
    have h2 : ((x &&& 2 ^ k : Nat) : Int) ≠ 0 := by omega
    simp only [Bool.not_true, beq_eq_false_iff_ne, ne_eq]
    exact h2
set_option maxRecDepth 100000 in
set_option maxHeartbeats 4000000 in
theorem isSet_any (w : World) (b off n c i : Nat) (d : List Nat) (hs : Small d) (hi : i < 8 * n) (hn : n ≤ 1048576) (hx : w.cell? ⟨b, off + i / 8, none⟩ = some (.int .u8 ((d.getD (i / 8) 0 : Nat) : Int))) (hM : Msk w) :
    Calls Tryd.prog 49 #[.slice (some ⟨b, off, none⟩) n c, .int .i64 (i : Int)] w fun e w' => e = .returned (.bool (bitAt d i)) ∧ Mod [] w w' := by
  have h1 : i / 8 < n := by omega
  have hm := hM (i % 8) (by omega)
  have h2 := and_pow_ne (d.getD (i / 8) 0) (i % 8) (hs.get _) (by omega)
  have h3 := hs.get (i / 8)
  have hb : bitAt d i = (d.getD (i / 8) 0).testBit (i % 8) := rfl
  have hmod : i % 256 % 8 = i % 8 := by omega
  generalize d.getD (i / 8) 0 = x at hx h2 h3 hb
  have hp : 2 ^ (i % 8) < 256 := pow_lt8 (by omega)
  generalize 2 ^ (i % 8) = m at hm h2 hp
  have H := Lib.hid (And.intro h2 hb)
  clear h2 hb hM
  clear hmod
  go_enter Tryd.func49, Tryd.ntmps49
  go_wp2_with fail
  go_region
  go_wp2
  go_ret
  exact ⟨ret_bool (by rw [bne, H.out.1, H.out.2]; simp), by (repeat' (first | exact Mod.refl _ _ | assumption | apply Mod.drew | apply Mod.drewN | apply Mod.alloc | (refine Mod.setCell ?_ (by first | (left; simp; done) | (right; first | omega | (simp; omega) | (simp; done))) _)))⟩
set_option maxRecDepth 100000 in
set_option maxHeartbeats 8000000 in
theorem le64_any (w : World) (g o n c b0 b1 b2 b3 b4 b5 b6 b7 : Nat) (hn : 8 ≤ n) (hs : Small [b0, b1, b2, b3, b4, b5, b6, b7])
    (hc : ∀ j, j < 8 → w.cell? ⟨g, o + j, none⟩ = some (.int .u8 (([b0, b1, b2, b3, b4, b5, b6, b7].getD j 0 : Nat) : Int))) :
    Calls Tryd.prog 72 #[.agg #[], .slice (some ⟨g, o, none⟩) n c] w fun e w' => e = .returned (.int .u64 (le [b0, b1, b2, b3, b4, b5, b6, b7] : Int)) ∧ Mod [] w w' := by
  have hmo : Mod [] w (w.alloc (.cells #[] 91)) := by (repeat' (first | exact Mod.refl _ _ | assumption | apply Mod.drew | apply Mod.drewN | apply Mod.alloc | (refine Mod.setCell ?_ (by first | (left; simp; done) | (right; first | omega | (simp; omega) | (simp; done))) _)))
  have d0 := hmo.cell (hc 0 (by omega)) (by simp)
  have d1 := hmo.cell (hc 1 (by omega)) (by simp)
  have d2 := hmo.cell (hc 2 (by omega)) (by simp)
  have d3 := hmo.cell (hc 3 (by omega)) (by simp)
  have d4 := hmo.cell (hc 4 (by omega)) (by simp)
  have d5 := hmo.cell (hc 5 (by omega)) (by simp)
  have d6 := hmo.cell (hc 6 (by omega)) (by simp)
  have d7 := hmo.cell (hc 7 (by omega)) (by simp)
  simp only [List.getD_cons_zero, List.getD_cons_succ, Nat.add_zero] at d0 d1 d2 d3 d4 d5 d6 d7
  have h0 : b0 < 256 := hs b0 (by simp)
  have h1 : b1 < 256 := hs b1 (by simp)
  have h2 : b2 < 256 := hs b2 (by simp)
  have h3 : b3 < 256 := hs b3 (by simp)
  have h4 : b4 < 256 := hs b4 (by simp)
  have h5 : b5 < 256 := hs b5 (by simp)
  have h6 : b6 < 256 := hs b6 (by simp)
  have h7 : b7 < 256 := hs b7 (by simp)
  have hv : ((le [b0, b1, b2, b3, b4, b5, b6, b7] : Nat) : Int) = (b0 : Int) + (b1 : Int) * 256 + (b2 : Int) * 65536 + (b3 : Int) * 16777216 + (b4 : Int) * 4294967296 + (b5 : Int) * 1099511627776 + (b6 : Int) * 281474976710656 + (b7 : Int) * 72057594037927936 := by
    simp only [le]
    push_cast
    omega
  have HV := Lib.hid hv
  clear hv hc hs
  have q0 : 0 < n := by omega
  have q1 : (1 : Int) < (n : Int) := by omega
  have q2 : (2 : Int) < (n : Int) := by omega
  have q3 : (3 : Int) < (n : Int) := by omega
  have q4 : (4 : Int) < (n : Int) := by omega
  have q5 : (5 : Int) < (n : Int) := by omega
  have q6 : (6 : Int) < (n : Int) := by omega
  have q7 : (7 : Int) < (n : Int) := by omega
  go_enter Tryd.func72, Tryd.ntmps72
  go_wp2
  go_quiet (fail)
  go_wp2
  go_ret
  refine ⟨ret_int ?_, ?_⟩
  · rw [HV.out]
    simp (disch := omega) only [u64_wrap_id, u64_or8, u64_or16, u64_or24, u64_or32, u64_or40, u64_or48, u64_or56]
  · (repeat' (first | exact Mod.refl _ _ | assumption | apply Mod.drew | apply Mod.drewN | apply Mod.alloc | (refine Mod.setCell ?_ (by first | (left; simp; done) | (right; first | omega | (simp; omega) | (simp; done))) _)))
end Go.Proofs.YtfodkdadbcojeaaDoor
