/- The word reader: its small functions, a whole word. (YtcjjajbpjfamfaaDoor) -/
import Derived.Test.YtcjjajbpjfamfaaDoorX5
import Derived.Test.YtcjjajbpjfamfaaDoorX6
set_option linter.unusedVariables false
set_option linter.unusedSimpArgs false
namespace Go.Proofs.YtcjjajbpjfamfaaDoor
open Go.ChangeShapes Go.WideShapes Go.ChangeAt Go.RowKit
theorem toLE_any (w : World) (v : Value) : Calls Tryd.prog 32 #[v] w fun e w' => e = .returned v ∧ w = w' := by
  go_enter Tryd.func32, Tryd.ntmps32
  go_wp2
  go_ret
  exact ⟨rfl, rfl⟩
theorem assert_any (w : World) (a b : Value) : Calls Tryd.prog 36 #[a, b] w fun e w' => e = .returned (.tuple #[]) ∧ w = w' := by
  go_enter Tryd.func36, Tryd.ntmps36
  go_wp2
  go_returns
  exact ⟨rfl, rfl⟩
theorem words_any (w : World) (P n : Nat) (a0 a1 a3 a4 a5 : Value) (h : Blk w P 60 #[a0, a1, .int .i64 n, a3, a4, a5]) : Calls Tryd.prog 26 #[.pointer (some ⟨P, 0, none⟩)] w fun e w' => e = .returned (.int .i64 n) ∧ w = w' := by
  obtain ⟨c0, c1, c2, c3, c4, c5⟩ := blk6 h
  clear h
  go_enter Tryd.func26, Tryd.ntmps26
  go_wp2
  go_ret
  exact ⟨rfl, rfl⟩
theorem tbytes_any (w : World) (P n : Nat) (a0 a1 a2 a3 a5 : Value) (h : Blk w P 60 #[a0, a1, a2, a3, .int .i64 n, a5]) : Calls Tryd.prog 29 #[.pointer (some ⟨P, 0, none⟩)] w fun e w' => e = .returned (.int .i64 n) ∧ w = w' := by
  obtain ⟨c0, c1, c2, c3, c4, c5⟩ := blk6 h
  clear h
  go_enter Tryd.func29, Tryd.ntmps29
  go_wp2
  go_ret
  exact ⟨rfl, rfl⟩
theorem bfb_any (w : World) (x : Nat) (hx : x ≤ 1048576) : Calls Tryd.prog 19 #[.int .i64 x] w fun e w' => e = .returned (.int .i64 (((x + 7) / 8 : Nat) : Int)) ∧ w = w' := by
  go_enter Tryd.func19, Tryd.ntmps19
  go_wp2
  go_ret
  exact ⟨ret_int (by omega), rfl⟩
theorem bfb_i (w : World) (x : Int) (n : Nat) (h : x = (n : Int)) (hn : n ≤ 1048576) : Calls Tryd.prog 19 #[.int .i64 x] w fun e w' => e = .returned (.int .i64 (((n + 7) / 8 : Nat) : Int)) ∧ w = w' := by subst h; exact bfb_any w n hn
theorem getLSB_any (w : World) (v : Nat) (hv : v < 18446744073709551616) : Calls Tryd.prog 40 #[.int .u64 v] w fun e w' => e = .returned (.int .u8 ((v % 256 : Nat) : Int)) ∧ w = w' := by
  go_enter Tryd.func40, Tryd.ntmps40
  go_wp2
  go_ret
  exact ⟨ret_int (by omega), rfl⟩
def lsb (v b : Nat) : Nat := v / 256 * 256 + b
theorem lsb_bits (v b : Nat) (hv : v < 18446744073709551616) (hb : b < 256) : bits .or .u64 (bits .andNot .u64 (v : Int) 255) (b : Int) = ((lsb v b : Nat) : Int) := by
  have h1 := u64_andNot_nat v 255 hv (by decide)
  have h1' : bits .andNot .u64 (v : Int) 255 = ((v &&& (18446744073709551615 - 255) : Nat) : Int) := h1
  have hlt : v &&& (18446744073709551615 - 255) < 18446744073709551616 := Nat.lt_of_le_of_lt Nat.and_le_left hv
  rw [h1', u64_or_nat _ b hlt (by omega)]
  congr 1
  apply Nat.eq_of_testBit_eq
  intro j
  have e : lsb v b = 2 ^ 8 * (v / 256) + b := by unfold lsb; omega
  rw [e, Nat.testBit_two_pow_mul_add _ hb, Nat.testBit_or, Nat.testBit_and]
  have hm : (18446744073709551615 - 255 : Nat).testBit j = (decide (8 ≤ j) && decide (j < 64)) := by
    have e2 : (18446744073709551615 - 255 : Nat) = 2 ^ 8 * (2 ^ 56 - 1) + 0 := by decide
    rw [e2, Nat.testBit_two_pow_mul_add _ (by decide)]
    by_cases hj : j < 8
    · rw [if_pos hj]; simp; omega
    · rw [if_neg hj, Nat.testBit_two_pow_sub_one]; simp only [show 8 ≤ j by omega, decide_true, Bool.true_and, decide_eq_decide]; omega
  rw [hm]
  by_cases hj : j < 8
  · rw [if_pos hj]; simp; omega
  · rw [if_neg hj, testBit_big hb (by omega), Bool.or_false]
    have e3 : v / 256 = v / 2 ^ 8 := rfl
    rw [e3, Nat.testBit_div_two_pow]
    have e4 : j - 8 + 8 = j := by omega
    rw [e4]
    by_cases h64 : j < 64
    · simp [h64]; omega
    · have h2 : (2 : Nat) ^ 64 ≤ 2 ^ j := Nat.pow_le_pow_right (by decide) (by omega)
      have this : v.testBit j = false := Nat.testBit_lt_two_pow (Nat.lt_of_lt_of_le (show v < 2 ^ 64 from hv) h2)
      rw [this]; simp
theorem setLSB_any (w : World) (P i v b : Nat) (hv : v < 18446744073709551616) (hb : b < 256) (hc : w.cell? ⟨P, i, none⟩ = some (.int .u64 v)) (hf : w.frozen? ⟨P, i, none⟩ = false) :
    Calls Tryd.prog 34 #[.pointer (some ⟨P, i, none⟩), .int .u8 b] w fun e w' => e = .returned (.tuple #[]) ∧ w.setCell ⟨P, i, none⟩ (.int .u64 (lsb v b : Int)) = w' := by
  have hl := hide (lsb_bits v b hv hb)
  go_enter Tryd.func34, Tryd.ntmps34
  go_wp2
  go_returns
  exact ⟨rfl, by rw [unhide hl]⟩
/-- a word, shifted together out of two. -/
def shw (s A B : Nat) : Nat := if s = 0 then A else A / 2 ^ s ||| B * 2 ^ (64 - s) % 18446744073709551616
theorem wrap64 (n : Nat) : IntKind.u64.wrap (n : Int) = ((n % 18446744073709551616 : Nat) : Int) := by
  simp [IntKind.wrap, IntKind.bits, IntKind.signed]
theorem shw_bits (s A B : Nat) (h0 : s ≠ 0) (hA : A < 18446744073709551616) : bits .or .u64 ((A : Int) / 2 ^ s) (IntKind.u64.wrap ((B : Int) * 2 ^ (64 - s))) = ((shw s A B : Nat) : Int) := by
  have e1 : (A : Int) / 2 ^ s = ((A / 2 ^ s : Nat) : Int) := by simp
  have e2 : (B : Int) * 2 ^ (64 - s) = ((B * 2 ^ (64 - s) : Nat) : Int) := by simp
  have h1 : A / 2 ^ s < 18446744073709551616 := Nat.lt_of_le_of_lt (Nat.div_le_self _ _) hA
  rw [e1, e2, wrap64, u64_or_nat _ _ h1 (Nat.mod_lt _ (by decide))]
  unfold shw
  rw [if_neg h0]
theorem shw_tb (s A B j : Nat) (hs : s < 8) (hA : A < 18446744073709551616) (hj : j < 64) : (shw s A B).testBit j = if j + s < 64 then A.testBit (j + s) else B.testBit (j + s - 64) := by
  have h64 : (18446744073709551616 : Nat) = 2 ^ 64 := by decide
  unfold shw
  by_cases h0 : s = 0
  · subst h0
    rw [if_pos rfl, if_pos (by omega)]; rfl
  · rw [if_neg h0, Nat.testBit_or, Nat.testBit_div_two_pow, h64, Nat.testBit_mod_two_pow, decide_eq_true hj, Bool.true_and, Nat.testBit_mul_two_pow]
    by_cases c : j + s < 64
    · rw [if_pos c]
      have : ¬ 64 - s ≤ j := by omega
      simp [this]
    · rw [if_neg c]
      have e : A.testBit (j + s) = false := Nat.testBit_lt_two_pow (Nat.lt_of_lt_of_le (show A < 2 ^ 64 from hA) (Nat.pow_le_pow_right (by decide) (by omega)))
      have : 64 - s ≤ j := by omega
      have e2 : j - (64 - s) = j + s - 64 := by omega
      simp [this, e, e2]
theorem shw_lt (s A B : Nat) (hA : A < 18446744073709551616) : shw s A B < 18446744073709551616 := by
  unfold shw
  split
  · exact hA
  · exact Nat.or_lt_two_pow (n := 64) (Nat.lt_of_le_of_lt (Nat.div_le_self _ _) hA) (Nat.mod_lt _ (by decide))
/-- a word of bits from a place on. -/
theorem shw_word {d : List Nat} (h : Small d) (s a j : Nat) (hs : s < 8) (ha : a + 16 ≤ d.length) (hj : j < 64) : (shw s (wordAt d a) (wordAt d (a + 8))).testBit j = bitAt d (8 * a + s + j) := by
  rw [shw_tb s _ _ j hs (wordAt_lt h a) hj]
  by_cases c : j + s < 64
  · rw [if_pos c, wordAt_tb h a _ c (by omega)]
    congr 1; omega
  · rw [if_neg c, wordAt_tb h (a + 8) _ (by omega) (by omega)]
    congr 1; omega
set_option maxRecDepth 100000 in
set_option maxHeartbeats 2000000 in
theorem nextW_any (w : World) (G P a m c s : Nat) (a2 a3 a4 : Value) (d : List Nat) (hs8 : s < 8) (hs : Small d) (hm : 16 ≤ m) (hmc : m ≤ c) (ha : a + 16 ≤ d.length) (hne : G ≠ P) (hr : Rdb w G d)
    (h : Blk w P 60 #[.slice (some ⟨G, a, none⟩) m c, .int .i64 s, a2, a3, a4, .int .u64 (wordAt d a)]) :
    Calls Tryd.prog 28 #[.pointer (some ⟨P, 0, none⟩)] w fun e w' => e = .returned (.int .u64 (shw s (wordAt d a) (wordAt d (a + 8)) : Int)) ∧ Blk w' P 60 #[.slice (some ⟨G, a + 8, none⟩) (m - 8) (c - 8), .int .i64 s, a2, a3, a4, .int .u64 (wordAt d (a + 8))] ∧ Mod [P] w w' := by
  obtain ⟨c0, c1, c2, c3, c4, c5⟩ := blk6 h
  have f0 := h.frozen 0
  have f5 := h.frozen 5
  have hU := hide (fun (W : World) (hm' : Mod [P] w W) => u64_any W G (a + 8) (m - 8) (c - 8) d hs (by omega) (by omega) (hr.mod hm' (by simpa using hne)))
  have hB := hide h
  clear hr h
  have HS := hide (fun h0 => shw_bits s (wordAt d a) (wordAt d (a + 8)) h0 (wordAt_lt hs a))
  generalize hA : wordAt d a = A at *
  generalize hBB : wordAt d (a + 8) = B at *
  go_enter Tryd.func28, Tryd.ntmps28
  go_upto_region 3 with (fail)
  have hB1 := b6s0 (unhide hB) (.slice (some ⟨G, a + 8, none⟩) (m - 8) (c - 8))
  have hM1 := (Mod.refl [P] w).setCell (p := ⟨P, 0, none⟩) (by simp) (.slice (some ⟨G, a + 8, none⟩) (m - 8) (c - 8))
  have hU1 := hide (fun (W : World) (hm' : Mod [] (w.setCell ⟨P, 0, none⟩ (.slice (some ⟨G, a + 8, none⟩) (m - 8) (c - 8))) W) => unhide hU W (hM1.trans hm' (by simp)))
  clear hU hB c0 c1 c2 c3 c4 c5 f0 f5
  generalize (w.setCell ⟨P, 0, none⟩ (.slice (some ⟨G, a + 8, none⟩) (m - 8) (c - 8))) = w1 at *
  obtain ⟨c0, c1, c2, c3, c4, c5⟩ := blk6 hB1
  have hBH := hide hB1
  have hMH := hide hM1
  clear hB1 hM1
  go_cut [4] (fun v4 wx => v4 = .int .u64 B ∧ Mod [] w1 wx)
  case first =>
    go_region_with (first | (go_at_call 33; (with_reducible refine (unhide hU1 _ (by (repeat' (first | (with_reducible exact Mod.refl _ _) | (with_reducible assumption) | (with_reducible refine Mod.drew ?_) | (with_reducible refine Mod.drewN ?_ _) | (with_reducible refine Mod.alloc ?_ _) | (with_reducible refine Mod.setCell ?_ ?_ _) | (left; simp; done) | (right; first | omega | (simp; omega) | (simp; done)))))).mono ?_); rintro e w' ⟨rfl, hm'⟩) | (go_at_call 32; (with_reducible refine (toLE_any _ _).mono ?_); rintro e w' ⟨rfl, rfl⟩))
    all_goals (go_wp2_with fail; go_meet; exact ⟨rfl, by first | exact Mod.trans (T := []) (by (repeat' (first | (with_reducible exact Mod.refl _ _) | (with_reducible assumption) | (with_reducible refine Mod.drew ?_) | (with_reducible refine Mod.drewN ?_ _) | (with_reducible refine Mod.alloc ?_ _) | (with_reducible refine Mod.setCell ?_ ?_ _) | (left; simp; done) | (right; first | omega | (simp; omega) | (simp; done))))) hm' (by simp) | exact (Mod.trans (T := []) (by (repeat' (first | (with_reducible exact Mod.refl _ _) | (with_reducible assumption) | (with_reducible refine Mod.drew ?_) | (with_reducible refine Mod.drewN ?_ _) | (with_reducible refine Mod.alloc ?_ _) | (with_reducible refine Mod.setCell ?_ ?_ _) | (left; simp; done) | (right; first | omega | (simp; omega) | (simp; done))))) hm' (by simp)).drew⟩)
  case rest =>
    obtain ⟨rfl, hm2⟩ := hcut
    have hB2 := (unhide hBH).mod hm2 (by simp)
    have hM2 := (unhide hMH).trans hm2 (by simp)
    obtain ⟨c0, c1, c2, c3, c4, c5⟩ := blk6 hB2
    have f5 := hB2.frozen 5
    by_cases h0 : s = 0
    · subst h0
      go_wp2_with fail
      go_ret
      have r1 := b6s5 hB2 (.int .u64 B)
      have r2 := hM2.setCell (p := ⟨P, 5, none⟩) (by simp) (.int .u64 B)
      exact ⟨rfl, by with_reducible exact r1, by with_reducible exact r2⟩
    · go_wp2_with fail
      go_ret
      have r1 := b6s5 hB2 (.int .u64 B)
      have r2 := hM2.setCell (p := ⟨P, 5, none⟩) (by simp) (.int .u64 B)
      exact ⟨ret_int (unhide HS h0), by with_reducible exact r1, by with_reducible exact r2⟩
end Go.Proofs.YtcjjajbpjfamfaaDoor
