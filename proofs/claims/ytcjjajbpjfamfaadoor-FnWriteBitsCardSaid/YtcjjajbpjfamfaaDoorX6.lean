/- Words of eight bytes, the lowest first. (YtcjjajbpjfamfaaDoor) -/
import Derived.Test.YtcjjajbpjfamfaaDoorX4
import Derived.Deep.QuietTactic
import Derived.BigQuiet
import Derived.Lib.EndianBits
set_option linter.unusedVariables false
set_option linter.unusedSimpArgs false
namespace Go.Proofs.YtcjjajbpjfamfaaDoor
open Go.ChangeShapes Go.WideShapes Go.ChangeAt Go.RowKit Go
def le : List Nat → Nat
  | [] => 0
  | b :: r => b + 256 * le r
theorem le_tb : ∀ (l : List Nat), Small l → ∀ j, (le l).testBit j = bitAt l j
  | [], _, j => by simp [le, bitAt]
  | b :: r, h, j => by
    have hb : b < 2 ^ 8 := h b (by simp)
    have hr : Small r := fun x hx => h x (by simp [hx])
    have e : le (b :: r) = 2 ^ 8 * le r + b := by simp only [le]; omega
    rw [e, Nat.testBit_two_pow_mul_add _ hb]
    by_cases hj : j < 8
    · rw [if_pos hj]
      have e1 : j / 8 = 0 := by omega
      have e2 : j % 8 = j := by omega
      unfold bitAt
      rw [e1, e2]
      rfl
    · rw [if_neg hj, le_tb r hr]
      unfold bitAt
      have e1 : j / 8 = (j - 8) / 8 + 1 := by omega
      have e2 : j % 8 = (j - 8) % 8 := by omega
      rw [e1, e2]
      rfl
theorem le_lt : ∀ (l : List Nat), Small l → le l < 256 ^ l.length
  | [], _ => by simp [le]
  | b :: r, h => by
    have hb : b < 256 := h b (by simp)
    have := le_lt r (fun x hx => h x (by simp [hx]))
    simp only [le, List.length_cons, Nat.pow_succ]
    omega
def wordAt (d : List Nat) (o : Nat) : Nat := le ((d.drop o).take 8)
theorem bitAt_window (d : List Nat) (o j : Nat) (hj : j < 64) (h : o + 8 ≤ d.length) : bitAt ((d.drop o).take 8) j = bitAt d (8 * o + j) := by
  unfold bitAt
  have e1 : (8 * o + j) / 8 = o + j / 8 := by omega
  have e2 : (8 * o + j) % 8 = j % 8 := by omega
  rw [e1, e2, List.getD_eq_getElem?_getD, List.getD_eq_getElem?_getD, List.getElem?_take_of_lt (by omega), List.getElem?_drop]
theorem wordAt_tb {d : List Nat} (h : Small d) (o j : Nat) (hj : j < 64) (ho : o + 8 ≤ d.length) : (wordAt d o).testBit j = bitAt d (8 * o + j) := by
  unfold wordAt
  rw [le_tb _ (fun x hx => h x (List.mem_of_mem_drop (List.mem_of_mem_take hx))), bitAt_window d o j hj ho]
theorem wordAt_lt {d : List Nat} (h : Small d) (o : Nat) : wordAt d o < 18446744073709551616 := by
  unfold wordAt
  have h1 := le_lt ((d.drop o).take 8) (fun x hx => h x (List.mem_of_mem_drop (List.mem_of_mem_take hx)))
  have h2 : 256 ^ ((d.drop o).take 8).length ≤ 256 ^ 8 := Nat.pow_le_pow_right (by decide) (by rw [List.length_take]; omega)
  have h3 : (256 : Nat) ^ 8 = 18446744073709551616 := by decide
  omega
def put8 (m : List Nat) (o v : Nat) : List Nat := (((((((m.set o (v % 256)).set (o + 1) (v / 256 % 256)).set (o + 2) (v / 65536 % 256)).set (o + 3) (v / 16777216 % 256)).set (o + 4) (v / 4294967296 % 256)).set (o + 5) (v / 1099511627776 % 256)).set (o + 6) (v / 281474976710656 % 256)).set (o + 7) (v / 72057594037927936)
theorem put8_length (m : List Nat) (o v : Nat) : (put8 m o v).length = m.length := by simp [put8]
theorem put8_small {m : List Nat} (h : Small m) (o v : Nat) (hv : v < 18446744073709551616) : Small (put8 m o v) := by
  unfold put8
  exact (((((((h.set _ _ (by omega)).set _ _ (by omega)).set _ _ (by omega)).set _ _ (by omega)).set _ _ (by omega)).set _ _ (by omega)).set _ _ (by omega)).set _ _ (by omega)
theorem tb_byte (v a k : Nat) (hk : k < 8) : (v / 2 ^ a % 2 ^ 8).testBit k = v.testBit (a + k) := by
  rw [Nat.testBit_mod_two_pow, Nat.testBit_div_two_pow, decide_eq_true hk, Bool.true_and, Nat.add_comm]
theorem bitAt_put8 (m : List Nat) (o v i : Nat) (hv : v < 18446744073709551616) (ho : o + 8 ≤ m.length) : bitAt (put8 m o v) i = if 8 * o ≤ i ∧ i < 8 * o + 64 then v.testBit (i - 8 * o) else bitAt m i := by
  unfold put8
  rw [bitAt_set _ _ _ _ (by simp; omega), bitAt_set _ _ _ _ (by simp; omega), bitAt_set _ _ _ _ (by simp; omega), bitAt_set _ _ _ _ (by simp; omega), bitAt_set _ _ _ _ (by simp; omega), bitAt_set _ _ _ _ (by simp; omega), bitAt_set _ _ _ _ (by simp; omega), bitAt_set _ _ _ _ (by omega)]
  have b0 := tb_byte v 0 (i % 8) (by omega)
  have b1 := tb_byte v 8 (i % 8) (by omega)
  have b2 := tb_byte v 16 (i % 8) (by omega)
  have b3 := tb_byte v 24 (i % 8) (by omega)
  have b4 := tb_byte v 32 (i % 8) (by omega)
  have b5 := tb_byte v 40 (i % 8) (by omega)
  have b6 := tb_byte v 48 (i % 8) (by omega)
  have b7 := tb_byte v 56 (i % 8) (by omega)
  have e7 : v / 2 ^ 56 % 2 ^ 8 = v / 72057594037927936 := by
    show v / 72057594037927936 % 256 = v / 72057594037927936
    omega
  rw [e7] at b7
  have e0 : v / 2 ^ 0 % 2 ^ 8 = v % 256 := by simp
  rw [e0] at b0
  change (v / 256 % 256).testBit (i % 8) = _ at b1
  change (v / 65536 % 256).testBit (i % 8) = _ at b2
  change (v / 16777216 % 256).testBit (i % 8) = _ at b3
  change (v / 4294967296 % 256).testBit (i % 8) = _ at b4
  change (v / 1099511627776 % 256).testBit (i % 8) = _ at b5
  change (v / 281474976710656 % 256).testBit (i % 8) = _ at b6
  rw [b0, b1, b2, b3, b4, b5, b6, b7]
  clear b0 b1 b2 b3 b4 b5 b6 b7 e0 e7
  by_cases c : 8 * o ≤ i ∧ i < 8 * o + 64
  · rw [if_pos c]
    have hq : i / 8 = o ∨ i / 8 = o + 1 ∨ i / 8 = o + 2 ∨ i / 8 = o + 3 ∨ i / 8 = o + 4 ∨ i / 8 = o + 5 ∨ i / 8 = o + 6 ∨ i / 8 = o + 7 := by omega
    rcases hq with h | h | h | h | h | h | h | h <;> rw [h] <;> simp <;> congr 1 <;> omega
  · rw [if_neg c, if_neg (by omega), if_neg (by omega), if_neg (by omega), if_neg (by omega), if_neg (by omega), if_neg (by omega), if_neg (by omega), if_neg (by omega)]
set_option maxRecDepth 100000 in
set_option maxHeartbeats 8000000 in
theorem le64_any (w : World) (g o n c b0 b1 b2 b3 b4 b5 b6 b7 : Nat) (hn : 8 ≤ n) (hs : Small [b0, b1, b2, b3, b4, b5, b6, b7])
    (hc : ∀ j, j < 8 → w.cell? ⟨g, o + j, none⟩ = some (.int .u8 (([b0, b1, b2, b3, b4, b5, b6, b7].getD j 0 : Nat) : Int))) :
    Calls Tryd.prog 33 #[.agg #[], .slice (some ⟨g, o, none⟩) n c] w fun e w' => e = .returned (.int .u64 (le [b0, b1, b2, b3, b4, b5, b6, b7] : Int)) ∧ Mod [] w w' := by
  have hmo : Mod [] w (w.alloc (.cells #[] 63)) := by (repeat' (first | exact Mod.refl _ _ | assumption | apply Mod.drew | apply Mod.drewN | apply Mod.alloc | (refine Mod.setCell ?_ (by first | (left; simp; done) | (right; first | omega | (simp; omega) | (simp; done))) _)))
  have d0 := hmo.cell (hc 0 (by omega)) (by simp)
  have d1 := hmo.cell (hc 1 (by omega)) (by simp)
  have d2 := hmo.cell (hc 2 (by omega)) (by simp)
  have d3 := hmo.cell (hc 3 (by omega)) (by simp)
  have d4 := hmo.cell (hc 4 (by omega)) (by simp)
  have d5 := hmo.cell (hc 5 (by omega)) (by simp)
  have d6 := hmo.cell (hc 6 (by omega)) (by simp)
  have d7 := hmo.cell (hc 7 (by omega)) (by simp)
  simp only [List.getD_cons_zero, List.getD_cons_succ, Nat.add_zero] at d0 d1 d2 d3 d4 d5 d6 d7
  have h0 : b0 < 256 := hs b0 (by simp)
  have h1 : b1 < 256 := hs b1 (by simp)
  have h2 : b2 < 256 := hs b2 (by simp)
  have h3 : b3 < 256 := hs b3 (by simp)
  have h4 : b4 < 256 := hs b4 (by simp)
  have h5 : b5 < 256 := hs b5 (by simp)
  have h6 : b6 < 256 := hs b6 (by simp)
  have h7 : b7 < 256 := hs b7 (by simp)
  have hv : ((le [b0, b1, b2, b3, b4, b5, b6, b7] : Nat) : Int) = (b0 : Int) + (b1 : Int) * 256 + (b2 : Int) * 65536 + (b3 : Int) * 16777216 + (b4 : Int) * 4294967296 + (b5 : Int) * 1099511627776 + (b6 : Int) * 281474976710656 + (b7 : Int) * 72057594037927936 := by
    simp only [le]
    push_cast
    omega
  have HV := Lib.hid hv
  clear hv hc hs
  have q0 : 0 < n := by omega
  have q1 : (1 : Int) < (n : Int) := by omega
  have q2 : (2 : Int) < (n : Int) := by omega
  have q3 : (3 : Int) < (n : Int) := by omega
  have q4 : (4 : Int) < (n : Int) := by omega
  have q5 : (5 : Int) < (n : Int) := by omega
  have q6 : (6 : Int) < (n : Int) := by omega
  have q7 : (7 : Int) < (n : Int) := by omega
  go_enter Tryd.func33, Tryd.ntmps33
  go_wp2
  go_quiet (fail)
  go_wp2
  go_ret
  refine ⟨ret_int ?_, ?_⟩
  · rw [HV.out]
    simp (disch := omega) only [u64_wrap_id, u64_or8, u64_or16, u64_or24, u64_or32, u64_or40, u64_or48, u64_or56]
  · (repeat' (first | exact Mod.refl _ _ | assumption | apply Mod.drew | apply Mod.drewN | apply Mod.alloc | (refine Mod.setCell ?_ (by first | (left; simp; done) | (right; first | omega | (simp; omega) | (simp; done))) _)))
set_option maxRecDepth 100000 in
set_option maxHeartbeats 4000000 in
theorem put64_any (w : World) (B G N cap o n c v : Nat) (mem : List Nat) (hv : v < 18446744073709551616) (hn : 8 ≤ n) (hoN : o + 8 ≤ N) (hown : w.ownsRow B 5 1 (.slice (some ⟨G, 0, none⟩) N cap) N (bv mem)) :
    Calls Tryd.prog 35 #[.agg #[], .slice (some ⟨G, o, none⟩) n c, .int .u64 v] w fun e w' => e = .returned (.tuple #[]) ∧ w'.ownsRow B 5 1 (.slice (some ⟨G, 0, none⟩) N cap) N (bv (put8 mem o v)) ∧ Mod [G] w w' := by
  have hgl := own_lt' hown
  have g0 := own_cell hown (o + 0) (by omega)
  have g1 := own_cell hown (o + 1) (by omega)
  have g2 := own_cell hown (o + 2) (by omega)
  have g3 := own_cell hown (o + 3) (by omega)
  have g4 := own_cell hown (o + 4) (by omega)
  have g5 := own_cell hown (o + 5) (by omega)
  have g6 := own_cell hown (o + 6) (by omega)
  have g7 := own_cell hown (o + 7) (by omega)
  have f0 := own_frozen hown (o + 0)
  have f1 := own_frozen hown (o + 1)
  have f2 := own_frozen hown (o + 2)
  have f3 := own_frozen hown (o + 3)
  have f4 := own_frozen hown (o + 4)
  have f5 := own_frozen hown (o + 5)
  have f6 := own_frozen hown (o + 6)
  have f7 := own_frozen hown (o + 7)
  rw [Nat.add_zero] at g0 f0
  have q0 : 0 < n := by omega
  have q1 : (1 : Int) < (n : Int) := by omega
  have q2 : (2 : Int) < (n : Int) := by omega
  have q3 : (3 : Int) < (n : Int) := by omega
  have q4 : (4 : Int) < (n : Int) := by omega
  have q5 : (5 : Int) < (n : Int) := by omega
  have q6 : (6 : Int) < (n : Int) := by omega
  have q7 : (7 : Int) < (n : Int) := by omega
  have hR := own_set (own_set (own_set (own_set (own_set (own_set (own_set (own_set hown o (v % 256) (by omega)) (o + 1) (v / 256 % 256) (by omega)) (o + 2) (v / 65536 % 256) (by omega)) (o + 3) (v / 16777216 % 256) (by omega)) (o + 4) (v / 4294967296 % 256) (by omega)) (o + 5) (v / 1099511627776 % 256) (by omega)) (o + 6) (v / 281474976710656 % 256) (by omega)) (o + 7) (v / 72057594037927936) (by omega)
  have hR := own_mod hR ((Mod.refl [] _).alloc (.cells #[] 63)) (by simp)
  simp only [Int.natCast_emod, Int.natCast_ediv, Int.cast_ofNat_Int] at hR
  have hR := hide hR
  clear hown
  go_enter Tryd.func35, Tryd.ntmps35
  go_wp2_with fail
  go_returns
  exact ⟨rfl, by unfold put8; with_reducible exact unhide hR, by (repeat' (first | (with_reducible exact Mod.refl _ _) | (with_reducible assumption) | (with_reducible refine Mod.drew ?_) | (with_reducible refine Mod.drewN ?_ _) | (with_reducible refine Mod.alloc ?_ _) | (with_reducible refine Mod.setCell ?_ ?_ _) | (left; simp; done) | (right; first | omega | (simp; omega) | (simp; done))))⟩
theorem u64_any (w : World) (G o n c : Nat) (d : List Nat) (hs : Small d) (hn : 8 ≤ n) (ho : o + 8 ≤ d.length) (hr : ∀ i, i < d.length → w.cell? ⟨G, i, none⟩ = some (.int .u8 ((d.getD i 0 : Nat) : Int))) :
    Calls Tryd.prog 33 #[.agg #[], .slice (some ⟨G, o, none⟩) n c] w fun e w' => e = .returned (.int .u64 (wordAt d o : Int)) ∧ Mod [] w w' := by
  have hl : ((d.drop o).take 8).length = 8 := by rw [List.length_take, List.length_drop]; omega
  obtain ⟨b0, b1, b2, b3, b4, b5, b6, b7, e⟩ : ∃ b0 b1 b2 b3 b4 b5 b6 b7, (d.drop o).take 8 = [b0, b1, b2, b3, b4, b5, b6, b7] := by
    match (d.drop o).take 8, hl with
    | [b0, b1, b2, b3, b4, b5, b6, b7], _ => exact ⟨b0, b1, b2, b3, b4, b5, b6, b7, rfl⟩
  have hsm : Small ((d.drop o).take 8) := fun x hx => hs x (List.mem_of_mem_drop (List.mem_of_mem_take hx))
  unfold wordAt
  have hc : ∀ j, j < 8 → ((d.drop o).take 8).getD j 0 = d.getD (o + j) 0 := fun j hj => by
    rw [List.getD_eq_getElem?_getD, List.getD_eq_getElem?_getD, List.getElem?_take_of_lt hj, List.getElem?_drop]
  rw [e] at hc hsm ⊢
  exact le64_any w G o n c b0 b1 b2 b3 b4 b5 b6 b7 hn hsm fun j hj => by rw [hc j hj]; exact hr _ (by omega)
end Go.Proofs.YtcjjajbpjfamfaaDoor
