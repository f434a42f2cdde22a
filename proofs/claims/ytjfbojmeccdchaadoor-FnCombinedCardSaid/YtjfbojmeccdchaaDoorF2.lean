/- The bit reader. Words of eight bytes, the lowest first. The word reader: its small functions, a whole word. (YtjfbojmeccdchaaDoor) -/
import Derived.Test.YtjfbojmeccdchaaDoorF1
import Derived.Deep.QuietTactic
import Derived.BigQuiet
import Derived.Lib.EndianBits
set_option linter.unusedVariables false
set_option linter.unusedSimpArgs false
namespace Go.Proofs.YtjfbojmeccdchaaDoor
section
open Go.ChangeShapes Go.WideShapes Go.ChangeAt Go.RowKit
theorem and_pow_ne (x k : Nat) (hx : x < 256) (hk : k < 8) : (bits .and .u8 (x : Int) ((2 ^ k : Nat) : Int) == 0) = !x.testBit k := by
  rw [u8_and_nat x (2 ^ k) hx (pow_lt8 hk)]
  have hp := Nat.two_pow_pos k
  cases hb : x.testBit k
  · have h : x &&& 2 ^ k = 0 := by
      apply Nat.eq_of_testBit_eq; intro j
      rw [Nat.testBit_and, Nat.testBit_two_pow]
      by_cases hj : k = j
      · subst hj; rw [hb]; simp
      · simp [hj]
    rw [h]; rfl
  · have h : x &&& 2 ^ k ≠ 0 := by
      intro h
      have := congrArg (fun y => y.testBit k) h
      simp only [Nat.testBit_and, hb, Nat.testBit_two_pow_self, Nat.zero_testBit, Bool.and_true] at this
      cases this
    have h2 : ((x &&& 2 ^ k : Nat) : Int) ≠ 0 := by omega
    simp only [Bool.not_true, beq_eq_false_iff_ne, ne_eq]
    exact h2
theorem pow_int8 {k : Nat} (hk : k < 8) : (2 : Int) ^ k % 256 = ((2 ^ k : Nat) : Int) := by
  have h1 := pow_lt8 hk
  have h2 : ((2 ^ k : Nat) : Int) = (2 : Int) ^ k := by simp
  rw [← h2]
  generalize 2 ^ k = m at h1
  omega
/-- bytes that can be read. -/
def Rdb (w : World) (G : Nat) (d : List Nat) (lo : Nat := 0) : Prop := ∀ i, lo ≤ i → i < d.length → w.cell? ⟨G, i, none⟩ = some (.int .u8 ((d.getD i 0 : Nat) : Int))
theorem Rdb.mod {w w' : World} {G : Nat} {d : List Nat} {S : List Nat} {lo : Nat} (h : Rdb w G d lo) (hm : Mod S w w') (hS : G ∉ S) : Rdb w' G d lo := fun i hl hi => hm.cell (h i hl hi) hS
theorem own_rdb {w : World} {B G N cap : Nat} {d : List Nat} (h : w.ownsRow B 5 1 (.slice (some ⟨G, 0, none⟩) N cap) N (bv d)) : Rdb w G d := fun i _ hi => own_cell h i (by have := h.1; simp [bv] at this; omega)
theorem rset_any (w : World) (P : Nat) (a0 a1 a2 a4 : Value) (cur b : Nat) (hc : cur < 256) (hb : b < 8) (h : Blk w P 101 #[a0, a1, a2, .int .u8 cur, a4, .int .i64 b]) :
    Calls Tryd.prog 70 #[.pointer (some ⟨P, 0, none⟩)] w fun e w' => e = .returned (.bool (cur.testBit b)) ∧ Mod [] w w' := by
  obtain ⟨c0, c1, c2, c3, c4, c5⟩ := blk6 h
  have H := Lib.hid (and_pow_ne cur b hc hb)
  have HP := Lib.hid (pow_int8 hb)
  clear h
  go_enter Tryd.func70, Tryd.ntmps70
  go_wp2_with fail
  go_region
  go_wp2
  go_ret
  exact ⟨ret_bool (by rw [HP.out, bne, H.out]; simp), by (repeat' (first | exact Mod.refl _ _ | assumption | apply Mod.drew | apply Mod.drewN | apply Mod.alloc | (refine Mod.setCell ?_ (by first | (left; simp; done) | (right; first | omega | (simp; omega) | (simp; done))) _)))⟩
theorem rnext_in (w : World) (P : Nat) (a0 a2 a3 a4 : Value) (pos b : Nat) (hp : pos < 1048576) (hb : b + 1 < 8) (h : Blk w P 101 #[a0, .int .i64 pos, a2, a3, a4, .int .i64 b]) :
    Calls Tryd.prog 71 #[.pointer (some ⟨P, 0, none⟩)] w (PB w P 101 #[a0, .int .i64 ((pos + 1 : Nat) : Int), a2, a3, a4, .int .i64 ((b + 1 : Nat) : Int)] [P]) := by
  obtain ⟨c0, c1, c2, c3, c4, c5⟩ := blk6 h
  have f5 := h.frozen 5
  have f1 := h.frozen 1
  have e2 : (((b : Int) + 1) == 8) = false := by rw [beq_eq_false_iff_ne]; omega
  have hR := hide (fun (x y : Int) (hx : x = ((b + 1 : Nat) : Int)) (hy : y = ((pos + 1 : Nat) : Int)) => (show PB w P 101 #[a0, .int .i64 ((pos + 1 : Nat) : Int), a2, a3, a4, .int .i64 ((b + 1 : Nat) : Int)] [P] (.returned (.tuple #[])) ((w.setCell ⟨P, 5, none⟩ (.int .i64 x)).setCell ⟨P, 1, none⟩ (.int .i64 y)) from
    ⟨rfl, by rw [hx, hy]; exact b6s1 (b6s5 h _) _, by (repeat' (first | exact Mod.refl _ _ | assumption | apply Mod.drew | apply Mod.drewN | apply Mod.alloc | (refine Mod.setCell ?_ (by first | (left; simp; done) | (right; first | omega | (simp; omega) | (simp; done))) _)))⟩))
  clear h
  go_enter Tryd.func71, Tryd.ntmps71
  go_wp2_with fail
  go_returns
  exact unhide hR _ _ (by omega) (by omega)
set_option maxRecDepth 100000 in
set_option maxHeartbeats 1000000 in
theorem rnext_out (w : World) (G P o n c : Nat) (d : List Nat) (len pos cur q : Nat) (hp : pos < 1048576) (hl : len < 1048576) (hq : q < 1048576) (hne : G ≠ P)
    (hnx : pos + 1 < len → q + 1 < n ∧ o + (q + 1) < d.length) {lo : Nat} (hr : Rdb w G d lo)
    (h : Blk w P 101 #[.slice (some ⟨G, o, none⟩) n c, .int .i64 pos, .int .i64 len, .int .u8 cur, .int .i64 q, .int .i64 7]) (hlo : lo ≤ o := by omega) :
    Calls Tryd.prog 71 #[.pointer (some ⟨P, 0, none⟩)] w (PB w P 101 #[.slice (some ⟨G, o, none⟩) n c, .int .i64 ((pos + 1 : Nat) : Int), .int .i64 len, .int .u8 (((if pos + 1 < len then d.getD (o + (q + 1)) 0 else cur) : Nat) : Int), .int .i64 ((q + 1 : Nat) : Int), .int .i64 0] [P]) := by
  obtain ⟨c0, c1, c2, c3, c4, c5⟩ := blk6 h
  have f1 := h.frozen 1
  have f3 := h.frozen 3
  have f4 := h.frozen 4
  have f5 := h.frozen 5
  have hw := hide (fun (x z : Int) (hx : x = ((pos + 1 : Nat) : Int)) (hz : z = ((q + 1 : Nat) : Int)) => (show Blk ((((w.setCell ⟨P, 5, none⟩ (.int .i64 8)).setCell ⟨P, 1, none⟩ (.int .i64 x)).setCell ⟨P, 5, none⟩ (.int .i64 0)).setCell ⟨P, 4, none⟩ (.int .i64 z)) P 101 #[.slice (some ⟨G, o, none⟩) n c, .int .i64 ((pos + 1 : Nat) : Int), .int .i64 len, .int .u8 cur, .int .i64 ((q + 1 : Nat) : Int), .int .i64 0] from by
    subst hx hz
    have h1 := b6s5 h (.int .i64 8)
    have h2 := b6s1 h1 (.int .i64 ((pos + 1 : Nat) : Int))
    have h3 := b6s5 h2 (.int .i64 0)
    have h4 := b6s4 h3 (.int .i64 ((q + 1 : Nat) : Int))
    with_reducible exact h4))
  by_cases hnl : pos + 1 < len
  · obtain ⟨q1, q2⟩ := hnx hnl
    have cy := hr _ (by omega) q2
    rw [if_pos hnl]
    generalize d.getD (o + (q + 1)) 0 = y at *
    have hnli : (pos : Int) + 1 < (len : Int) := by omega
    clear h hr hnx
    go_enter Tryd.func71, Tryd.ntmps71
    go_wp2_with fail
    go_region
    go_wp2_with fail
    go_region
    go_wp2_with fail
    go_returns
    exact ⟨rfl, by have := (b6s3 (unhide hw ((pos : Int) + 1) ((q : Int) + 1) (by omega) (by omega)) (.int .u8 y)).drew.drew; with_reducible exact this, by (repeat' (first | exact Mod.refl _ _ | assumption | apply Mod.drew | apply Mod.drewN | apply Mod.alloc | (refine Mod.setCell ?_ (by first | (left; simp; done) | (right; first | omega | (simp; omega) | (simp; done))) _)))⟩
  · rw [if_neg hnl]
    have hnli : ¬ (pos : Int) + 1 < (len : Int) := by omega
    clear h hr hnx
    go_enter Tryd.func71, Tryd.ntmps71
    go_wp2_with fail
    go_region
    go_wp2_with fail
    go_returns
    exact ⟨rfl, by have := (unhide hw ((pos : Int) + 1) ((q : Int) + 1) (by omega) (by omega)).drew; with_reducible exact this, by (repeat' (first | exact Mod.refl _ _ | assumption | apply Mod.drew | apply Mod.drewN | apply Mod.alloc | (refine Mod.setCell ?_ (by first | (left; simp; done) | (right; first | omega | (simp; omega) | (simp; done))) _)))⟩
theorem newBR_any (w : World) (G o n c f len : Nat) (d : List Nat) (hf : f < 1048576) (hl : len < 1048576) (h0 : 0 < len) (hn : f / 8 < n ∧ o + f / 8 < d.length) {lo : Nat} (hr : Rdb w G d lo) (hlo : lo ≤ o := by omega) :
    Calls Tryd.prog 69 #[.slice (some ⟨G, o, none⟩) n c, .int .i64 f, .int .i64 len] w fun e w' => ∃ P, e = .returned (.pointer (some ⟨P, 0, none⟩)) ∧ w.heap.size ≤ P ∧ Mod [] w w' ∧
      Blk w' P 101 #[.slice (some ⟨G, o, none⟩) n c, .int .i64 0, .int .i64 len, .int .u8 ((d.getD (o + f / 8) 0 : Nat) : Int), .int .i64 ((f / 8 : Nat) : Int), .int .i64 ((f % 8 : Nat) : Int)] := by
  obtain ⟨h1, h2⟩ := hn
  have cg := hr _ (by omega) h2
  generalize d.getD (o + f / 8) 0 = x at *
  clear hr
  go_enter Tryd.func69, Tryd.ntmps69
  go_wp2_with fail
  go_ret
  have k := Blk.new (w := w) (g := w.heap.size) 101 #[.slice (some ⟨G, o, none⟩) n c, .int .i64 0, .int .i64 len, .int .u8 x, .int .i64 ((f : Int) / 8), .int .i64 ((f : Int) % 8)] rfl
  exact ⟨w.heap.size, rfl, Nat.le_refl _, by (repeat' (first | exact Mod.refl _ _ | assumption | apply Mod.drew | apply Mod.drewN | apply Mod.alloc | (refine Mod.setCell ?_ (by first | (left; simp; done) | (right; first | omega | (simp; omega) | (simp; done))) _))), k⟩
end
section
open Go.ChangeShapes Go.WideShapes Go.ChangeAt Go.RowKit Go
def le : List Nat → Nat
  | [] => 0
  | b :: r => b + 256 * le r
theorem le_tb : ∀ (l : List Nat), Small l → ∀ j, (le l).testBit j = bitAt l j
  | [], _, j => by simp [le, bitAt]
  | b :: r, h, j => by
    have hb : b < 2 ^ 8 := h b (by simp)
    have hr : Small r := fun x hx => h x (by simp [hx])
    have e : le (b :: r) = 2 ^ 8 * le r + b := by simp only [le]; omega
    rw [e, Nat.testBit_two_pow_mul_add _ hb]
    by_cases hj : j < 8
    · rw [if_pos hj]
      have e1 : j / 8 = 0 := by omega
      have e2 : j % 8 = j := by omega
      unfold bitAt
      rw [e1, e2]
      rfl
    · rw [if_neg hj, le_tb r hr]
      unfold bitAt
      have e1 : j / 8 = (j - 8) / 8 + 1 := by omega
      have e2 : j % 8 = (j - 8) % 8 := by omega
      rw [e1, e2]
      rfl
theorem le_lt : ∀ (l : List Nat), Small l → le l < 256 ^ l.length
  | [], _ => by simp [le]
  | b :: r, h => by
    have hb : b < 256 := h b (by simp)
    have := le_lt r (fun x hx => h x (by simp [hx]))
    simp only [le, List.length_cons, Nat.pow_succ]
    omega
def wordAt (d : List Nat) (o : Nat) : Nat := le ((d.drop o).take 8)
theorem bitAt_window (d : List Nat) (o j : Nat) (hj : j < 64) (h : o + 8 ≤ d.length) : bitAt ((d.drop o).take 8) j = bitAt d (8 * o + j) := by
  unfold bitAt
  have e1 : (8 * o + j) / 8 = o + j / 8 := by omega
  have e2 : (8 * o + j) % 8 = j % 8 := by omega
  rw [e1, e2, List.getD_eq_getElem?_getD, List.getD_eq_getElem?_getD, List.getElem?_take_of_lt (by omega), List.getElem?_drop]
theorem wordAt_tb {d : List Nat} (h : Small d) (o j : Nat) (hj : j < 64) (ho : o + 8 ≤ d.length) : (wordAt d o).testBit j = bitAt d (8 * o + j) := by
  unfold wordAt
  rw [le_tb _ (fun x hx => h x (List.mem_of_mem_drop (List.mem_of_mem_take hx))), bitAt_window d o j hj ho]
theorem wordAt_lt {d : List Nat} (h : Small d) (o : Nat) : wordAt d o < 18446744073709551616 := by
  unfold wordAt
  have h1 := le_lt ((d.drop o).take 8) (fun x hx => h x (List.mem_of_mem_drop (List.mem_of_mem_take hx)))
  have h2 : 256 ^ ((d.drop o).take 8).length ≤ 256 ^ 8 := Nat.pow_le_pow_right (by decide) (by rw [List.length_take]; omega)
  have h3 : (256 : Nat) ^ 8 = 18446744073709551616 := by decide
  omega
def put8 (m : List Nat) (o v : Nat) : List Nat := (((((((m.set o (v % 256)).set (o + 1) (v / 256 % 256)).set (o + 2) (v / 65536 % 256)).set (o + 3) (v / 16777216 % 256)).set (o + 4) (v / 4294967296 % 256)).set (o + 5) (v / 1099511627776 % 256)).set (o + 6) (v / 281474976710656 % 256)).set (o + 7) (v / 72057594037927936)
theorem put8_length (m : List Nat) (o v : Nat) : (put8 m o v).length = m.length := by simp [put8]
theorem put8_small {m : List Nat} (h : Small m) (o v : Nat) (hv : v < 18446744073709551616) : Small (put8 m o v) := by
  unfold put8
  exact (((((((h.set _ _ (by omega)).set _ _ (by omega)).set _ _ (by omega)).set _ _ (by omega)).set _ _ (by omega)).set _ _ (by omega)).set _ _ (by omega)).set _ _ (by omega)
theorem tb_byte (v a k : Nat) (hk : k < 8) : (v / 2 ^ a % 2 ^ 8).testBit k = v.testBit (a + k) := by
  rw [Nat.testBit_mod_two_pow, Nat.testBit_div_two_pow, decide_eq_true hk, Bool.true_and, Nat.add_comm]
theorem bitAt_put8 (m : List Nat) (o v i : Nat) (hv : v < 18446744073709551616) (ho : o + 8 ≤ m.length) : bitAt (put8 m o v) i = if 8 * o ≤ i ∧ i < 8 * o + 64 then v.testBit (i - 8 * o) else bitAt m i := by
  unfold put8
  rw [bitAt_set _ _ _ _ (by simp; omega), bitAt_set _ _ _ _ (by simp; omega), bitAt_set _ _ _ _ (by simp; omega), bitAt_set _ _ _ _ (by simp; omega), bitAt_set _ _ _ _ (by simp; omega), bitAt_set _ _ _ _ (by simp; omega), bitAt_set _ _ _ _ (by simp; omega), bitAt_set _ _ _ _ (by omega)]
  have b0 := tb_byte v 0 (i % 8) (by omega)
  have b1 := tb_byte v 8 (i % 8) (by omega)
  have b2 := tb_byte v 16 (i % 8) (by omega)
  have b3 := tb_byte v 24 (i % 8) (by omega)
  have b4 := tb_byte v 32 (i % 8) (by omega)
  have b5 := tb_byte v 40 (i % 8) (by omega)
  have b6 := tb_byte v 48 (i % 8) (by omega)
  have b7 := tb_byte v 56 (i % 8) (by omega)
  have e7 : v / 2 ^ 56 % 2 ^ 8 = v / 72057594037927936 := by
    show v / 72057594037927936 % 256 = v / 72057594037927936
    omega
  rw [e7] at b7
  have e0 : v / 2 ^ 0 % 2 ^ 8 = v % 256 := by simp
  rw [e0] at b0
  change (v / 256 % 256).testBit (i % 8) = _ at b1
  change (v / 65536 % 256).testBit (i % 8) = _ at b2
  change (v / 16777216 % 256).testBit (i % 8) = _ at b3
  change (v / 4294967296 % 256).testBit (i % 8) = _ at b4
  change (v / 1099511627776 % 256).testBit (i % 8) = _ at b5
  change (v / 281474976710656 % 256).testBit (i % 8) = _ at b6
  rw [b0, b1, b2, b3, b4, b5, b6, b7]
  clear b0 b1 b2 b3 b4 b5 b6 b7 e0 e7
  by_cases c : 8 * o ≤ i ∧ i < 8 * o + 64
  · rw [if_pos c]
    have hq : i / 8 = o ∨ i / 8 = o + 1 ∨ i / 8 = o + 2 ∨ i / 8 = o + 3 ∨ i / 8 = o + 4 ∨ i / 8 = o + 5 ∨ i / 8 = o + 6 ∨ i / 8 = o + 7 := by omega
    rcases hq with h | h | h | h | h | h | h | h <;> rw [h] <;> simp <;> congr 1 <;> omega
  · rw [if_neg c, if_neg (by omega), if_neg (by omega), if_neg (by omega), if_neg (by omega), if_neg (by omega), if_neg (by omega), if_neg (by omega), if_neg (by omega)]
set_option maxRecDepth 100000 in
set_option maxHeartbeats 8000000 in
theorem le64_any (w : World) (g o n c b0 b1 b2 b3 b4 b5 b6 b7 : Nat) (hn : 8 ≤ n) (hs : Small [b0, b1, b2, b3, b4, b5, b6, b7])
    (hc : ∀ j, j < 8 → w.cell? ⟨g, o + j, none⟩ = some (.int .u8 (([b0, b1, b2, b3, b4, b5, b6, b7].getD j 0 : Nat) : Int))) :
    Calls Tryd.prog 67 #[.agg #[], .slice (some ⟨g, o, none⟩) n c] w fun e w' => e = .returned (.int .u64 (le [b0, b1, b2, b3, b4, b5, b6, b7] : Int)) ∧ Mod [] w w' := by
  have hmo : Mod [] w (w.alloc (.cells #[] 76)) := by (repeat' (first | exact Mod.refl _ _ | assumption | apply Mod.drew | apply Mod.drewN | apply Mod.alloc | (refine Mod.setCell ?_ (by first | (left; simp; done) | (right; first | omega | (simp; omega) | (simp; done))) _)))
  have d0 := hmo.cell (hc 0 (by omega)) (by simp)
  have d1 := hmo.cell (hc 1 (by omega)) (by simp)
  have d2 := hmo.cell (hc 2 (by omega)) (by simp)
  have d3 := hmo.cell (hc 3 (by omega)) (by simp)
  have d4 := hmo.cell (hc 4 (by omega)) (by simp)
  have d5 := hmo.cell (hc 5 (by omega)) (by simp)
  have d6 := hmo.cell (hc 6 (by omega)) (by simp)
  have d7 := hmo.cell (hc 7 (by omega)) (by simp)
  simp only [List.getD_cons_zero, List.getD_cons_succ, Nat.add_zero] at d0 d1 d2 d3 d4 d5 d6 d7
  have h0 : b0 < 256 := hs b0 (by simp)
  have h1 : b1 < 256 := hs b1 (by simp)
  have h2 : b2 < 256 := hs b2 (by simp)
  have h3 : b3 < 256 := hs b3 (by simp)
  have h4 : b4 < 256 := hs b4 (by simp)
  have h5 : b5 < 256 := hs b5 (by simp)
  have h6 : b6 < 256 := hs b6 (by simp)
  have h7 : b7 < 256 := hs b7 (by simp)
  have hv : ((le [b0, b1, b2, b3, b4, b5, b6, b7] : Nat) : Int) = (b0 : Int) + (b1 : Int) * 256 + (b2 : Int) * 65536 + (b3 : Int) * 16777216 + (b4 : Int) * 4294967296 + (b5 : Int) * 1099511627776 + (b6 : Int) * 281474976710656 + (b7 : Int) * 72057594037927936 := by
    simp only [le]
    push_cast
    omega
  have HV := Lib.hid hv
  clear hv hc hs
  have q0 : 0 < n := by omega
  have q1 : (1 : Int) < (n : Int) := by omega
  have q2 : (2 : Int) < (n : Int) := by omega
  have q3 : (3 : Int) < (n : Int) := by omega
  have q4 : (4 : Int) < (n : Int) := by omega
  have q5 : (5 : Int) < (n : Int) := by omega
  have q6 : (6 : Int) < (n : Int) := by omega
  have q7 : (7 : Int) < (n : Int) := by omega
  go_enter Tryd.func67, Tryd.ntmps67
  go_wp2
  go_quiet (fail)
  go_wp2
  go_ret
  refine ⟨ret_int ?_, ?_⟩
  · rw [HV.out]
    simp (disch := omega) only [u64_wrap_id, u64_or8, u64_or16, u64_or24, u64_or32, u64_or40, u64_or48, u64_or56]
  · (repeat' (first | exact Mod.refl _ _ | assumption | apply Mod.drew | apply Mod.drewN | apply Mod.alloc | (refine Mod.setCell ?_ (by first | (left; simp; done) | (right; first | omega | (simp; omega) | (simp; done))) _)))
set_option maxRecDepth 100000 in
set_option maxHeartbeats 4000000 in
theorem put64_any (w : World) (B G N cap o n c v : Nat) (mem : List Nat) (hv : v < 18446744073709551616) (hn : 8 ≤ n) (hoN : o + 8 ≤ N) (hown : w.ownsRow B 5 1 (.slice (some ⟨G, 0, none⟩) N cap) N (bv mem)) :
    Calls Tryd.prog 63 #[.agg #[], .slice (some ⟨G, o, none⟩) n c, .int .u64 v] w fun e w' => e = .returned (.tuple #[]) ∧ w'.ownsRow B 5 1 (.slice (some ⟨G, 0, none⟩) N cap) N (bv (put8 mem o v)) ∧ Mod [G] w w' := by
  have hgl := own_lt' hown
  have g0 := own_cell hown (o + 0) (by omega)
  have g1 := own_cell hown (o + 1) (by omega)
  have g2 := own_cell hown (o + 2) (by omega)
  have g3 := own_cell hown (o + 3) (by omega)
  have g4 := own_cell hown (o + 4) (by omega)
  have g5 := own_cell hown (o + 5) (by omega)
  have g6 := own_cell hown (o + 6) (by omega)
  have g7 := own_cell hown (o + 7) (by omega)
  have f0 := own_frozen hown (o + 0)
  have f1 := own_frozen hown (o + 1)
  have f2 := own_frozen hown (o + 2)
  have f3 := own_frozen hown (o + 3)
  have f4 := own_frozen hown (o + 4)
  have f5 := own_frozen hown (o + 5)
  have f6 := own_frozen hown (o + 6)
  have f7 := own_frozen hown (o + 7)
  rw [Nat.add_zero] at g0 f0
  have q0 : 0 < n := by omega
  have q1 : (1 : Int) < (n : Int) := by omega
  have q2 : (2 : Int) < (n : Int) := by omega
  have q3 : (3 : Int) < (n : Int) := by omega
  have q4 : (4 : Int) < (n : Int) := by omega
  have q5 : (5 : Int) < (n : Int) := by omega
  have q6 : (6 : Int) < (n : Int) := by omega
  have q7 : (7 : Int) < (n : Int) := by omega
  have hR := own_set (own_set (own_set (own_set (own_set (own_set (own_set (own_set hown o (v % 256) (by omega)) (o + 1) (v / 256 % 256) (by omega)) (o + 2) (v / 65536 % 256) (by omega)) (o + 3) (v / 16777216 % 256) (by omega)) (o + 4) (v / 4294967296 % 256) (by omega)) (o + 5) (v / 1099511627776 % 256) (by omega)) (o + 6) (v / 281474976710656 % 256) (by omega)) (o + 7) (v / 72057594037927936) (by omega)
  have hR := own_mod hR ((Mod.refl [] _).alloc (.cells #[] 76)) (by simp)
  simp only [Int.natCast_emod, Int.natCast_ediv, Int.cast_ofNat_Int] at hR
  have hR := hide hR
  clear hown
  go_enter Tryd.func63, Tryd.ntmps63
  go_wp2_with fail
  go_returns
  exact ⟨rfl, by unfold put8; with_reducible exact unhide hR, by (repeat' (first | (with_reducible exact Mod.refl _ _) | (with_reducible assumption) | (with_reducible refine Mod.drew ?_) | (with_reducible refine Mod.drewN ?_ _) | (with_reducible refine Mod.alloc ?_ _) | (with_reducible refine Mod.setCell ?_ ?_ _) | (left; simp; done) | (right; first | omega | (simp; omega) | (simp; done))))⟩
theorem u64_any (w : World) (G o n c : Nat) (d : List Nat) (hs : Small d) (hn : 8 ≤ n) (ho : o + 8 ≤ d.length) {lo : Nat} (hr : ∀ i, lo ≤ i → i < d.length → w.cell? ⟨G, i, none⟩ = some (.int .u8 ((d.getD i 0 : Nat) : Int))) (hlo : lo ≤ o := by omega) :
    Calls Tryd.prog 67 #[.agg #[], .slice (some ⟨G, o, none⟩) n c] w fun e w' => e = .returned (.int .u64 (wordAt d o : Int)) ∧ Mod [] w w' := by
  have hl : ((d.drop o).take 8).length = 8 := by rw [List.length_take, List.length_drop]; omega
  obtain ⟨b0, b1, b2, b3, b4, b5, b6, b7, e⟩ : ∃ b0 b1 b2 b3 b4 b5 b6 b7, (d.drop o).take 8 = [b0, b1, b2, b3, b4, b5, b6, b7] := by
    match (d.drop o).take 8, hl with
    | [b0, b1, b2, b3, b4, b5, b6, b7], _ => exact ⟨b0, b1, b2, b3, b4, b5, b6, b7, rfl⟩
  have hsm : Small ((d.drop o).take 8) := fun x hx => hs x (List.mem_of_mem_drop (List.mem_of_mem_take hx))
  unfold wordAt
  have hc : ∀ j, j < 8 → ((d.drop o).take 8).getD j 0 = d.getD (o + j) 0 := fun j hj => by
    rw [List.getD_eq_getElem?_getD, List.getD_eq_getElem?_getD, List.getElem?_take_of_lt hj, List.getElem?_drop]
  rw [e] at hc hsm ⊢
  exact le64_any w G o n c b0 b1 b2 b3 b4 b5 b6 b7 hn hsm fun j hj => by rw [hc j hj]; exact hr _ (by omega) (by omega)
end
section
open Go.ChangeShapes Go.WideShapes Go.ChangeAt Go.RowKit
theorem toLE_any (w : World) (v : Value) : Calls Tryd.prog 66 #[v] w fun e w' => e = .returned v ∧ w = w' := by
  go_enter Tryd.func66, Tryd.ntmps66
  go_wp2
  go_ret
  exact ⟨rfl, rfl⟩
theorem assert_any (w : World) (a b : Value) : Calls Tryd.prog 53 #[a, b] w fun e w' => e = .returned (.tuple #[]) ∧ w = w' := by
  go_enter Tryd.func53, Tryd.ntmps53
  go_wp2
  go_returns
  exact ⟨rfl, rfl⟩
theorem words_any (w : World) (P n : Nat) (a0 a1 a3 a4 a5 : Value) (h : Blk w P 81 #[a0, a1, .int .i64 n, a3, a4, a5]) : Calls Tryd.prog 56 #[.pointer (some ⟨P, 0, none⟩)] w fun e w' => e = .returned (.int .i64 n) ∧ w = w' := by
  obtain ⟨c0, c1, c2, c3, c4, c5⟩ := blk6 h
  clear h
  go_enter Tryd.func56, Tryd.ntmps56
  go_wp2
  go_ret
  exact ⟨rfl, rfl⟩
theorem tbytes_any (w : World) (P n : Nat) (a0 a1 a2 a3 a5 : Value) (h : Blk w P 81 #[a0, a1, a2, a3, .int .i64 n, a5]) : Calls Tryd.prog 59 #[.pointer (some ⟨P, 0, none⟩)] w fun e w' => e = .returned (.int .i64 n) ∧ w = w' := by
  obtain ⟨c0, c1, c2, c3, c4, c5⟩ := blk6 h
  clear h
  go_enter Tryd.func59, Tryd.ntmps59
  go_wp2
  go_ret
  exact ⟨rfl, rfl⟩
theorem bfb_any (w : World) (x : Nat) (hx : x ≤ 1048576) : Calls Tryd.prog 52 #[.int .i64 x] w fun e w' => e = .returned (.int .i64 (((x + 7) / 8 : Nat) : Int)) ∧ w = w' := by
  go_enter Tryd.func52, Tryd.ntmps52
  go_wp2
  go_ret
  exact ⟨ret_int (by omega), rfl⟩
theorem bfb_i (w : World) (x : Int) (n : Nat) (h : x = (n : Int)) (hn : n ≤ 1048576) : Calls Tryd.prog 52 #[.int .i64 x] w fun e w' => e = .returned (.int .i64 (((n + 7) / 8 : Nat) : Int)) ∧ w = w' := by subst h; exact bfb_any w n hn
theorem getLSB_any (w : World) (v : Nat) (hv : v < 18446744073709551616) : Calls Tryd.prog 72 #[.int .u64 v] w fun e w' => e = .returned (.int .u8 ((v % 256 : Nat) : Int)) ∧ w = w' := by
  go_enter Tryd.func72, Tryd.ntmps72
  go_wp2
  go_ret
  exact ⟨ret_int (by omega), rfl⟩
def lsb (v b : Nat) : Nat := v / 256 * 256 + b
theorem lsb_bits (v b : Nat) (hv : v < 18446744073709551616) (hb : b < 256) : bits .or .u64 (bits .andNot .u64 (v : Int) 255) (b : Int) = ((lsb v b : Nat) : Int) := by
  have h1 := u64_andNot_nat v 255 hv (by decide)
  have h1' : bits .andNot .u64 (v : Int) 255 = ((v &&& (18446744073709551615 - 255) : Nat) : Int) := h1
  have hlt : v &&& (18446744073709551615 - 255) < 18446744073709551616 := Nat.lt_of_le_of_lt Nat.and_le_left hv
  rw [h1', u64_or_nat _ b hlt (by omega)]
  congr 1
  apply Nat.eq_of_testBit_eq
  intro j
  have e : lsb v b = 2 ^ 8 * (v / 256) + b := by unfold lsb; omega
  rw [e, Nat.testBit_two_pow_mul_add _ hb, Nat.testBit_or, Nat.testBit_and]
  have hm : (18446744073709551615 - 255 : Nat).testBit j = (decide (8 ≤ j) && decide (j < 64)) := by
    have e2 : (18446744073709551615 - 255 : Nat) = 2 ^ 8 * (2 ^ 56 - 1) + 0 := by decide
    rw [e2, Nat.testBit_two_pow_mul_add _ (by decide)]
    by_cases hj : j < 8
    · rw [if_pos hj]; simp; omega
    · rw [if_neg hj, Nat.testBit_two_pow_sub_one]; simp only [show 8 ≤ j by omega, decide_true, Bool.true_and, decide_eq_decide]; omega
  rw [hm]
  by_cases hj : j < 8
  · rw [if_pos hj]; simp; omega
  · rw [if_neg hj, testBit_big hb (by omega), Bool.or_false]
    have e3 : v / 256 = v / 2 ^ 8 := rfl
    rw [e3, Nat.testBit_div_two_pow]
    have e4 : j - 8 + 8 = j := by omega
    rw [e4]
    by_cases h64 : j < 64
    · simp [h64]; omega
    · have h2 : (2 : Nat) ^ 64 ≤ 2 ^ j := Nat.pow_le_pow_right (by decide) (by omega)
      have this : v.testBit j = false := Nat.testBit_lt_two_pow (Nat.lt_of_lt_of_le (show v < 2 ^ 64 from hv) h2)
      rw [this]; simp
theorem setLSB_any (w : World) (P i v b : Nat) (hv : v < 18446744073709551616) (hb : b < 256) (hc : w.cell? ⟨P, i, none⟩ = some (.int .u64 v)) (hf : w.frozen? ⟨P, i, none⟩ = false) :
    Calls Tryd.prog 68 #[.pointer (some ⟨P, i, none⟩), .int .u8 b] w fun e w' => e = .returned (.tuple #[]) ∧ w.setCell ⟨P, i, none⟩ (.int .u64 (lsb v b : Int)) = w' := by
  have hl := hide (lsb_bits v b hv hb)
  go_enter Tryd.func68, Tryd.ntmps68
  go_wp2
  go_returns
  exact ⟨rfl, by rw [unhide hl]⟩
/-- a word, shifted together out of two. -/
def shw (s A B : Nat) : Nat := if s = 0 then A else A / 2 ^ s ||| B * 2 ^ (64 - s) % 18446744073709551616
theorem wrap64 (n : Nat) : IntKind.u64.wrap (n : Int) = ((n % 18446744073709551616 : Nat) : Int) := by
  simp [IntKind.wrap, IntKind.bits, IntKind.signed]
theorem shw_bits (s A B : Nat) (h0 : s ≠ 0) (hA : A < 18446744073709551616) : bits .or .u64 ((A : Int) / 2 ^ s) (IntKind.u64.wrap ((B : Int) * 2 ^ (64 - s))) = ((shw s A B : Nat) : Int) := by
  have e1 : (A : Int) / 2 ^ s = ((A / 2 ^ s : Nat) : Int) := by simp
  have e2 : (B : Int) * 2 ^ (64 - s) = ((B * 2 ^ (64 - s) : Nat) : Int) := by simp
  have h1 : A / 2 ^ s < 18446744073709551616 := Nat.lt_of_le_of_lt (Nat.div_le_self _ _) hA
  rw [e1, e2, wrap64, u64_or_nat _ _ h1 (Nat.mod_lt _ (by decide))]
  unfold shw
  rw [if_neg h0]
theorem shw_tb (s A B j : Nat) (hs : s < 8) (hA : A < 18446744073709551616) (hj : j < 64) : (shw s A B).testBit j = if j + s < 64 then A.testBit (j + s) else B.testBit (j + s - 64) := by
  have h64 : (18446744073709551616 : Nat) = 2 ^ 64 := by decide
  unfold shw
  by_cases h0 : s = 0
  · subst h0
    rw [if_pos rfl, if_pos (by omega)]; rfl
  · rw [if_neg h0, Nat.testBit_or, Nat.testBit_div_two_pow, h64, Nat.testBit_mod_two_pow, decide_eq_true hj, Bool.true_and, Nat.testBit_mul_two_pow]
    by_cases c : j + s < 64
    · rw [if_pos c]
      have : ¬ 64 - s ≤ j := by omega
      simp [this]
    · rw [if_neg c]
      have e : A.testBit (j + s) = false := Nat.testBit_lt_two_pow (Nat.lt_of_lt_of_le (show A < 2 ^ 64 from hA) (Nat.pow_le_pow_right (by decide) (by omega)))
      have : 64 - s ≤ j := by omega
      have e2 : j - (64 - s) = j + s - 64 := by omega
      simp [this, e, e2]
theorem shw_lt (s A B : Nat) (hA : A < 18446744073709551616) : shw s A B < 18446744073709551616 := by
  unfold shw
  split
  · exact hA
  · exact Nat.or_lt_two_pow (n := 64) (Nat.lt_of_le_of_lt (Nat.div_le_self _ _) hA) (Nat.mod_lt _ (by decide))
/-- a word of bits from a place on. -/
theorem shw_word {d : List Nat} (h : Small d) (s a j : Nat) (hs : s < 8) (ha : a + 16 ≤ d.length) (hj : j < 64) : (shw s (wordAt d a) (wordAt d (a + 8))).testBit j = bitAt d (8 * a + s + j) := by
  rw [shw_tb s _ _ j hs (wordAt_lt h a) hj]
  by_cases c : j + s < 64
  · rw [if_pos c, wordAt_tb h a _ c (by omega)]
    congr 1; omega
  · rw [if_neg c, wordAt_tb h (a + 8) _ (by omega) (by omega)]
    congr 1; omega
set_option maxRecDepth 100000 in
set_option maxHeartbeats 2000000 in
theorem nextW_any (w : World) (G P a m c s : Nat) (a2 a3 a4 : Value) (d : List Nat) (hs8 : s < 8) (hs : Small d) (hm : 16 ≤ m) (hmc : m ≤ c) (ha : a + 16 ≤ d.length) (hne : G ≠ P) {lo : Nat} (hr : Rdb w G d lo)
    (h : Blk w P 81 #[.slice (some ⟨G, a, none⟩) m c, .int .i64 s, a2, a3, a4, .int .u64 (wordAt d a)]) (hlo : lo ≤ a := by omega) :
    Calls Tryd.prog 58 #[.pointer (some ⟨P, 0, none⟩)] w fun e w' => e = .returned (.int .u64 (shw s (wordAt d a) (wordAt d (a + 8)) : Int)) ∧ Blk w' P 81 #[.slice (some ⟨G, a + 8, none⟩) (m - 8) (c - 8), .int .i64 s, a2, a3, a4, .int .u64 (wordAt d (a + 8))] ∧ Mod [P] w w' := by
  obtain ⟨c0, c1, c2, c3, c4, c5⟩ := blk6 h
  have f0 := h.frozen 0
  have f5 := h.frozen 5
  have hU := hide (fun (W : World) (hm' : Mod [P] w W) => u64_any W G (a + 8) (m - 8) (c - 8) d hs (by omega) (by omega) (hr.mod hm' (by simpa using hne)))
  have hB := hide h
  clear hr h
  have HS := hide (fun h0 => shw_bits s (wordAt d a) (wordAt d (a + 8)) h0 (wordAt_lt hs a))
  generalize hA : wordAt d a = A at *
  generalize hBB : wordAt d (a + 8) = B at *
  go_enter Tryd.func58, Tryd.ntmps58
  go_upto_region 3 with (fail)
  have hB1 := b6s0 (unhide hB) (.slice (some ⟨G, a + 8, none⟩) (m - 8) (c - 8))
  have hM1 := (Mod.refl [P] w).setCell (p := ⟨P, 0, none⟩) (by simp) (.slice (some ⟨G, a + 8, none⟩) (m - 8) (c - 8))
  have hU1 := hide (fun (W : World) (hm' : Mod [] (w.setCell ⟨P, 0, none⟩ (.slice (some ⟨G, a + 8, none⟩) (m - 8) (c - 8))) W) => unhide hU W (hM1.trans hm' (by simp)))
  clear hU hB c0 c1 c2 c3 c4 c5 f0 f5
  generalize (w.setCell ⟨P, 0, none⟩ (.slice (some ⟨G, a + 8, none⟩) (m - 8) (c - 8))) = w1 at *
  obtain ⟨c0, c1, c2, c3, c4, c5⟩ := blk6 hB1
  have hBH := hide hB1
  have hMH := hide hM1
  clear hB1 hM1
  go_cut [4] (fun v4 wx => v4 = .int .u64 B ∧ Mod [] w1 wx)
  case first =>
    go_region_with (first | (go_at_call 67; (with_reducible refine (unhide hU1 _ (by (repeat' (first | (with_reducible exact Mod.refl _ _) | (with_reducible assumption) | (with_reducible refine Mod.drew ?_) | (with_reducible refine Mod.drewN ?_ _) | (with_reducible refine Mod.alloc ?_ _) | (with_reducible refine Mod.setCell ?_ ?_ _) | (left; simp; done) | (right; first | omega | (simp; omega) | (simp; done)))))).mono ?_); rintro e w' ⟨rfl, hm'⟩) | (go_at_call 66; (with_reducible refine (toLE_any _ _).mono ?_); rintro e w' ⟨rfl, rfl⟩))
    all_goals (go_wp2_with fail; go_meet; exact ⟨rfl, by first | exact Mod.trans (T := []) (by (repeat' (first | (with_reducible exact Mod.refl _ _) | (with_reducible assumption) | (with_reducible refine Mod.drew ?_) | (with_reducible refine Mod.drewN ?_ _) | (with_reducible refine Mod.alloc ?_ _) | (with_reducible refine Mod.setCell ?_ ?_ _) | (left; simp; done) | (right; first | omega | (simp; omega) | (simp; done))))) hm' (by simp) | exact (Mod.trans (T := []) (by (repeat' (first | (with_reducible exact Mod.refl _ _) | (with_reducible assumption) | (with_reducible refine Mod.drew ?_) | (with_reducible refine Mod.drewN ?_ _) | (with_reducible refine Mod.alloc ?_ _) | (with_reducible refine Mod.setCell ?_ ?_ _) | (left; simp; done) | (right; first | omega | (simp; omega) | (simp; done))))) hm' (by simp)).drew⟩)
  case rest =>
    obtain ⟨rfl, hm2⟩ := hcut
    have hB2 := (unhide hBH).mod hm2 (by simp)
    have hM2 := (unhide hMH).trans hm2 (by simp)
    obtain ⟨c0, c1, c2, c3, c4, c5⟩ := blk6 hB2
    have f5 := hB2.frozen 5
    by_cases h0 : s = 0
    · subst h0
      go_wp2_with fail
      go_ret
      have r1 := b6s5 hB2 (.int .u64 B)
      have r2 := hM2.setCell (p := ⟨P, 5, none⟩) (by simp) (.int .u64 B)
      exact ⟨rfl, by with_reducible exact r1, by with_reducible exact r2⟩
    · go_wp2_with fail
      go_ret
      have r1 := b6s5 hB2 (.int .u64 B)
      have r2 := hM2.setCell (p := ⟨P, 5, none⟩) (by simp) (.int .u64 B)
      exact ⟨ret_int (unhide HS h0), by with_reducible exact r1, by with_reducible exact r2⟩
end
end Go.Proofs.YtjfbojmeccdchaaDoor
