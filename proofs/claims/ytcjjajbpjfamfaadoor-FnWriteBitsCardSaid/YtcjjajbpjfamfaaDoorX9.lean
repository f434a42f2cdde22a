/- The word reader: bytes behind the last word. (YtcjjajbpjfamfaaDoor) -/
import Derived.Test.YtcjjajbpjfamfaaDoorX8
set_option linter.unusedVariables false
set_option linter.unusedSimpArgs false
namespace Go.Proofs.YtcjjajbpjfamfaaDoor
open Go.ChangeShapes Go.WideShapes Go.ChangeAt Go.RowKit
def shb (s x y : Nat) : Nat := if s = 0 then x else x / 2 ^ s ||| y * 2 ^ (8 - s) % 256
theorem wrap8 (n : Nat) : IntKind.u8.wrap (n : Int) = ((n % 256 : Nat) : Int) := by
  simp [IntKind.wrap, IntKind.bits, IntKind.signed]
theorem shb_bits (s x y : Nat) (h0 : s ≠ 0) (hx : x < 256) : bits .or .u8 ((x : Int) / 2 ^ s) (IntKind.u8.wrap ((y : Int) * 2 ^ (8 - s))) = ((shb s x y : Nat) : Int) := by
  have e1 : (x : Int) / 2 ^ s = ((x / 2 ^ s : Nat) : Int) := by simp
  have e2 : (y : Int) * 2 ^ (8 - s) = ((y * 2 ^ (8 - s) : Nat) : Int) := by simp
  have h1 : x / 2 ^ s < 256 := Nat.lt_of_le_of_lt (Nat.div_le_self _ _) hx
  rw [e1, e2, wrap8, u8_or_nat _ _ h1 (Nat.mod_lt _ (by decide))]
  unfold shb
  rw [if_neg h0]
theorem shb_lt (s x y : Nat) (hx : x < 256) : shb s x y < 256 := by
  unfold shb
  split
  · exact hx
  · exact Nat.or_lt_two_pow (n := 8) (Nat.lt_of_le_of_lt (Nat.div_le_self _ _) hx) (Nat.mod_lt _ (by decide))
theorem shb_tb {d : List Nat} (h : Small d) (s a j : Nat) (hs : s < 8) (hj : j < 8) : (shb s (d.getD a 0) (d.getD (a + 1) 0)).testBit j = bitAt d (8 * a + s + j) := by
  have hx := h.get a
  have h8 : (256 : Nat) = 2 ^ 8 := by decide
  unfold shb bitAt
  by_cases h0 : s = 0
  · subst h0
    have e1 : (8 * a + 0 + j) / 8 = a := by omega
    have e2 : (8 * a + 0 + j) % 8 = j := by omega
    rw [if_pos rfl, e1, e2]
  · rw [if_neg h0, Nat.testBit_or, Nat.testBit_div_two_pow, h8, Nat.testBit_mod_two_pow, decide_eq_true hj, Bool.true_and, Nat.testBit_mul_two_pow]
    by_cases c : j + s < 8
    · have e1 : (8 * a + s + j) / 8 = a := by omega
      have e2 : (8 * a + s + j) % 8 = j + s := by omega
      have : ¬ 8 - s ≤ j := by omega
      rw [e1, e2]
      simp [this]
    · have e1 : (8 * a + s + j) / 8 = a + 1 := by omega
      have e2 : (8 * a + s + j) % 8 = j - (8 - s) := by omega
      have e : (d.getD a 0).testBit (j + s) = false := testBit_big hx (by omega)
      have : 8 - s ≤ j := by omega
      rw [e1, e2, e]
      simp [this]
def pv (g : Nat → Bool) : Nat → Nat
  | 0 => 0
  | i + 1 => if g i then pv g i / 2 ||| 128 else pv g i / 2
theorem pv_lt (g : Nat → Bool) : ∀ i, pv g i < 256
  | 0 => by simp [pv]
  | i + 1 => by
    have := pv_lt g i
    simp only [pv]
    split
    · exact or_lt8 (by omega) (by decide)
    · omega
theorem pv_tb (g : Nat → Bool) : ∀ i, i ≤ 8 → ∀ j, j < 8 → (pv g i).testBit j = (decide (8 - i ≤ j) && g (j - (8 - i)))
  | 0, _, j, hj => by
    have : ¬ 8 - 0 ≤ j := by omega
    simp [pv, this]
  | i + 1, hi, j, hj => by
    have ih := pv_tb g i (by omega)
    have hd : (pv g i / 2).testBit j = (pv g i).testBit (j + 1) := by rw [Nat.testBit_succ]
    have h128 : (128 : Nat).testBit j = decide (7 = j) := by
      have : (128 : Nat) = 2 ^ 7 := by decide
      rw [this, tb_pow]
    have hv : (pv g i).testBit (j + 1) = (decide (j + 1 < 8) && (decide (8 - i ≤ j + 1) && g (j + 1 - (8 - i)))) := by
      by_cases c : j + 1 < 8
      · rw [ih (j + 1) c, decide_eq_true c, Bool.true_and]
      · rw [testBit_big (pv_lt g i) (by omega), decide_eq_false c, Bool.false_and]
    have key : (pv g (i + 1)).testBit j = ((pv g i).testBit (j + 1) || (g i && decide (7 = j))) := by
      simp only [pv]
      cases hg : g i
      · simp [hd]
      · simp [Nat.testBit_or, hd, h128]
    rw [key, hv]
    by_cases e : j = 7
    · subst e
      have e2 : 8 - (i + 1) ≤ 7 := by omega
      have e3 : 7 - (7 - i) = i := by omega
      simp [e2, e3]
    · have e1 : j + 1 < 8 := by omega
      have e2 : ¬ 7 = j := fun h => e h.symm
      have e3 : j + 1 - (8 - i) = j - (8 - (i + 1)) := by omega
      have e4 : (8 - i ≤ j + 1) = (8 - (i + 1) ≤ j) := by rw [eq_iff_iff]; omega
      simp [e1, e2, e3, e4]
/-- n bits, as a number. -/
def tbv (g : Nat → Bool) (n : Nat) : Nat := pv g n / 2 ^ (8 - n)
theorem tbv_lt (g : Nat → Bool) (n : Nat) : tbv g n < 256 := Nat.lt_of_le_of_lt (Nat.div_le_self _ _) (pv_lt g n)
theorem tbv_tb (g : Nat → Bool) (n j : Nat) (hn : n ≤ 8) (hj : j < n) : (tbv g n).testBit j = g j := by
  unfold tbv
  rw [Nat.testBit_div_two_pow, pv_tb g n hn _ (by omega)]
  have e1 : 8 - n ≤ j + (8 - n) := by omega
  have e2 : j + (8 - n) - (8 - n) = j := by omega
  rw [e2, decide_eq_true e1, Bool.true_and]
theorem blk6_34 {w : World} {P : Nat} {t : TypeId} {a0 a1 a2 a5 : Value} {x3 x4 y3 y4 : Int} (h : Blk w P t #[a0, a1, a2, .int .i64 x3, .int .i64 x4, a5]) (e3 : x3 = y3) (e4 : x4 = y4) : Blk w P t #[a0, a1, a2, .int .i64 y3, .int .i64 y4, a5] := by subst e3 e4; exact h
theorem ret_2 {k : IntKind} {a b : Int} {v : Value} (h : a = b) : Ending.returned (.tuple #[.int k a, v]) = .returned (.tuple #[.int k b, v]) := by rw [h]
set_option maxRecDepth 100000 in
set_option maxHeartbeats 2000000 in
theorem nextTB_mid (w : World) (G P a m c s tb tby cw : Nat) (a2 : Value) (d : List Nat) (hs8 : s < 8) (hs : Small d) (htb : 8 < tb) (htm : tb < 1048576) (hy1 : 0 < tby) (hy2 : tby < 1048576) (hm : 2 ≤ m) (hmc : m ≤ c) (ha : a + 2 ≤ d.length) (hne : G ≠ P) (hcw : cw < 18446744073709551616) (hcm : cw % 256 = d.getD a 0) (hr : Rdb w G d)
    (h : Blk w P 60 #[.slice (some ⟨G, a, none⟩) m c, .int .i64 s, a2, .int .i64 tb, .int .i64 tby, .int .u64 cw]) :
    Calls Tryd.prog 30 #[.pointer (some ⟨P, 0, none⟩)] w fun e w' => e = .returned (.tuple #[.int .u8 (shb s (d.getD a 0) (d.getD (a + 1) 0) : Int), .int .i64 8]) ∧
      Blk w' P 60 #[.slice (some ⟨G, a + 1, none⟩) (m - 1) (c - 1), .int .i64 s, a2, .int .i64 ((tb - 8 : Nat) : Int), .int .i64 ((tby - 1 : Nat) : Int), .int .u64 (lsb cw (d.getD (a + 1) 0) : Int)] ∧ Mod [P] w w' := by
  obtain ⟨c0, c1, c2, c3, c4, c5⟩ := blk6 h
  have f0 := h.frozen 0
  have f3 := h.frozen 3
  have f4 := h.frozen 4
  have f5 := h.frozen 5
  have hy := hr (a + 1) (by omega)
  have hy8 := hs.get (a + 1)
  have hx8 := hs.get a
  have HS := hide (fun h0 => shb_bits s (d.getD a 0) (d.getD (a + 1) 0) h0 hx8)
  generalize d.getD (a + 1) 0 = y at *
  generalize d.getD a 0 = x at *
  have hl := hide (lsb_bits cw y hcw hy8)
  have hB := hide h
  have hne' : P ≠ G := fun e => hne e.symm
  have hPl := h.lt
  clear h hr
  by_cases h0 : s = 0
  · subst h0
    go_enter Tryd.func30, Tryd.ntmps30
    go_wp2_with (first | (go_at_call 36; (with_reducible refine (assert_any _ _ _).mono ?_); rintro e w' ⟨rfl, rfl⟩) | (go_at_call 40; (with_reducible refine (getLSB_any _ _ hcw).mono ?_); rintro e w' ⟨rfl, rfl⟩) | (go_at_call 34; (with_reducible refine (setLSB_any _ _ 5 cw _ hcw hy8 ?_ ?_).mono ?_); (exact (b6s0 (unhide hB) _).cell 5); (exact (b6s0 (unhide hB) _).frozen 5); rintro e w' ⟨rfl, rfl⟩))
    go_returns
    have r1 := b6s4 (b6s3 (b6s5 (b6s0 (unhide hB) (.slice (some ⟨G, a + 1, none⟩) (m - 1) (c - 1))) (.int .u64 (lsb cw y : Int))) (.int .i64 ((tb : Int) - 8))) (.int .i64 ((tby : Int) - 1))
    have r2 := ((((Mod.refl [P] w).setCell (p := ⟨P, 0, none⟩) (by simp) (.slice (some ⟨G, a + 1, none⟩) (m - 1) (c - 1))).setCell (p := ⟨P, 5, none⟩) (by simp) (.int .u64 (lsb cw y : Int))).setCell (p := ⟨P, 3, none⟩) (by simp) (.int .i64 ((tb : Int) - 8))).setCell (p := ⟨P, 4, none⟩) (by simp) (.int .i64 ((tby : Int) - 1))
    exact ⟨rfl, blk6_34 r1 (by omega) (by omega), by with_reducible exact r2⟩
  · go_enter Tryd.func30, Tryd.ntmps30
    go_wp2_with (first | (go_at_call 36; (with_reducible refine (assert_any _ _ _).mono ?_); rintro e w' ⟨rfl, rfl⟩) | (go_at_call 40; (with_reducible refine (getLSB_any _ _ hcw).mono ?_); rintro e w' ⟨rfl, rfl⟩) | (go_at_call 34; (with_reducible refine (setLSB_any _ _ 5 cw _ hcw hy8 ?_ ?_).mono ?_); (exact (b6s0 (unhide hB) _).cell 5); (exact (b6s0 (unhide hB) _).frozen 5); rintro e w' ⟨rfl, rfl⟩))
    go_returns
    have r1 := b6s4 (b6s3 (b6s5 (b6s0 (unhide hB) (.slice (some ⟨G, a + 1, none⟩) (m - 1) (c - 1))) (.int .u64 (lsb cw y : Int))) (.int .i64 ((tb : Int) - 8))) (.int .i64 ((tby : Int) - 1))
    have r2 := ((((Mod.refl [P] w).setCell (p := ⟨P, 0, none⟩) (by simp) (.slice (some ⟨G, a + 1, none⟩) (m - 1) (c - 1))).setCell (p := ⟨P, 5, none⟩) (by simp) (.int .u64 (lsb cw y : Int))).setCell (p := ⟨P, 3, none⟩) (by simp) (.int .i64 ((tb : Int) - 8))).setCell (p := ⟨P, 4, none⟩) (by simp) (.int .i64 ((tby : Int) - 1))
    exact ⟨ret_2 (unhide HS h0), blk6_34 r1 (by omega) (by omega), by with_reducible exact r2⟩
def RSt (w : World) (R G a m c s tb : Nat) (d : List Nat) (i : Nat) : Prop :=
  ∃ cur : Nat, cur < 256 ∧ (i < tb → cur = d.getD (a + (s + i) / 8) 0) ∧ Blk w R 76 #[.slice (some ⟨G, a, none⟩) m c, .int .i64 (i : Int), .int .i64 (tb : Int), .int .u8 (cur : Int), .int .i64 (((s + i) / 8 : Nat) : Int), .int .i64 (((s + i) % 8 : Nat) : Int)]
theorem RSt.mod {w w' : World} {R G a m c s tb : Nat} {d : List Nat} {i : Nat} {S : List Nat} (h : RSt w R G a m c s tb d i) (hm : Mod S w w') (hS : R ∉ S) : RSt w' R G a m c s tb d i := by
  obtain ⟨cur, h1, h2, h3⟩ := h
  exact ⟨cur, h1, h2, h3.mod hm hS⟩
theorem rs_set {w : World} {R G a m c s tb : Nat} {d : List Nat} {i : Nat} (h : RSt w R G a m c s tb d i) (hi : i < tb) :
    Calls Tryd.prog 38 #[.pointer (some ⟨R, 0, none⟩)] w fun e w' => e = .returned (.bool (bitAt d (8 * a + s + i))) ∧ Mod [] w w' := by
  obtain ⟨cur, h1, h2, h3⟩ := h
  have e : bitAt d (8 * a + s + i) = cur.testBit ((s + i) % 8) := by
    rw [h2 hi]; unfold bitAt
    have e1 : (8 * a + s + i) / 8 = a + (s + i) / 8 := by omega
    have e2 : (8 * a + s + i) % 8 = (s + i) % 8 := by omega
    rw [e1, e2]
  rw [e]
  exact rset_any w R _ _ _ _ cur _ h1 (by omega) h3
theorem rs_next {w : World} {R G a m c s tb : Nat} {d : List Nat} {i : Nat} (h : RSt w R G a m c s tb d i) (hs : Small d) (hi : i < tb) (ht : tb ≤ 64) (hs8 : s < 8) (hm : (s + tb + 7) / 8 ≤ m) (ha : a + (s + tb + 7) / 8 ≤ d.length) (hne : G ≠ R) (hr : Rdb w G d) :
    Calls Tryd.prog 39 #[.pointer (some ⟨R, 0, none⟩)] w fun e w' => e = .returned (.tuple #[]) ∧ RSt w' R G a m c s tb d (i + 1) ∧ Mod [R] w w' := by
  obtain ⟨cur, h1, h2, h3⟩ := h
  by_cases h7 : (s + i) % 8 = 7
  · rw [h7] at h3
    have e1 : (s + (i + 1)) / 8 = (s + i) / 8 + 1 := by omega
    have e2 : (s + (i + 1)) % 8 = 0 := by omega
    refine (rnext_out w G R a m c d tb i cur ((s + i) / 8) (by omega) (by omega) (by omega) hne (fun hlt => ⟨by omega, by omega⟩) hr h3).mono fun e w' hh => ?_
    obtain ⟨rfl, r1, r2⟩ := hh
    refine ⟨rfl, ⟨_, ?_, ?_, by rw [e1, e2]; exact r1⟩, r2⟩
    · split
      · exact hs.get _
      · exact h1
    · intro hlt
      rw [if_pos hlt, e1]
  · have e1 : (s + (i + 1)) / 8 = (s + i) / 8 := by omega
    have e2 : (s + (i + 1)) % 8 = (s + i) % 8 + 1 := by omega
    refine (rnext_in w R _ _ _ _ i ((s + i) % 8) (by omega) (by omega) h3).mono fun e w' hh => ?_
    obtain ⟨rfl, r1, r2⟩ := hh
    exact ⟨rfl, ⟨cur, h1, fun hlt => by rw [e1]; exact h2 (by omega), by rw [e1, e2]; exact r1⟩, r2⟩
theorem rs_new {w : World} {G a m c s tb : Nat} {d : List Nat} (hs : Small d) (h0 : 0 < tb) (ht : tb ≤ 64) (hs8 : s < 8) (hm : (s + tb + 7) / 8 ≤ m) (ha : a + (s + tb + 7) / 8 ≤ d.length) (hr : Rdb w G d) :
    Calls Tryd.prog 37 #[.slice (some ⟨G, a, none⟩) m c, .int .i64 s, .int .i64 tb] w fun e w' => ∃ R : Nat, e = .returned (.pointer (some ⟨R, 0, none⟩)) ∧ w.heap.size ≤ R ∧ Mod [] w w' ∧ RSt w' R G a m c s tb d 0 := by
  refine (newBR_any w G a m c s tb d (by omega) (by omega) h0 ⟨by omega, by omega⟩ hr).mono fun e w' hh => ?_
  obtain ⟨R, rfl, h1, h2, h3⟩ := hh
  exact ⟨R, rfl, h1, h2, _, hs.get _, fun _ => rfl, h3⟩
/-- the loop's places: the byte so far, the counter. -/
def LTB (w : World) (R G P a m c s tb : Nat) (d : List Nat) (v2 v5 : Value) (wr : World) : Prop :=
  ∃ i : Nat, i ≤ tb ∧ v5 = .int .i64 (i : Int) ∧ v2 = .int .u8 ((pv (fun j => bitAt d (8 * a + s + j)) i : Nat) : Int) ∧ RSt wr R G a m c s tb d i ∧ Mod [R] w wr
set_option maxRecDepth 100000 in
set_option maxHeartbeats 2000000 in
theorem nextTB_last (w : World) (G P a m c s tb : Nat) (a2 a4 a5 : Value) (d : List Nat) (hs8 : s < 8) (hs : Small d) (htb : tb ≤ 8) (ht0 : 0 < tb) (hm : (s + tb + 7) / 8 ≤ m) (ha : a + (s + tb + 7) / 8 ≤ d.length) (hne : G ≠ P) (hr : Rdb w G d) (hG : G < w.heap.size)
    (h : Blk w P 60 #[.slice (some ⟨G, a, none⟩) m c, .int .i64 s, a2, .int .i64 tb, a4, a5]) :
    Calls Tryd.prog 30 #[.pointer (some ⟨P, 0, none⟩)] w fun e w' => e = .returned (.tuple #[.int .u8 (tbv (fun j => bitAt d (8 * a + s + j)) tb : Int), .int .i64 tb]) ∧ Mod [P] w w' := by
  obtain ⟨c0, c1, c2, c3, c4, c5⟩ := blk6 h
  have f3 := h.frozen 3
  have hB1 := b6s3 h (.int .i64 0)
  have hM1 := (Mod.refl [P] w).setCell (p := ⟨P, 3, none⟩) (by simp) (.int .i64 0)
  have hr1 := hr.mod hM1 (by simpa using hne)
  have hPl := h.lt
  have hsz : (w.setCell ⟨P, 3, none⟩ (.int .i64 0)).heap.size = w.heap.size := World.size_setCell _ _ _
  clear h hr
  go_enter Tryd.func30, Tryd.ntmps30
  go_upto_region 5 with (first | (go_at_call 36; (with_reducible refine (assert_any _ _ _).mono ?_); rintro e w' ⟨rfl, rfl⟩))
  clear c0 c1 c2 c3 c4 c5 f3
  generalize (w.setCell ⟨P, 3, none⟩ (.int .i64 0)) = w1 at *
  obtain ⟨c0, c1, c2, c3, c4, c5⟩ := blk6 hB1
  have hN := hide (fun (W : World) (hm' : Mod [] w1 W) => rs_new (c := c) hs ht0 (by omega) hs8 hm ha (hr1.mod hm' (by simp)))
  have hR1 := hide hr1
  have hMH := hide hM1
  clear hr1 hM1 hB1
  go_cut [4] (fun v4 wx => ∃ R : Nat, v4 = .pointer (some ⟨R, 0, none⟩) ∧ w1.heap.size ≤ R ∧ Mod [] w1 wx ∧ RSt wx R G a m c s tb d 0)
  case first =>
    go_region_with (first | (go_at_call 37; (with_reducible refine (unhide hN _ (by (repeat' (first | (with_reducible exact Mod.refl _ _) | (with_reducible assumption) | (with_reducible refine Mod.drew ?_) | (with_reducible refine Mod.drewN ?_ _) | (with_reducible refine Mod.alloc ?_ _) | (with_reducible refine Mod.setCell ?_ ?_ _) | (left; simp; done) | (right; first | omega | (simp; omega) | (simp; done)))))).mono ?_); rintro e w' ⟨R, rfl, hRl, hm', hrs⟩; have hm2 := Mod.trans (S := []) (T := []) (a := w1) (by (repeat' (first | (with_reducible exact Mod.refl _ _) | (with_reducible assumption) | (with_reducible refine Mod.drew ?_) | (with_reducible refine Mod.drewN ?_ _) | (with_reducible refine Mod.alloc ?_ _) | (with_reducible refine Mod.setCell ?_ ?_ _) | (left; simp; done) | (right; first | omega | (simp; omega) | (simp; done))))) hm' (by simp)))
    all_goals (go_wp2_with fail; go_meet; exact ⟨R, rfl, by first | exact hRl | (simpa using hRl), hm2, hrs⟩)
  case rest =>
    obtain ⟨R, rfl, hRl, hm2, hrs⟩ := hcut
    have hR2 := (unhide hR1).mod hm2 (by simp)
    have hM2 := (unhide hMH).trans hm2 (by simp)
    have h0 := hide (show LTB wc R G P a m c s tb d (.int .u8 0) (.int .i64 0) wc from ⟨0, by omega, rfl, rfl, hrs, Mod.refl _ _⟩)
    clear hrs c0 c1 c2 c3 c4 c5
    have hGR : G ≠ R := by omega
    go_wp2_with fail
    go_loopw [2, 5] (LTB wc R G P a m c s tb d) (fun v2 v5 _ => tb - (intOf v5).toNat)
    case atStart => exact unhide h0
    case round =>
      obtain ⟨i, hi, rfl, rfl, hrs, hmr⟩ := hrel
      by_cases hlt : i < tb
      · have hr3 := Rdb.mod (unhide hR2) hmr (by simpa using hGR)
        have hS := hide (fun (W : World) (hm' : Mod [] wr W) => rs_set (hrs.mod hm' (by simp)) hlt)
        have hX := hide (fun (W : World) (hm' : Mod [] wr W) => rs_next (hrs.mod hm' (by simp)) hs hlt (by omega) hs8 hm ha hGR (hr3.mod hm' (by simp)))
        have hC := hide (fun (W W' : World) (x : Int) (hm' : Mod [] wr W) (hx : x = ((pv (fun j => bitAt d (8 * a + s + j)) (i + 1) : Nat) : Int)) (h1 : RSt W' R G a m c s tb d (i + 1)) (h2 : Mod [R] W W') =>
          (show LTB wc R G P a m c s tb d (.int .u8 x) (.int .i64 ((i : Int) + 1)) W' from ⟨i + 1, by omega, by simp, by rw [hx], h1, (hmr.trans hm' (by simp)).trans h2 (by simp)⟩))
        have e : pv (fun j => bitAt d (8 * a + s + j)) (i + 1) = if bitAt d (8 * a + s + i) then pv (fun j => bitAt d (8 * a + s + j)) i / 2 ||| 128 else pv (fun j => bitAt d (8 * a + s + j)) i / 2 := rfl
        have hv := pv_lt (fun j => bitAt d (8 * a + s + j)) i
        generalize pv (fun j => bitAt d (8 * a + s + j)) (i + 1) = v' at *
        generalize pv (fun j => bitAt d (8 * a + s + j)) i = v at *
        have hor := u8_or_nat (v / 2) 128 (by omega) (by decide)
        clear hrs hr3 h0 hmr
        cases hb : bitAt d (8 * a + s + i)
        all_goals
          rw [hb] at hS e
          go_wp2_with (first | (go_at_call 38; (with_reducible refine (unhide hS _ (by (repeat' (first | (with_reducible exact Mod.refl _ _) | (with_reducible assumption) | (with_reducible refine Mod.drew ?_) | (with_reducible refine Mod.drewN ?_ _) | (with_reducible refine Mod.alloc ?_ _) | (with_reducible refine Mod.setCell ?_ ?_ _) | (left; simp; done) | (right; first | omega | (simp; omega) | (simp; done)))))).mono ?_); rintro e' w' ⟨rfl, hm3⟩) | (go_at_call 39; (with_reducible refine (unhide hX _ hm3).mono ?_); rintro e' w'' ⟨rfl, hrs2, hm4⟩))
        · exact ⟨unhide hC _ _ _ hm3 (by rw [e]; simp) hrs2 hm4, by simp [intOf]; omega⟩
        · exact ⟨unhide hC _ _ _ hm3 (by rw [e, if_pos trivial]; exact hor) hrs2 hm4, by simp [intOf]; omega⟩
      · obtain rfl : i = tb := by omega
        have hv := pv_lt (fun j => bitAt d (8 * a + s + j)) i
        have e : (((pv (fun j => bitAt d (8 * a + s + j)) i : Nat) : Int) / 2 ^ (8 - i)) = ((tbv (fun j => bitAt d (8 * a + s + j)) i : Nat) : Int) := by unfold tbv; simp
        have E := hide e
        have hM3 := hide ((unhide hMH).trans (hm2.trans hmr (S := []) (by simp; omega)) (by simp))
        clear e h0 hrs
        generalize pv (fun j => bitAt d (8 * a + s + j)) i = v at *
        go_wp2_with fail
        go_returns
        exact ⟨ret_2 (unhide E), unhide hM3⟩
end Go.Proofs.YtcjjajbpjfamfaaDoor
