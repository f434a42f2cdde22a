/- The word reader is made. The word reader: bytes behind the last word. The word writer: made; a whole word. (YtjfbojmeccdchaaDoor) -/
import Derived.Test.YtjfbojmeccdchaaDoorF2
set_option linter.unusedVariables false
set_option linter.unusedSimpArgs false
namespace Go.Proofs.YtjfbojmeccdchaaDoor
section
open Go.ChangeShapes Go.WideShapes Go.ChangeAt Go.RowKit
theorem wordAt_mod {d : List Nat} (h : Small d) (a : Nat) (ha : a + 8 ≤ d.length) : wordAt d a % 256 = d.getD a 0 := by
  apply byte_ext (Nat.mod_lt _ (by decide)) (h.get _)
  intro k hk
  have e : (256 : Nat) = 2 ^ 8 := rfl
  rw [e, Nat.testBit_mod_two_pow, decide_eq_true hk, Bool.true_and, wordAt_tb h a k (by omega) ha]
  unfold bitAt
  have e1 : (8 * a + k) / 8 = a := by omega
  have e2 : (8 * a + k) % 8 = k := by omega
  rw [e1, e2]
theorem blk6_eq {w : World} {P : Nat} {t : TypeId} {a0 : Value} {x1 x2 x3 x4 x5 y1 y2 y3 y4 y5 : Int} (h : Blk w P t #[a0, .int .i64 x1, .int .i64 x2, .int .i64 x3, .int .i64 x4, .int .u64 x5]) (e1 : x1 = y1) (e2 : x2 = y2) (e3 : x3 = y3) (e4 : x4 = y4) (e5 : x5 = y5) : Blk w P t #[a0, .int .i64 y1, .int .i64 y2, .int .i64 y3, .int .i64 y4, .int .u64 y5] := by subst e1 e2 e3 e4 e5; exact h
set_option maxRecDepth 100000 in
set_option maxHeartbeats 2000000 in
theorem newWR_any (w : World) (G o n c f len : Nat) (d : List Nat) (hs : Small d) (h0 : 0 < len) (hl : len < 65536) (hf : f < 65536) (hn : f / 8 + (f % 8 + len + 7) / 8 ≤ n) (hnc : n ≤ c) (ho : o + f / 8 + (f % 8 + len + 7) / 8 ≤ d.length) {lo : Nat} (hr : Rdb w G d lo) (hlo : lo ≤ o := by omega) :
    Calls Tryd.prog 54 #[.slice (some ⟨G, o, none⟩) n c, .int .i64 f, .int .i64 len] w fun e w' => ∃ (P cw : Nat), e = .returned (.pointer (some ⟨P, 0, none⟩)) ∧ w.heap.size ≤ P ∧ Mod [] w w' ∧ cw < 18446744073709551616 ∧
      Blk w' P 81 #[.slice (some ⟨G, o + f / 8, none⟩) ((f % 8 + len + 7) / 8) (c - f / 8), .int .i64 ((f % 8 : Nat) : Int), .int .i64 ((len / 64 - 1 : Nat) : Int), .int .i64 ((len - 64 * (len / 64 - 1) : Nat) : Int), .int .i64 (((len - 64 * (len / 64 - 1) + 7) / 8 : Nat) : Int), .int .u64 cw] ∧
      (0 < len / 64 - 1 → cw = wordAt d (o + f / 8)) ∧ cw % 256 = d.getD (o + f / 8) 0 := by
  have hBF := hide (fun (W : World) => bfb_i W ((f : Int) % 8 + len) (f % 8 + len) (by omega) (by omega))
  generalize hnb : (f % 8 + len + 7) / 8 = nb at *
  by_cases hw : 128 ≤ len
  · have e1 : ¬ (len : Int) / 64 - 1 < 0 := by omega
    have e2 : (0 : Int) < (len : Int) / 64 - 1 := by omega
    go_enter Tryd.func54, Tryd.ntmps54
    go_upto_region 9 with (first | (go_at_call 52; (with_reducible refine (unhide hBF _).mono ?_); rintro e w' ⟨rfl, rfl⟩) | (go_at_call 52; (with_reducible refine (bfb_i _ _ (len - 64 * (len / 64 - 1)) (by omega) (by omega)).mono ?_); rintro e w' ⟨rfl, rfl⟩))
    have k0 := Blk.new (w := w) (g := w.heap.size) 81 #[.slice (some ⟨G, o + f / 8, none⟩) nb (c - f / 8), .int .i64 ((f : Int) % 8), .int .i64 ((len : Int) / 64 - 1), .int .i64 ((len : Int) - ((len : Int) / 64 - 1) * 8 * 8), .int .i64 ((((len - 64 * (len / 64 - 1) : Nat) : Int) + 7) / 8), .int .u64 0] rfl
    have m0 := (Mod.refl [] w).alloc (.cells #[.slice (some ⟨G, o + f / 8, none⟩) nb (c - f / 8), .int .i64 ((f : Int) % 8), .int .i64 ((len : Int) / 64 - 1), .int .i64 ((len : Int) - ((len : Int) / 64 - 1) * 8 * 8), .int .i64 ((((len - 64 * (len / 64 - 1) : Nat) : Int) + 7) / 8), .int .u64 0] 81)
    have r1 := hr.mod m0 (by simp)
    generalize hsz : w.heap.size = P at *
    generalize w.alloc (.cells #[.slice (some ⟨G, o + f / 8, none⟩) nb (c - f / 8), .int .i64 ((f : Int) % 8), .int .i64 ((len : Int) / 64 - 1), .int .i64 ((len : Int) - ((len : Int) / 64 - 1) * 8 * 8), .int .i64 ((((len - 64 * (len / 64 - 1) : Nat) : Int) + 7) / 8), .int .u64 0] 81) = w1 at *
    obtain ⟨c0, c1, c2, c3, c4, c5⟩ := blk6 k0
    have f5 := k0.frozen 5
    have hU := hide (fun (W : World) (hm' : Mod [] w1 W) => u64_any W G (o + f / 8) nb (c - f / 8) d hs (by omega) (by omega) (r1.mod hm' (by simp)))
    have hk := hide k0
    have hm0 := hide m0
    clear k0 m0 r1 hr
    go_cut [] (fun wx => Blk wx P 81 #[.slice (some ⟨G, o + f / 8, none⟩) nb (c - f / 8), .int .i64 ((f : Int) % 8), .int .i64 ((len : Int) / 64 - 1), .int .i64 ((len : Int) - ((len : Int) / 64 - 1) * 8 * 8), .int .i64 ((((len - 64 * (len / 64 - 1) : Nat) : Int) + 7) / 8), .int .u64 (wordAt d (o + f / 8) : Int)] ∧ Mod [P] w1 wx)
    case first =>
      go_region_with (first | (go_at_call 67; (with_reducible refine (unhide hU _ (by (repeat' (first | (with_reducible exact Mod.refl _ _) | (with_reducible assumption) | (with_reducible refine Mod.drew ?_) | (with_reducible refine Mod.drewN ?_ _) | (with_reducible refine Mod.alloc ?_ _) | (with_reducible refine Mod.setCell ?_ ?_ _) | (left; simp; done) | (right; first | omega | (simp; omega) | (simp; done)))))).mono ?_); rintro e w' ⟨rfl, hm'⟩; have hm2 := Mod.trans (S := []) (T := []) (a := w1) (by (repeat' (first | (with_reducible exact Mod.refl _ _) | (with_reducible assumption) | (with_reducible refine Mod.drew ?_) | (with_reducible refine Mod.drewN ?_ _) | (with_reducible refine Mod.alloc ?_ _) | (with_reducible refine Mod.setCell ?_ ?_ _) | (left; simp; done) | (right; first | omega | (simp; omega) | (simp; done))))) hm' (by simp); have hb2 := (unhide hk).mod hm2 (by simp); have hm3 := hm2.any [P]; obtain ⟨x0, x1, x2, x3, x4, x5⟩ := blk6 hb2; have g5 := hb2.frozen 5) | (go_at_call 66; (with_reducible refine (toLE_any _ _).mono ?_); rintro e w' ⟨rfl, rfl⟩))
      all_goals (go_wp2_with fail; go_meet; refine ⟨?_, ?_⟩)
      all_goals first | (with_reducible exact b6s5 hb2 _) | (with_reducible exact (b6s5 hb2 _).drew) | ((repeat' (first | (with_reducible exact Mod.refl _ _) | (with_reducible assumption) | (with_reducible refine Mod.drew ?_) | (with_reducible refine Mod.drewN ?_ _) | (with_reducible refine Mod.alloc ?_ _) | (with_reducible refine Mod.setCell ?_ ?_ _) | (left; simp; done) | (right; first | omega | (simp; omega) | (simp; done)))))
    case rest =>
      obtain ⟨hB, hM⟩ := hcut
      go_wp2_with fail
      go_ret
      refine ⟨P, wordAt d (o + f / 8), rfl, by omega, (unhide hm0).trans hM (by simp; omega), wordAt_lt hs _, ?_, fun _ => rfl, wordAt_mod hs _ (by omega)⟩
      exact blk6_eq hB (by omega) (by omega) (by omega) (by omega) rfl
  · by_cases hw2 : 64 ≤ len
    · have e1 : ¬ (len : Int) / 64 - 1 < 0 := by omega
      have e2 : ¬ (0 : Int) < (len : Int) / 64 - 1 := by omega
      go_enter Tryd.func54, Tryd.ntmps54
      go_upto_region 11 with (first | (go_at_call 52; (with_reducible refine (unhide hBF _).mono ?_); rintro e w' ⟨rfl, rfl⟩) | (go_at_call 52; (with_reducible refine (bfb_i _ _ (len - 64 * (len / 64 - 1)) (by omega) (by omega)).mono ?_); rintro e w' ⟨rfl, rfl⟩))
      have k0 := Blk.new (w := w) (g := w.heap.size) 81 #[.slice (some ⟨G, o + f / 8, none⟩) nb (c - f / 8), .int .i64 ((f : Int) % 8), .int .i64 ((len : Int) / 64 - 1), .int .i64 ((len : Int) - ((len : Int) / 64 - 1) * 8 * 8), .int .i64 ((((len - 64 * (len / 64 - 1) : Nat) : Int) + 7) / 8), .int .u64 0] rfl
      have m0 := (Mod.refl [] w).alloc (.cells #[.slice (some ⟨G, o + f / 8, none⟩) nb (c - f / 8), .int .i64 ((f : Int) % 8), .int .i64 ((len : Int) / 64 - 1), .int .i64 ((len : Int) - ((len : Int) / 64 - 1) * 8 * 8), .int .i64 ((((len - 64 * (len / 64 - 1) : Nat) : Int) + 7) / 8), .int .u64 0] 81)
      have r1 := hr.mod m0 (by simp)
      generalize hsz : w.heap.size = P at *
      generalize w.alloc (.cells #[.slice (some ⟨G, o + f / 8, none⟩) nb (c - f / 8), .int .i64 ((f : Int) % 8), .int .i64 ((len : Int) / 64 - 1), .int .i64 ((len : Int) - ((len : Int) / 64 - 1) * 8 * 8), .int .i64 ((((len - 64 * (len / 64 - 1) : Nat) : Int) + 7) / 8), .int .u64 0] 81) = w1 at *
      have hx := r1 (o + f / 8) (by omega) (by omega)
      have hb8 := hs.get (o + f / 8)
      generalize hbb : d.getD (o + f / 8) 0 = b at *
      obtain ⟨c0, c1, c2, c3, c4, c5⟩ := blk6 k0
      have f5 := k0.frozen 5
      have hk := hide k0
      have hm0 := hide m0
      clear k0 m0 r1 hr
      go_cut [] (fun wx => Blk wx P 81 #[.slice (some ⟨G, o + f / 8, none⟩) nb (c - f / 8), .int .i64 ((f : Int) % 8), .int .i64 ((len : Int) / 64 - 1), .int .i64 ((len : Int) - ((len : Int) / 64 - 1) * 8 * 8), .int .i64 ((((len - 64 * (len / 64 - 1) : Nat) : Int) + 7) / 8), .int .u64 ((lsb 0 b : Nat) : Int)] ∧ Mod [P] w1 wx)
      case first =>
        go_region_with (first | (go_at_call 68; (with_reducible refine (setLSB_any _ _ 5 0 b (by decide) hb8 ?_ ?_).mono ?_); exact c5; exact f5; rintro e w' ⟨rfl, rfl⟩))
        all_goals (go_wp2_with fail; go_meet; refine ⟨?_, ?_⟩)
        all_goals first | (with_reducible exact b6s5 (unhide hk) _) | (with_reducible exact (b6s5 (unhide hk) _).drew) | ((repeat' (first | (with_reducible exact Mod.refl _ _) | (with_reducible assumption) | (with_reducible refine Mod.drew ?_) | (with_reducible refine Mod.drewN ?_ _) | (with_reducible refine Mod.alloc ?_ _) | (with_reducible refine Mod.setCell ?_ ?_ _) | (left; simp; done) | (right; first | omega | (simp; omega) | (simp; done))))) | (exact (b6s5 (unhide hk).drew _).cast (by simp [lsb]))
      case rest =>
        obtain ⟨hB, hM⟩ := hcut
        go_wp2_with fail
        go_ret
        refine ⟨P, b, rfl, by omega, (unhide hm0).trans hM (by simp; omega), by omega, ?_, fun h => by omega, by rw [hbb]; omega⟩
        exact blk6_eq hB (by omega) (by omega) (by omega) (by omega) (by simp [lsb])
    · have e1 : (len : Int) / 64 - 1 < 0 := by omega
      go_enter Tryd.func54, Tryd.ntmps54
      go_upto_region 11 with (first | (go_at_call 52; (with_reducible refine (unhide hBF _).mono ?_); rintro e w' ⟨rfl, rfl⟩) | (go_at_call 52; (with_reducible refine (bfb_i _ _ (len - 64 * (len / 64 - 1)) (by omega) (by omega)).mono ?_); rintro e w' ⟨rfl, rfl⟩))
      have k0 := Blk.new (w := w) (g := w.heap.size) 81 #[.slice (some ⟨G, o + f / 8, none⟩) nb (c - f / 8), .int .i64 ((f : Int) % 8), .int .i64 0, .int .i64 (len : Int), .int .i64 ((((len - 64 * (len / 64 - 1) : Nat) : Int) + 7) / 8), .int .u64 0] rfl
      have m0 := (Mod.refl [] w).alloc (.cells #[.slice (some ⟨G, o + f / 8, none⟩) nb (c - f / 8), .int .i64 ((f : Int) % 8), .int .i64 0, .int .i64 (len : Int), .int .i64 ((((len - 64 * (len / 64 - 1) : Nat) : Int) + 7) / 8), .int .u64 0] 81)
      have r1 := hr.mod m0 (by simp)
      generalize hsz : w.heap.size = P at *
      generalize w.alloc (.cells #[.slice (some ⟨G, o + f / 8, none⟩) nb (c - f / 8), .int .i64 ((f : Int) % 8), .int .i64 0, .int .i64 (len : Int), .int .i64 ((((len - 64 * (len / 64 - 1) : Nat) : Int) + 7) / 8), .int .u64 0] 81) = w1 at *
      have hx := r1 (o + f / 8) (by omega) (by omega)
      have hb8 := hs.get (o + f / 8)
      generalize hbb : d.getD (o + f / 8) 0 = b at *
      obtain ⟨c0, c1, c2, c3, c4, c5⟩ := blk6 k0
      have f5 := k0.frozen 5
      have hk := hide k0
      have hm0 := hide m0
      clear k0 m0 r1 hr
      go_cut [] (fun wx => Blk wx P 81 #[.slice (some ⟨G, o + f / 8, none⟩) nb (c - f / 8), .int .i64 ((f : Int) % 8), .int .i64 0, .int .i64 (len : Int), .int .i64 ((((len - 64 * (len / 64 - 1) : Nat) : Int) + 7) / 8), .int .u64 ((lsb 0 b : Nat) : Int)] ∧ Mod [P] w1 wx)
      case first =>
        go_region_with (first | (go_at_call 68; (with_reducible refine (setLSB_any _ _ 5 0 b (by decide) hb8 ?_ ?_).mono ?_); exact c5; exact f5; rintro e w' ⟨rfl, rfl⟩))
        all_goals (go_wp2_with fail; go_meet; refine ⟨?_, ?_⟩)
        all_goals first | (with_reducible exact b6s5 (unhide hk) _) | (with_reducible exact (b6s5 (unhide hk) _).drew) | ((repeat' (first | (with_reducible exact Mod.refl _ _) | (with_reducible assumption) | (with_reducible refine Mod.drew ?_) | (with_reducible refine Mod.drewN ?_ _) | (with_reducible refine Mod.alloc ?_ _) | (with_reducible refine Mod.setCell ?_ ?_ _) | (left; simp; done) | (right; first | omega | (simp; omega) | (simp; done))))) | (exact (b6s5 (unhide hk).drew _).cast (by simp [lsb]))
      case rest =>
        obtain ⟨hB, hM⟩ := hcut
        go_wp2_with fail
        go_ret
        refine ⟨P, b, rfl, by omega, (unhide hm0).trans hM (by simp; omega), by omega, ?_, fun h => by omega, by rw [hbb]; omega⟩
        exact blk6_eq hB (by omega) (by omega) (by omega) (by omega) (by simp [lsb])
end
section
open Go.ChangeShapes Go.WideShapes Go.ChangeAt Go.RowKit
def shb (s x y : Nat) : Nat := if s = 0 then x else x / 2 ^ s ||| y * 2 ^ (8 - s) % 256
theorem wrap8 (n : Nat) : IntKind.u8.wrap (n : Int) = ((n % 256 : Nat) : Int) := by
  simp [IntKind.wrap, IntKind.bits, IntKind.signed]
theorem shb_bits (s x y : Nat) (h0 : s ≠ 0) (hx : x < 256) : bits .or .u8 ((x : Int) / 2 ^ s) (IntKind.u8.wrap ((y : Int) * 2 ^ (8 - s))) = ((shb s x y : Nat) : Int) := by
  have e1 : (x : Int) / 2 ^ s = ((x / 2 ^ s : Nat) : Int) := by simp
  have e2 : (y : Int) * 2 ^ (8 - s) = ((y * 2 ^ (8 - s) : Nat) : Int) := by simp
  have h1 : x / 2 ^ s < 256 := Nat.lt_of_le_of_lt (Nat.div_le_self _ _) hx
  rw [e1, e2, wrap8, u8_or_nat _ _ h1 (Nat.mod_lt _ (by decide))]
  unfold shb
  rw [if_neg h0]
theorem shb_lt (s x y : Nat) (hx : x < 256) : shb s x y < 256 := by
  unfold shb
  split
  · exact hx
  · exact Nat.or_lt_two_pow (n := 8) (Nat.lt_of_le_of_lt (Nat.div_le_self _ _) hx) (Nat.mod_lt _ (by decide))
theorem shb_tb {d : List Nat} (h : Small d) (s a j : Nat) (hs : s < 8) (hj : j < 8) : (shb s (d.getD a 0) (d.getD (a + 1) 0)).testBit j = bitAt d (8 * a + s + j) := by
  have hx := h.get a
  have h8 : (256 : Nat) = 2 ^ 8 := by decide
  unfold shb bitAt
  by_cases h0 : s = 0
  · subst h0
    have e1 : (8 * a + 0 + j) / 8 = a := by omega
    have e2 : (8 * a + 0 + j) % 8 = j := by omega
    rw [if_pos rfl, e1, e2]
  · rw [if_neg h0, Nat.testBit_or, Nat.testBit_div_two_pow, h8, Nat.testBit_mod_two_pow, decide_eq_true hj, Bool.true_and, Nat.testBit_mul_two_pow]
    by_cases c : j + s < 8
    · have e1 : (8 * a + s + j) / 8 = a := by omega
      have e2 : (8 * a + s + j) % 8 = j + s := by omega
      have : ¬ 8 - s ≤ j := by omega
      rw [e1, e2]
      simp [this]
    · have e1 : (8 * a + s + j) / 8 = a + 1 := by omega
      have e2 : (8 * a + s + j) % 8 = j - (8 - s) := by omega
      have e : (d.getD a 0).testBit (j + s) = false := testBit_big hx (by omega)
      have : 8 - s ≤ j := by omega
      rw [e1, e2, e]
      simp [this]
def pv (g : Nat → Bool) : Nat → Nat
  | 0 => 0
  | i + 1 => if g i then pv g i / 2 ||| 128 else pv g i / 2
theorem pv_lt (g : Nat → Bool) : ∀ i, pv g i < 256
  | 0 => by simp [pv]
  | i + 1 => by
    have := pv_lt g i
    simp only [pv]
    split
    · exact or_lt8 (by omega) (by decide)
    · omega
theorem pv_tb (g : Nat → Bool) : ∀ i, i ≤ 8 → ∀ j, j < 8 → (pv g i).testBit j = (decide (8 - i ≤ j) && g (j - (8 - i)))
  | 0, _, j, hj => by
    have : ¬ 8 - 0 ≤ j := by omega
    simp [pv, this]
  | i + 1, hi, j, hj => by
    have ih := pv_tb g i (by omega)
    have hd : (pv g i / 2).testBit j = (pv g i).testBit (j + 1) := by rw [Nat.testBit_succ]
    have h128 : (128 : Nat).testBit j = decide (7 = j) := by
      have : (128 : Nat) = 2 ^ 7 := by decide
      rw [this, tb_pow]
    have hv : (pv g i).testBit (j + 1) = (decide (j + 1 < 8) && (decide (8 - i ≤ j + 1) && g (j + 1 - (8 - i)))) := by
      by_cases c : j + 1 < 8
      · rw [ih (j + 1) c, decide_eq_true c, Bool.true_and]
      · rw [testBit_big (pv_lt g i) (by omega), decide_eq_false c, Bool.false_and]
    have key : (pv g (i + 1)).testBit j = ((pv g i).testBit (j + 1) || (g i && decide (7 = j))) := by
      simp only [pv]
      cases hg : g i
      · simp [hd]
      · simp [Nat.testBit_or, hd, h128]
    rw [key, hv]
    by_cases e : j = 7
    · subst e
      have e2 : 8 - (i + 1) ≤ 7 := by omega
      have e3 : 7 - (7 - i) = i := by omega
      simp [e2, e3]
    · have e1 : j + 1 < 8 := by omega
      have e2 : ¬ 7 = j := fun h => e h.symm
      have e3 : j + 1 - (8 - i) = j - (8 - (i + 1)) := by omega
      have e4 : (8 - i ≤ j + 1) = (8 - (i + 1) ≤ j) := by rw [eq_iff_iff]; omega
      simp [e1, e2, e3, e4]
/-- n bits, as a number. -/
def tbv (g : Nat → Bool) (n : Nat) : Nat := pv g n / 2 ^ (8 - n)
theorem tbv_lt (g : Nat → Bool) (n : Nat) : tbv g n < 256 := Nat.lt_of_le_of_lt (Nat.div_le_self _ _) (pv_lt g n)
theorem tbv_tb (g : Nat → Bool) (n j : Nat) (hn : n ≤ 8) (hj : j < n) : (tbv g n).testBit j = g j := by
  unfold tbv
  rw [Nat.testBit_div_two_pow, pv_tb g n hn _ (by omega)]
  have e1 : 8 - n ≤ j + (8 - n) := by omega
  have e2 : j + (8 - n) - (8 - n) = j := by omega
  rw [e2, decide_eq_true e1, Bool.true_and]
theorem blk6_34 {w : World} {P : Nat} {t : TypeId} {a0 a1 a2 a5 : Value} {x3 x4 y3 y4 : Int} (h : Blk w P t #[a0, a1, a2, .int .i64 x3, .int .i64 x4, a5]) (e3 : x3 = y3) (e4 : x4 = y4) : Blk w P t #[a0, a1, a2, .int .i64 y3, .int .i64 y4, a5] := by subst e3 e4; exact h
theorem ret_2 {k : IntKind} {a b : Int} {v : Value} (h : a = b) : Ending.returned (.tuple #[.int k a, v]) = .returned (.tuple #[.int k b, v]) := by rw [h]
set_option maxRecDepth 100000 in
set_option maxHeartbeats 2000000 in
theorem nextTB_mid (w : World) (G P a m c s tb tby cw : Nat) (a2 : Value) (d : List Nat) (hs8 : s < 8) (hs : Small d) (htb : 8 < tb) (htm : tb < 1048576) (hy1 : 0 < tby) (hy2 : tby < 1048576) (hm : 2 ≤ m) (hmc : m ≤ c) (ha : a + 2 ≤ d.length) (hne : G ≠ P) (hcw : cw < 18446744073709551616) (hcm : cw % 256 = d.getD a 0) {lo : Nat} (hr : Rdb w G d lo)
    (h : Blk w P 81 #[.slice (some ⟨G, a, none⟩) m c, .int .i64 s, a2, .int .i64 tb, .int .i64 tby, .int .u64 cw]) (hlo : lo ≤ a := by omega) :
    Calls Tryd.prog 60 #[.pointer (some ⟨P, 0, none⟩)] w fun e w' => e = .returned (.tuple #[.int .u8 (shb s (d.getD a 0) (d.getD (a + 1) 0) : Int), .int .i64 8]) ∧
      Blk w' P 81 #[.slice (some ⟨G, a + 1, none⟩) (m - 1) (c - 1), .int .i64 s, a2, .int .i64 ((tb - 8 : Nat) : Int), .int .i64 ((tby - 1 : Nat) : Int), .int .u64 (lsb cw (d.getD (a + 1) 0) : Int)] ∧ Mod [P] w w' := by
  obtain ⟨c0, c1, c2, c3, c4, c5⟩ := blk6 h
  have f0 := h.frozen 0
  have f3 := h.frozen 3
  have f4 := h.frozen 4
  have f5 := h.frozen 5
  have hy := hr (a + 1) (by omega) (by omega)
  have hy8 := hs.get (a + 1)
  have hx8 := hs.get a
  have HS := hide (fun h0 => shb_bits s (d.getD a 0) (d.getD (a + 1) 0) h0 hx8)
  generalize d.getD (a + 1) 0 = y at *
  generalize d.getD a 0 = x at *
  have hl := hide (lsb_bits cw y hcw hy8)
  have hB := hide h
  have hne' : P ≠ G := fun e => hne e.symm
  have hPl := h.lt
  clear h hr
  by_cases h0 : s = 0
  · subst h0
    go_enter Tryd.func60, Tryd.ntmps60
    go_wp2_with (first | (go_at_call 53; (with_reducible refine (assert_any _ _ _).mono ?_); rintro e w' ⟨rfl, rfl⟩) | (go_at_call 72; (with_reducible refine (getLSB_any _ _ hcw).mono ?_); rintro e w' ⟨rfl, rfl⟩) | (go_at_call 68; (with_reducible refine (setLSB_any _ _ 5 cw _ hcw hy8 ?_ ?_).mono ?_); (exact (b6s0 (unhide hB) _).cell 5); (exact (b6s0 (unhide hB) _).frozen 5); rintro e w' ⟨rfl, rfl⟩))
    go_returns
    have r1 := b6s4 (b6s3 (b6s5 (b6s0 (unhide hB) (.slice (some ⟨G, a + 1, none⟩) (m - 1) (c - 1))) (.int .u64 (lsb cw y : Int))) (.int .i64 ((tb : Int) - 8))) (.int .i64 ((tby : Int) - 1))
    have r2 := ((((Mod.refl [P] w).setCell (p := ⟨P, 0, none⟩) (by simp) (.slice (some ⟨G, a + 1, none⟩) (m - 1) (c - 1))).setCell (p := ⟨P, 5, none⟩) (by simp) (.int .u64 (lsb cw y : Int))).setCell (p := ⟨P, 3, none⟩) (by simp) (.int .i64 ((tb : Int) - 8))).setCell (p := ⟨P, 4, none⟩) (by simp) (.int .i64 ((tby : Int) - 1))
    exact ⟨rfl, blk6_34 r1 (by omega) (by omega), by with_reducible exact r2⟩
  · go_enter Tryd.func60, Tryd.ntmps60
    go_wp2_with (first | (go_at_call 53; (with_reducible refine (assert_any _ _ _).mono ?_); rintro e w' ⟨rfl, rfl⟩) | (go_at_call 72; (with_reducible refine (getLSB_any _ _ hcw).mono ?_); rintro e w' ⟨rfl, rfl⟩) | (go_at_call 68; (with_reducible refine (setLSB_any _ _ 5 cw _ hcw hy8 ?_ ?_).mono ?_); (exact (b6s0 (unhide hB) _).cell 5); (exact (b6s0 (unhide hB) _).frozen 5); rintro e w' ⟨rfl, rfl⟩))
    go_returns
    have r1 := b6s4 (b6s3 (b6s5 (b6s0 (unhide hB) (.slice (some ⟨G, a + 1, none⟩) (m - 1) (c - 1))) (.int .u64 (lsb cw y : Int))) (.int .i64 ((tb : Int) - 8))) (.int .i64 ((tby : Int) - 1))
    have r2 := ((((Mod.refl [P] w).setCell (p := ⟨P, 0, none⟩) (by simp) (.slice (some ⟨G, a + 1, none⟩) (m - 1) (c - 1))).setCell (p := ⟨P, 5, none⟩) (by simp) (.int .u64 (lsb cw y : Int))).setCell (p := ⟨P, 3, none⟩) (by simp) (.int .i64 ((tb : Int) - 8))).setCell (p := ⟨P, 4, none⟩) (by simp) (.int .i64 ((tby : Int) - 1))
    exact ⟨ret_2 (unhide HS h0), blk6_34 r1 (by omega) (by omega), by with_reducible exact r2⟩
def RSt (w : World) (R G a m c s tb : Nat) (d : List Nat) (i : Nat) : Prop :=
  ∃ cur : Nat, cur < 256 ∧ (i < tb → cur = d.getD (a + (s + i) / 8) 0) ∧ Blk w R 101 #[.slice (some ⟨G, a, none⟩) m c, .int .i64 (i : Int), .int .i64 (tb : Int), .int .u8 (cur : Int), .int .i64 (((s + i) / 8 : Nat) : Int), .int .i64 (((s + i) % 8 : Nat) : Int)]
theorem RSt.mod {w w' : World} {R G a m c s tb : Nat} {d : List Nat} {i : Nat} {S : List Nat} (h : RSt w R G a m c s tb d i) (hm : Mod S w w') (hS : R ∉ S) : RSt w' R G a m c s tb d i := by
  obtain ⟨cur, h1, h2, h3⟩ := h
  exact ⟨cur, h1, h2, h3.mod hm hS⟩
theorem rs_set {w : World} {R G a m c s tb : Nat} {d : List Nat} {i : Nat} (h : RSt w R G a m c s tb d i) (hi : i < tb) :
    Calls Tryd.prog 70 #[.pointer (some ⟨R, 0, none⟩)] w fun e w' => e = .returned (.bool (bitAt d (8 * a + s + i))) ∧ Mod [] w w' := by
  obtain ⟨cur, h1, h2, h3⟩ := h
  have e : bitAt d (8 * a + s + i) = cur.testBit ((s + i) % 8) := by
    rw [h2 hi]; unfold bitAt
    have e1 : (8 * a + s + i) / 8 = a + (s + i) / 8 := by omega
    have e2 : (8 * a + s + i) % 8 = (s + i) % 8 := by omega
    rw [e1, e2]
  rw [e]
  exact rset_any w R _ _ _ _ cur _ h1 (by omega) h3
theorem rs_next {w : World} {R G a m c s tb : Nat} {d : List Nat} {i : Nat} (h : RSt w R G a m c s tb d i) (hs : Small d) (hi : i < tb) (ht : tb ≤ 64) (hs8 : s < 8) (hm : (s + tb + 7) / 8 ≤ m) (ha : a + (s + tb + 7) / 8 ≤ d.length) (hne : G ≠ R) {lo : Nat} (hr : Rdb w G d lo) (hlo : lo ≤ a := by omega) :
    Calls Tryd.prog 71 #[.pointer (some ⟨R, 0, none⟩)] w fun e w' => e = .returned (.tuple #[]) ∧ RSt w' R G a m c s tb d (i + 1) ∧ Mod [R] w w' := by
  obtain ⟨cur, h1, h2, h3⟩ := h
  by_cases h7 : (s + i) % 8 = 7
  · rw [h7] at h3
    have e1 : (s + (i + 1)) / 8 = (s + i) / 8 + 1 := by omega
    have e2 : (s + (i + 1)) % 8 = 0 := by omega
    refine (rnext_out w G R a m c d tb i cur ((s + i) / 8) (by omega) (by omega) (by omega) hne (fun hlt => ⟨by omega, by omega⟩) hr h3).mono fun e w' hh => ?_
    obtain ⟨rfl, r1, r2⟩ := hh
    refine ⟨rfl, ⟨_, ?_, ?_, by rw [e1, e2]; exact r1⟩, r2⟩
    · split
      · exact hs.get _
      · exact h1
    · intro hlt
      rw [if_pos hlt, e1]
  · have e1 : (s + (i + 1)) / 8 = (s + i) / 8 := by omega
    have e2 : (s + (i + 1)) % 8 = (s + i) % 8 + 1 := by omega
    refine (rnext_in w R _ _ _ _ i ((s + i) % 8) (by omega) (by omega) h3).mono fun e w' hh => ?_
    obtain ⟨rfl, r1, r2⟩ := hh
    exact ⟨rfl, ⟨cur, h1, fun hlt => by rw [e1]; exact h2 (by omega), by rw [e1, e2]; exact r1⟩, r2⟩
theorem rs_new {w : World} {G a m c s tb : Nat} {d : List Nat} (hs : Small d) (h0 : 0 < tb) (ht : tb ≤ 64) (hs8 : s < 8) (hm : (s + tb + 7) / 8 ≤ m) (ha : a + (s + tb + 7) / 8 ≤ d.length) {lo : Nat} (hr : Rdb w G d lo) (hlo : lo ≤ a := by omega) :
    Calls Tryd.prog 69 #[.slice (some ⟨G, a, none⟩) m c, .int .i64 s, .int .i64 tb] w fun e w' => ∃ R : Nat, e = .returned (.pointer (some ⟨R, 0, none⟩)) ∧ w.heap.size ≤ R ∧ Mod [] w w' ∧ RSt w' R G a m c s tb d 0 := by
  refine (newBR_any w G a m c s tb d (by omega) (by omega) h0 ⟨by omega, by omega⟩ hr).mono fun e w' hh => ?_
  obtain ⟨R, rfl, h1, h2, h3⟩ := hh
  exact ⟨R, rfl, h1, h2, _, hs.get _, fun _ => rfl, h3⟩
/-- the loop's places: the byte so far, the counter. -/
def LTB (w : World) (R G P a m c s tb : Nat) (d : List Nat) (v2 v5 : Value) (wr : World) : Prop :=
  ∃ i : Nat, i ≤ tb ∧ v5 = .int .i64 (i : Int) ∧ v2 = .int .u8 ((pv (fun j => bitAt d (8 * a + s + j)) i : Nat) : Int) ∧ RSt wr R G a m c s tb d i ∧ Mod [R] w wr
set_option maxRecDepth 100000 in
set_option maxHeartbeats 2000000 in
theorem nextTB_last (w : World) (G P a m c s tb : Nat) (a2 a4 a5 : Value) (d : List Nat) (hs8 : s < 8) (hs : Small d) (htb : tb ≤ 8) (ht0 : 0 < tb) (hm : (s + tb + 7) / 8 ≤ m) (ha : a + (s + tb + 7) / 8 ≤ d.length) (hne : G ≠ P) {lo : Nat} (hr : Rdb w G d lo) (hG : G < w.heap.size)
    (h : Blk w P 81 #[.slice (some ⟨G, a, none⟩) m c, .int .i64 s, a2, .int .i64 tb, a4, a5]) (hlo : lo ≤ a := by omega) :
    Calls Tryd.prog 60 #[.pointer (some ⟨P, 0, none⟩)] w fun e w' => e = .returned (.tuple #[.int .u8 (tbv (fun j => bitAt d (8 * a + s + j)) tb : Int), .int .i64 tb]) ∧ Mod [P] w w' := by
  obtain ⟨c0, c1, c2, c3, c4, c5⟩ := blk6 h
  have f3 := h.frozen 3
  have hB1 := b6s3 h (.int .i64 0)
  have hM1 := (Mod.refl [P] w).setCell (p := ⟨P, 3, none⟩) (by simp) (.int .i64 0)
  have hr1 := hr.mod hM1 (by simpa using hne)
  have hPl := h.lt
  have hsz : (w.setCell ⟨P, 3, none⟩ (.int .i64 0)).heap.size = w.heap.size := World.size_setCell _ _ _
  clear h hr
  go_enter Tryd.func60, Tryd.ntmps60
  go_upto_region 5 with (first | (go_at_call 53; (with_reducible refine (assert_any _ _ _).mono ?_); rintro e w' ⟨rfl, rfl⟩))
  clear c0 c1 c2 c3 c4 c5 f3
  generalize (w.setCell ⟨P, 3, none⟩ (.int .i64 0)) = w1 at *
  obtain ⟨c0, c1, c2, c3, c4, c5⟩ := blk6 hB1
  have hN := hide (fun (W : World) (hm' : Mod [] w1 W) => rs_new (c := c) hs ht0 (by omega) hs8 hm ha (hr1.mod hm' (by simp)))
  have hR1 := hide hr1
  have hMH := hide hM1
  clear hr1 hM1 hB1
  go_cut [4] (fun v4 wx => ∃ R : Nat, v4 = .pointer (some ⟨R, 0, none⟩) ∧ w1.heap.size ≤ R ∧ Mod [] w1 wx ∧ RSt wx R G a m c s tb d 0)
  case first =>
    go_region_with (first | (go_at_call 69; (with_reducible refine (unhide hN _ (by (repeat' (first | (with_reducible exact Mod.refl _ _) | (with_reducible assumption) | (with_reducible refine Mod.drew ?_) | (with_reducible refine Mod.drewN ?_ _) | (with_reducible refine Mod.alloc ?_ _) | (with_reducible refine Mod.setCell ?_ ?_ _) | (left; simp; done) | (right; first | omega | (simp; omega) | (simp; done)))))).mono ?_); rintro e w' ⟨R, rfl, hRl, hm', hrs⟩; have hm2 := Mod.trans (S := []) (T := []) (a := w1) (by (repeat' (first | (with_reducible exact Mod.refl _ _) | (with_reducible assumption) | (with_reducible refine Mod.drew ?_) | (with_reducible refine Mod.drewN ?_ _) | (with_reducible refine Mod.alloc ?_ _) | (with_reducible refine Mod.setCell ?_ ?_ _) | (left; simp; done) | (right; first | omega | (simp; omega) | (simp; done))))) hm' (by simp)))
    all_goals (go_wp2_with fail; go_meet; exact ⟨R, rfl, by first | exact hRl | (simpa using hRl), hm2, hrs⟩)
  case rest =>
    obtain ⟨R, rfl, hRl, hm2, hrs⟩ := hcut
    have hR2 := (unhide hR1).mod hm2 (by simp)
    have hM2 := (unhide hMH).trans hm2 (by simp)
    have h0 := hide (show LTB wc R G P a m c s tb d (.int .u8 0) (.int .i64 0) wc from ⟨0, by omega, rfl, rfl, hrs, Mod.refl _ _⟩)
    clear hrs c0 c1 c2 c3 c4 c5
    have hGR : G ≠ R := by omega
    go_wp2_with fail
    go_loopw [2, 5] (LTB wc R G P a m c s tb d) (fun v2 v5 _ => tb - (intOf v5).toNat)
    case atStart => exact unhide h0
    case round =>
      obtain ⟨i, hi, rfl, rfl, hrs, hmr⟩ := hrel
      by_cases hlt : i < tb
      · have hr3 := Rdb.mod (unhide hR2) hmr (by simpa using hGR)
        have hS := hide (fun (W : World) (hm' : Mod [] wr W) => rs_set (hrs.mod hm' (by simp)) hlt)
        have hX := hide (fun (W : World) (hm' : Mod [] wr W) => rs_next (hrs.mod hm' (by simp)) hs hlt (by omega) hs8 hm ha hGR (hr3.mod hm' (by simp)))
        have hC := hide (fun (W W' : World) (x : Int) (hm' : Mod [] wr W) (hx : x = ((pv (fun j => bitAt d (8 * a + s + j)) (i + 1) : Nat) : Int)) (h1 : RSt W' R G a m c s tb d (i + 1)) (h2 : Mod [R] W W') =>
          (show LTB wc R G P a m c s tb d (.int .u8 x) (.int .i64 ((i : Int) + 1)) W' from ⟨i + 1, by omega, by simp, by rw [hx], h1, (hmr.trans hm' (by simp)).trans h2 (by simp)⟩))
        have e : pv (fun j => bitAt d (8 * a + s + j)) (i + 1) = if bitAt d (8 * a + s + i) then pv (fun j => bitAt d (8 * a + s + j)) i / 2 ||| 128 else pv (fun j => bitAt d (8 * a + s + j)) i / 2 := rfl
        have hv := pv_lt (fun j => bitAt d (8 * a + s + j)) i
        generalize pv (fun j => bitAt d (8 * a + s + j)) (i + 1) = v' at *
        generalize pv (fun j => bitAt d (8 * a + s + j)) i = v at *
        have hor := u8_or_nat (v / 2) 128 (by omega) (by decide)
        clear hrs hr3 h0 hmr
        cases hb : bitAt d (8 * a + s + i)
        all_goals
          rw [hb] at hS e
          go_wp2_with (first | (go_at_call 70; (with_reducible refine (unhide hS _ (by (repeat' (first | (with_reducible exact Mod.refl _ _) | (with_reducible assumption) | (with_reducible refine Mod.drew ?_) | (with_reducible refine Mod.drewN ?_ _) | (with_reducible refine Mod.alloc ?_ _) | (with_reducible refine Mod.setCell ?_ ?_ _) | (left; simp; done) | (right; first | omega | (simp; omega) | (simp; done)))))).mono ?_); rintro e' w' ⟨rfl, hm3⟩) | (go_at_call 71; (with_reducible refine (unhide hX _ hm3).mono ?_); rintro e' w'' ⟨rfl, hrs2, hm4⟩))
        · exact ⟨unhide hC _ _ _ hm3 (by rw [e]; simp) hrs2 hm4, by simp [intOf]; omega⟩
        · exact ⟨unhide hC _ _ _ hm3 (by rw [e, if_pos trivial]; exact hor) hrs2 hm4, by simp [intOf]; omega⟩
      · obtain rfl : i = tb := by omega
        have hv := pv_lt (fun j => bitAt d (8 * a + s + j)) i
        have e : (((pv (fun j => bitAt d (8 * a + s + j)) i : Nat) : Int) / 2 ^ (8 - i)) = ((tbv (fun j => bitAt d (8 * a + s + j)) i : Nat) : Int) := by unfold tbv; simp
        have E := hide e
        have hM3 := hide ((unhide hMH).trans (hm2.trans hmr (S := []) (by simp; omega)) (by simp))
        clear e h0 hrs
        generalize pv (fun j => bitAt d (8 * a + s + j)) i = v at *
        go_wp2_with fail
        go_returns
        exact ⟨ret_2 (unhide E), unhide hM3⟩
end
section
open Go.ChangeShapes Go.WideShapes Go.ChangeAt Go.RowKit
theorem blk5 {w : World} {P : Nat} {t : TypeId} {a0 a1 a2 a3 a4 : Value} (h : Blk w P t #[a0, a1, a2, a3, a4]) :
    w.cell? ⟨P, 0, none⟩ = some a0 ∧ w.cell? ⟨P, 1, none⟩ = some a1 ∧ w.cell? ⟨P, 2, none⟩ = some a2 ∧ w.cell? ⟨P, 3, none⟩ = some a3 ∧ w.cell? ⟨P, 4, none⟩ = some a4 :=
  ⟨h.cell 0, h.cell 1, h.cell 2, h.cell 3, h.cell 4⟩
section
variable {w : World} {P : Nat} {t : TypeId} {a0 a1 a2 a3 a4 : Value}
theorem b5s0 (h : Blk w P t #[a0, a1, a2, a3, a4]) (v : Value) : Blk (w.setCell ⟨P, 0, none⟩ v) P t #[v, a1, a2, a3, a4] := h.set 0 v
theorem b5s4 (h : Blk w P t #[a0, a1, a2, a3, a4]) (v : Value) : Blk (w.setCell ⟨P, 4, none⟩ v) P t #[a0, a1, a2, a3, v] := h.set 4 v
end
def M64 : Nat := 18446744073709551615
def rot (s v : Nat) : Nat := v * 2 ^ s % 18446744073709551616 ||| v / 2 ^ (64 - s)
def mixw (mk x y : Nat) : Nat := (x &&& mk) ||| (y &&& (18446744073709551615 - mk))
theorem two64 : (18446744073709551616 : Nat) = 2 ^ 64 := by decide
theorem rot_lt (s v : Nat) (hv : v < 18446744073709551616) : rot s v < 18446744073709551616 := Nat.or_lt_two_pow (n := 64) (Nat.mod_lt _ (by decide)) (Nat.lt_of_le_of_lt (Nat.div_le_self _ _) hv)
theorem mixw_lt (mk x y : Nat) (hx : x < 18446744073709551616) (hy : y < 18446744073709551616) : mixw mk x y < 18446744073709551616 :=
  Nat.or_lt_two_pow (n := 64) (Nat.lt_of_le_of_lt Nat.and_le_left hx) (Nat.lt_of_le_of_lt Nat.and_le_left hy)
theorem rot_tb (s v j : Nat) (hs : s < 8) (h0 : s ≠ 0) (hv : v < 18446744073709551616) (hj : j < 64) : (rot s v).testBit j = if j < s then v.testBit (64 - s + j) else v.testBit (j - s) := by
  unfold rot
  rw [Nat.testBit_or, two64, Nat.testBit_mod_two_pow, decide_eq_true hj, Bool.true_and, Nat.testBit_mul_two_pow, Nat.testBit_div_two_pow]
  have big : ∀ k, 64 ≤ k → v.testBit k = false := fun k hk => Nat.testBit_lt_two_pow (Nat.lt_of_lt_of_le (show v < 2 ^ 64 from hv) (Nat.pow_le_pow_right (by decide) hk))
  by_cases c : j < s
  · rw [if_pos c]
    have : ¬ s ≤ j := by omega
    have e : j + (64 - s) = 64 - s + j := by omega
    simp [this, e]
  · rw [if_neg c, big (j + (64 - s)) (by omega)]
    have : s ≤ j := by omega
    simp [this]
theorem mixw_tb (s x y j : Nat) (hs : s < 8) (hj : j < 64) : (mixw (2 ^ s - 1) x y).testBit j = if j < s then x.testBit j else y.testBit j := by
  unfold mixw
  have hm : 2 ^ s - 1 < 2 ^ 64 := Nat.lt_of_lt_of_le (Nat.sub_lt (Nat.two_pow_pos s) (by decide)) (Nat.pow_le_pow_right (by decide) (by omega))
  have e : 18446744073709551615 - (2 ^ s - 1) = 2 ^ 64 - ((2 ^ s - 1) + 1) := by
    have : (2 : Nat) ^ 64 = 18446744073709551616 := by decide
    omega
  rw [Nat.testBit_or, Nat.testBit_and, Nat.testBit_and, e, Nat.testBit_two_pow_sub_succ hm, Nat.testBit_two_pow_sub_one, decide_eq_true hj, Bool.true_and]
  by_cases c : j < s <;> simp [c]
/-- what stands there when a word is written across two. -/
def putw (m : List Nat) (a s v : Nat) : List Nat := if s = 0 then put8 m a v else put8 (put8 m a (mixw (2 ^ s - 1) (wordAt m a) (rot s v))) (a + 8) (mixw (2 ^ s - 1) (rot s v) (wordAt m (a + 8)))
theorem putw_length (m : List Nat) (a s v : Nat) : (putw m a s v).length = m.length := by unfold putw; split <;> simp [put8_length]
theorem putw_small {m : List Nat} (h : Small m) (a s v : Nat) (hv : v < 18446744073709551616) : Small (putw m a s v) := by
  unfold putw
  split
  · exact put8_small h _ _ hv
  · exact put8_small (put8_small h _ _ (mixw_lt _ _ _ (wordAt_lt h _) (rot_lt _ _ hv))) _ _ (mixw_lt _ _ _ (rot_lt _ _ hv) (wordAt_lt h _))
theorem bitAt_putw {m : List Nat} (h : Small m) (a s v i : Nat) (hs : s < 8) (hv : v < 18446744073709551616) (ha : a + 8 ≤ m.length) (ha2 : s ≠ 0 → a + 16 ≤ m.length) :
    bitAt (putw m a s v) i = if 8 * a + s ≤ i ∧ i < 8 * a + s + 64 then v.testBit (i - (8 * a + s)) else bitAt m i := by
  unfold putw
  by_cases h0 : s = 0
  · subst h0
    rw [if_pos rfl, bitAt_put8 _ _ _ _ hv ha]
    rfl
  · have h16 := ha2 h0
    have l1 := mixw_lt (2 ^ s - 1) (wordAt m a) (rot s v) (wordAt_lt h _) (rot_lt _ _ hv)
    have l2 := mixw_lt (2 ^ s - 1) (rot s v) (wordAt m (a + 8)) (rot_lt _ _ hv) (wordAt_lt h _)
    rw [if_neg h0, bitAt_put8 _ _ _ _ l2 (by rw [put8_length]; omega), bitAt_put8 _ _ _ _ l1 ha]
    by_cases c1 : 8 * (a + 8) ≤ i ∧ i < 8 * (a + 8) + 64
    · rw [if_pos c1, mixw_tb s _ _ _ hs (by omega)]
      by_cases c2 : i - 8 * (a + 8) < s
      · rw [if_pos c2, rot_tb s v _ hs h0 hv (by omega), if_pos c2, if_pos (by omega)]
        congr 1; omega
      · rw [if_neg c2, wordAt_tb h (a + 8) _ (by omega) (by omega), if_neg (by omega)]
        congr 1; omega
    · rw [if_neg c1]
      by_cases c2 : 8 * a ≤ i ∧ i < 8 * a + 64
      · rw [if_pos c2, mixw_tb s _ _ _ hs (by omega)]
        by_cases c3 : i - 8 * a < s
        · rw [if_pos c3, wordAt_tb h a _ (by omega) ha, if_neg (by omega)]
          congr 1; omega
        · rw [if_neg c3, rot_tb s v _ hs h0 hv (by omega), if_neg c3, if_pos (by omega)]
          congr 1; omega
      · rw [if_neg c2, if_neg (by omega)]
/-- the word that is remembered is the one that stands there next. -/
theorem putw_next {m : List Nat} (h : Small m) (a s v : Nat) (h0 : s ≠ 0) (hv : v < 18446744073709551616) (ha : a + 16 ≤ m.length) : wordAt (putw m a s v) (a + 8) = mixw (2 ^ s - 1) (rot s v) (wordAt m (a + 8)) := by
  have l2 := mixw_lt (2 ^ s - 1) (rot s v) (wordAt m (a + 8)) (rot_lt _ _ hv) (wordAt_lt h _)
  have hsm := putw_small h a s v hv
  apply Nat.eq_of_testBit_eq
  intro j
  by_cases hj : j < 64
  · rw [wordAt_tb hsm _ _ hj (by rw [putw_length]; omega)]
    unfold putw
    rw [if_neg h0, bitAt_put8 _ _ _ _ l2 (by rw [put8_length]; omega), if_pos (by omega)]
    congr 1; omega
  · have big : ∀ x, x < 18446744073709551616 → x.testBit j = false := fun x hx => Nat.testBit_lt_two_pow (Nat.lt_of_lt_of_le (show x < 2 ^ 64 from hx) (Nat.pow_le_pow_right (by decide) (by omega)))
    rw [big _ (wordAt_lt hsm _), big _ l2]
theorem rot_bits (s v : Nat) (hv : v < 18446744073709551616) : bits .or .u64 (IntKind.u64.wrap ((v : Int) * 2 ^ s)) ((v : Int) / 2 ^ (64 - s)) = ((rot s v : Nat) : Int) := by
  have e1 : (v : Int) / 2 ^ (64 - s) = ((v / 2 ^ (64 - s) : Nat) : Int) := by simp
  have e2 : (v : Int) * 2 ^ s = ((v * 2 ^ s : Nat) : Int) := by simp
  have h1 : v / 2 ^ (64 - s) < 18446744073709551616 := Nat.lt_of_le_of_lt (Nat.div_le_self _ _) hv
  rw [e1, e2, wrap64, u64_or_nat _ _ (Nat.mod_lt _ (by decide)) h1]
  rfl
theorem mix_bits (mk x y : Nat) (hm : mk < 18446744073709551616) (hx : x < 18446744073709551616) (hy : y < 18446744073709551616) : bits .or .u64 (bits .and .u64 (x : Int) (mk : Int)) (bits .andNot .u64 (y : Int) (mk : Int)) = ((mixw mk x y : Nat) : Int) := by
  rw [u64_and_nat x mk hx hm, u64_andNot_nat y mk hy hm, u64_or_nat _ _ (Nat.lt_of_le_of_lt Nat.and_le_left hx) (Nat.lt_of_le_of_lt Nat.and_le_left hy)]
  rfl
theorem mix_bits' (mk x y : Nat) (hm : mk < 18446744073709551616) (hx : x < 18446744073709551616) (hy : y < 18446744073709551616) : bits .or .u64 (bits .andNot .u64 (y : Int) (mk : Int)) (bits .and .u64 (x : Int) (mk : Int)) = ((mixw mk x y : Nat) : Int) := by
  rw [u64_and_nat x mk hx hm, u64_andNot_nat y mk hy hm, u64_or_nat _ _ (Nat.lt_of_le_of_lt Nat.and_le_left hy) (Nat.lt_of_le_of_lt Nat.and_le_left hx)]
  unfold mixw
  rw [Nat.or_comm]
end
end Go.Proofs.YtjfbojmeccdchaaDoor
