/- The word writer is made. The word writer: a byte behind the last word: plain facts. The word writer: a byte behind the last word: the walk. The word writer: some bits behind the last byte. (YtjfbojmeccdchaaDoor) -/
import Derived.Test.YtjfbojmeccdchaaDoorF3
set_option linter.unusedVariables false
set_option linter.unusedSimpArgs false
namespace Go.Proofs.YtjfbojmeccdchaaDoor
section
open Go.ChangeShapes Go.WideShapes Go.ChangeAt Go.RowKit
theorem msk_bits {s : Nat} (hs : s < 8) : IntKind.u64.wrap (IntKind.u64.wrap ((2 : Int) ^ s) - 1) = ((2 ^ s - 1 : Nat) : Int) := by
  rcases (by omega : s = 0 ∨ s = 1 ∨ s = 2 ∨ s = 3 ∨ s = 4 ∨ s = 5 ∨ s = 6 ∨ s = 7) with rfl | rfl | rfl | rfl | rfl | rfl | rfl | rfl <;> decide
theorem blk5_eq {w : World} {P : Nat} {t : TypeId} {a0 a2 : Value} {x1 x3 x4 y1 y3 y4 : Int} (h : Blk w P t #[a0, .int .i64 x1, a2, .int .u64 x3, .int .u64 x4]) (e1 : x1 = y1) (e3 : x3 = y3) (e4 : x4 = y4) : Blk w P t #[a0, .int .i64 y1, a2, .int .u64 y3, .int .u64 y4] := by subst e1 e3 e4; exact h
set_option maxRecDepth 100000 in
set_option maxHeartbeats 2000000 in
theorem newWW_any (w : World) (B G N cap o n c f len : Nat) (mem : List Nat) (hs : Small mem) (hl : mem.length = N) (h0 : 0 < len) (hlen : len < 65536) (hf : f < 65536) (hfl : f + len ≤ 8 * n) (hnc : n ≤ c) (hoN : o + n ≤ N) (hown : w.ownsRow B 5 1 (.slice (some ⟨G, 0, none⟩) N cap) N (bv mem)) :
    Calls Tryd.prog 55 #[.slice (some ⟨G, o, none⟩) n c, .int .i64 f, .int .i64 len] w fun e w' => ∃ (P cw : Nat), e = .returned (.pointer (some ⟨P, 0, none⟩)) ∧ w.heap.size ≤ P ∧ Mod [] w w' ∧ cw < 18446744073709551616 ∧
      Blk w' P 87 #[.slice (some ⟨G, o + f / 8, none⟩) (n - f / 8) (c - f / 8), .int .i64 ((f % 8 : Nat) : Int), .int .i64 len, .int .u64 ((2 ^ (f % 8) - 1 : Nat) : Int), .int .u64 cw] ∧
      (f % 8 ≠ 0 → 64 ≤ len → cw = wordAt mem (o + f / 8)) ∧ (f % 8 ≠ 0 → cw % 256 = mem.getD (o + f / 8) 0) := by
  have hGl := own_lt' hown
  have HM := hide (msk_bits (show f % 8 < 8 by omega))
  by_cases hz : f % 8 = 0
  · have e0 : (f : Int) % 8 = 0 := by omega
    go_enter Tryd.func55, Tryd.ntmps55
    go_wp2_with fail
    go_ret
    have k0 := Blk.new (w := w) (g := w.heap.size) 87 #[.slice (some ⟨G, o + f / 8, none⟩) (n - f / 8) (c - f / 8), .int .i64 0, .int .i64 len, .int .u64 0, .int .u64 0] rfl
    refine ⟨w.heap.size, 0, rfl, Nat.le_refl _, by (repeat' (first | (with_reducible exact Mod.refl _ _) | (with_reducible assumption) | (with_reducible refine Mod.drew ?_) | (with_reducible refine Mod.drewN ?_ _) | (with_reducible refine Mod.alloc ?_ _) | (with_reducible refine Mod.setCell ?_ ?_ _) | (left; simp; done) | (right; first | omega | (simp; omega) | (simp; done)))), by decide, ?_, fun h => absurd hz h, fun h => absurd hz h⟩
    exact blk5_eq k0 (by omega) (by rw [hz]; rfl) rfl
  · have e0 : ((f : Int) % 8 != 0) = true := by simp; omega
    by_cases hw : 64 ≤ len
    · have e1 : (64 : Int) ≤ (len : Int) := by omega
      go_enter Tryd.func55, Tryd.ntmps55
      go_upto_region 4 with (fail)
      have k0 := Blk.new (w := w) (g := w.heap.size) 87 #[.slice (some ⟨G, o + f / 8, none⟩) (n - f / 8) (c - f / 8), .int .i64 ((f : Int) % 8), .int .i64 len, .int .u64 (IntKind.u64.wrap (IntKind.u64.wrap ((2 : Int) ^ (f % 8)) - 1)), .int .u64 0] rfl
      have m0 := (Mod.refl [] w).alloc (.cells #[.slice (some ⟨G, o + f / 8, none⟩) (n - f / 8) (c - f / 8), .int .i64 ((f : Int) % 8), .int .i64 len, .int .u64 (IntKind.u64.wrap (IntKind.u64.wrap ((2 : Int) ^ (f % 8)) - 1)), .int .u64 0] 87)
      have o1 := own_mod hown m0 (by simp)
      generalize hsz : w.heap.size = P at *
      generalize w.alloc (.cells #[.slice (some ⟨G, o + f / 8, none⟩) (n - f / 8) (c - f / 8), .int .i64 ((f : Int) % 8), .int .i64 len, .int .u64 (IntKind.u64.wrap (IntKind.u64.wrap ((2 : Int) ^ (f % 8)) - 1)), .int .u64 0] 87) = w1 at *
      obtain ⟨c0, c1, c2, c3, c4⟩ := blk5 k0
      have f4 := k0.frozen 4
      have hU := hide (fun (W : World) (hm' : Mod [] w1 W) => u64_any W G (o + f / 8) (n - f / 8) (c - f / 8) mem hs (by omega) (by omega) (own_rdb (own_mod o1 hm' (by simp))))
      have hk := hide k0
      have hm0 := hide m0
      clear k0 m0 o1 hown
      go_cut [] (fun wx => Blk wx P 87 #[.slice (some ⟨G, o + f / 8, none⟩) (n - f / 8) (c - f / 8), .int .i64 ((f : Int) % 8), .int .i64 len, .int .u64 (IntKind.u64.wrap (IntKind.u64.wrap ((2 : Int) ^ (f % 8)) - 1)), .int .u64 (wordAt mem (o + f / 8) : Int)] ∧ Mod [P] w1 wx)
      case first =>
        go_region_with (first | (go_at_call 67; (with_reducible refine (unhide hU _ (by (repeat' (first | (with_reducible exact Mod.refl _ _) | (with_reducible assumption) | (with_reducible refine Mod.drew ?_) | (with_reducible refine Mod.drewN ?_ _) | (with_reducible refine Mod.alloc ?_ _) | (with_reducible refine Mod.setCell ?_ ?_ _) | (left; simp; done) | (right; first | omega | (simp; omega) | (simp; done)))))).mono ?_); rintro e w' ⟨rfl, hm'⟩; have hm2 := Mod.trans (S := []) (T := []) (a := w1) (by (repeat' (first | (with_reducible exact Mod.refl _ _) | (with_reducible assumption) | (with_reducible refine Mod.drew ?_) | (with_reducible refine Mod.drewN ?_ _) | (with_reducible refine Mod.alloc ?_ _) | (with_reducible refine Mod.setCell ?_ ?_ _) | (left; simp; done) | (right; first | omega | (simp; omega) | (simp; done))))) hm' (by simp); have hb2 := (unhide hk).mod hm2 (by simp); have hm3 := hm2.any [P]; obtain ⟨x0, x1, x2, x3, x4⟩ := blk5 hb2; have g4 := hb2.frozen 4) | (go_at_call 66; (with_reducible refine (toLE_any _ _).mono ?_); rintro e w' ⟨rfl, rfl⟩))
        all_goals (go_wp2_with fail; go_meet; refine ⟨?_, ?_⟩)
        all_goals first | (with_reducible exact b5s4 hb2 _) | (with_reducible exact (b5s4 hb2 _).drew) | ((repeat' (first | (with_reducible exact Mod.refl _ _) | (with_reducible assumption) | (with_reducible refine Mod.drew ?_) | (with_reducible refine Mod.drewN ?_ _) | (with_reducible refine Mod.alloc ?_ _) | (with_reducible refine Mod.setCell ?_ ?_ _) | (left; simp; done) | (right; first | omega | (simp; omega) | (simp; done)))))
      case rest =>
        obtain ⟨hB, hM⟩ := hcut
        go_wp2_with fail
        go_ret
        refine ⟨P, wordAt mem (o + f / 8), rfl, by omega, (unhide hm0).trans hM (by simp; omega), wordAt_lt hs _, ?_, fun _ _ => rfl, fun _ => wordAt_mod hs _ (by omega)⟩
        exact blk5_eq hB (by omega) (unhide HM) rfl
    · have e1 : ¬ (64 : Int) ≤ (len : Int) := by omega
      go_enter Tryd.func55, Tryd.ntmps55
      go_upto_region 6 with (fail)
      have k0 := Blk.new (w := w) (g := w.heap.size) 87 #[.slice (some ⟨G, o + f / 8, none⟩) (n - f / 8) (c - f / 8), .int .i64 ((f : Int) % 8), .int .i64 len, .int .u64 (IntKind.u64.wrap (IntKind.u64.wrap ((2 : Int) ^ (f % 8)) - 1)), .int .u64 0] rfl
      have m0 := (Mod.refl [] w).alloc (.cells #[.slice (some ⟨G, o + f / 8, none⟩) (n - f / 8) (c - f / 8), .int .i64 ((f : Int) % 8), .int .i64 len, .int .u64 (IntKind.u64.wrap (IntKind.u64.wrap ((2 : Int) ^ (f % 8)) - 1)), .int .u64 0] 87)
      have o1 := own_mod hown m0 (by simp)
      generalize hsz : w.heap.size = P at *
      generalize w.alloc (.cells #[.slice (some ⟨G, o + f / 8, none⟩) (n - f / 8) (c - f / 8), .int .i64 ((f : Int) % 8), .int .i64 len, .int .u64 (IntKind.u64.wrap (IntKind.u64.wrap ((2 : Int) ^ (f % 8)) - 1)), .int .u64 0] 87) = w1 at *
      obtain ⟨c0, c1, c2, c3, c4⟩ := blk5 k0
      have f4 := k0.frozen 4
      have hx := own_rdb o1 (o + f / 8) (by omega) (by omega)
      have hb8 := hs.get (o + f / 8)
      generalize hbb : mem.getD (o + f / 8) 0 = b at *
      have hk := hide k0
      have hm0 := hide m0
      clear k0 m0 o1 hown
      go_cut [] (fun wx => Blk wx P 87 #[.slice (some ⟨G, o + f / 8, none⟩) (n - f / 8) (c - f / 8), .int .i64 ((f : Int) % 8), .int .i64 len, .int .u64 (IntKind.u64.wrap (IntKind.u64.wrap ((2 : Int) ^ (f % 8)) - 1)), .int .u64 ((lsb 0 b : Nat) : Int)] ∧ Mod [P] w1 wx)
      case first =>
        go_region_with (first | (go_at_call 68; (with_reducible refine (setLSB_any _ _ 4 0 b (by decide) hb8 ?_ ?_).mono ?_); exact c4; exact f4; rintro e w' ⟨rfl, rfl⟩))
        all_goals (go_wp2_with fail; go_meet; refine ⟨?_, ?_⟩)
        all_goals first | (with_reducible exact b5s4 (unhide hk) _) | (with_reducible exact (b5s4 (unhide hk) _).drew) | ((repeat' (first | (with_reducible exact Mod.refl _ _) | (with_reducible assumption) | (with_reducible refine Mod.drew ?_) | (with_reducible refine Mod.drewN ?_ _) | (with_reducible refine Mod.alloc ?_ _) | (with_reducible refine Mod.setCell ?_ ?_ _) | (left; simp; done) | (right; first | omega | (simp; omega) | (simp; done))))) | (exact (b5s4 (unhide hk).drew _).cast (by simp [lsb]))
      case rest =>
        obtain ⟨hB, hM⟩ := hcut
        go_wp2_with fail
        go_ret
        rw [List.getD_eq_getElem?_getD] at hbb
        refine ⟨P, rfl, by omega, (unhide hm0).trans hM (by simp; omega), b, by omega, ?_, by omega⟩
        exact blk5_eq hB rfl (unhide HM) (by simp [lsb])
end
section
open Go.ChangeShapes Go.WideShapes Go.ChangeAt Go.RowKit
def rotb (s v : Nat) : Nat := v * 2 ^ s % 256 ||| v / 2 ^ (8 - s)
def mixb (mk x y : Nat) : Nat := (x &&& mk) ||| (y &&& (255 - mk))
theorem rotb_lt (s v : Nat) (hv : v < 256) : rotb s v < 256 := Nat.or_lt_two_pow (n := 8) (Nat.mod_lt _ (by decide)) (Nat.lt_of_le_of_lt (Nat.div_le_self _ _) hv)
theorem mixb_lt (mk x y : Nat) (hx : x < 256) (hy : y < 256) : mixb mk x y < 256 :=
  Nat.or_lt_two_pow (n := 8) (Nat.lt_of_le_of_lt Nat.and_le_left hx) (Nat.lt_of_le_of_lt Nat.and_le_left hy)
theorem rotb_tb (s v j : Nat) (hs : s < 8) (h0 : s ≠ 0) (hv : v < 256) (hj : j < 8) : (rotb s v).testBit j = if j < s then v.testBit (8 - s + j) else v.testBit (j - s) := by
  have h8 : (256 : Nat) = 2 ^ 8 := by decide
  unfold rotb
  rw [Nat.testBit_or, h8, Nat.testBit_mod_two_pow, decide_eq_true hj, Bool.true_and, Nat.testBit_mul_two_pow, Nat.testBit_div_two_pow]
  by_cases c : j < s
  · rw [if_pos c]
    have : ¬ s ≤ j := by omega
    have e : j + (8 - s) = 8 - s + j := by omega
    simp [this, e]
  · rw [if_neg c, testBit_big hv (show 8 ≤ j + (8 - s) by omega)]
    have : s ≤ j := by omega
    simp [this]
theorem mixb_tb (s x y j : Nat) (hs : s < 8) (hj : j < 8) : (mixb (2 ^ s - 1) x y).testBit j = if j < s then x.testBit j else y.testBit j := by
  unfold mixb
  have hp := pow_lt8 hs
  rw [Nat.testBit_or, Nat.testBit_and, Nat.testBit_and, tb_not8 _ _ (by omega) hj, Nat.testBit_two_pow_sub_one]
  by_cases c : j < s <;> simp [c]
def putb (m : List Nat) (a s v : Nat) : List Nat := if s = 0 then m.set a v else (m.set a (mixb (2 ^ s - 1) (m.getD a 0) (rotb s v))).set (a + 1) (mixb (2 ^ s - 1) (rotb s v) (m.getD (a + 1) 0))
theorem putb_chg {m : List Nat} (h : Small m) (a s v : Nat) (hs : s < 8) (hv : v < 256) (ha : a < m.length) (ha2 : s ≠ 0 → a + 2 ≤ m.length) : putb m a s v = chgN m (8 * a + s) (bitsOf v 8) 8 := by
  have hk : 8 * a + s + 8 ≤ 8 * m.length := by
    by_cases h0 : s = 0
    · omega
    · have := ha2 h0; omega
  have hsm : Small (putb m a s v) := by
    unfold putb
    split
    · exact h.set _ _ hv
    · exact (h.set _ _ (mixb_lt _ _ _ (h.get _) (rotb_lt _ _ hv))).set _ _ (mixb_lt _ _ _ (rotb_lt _ _ hv) (h.get _))
  have hlen : (putb m a s v).length = m.length := by unfold putb; split <;> simp
  apply bytes_ext (by rw [hlen, chgN_length]) hsm (chgN_small h _ _ _)
  intro i hi
  rw [bitAt_chgN h _ _ _ hk]
  unfold putb
  by_cases h0 : s = 0
  · subst h0
    rw [if_pos rfl, bitAt_set _ _ _ _ ha]
    by_cases c : i / 8 = a
    · rw [if_pos c, if_pos (by omega), bitsOf_get _ _ _ (by omega)]
      congr 1; omega
    · rw [if_neg c, if_neg (by omega)]
  · have h2 := ha2 h0
    rw [if_neg h0, bitAt_set _ _ _ _ (by simp; omega), bitAt_set _ _ _ _ ha]
    by_cases c1 : i / 8 = a + 1
    · rw [if_pos c1, mixb_tb s _ _ _ hs (by omega)]
      by_cases c2 : i % 8 < s
      · rw [if_pos c2, rotb_tb s v _ hs h0 hv (by omega), if_pos c2, if_pos (by omega), bitsOf_get _ _ _ (by omega)]
        congr 1; omega
      · rw [if_neg c2, if_neg (by omega)]
        unfold bitAt; rw [c1]
    · rw [if_neg c1]
      by_cases c2 : i / 8 = a
      · rw [if_pos c2, mixb_tb s _ _ _ hs (by omega)]
        by_cases c3 : i % 8 < s
        · rw [if_pos c3, if_neg (by omega)]
          unfold bitAt; rw [c2]
        · rw [if_neg c3, rotb_tb s v _ hs h0 hv (by omega), if_neg c3, if_pos (by omega), bitsOf_get _ _ _ (by omega)]
          congr 1; omega
      · rw [if_neg c2, if_neg (by omega)]
theorem putb_next {m : List Nat} (a s v : Nat) (h0 : s ≠ 0) (ha : a + 2 ≤ m.length) : (putb m a s v).getD (a + 1) 0 = mixb (2 ^ s - 1) (rotb s v) (m.getD (a + 1) 0) := by
  unfold putb
  rw [if_neg h0, getD_set _ _ _ _ (by simp; omega), if_pos rfl]
theorem rotb_bits (s v : Nat) (hv : v < 256) : bits .or .u8 (IntKind.u8.wrap ((v : Int) * 2 ^ s)) ((v : Int) / 2 ^ (8 - s)) = ((rotb s v : Nat) : Int) := by
  have e1 : (v : Int) / 2 ^ (8 - s) = ((v / 2 ^ (8 - s) : Nat) : Int) := by simp
  have e2 : (v : Int) * 2 ^ s = ((v * 2 ^ s : Nat) : Int) := by simp
  have h1 : v / 2 ^ (8 - s) < 256 := Nat.lt_of_le_of_lt (Nat.div_le_self _ _) hv
  rw [e1, e2, wrap8, u8_or_nat _ _ (Nat.mod_lt _ (by decide)) h1]
  rfl
theorem mixb_bits (mk x y : Nat) (hm : mk < 256) (hx : x < 256) (hy : y < 256) : bits .or .u8 (bits .and .u8 (x : Int) (mk : Int)) (bits .andNot .u8 (y : Int) (mk : Int)) = ((mixb mk x y : Nat) : Int) := by
  rw [u8_and_nat x mk hx hm, u8_andNot_nat y mk hy hm, u8_or_nat _ _ (Nat.lt_of_le_of_lt Nat.and_le_left hx) (Nat.lt_of_le_of_lt Nat.and_le_left hy)]
  rfl
theorem mixb_bits' (mk x y : Nat) (hm : mk < 256) (hx : x < 256) (hy : y < 256) : bits .or .u8 (bits .andNot .u8 (y : Int) (mk : Int)) (bits .and .u8 (x : Int) (mk : Int)) = ((mixb mk x y : Nat) : Int) := by
  rw [u8_and_nat x mk hx hm, u8_andNot_nat y mk hy hm, u8_or_nat _ _ (Nat.lt_of_le_of_lt Nat.and_le_left hy) (Nat.lt_of_le_of_lt Nat.and_le_left hx)]
  unfold mixb
  rw [Nat.or_comm]
end
section
open Go.ChangeShapes Go.WideShapes Go.ChangeAt Go.RowKit
set_option maxRecDepth 100000 in
set_option maxHeartbeats 4000000 in
theorem putT0_any (w : World) (B G N cap P a m c v cw : Nat) (a2 a3 : Value) (mem : List Nat) (hv : v < 256) (hcw : cw < 18446744073709551616) (hm : 1 ≤ m) (hmc : m ≤ c) (ha : a + m ≤ N) (hne : G ≠ P)
    (h : Blk w P 87 #[.slice (some ⟨G, a, none⟩) m c, .int .i64 0, a2, a3, .int .u64 cw]) (hown : w.ownsRow B 5 1 (.slice (some ⟨G, 0, none⟩) N cap) N (bv mem)) :
    Calls Tryd.prog 61 #[.pointer (some ⟨P, 0, none⟩), .int .u8 v, .int .i64 8] w fun e w' => e = .returned (.tuple #[]) ∧ (1 < c → Blk w' P 87 #[.slice (some ⟨G, a + 1, none⟩) (m - 1) (c - 1), .int .i64 0, a2, a3, .int .u64 cw]) ∧ w'.ownsRow B 5 1 (.slice (some ⟨G, 0, none⟩) N cap) N (bv (mem.set a v)) ∧ Mod [P, G] w w' := by
  obtain ⟨c0, c1, c2, c3, c4⟩ := blk5 h
  have f0 := h.frozen 0
  have g0 := own_cell hown a (by omega)
  have gf := own_frozen hown a
  have hPl := h.lt
  have hGl := own_lt' hown
  have hne' : P ≠ G := fun e => hne e.symm
  have hm0 : (0 : Int) < (m : Int) := by omega
  have h1 := h.other (a := ⟨G, a, none⟩) hne' (.int .u8 v)
  have o1 := own_set hown a v (by omega)
  have m1 := (Mod.refl [P, G] w).setCell (p := ⟨G, a, none⟩) (by simp) (.int .u8 v)
  have hB := hide h1
  have hO := hide o1
  have hM := hide m1
  clear h hown h1 o1 m1
  by_cases hc : c = 1
  · obtain rfl : m = 1 := by omega
    subst hc
    go_enter Tryd.func61, Tryd.ntmps61
    go_wp2_with (first | (go_at_call 72; (with_reducible refine (getLSB_any _ _ hcw).mono ?_); rintro e w' ⟨rfl, rfl⟩))
    go_returns
    have r2 := own_S (i := 0) (unhide hO) hne (.slice (some ⟨G, a, none⟩) 0 0)
    have r3 := (unhide hM).setCell (p := ⟨P, 0, none⟩) (by simp) (.slice (some ⟨G, a, none⟩) 0 0)
    exact ⟨rfl, fun h => by omega, by with_reducible exact r2, by with_reducible exact r3⟩
  · go_enter Tryd.func61, Tryd.ntmps61
    go_wp2_with (first | (go_at_call 72; (with_reducible refine (getLSB_any _ _ hcw).mono ?_); rintro e w' ⟨rfl, rfl⟩))
    go_returns
    have r1 := b5s0 (unhide hB) (.slice (some ⟨G, a + 1, none⟩) (m - 1) (c - 1))
    have r2 := own_S (i := 0) (unhide hO) hne (.slice (some ⟨G, a + 1, none⟩) (m - 1) (c - 1))
    have r3 := (unhide hM).setCell (p := ⟨P, 0, none⟩) (by simp) (.slice (some ⟨G, a + 1, none⟩) (m - 1) (c - 1))
    exact ⟨rfl, fun _ => by with_reducible exact r1, by with_reducible exact r2, by with_reducible exact r3⟩
set_option maxRecDepth 100000 in
set_option maxHeartbeats 4000000 in
theorem putTs_any (w : World) (B G N cap P a m c s v cw : Nat) (a2 : Value) (mem : List Nat) (hs8 : s < 8) (h0 : s ≠ 0) (hs : Small mem) (hv : v < 256) (hcw : cw < 18446744073709551616) (hcm : cw % 256 = mem.getD a 0) (hm : 2 ≤ m) (hmc : m ≤ c) (ha : a + m ≤ N) (hne : G ≠ P)
    (h : Blk w P 87 #[.slice (some ⟨G, a, none⟩) m c, .int .i64 s, a2, .int .u64 ((2 ^ s - 1 : Nat) : Int), .int .u64 cw]) (hown : w.ownsRow B 5 1 (.slice (some ⟨G, 0, none⟩) N cap) N (bv mem)) :
    Calls Tryd.prog 61 #[.pointer (some ⟨P, 0, none⟩), .int .u8 v, .int .i64 8] w fun e w' => e = .returned (.tuple #[]) ∧ Blk w' P 87 #[.slice (some ⟨G, a + 1, none⟩) (m - 1) (c - 1), .int .i64 s, a2, .int .u64 ((2 ^ s - 1 : Nat) : Int), .int .u64 (mixb (2 ^ s - 1) (rotb s v) (mem.getD (a + 1) 0) : Int)] ∧ w'.ownsRow B 5 1 (.slice (some ⟨G, 0, none⟩) N cap) N (bv (putb mem a s v)) ∧ Mod [P, G] w w' := by
  obtain ⟨c0, c1, c2, c3, c4⟩ := blk5 h
  have f0 := h.frozen 0
  have f4 := h.frozen 4
  have g0 := own_cell hown a (by omega)
  have g1 := own_cell hown (a + 1) (by omega)
  have gf := own_frozen hown a
  have gf1 := own_frozen hown (a + 1)
  have hPl := h.lt
  have hGl := own_lt' hown
  have hne' : P ≠ G := fun e => hne e.symm
  have hm0 : (1 : Int) < (m : Int) := by omega
  have hmm0 : 0 < m := by omega
  have hmk : 2 ^ s - 1 < 256 := by
    have := pow_lt8 hs8
    omega
  have hpb : putb mem a s v = (mem.set a (mixb (2 ^ s - 1) (cw % 256) (rotb s v))).set (a + 1) (mixb (2 ^ s - 1) (rotb s v) (mem.getD (a + 1) 0)) := by unfold putb; rw [if_neg h0, hcm]
  rw [hpb]
  have hx8 : cw % 256 < 256 := Nat.mod_lt _ (by decide)
  have hy8 := hs.get (a + 1)
  have hr8 := rotb_lt s v hv
  have hR := rotb_bits s v hv
  rw [show IntKind.u8.wrap ((v : Int) * 2 ^ s) = (v : Int) * 2 ^ s % 256 by simp [IntKind.wrap, IntKind.bits, IntKind.signed]] at hR
  have hR := hide hR
  have hX := mixb_bits (2 ^ s - 1) (cw % 256) (rotb s v) hmk hx8 hr8
  have ecw : ((cw % 256 : Nat) : Int) = (cw : Int) % 256 := by omega
  rw [ecw] at hX
  have hX := hide hX
  have hY := hide (mixb_bits' (2 ^ s - 1) (rotb s v) (mem.getD (a + 1) 0) hmk hr8 hy8)
  have hX8 := mixb_lt (2 ^ s - 1) (cw % 256) (rotb s v) hx8 hr8
  have hY8 := mixb_lt (2 ^ s - 1) (rotb s v) (mem.getD (a + 1) 0) hr8 hy8
  generalize mixb (2 ^ s - 1) (cw % 256) (rotb s v) = X at *
  generalize mixb (2 ^ s - 1) (rotb s v) (mem.getD (a + 1) 0) = Y at *
  generalize mem.getD (a + 1) 0 = y at *
  generalize mem.getD a 0 = x0 at *
  generalize rotb s v = r at *
  generalize 2 ^ s - 1 = mk at *
  have hs0 : ((s : Int) != 0) = true := by simp; omega
  have hmkb : (mk : Int) % 256 = (mk : Int) := by omega
  have hB := hide h
  have hO := hide hown
  clear h hown hcm hpb
  go_enter Tryd.func61, Tryd.ntmps61
  go_upto_region 3 with (first | (go_at_call 72; (with_reducible refine (getLSB_any _ _ hcw).mono ?_); rintro e w' ⟨rfl, rfl⟩))
  go_cut [1] (fun v1 wx => v1 = .int .u8 r ∧ ∃ q, wx = w.drewN q)
  case first =>
    go_quiet (fail)
    go_wp2_with fail
    go_meet
    exact ⟨by first | rfl | rw [unhide hR], _, rfl⟩
  case rest =>
    obtain ⟨rfl, q, rfl⟩ := hcut
    have hB4 := Blk.drewN (unhide hB) q
    have hO4 := own_mod (unhide hO) ((Mod.refl [] w).drewN q) (by simp)
    have hM4 := (Mod.refl [P, G] w).drewN q
    have g1 : (w.drewN q).cell? ⟨G, a + 1, none⟩ = some (.int .u8 y) := g1
    clear hB hO c0 c1 c2 c3 c4 g0 gf gf1 f0 f4
    generalize w.drewN q = w4 at *
    obtain ⟨c0, c1, c2, c3, c4⟩ := blk5 hB4
    have KB := hide hB4
    have KO := hide hO4
    have KM := hide hM4
    clear hB4 hO4 hM4
    go_upto_region 5 with (fail)
    go_cut [6] (fun v6 wx => v6 = .int .u8 X ∧ ∃ q, wx = w4.drewN q)
    case first =>
      go_quiet (fail)
      go_wp2_with fail
      go_meet
      exact ⟨by first | rfl | rw [unhide hX] | rw [hmkb, unhide hX], _, rfl⟩
    case rest =>
      obtain ⟨rfl, q2, rfl⟩ := hcut
      have hB4 := Blk.drewN (unhide KB) q2
      have hO4 := own_mod (unhide KO) ((Mod.refl [] w4).drewN q2) (by simp)
      have hM4 := (unhide KM).drewN q2
      clear KB KO KM c0 c1 c2 c3 c4 g1
      generalize w4.drewN q2 = w5 at *
      obtain ⟨c0, c1, c2, c3, c4⟩ := blk5 hB4
      have KB := hide hB4
      have KO := hide hO4
      have KM := hide hM4
      clear hB4 hO4 hM4
      go_upto_region 6 with (fail)
      go_cut [7] (fun v7 wx => v7 = .int .u8 Y ∧ ∃ q, wx = w5.drewN q)
      case first =>
        go_quiet (fail)
        go_wp2_with fail
        go_meet
        exact ⟨by first | rfl | rw [unhide hY] | rw [hmkb, unhide hY], _, rfl⟩
      case rest =>
        obtain ⟨rfl, q3, rfl⟩ := hcut
        have hB4 := Blk.drewN (unhide KB) q3
        have hO4 := own_mod (unhide KO) ((Mod.refl [] w5).drewN q3) (by simp)
        have hM4 := (unhide KM).drewN q3
        clear KB KO KM c0 c1 c2 c3 c4
        generalize w5.drewN q3 = w6 at *
        obtain ⟨c0, c1, c2, c3, c4⟩ := blk5 hB4
        have f0 := hB4.frozen 0
        have f4 := hB4.frozen 4
        have gf := own_frozen hO4 a
        have gf1 := own_frozen hO4 (a + 1)
        have g0 := own_cell hO4 a (by omega)
        have g1 := own_cell hO4 (a + 1) (by omega)
        have r1 := b5s0 (b5s4 ((hB4.other (a := ⟨G, a, none⟩) hne' (.int .u8 X)).other (a := ⟨G, a + 1, none⟩) hne' (.int .u8 Y)) (.int .u64 (Y : Int))) (.slice (some ⟨G, a + 1, none⟩) (m - 1) (c - 1))
        have r2 := own_S (i := 0) (own_S (i := 4) (own_set (own_set hO4 a X (by omega)) (a + 1) Y (by omega)) hne (.int .u64 (Y : Int))) hne (.slice (some ⟨G, a + 1, none⟩) (m - 1) (c - 1))
        have r3 := (((hM4.setCell (p := ⟨G, a, none⟩) (by simp) (.int .u8 X)).setCell (p := ⟨G, a + 1, none⟩) (by simp) (.int .u8 Y)).setCell (p := ⟨P, 4, none⟩) (by simp) (.int .u64 (Y : Int))).setCell (p := ⟨P, 0, none⟩) (by simp) (.slice (some ⟨G, a + 1, none⟩) (m - 1) (c - 1))
        have r1 := hide r1
        have r2 := hide r2
        have r3 := hide r3
        clear hB4 hO4 hM4
        go_wp2_with fail
        go_returns
        exact ⟨rfl, by with_reducible exact unhide r1, by with_reducible exact unhide r2, by with_reducible exact unhide r3⟩
end
section
open Go.ChangeShapes Go.WideShapes Go.ChangeAt Go.RowKit
theorem Msk.mod {w w' : World} {S : List Nat} (h : Msk w) (hm : Mod S w w') (hS : 3 ∉ S) : Msk w' := fun i hi => hm.cell (h i hi) hS
theorem and1_ne (x : Nat) (hx : x < 256) : (bits .and .u8 (x : Int) 1 != 0) = x.testBit 0 := by
  have h := and_pow_ne x 0 hx (by decide)
  have e : ((2 ^ 0 : Nat) : Int) = 1 := by decide
  rw [e] at h
  rw [bne, h]; simp
def LPT (w1 : World) (B G Q N cap a m c s n v : Nat) (mem : List Nat) (v1 v9 : Value) (wr : World) : Prop :=
  ∃ i : Nat, i ≤ n ∧ v9 = .int .i64 (i : Int) ∧ v1 = .int .u8 ((v / 2 ^ i : Nat) : Int) ∧ WSt B G Q N cap a m c (8 * a + s) mem (bitsOf v n) i wr ∧ Mod [Q, G] w1 wr
theorem WSt.mod {w w' : World} {B G P N cap o n c f k : Nat} {d : List Nat} {l : List Bool} {S : List Nat} (h : WSt B G P N cap o n c f d l k w) (hm : Mod S w w') (hS : P ∉ S) (hG : G ∉ S) : WSt B G P N cap o n c f d l k w' := by
  obtain ⟨h1, cur, h2, h3, h4⟩ := h
  refine ⟨own_mod h1 hm fun g hg => ?_, cur, h2, h3, h4.mod hm hS⟩
  have : G = g := by simpa [Value.ownBlock] using hg
  subst this; exact hG
set_option maxRecDepth 100000 in
set_option maxHeartbeats 4000000 in
theorem putTv_any (w : World) (B G N cap P a m c s v n cw : Nat) (a2 a3 : Value) (mem : List Nat) (hs8 : s < 8) (hs : Small mem) (hv : v < 256) (hn0 : 0 < n) (hn8 : n < 8) (hcw : cw < 18446744073709551616) (hl : mem.length = N) (hmc : m ≤ c) (ha : a + m = N) (hfit : 8 * a + s + n ≤ 8 * N) (hN : N ≤ 8192) (hne : G ≠ P) (hG0 : G ≠ 3) (hM : Msk w)
    (h : Blk w P 87 #[.slice (some ⟨G, a, none⟩) m c, .int .i64 s, a2, a3, .int .u64 cw]) (hown : w.ownsRow B 5 1 (.slice (some ⟨G, 0, none⟩) N cap) N (bv mem)) :
    Calls Tryd.prog 61 #[.pointer (some ⟨P, 0, none⟩), .int .u8 v, .int .i64 n] w fun e w' => e = .returned (.tuple #[]) ∧ w'.ownsRow B 5 1 (.slice (some ⟨G, 0, none⟩) N cap) N (bv (chgN mem (8 * a + s) (bitsOf v n) n)) ∧ Mod [G] w w' := by
  obtain ⟨c0, c1, c2, c3, c4⟩ := blk5 h
  have hGl := own_lt' hown
  have hW : ∀ Q, G ≠ Q → WOk G Q N cap a m (8 * a + s) mem (bitsOf v n) := fun Q hQ => ⟨hl, hs, by omega, by rw [bitsOf_length]; exact hfit, ha, hN, hQ⟩
  have e8 : 8 * a + s - 8 * a = s := by omega
  have hNew := hide (fun (W : World) (hm' : Mod [] w W) => by
    have := wnew_any W B G N cap a m c (8 * a + s) mem (bitsOf v n) (hM.mod hm' (by simp)) hW (own_mod hown hm' (by simp))
    rw [e8, bitsOf_length] at this
    exact this)
  have hBF := hide (fun (W : World) => bfb_i W ((s : Int) + n) (s + n) (by omega) (by omega))
  have hn1 : (n : Int) ≠ 8 := by omega
  have hn2 : ((n : Int) == 8) = false := by rw [beq_eq_false_iff_ne]; omega
  clear h hown
  go_enter Tryd.func61, Tryd.ntmps61
  go_upto_region 13 with (first | (go_at_call 72; (with_reducible refine (getLSB_any _ _ hcw).mono ?_); rintro e w' ⟨rfl, rfl⟩) | (go_at_call 53; (with_reducible refine (assert_any _ _ _).mono ?_); rintro e w' ⟨rfl, rfl⟩))
  go_cut [] (fun wx => ∃ q, wx = w.drewN q)
  case first =>
    go_quiet (first | (go_at_call 52; refine Calls.quiet_of_same ((unhide hBF _).mono fun e w' hh => ⟨hh.1, hh.2.symm⟩)) | (go_at_call 53; refine Calls.quiet_of_same ((assert_any _ _ _).mono fun e w' hh => ⟨hh.1, hh.2.symm⟩)))
    go_wp2_with fail
    go_meet
    exact ⟨_, rfl⟩
  case rest =>
    obtain ⟨q, rfl⟩ := hcut
    have hM1 := (Mod.refl [] w).drewN q
    have k0 : (w.drewN q).cell? ⟨P, 0, none⟩ = some (.slice (some ⟨G, a, none⟩) m c) := c0
    have k1 : (w.drewN q).cell? ⟨P, 1, none⟩ = some (.int .i64 s) := c1
    have hNew1 := hide (fun (W : World) (hm' : Mod [] (w.drewN q) W) => unhide hNew W (hM1.trans hm' (by simp)))
    have KM := hide hM1
    clear hNew hBF c0 c1 c2 c3 c4 hM1
    generalize w.drewN q = w1 at *
    go_upto_region 14 with (fail)
    go_cut [8] (fun v8 wx => ∃ Q : Nat, v8 = .pointer (some ⟨Q, 0, none⟩) ∧ w1.heap.size ≤ Q ∧ Mod [] w1 wx ∧ WSt B G Q N cap a m c (8 * a + s) mem (bitsOf v n) 0 wx)
    case first =>
      go_region_with (first | (go_at_call 73; (with_reducible refine (unhide hNew1 _ (by (repeat' (first | (with_reducible exact Mod.refl _ _) | (with_reducible assumption) | (with_reducible refine Mod.drew ?_) | (with_reducible refine Mod.drewN ?_ _) | (with_reducible refine Mod.alloc ?_ _) | (with_reducible refine Mod.setCell ?_ ?_ _) | (left; simp; done) | (right; first | omega | (simp; omega) | (simp; done)))))).mono ?_); rintro e w' ⟨Q, rfl, hQ, hm', hst⟩; have hm2 := Mod.trans (S := []) (T := []) (a := w1) (by (repeat' (first | (with_reducible exact Mod.refl _ _) | (with_reducible assumption) | (with_reducible refine Mod.drew ?_) | (with_reducible refine Mod.drewN ?_ _) | (with_reducible refine Mod.alloc ?_ _) | (with_reducible refine Mod.setCell ?_ ?_ _) | (left; simp; done) | (right; first | omega | (simp; omega) | (simp; done))))) hm' (by simp)))
      all_goals (go_wp2_with fail; go_meet; exact ⟨Q, rfl, by first | exact hQ | (simpa using hQ), hm2, hst⟩)
    case rest =>
      obtain ⟨Q, rfl, hQ, hm2, hst⟩ := hcut
      have hGQ : G ≠ Q := by have := (unhide KM).size; omega
      have hOk := hide (hW Q hGQ)
      have h0 := hide (show LPT wc B G Q N cap a m c s n v mem (.int .u8 v) (.int .i64 0) wc from ⟨0, by omega, rfl, by simp, hst, Mod.refl _ _⟩)
      have KM2 := hide ((unhide KM).trans hm2 (by simp))
      have hQw : w.heap.size ≤ Q := by have := (unhide KM).size; omega
      clear hst k0 k1 hNew1 hW hm2
      go_wp2_with fail
      go_loopw [1, 9] (LPT wc B G Q N cap a m c s n v mem) (fun v1 v9 _ => n - (intOf v9).toNat)
      case atStart => exact unhide h0
      case round =>
        obtain ⟨i, hi, rfl, rfl, hst, hmr⟩ := hrel
        by_cases hlt : i < n
        · have hll : i < (bitsOf v n).length := by rw [bitsOf_length]; exact hlt
          have hx : v / 2 ^ i < 256 := Nat.lt_of_le_of_lt (Nat.div_le_self _ _) hv
          have hb := and1_ne (v / 2 ^ i) hx
          have hg : (bitsOf v n).getD i false = (v / 2 ^ i).testBit 0 := by rw [bitsOf_get v n i hlt, Nat.testBit_div_two_pow, Nat.zero_add]
          have hdiv : v / 2 ^ (i + 1) = v / 2 ^ i / 2 := by rw [Nat.pow_succ, Nat.div_div_eq_div_mul]
          have hC := hide (fun (W W' : World) (x : Int) (hx : x = ((v / 2 ^ (i + 1) : Nat) : Int)) (h1 : WSt B G Q N cap a m c (8 * a + s) mem (bitsOf v n) (i + 1) W') (h2 : Mod [Q, G] wr W') =>
            (show LPT wc B G Q N cap a m c s n v mem (.int .u8 x) (.int .i64 ((i : Int) + 1)) W' from ⟨i + 1, by omega, by simp, by rw [hx], h1, hmr.trans h2 (by simp)⟩))
          rw [hdiv] at hC
          have hS := hide (fun (h : (bitsOf v n).getD i false = true) => wset_any (unhide hOk) hst hll h)
          have hCl := hide (fun (h : (bitsOf v n).getD i false = false) => wclear_any (unhide hOk) hst hll h)
          have hX := hide (fun (W : World) (h : WMd B G Q N cap a m c (8 * a + s) mem (bitsOf v n) i W) => wnext_any (unhide hOk) h hll)
          generalize v / 2 ^ (i + 1) = x' at *
          generalize v / 2 ^ i = x at *
          clear hst h0 hmr
          cases hbb : x.testBit 0
          all_goals
            rw [hbb] at hb hg
            have HB := hide hg
            clear hg
            go_wp2_with (first | (go_at_call 74; (with_reducible refine (unhide hS (unhide HB)).mono ?_); rintro e' w' ⟨rfl, hmd, hm3⟩) | (go_at_call 75; (with_reducible refine (unhide hCl (unhide HB)).mono ?_); rintro e' w' ⟨rfl, hmd, hm3⟩) | (go_at_call 76; (with_reducible refine (unhide hX _ hmd).mono ?_); rintro e' w'' ⟨rfl, hst2, hm4⟩))
            exact ⟨unhide hC w' w'' _ (by simp) hst2 ((hm3.mono (by simp)).trans hm4 (by simp)), by simp [intOf]; omega⟩
        · obtain rfl : i = n := by omega
          have hst' : WSt B G Q N cap a m c (8 * a + s) mem (bitsOf v i) (bitsOf v i).length wr := by rw [bitsOf_length]; exact hst
          have hF := hide (wfin_any (unhide hOk) hst')
          rw [bitsOf_length] at hF
          have hmr2 := hide hmr
          clear hst hst' h0 hmr
          go_wp2_with (first | (go_at_call 77; (with_reducible refine (unhide hF).mono ?_); rintro e' w' ⟨rfl, ho, hm3⟩))
          go_returns
          exact ⟨rfl, ho, ((unhide KM2).any [G]).trans ((unhide hmr2).trans hm3 (by simp)) (by simp; omega)⟩
end
end Go.Proofs.YtjfbojmeccdchaaDoor
