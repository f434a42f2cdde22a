/- Two bitmaps combined, one kind: BitmapOp and its callers. Two bitmaps combined into a new buffer, one kind. Two bitmaps combined: the thin package's functions, one kind. (YtjfbojmeccdchaaDoor) -/
import Derived.Test.YtjfbojmeccdchaaDoorF9
import Derived.Test.YtjfbojmeccdchaaDoorFAb
import Derived.Test.YtjfbojmeccdchaaDoorFCb
set_option linter.unusedVariables false
set_option linter.unusedSimpArgs false
namespace Go.Proofs.YtjfbojmeccdchaaDoor
section
open Go.ChangeShapes Go.WideShapes Go.ChangeAt Go.RowKit
set_option maxRecDepth 100000 in
set_option maxHeartbeats 4000000 in
theorem bop_1 (w : World) (Bd B G N cap f n f1 f2 n1 c1 n2 c2 : Nat) (A1 A2 : Option Addr) (ds1 ds2 d : List Nat) (h1 : In w Bd A1 n1 c1 ds1) (h2 : In w Bd A2 n2 c2 ds2) (hD : Small d) (hd : d.length = N) (hN : N ≤ 4096) (hcap : N ≤ cap) (hB4 : 4 ≤ Bd) (hBG : Bd ≤ G)
    (hf1 : f1 + n ≤ 8 * n1) (hf2 : f2 + n ≤ 8 * n2) (hf : f + n ≤ 8 * N) (hM : Msk w) (hP : Prc w) (hT : Trl w) (hown : w.ownsRow B 5 1 (.slice (some ⟨G, 0, none⟩) N cap) N (bv d)) :
    Calls Tryd.prog 26 #[.agg #[fnV 38, fnV 39, fnV 40], .slice A1 n1 c1, .slice A2 n2 c2, .int .i64 f1, .int .i64 f2, .slice (some ⟨G, 0, none⟩) N cap, .int .i64 f, .int .i64 n] w fun e w' =>
      e = .returned (.tuple #[]) ∧ w'.ownsRow B 5 1 (.slice (some ⟨G, 0, none⟩) N cap) N (bv (chgN d f (cmbL 1 (lb ds1 f1 n) (lb ds2 f2 n) n) n)) ∧ Mod [G] w w' := by
  have hBox := (Mod.refl [] w).alloc (.cells #[fnV 38, fnV 39, fnV 40] 47)
  have g1 := h1.most
  have g2 := h2.most
  have hOf : SlF (some ⟨G, 0, none⟩) N cap := ⟨hcap, fun h => by simp at h, fun _ => ⟨G, 0, rfl⟩⟩
  have hBx : Mod [G] w w := Mod.refl _ _
  by_cases ha : f % 8 = f1 % 8 ∧ f % 8 = f2 % 8
  · have hC : ∀ W, Mod [] w W → Calls Tryd.prog 33 #[.agg #[fnV 38, fnV 39, fnV 40], .slice A1 n1 c1, .slice A2 n2 c2, .int .i64 f1, .int .i64 f2, .slice (some ⟨G, 0, none⟩) N cap, .int .i64 f, .int .i64 n] W fun e w' =>
      e = .returned (.tuple #[]) ∧ w'.ownsRow B 5 1 (.slice (some ⟨G, 0, none⟩) N cap) N (bv (chgN d f (cmbL 1 (lb ds1 f1 n) (lb ds2 f2 n) n) n)) ∧ Mod [G] W w' := by
      intro W hm
      have hoW := own_mod hown hm (by simp)
      by_cases h0 : (f % 8 + n + 7) / 8 = 0
      · obtain rfl : n = 0 := by omega
        refine (aligZ_any W A1 A2 (some ⟨G, 0, none⟩) n1 c1 n2 c2 N cap f1 f2 f 38 39 40 h1.form h2.form hOf g1 g2 hN (by omega) (by omega) (by omega) (by omega)).mono fun e w' hh => ?_
        obtain ⟨rfl, hm'⟩ := hh
        exact ⟨rfl, own_mod hoW hm' (by simp), hm'.any _⟩
      · obtain ⟨S1, o1, rfl, hS1, hr1⟩ := h1.open_ (by omega)
        obtain ⟨S2, o2, rfl, hS2, hr2⟩ := h2.open_ (by omega)
        have e1 := h1.len
        have e2 := h2.len
        have p1 := pre_length o1 ds1
        have p2 := pre_length o2 ds2
        exact alig_1 W B S1 S2 G N cap o1 n1 c1 f1 o2 n2 c2 f2 f n (pre o1 ds1) (pre o2 ds2) d _ _ (pre_small o1 h1.small) (pre_small o2 h2.small) hD hd hN hf (by omega) hcap (by omega) (by omega) (by omega) (by omega)
          (by omega) (by omega) (by omega) h1.form.1 (by omega) (fun j hj => lb_pre o1 ds1 f1 n j hj) (by omega) (by omega) (by omega) h2.form.1 (by omega) (fun j hj => lb_pre o2 ds2 f2 n j hj)
          (hP.mod hm (by simp)) (hT.mod hm (by simp)) (hr1.mod hm (by simp)) (hr2.mod hm (by simp)) hoW
    have HC := hide hC
    have t1 : ((f : Int) % 8 == (f1 : Int) % 8) = true := by rw [beq_iff_eq]; omega
    have t2 : ((f : Int) % 8 == (f2 : Int) % 8) = true := by rw [beq_iff_eq]; omega
    clear hC h1 h2 hM hP hT hown hOf ha
    generalize chgN d f (cmbL 1 (lb ds1 f1 n) (lb ds2 f2 n) n) n = cr at *
    go_enter Tryd.func26, Tryd.ntmps26
    go_wp2_with (first | (go_at_call 33; with_reducible refine (unhide HC _ hBox).mono ?_; rintro e w1 ⟨rfl, ho1, hm1⟩) | fail)
    go_returns
    exact ⟨rfl, ho1, (hBox.any [G]).trans hm1 (by simp)⟩
  · have hC : ∀ W, Mod [] w W → Calls Tryd.prog 34 #[.agg #[fnV 38, fnV 39, fnV 40], .slice A1 n1 c1, .slice A2 n2 c2, .int .i64 f1, .int .i64 f2, .slice (some ⟨G, 0, none⟩) N cap, .int .i64 f, .int .i64 n] W fun e w' =>
      e = .returned (.tuple #[]) ∧ w'.ownsRow B 5 1 (.slice (some ⟨G, 0, none⟩) N cap) N (bv (chgN d f (cmbL 1 (lb ds1 f1 n) (lb ds2 f2 n) n) n)) ∧ Mod [G] W w' := by
      intro W hm
      have hoW := own_mod hown hm (by simp)
      by_cases h0 : n = 0
      · subst h0
        refine (unalZ_any W A1 A2 (some ⟨G, 0, none⟩) n1 c1 n2 c2 N cap f1 f2 f 38 39 40 h1.form h2.form hOf g1 g2 hN (by omega) (by omega) (by omega)).mono fun e w' hh => ?_
        obtain ⟨rfl, hm'⟩ := hh
        exact ⟨rfl, own_mod hoW hm' (by simp), hm'.any _⟩
      · obtain ⟨S1, o1, rfl, hS1, hr1⟩ := h1.open_ (by omega)
        obtain ⟨S2, o2, rfl, hS2, hr2⟩ := h2.open_ (by omega)
        have e1 := h1.len
        have e2 := h2.len
        have p1 := pre_length o1 ds1
        have p2 := pre_length o2 ds2
        exact unal_1 opW_1 opB_1 W B S1 S2 G N cap o1 n1 c1 f1 o2 n2 c2 f2 f n (pre o1 ds1) (pre o2 ds2) d _ _ (pre_small o1 h1.small) (pre_small o2 h2.small) hD hd hN hf (by omega) hcap (by omega) (by omega) (by omega)
          (by omega) (by omega) h1.form.1 (by omega) (fun j hj => lb_pre o1 ds1 f1 n j hj) (by omega) (by omega) h2.form.1 (by omega) (fun j hj => lb_pre o2 ds2 f2 n j hj)
          (hM.mod hm (by simp)) (hr1.mod hm (by simp)) (hr2.mod hm (by simp)) hoW
    have HC := hide hC
    by_cases ha1 : f % 8 = f1 % 8
    · have t1 : ((f : Int) % 8 == (f1 : Int) % 8) = true := by rw [beq_iff_eq]; omega
      have t2 : ((f : Int) % 8 == (f2 : Int) % 8) = false := by rw [beq_eq_false_iff_ne]; omega
      clear hC h1 h2 hM hP hT hown hOf ha ha1
      generalize chgN d f (cmbL 1 (lb ds1 f1 n) (lb ds2 f2 n) n) n = cr at *
      go_enter Tryd.func26, Tryd.ntmps26
      go_wp2_with (first | (go_at_call 34; with_reducible refine (unhide HC _ hBox).mono ?_; rintro e w1 ⟨rfl, ho1, hm1⟩) | fail)
      go_returns
      exact ⟨rfl, ho1, (hBox.any [G]).trans hm1 (by simp)⟩
    · have t1 : ((f : Int) % 8 == (f1 : Int) % 8) = false := by rw [beq_eq_false_iff_ne]; omega
      clear hC h1 h2 hM hP hT hown hOf ha ha1
      generalize chgN d f (cmbL 1 (lb ds1 f1 n) (lb ds2 f2 n) n) n = cr at *
      go_enter Tryd.func26, Tryd.ntmps26
      go_wp2_with (first | (go_at_call 34; with_reducible refine (unhide HC _ hBox).mono ?_; rintro e w1 ⟨rfl, ho1, hm1⟩) | fail)
      go_returns
      exact ⟨rfl, ho1, (hBox.any [G]).trans hm1 (by simp)⟩
set_option maxRecDepth 100000 in
set_option maxHeartbeats 4000000 in
theorem bitmap_1 (w : World) (Bd B G N cap f n f1 f2 n1 c1 n2 c2 : Nat) (A1 A2 : Option Addr) (ds1 ds2 d : List Nat) (h1 : In w Bd A1 n1 c1 ds1) (h2 : In w Bd A2 n2 c2 ds2) (hD : Small d) (hd : d.length = N) (hN : N ≤ 4096) (hcap : N ≤ cap) (hB4 : 4 ≤ Bd) (hBG : Bd ≤ G)
    (hf1 : f1 + n ≤ 8 * n1) (hf2 : f2 + n ≤ 8 * n2) (hf : f + n ≤ 8 * N) (hM : Msk w) (hP : Prc w) (hT : Trl w) (hown : w.ownsRow B 5 1 (.slice (some ⟨G, 0, none⟩) N cap) N (bv d)) :
    Calls Tryd.prog 16 #[.slice A1 n1 c1, .slice A2 n2 c2, .int .i64 f1, .int .i64 f2, .slice (some ⟨G, 0, none⟩) N cap, .int .i64 f, .int .i64 n] w fun e w' =>
      e = .returned (.tuple #[]) ∧ w'.ownsRow B 5 1 (.slice (some ⟨G, 0, none⟩) N cap) N (bv (chgN d f (cmbL 1 (lb ds1 f1 n) (lb ds2 f2 n) n) n)) ∧ Mod [G] w w' := by
  have HC := hide (fun (W : World) (hm : Mod [] w W) => bop_1 W Bd B G N cap f n f1 f2 n1 c1 n2 c2 A1 A2 ds1 ds2 d (h1.mod hm (by simp)) (h2.mod hm (by simp)) hD hd hN hcap hB4 hBG hf1 hf2 hf (hM.mod hm (by simp)) (hP.mod hm (by simp)) (hT.mod hm (by simp)) (own_mod hown hm (by simp)))
  clear h1 h2 hM hP hT hown
  generalize chgN d f (cmbL 1 (lb ds1 f1 n) (lb ds2 f2 n) n) n = cr at *
  go_enter Tryd.func16, Tryd.ntmps16
  go_wp2_with (first | (go_at_call 28; with_reducible refine (mkOp_1 _).mono ?_; rintro e w1 ⟨rfl, hm1⟩) | (go_at_call 26; with_reducible refine (unhide HC _ hm1).mono ?_; rintro e w2 ⟨rfl, ho2, hm2⟩) | fail)
  go_returns
  exact ⟨rfl, ho2, (hm1.any [G]).trans hm2 (by simp)⟩
end
section
open Go.ChangeShapes Go.WideShapes Go.ChangeAt Go.RowKit
set_option maxRecDepth 100000 in
set_option maxHeartbeats 4000000 in
theorem opA_1 (w : World) (Bd f n f1 f2 n1 c1 n2 c2 m : Nat) (A1 A2 : Option Addr) (ds1 ds2 : List Nat) (h1 : In w Bd A1 n1 c1 ds1) (h2 : In w Bd A2 n2 c2 ds2) (hm : (n + f + 7) / 8 = m) (hm4 : m ≤ 4096) (hB4 : 4 ≤ Bd) (hBd : Bd ≤ w.heap.size)
    (hf1 : f1 + n ≤ 8 * n1) (hf2 : f2 + n ≤ 8 * n2) (hM : Msk w) (hP : Prc w) (hT : Trl w) :
    Calls Tryd.prog 32 #[plainV, .agg #[fnV 38, fnV 39, fnV 40], .slice A1 n1 c1, .slice A2 n2 c2, .int .i64 f1, .int .i64 f2, .int .i64 n, .int .i64 f] w fun e w' =>
      ∃ P, e = .returned (.pointer (some ⟨P, 0, none⟩)) ∧ OutB w' w.heap.size P m (chgN (List.replicate m 0) f (cmbL 1 (lb ds1 f1 n) (lb ds2 f2 n) n) n) ∧ Mod [] w w' := by
  have hBox := (Mod.refl [] w).alloc (.cells #[fnV 38, fnV 39, fnV 40] 47)
  have kBox := Blk.new (w := w) (g := w.heap.size) 47 #[fnV 38, fnV 39, fnV 40] rfl
  have hz0 : (w.alloc (.cells #[fnV 38, fnV 39, fnV 40] 47)).heap.size = w.heap.size + 1 := by simp
  have g1 := h1.most
  have g2 := h2.most
  have hBB := hide (fun W => bfb_i W ((n : Int) + (f : Int)) (n + f) (by omega) (by omega))
  rw [hm] at hBB
  have HB := hide kBox
  have hH := hide (fun (W : World) (hmw : Mod [] w W) => (⟨h1.mod hmw (by simp), h2.mod hmw (by simp), hM.mod hmw (by simp), hP.mod hmw (by simp), hT.mod hmw (by simp)⟩ : In W Bd A1 n1 c1 ds1 ∧ In W Bd A2 n2 c2 ds2 ∧ Msk W ∧ Prc W ∧ Trl W))
  have hn8 : n ≤ 32768 := by omega
  have hF1 := h1.form
  have hF2 := h2.form
  clear h1 h2 hM hP hT kBox
  rcases Nat.eq_zero_or_pos m with rfl | hm0
  · obtain rfl : n = 0 := by omega
    obtain rfl : f = 0 := by omega
    have hBZ := hide (fun (W : World) => show Calls Tryd.prog 26 #[.agg #[fnV 38, fnV 39, fnV 40], .slice A1 n1 c1, .slice A2 n2 c2, .int .i64 f1, .int .i64 f2, .slice none 0 0, .int .i64 0, .int .i64 0] W fun e w' => e = .returned (.tuple #[]) ∧ Mod [] W w' from bopZ_any W A1 A2 none n1 c1 n2 c2 0 0 f1 f2 0 38 39 40 hF1 hF2 ⟨Nat.le_refl _, fun _ => rfl, fun h => absurd h (by omega)⟩ g1 g2 (by omega) (by omega) (by omega) (by omega) rfl)
    have hBB := hide (fun W => show Calls Tryd.prog 52 #[.int .i64 0] W fun e w' => e = .returned (.int .i64 0) ∧ W = w' from bfb_i W 0 0 rfl (by omega))
    clear hH hF1 hF2
    go_enter Tryd.func32, Tryd.ntmps32
    go_upto_region 4 with (first
      | (go_at_call 50; with_reducible refine (newBuf_any _).mono ?_; rintro e w1 ⟨rfl, hb1, hm1⟩; have hm01 := hBox.trans hm1 (by simp); have hbf1 := bf_new hb1 hz0)
      | (go_at_call 52; with_reducible refine (unhide hBB _).mono ?_; rintro e w2 ⟨rfl, rfl⟩)
      | (go_at_call 51; (with_reducible refine (resizeZ_any _ _ hbf1).mono ?_); rintro e w2 ⟨rfl, hb2, hm2⟩)
      | fail)
    have hm02 := hm01.trans hm2 (by simp)
    have hBx2 := ((unhide HB).mod hm1 (by simp)).mod hm2 (by simp)
    obtain ⟨x0, x1, x2⟩ : w2.cell? ⟨w.heap.size, 0, none⟩ = some (fnV 38) ∧ w2.cell? ⟨w.heap.size, 1, none⟩ = some (fnV 39) ∧ w2.cell? ⟨w.heap.size, 2, none⟩ = some (fnV 40) := ⟨hBx2.cell 0, hBx2.cell 1, hBx2.cell 2⟩
    have hBy := hide (fun (W : World) (hm : Mod [] w2 W) => bytes_any W (w.heap.size + 1) 0 0 0 none (Nat.le_refl _) (Blk.mod hb2 hm (by simp)))
    have HB2 := hide hb2
    have HM2 := hide hm02
    clear hb1 hbf1 hm1 hm01 hb2 hm2 hm02 hBx2 hBox HB
    go_cut [] (fun wx => Bf wx (w.heap.size + 1) (.slice none 0 0) 0 ∧ Mod [] w wx)
    case first =>
      go_region_with (first
        | (go_at_call 25; with_reducible refine (unhide hBy _ (by (repeat' (first | (with_reducible exact Mod.refl _ _) | (with_reducible assumption) | (with_reducible refine Mod.drew ?_) | (with_reducible refine Mod.drewN ?_ _) | (with_reducible refine Mod.alloc ?_ _) | (with_reducible refine Mod.setCell ?_ ?_ _) | (left; simp; done) | (right; first | omega | (simp; omega) | (simp; done)))))).mono ?_; rintro e w3 ⟨rfl, hm3⟩; have hm23 := Mod.trans (S := []) (T := []) (a := w2) (by (repeat' (first | (with_reducible exact Mod.refl _ _) | (with_reducible assumption) | (with_reducible refine Mod.drew ?_) | (with_reducible refine Mod.drewN ?_ _) | (with_reducible refine Mod.alloc ?_ _) | (with_reducible refine Mod.setCell ?_ ?_ _) | (left; simp; done) | (right; first | omega | (simp; omega) | (simp; done))))) hm3 (by simp); (try have y0 := hm23.cell x0 (by simp)); (try have y1 := hm23.cell x1 (by simp)); (try have y2 := hm23.cell x2 (by simp)))
        | (go_at_call 26; with_reducible refine (unhide hBZ _).mono ?_; rintro e w4 ⟨rfl, hm4⟩; have hm24 := hm23.trans hm4 (by simp)))
      all_goals (go_wp2_with fail; go_meet)
      all_goals exact ⟨Blk.mod (unhide HB2) hm24 (by simp), (unhide HM2).trans hm24 (by simp)⟩
    case rest =>
      obtain ⟨hb5, hm5⟩ := hcut
      go_wp2_with fail
      go_ret
      exact ⟨_, rfl, .inl ⟨rfl, rfl, hb5⟩, hm5⟩
  · have hrr := r64_le m hm4
    have hRs := hide (fun (W : World) (h : Bf W (w.heap.size + 1) (.slice none 0 0) 0) => resizeP_any W (w.heap.size + 1) m hm0 hm4 h)
    have hrp : Small (List.replicate m 0) := rep_small m
    have hBP := hide (fun (W : World) (G : Nat) (hmw : Mod [] w W) (hG : w.heap.size ≤ G) (ho : W.ownsRow w.heap.size 5 1 (.slice (some ⟨G, 0, none⟩) m (r64 m)) m (bv (List.replicate m 0))) =>
      bop_1 W Bd w.heap.size G m (r64 m) f n f1 f2 n1 c1 n2 c2 A1 A2 ds1 ds2 (List.replicate m 0) (unhide hH W hmw).1 (unhide hH W hmw).2.1 hrp (by simp) hm4 hrr.1 hB4 (by omega) hf1 hf2 (by omega) (unhide hH W hmw).2.2.1 (unhide hH W hmw).2.2.2.1 (unhide hH W hmw).2.2.2.2 ho)
    clear hH hF1 hF2
    generalize chgN (List.replicate m 0) f (cmbL 1 (lb ds1 f1 n) (lb ds2 f2 n) n) n = cr at *
    generalize hR : r64 m = R at *
    go_enter Tryd.func32, Tryd.ntmps32
    go_upto_region 4 with (first
      | (go_at_call 50; with_reducible refine (newBuf_any _).mono ?_; rintro e w1 ⟨rfl, hb1, hm1⟩; have hm01 := hBox.trans hm1 (by simp); have hbf1 := bf_new hb1 hz0)
      | (go_at_call 52; with_reducible refine (unhide hBB _).mono ?_; rintro e w2 ⟨rfl, rfl⟩)
      | (go_at_call 51; with_reducible refine (unhide hRs _ hbf1).mono ?_; rintro e w2 ⟨G, rfl, hG, hb2, hbG, hm2⟩)
      | fail)
    have hs1 := hm01.size
    have hm02 := hm01.trans hm2 (by simp)
    have hBx2 := ((unhide HB).mod hm1 (by simp)).mod hm2 (by simp)
    have hG0 : w.heap.size ≤ G := by omega
    have hs11 := hm1.size
    rw [hz0] at hs11
    have hGP : G ≠ w.heap.size + 1 := by
      have := hbf1.lt
      omega
    have hPG : w.heap.size + 1 ≠ G := fun e => hGP e.symm
    have ho2 := own_blk (B := w.heap.size) hbG hG0 hrr.1 hrr.2
    obtain ⟨x0, x1, x2⟩ : w2.cell? ⟨w.heap.size, 0, none⟩ = some (fnV 38) ∧ w2.cell? ⟨w.heap.size, 1, none⟩ = some (fnV 39) ∧ w2.cell? ⟨w.heap.size, 2, none⟩ = some (fnV 40) := ⟨hBx2.cell 0, hBx2.cell 1, hBx2.cell 2⟩
    have hBy := hide (fun (W : World) (hm : Mod [] w2 W) => bytes_any W (w.heap.size + 1) m R R (some ⟨G, 0, none⟩) hrr.1 (Blk.mod hb2 hm (by simp)))
    have hBQ := hide (fun (W : World) (hm : Mod [] w2 W) => unhide hBP W G (hm02.trans hm (by simp)) hG0 (own_mod ho2 hm (by simp)))
    have HB2 := hide hb2
    have HM2 := hide hm02
    clear hb1 hbf1 hm1 hm01 hb2 hm2 hm02 hBx2 hBox HB hBP hRs ho2 hbG hG
    go_cut [] (fun wx => Bf wx (w.heap.size + 1) (.slice (some ⟨G, 0, none⟩) R R) m ∧ wx.ownsRow w.heap.size 5 1 (.slice (some ⟨G, 0, none⟩) m R) m (bv cr) ∧ Mod [] w wx)
    case first =>
      go_region_with (first
        | (go_at_call 25; with_reducible refine (unhide hBy _ (by (repeat' (first | (with_reducible exact Mod.refl _ _) | (with_reducible assumption) | (with_reducible refine Mod.drew ?_) | (with_reducible refine Mod.drewN ?_ _) | (with_reducible refine Mod.alloc ?_ _) | (with_reducible refine Mod.setCell ?_ ?_ _) | (left; simp; done) | (right; first | omega | (simp; omega) | (simp; done)))))).mono ?_; rintro e w3 ⟨rfl, hm3⟩; have hm23 := Mod.trans (S := []) (T := []) (a := w2) (by (repeat' (first | (with_reducible exact Mod.refl _ _) | (with_reducible assumption) | (with_reducible refine Mod.drew ?_) | (with_reducible refine Mod.drewN ?_ _) | (with_reducible refine Mod.alloc ?_ _) | (with_reducible refine Mod.setCell ?_ ?_ _) | (left; simp; done) | (right; first | omega | (simp; omega) | (simp; done))))) hm3 (by simp); (try have y0 := hm23.cell x0 (by simp)); (try have y1 := hm23.cell x1 (by simp)); (try have y2 := hm23.cell x2 (by simp)))
        | (go_at_call 26; with_reducible refine (unhide hBQ _ hm23).mono ?_; rintro e w4 ⟨rfl, ho4, hm4'⟩; have hm24 := (hm23.any [G]).trans hm4' (by simp)))
      all_goals (go_wp2_with fail; go_meet)
      all_goals exact ⟨Blk.mod (unhide HB2) hm24 (by simpa using hPG), ho4, (unhide HM2).trans hm24 (by simp; omega)⟩
    case rest =>
      obtain ⟨hb5, ho5, hm5⟩ := hcut
      go_wp2_with fail
      go_ret
      subst hR
      exact ⟨_, rfl, .inr ⟨hm0, G, hb5, ho5⟩, hm5⟩
set_option maxRecDepth 100000 in
set_option maxHeartbeats 4000000 in
theorem opAlloc_1 (w : World) (Bd f n f1 f2 n1 c1 n2 c2 m : Nat) (A1 A2 : Option Addr) (ds1 ds2 : List Nat) (h1 : In w Bd A1 n1 c1 ds1) (h2 : In w Bd A2 n2 c2 ds2) (hm : (n + f + 7) / 8 = m) (hm4 : m ≤ 4096) (hB4 : 4 ≤ Bd) (hBd : Bd ≤ w.heap.size)
    (hf1 : f1 + n ≤ 8 * n1) (hf2 : f2 + n ≤ 8 * n2) (hM : Msk w) (hP : Prc w) (hT : Trl w) :
    Calls Tryd.prog 21 #[plainV, .slice A1 n1 c1, .slice A2 n2 c2, .int .i64 f1, .int .i64 f2, .int .i64 n, .int .i64 f] w fun e w' =>
      ∃ P B, e = .returned (.pointer (some ⟨P, 0, none⟩)) ∧ OutB w' B P m (chgN (List.replicate m 0) f (cmbL 1 (lb ds1 f1 n) (lb ds2 f2 n) n) n) ∧ Mod [] w w' := by
  have HC := hide (fun (W : World) (hmw : Mod [] w W) => opA_1 W Bd f n f1 f2 n1 c1 n2 c2 m A1 A2 ds1 ds2 (h1.mod hmw (by simp)) (h2.mod hmw (by simp)) hm hm4 hB4 (Nat.le_trans hBd hmw.size) hf1 hf2 (hM.mod hmw (by simp)) (hP.mod hmw (by simp)) (hT.mod hmw (by simp)))
  clear h1 h2 hM hP hT
  generalize chgN (List.replicate m 0) f (cmbL 1 (lb ds1 f1 n) (lb ds2 f2 n) n) n = cr at *
  go_enter Tryd.func21, Tryd.ntmps21
  go_wp2_with (first | (go_at_call 28; with_reducible refine (mkOp_1 _).mono ?_; rintro e w1 ⟨rfl, hm1⟩) | (go_at_call 32; with_reducible refine (unhide HC _ hm1).mono ?_; rintro e w2 ⟨P, rfl, ho2, hm2⟩) | fail)
  go_ret
  exact ⟨P, _, rfl, ho2, hm1.trans hm2 (by simp)⟩
end
section
open Go.ChangeShapes Go.WideShapes Go.ChangeAt Go.RowKit
set_option maxRecDepth 100000 in
set_option maxHeartbeats 4000000 in
theorem cA_1 (w : World) (Bd f n f1 f2 n1 c1 n2 c2 m : Nat) (A1 A2 : Option Addr) (ds1 ds2 : List Nat) (h1 : In w Bd A1 n1 c1 ds1) (h2 : In w Bd A2 n2 c2 ds2) (hm : (n + f + 7) / 8 = m) (hm4 : m ≤ 4096) (hB4 : 4 ≤ Bd) (hBd : Bd ≤ w.heap.size)
    (hf1 : f1 + n ≤ 8 * n1) (hf2 : f2 + n ≤ 8 * n2) (hM : Msk w) (hP : Prc w) (hT : Trl w) :
    Calls Tryd.prog 13 #[.int .i64 1, .slice A1 n1 c1, .slice A2 n2 c2, .int .i64 f1, .int .i64 f2, .int .i64 f, .int .i64 n] w fun e w' =>
      ∃ G cap, e = .returned (.slice (some ⟨G, 0, none⟩) m cap) ∧ w'.ownsRow w.heap.size 5 1 (.slice (some ⟨G, 0, none⟩) m cap) m (bv (chgN (List.replicate m 0) f (cmbL 1 (lb ds1 f1 n) (lb ds2 f2 n) n) n)) ∧ Mod [] w w' := by
  have HC := hide (fun (W : World) (hmw : Mod [] w W) => opAlloc_1 W Bd f n f1 f2 n1 c1 n2 c2 m A1 A2 ds1 ds2 (h1.mod hmw (by simp)) (h2.mod hmw (by simp)) hm hm4 hB4 (Nat.le_trans hBd hmw.size) hf1 hf2 (hM.mod hmw (by simp)) (hP.mod hmw (by simp)) (hT.mod hmw (by simp)))
  have hlen : (chgN (List.replicate m 0) f (cmbL 1 (lb ds1 f1 n) (lb ds2 f2 n) n) n).length = m := by rw [chgN_length, List.length_replicate]
  clear h1 h2 hM hP hT
  generalize chgN (List.replicate m 0) f (cmbL 1 (lb ds1 f1 n) (lb ds2 f2 n) n) n = cr at *
  go_enter Tryd.func13, Tryd.ntmps13
  go_upto_region 14 with (first | (go_at_call 21; with_reducible refine (unhide HC _ (by (repeat' (first | (with_reducible exact Mod.refl _ _) | (with_reducible assumption) | (with_reducible refine Mod.drew ?_) | (with_reducible refine Mod.drewN ?_ _) | (with_reducible refine Mod.alloc ?_ _) | (with_reducible refine Mod.setCell ?_ ?_ _) | (left; simp; done) | (right; first | omega | (simp; omega) | (simp; done)))))).mono ?_; rintro e w1 ⟨P, B0, rfl, ho1, hm1⟩; have hm01 := Mod.trans (S := []) (T := []) (a := w) (by (repeat' (first | (with_reducible exact Mod.refl _ _) | (with_reducible assumption) | (with_reducible refine Mod.drew ?_) | (with_reducible refine Mod.drewN ?_ _) | (with_reducible refine Mod.alloc ?_ _) | (with_reducible refine Mod.setCell ?_ ?_ _) | (left; simp; done) | (right; first | omega | (simp; omega) | (simp; done))))) hm1 (by simp)) | fail)
  have HO := hide ho1
  have hB := out_bytes ho1
  obtain ⟨A, R, hB1, hsl⟩ := hB
  have hBy := hide hB1
  have hCp := hide (fun (W : World) (hmw : Mod [] w1 W) => copied_n W A R cr m hlen (Nat.le_refl _) ((hsl.mod hmw (by simp)).mono hmw.size) hm4)
  clear ho1 hsl hB1 HO
  go_wp2_with (first | (go_at_call 25; with_reducible refine (unhide hBy).mono ?_; rintro e w2 ⟨rfl, hm2⟩) | (go_at_call 14; with_reducible refine (unhide hCp _ hm2).mono ?_; rintro e w3 ⟨G, cap, rfl, ho3, hm3, hG3, hc3⟩) | fail)
  go_ret
  have hm03 := hm01.trans (hm2.trans hm3 (by simp)) (by simp)
  exact ⟨G, cap, rfl, own_base ho3 (hm01.trans hm2 (by simp)).size, hm03⟩
set_option maxRecDepth 100000 in
set_option maxHeartbeats 4000000 in
theorem comT_1 (w : World) (Bd f n f1 f2 n1 c1 n2 c2 m : Nat) (A1 A2 : Option Addr) (ds1 ds2 : List Nat) (h1 : In w Bd A1 n1 c1 ds1) (h2 : In w Bd A2 n2 c2 ds2) (hm : (n + f + 7) / 8 = m) (hm4 : m ≤ 4096) (hB4 : 4 ≤ Bd) (hBd : Bd ≤ w.heap.size)
    (hf1 : f1 + n ≤ 8 * n1) (hf2 : f2 + n ≤ 8 * n2) (hM : Msk w) (hP : Prc w) (hT : Trl w) :
    Calls Tryd.prog 8 #[.int .i64 1, .slice A1 n1 c1, .slice A2 n2 c2, .int .i64 f1, .int .i64 f2, .slice none 0 0, .int .i64 f, .int .i64 n, .bool true] w fun e w' =>
      ∃ G cap, e = .returned (.slice (some ⟨G, 0, none⟩) m cap) ∧ w'.ownsRow w.heap.size 5 1 (.slice (some ⟨G, 0, none⟩) m cap) m (bv (chgN (List.replicate m 0) f (cmbL 1 (lb ds1 f1 n) (lb ds2 f2 n) n) n)) ∧ Mod [] w w' := by
  have hmf : ∀ (fn : Fn) (first cap : Array Value) (w : World), (Instr.makeFunc fn first cap).run Tryd.prog w = .ok (.func fn first cap) w := fun _ _ _ _ => rfl
  have hm1 : Mod [] w (w.alloc (.cells #[.slice none 0 0] 22)) := by (repeat' (first | (with_reducible exact Mod.refl _ _) | (with_reducible assumption) | (with_reducible refine Mod.drew ?_) | (with_reducible refine Mod.drewN ?_ _) | (with_reducible refine Mod.alloc ?_ _) | (with_reducible refine Mod.setCell ?_ ?_ _) | (left; simp; done) | (right; first | omega | (simp; omega) | (simp; done))))
  have hOut : Blk (w.alloc (.cells #[.slice none 0 0] 22)) w.heap.size 22 #[.slice none 0 0] := Blk.new _ _ rfl
  have hsz : (w.alloc (.cells #[.slice none 0 0] 22)).heap.size = w.heap.size + 1 := by simp
  have HC := hide (cA_1 (w.alloc (.cells #[.slice none 0 0] 22)) Bd f n f1 f2 n1 c1 n2 c2 m A1 A2 ds1 ds2 (h1.mod hm1 (by simp)) (h2.mod hm1 (by simp)) hm hm4 hB4 (by rw [hsz]; omega) hf1 hf2 (hM.mod hm1 (by simp)) (hP.mod hm1 (by simp)) (hT.mod hm1 (by simp)))
  clear h1 h2 hM hP hT
  generalize chgN (List.replicate m 0) f (cmbL 1 (lb ds1 f1 n) (lb ds2 f2 n) n) n = cr at *
  go_enter_defers Tryd.func8, Tryd.ntmps8
  go_wp2_with (first | (go_at_call 13; with_reducible refine (unhide HC).mono ?_; rintro e w2 ⟨G, cap, rfl, ho2, hm2⟩; have hOut2 := hOut.mod hm2 (by simp); have cO := hOut2.cell 0; have fO := hOut2.frozen 0; have lO := hOut2.lt) | fail)
  rw [hsz] at ho2
  have hGb := own_ge ho2
  have hwG : w.heap.size ≠ G := by omega
  have KM := hide (hm1.trans hm2 (by simp))
  refine leaves_cons (f := 12) (args := #[.pointer (some ⟨w.heap.size, 0, none⟩)]) (by simp) (by simp [go_sem]) ?_
  refine (idle ⟨w.heap.size, 0, none⟩ _).mono ?_
  rintro e u' w'' ⟨rfl, rfl, rfl⟩
  refine ⟨.slice (some ⟨G, 0, none⟩) m cap, ?_, ?_⟩
  · have c8 := (hOut2.set 0 (.slice (some ⟨G, 0, none⟩) m cap)).cell 0
    simp at c8
    simp [settle, results, Tryd.results8, go_sem, c8]
  · exact ⟨G, cap, rfl, own_base (own_S (i := 0) ho2 hwG.symm (.slice (some ⟨G, 0, none⟩) m cap)) (by omega), (unhide KM).setCell (by simp) _⟩
set_option maxRecDepth 100000 in
set_option maxHeartbeats 4000000 in
theorem comF_1 (w : World) (Bd N c3 f n f1 f2 n1 c1 n2 c2 : Nat) (A1 A2 A3 : Option Addr) (ds1 ds2 d : List Nat) (h1 : In w Bd A1 n1 c1 ds1) (h2 : In w Bd A2 n2 c2 ds2) (h3 : In w Bd A3 N c3 d) (hB4 : 4 ≤ Bd) (hBd : Bd ≤ w.heap.size)
    (hf1 : f1 + n ≤ 8 * n1) (hf2 : f2 + n ≤ 8 * n2) (hf : f + n ≤ 8 * N) (hM : Msk w) (hP : Prc w) (hT : Trl w) :
    Calls Tryd.prog 8 #[.int .i64 1, .slice A1 n1 c1, .slice A2 n2 c2, .int .i64 f1, .int .i64 f2, .slice A3 N c3, .int .i64 f, .int .i64 n, .bool false] w fun e w' =>
      ∃ G cap, e = .returned (.slice (some ⟨G, 0, none⟩) N cap) ∧ w'.ownsRow w.heap.size 5 1 (.slice (some ⟨G, 0, none⟩) N cap) N (bv (chgN d f (cmbL 1 (lb ds1 f1 n) (lb ds2 f2 n) n) n)) ∧ Mod [] w w' := by
  have hmf : ∀ (fn : Fn) (first cap : Array Value) (w : World), (Instr.makeFunc fn first cap).run Tryd.prog w = .ok (.func fn first cap) w := fun _ _ _ _ => rfl
  have hm1 : Mod [] w (w.alloc (.cells #[.slice none 0 0] 22)) := by (repeat' (first | (with_reducible exact Mod.refl _ _) | (with_reducible assumption) | (with_reducible refine Mod.drew ?_) | (with_reducible refine Mod.drewN ?_ _) | (with_reducible refine Mod.alloc ?_ _) | (with_reducible refine Mod.setCell ?_ ?_ _) | (left; simp; done) | (right; first | omega | (simp; omega) | (simp; done))))
  have hOut : Blk (w.alloc (.cells #[.slice none 0 0] 22)) w.heap.size 22 #[.slice none 0 0] := Blk.new _ _ rfl
  have hsz : (w.alloc (.cells #[.slice none 0 0] 22)).heap.size = w.heap.size + 1 := by simp
  have hCp0 := copied_n (w.alloc (.cells #[.slice none 0 0] 22)) A3 c3 d N h3.len (B := Bd) (by rw [hsz]; omega) (h3.mod hm1 (by simp)).sl h3.most
  rw [hsz] at hCp0
  have hCp := hide hCp0
  clear hCp0
  have HC := hide (fun (W : World) (G cap : Nat) (hmw : Mod [] w W) (hG : w.heap.size ≤ G) (hcap : N ≤ cap) (ho : W.ownsRow (w.heap.size + 1) 5 1 (.slice (some ⟨G, 0, none⟩) N cap) N (bv d)) =>
    bitmap_1 W Bd (w.heap.size + 1) G N cap f n f1 f2 n1 c1 n2 c2 A1 A2 ds1 ds2 d (h1.mod hmw (by simp)) (h2.mod hmw (by simp)) h3.small h3.len h3.most hcap hB4 (by omega) hf1 hf2 hf (hM.mod hmw (by simp)) (hP.mod hmw (by simp)) (hT.mod hmw (by simp)) ho)
  clear h1 h2 h3 hM hP hT
  generalize chgN d f (cmbL 1 (lb ds1 f1 n) (lb ds2 f2 n) n) n = cr at *
  go_enter_defers Tryd.func8, Tryd.ntmps8
  go_wp2_with (first
    | (go_at_call 14; (with_reducible refine (unhide hCp).mono ?_); rintro e w2 ⟨G, cap, rfl, ho2, hm2, hG2, hc2⟩; have hOut2 := hOut.mod hm2 (by simp); have hm02 := hm1.trans hm2 (by simp); have hGw : w.heap.size ≤ G := Nat.le_of_succ_le hG2; have hwG : w.heap.size ≠ G := Nat.ne_of_lt hG2)
    | (go_at_call 16; (with_reducible refine (unhide HC _ _ _ hm02 hGw hc2 ho2).mono ?_); rintro e w3 ⟨rfl, ho3, hm3⟩; have hOut3 := hOut2.mod hm3 (by simpa using hwG); have cO := hOut3.cell 0; have fO := hOut3.frozen 0; have lO := hOut3.lt)
    | fail)
  have KM := hide (hm02.trans hm3 (by simp; omega))
  refine leaves_cons (f := 12) (args := #[.pointer (some ⟨w.heap.size, 0, none⟩)]) (by simp) (by simp [go_sem]) ?_
  refine (idle ⟨w.heap.size, 0, none⟩ _).mono ?_
  rintro e u' w'' ⟨rfl, rfl, rfl⟩
  refine ⟨.slice (some ⟨G, 0, none⟩) N cap, ?_, ?_⟩
  · have c8 := (hOut3.set 0 (.slice (some ⟨G, 0, none⟩) N cap)).cell 0
    simp at c8
    simp [settle, results, Tryd.results8, go_sem, c8]
  · exact ⟨G, cap, rfl, own_base (own_S (i := 0) ho3 hwG.symm (.slice (some ⟨G, 0, none⟩) N cap)) (by omega), (unhide KM).setCell (by simp) _⟩
end
end Go.Proofs.YtjfbojmeccdchaaDoor
