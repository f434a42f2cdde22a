/- Two bitmaps combined at any places: the walk, one kind. (YtjfbojmeccdchaaDoor) -/
import Derived.Test.YtjfbojmeccdchaaDoorF6
set_option linter.unusedVariables false
set_option linter.unusedSimpArgs false
namespace Go.Proofs.YtjfbojmeccdchaaDoor
open Go.ChangeShapes Go.WideShapes Go.ChangeAt Go.RowKit
set_option maxRecDepth 100000 in
set_option maxHeartbeats 4000000 in
theorem unal_0 (hW : OpW 0 35) (hBb : OpB 0 36) (w : World) (B S1 S2 G N cap so1 sn1 sc1 sf1 so2 sn2 sc2 sf2 f n : Nat) (sb1 sb2 d : List Nat) (l1 l2 : List Bool)
    (hS1 : Small sb1) (hS2 : Small sb2) (hD : Small d) (hd : d.length = N) (hN : N ≤ 4096) (hfn : f + n ≤ 8 * N) (hn0 : 0 < n) (hcap : N ≤ cap) (hG3 : G ≠ 3) (hG1 : S1 ≠ G) (hG2 : S2 ≠ G)
    (hsf1 : sf1 < 65536) (hsn1 : sf1 / 8 + (sf1 % 8 + n + 7) / 8 ≤ sn1) (hsc1 : sn1 ≤ sc1) (hsb1 : so1 + sf1 / 8 + (sf1 % 8 + n + 7) / 8 ≤ sb1.length) (hl1 : ∀ j, j < n → l1.getD j false = bitAt sb1 (8 * (so1 + sf1 / 8) + sf1 % 8 + j))
    (hsf2 : sf2 < 65536) (hsn2 : sf2 / 8 + (sf2 % 8 + n + 7) / 8 ≤ sn2) (hsc2 : sn2 ≤ sc2) (hsb2 : so2 + sf2 / 8 + (sf2 % 8 + n + 7) / 8 ≤ sb2.length) (hl2 : ∀ j, j < n → l2.getD j false = bitAt sb2 (8 * (so2 + sf2 / 8) + sf2 % 8 + j))
    (hM : Msk w) (hr1 : Rdb w S1 sb1 so1) (hr2 : Rdb w S2 sb2 so2) (hown : w.ownsRow B 5 1 (.slice (some ⟨G, 0, none⟩) N cap) N (bv d)) :
    Calls Tryd.prog 34 #[.agg #[fnV 35, fnV 36, fnV 37], .slice (some ⟨S1, so1, none⟩) sn1 sc1, .slice (some ⟨S2, so2, none⟩) sn2 sc2, .int .i64 sf1, .int .i64 sf2, .slice (some ⟨G, 0, none⟩) N cap, .int .i64 f, .int .i64 n] w fun e w' =>
      e = .returned (.tuple #[]) ∧ w'.ownsRow B 5 1 (.slice (some ⟨G, 0, none⟩) N cap) N (bv (chgN d f (cmbL 0 l1 l2 n) n)) ∧ Mod [G] w w' := by
  have H1 := tok_r S1 (sc1 - sf1 / 8) (so1 + sf1 / 8) (sf1 % 8) n sb1 l1 (by omega) hS1 hn0 (by omega) hsb1 (by omega) hl1
  have H2 := tok_r S2 (sc2 - sf2 / 8) (so2 + sf2 / 8) (sf2 % 8) n sb2 l2 (by omega) hS2 hn0 (by omega) hsb2 (by omega) hl2
  have HW := tok_w G N cap f n d (cmbL 0 l1 l2 n) hD hd hN hfn hn0 hG3 hcap
  have hBox := (Mod.refl [] w).alloc (.cells #[fnV 35, fnV 36, fnV 37] 47)
  have kBox := Blk.new (w := w) (g := w.heap.size) 47 #[fnV 35, fnV 36, fnV 37] rfl
  have hR1 := hide (fun (W : World) (hm : Mod [] w W) => newWR_any W S1 so1 sn1 sc1 sf1 n sb1 hS1 hn0 (by omega) hsf1 hsn1 hsc1 (by omega) (hr1.mod hm (by simp)))
  have hR2 := hide (fun (W : World) (hm : Mod [] w W) => newWR_any W S2 so2 sn2 sc2 sf2 n sb2 hS2 hn0 (by omega) hsf2 hsn2 hsc2 (by omega) (hr2.mod hm (by simp)))
  have hWw := hide (fun (W : World) (hm : Mod [] w W) => newWW_any W B G N cap 0 N cap f n d hD hd hn0 (by omega) (by omega) hfn hcap (by omega) (own_mod hown hm (by simp)))
  have hgl := own_lt' hown
  have KO := hide hown
  have KR1 := hide hr1
  have KR2 := hide hr2
  have KM := hide hM
  have KH1 := hide H1
  have KH2 := hide H2
  have KHW := hide HW
  have KB := hide kBox
  have h3w : 3 < w.heap.size := World.block_lt_of_cell? w ⟨3, 0, none⟩ (hM 0 (by omega))
  have hSl1 : S1 < w.heap.size := World.block_lt_of_cell? w ⟨S1, so1 + sf1 / 8, none⟩ (hr1 _ (by omega) (by omega))
  have hSl2 : S2 < w.heap.size := World.block_lt_of_cell? w ⟨S2, so2 + sf2 / 8, none⟩ (hr2 _ (by omega) (by omega))
  have hWh := hide (fun W x y hx hy => hW W x y hx hy)
  have hBh := hide (fun W x y hx hy => hBb W x y hx hy)
  have hsz0 : (w.alloc (.cells #[fnV 35, fnV 36, fnV 37] 47)).heap.size = w.heap.size + 1 := by simp
  clear hown hr1 hr2 hM H1 H2 HW kBox hW hBb
  go_enter Tryd.func34, Tryd.ntmps34
  go_upto_region 4 with (first | (go_at_call 54; first | (with_reducible refine (unhide hR1 _ hBox).mono ?_; rintro e w1 ⟨PL, cr1, rfl, hPL, hm1, hcr1, hb1, hca1, hcb1⟩; have hm01 := hBox.trans hm1 (by simp)) | (with_reducible refine (unhide hR2 _ hm01).mono ?_; rintro e w2 ⟨PR, cr2, rfl, hPR, hm2, hcr2, hb2, hca2, hcb2⟩; have hm02 := hm01.trans hm2 (by simp))) | (go_at_call 55; (with_reducible refine (unhide hWw _ hm02).mono ?_); rintro e w3 ⟨PW, cw, rfl, hPW, hm3, hcw, hb3, hca3, hcb3⟩) | fail)
  have hsL := hb1.lt
  have hsR := hb2.lt
  have hz1 := hm1.size
  have hz2 := hm2.size
  have hLR : PL ≠ PR := by omega
  have hLW : PL ≠ PW := by omega
  have hRW : PR ≠ PW := by omega
  have hGL : G ≠ PL := by omega
  have hGR : G ≠ PR := by omega
  have hGW : G ≠ PW := by omega
  have h1L : S1 ≠ PL := by omega
  have h1R : S1 ≠ PR := by omega
  have h1W : S1 ≠ PW := by omega
  have h2L : S2 ≠ PL := by omega
  have h2R : S2 ≠ PR := by omega
  have h2W : S2 ≠ PW := by omega
  have h3L : 3 ≠ PL := by omega
  have h3R : 3 ≠ PR := by omega
  have h3W : 3 ≠ PW := by omega
  have h3G : 3 ≠ G := fun e => hG3 e.symm
  have hbL : w.heap.size ≠ PL := by omega
  have hbR : w.heap.size ≠ PR := by omega
  have hbW : w.heap.size ≠ PW := by omega
  have hbG : w.heap.size ≠ G := by omega
  have hbLt : w.heap.size < PL := by omega
  have hbRt : w.heap.size < PR := by omega
  have hbWt : w.heap.size < PW := by omega
  have hm13 := hm1.trans (hm2.trans hm3 (by simp)) (by simp)
  have hm03 := hm02.trans hm3 (by simp)
  have hTL : TRd w3 PL S1 (sc1 - sf1 / 8) (so1 + sf1 / 8) (sf1 % 8) n 0 (n - 64 * (n / 64 - 1)) ((n - 64 * (n / 64 - 1) + 7) / 8) sb1 := (trd_zero hcr1 hca1 hcb1 hb1).mod (hm2.trans hm3 (by simp)) (by simp)
  have hTR : TRd w3 PR S2 (sc2 - sf2 / 8) (so2 + sf2 / 8) (sf2 % 8) n 0 (n - 64 * (n / 64 - 1)) ((n - 64 * (n / 64 - 1) + 7) / 8) sb2 := (trd_zero hcr2 hca2 hcb2 hb2).mod hm3 (by simp)
  have hTW : TWr w3 PW G N cap f n 0 d := twr_zero hcw hca3 hcb3 hb3
  have hO3 := own_mod (unhide KO) hm03 (by simp)
  have hB3 := hide ((Blk.mod (unhide KB) hm13 (by simp)))
  have hRd1 := hide (Rdb.mod (unhide KR1) hm03 (by simp))
  have hRd2 := hide (Rdb.mod (unhide KR2) hm03 (by simp))
  have hM3 := hide (Msk.mod (unhide KM) hm03 (by simp))
  have KM03 := hide hm03
  have hgz : G < w.heap.size := hgl
  obtain ⟨crr, _, _, _, hbq⟩ := id hTL
  have hWd := hide (words_any w3 PL _ _ _ _ _ _ hbq)
  have h0 := hide (show WL2 w3 B S1 S2 G PL PR PW N cap (sc1 - sf1 / 8) (sc2 - sf2 / 8) (so1 + sf1 / 8) (so2 + sf2 / 8) (sf1 % 8) (sf2 % 8) f n sb1 sb2 d (cmbL 0 l1 l2 n) (.int .i64 ((n / 64 - 1 : Nat) : Int)) w3 from ⟨0, by omega, rfl, hO3, Mod.refl _ _, hTL, hTR, hTW⟩)
  clear hb1 hb2 hb3 hca1 hcb1 hca2 hcb2 hca3 hcb3 hm1 hm2 hm3 hm01 hm02 hm13 hm03 hTL hTR hTW hO3 hbq KO KB KR1 KR2 KM hR1 hR2 hWw hBox hz1 hz2 hsz0 hsL hsR hPL hPR hPW
  generalize hb0 : w.heap.size = b0 at *
  go_wp2_with (first | (go_at_call 56; (with_reducible refine (unhide hWd).mono ?_); rintro e w4 ⟨rfl, rfl⟩) | fail)
  go_loopw [19] (WL2 w3 B S1 S2 G PL PR PW N cap (sc1 - sf1 / 8) (sc2 - sf2 / 8) (so1 + sf1 / 8) (so2 + sf2 / 8) (sf1 % 8) (sf2 % 8) f n sb1 sb2 d (cmbL 0 l1 l2 n)) (fun v _ => (intOf v).toNat)
  case atStart => exact unhide h0
  case round =>
    obtain ⟨k, hk, rfl, hO, hmr, hTL, hTR, hTW⟩ := hrel
    have hrr1 := Rdb.mod (unhide hRd1) hmr (nin4 h1L h1R h1W hG1)
    have hrr2 := Rdb.mod (unhide hRd2) hmr (nin4 h2L h2R h2W hG2)
    have hbx := Blk.mod (unhide hB3) hmr (nin4 hbL hbR hbW hbG)
    by_cases hlt : k < n / 64 - 1
    · have cbx : wr.cell? ⟨b0, 0, none⟩ = some (fnV 35) := hbx.cell 0
      have hNL := hide (fun (W : World) (hm : Mod [] wr W) => t_next (unhide KH1) h1L (hrr1.mod hm (by simp)) (hTL.mod hm (by simp)) hlt)
      have hNR := hide (fun (W : World) (hm : Mod [PL] wr W) => t_next (unhide KH2) h2R (hrr2.mod hm (by simpa using h2L)) (hTR.mod hm (by simpa using fun e : PR = PL => hLR e.symm)) hlt)
      have hPt := hide (fun (W : World) (hm : Mod [PL, PR] wr W) (v : Nat) hv hb => t_put (unhide KHW) hGW (own_M hO hm (by simp [hGL, hGR])) (hTW.mod hm (by simp only [List.mem_cons, List.not_mem_nil, or_false, not_or]; exact ⟨fun e => hLW e.symm, fun e => hRW e.symm⟩)) hlt v hv hb)
      have hBits := hide (fun (x y : Nat) (hx : x < 18446744073709551616) (hy : y < 18446744073709551616) (hxb : ∀ j, j < 64 → x.testBit j = l1.getD (64 * k + j) false) (hyb : ∀ j, j < 64 → y.testBit j = l2.getD (64 * k + j) false) =>
        (show ∀ j, j < 64 → (wOp 0 x y).testBit j = (cmbL 0 l1 l2 n).getD (64 * k + j) false from fun j hj => by rw [wOp_tb 0 x y j hx hy hj, hxb j hj, hyb j hj, cmbL_get 0 l1 l2 n _ (by omega)]))
      have hC := hide (fun (W1 W2 W3 : World) (x : Int) (hx : x = ((n / 64 - 1 - (k + 1) : Nat) : Int)) (h1 : Mod [PL] wr W1) (hT1 : TRd W1 PL S1 (sc1 - sf1 / 8) (so1 + sf1 / 8) (sf1 % 8) n (8 * (k + 1)) (n - 64 * (n / 64 - 1)) ((n - 64 * (n / 64 - 1) + 7) / 8) sb1) (h2 : Mod [PR] W1 W2) (hT2 : TRd W2 PR S2 (sc2 - sf2 / 8) (so2 + sf2 / 8) (sf2 % 8) n (8 * (k + 1)) (n - 64 * (n / 64 - 1)) ((n - 64 * (n / 64 - 1) + 7) / 8) sb2)
        (h3 : W3.ownsRow B 5 1 (.slice (some ⟨G, 0, none⟩) N cap) N (bv (chgN d f (cmbL 0 l1 l2 n) (64 * (k + 1))))) (h4 : TWr W3 PW G N cap f n (8 * (k + 1)) (chgN d f (cmbL 0 l1 l2 n) (64 * (k + 1)))) (h5 : Mod [PW, G] W2 W3) =>
        (show WL2 w3 B S1 S2 G PL PR PW N cap (sc1 - sf1 / 8) (sc2 - sf2 / 8) (so1 + sf1 / 8) (so2 + sf2 / 8) (sf1 % 8) (sf2 % 8) f n sb1 sb2 d (cmbL 0 l1 l2 n) (.int .i64 x) W3 from
          ⟨k + 1, by omega, by rw [hx], h3, ((hmr.trans h1 (by simp)).trans h2 (by simp)).trans h5 (by simp), (hT1.mod h2 (by simpa using hLR)).mod h5 (by simp only [List.mem_cons, List.not_mem_nil, or_false, not_or]; exact ⟨hLW, fun e => hGL e.symm⟩), hT2.mod h5 (by simp only [List.mem_cons, List.not_mem_nil, or_false, not_or]; exact ⟨hRW, fun e => hGR e.symm⟩), h4⟩))
      have hr1 : ((n / 64 - 1 - (k + 1) : Nat) : Int) = ((n / 64 - 1 - k : Nat) : Int) - 1 := by omega
      have hr0 : 0 < n / 64 - 1 - k := by omega
      rw [hr1] at hC
      generalize hrk : n / 64 - 1 - k = r at *
      clear h0 hO hTL hTR hTW hrr1 hrr2 hmr hr1 hWd hbx
      go_upto_region 7 with (fail)
      go_region_with (first
        | (go_at_call 58; with_reducible refine (unhide hNL _ (by (repeat' (first | (with_reducible exact Mod.refl _ _) | (with_reducible assumption) | (with_reducible refine Mod.drew ?_) | (with_reducible refine Mod.drewN ?_ _) | (with_reducible refine Mod.alloc ?_ _) | (with_reducible refine Mod.setCell ?_ ?_ _) | (left; simp; done) | (right; first | omega | (simp; omega) | (simp; done)))))).mono ?_; rintro e w4 ⟨x, rfl, hx, hxb, hTL4, hm4⟩; have hm04 := Mod.trans (S := [PL]) (T := [PL]) (a := wr) (by (repeat' (first | (with_reducible exact Mod.refl _ _) | (with_reducible assumption) | (with_reducible refine Mod.drew ?_) | (with_reducible refine Mod.drewN ?_ _) | (with_reducible refine Mod.alloc ?_ _) | (with_reducible refine Mod.setCell ?_ ?_ _) | (left; simp; done) | (right; first | omega | (simp; omega) | (simp; done))))) hm4 (by simp); have cb4 := hm04.cell cbx (by simpa using hbL); have HXB := hide hxb; clear hxb)
        | (go_at_call 58; with_reducible refine (unhide hNR _ hm04).mono ?_; rintro e w5 ⟨y, rfl, hy, hyb, hTR5, hm5⟩; have hm05 := Mod.trans (S := [PL, PR]) (T := [PR]) (hm04.mono (T := [PL, PR]) (by simp)) hm5 (by simp); have cb5 := hm5.cell cb4 (by simpa using hbR); have HYB := hide hyb; clear hyb)
        | (go_at_call 57; with_reducible refine (unhide hPt _ hm05 _ (wOp_lt 0 x y hx hy) (unhide hBits x y hx hy (unhide HXB) (unhide HYB))).mono ?_; rintro e w7 ⟨rfl, hO7, hTW7, hm7⟩)
        | (go_at_call 35; with_reducible refine (unhide hWh _ x y hx hy).mono ?_; rintro e w6 ⟨rfl, rfl⟩))
      all_goals (go_wp2_with fail)
      all_goals exact ⟨unhide hC w4 w5 w7 _ rfl hm04 hTL4 hm5 hTR5 hO7 hTW7 hm7, by simp [intOf]; omega⟩
    · obtain rfl : k = n / 64 - 1 := by omega
      obtain ⟨crr, hq1, hq2, hq3, hbq⟩ := id hTL
      have hTy := hide (tbytes_any wr PL _ _ _ _ _ _ hbq)
      have em : min (64 * (n / 64 - 1) + 8 * 0) n = 64 * (n / 64 - 1) := by omega
      have h1 := hide (show BL2 w3 B S1 S2 G PL PR PW N cap (sc1 - sf1 / 8) (sc2 - sf2 / 8) (so1 + sf1 / 8) (so2 + sf2 / 8) (sf1 % 8) (sf2 % 8) f n sb1 sb2 d (cmbL 0 l1 l2 n) (.int .i64 (((n - 64 * (n / 64 - 1) + 7) / 8 : Nat) : Int)) wr from ⟨0, by omega, rfl, by rw [em]; exact hO, hmr, fun _ => ⟨hTL, hTR, by rw [em]; exact hTW⟩⟩)
      have e0 : ((n / 64 - 1 - (n / 64 - 1) : Nat) : Int) = 0 := by omega
      rw [e0]
      clear h0 hO hTL hTR hTW hrr1 hrr2 hmr hWd hbq hq1 hq2 hq3 em e0 hbx
      go_wp2_with (first | (go_at_call 59; (with_reducible refine (unhide hTy).mono ?_); rintro e w4 ⟨rfl, rfl⟩) | fail)
      go_loopw [20, 21, 22, 23, 24] (fun v _ _ _ _ wx => BL2 w3 B S1 S2 G PL PR PW N cap (sc1 - sf1 / 8) (sc2 - sf2 / 8) (so1 + sf1 / 8) (so2 + sf2 / 8) (sf1 % 8) (sf2 % 8) f n sb1 sb2 d (cmbL 0 l1 l2 n) v wx) (fun v _ _ _ _ _ => (intOf v).toNat)
      case atStart => exact unhide h1
      case round =>
        obtain ⟨b, hb, rfl, hO, hmr, hTT⟩ := hrel
        have hrr1 := Rdb.mod (unhide hRd1) hmr (nin4 h1L h1R h1W hG1)
        have hrr2 := Rdb.mod (unhide hRd2) hmr (nin4 h2L h2R h2W hG2)
        have hMM := Msk.mod (unhide hM3) hmr (nin4 h3L h3R h3W h3G)
        have hbx := Blk.mod (unhide hB3) hmr (nin4 hbL hbR hbW hbG)
        by_cases hlt : b < (n - 64 * (n / 64 - 1) + 7) / 8
        · obtain ⟨hTL, hTR, hTW⟩ := hTT hlt
          have cbx : wr.cell? ⟨b0, 1, none⟩ = some (fnV 36) := hbx.cell 1
          have hNL := hide (t_readb (unhide KH1) h1L hrr1 hlt hTL)
          have hNR := hide (fun (W : World) (hm : Mod [PL] wr W) => t_readb (unhide KH2) h2R (hrr2.mod hm (by simpa using h2L)) hlt (hTR.mod hm (by simpa using fun e : PR = PL => hLR e.symm)))
          have hPt := hide (fun (W : World) (hm : Mod [PL, PR] wr W) (v vv : Nat) hvv hv hbt => t_writeb (unhide KHW) hGW (hMM.mod hm (by simp [h3L, h3R])) hlt (own_M hO hm (by simp [hGL, hGR])) (hTW.mod hm (by simp only [List.mem_cons, List.not_mem_nil, or_false, not_or]; exact ⟨fun e => hLW e.symm, fun e => hRW e.symm⟩)) v vv hvv hv hbt)
          have hBits := hide (fun (x y vx vy : Nat) (hvx : vx = min 8 (n - 64 * (n / 64 - 1) - 8 * b)) (hvy : vy = min 8 (n - 64 * (n / 64 - 1) - 8 * b)) (hx : x < 256) (hy : y < 256) (hxb : ∀ j, j < vx → x.testBit j = l1.getD (64 * (n / 64 - 1) + 8 * b + j) false) (hyb : ∀ j, j < vy → y.testBit j = l2.getD (64 * (n / 64 - 1) + 8 * b + j) false) =>
            (show ∀ j, j < vx → (bOp 0 x y).testBit j = (cmbL 0 l1 l2 n).getD (64 * (n / 64 - 1) + 8 * b + j) false from fun j hj => by rw [bOp_tb 0 x y j hx hy (by omega), hxb j hj, hyb j (by omega), cmbL_get 0 l1 l2 n _ (by omega)]))
          have hC := hide (fun (W1 W2 W3 : World) (x : Int) (hx : x = (((n - 64 * (n / 64 - 1) + 7) / 8 - (b + 1) : Nat) : Int)) (g1 : Mod [PL] wr W1) (hT1 : b + 1 < (n - 64 * (n / 64 - 1) + 7) / 8 → TRd W1 PL S1 (sc1 - sf1 / 8) (so1 + sf1 / 8) (sf1 % 8) n (8 * (n / 64 - 1) + (b + 1)) (n - 64 * (n / 64 - 1) - 8 * (b + 1)) ((n - 64 * (n / 64 - 1) + 7) / 8 - (b + 1)) sb1) (g2 : Mod [PR] W1 W2) (hT2 : b + 1 < (n - 64 * (n / 64 - 1) + 7) / 8 → TRd W2 PR S2 (sc2 - sf2 / 8) (so2 + sf2 / 8) (sf2 % 8) n (8 * (n / 64 - 1) + (b + 1)) (n - 64 * (n / 64 - 1) - 8 * (b + 1)) ((n - 64 * (n / 64 - 1) + 7) / 8 - (b + 1)) sb2)
            (g3 : W3.ownsRow B 5 1 (.slice (some ⟨G, 0, none⟩) N cap) N (bv (chgN d f (cmbL 0 l1 l2 n) (min (64 * (n / 64 - 1) + 8 * (b + 1)) n)))) (g4 : b + 1 < (n - 64 * (n / 64 - 1) + 7) / 8 → TWr W3 PW G N cap f n (8 * (n / 64 - 1) + (b + 1)) (chgN d f (cmbL 0 l1 l2 n) (min (64 * (n / 64 - 1) + 8 * (b + 1)) n))) (g5 : Mod [PW, G] W2 W3) =>
            (show BL2 w3 B S1 S2 G PL PR PW N cap (sc1 - sf1 / 8) (sc2 - sf2 / 8) (so1 + sf1 / 8) (so2 + sf2 / 8) (sf1 % 8) (sf2 % 8) f n sb1 sb2 d (cmbL 0 l1 l2 n) (.int .i64 x) W3 from
              ⟨b + 1, by omega, by rw [hx], g3, ((hmr.trans g1 (by simp)).trans g2 (by simp)).trans g5 (by simp), fun hh => ⟨((hT1 hh).mod g2 (by simpa using hLR)).mod g5 (by simp only [List.mem_cons, List.not_mem_nil, or_false, not_or]; exact ⟨hLW, fun e => hGL e.symm⟩), (hT2 hh).mod g5 (by simp only [List.mem_cons, List.not_mem_nil, or_false, not_or]; exact ⟨hRW, fun e => hGR e.symm⟩), g4 hh⟩⟩))
          have hr1 : (((n - 64 * (n / 64 - 1) + 7) / 8 - (b + 1) : Nat) : Int) = (((n - 64 * (n / 64 - 1) + 7) / 8 - b : Nat) : Int) - 1 := by omega
          have hr0 : 0 < (n - 64 * (n / 64 - 1) + 7) / 8 - b := by omega
          rw [hr1] at hC
          generalize hrk : (n - 64 * (n / 64 - 1) + 7) / 8 - b = r at *
          clear h1 hO hTL hTR hTW hTT hrr1 hrr2 hMM hmr hr1 hTy hbx
          go_wp2_with (first
            | (go_at_call 60; with_reducible refine (unhide hNL).mono ?_; rintro e w4 ⟨x, vx, rfl, hvx, hx, hxb, hTL4, hm4⟩; have cb4 := hm4.cell cbx (by simpa using hbL); have HVX := hide hvx; have HXB := hide hxb; have HT4 := hide hTL4; clear hvx hxb hTL4)
            | (go_at_call 60; with_reducible refine (unhide hNR _ hm4).mono ?_; rintro e w5 ⟨y, vy, rfl, hvy, hy, hyb, hTR5, hm5⟩; have hm05 := Mod.trans (S := [PL, PR]) (T := [PR]) (hm4.mono (T := [PL, PR]) (by simp)) hm5 (by simp); have cb5 := hm5.cell cb4 (by simpa using hbR); have HVY := hide hvy; have HYB := hide hyb; have HT5 := hide hTR5; clear hvy hyb hTR5)
            | (go_at_call 53; with_reducible refine (assert_any _ _ _).mono ?_; rintro e w6 ⟨rfl, rfl⟩)
            | (go_at_call 36; with_reducible refine (unhide hBh _ x y hx hy).mono ?_; rintro e w6 ⟨rfl, rfl⟩)
            | (go_at_call 61; with_reducible refine (unhide hPt _ hm05 _ vx (unhide HVX) (bOp_lt 0 x y hx hy) (unhide hBits x y vx vy (unhide HVX) (unhide HVY) hx hy (unhide HXB) (unhide HYB))).mono ?_; rintro e w7 ⟨rfl, hO7, hTW7, hm7⟩)
            | fail)
          all_goals exact ⟨unhide hC w4 w5 w7 _ rfl hm4 (unhide HT4) hm5 (unhide HT5) hO7 hTW7 hm7, by simp [intOf]; omega⟩
        · obtain rfl : b = (n - 64 * (n / 64 - 1) + 7) / 8 := by omega
          have em : min (64 * (n / 64 - 1) + 8 * ((n - 64 * (n / 64 - 1) + 7) / 8)) n = n := by omega
          rw [em] at hO
          have KO := hide hO
          have e0 : (((n - 64 * (n / 64 - 1) + 7) / 8 - (n - 64 * (n / 64 - 1) + 7) / 8 : Nat) : Int) = 0 := by omega
          rw [e0]
          have KF := hide (((unhide KM03).any [G]).trans hmr (by simp; omega))
          clear h1 hO hTT hrr1 hrr2 hMM hmr hTy em e0 hbx
          go_wp2_with fail
          go_returns
          exact ⟨rfl, unhide KO, unhide KF⟩
end Go.Proofs.YtjfbojmeccdchaaDoor
