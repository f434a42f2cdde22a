/- Bits appended: from another bitmap. (YtcjjajbpjfamfaaDoor) -/
import Derived.Test.YtcjjajbpjfamfaaDoorX19
set_option linter.unusedVariables false
set_option linter.unusedSimpArgs false
namespace Go.Proofs.YtcjjajbpjfamfaaDoor
open Go.ChangeShapes Go.WideShapes Go.ChangeAt Go.RowKit
def AB (B G P N cap f n : Nat) (mem : List Nat) (w : World) (e : Ending) (w' : World) : Prop := (∃ v, e = .returned v) ∧ Wfd B G P N cap f n mem w' ∧ Mod [P, G] w w'
set_option maxRecDepth 100000 in
set_option maxHeartbeats 4000000 in
theorem appBm_any (w : World) (B S G P N cap sn sc f n cur : Nat) (sb d : List Nat) (l : List Bool) (H : TOk S G N cap sc 0 3 f n sb d l) (hsn : (3 + n + 7) / 8 ≤ sn) (hsc : sn ≤ sc) (hM : Msk w) (hT : Tzt w) (hr : Rdb w S sb) (hGP : G ≠ P) (hSP : S ≠ P) (hG1 : G ≠ 1) (h0P : 0 ≠ P) (h1P : 1 ≠ P)
    (hcur : cur = d.getD (f / 8) 0) (h : Blk w P 36 #[.slice (some ⟨G, 0, none⟩) N cap, .int .i64 0, .int .i64 n, .int .u8 cur, .int .u8 ((2 ^ (f % 8) : Nat) : Int), .int .i64 ((f / 8 : Nat) : Int)])
    (hown : w.ownsRow B 5 1 (.slice (some ⟨G, 0, none⟩) N cap) N (bv d)) :
    Calls Tryd.prog 12 #[.pointer (some ⟨P, 0, none⟩), .slice (some ⟨S, 0, none⟩) sn sc, .int .i64 3, .int .i64 n] w (AB B G P N cap f n (chgN d f l n) w) := by
  have g1 := H.hfn
  have g2 := H.hN
  have g4 := H.h0
  have g5 := H.hcap
  have gd := H.hd
  have hG0 := H.hG0
  have hSG := H.hSG
  have hPl := h.lt
  have hGl := own_lt' hown
  have hPG : P ≠ G := fun e => hGP e.symm
  obtain ⟨c0, c1, c2, c3, c4, c5⟩ := blk6 h
  have hf8 : (f / 8 : Nat) < N := by omega
  have h3 := h.frozen 3
  have gf := own_frozen hown (f / 8)
  have gc := own_cell hown (f / 8) hf8
  have hcl : cur < 256 := by rw [hcur]; exact H.hD.get _
  have HCU := hide hcur
  clear hcur
  have hMin := hide (fun (W : World) => min_same W (n : Int))
  have hTz := hide (fun (W : World) (hm : Mod [] w W) => tz_any W (f % 8) (by omega) (hT.mod hm (by simp)))
  have hpw := pow_lt8 (show f % 8 < 8 by omega)
  have hB0 := hide h
  have hO0 := hide hown
  have KM := hide hM
  have KR := hide hr
  have KH := hide H
  have ez : ((n : Int) - 0) = n := by omega
  have hnz : ((n : Int) == 0) = false := by rw [beq_eq_false_iff_ne]; omega
  clear h hown hM hr hT H
  go_enter Tryd.func12, Tryd.ntmps12
  go_upto_region 1 with (fail)
  go_cut [9] (fun v9 wx => v9 = .int .i64 (n : Int) ∧ ∃ q, wx = w.drewN q)
  case first =>
    go_quiet (first | (go_at_call 17; refine Calls.quiet_of_same ((unhide hMin _).mono fun e w' hh => ⟨hh.1, hh.2.symm⟩)))
    go_wp2_with fail
    go_meet
    exact ⟨rfl, _, rfl⟩
  case rest =>
    obtain ⟨rfl, q, rfl⟩ := hcut
    have hB1 := Blk.drewN (unhide hB0) q
    have hO1 := own_mod (unhide hO0) ((Mod.refl [] w).drewN q) (by simp)
    have hM1 := (Mod.refl [] w).drewN q
    have hTz1 := hide (unhide hTz (w.drewN q) hM1)
    clear hB0 hO0 hTz c0 c1 c2 c3 c4 c5 h3 gf gc
    have KM1 := hide hM1
    clear hM1
    generalize w.drewN q = w1 at *
    obtain ⟨c0, c1, c2, c3, c4, c5⟩ := blk6 hB1
    have gf := own_frozen hO1 (f / 8)
    have gc := own_cell hO1 (f / 8) hf8
    have KB1 := hide hB1
    have KO1 := hide hO1
    clear hB1 hO1
    generalize 2 ^ (f % 8) = mk at *
    go_upto_region 6 with (first | (go_at_call 18; (with_reducible refine (unhide hTz1).mono ?_); rintro e w2 ⟨rfl, rfl⟩) | fail)
    have ef : (f : Int) / 8 * 8 + (f : Int) % 8 = (f : Int) := by omega
    rw [ef]
    go_cut [] (fun wx => wx.ownsRow B 5 1 (.slice (some ⟨G, 0, none⟩) N cap) N (bv d) ∧ Mod [G] w1 wx)
    case first =>
      have hR := own_D (own_set (unhide KO1) (f / 8) cur hf8)
      have hss : d.set (f / 8) cur = d := by rw [unhide HCU]; exact set_same d _
      rw [hss] at hR
      have hR := hide hR
      go_region
      all_goals (go_wp2_with fail; go_meet; exact ⟨unhide hR, by (repeat' (first | (with_reducible exact Mod.refl _ _) | (with_reducible assumption) | (with_reducible refine Mod.drew ?_) | (with_reducible refine Mod.drewN ?_ _) | (with_reducible refine Mod.alloc ?_ _) | (with_reducible refine Mod.setCell ?_ ?_ _) | (left; simp; done) | (right; first | omega | (simp; omega) | (simp; done))))⟩)
    case rest =>
      obtain ⟨hO2, hm2⟩ := hcut
      have hB2 := Blk.mod (unhide KB1) hm2 (by simpa using hPG)
      have hm02 := ((unhide KM1).any [G]).trans hm2 (by simp)
      have hM2 := (unhide KM).mod hm02 (by simpa using fun e : 0 = G => hG0 e.symm)
      have hR2 := Rdb.mod (unhide KR) hm02 (by simpa using hSG)
      have hCp := hide (show Calls Tryd.prog 22 #[.slice (some ⟨S, 0, none⟩) sn sc, .int .i64 3, .int .i64 n, .slice (some ⟨G, 0, none⟩) N cap, .int .i64 f] wc _ from copyBm_any wc B S G N cap 0 sn sc 3 f n sb d l (unhide KH) (by decide) (by decide) (by simpa using hsn) hsc hM2 hR2 hO2)
      clear KB1 KO1 KM1 hTz1 c0 c1 c2 c3 c4 c5 gf gc hR2
      obtain ⟨c0, c1, c2, c3, c4, c5⟩ := blk6 hB2
      have KB2 := hide hB2
      have KM2 := hide hm02
      have KMs := hide hM2
      clear hB2 hm02 hM2 hO2 hm2
      go_upto_region 8 with (first | (go_at_call 22; (with_reducible refine (unhide hCp).mono ?_); rintro e w3 ⟨rfl, hO3, hm3⟩) | fail)
      have hB3 := Blk.mod (unhide KB2) hm3 (by simpa using hPG)
      have hm03 := (unhide KM2).trans hm3 (by simp)
      have hM3 := (unhide KMs).mod hm3 (by simpa using fun e : 0 = G => hG0 e.symm)
      clear KB2 KM2 KMs hCp c0 c1 c2 c3 c4 c5 hm3
      obtain ⟨c0, c1, c2, c3, c4, c5⟩ := blk6 hB3
      have f1 := hB3.frozen 1
      have f3 := hB3.frozen 3
      have f4 := hB3.frozen 4
      have f5 := hB3.frozen 5
      have hmx := hM3 ((f + n) % 8) (by omega)
      have hsm := chgN_small (unhide KH).hD f l n
      have hln : (chgN d f l n).length = N := (chgN_length _ _ _ _).trans gd
      have hpw2 := pow_lt8 (show (f + n) % 8 < 8 by omega)
      generalize hmx2 : 2 ^ ((f + n) % 8) = mx at *
      have ei : ((f : Int) % 8 + n) % 8 = (((f + n) % 8 : Nat) : Int) := by omega
      have KB3 := hide hB3
      have KO3 := hide hO3
      have KM3 := hide hm03
      clear hB3 hO3 hm03 hM3
      go_upto_region 10 with (fail)
      rw [ei]
      generalize hix : (f + n) % 8 = ix at *
      go_upto_region 12 with (fail)
      have eo : (f : Int) / 8 + ((f : Int) % 8 + n) / 8 = (((f + n) / 8 : Nat) : Int) := by omega
      rw [eo]
      clear eo
      have ho8 : (f + n) / 8 ≤ N := by omega
      generalize hox : (f + n) / 8 = o8 at *
      have r1 := b6s5 (b6s4 (b6s1 (unhide KB3) (.int .i64 (n : Int))) (.int .u8 (mx : Int))) (.int .i64 (o8 : Int))
      have r2 := own_S (i := 5) (own_S (i := 4) (own_S (i := 1) (unhide KO3) hGP (.int .i64 (n : Int))) hGP (.int .u8 (mx : Int))) hGP (.int .i64 (o8 : Int))
      have r3 := ((((unhide KM3).mono (T := [P, G]) (by simp)).setCell (p := ⟨P, 1, none⟩) (by simp) (.int .i64 (n : Int))).setCell (p := ⟨P, 4, none⟩) (by simp) (.int .u8 (mx : Int))).setCell (p := ⟨P, 5, none⟩) (by simp) (.int .i64 (o8 : Int))
      have r1 := hide r1
      have r2 := hide r2
      have r3 := hide r3
      by_cases hlt : o8 < N
      · have gy := own_cell (unhide KO3) o8 hlt
        have hy8 := hsm.get o8
        generalize hyy : (chgN d f l n).getD o8 0 = y at *
        clear KB3 KO3 KM3
        go_wp2_with fail
        go_region
        go_wp2_with fail
        go_region
        go_wp2_with fail
        go_ret
        have q1 := (b6s3 (unhide r1) (.int .u8 (y : Int))).drew.drew
        have q2 := own_D (own_D (own_S (i := 3) (unhide r2) hGP (.int .u8 (y : Int))))
        have q3 := ((unhide r3).setCell (p := ⟨P, 3, none⟩) (by simp) (.int .u8 (y : Int))).drew.drew
        refine ⟨⟨_, rfl⟩, ⟨by with_reducible exact q2, y, hy8, fun _ _ => ?_, ?_⟩, by with_reducible exact q3⟩
        · rw [hox]; exact hyy.symm
        · rw [hix, hmx2, hox]; with_reducible exact q1
      · have hge : ¬ (o8 : Int) < (N : Int) := by omega
        clear KB3 KO3 KM3
        go_wp2_with fail
        go_region
        go_wp2_with fail
        go_ret
        have q1 := (unhide r1).drew
        have q2 := own_D (unhide r2)
        have q3 := (unhide r3).drew
        refine ⟨⟨_, rfl⟩, ⟨by with_reducible exact q2, cur, hcl, fun _ h => by omega, ?_⟩, by with_reducible exact q3⟩
        rw [hix, hmx2, hox]; with_reducible exact q1
end Go.Proofs.YtcjjajbpjfamfaaDoor
