/- Bits appended: from a list. (YtcjjajbpjfamfaaDoor) -/
import Derived.Test.YtcjjajbpjfamfaaDoorX19
set_option linter.unusedVariables false
set_option linter.unusedSimpArgs false
namespace Go.Proofs.YtcjjajbpjfamfaaDoor
open Go.ChangeShapes Go.WideShapes Go.ChangeAt Go.RowKit
def ABb (B G P N cap f n : Nat) (mem : List Nat) (w : World) (e : Ending) (w' : World) : Prop := (∃ v, e = .returned v) ∧ Wfd B G P N cap f n mem w' ∧ Mod [P, G] w w'
theorem setb_i (w : World) (B G N cap o n c i : Nat) (x : Int) (hx : x = (i : Int)) (mem : List Nat) (hs : Small mem) (hM : Msk w) (hi : i / 8 < n) (hb : i < 65536) (ho : o + i / 8 < N) (hown : w.ownsRow B 5 1 (.slice (some ⟨G, 0, none⟩) N cap) N (bv mem)) :
    Calls Tryd.prog 20 #[.slice (some ⟨G, o, none⟩) n c, .int .i64 x] w fun e w' => e = .returned (.tuple #[]) ∧ w'.ownsRow B 5 1 (.slice (some ⟨G, 0, none⟩) N cap) N (bv (mem.set (o + i / 8) (mem.getD (o + i / 8) 0 ||| 2 ^ (i % 8)))) ∧ Mod [G] w w' := by subst hx; exact setb_any w B G N cap o n c i mem hs hM hi hb ho hown
theorem clrb_i (w : World) (B G N cap o n c i : Nat) (x : Int) (hx : x = (i : Int)) (mem : List Nat) (hs : Small mem) (hM : Flp w) (hi : i / 8 < n) (hb : i < 65536) (ho : o + i / 8 < N) (hown : w.ownsRow B 5 1 (.slice (some ⟨G, 0, none⟩) N cap) N (bv mem)) :
    Calls Tryd.prog 21 #[.slice (some ⟨G, o, none⟩) n c, .int .i64 x] w fun e w' => e = .returned (.tuple #[]) ∧ w'.ownsRow B 5 1 (.slice (some ⟨G, 0, none⟩) N cap) N (bv (mem.set (o + i / 8) (mem.getD (o + i / 8) 0 &&& (255 - 2 ^ (i % 8))))) ∧ Mod [G] w w' := by subst hx; exact clrb_any w B G N cap o n c i mem hs hM hi hb ho hown
theorem chg_step (d : List Nat) (hs : Small d) (f : Nat) (l : List Bool) (k : Nat) : chgN d f l (k + 1) = (chgN d f l k).set ((f + k) / 8) (if l.getD k false then (chgN d f l k).getD ((f + k) / 8) 0 ||| 2 ^ ((f + k) % 8) else (chgN d f l k).getD ((f + k) / 8) 0 &&& (255 - 2 ^ ((f + k) % 8))) := by
  rw [chgN, setBit]
  congr 1
  split
  · exact or_clear ((chgN_small hs f l k).get _) (by omega)
  · rfl
def LAB (w1 : World) (B G N cap f n : Nat) (d : List Nat) (l : List Bool) (v58 : Value) (wr : World) : Prop :=
  ∃ k : Nat, k ≤ n ∧ v58 = .int .i64 (k : Int) ∧ wr.ownsRow B 5 1 (.slice (some ⟨G, 0, none⟩) N cap) N (bv (chgN d f l k)) ∧ Mod [G] w1 wr
set_option maxRecDepth 100000 in
set_option maxHeartbeats 4000000 in
theorem appBs_any (w : World) (B G P N cap f n cur c2 : Nat) (A2 : Option Addr) (d : List Nat) (l : List Bool) (hD : Small d) (gd : d.length = N) (g2 : N ≤ 4096) (g1 : f + n ≤ 8 * N) (g4 : 0 < n) (g5 : N ≤ cap) (hln : l.length = n) (hnc : n ≤ c2) (hl : Sl w B A2 n (bools l)) (hBG : B ≤ G) (hBP : B ≤ P)
    (hM : Msk w) (hFl : Flp w) (hT : Tzt w) (hGP : G ≠ P) (hB3 : 3 ≤ B)
    (hcur : cur = d.getD (f / 8) 0) (h : Blk w P 36 #[.slice (some ⟨G, 0, none⟩) N cap, .int .i64 0, .int .i64 n, .int .u8 cur, .int .u8 ((2 ^ (f % 8) : Nat) : Int), .int .i64 ((f / 8 : Nat) : Int)])
    (hown : w.ownsRow B 5 1 (.slice (some ⟨G, 0, none⟩) N cap) N (bv d)) :
    Calls Tryd.prog 11 #[.pointer (some ⟨P, 0, none⟩), .slice A2 n c2] w (ABb B G P N cap f n (chgN d f l n) w) := by
  have hPl := h.lt
  have hGl := own_lt' hown
  have hPG : P ≠ G := fun e => hGP e.symm
  obtain ⟨c0, c1, c2', c3, c4, c5⟩ := blk6 h
  have hf8 : (f / 8 : Nat) < N := by omega
  have hcl : cur < 256 := by rw [hcur]; exact hD.get _
  have HCU := hide hcur
  clear hcur
  have hpw := pow_lt8 (show f % 8 < 8 by omega)
  have hMin := hide (fun (W : World) => min_same W (n : Int))
  have hTz := hide (fun (W : World) (hm : Mod [] w W) => tz_any W (f % 8) (by omega) (hT.mod hm (by simp)))
  have hBF := hide (fun (W : World) => bfb_i W ((f : Int) % 8 + n) (f % 8 + n) (by omega) (by omega))
  have hnb : f / 8 + (f % 8 + n + 7) / 8 ≤ N := by omega
  have hnb0 : 0 < (f % 8 + n + 7) / 8 := by omega
  have hB0 := hide h
  have hO0 := hide hown
  have KM := hide hM
  have KF := hide hFl
  have KL := hide hl
  have hnz : ((n : Int) == 0) = false := by rw [beq_eq_false_iff_ne]; omega
  clear h hown hM hFl hT hl
  go_enter Tryd.func11, Tryd.ntmps11
  go_upto_region 1 with (fail)
  go_cut [5] (fun v5 wx => v5 = .int .i64 (n : Int) ∧ ∃ q, wx = w.drewN q)
  case first =>
    go_quiet (first | (go_at_call 17; refine Calls.quiet_of_same ((unhide hMin _).mono fun e w' hh => ⟨hh.1, hh.2.symm⟩)))
    go_wp2_with fail
    go_meet
    exact ⟨rfl, _, rfl⟩
  case rest =>
    obtain ⟨rfl, q, rfl⟩ := hcut
    have hB1 := Blk.drewN (unhide hB0) q
    have hO1 := own_mod (unhide hO0) ((Mod.refl [] w).drewN q) (by simp)
    have hM1 := (Mod.refl [] w).drewN q
    have hTz1 := hide (unhide hTz (w.drewN q) hM1)
    clear hB0 hO0 hTz c0 c1 c2' c3 c4 c5
    have KM1 := hide hM1
    clear hM1
    generalize w.drewN q = w1 at *
    obtain ⟨c0, c1, c2', c3, c4, c5⟩ := blk6 hB1
    have KB1 := hide hB1
    have KO1 := hide hO1
    clear hB1 hO1
    generalize 2 ^ (f % 8) = mk at *
    go_upto_region 5 with (first | (go_at_call 18; (with_reducible refine (unhide hTz1).mono ?_); rintro e w2 ⟨rfl, rfl⟩) | fail)
    generalize hnbb : (f % 8 + n + 7) / 8 = nb at *
    go_cut [7] (fun v7 wx => v7 = .slice (some ⟨G, f / 8, none⟩) nb (cap - f / 8) ∧ ∃ q, wx = w1.drewN q)
    case first =>
      go_quiet (first | (go_at_call 19; refine Calls.quiet_of_same ((unhide hBF _).mono fun e w' hh => ⟨hh.1, hh.2.symm⟩)))
      go_wp2_with fail
      go_meet
      exact ⟨by rw [Nat.add_sub_cancel_left], _, rfl⟩
    case rest =>
      obtain ⟨rfl, q2, rfl⟩ := hcut
      have hB2 := Blk.drewN (unhide KB1) q2
      have hO2 := own_mod (unhide KO1) ((Mod.refl [] w1).drewN q2) (by simp)
      have hM2 := (unhide KM1).drewN q2
      clear KB1 KO1 KM1 hTz1 c0 c1 c2' c3 c4 c5
      generalize w1.drewN q2 = w2 at *
      obtain ⟨c0, c1, c2', c3, c4, c5⟩ := blk6 hB2
      have gf := own_frozen hO2 (f / 8)
      have gc := own_cell hO2 (f / 8) hf8
      have hss : d.set (f / 8) cur = d := by rw [unhide HCU]; exact set_same d _
      have hO3 := own_set hO2 (f / 8) cur hf8
      rw [hss] at hO3
      have hB3 := hB2.other (a := ⟨G, f / 8, none⟩) hPG (.int .u8 cur)
      have hM3 := (hM2.any [G]).setCell (p := ⟨G, f / 8, none⟩) (by simp) (.int .u8 cur)
      have KB3 := hide hB3
      have KM3 := hide hM3
      have h0 := hide (show LAB (w2.setCell ⟨G, f / 8, none⟩ (.int .u8 cur)) B G N cap f n d l (.int .i64 0) (w2.setCell ⟨G, f / 8, none⟩ (.int .u8 cur)) from ⟨0, by omega, rfl, hO3, Mod.refl _ _⟩)
      clear hB2 hO2 hM2 hB3 hO3 hM3 hss hMin hBF
      have hnbi : (0 : Int) < (nb : Int) := by omega
      go_wp2_with fail
      clear c0 c1 c2' c3 c4 c5 gf gc
      generalize w2.setCell ⟨G, f / 8, none⟩ (.int .u8 cur) = w3 at *
      go_loopw [58] (LAB w3 B G N cap f n d l) (fun v _ => n - (intOf v).toNat)
      case atStart => exact unhide h0
      case round =>
        obtain ⟨k, hk, rfl, hO, hmr⟩ := hrel
        have hm0 := (unhide KM3).trans hmr (by simp)
        by_cases hlt : k < n
        · have hl' : Sl wr B A2 l.length (bools l) := by rw [hln]; exact (unhide KL).mod hm0 (by simp; omega)
          obtain ⟨b, off, rfl, hb, hcell⟩ := bools_at hl' (by omega : k < l.length)
          have hsm := chgN_small hD f l k
          have e1 : f / 8 + (k + f % 8) / 8 = (f + k) / 8 := by omega
          have e2 : (k + f % 8) % 8 = (f + k) % 8 := by omega
          have hS := hide (setb_i wr B G N cap (f / 8) nb (cap - f / 8) (k + f % 8) ((k : Int) + (f : Int) % 8) (by omega) _ hsm ((unhide KM).mod hm0 (by simp; omega)) (by omega) (by omega) (by omega) hO)
          have hC := hide (clrb_i wr B G N cap (f / 8) nb (cap - f / 8) (k + f % 8) ((k : Int) + (f : Int) % 8) (by omega) _ hsm ((unhide KF).mod hm0 (by simp; omega)) (by omega) (by omega) (by omega) hO)
          rw [e1, e2] at hS hC
          have hst := chg_step d hD f l k
          have hX := hide (fun (W : World) (ho : W.ownsRow B 5 1 (.slice (some ⟨G, 0, none⟩) N cap) N (bv (chgN d f l (k + 1)))) (hm : Mod [G] wr W) => (show LAB w3 B G N cap f n d l (.int .i64 ((k : Int) + 1)) W from ⟨k + 1, by omega, by simp, ho, hmr.trans hm (by simp)⟩))
          cases hbb : l.getD k false
          all_goals
            rw [hbb] at hcell hst
            have HST := hide hst
            clear hst hO hl' hm0 hmr h0
            go_wp2_with (first | (go_at_call 20; (with_reducible refine (unhide hS).mono ?_); rintro e w4 ⟨rfl, ho, hm⟩) | (go_at_call 21; (with_reducible refine (unhide hC).mono ?_); rintro e w4 ⟨rfl, ho, hm⟩) | fail)
            exact ⟨unhide hX _ (by rw [unhide HST]; exact ho) hm, by simp [intOf]; omega⟩
        · obtain rfl : k = n := by omega
          have hB4 := Blk.mod (unhide KB3) hmr (by simpa using hPG)
          obtain ⟨c0, c1, c2', c3, c4, c5⟩ := blk6 hB4
          have f1 := hB4.frozen 1
          have f3 := hB4.frozen 3
          have f4 := hB4.frozen 4
          have f5 := hB4.frozen 5
          have hmx := (unhide KM).mod hm0 (by simp; omega) ((f + k) % 8) (by omega)
          have hpw2 := pow_lt8 (show (f + k) % 8 < 8 by omega)
          have ei : ((f : Int) % 8 + k) % 8 = (((f + k) % 8 : Nat) : Int) := by omega
          have eo : (f : Int) / 8 + ((f : Int) % 8 + k) / 8 = (((f + k) / 8 : Nat) : Int) := by omega
          have hix8 : (f + k) % 8 < 8 := by omega
          have hlast : 0 < k → (f + k) % 8 ≠ 0 → f / 8 + (nb - 1) = (f + k) / 8 := by omega
          have HL := hide hlast
          clear hlast
          generalize hmx2 : 2 ^ ((f + k) % 8) = mx at *
          generalize hix : (f + k) % 8 = ix at *
          generalize hox : (f + k) / 8 = o8 at *
          have hsm := chgN_small hD f l k
          have gy := own_cell hO (f / 8 + (nb - 1)) (by omega)
          have hy8 := hsm.get (f / 8 + (nb - 1))
          generalize hyy : (chgN d f l k).getD (f / 8 + (nb - 1)) 0 = y at *
          have KB4 := hide hB4
          have KO4 := hide hO
          have KM4 := hide hm0
          clear hB4 hO hm0 hmr h0 KB3 KM3
          go_wp2_with fail
          go_ret
          have q1 := b6s3 (b6s5 (b6s4 (b6s1 (unhide KB4) (.int .i64 (k : Int))) (.int .u8 (mx : Int))) (.int .i64 (o8 : Int))) (.int .u8 (y : Int))
          have q2 := own_S (i := 3) (own_S (i := 5) (own_S (i := 4) (own_S (i := 1) (unhide KO4) hGP (.int .i64 (k : Int))) hGP (.int .u8 (mx : Int))) hGP (.int .i64 (o8 : Int))) hGP (.int .u8 (y : Int))
          have q3 := (((((unhide KM4).mono (T := [P, G]) (by simp)).setCell (p := ⟨P, 1, none⟩) (by simp) (.int .i64 (k : Int))).setCell (p := ⟨P, 4, none⟩) (by simp) (.int .u8 (mx : Int))).setCell (p := ⟨P, 5, none⟩) (by simp) (.int .i64 (o8 : Int))).setCell (p := ⟨P, 3, none⟩) (by simp) (.int .u8 (y : Int))
          refine ⟨⟨_, rfl⟩, ⟨by with_reducible exact q2, y, hy8, fun h h2 => ?_, ?_⟩, by with_reducible exact q3⟩
          · rw [hix] at h2
            rw [hox, ← unhide HL h h2]
            exact hyy.symm
          · rw [hix, hmx2, hox]; with_reducible exact q1
set_option maxRecDepth 100000 in
theorem app0_bools (w : World) (P c2 : Nat) (a0 a3 a4 a5 : Value) (A2 : Option Addr) (h : Blk w P 36 #[a0, .int .i64 0, .int .i64 0, a3, a4, a5]) :
    Calls Tryd.prog 11 #[.pointer (some ⟨P, 0, none⟩), .slice A2 0 c2] w fun e w' => (∃ v, e = .returned v) ∧ Mod [] w w' := by
  obtain ⟨c0, c1, c2', c3, c4, c5⟩ := blk6 h
  have hMin := hide (fun (W : World) => min_same W 0)
  clear h
  go_enter Tryd.func11, Tryd.ntmps11
  go_upto_region 1 with (fail)
  go_cut [5] (fun v5 wx => v5 = .int .i64 0 ∧ ∃ q, wx = w.drewN q)
  case first =>
    go_quiet (first | (go_at_call 17; refine Calls.quiet_of_same ((unhide hMin _).mono fun e w' hh => ⟨hh.1, hh.2.symm⟩)))
    go_wp2_with fail
    go_meet
    exact ⟨rfl, _, rfl⟩
  case rest =>
    obtain ⟨rfl, q, rfl⟩ := hcut
    go_wp2_with fail
    go_ret
    exact ⟨⟨_, rfl⟩, (Mod.refl [] w).drewN q⟩
set_option maxRecDepth 100000 in
theorem app0_bm (w : World) (P : Nat) (a0 a3 a4 a5 v : Value) (h : Blk w P 36 #[a0, .int .i64 0, .int .i64 0, a3, a4, a5]) :
    Calls Tryd.prog 12 #[.pointer (some ⟨P, 0, none⟩), v, .int .i64 3, .int .i64 0] w fun e w' => (∃ v, e = .returned v) ∧ Mod [] w w' := by
  obtain ⟨c0, c1, c2', c3, c4, c5⟩ := blk6 h
  have hMin := hide (fun (W : World) => min_same W 0)
  clear h
  go_enter Tryd.func12, Tryd.ntmps12
  go_upto_region 1 with (fail)
  go_cut [9] (fun v9 wx => v9 = .int .i64 0 ∧ ∃ q, wx = w.drewN q)
  case first =>
    go_quiet (first | (go_at_call 17; refine Calls.quiet_of_same ((unhide hMin _).mono fun e w' hh => ⟨hh.1, hh.2.symm⟩)))
    go_wp2_with fail
    go_meet
    exact ⟨rfl, _, rfl⟩
  case rest =>
    obtain ⟨rfl, q, rfl⟩ := hcut
    go_wp2_with fail
    go_ret
    exact ⟨⟨_, rfl⟩, (Mod.refl [] w).drewN q⟩
end Go.Proofs.YtcjjajbpjfamfaaDoor
