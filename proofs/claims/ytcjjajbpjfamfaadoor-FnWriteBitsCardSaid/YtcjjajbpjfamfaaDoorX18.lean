/- A bitmap is copied bit by bit to another place: the bytes behind the words. (YtcjjajbpjfamfaaDoor) -/
import Derived.Test.YtcjjajbpjfamfaaDoorX17
set_option linter.unusedVariables false
set_option linter.unusedSimpArgs false
namespace Go.Proofs.YtcjjajbpjfamfaaDoor
open Go.ChangeShapes Go.WideShapes Go.ChangeAt Go.RowKit
section
variable {w : World} {B S G PR PW N cap rc sa s1 f n k b : Nat} {sb d : List Nat} {l : List Bool}
theorem t_readb (H : TOk S G N cap rc sa s1 f n sb d l) (hne : S ≠ PR) (hr : Rdb w S sb) (hb : b < (n - 64 * (n / 64 - 1) + 7) / 8)
    (h : TRd w PR S rc sa s1 n (8 * (n / 64 - 1) + b) (n - 64 * (n / 64 - 1) - 8 * b) ((n - 64 * (n / 64 - 1) + 7) / 8 - b) sb) :
    Calls Tryd.prog 30 #[.pointer (some ⟨PR, 0, none⟩)] w fun e w' => ∃ v vv : Nat, e = .returned (.tuple #[.int .u8 v, .int .i64 vv]) ∧ vv = min 8 (n - 64 * (n / 64 - 1) - 8 * b) ∧ v < 256 ∧ (∀ j, j < vv → v.testBit j = l.getD (64 * (n / 64 - 1) + 8 * b + j) false) ∧
      (b + 1 < (n - 64 * (n / 64 - 1) + 7) / 8 → TRd w' PR S rc sa s1 n (8 * (n / 64 - 1) + (b + 1)) (n - 64 * (n / 64 - 1) - 8 * (b + 1)) ((n - 64 * (n / 64 - 1) + 7) / 8 - (b + 1)) sb) ∧ Mod [PR] w w' := by
  by_cases c : 8 * (b + 1) < n - 64 * (n / 64 - 1)
  · refine (t_nextb H hne hr c h).mono fun e w' hh => ?_
    obtain ⟨v, rfl, r1, r2, r3, r4⟩ := hh
    exact ⟨v, 8, rfl, by omega, r1, r2, fun _ => r3, r4⟩
  · obtain ⟨cr, h1, h2, h3, h4⟩ := h
    have g1 := H.hsb
    have g2 := H.hrc
    have g3 := H.hs1
    have g4 := H.hfn
    have g5 := H.hN
    have hSl : S < w.heap.size := (by
      have := hr (sa + (8 * (n / 64 - 1) + b)) (by omega)
      exact World.block_lt_of_cell? w ⟨S, sa + (8 * (n / 64 - 1) + b), none⟩ this)
    refine (nextTB_last w S PR (sa + (8 * (n / 64 - 1) + b)) ((s1 + n + 7) / 8 - (8 * (n / 64 - 1) + b)) (rc - (8 * (n / 64 - 1) + b)) s1 (n - 64 * (n / 64 - 1) - 8 * b) _ _ _ sb H.hs1 H.hS (by omega) (by omega) (by omega) (by omega) hne hr hSl h4).mono fun e w' hh => ?_
    obtain ⟨rfl, r1⟩ := hh
    refine ⟨_, _, rfl, by omega, tbv_lt _ _, fun j hj => ?_, fun h => by omega, r1⟩
    rw [tbv_tb _ _ j (by omega) hj, H.hl _ (by omega)]
    congr 1; omega
theorem t_writeb (H : TOk S G N cap rc sa s1 f n sb d l) (hne : G ≠ PW) (hM : Msk w) (hb : b < (n - 64 * (n / 64 - 1) + 7) / 8) (hown : w.ownsRow B 5 1 (.slice (some ⟨G, 0, none⟩) N cap) N (bv (chgN d f l (min (64 * (n / 64 - 1) + 8 * b) n))))
    (h : TWr w PW G N cap f n (8 * (n / 64 - 1) + b) (chgN d f l (min (64 * (n / 64 - 1) + 8 * b) n))) (v vv : Nat) (hvv : vv = min 8 (n - 64 * (n / 64 - 1) - 8 * b)) (hv : v < 256) (hbits : ∀ j, j < vv → v.testBit j = l.getD (64 * (n / 64 - 1) + 8 * b + j) false) :
    Calls Tryd.prog 31 #[.pointer (some ⟨PW, 0, none⟩), .int .u8 v, .int .i64 vv] w fun e w' => e = .returned (.tuple #[]) ∧ w'.ownsRow B 5 1 (.slice (some ⟨G, 0, none⟩) N cap) N (bv (chgN d f l (min (64 * (n / 64 - 1) + 8 * (b + 1)) n))) ∧
      (b + 1 < (n - 64 * (n / 64 - 1) + 7) / 8 → TWr w' PW G N cap f n (8 * (n / 64 - 1) + (b + 1)) (chgN d f l (min (64 * (n / 64 - 1) + 8 * (b + 1)) n))) ∧ Mod [PW, G] w w' := by
  obtain ⟨cw, h1, h2, h3, h4⟩ := h
  have g1 := H.hfn
  have g2 := H.hd
  have g3 := H.hcap
  have g4 := H.hN
  have em : min (64 * (n / 64 - 1) + 8 * b) n = 64 * (n / 64 - 1) + 8 * b := by omega
  rw [em] at hown h3 h2
  have hsm := chgN_small H.hD f l (64 * (n / 64 - 1) + 8 * b)
  have hlen := chgN_length d f l (64 * (n / 64 - 1) + 8 * b)
  have e1 : 8 * (f / 8 + (8 * (n / 64 - 1) + b)) + f % 8 = f + (64 * (n / 64 - 1) + 8 * b) := by omega
  have ek : chgN (chgN d f l (64 * (n / 64 - 1) + 8 * b)) (8 * (f / 8 + (8 * (n / 64 - 1) + b)) + f % 8) (bitsOf v vv) vv = chgN d f l (min (64 * (n / 64 - 1) + 8 * (b + 1)) n) := by
    rw [e1, chg_append H.hD f l (bitsOf v vv) (64 * (n / 64 - 1) + 8 * b) vv (by omega) (fun j hj => by rw [bitsOf_get _ _ _ hj]; exact hbits j hj)]
    congr 1; omega
  by_cases c8 : vv = 8
  · subst c8
    have hc1 : b + 1 < (n - 64 * (n / 64 - 1) + 7) / 8 → 1 < cap - (f / 8 + (8 * (n / 64 - 1) + b)) := fun hlt => by omega
    refine (putT8_any w B G N cap PW (f / 8 + (8 * (n / 64 - 1) + b)) (N - (f / 8 + (8 * (n / 64 - 1) + b))) (cap - (f / 8 + (8 * (n / 64 - 1) + b))) (f % 8) v cw _ _ (by omega) hsm hv h1 h3 (hlen.trans g2) (by omega) (by omega) (by omega) hne h4 hown).mono fun e w' hh => ?_
    obtain ⟨rfl, r1, r2, r3⟩ := hh
    rw [ek] at r1 r3
    refine ⟨rfl, r1, fun hlt => ?_, r2⟩
    obtain ⟨cw', r4, r5, r6⟩ := r3 (hc1 hlt)
    have e2 : f / 8 + (8 * (n / 64 - 1) + b) + 1 = f / 8 + (8 * (n / 64 - 1) + (b + 1)) := by omega
    have e3 : N - (f / 8 + (8 * (n / 64 - 1) + b)) - 1 = N - (f / 8 + (8 * (n / 64 - 1) + (b + 1))) := by omega
    have e4 : cap - (f / 8 + (8 * (n / 64 - 1) + b)) - 1 = cap - (f / 8 + (8 * (n / 64 - 1) + (b + 1))) := by omega
    rw [e2, e3, e4] at r6
    rw [e2] at r5
    exact ⟨cw', r4, fun _ hp hq hr => by omega, r5, r6⟩
  · refine (putTv_any w B G N cap PW (f / 8 + (8 * (n / 64 - 1) + b)) (N - (f / 8 + (8 * (n / 64 - 1) + b))) (cap - (f / 8 + (8 * (n / 64 - 1) + b))) (f % 8) v vv cw _ _ _ (by omega) hsm hv (by omega) (by omega) h1 (hlen.trans g2) (by omega) (by omega) (by omega) (by omega) hne H.hG0 hM h4 hown).mono fun e w' hh => ?_
    obtain ⟨rfl, r1, r2⟩ := hh
    rw [ek] at r1
    exact ⟨rfl, r1, fun hlt => by omega, r2.mono (by simp)⟩
end
def WL (w1 : World) (B S G PR PW N cap rc sa s1 f n : Nat) (sb d : List Nat) (l : List Bool) (v16 : Value) (wr : World) : Prop :=
  ∃ k : Nat, k ≤ n / 64 - 1 ∧ v16 = .int .i64 ((n / 64 - 1 - k : Nat) : Int) ∧ wr.ownsRow B 5 1 (.slice (some ⟨G, 0, none⟩) N cap) N (bv (chgN d f l (64 * k))) ∧ Mod [PR, PW, G] w1 wr ∧
    TRd wr PR S rc sa s1 n (8 * k) (n - 64 * (n / 64 - 1)) ((n - 64 * (n / 64 - 1) + 7) / 8) sb ∧ TWr wr PW G N cap f n (8 * k) (chgN d f l (64 * k))
def BL (w1 : World) (B S G PR PW N cap rc sa s1 f n : Nat) (sb d : List Nat) (l : List Bool) (v17 : Value) (wr : World) : Prop :=
  ∃ b : Nat, b ≤ (n - 64 * (n / 64 - 1) + 7) / 8 ∧ v17 = .int .i64 (((n - 64 * (n / 64 - 1) + 7) / 8 - b : Nat) : Int) ∧ wr.ownsRow B 5 1 (.slice (some ⟨G, 0, none⟩) N cap) N (bv (chgN d f l (min (64 * (n / 64 - 1) + 8 * b) n))) ∧ Mod [PR, PW, G] w1 wr ∧
    (b < (n - 64 * (n / 64 - 1) + 7) / 8 → TRd wr PR S rc sa s1 n (8 * (n / 64 - 1) + b) (n - 64 * (n / 64 - 1) - 8 * b) ((n - 64 * (n / 64 - 1) + 7) / 8 - b) sb ∧ TWr wr PW G N cap f n (8 * (n / 64 - 1) + b) (chgN d f l (min (64 * (n / 64 - 1) + 8 * b) n)))
set_option maxRecDepth 100000 in
set_option maxHeartbeats 4000000 in
theorem transfer_any (w : World) (B S G N cap so sn sc sf f n : Nat) (sb d : List Nat) (l : List Bool) (H : TOk S G N cap (sc - sf / 8) (so + sf / 8) (sf % 8) f n sb d l) (hsf : sf < 65536) (hu : sf % 8 ≠ 0) (hsn : sf / 8 + (sf % 8 + n + 7) / 8 ≤ sn) (hsc : sn ≤ sc) (hM : Msk w) (hr : Rdb w S sb)
    (hown : w.ownsRow B 5 1 (.slice (some ⟨G, 0, none⟩) N cap) N (bv d)) :
    Calls Tryd.prog 23 #[.int .i8 0, .slice (some ⟨S, so, none⟩) sn sc, .int .i64 sf, .int .i64 n, .slice (some ⟨G, 0, none⟩) N cap, .int .i64 f] w fun e w' => e = .returned (.tuple #[]) ∧ w'.ownsRow B 5 1 (.slice (some ⟨G, 0, none⟩) N cap) N (bv (chgN d f l n)) ∧ Mod [G] w w' := by
  have g1 := H.hfn
  have g2 := H.hN
  have g3 := H.hsb
  have g4 := H.h0
  have g5 := H.hcap
  have hR := hide (newWR_any w S so sn sc sf n sb H.hS g4 (by omega) hsf hsn hsc (by omega) hr)
  have hW := hide (fun (W : World) (hm' : Mod [] w W) => newWW_any W B G N cap 0 N cap f n d H.hD H.hd g4 (by omega) (by omega) g1 g5 (by omega) (own_mod hown hm' (by simp)))
  have hu1 : ((sf : Int) % 8 != 0) = true := by simp; omega
  have hn1 : ((n : Int) == 0) = false := by rw [beq_eq_false_iff_ne]; omega
  have hgl := own_lt' hown
  have KO := hide hown
  have KR := hide hr
  have KM := hide hM
  clear hown hr hM
  go_enter Tryd.func23, Tryd.ntmps23
  go_upto_region 6 with (first | (go_at_call 24; (with_reducible refine (unhide hR).mono ?_); rintro e w1 ⟨PR, cr, rfl, hPR, hm1, hcr, hbR, hcr1, hcr2⟩; have hW1 := unhide hW w1 hm1) | (go_at_call 25; (with_reducible refine hW1.mono ?_); rintro e w2 ⟨PW, cw, rfl, hPW, hm2, hcw, hbW, hcw1, hcw2⟩) | fail)
  have hSl : S < w.heap.size := World.block_lt_of_cell? w ⟨S, so + sf / 8, none⟩ (unhide KR _ (by omega))
  have hPl := hbR.lt
  have hTR : TRd w2 PR S (sc - sf / 8) (so + sf / 8) (sf % 8) n 0 (n - 64 * (n / 64 - 1)) ((n - 64 * (n / 64 - 1) + 7) / 8) sb := ⟨cr, hcr, fun h _ _ => hcr1 h, hcr2, hbR.mod hm2 (by simp)⟩
  have hTW : TWr w2 PW G N cap f n 0 d := ⟨cw, hcw, fun h _ _ _ => by have := hcw1 h (by omega); rw [Nat.zero_add] at this; rw [Nat.add_zero]; exact this, fun h => by have := hcw2 h; rw [Nat.zero_add] at this; rw [Nat.add_zero]; exact this, by rw [Nat.zero_add] at hbW; rw [Nat.add_zero]; exact hbW⟩
  have hm12 := hm1.trans hm2 (by simp)
  have hO2 := own_mod (unhide KO) hm12 (by simp)
  have hR2 := Rdb.mod (unhide KR) hm12 (by simp)
  have hM2 := Msk.mod (unhide KM) hm12 (by simp)
  have KM12 := hide hm12
  obtain ⟨crr, _, _, _, hbR2⟩ := id hTR
  have hWd := hide (words_any w2 PR _ _ _ _ _ _ hbR2)
  have h0 := hide (show WL w2 B S G PR PW N cap (sc - sf / 8) (so + sf / 8) (sf % 8) f n sb d l (.int .i64 ((n / 64 - 1 : Nat) : Int)) w2 from ⟨0, by omega, rfl, hO2, Mod.refl _ _, hTR, hTW⟩)
  have hSR : S ≠ PR := by omega
  have hSW : S ≠ PW := by omega
  have hGR : G ≠ PR := by omega
  have hGW : G ≠ PW := by omega
  have hRW : PR ≠ PW := by omega
  have h0R : 0 ≠ PR := by omega
  have h0W : 0 ≠ PW := by omega
  have KR2 := hide hR2
  have KM2 := hide hM2
  have KH := hide H
  have hwR : w.heap.size ≤ PR := hPR
  have hwW : w.heap.size ≤ PW := by omega
  clear hR hW hW1 hbR hbW hbR2 hTR hTW hO2 hR2 hM2 KO KR KM hcr1 hcr2 hcw1 hcw2 hm1 hm2 hm12 H
  go_wp2_with (first | (go_at_call 26; (with_reducible refine (unhide hWd).mono ?_); rintro e w3 ⟨rfl, rfl⟩) | fail)
  go_loopw [16] (WL w2 B S G PR PW N cap (sc - sf / 8) (so + sf / 8) (sf % 8) f n sb d l) (fun v16 _ => (intOf v16).toNat)
  case atStart => exact unhide h0
  case round =>
    obtain ⟨k, hk, rfl, hO, hmr, hTR, hTW⟩ := hrel
    have hrr := Rdb.mod (unhide KR2) hmr (by simp only [List.mem_cons, List.not_mem_nil, or_false, not_or]; exact ⟨hSR, hSW, (unhide KH).hSG⟩)
    by_cases hlt : k < n / 64 - 1
    · have hNx := hide (t_next (unhide KH) hSR hrr hTR hlt)
      have hPt := hide (fun (W : World) (hm : Mod [PR] wr W) (v : Nat) hv hb => t_put (unhide KH) hGW (own_M hO hm (by simpa using hGR)) (hTW.mod hm (by simpa using fun e : PW = PR => hRW e.symm)) hlt v hv hb)
      have hC := hide (fun (W W' : World) (x : Int) (hx : x = ((n / 64 - 1 - (k + 1) : Nat) : Int)) (h1 : Mod [PR] wr W) (h2 : TRd W PR S (sc - sf / 8) (so + sf / 8) (sf % 8) n (8 * (k + 1)) (n - 64 * (n / 64 - 1)) ((n - 64 * (n / 64 - 1) + 7) / 8) sb) (h3 : W'.ownsRow B 5 1 (.slice (some ⟨G, 0, none⟩) N cap) N (bv (chgN d f l (64 * (k + 1))))) (h4 : TWr W' PW G N cap f n (8 * (k + 1)) (chgN d f l (64 * (k + 1)))) (h5 : Mod [PW, G] W W') =>
        (show WL w2 B S G PR PW N cap (sc - sf / 8) (so + sf / 8) (sf % 8) f n sb d l (.int .i64 x) W' from ⟨k + 1, by omega, by rw [hx], h3, (hmr.trans h1 (by simp)).trans h5 (by simp), h2.mod h5 (by simp only [List.mem_cons, List.not_mem_nil, or_false, not_or]; exact ⟨hRW, fun e => hGR e.symm⟩), h4⟩))
      have hr1 : ((n / 64 - 1 - (k + 1) : Nat) : Int) = ((n / 64 - 1 - k : Nat) : Int) - 1 := by omega
      have hr0 : 0 < n / 64 - 1 - k := by omega
      rw [hr1] at hC
      generalize hrk : n / 64 - 1 - k = r at *
      clear h0 hO hTR hTW hrr hmr hr1 hWd
      go_wp2_with (first | (go_at_call 28; (with_reducible refine (unhide hNx).mono ?_); rintro e w3 ⟨v, rfl, hv, hvb, hTR3, hm3⟩) | (go_at_call 27; (with_reducible refine (unhide hPt _ hm3 v hv hvb).mono ?_); rintro e w4 ⟨rfl, hO4, hTW4, hm4⟩) | fail)
      exact ⟨unhide hC w3 w4 _ rfl hm3 hTR3 hO4 hTW4 hm4, by simp [intOf]; omega⟩
    · obtain rfl : k = n / 64 - 1 := by omega
      obtain ⟨crr, hq1, hq2, hq3, hbR2⟩ := id hTR
      have hTy := hide (tbytes_any wr PR _ _ _ _ _ _ hbR2)
      have em : min (64 * (n / 64 - 1) + 8 * 0) n = 64 * (n / 64 - 1) := by omega
      have h1 := hide (show BL w2 B S G PR PW N cap (sc - sf / 8) (so + sf / 8) (sf % 8) f n sb d l (.int .i64 (((n - 64 * (n / 64 - 1) + 7) / 8 : Nat) : Int)) wr from ⟨0, by omega, rfl, by rw [em]; exact hO, hmr, fun _ => ⟨hTR, by rw [em]; exact hTW⟩⟩)
      have e0 : ((n / 64 - 1 - (n / 64 - 1) : Nat) : Int) = 0 := by omega
      rw [e0]
      clear h0 hO hTR hTW hrr hmr hWd hbR2 hq1 hq2 hq3 em e0
      go_wp2_with (first | (go_at_call 29; (with_reducible refine (unhide hTy).mono ?_); rintro e w3 ⟨rfl, rfl⟩) | fail)
      go_loopw [17, 18, 19] (fun v17 _ _ wx => BL w2 B S G PR PW N cap (sc - sf / 8) (so + sf / 8) (sf % 8) f n sb d l v17 wx) (fun v17 _ _ _ => (intOf v17).toNat)
      case atStart => exact unhide h1
      case round =>
        obtain ⟨b, hb, rfl, hO, hmr, hTT⟩ := hrel
        have hrr := Rdb.mod (unhide KR2) hmr (by simp only [List.mem_cons, List.not_mem_nil, or_false, not_or]; exact ⟨hSR, hSW, (unhide KH).hSG⟩)
        have hMM := Msk.mod (unhide KM2) hmr (by simp only [List.mem_cons, List.not_mem_nil, or_false, not_or]; exact ⟨h0R, h0W, fun e => (unhide KH).hG0 e.symm⟩)
        by_cases hlt : b < (n - 64 * (n / 64 - 1) + 7) / 8
        · obtain ⟨hTR, hTW⟩ := hTT hlt
          have hNx := hide (t_readb (unhide KH) hSR hrr hlt hTR)
          have hPt := hide (fun (W : World) (hm : Mod [PR] wr W) (v vv : Nat) hvv hv hb => t_writeb (unhide KH) hGW (hMM.mod hm (by simpa using h0R)) hlt (own_M hO hm (by simpa using hGR)) (hTW.mod hm (by simpa using fun e : PW = PR => hRW e.symm)) v vv hvv hv hb)
          have hC := hide (fun (W W' : World) (x : Int) (hx : x = (((n - 64 * (n / 64 - 1) + 7) / 8 - (b + 1) : Nat) : Int)) (h1 : Mod [PR] wr W) (h2 : b + 1 < (n - 64 * (n / 64 - 1) + 7) / 8 → TRd W PR S (sc - sf / 8) (so + sf / 8) (sf % 8) n (8 * (n / 64 - 1) + (b + 1)) (n - 64 * (n / 64 - 1) - 8 * (b + 1)) ((n - 64 * (n / 64 - 1) + 7) / 8 - (b + 1)) sb) (h3 : W'.ownsRow B 5 1 (.slice (some ⟨G, 0, none⟩) N cap) N (bv (chgN d f l (min (64 * (n / 64 - 1) + 8 * (b + 1)) n)))) (h4 : b + 1 < (n - 64 * (n / 64 - 1) + 7) / 8 → TWr W' PW G N cap f n (8 * (n / 64 - 1) + (b + 1)) (chgN d f l (min (64 * (n / 64 - 1) + 8 * (b + 1)) n))) (h5 : Mod [PW, G] W W') =>
            (show BL w2 B S G PR PW N cap (sc - sf / 8) (so + sf / 8) (sf % 8) f n sb d l (.int .i64 x) W' from ⟨b + 1, by omega, by rw [hx], h3, (hmr.trans h1 (by simp)).trans h5 (by simp), fun hh => ⟨(h2 hh).mod h5 (by simp only [List.mem_cons, List.not_mem_nil, or_false, not_or]; exact ⟨hRW, fun e => hGR e.symm⟩), h4 hh⟩⟩))
          have hr1 : (((n - 64 * (n / 64 - 1) + 7) / 8 - (b + 1) : Nat) : Int) = (((n - 64 * (n / 64 - 1) + 7) / 8 - b : Nat) : Int) - 1 := by omega
          have hr0 : 0 < (n - 64 * (n / 64 - 1) + 7) / 8 - b := by omega
          rw [hr1] at hC
          generalize hrk : (n - 64 * (n / 64 - 1) + 7) / 8 - b = r at *
          clear h1 hO hTR hTW hTT hrr hMM hmr hr1 hTy
          go_wp2_with (first | (go_at_call 30; (with_reducible refine (unhide hNx).mono ?_); rintro e w3 ⟨v, vv, rfl, hvv, hv, hvb, hTR3, hm3⟩; have HVV := hide hvv; have HVB := hide hvb; clear hvv hvb) | (go_at_call 31; (with_reducible refine (unhide hPt _ hm3 v vv (unhide HVV) hv (unhide HVB)).mono ?_); rintro e w4 ⟨rfl, hO4, hTW4, hm4⟩) | fail)
          exact ⟨unhide hC w3 w4 _ rfl hm3 hTR3 hO4 hTW4 hm4, by simp [intOf]; omega⟩
        · obtain rfl : b = (n - 64 * (n / 64 - 1) + 7) / 8 := by omega
          have em : min (64 * (n / 64 - 1) + 8 * ((n - 64 * (n / 64 - 1) + 7) / 8)) n = n := by omega
          rw [em] at hO
          have KO := hide hO
          have e0 : (((n - 64 * (n / 64 - 1) + 7) / 8 - (n - 64 * (n / 64 - 1) + 7) / 8 : Nat) : Int) = 0 := by omega
          rw [e0]
          have KF := hide (((unhide KM12).any [G]).trans hmr (by simp; omega))
          clear h1 hO hTT hrr hMM hmr hTy em e0
          go_wp2_with fail
          go_returns
          exact ⟨rfl, unhide KO, unhide KF⟩
end Go.Proofs.YtcjjajbpjfamfaaDoor
