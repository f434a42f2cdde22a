/- Bits written: the thin package's function, its walk. (YtcjjajbpjfamfaaDoor) -/
import Derived.Test.YtcjjajbpjfamfaaDoorX22
set_option linter.unusedVariables false
set_option linter.unusedSimpArgs false
namespace Go.Proofs.YtcjjajbpjfamfaaDoor
open Go.ChangeShapes Go.WideShapes Go.ChangeAt Go.RowKit
theorem made_bv (N : Nat) : madeCells (Value.cells (.int .u8 0)) (N * 1) = (bv (List.replicate N 0)).toArray := by
  simp [bv, madeCells, Value.cells]
  apply Array.ext
  · simp
  · intro i h1 h2
    simp [Nat.mod_one]
theorem make22 (N : Nat) (hN : N ≤ 1048576) (w : World) : (Instr.makeSlice 22 (.int .i64 (N : Int)) (.int .i64 (N : Int))).run Tryd.prog w = .ok (.slice (some ⟨w.heap.size, 0, none⟩) N N) (w.alloc (.cells (bv (List.replicate N 0)).toArray 5)) := by
  obtain ⟨i0, hi, hz0, hz1, hz2⟩ := info_parts info5
  have := run_make_rowN (P := Tryd.prog) 22 5 i0 _ Tryd.underlying22 hi hz0 .i64 .i64 N N (Nat.le_refl _) (by rw [hz2]; omega) (by omega) w
  rw [this, hz1, made_bv]
theorem blk_set (w : World) (S i x : Nat) (sb : List Nat) (h : Blk w S 5 (bv sb).toArray) : Blk (w.setCell ⟨S, i, none⟩ (.int .u8 (x : Int))) S 5 (bv (sb.set i x)).toArray := by
  refine (h.set i (.int .u8 (x : Int))).cast ?_
  simp [bv, List.map_set]
theorem blk_rdb {w : World} {S : Nat} {sb : List Nat} (h : Blk w S 5 (bv sb).toArray) : Rdb w S sb := fun i hi => by rw [h.cell, bv_get _ _ hi]
def LSrc (w3 : World) (S n : Nat) (l : List Bool) (v53 : Value) (wr : World) : Prop :=
  ∃ k : Nat, k ≤ n ∧ v53 = .int .i64 (k : Int) ∧ Blk wr S 5 (bv (srcN l n k)).toArray ∧ Mod [] w3 wr
theorem app0_bools_n (w : World) (P c2 n : Nat) (hn : n = 0) (a0 a3 a4 a5 : Value) (A2 : Option Addr) (h : Blk w P 36 #[a0, .int .i64 0, .int .i64 n, a3, a4, a5]) :
    Calls Tryd.prog 11 #[.pointer (some ⟨P, 0, none⟩), .slice A2 n c2] w fun e w' => (∃ v, e = .returned v) ∧ Mod [] w w' := by
  subst hn; exact app0_bools w P c2 _ _ _ _ A2 h
theorem app0_bm_n (w : World) (P n : Nat) (hn : n = 0) (a0 a3 a4 a5 v : Value) (h : Blk w P 36 #[a0, .int .i64 0, .int .i64 n, a3, a4, a5]) :
    Calls Tryd.prog 12 #[.pointer (some ⟨P, 0, none⟩), v, .int .i64 3, .int .i64 n] w fun e w' => (∃ v, e = .returned v) ∧ Mod [] w w' := by
  subst hn; exact app0_bm w P _ _ _ _ v h
theorem wst_zero {w : World} {B G P N cap f : Nat} {d : List Nat} {l : List Bool} (h : WSt B G P N cap 0 N cap f d l 0 w) : w.ownsRow B 5 1 (.slice (some ⟨G, 0, none⟩) N cap) N (bv d) ∧ ∃ cur : Nat, cur < 256 ∧ (0 < l.length → cur = d.getD (f / 8) 0) ∧
    Blk w P 36 #[.slice (some ⟨G, 0, none⟩) N cap, .int .i64 0, .int .i64 (l.length : Int), .int .u8 (cur : Int), .int .u8 ((2 ^ (f % 8) : Nat) : Int), .int .i64 ((f / 8 : Nat) : Int)] := by
  obtain ⟨h1, cur, h2, h3, h4⟩ := h
  rw [gmem_zero] at h1
  exact ⟨h1, cur, h2, fun h => h3 (Or.inl h), h4⟩
theorem wfd_zero {w : World} {B G P N cap f cur n : Nat} {d : List Nat} {l : List Bool} (hn : n = 0) (h1 : w.ownsRow B 5 1 (.slice (some ⟨G, 0, none⟩) N cap) N (bv d)) (h2 : cur < 256)
    (h4 : Blk w P 36 #[.slice (some ⟨G, 0, none⟩) N cap, .int .i64 0, .int .i64 (n : Int), .int .u8 (cur : Int), .int .u8 ((2 ^ (f % 8) : Nat) : Int), .int .i64 ((f / 8 : Nat) : Int)]) : Wfd B G P N cap f n (chgN d f l n) w := by
  subst hn
  exact ⟨h1, cur, h2, fun h => absurd h (by omega), h4⟩
theorem rdy_of {w3 wx : World} {B G P N cap f n : Nat} {mem : List Nat} (h : Wfd B G P N cap f n mem wx) (hl : mem.length = N) (hfn : f + n ≤ 8 * N) (hN : N ≤ 8192) (hne : G ≠ P) (hm : Mod [P, G] w3 wx) : RDY B G P N cap mem w3 wx := ⟨wfd_fin h hl hfn hN hne, hm⟩
set_option maxRecDepth 100000 in
set_option maxHeartbeats 4000000 in
theorem writeBits_any (w : World) (A A2 : Option Addr) (c c2 f : Nat) (how : Int) (d : List Nat) (l : List Bool) (hd : Sl w w.heap.size A d.length (bv d)) (hs : Small d) (hl : Sl w w.heap.size A2 l.length (bools l)) (hn : d.length ≤ 4096) (hc2 : l.length ≤ c2) (hfl : f + l.length ≤ 8 * d.length) (hM : Msk w) (hF : Flp w) (hT : Tzt w) (hB3 : 3 ≤ w.heap.size) (hh : how = 0 ∨ how = 1 ∨ how = 2) {N : Nat} (hN : l.length = N) :
    Calls Tryd.prog 6 #[.slice A d.length c, .int .i64 (f : Int), .slice A2 N c2, .int .i64 how] w fun e w' => ∃ G cap, e = .returned (.slice (some ⟨G, 0, none⟩) d.length cap) ∧ w'.ownsRow w.heap.size 5 1 (.slice (some ⟨G, 0, none⟩) d.length cap) d.length (bv (chgN d f l l.length)) ∧ Mod [] w w' := by
  subst hN
  have hmf : ∀ (fn : Fn) (first cap : Array Value) (w : World), (Instr.makeFunc fn first cap).run Tryd.prog w = .ok (.func fn first cap) w := fun _ _ _ _ => rfl
  go_enter_defers Tryd.func6, Tryd.ntmps6
  go_wp2_with fail
  have hm1 : Mod [] w (w.alloc (.cells #[.slice none 0 0] 22)) := by (repeat' (first | (with_reducible exact Mod.refl _ _) | (with_reducible assumption) | (with_reducible refine Mod.drew ?_) | (with_reducible refine Mod.drewN ?_ _) | (with_reducible refine Mod.alloc ?_ _) | (with_reducible refine Mod.setCell ?_ ?_ _) | (left; simp; done) | (right; first | omega | (simp; omega) | (simp; done))))
  have hOut : Blk (w.alloc (.cells #[.slice none 0 0] 22)) w.heap.size 22 #[.slice none 0 0] := by (repeat' (first | assumption | apply Blk.drew | apply Blk.drewN | (exact Blk.new _ _ (by simp)) | apply Blk.alloc | (refine Blk.other ?_ (by first | assumption | omega | (simp; omega)) _)))
  have hsz : (w.alloc (.cells #[.slice none 0 0] 22)).heap.size = w.heap.size + 1 := by simp
  refine (copied_any _ A c d (B := w.heap.size) (by omega) (hd.mod hm1 (by simp)) hn).mono ?_
  rintro e w2 ⟨G, cap, rfl, ho, hm, hG, hcap⟩
  have hm2 := hm1.trans hm (by simp)
  have hOut2 := hOut.mod hm (by simp)
  rw [hsz] at ho hG
  have hs2 := hm.size
  rw [hsz] at hs2
  clear hm1 hOut hm hsz
  have hNew := hide (by
    have := wnew_any w2 (w.heap.size + 1) G d.length cap 0 d.length cap f d l (hM.mod hm2 (by simp)) (fun P hP => ⟨rfl, hs, by omega, hfl, by omega, by omega, hP⟩) ho
    rw [show f - 8 * 0 = f by omega] at this
    exact this)
  have KO := hide ho
  have KM2 := hide hm2
  have KOut := hide hOut2
  have gg := own_lt' ho
  clear ho hm2 hOut2
  go_upto_block 0 with (first | (go_at_call 10; (with_reducible refine (unhide hNew).mono ?_); rintro e w3 ⟨P, rfl, hP, hm3, hst⟩) | fail)
  have ho3 := own_mod (unhide KO) hm3 (by simp)
  have hm03 := (unhide KM2).trans hm3 (by simp)
  have hOut3 := Blk.mod (unhide KOut) hm3 (by simp)
  have hGP : G ≠ P := by omega
  have hl3 := hl.mod hm03 (by simp)
  have hM3 := hM.mod hm03 (by simp)
  have hF3 := hF.mod hm03 (by simp)
  have hT3 := hT.mod hm03 (by simp)
  have hWok : WOk G P d.length cap 0 d.length f d l := ⟨rfl, hs, by omega, hfl, by omega, by omega, hGP⟩
  have hOKH := hide hWok
  have KO3 := hide ho3
  have KM03 := hide hm03
  have KOut3 := hide hOut3
  have KL := hide hl3
  have KST := hide hst
  clear hNew KO KM2 KOut hm3 hm03 hOut3 ho3 hl3 hl hd hWok
  have hcd : chgN d f l l.length = chgN d f l l.length := rfl
  go_cut [] from 11 to 76 (fun wx => RDY (w.heap.size + 1) G P d.length cap (chgN d f l l.length) w3 wx)
  case first =>
    rcases hh with rfl | rfl | rfl
    · have h0 := hide (show LW0 w3 (w.heap.size + 1) G P d.length cap f d l (.int .i64 0) w3 from ⟨0, by omega, rfl, unhide KST, Mod.refl _ _⟩)
      clear hst
      go_wp2_with fail
      go_loopw [27] (LW0 w3 (w.heap.size + 1) G P d.length cap f d l) (fun v _ => l.length - (intOf v).toNat)
      case atStart => exact unhide h0
      case round =>
        obtain ⟨k, hk, rfl, hst, hmr⟩ := hrel
        by_cases hlt : k < l.length
        · obtain ⟨b, off, rfl, hb, hcell⟩ := bools_at ((unhide KL).mod hmr (by simp; omega)) hlt
          have hS := hide (fun (h : l.getD k false = true) => wset_any (unhide hOKH) hst hlt h)
          have hCl := hide (fun (h : l.getD k false = false) => wclear_any (unhide hOKH) hst hlt h)
          have hX := hide (fun (W : World) (h : WMd (w.heap.size + 1) G P d.length cap 0 d.length cap f d l k W) => wnext_any (unhide hOKH) h hlt)
          have hC := hide (fun (W W' : World) (h1 : Mod [P] wr W) (h2 : WSt (w.heap.size + 1) G P d.length cap 0 d.length cap f d l (k + 1) W') (h3 : Mod [P, G] W W') => (show LW0 w3 (w.heap.size + 1) G P d.length cap f d l (.int .i64 ((k : Int) + 1)) W' from ⟨k + 1, by omega, by simp, h2, hmr.trans ((h1.mono (T := [P, G]) (by simp)).trans h3 (by simp)) (by simp)⟩))
          clear hst hmr h0
          cases hbb : l.getD k false
          all_goals
            rw [hbb] at hcell
            have HB := hide hbb
            clear hbb
            go_wp2_with (first | (go_at_call 13; (with_reducible refine (unhide hS (unhide HB)).mono ?_); rintro e' w4 ⟨rfl, hmd, hm4⟩) | (go_at_call 14; (with_reducible refine (unhide hCl (unhide HB)).mono ?_); rintro e' w4 ⟨rfl, hmd, hm4⟩) | (go_at_call 15; (with_reducible refine (unhide hX _ hmd).mono ?_); rintro e' w5 ⟨rfl, hst5, hm5⟩))
            exact ⟨unhide hC w4 w5 hm4 hst5 hm5, by simp [intOf]; omega⟩
        · obtain rfl : k = l.length := by omega
          have hR := hide (show RDY (w.heap.size + 1) G P d.length cap (chgN d f l l.length) w3 wr from ⟨wfin_any (unhide hOKH) hst, hmr⟩)
          clear hst hmr h0
          go_wp2_with fail
          go_meet
          exact unhide hR
    · obtain ⟨ho1, cur, hc8, hcu, hblk⟩ := wst_zero hst
      have hRd := hide (fun (W : World) (h : Wfd (w.heap.size + 1) G P d.length cap f l.length (chgN d f l l.length) W) (hm : Mod [P, G] w3 W) => rdy_of h (chgN_length _ _ _ _) hfl (by omega) hGP hm)
      by_cases h0 : l.length = 0
      · have hA := hide (app0_bools_n w3 P c2 l.length h0 _ _ _ _ A2 hblk)
        have hFin := hide (fun (W : World) (hm : Mod [] w3 W) => unhide hRd W (wfd_zero (l := l) h0 (own_mod ho1 hm (by simp)) hc8 (hblk.mod hm (by simp))) (hm.any _))
        clear hst ho1 hblk hRd hcu h0
        go_wp2_with (first | (go_at_call 11; (with_reducible refine (unhide hA).mono ?_); rintro e' w4 ⟨⟨v4, rfl⟩, hm4⟩) | fail)
        go_meet
        exact unhide hFin _ hm4
      · have hA := hide (appBs_any w3 (w.heap.size + 1) G P d.length cap f l.length cur c2 A2 d l hs rfl hn hfl (by omega) hcap rfl hc2 ((unhide KL).mono (by omega)) (by omega) (by omega) hM3 hF3 hT3 hGP (by omega) (hcu (by omega)) hblk ho1)
        clear hst ho1 hblk hcu
        go_wp2_with (first | (go_at_call 11; (with_reducible refine (unhide hA).mono ?_); rintro e' w4 ⟨⟨v4, rfl⟩, hwf, hm4⟩) | fail)
        go_meet
        exact unhide hRd _ hwf hm4
    · obtain ⟨ho1, cur, hc8, hcu, hblk⟩ := wst_zero hst
      have hRd := hide (fun (W : World) (h : Wfd (w.heap.size + 1) G P d.length cap f l.length (chgN d f l l.length) W) (hm : Mod [P, G] w3 W) => rdy_of h (chgN_length _ _ _ _) hfl (by omega) hGP hm)
      have hmk : ∀ W, (Instr.makeSlice 22 (.int .i64 (((l.length : Int) + 10) / 8)) (.int .i64 (((l.length : Int) + 10) / 8))).run Tryd.prog W = .ok (.slice (some ⟨W.heap.size, 0, none⟩) ((l.length + 10) / 8) ((l.length + 10) / 8)) (W.alloc (.cells (bv (List.replicate ((l.length + 10) / 8) 0)).toArray 5)) := fun W => by
        have := make22 ((l.length + 10) / 8) (by omega) W
        rwa [show (((l.length + 10) / 8 : Nat) : Int) = ((l.length : Int) + 10) / 8 by omega] at this
      go_upto_region 17 with (fail)
      have m4 := (Mod.refl [] w3).alloc (.cells (bv (List.replicate ((l.length + 10) / 8) 0)).toArray 5)
      have k4 := Blk.new (w := w3) (g := w3.heap.size) 5 (bv (List.replicate ((l.length + 10) / 8) 0)).toArray rfl
      have h0 := hide (show LSrc w3 w3.heap.size l.length l (.int .i64 0) (w3.alloc (.cells (bv (List.replicate ((l.length + 10) / 8) 0)).toArray 5)) from ⟨0, by omega, rfl, k4, m4⟩)
      have hSG : G < w3.heap.size := own_lt' ho1
      have hSP : P < w3.heap.size := hblk.lt
      have KM4 := hide m4
      clear hst hmk m4 k4
      generalize w3.alloc (.cells (bv (List.replicate ((l.length + 10) / 8) 0)).toArray 5) = w4 at *
      generalize hSS : w3.heap.size = S at *
      go_wp2_with fail
      go_loopw [53] (LSrc w3 S l.length l) (fun v _ => l.length - (intOf v).toNat)
      case atStart => exact unhide h0
      case round =>
        obtain ⟨k, hk, rfl, hsb, hmr⟩ := hrel
        have hm3r := hmr
        by_cases hlt : k < l.length
        · obtain ⟨b, off, rfl, hb, hcell⟩ := bools_at ((unhide KL).mod hm3r (by simp)) hlt
          have hlen := srcN_length l l.length k
          have hsm := srcN_small l l.length k
          have hx8 := hsm.get ((k + 3) / 8)
          have cx := blk_rdb hsb ((k + 3) / 8) (by omega)
          have fx := hsb.frozen ((k + 3) / 8)
          have hnx : srcN l l.length (k + 1) = if l.getD k false then (srcN l l.length k).set ((k + 3) / 8) ((srcN l l.length k).getD ((k + 3) / 8) 0 ||| 2 ^ ((k + 3) % 8)) else srcN l l.length k := rfl
          have hor := or_pow ((srcN l l.length k).getD ((k + 3) / 8) 0) ((k + 3) % 8) hx8 (by omega)
          have hset := fun x => blk_set wr S ((k + 3) / 8) x _ hsb
          have hC := hide (fun (W : World) (h1 : Blk W S 5 (bv (srcN l l.length (k + 1))).toArray) (h2 : Mod [] w3 W) => (show LSrc w3 S l.length l (.int .i64 ((k : Int) + 1)) W from ⟨k + 1, by omega, by simp, h1, h2⟩))
          have hSw : w4.heap.size ≤ S ∨ True := Or.inr trivial
          cases hbb : l.getD k false
          · rw [hbb] at hcell hnx
            rw [if_neg (by simp)] at hnx
            rw [hnx] at hC
            have HH := hide (unhide hC wr hsb hmr)
            clear hbb hset hor hsb hmr hm3r h0 cx fx hnx hC
            go_wp2_with fail
            exact ⟨unhide HH, by simp [intOf]; omega⟩
          · rw [hbb] at hcell hnx
            rw [if_pos rfl] at hnx
            rw [hnx] at hC
            generalize hxx : (srcN l l.length k).getD ((k + 3) / 8) 0 = x at *
            have HS := hide (hset (x ||| 2 ^ ((k + 3) % 8)))
            have HOR := hide hor
            have KMr := hide hmr
            clear hbb hset hor hsb hmr hm3r h0 hnx
            go_upto_region 21 with (fail)
            go_region
            go_wp2_with fail
            rw [unhide HOR]
            have hmN := ((unhide KMr).setCell (p := ⟨S, (k + 3) / 8, none⟩) (by right; simp; omega) (.int .u8 ((x ||| 2 ^ ((k + 3) % 8) : Nat) : Int))).drew
            exact ⟨unhide hC _ (unhide HS).drew hmN, by simp [intOf]; omega⟩
        · obtain rfl : k = l.length := by omega
          have hlen := srcN_length l l.length l.length
          have hsm := srcN_small l l.length l.length
          have hbit := bitAt_srcN l l.length l.length (by omega)
          have hr := blk_rdb hsb
          have ho4 := own_mod ho1 hmr (by simp)
          have hb4 := hblk.mod hmr (by simp)
          by_cases hz : l.length = 0
          · have hA := hide (app0_bm_n wr P l.length hz _ _ _ _ (.slice (some ⟨S, 0, none⟩) ((l.length + 10) / 8) ((l.length + 10) / 8)) hb4)
            have hFin := hide (fun (W : World) (hm : Mod [] wr W) => unhide hRd W (wfd_zero (l := l) hz (own_mod ho4 hm (by simp)) hc8 (hb4.mod hm (by simp))) ((hmr.trans hm (by simp)).any _))
            clear h0 hsb hmr hm3r hr ho4 hb4 hblk ho1 hRd hcu hlen hsm hbit hz
            go_wp2_with (first | (go_at_call 12; (with_reducible refine (unhide hA).mono ?_); rintro e' w5 ⟨⟨v4, rfl⟩, hm5⟩) | fail)
            go_meet
            exact unhide hFin _ hm5
          · have hTOk : TOk S G d.length cap ((l.length + 10) / 8) 0 3 f l.length (srcN l l.length l.length) d l := ⟨by decide, hsm, hs, rfl, hn, hfl, by omega, by omega, by omega, by omega, by omega, hcap, fun j hj => by rw [hbit, if_pos (by omega)]; congr 1; omega⟩
            have hA := hide (appBm_any wr (w.heap.size + 1) S G P d.length cap ((l.length + 10) / 8) ((l.length + 10) / 8) f l.length cur (srcN l l.length l.length) d l hTOk (by omega) (Nat.le_refl _) (hM3.mod hmr (by simp)) (hT3.mod hmr (by simp)) hr hGP (by omega) (by omega) (by omega) (by omega) (hcu (by omega)) hb4 ho4)
            have hFin := hide (fun (W : World) (h : Wfd (w.heap.size + 1) G P d.length cap f l.length (chgN d f l l.length) W) (hm : Mod [P, G] wr W) => unhide hRd W h ((hmr.any [P, G]).trans hm (by simp)))
            clear h0 hsb hmr hm3r hr ho4 hb4 hblk ho1 hRd hcu hlen hsm hbit hTOk
            go_wp2_with (first | (go_at_call 12; (with_reducible refine (unhide hA).mono ?_); rintro e' w5 ⟨⟨v4, rfl⟩, hwf, hm5⟩) | fail)
            go_meet
            exact unhide hFin _ hwf hm5
  case rest =>
    obtain ⟨hFin, hmr⟩ := hcut
    have KFin := hide hFin
    have KMr := hide ((unhide KM03).trans hmr (by simp; omega))
    have hOut4 := Blk.mod (unhide KOut3) hmr (by simp; omega)
    have KOut4 := hide hOut4
    have hwP : w.heap.size ≠ P := by omega
    have hwG : w.heap.size ≠ G := by omega
    clear hFin hmr hOut4 KM03 KOut3 hst KST KO3
    go_wp2_with (first | (go_at_call 16; (with_reducible refine (unhide KFin).mono ?_); rintro e' w5 ⟨rfl, ho5, hm5⟩; have hOut5 := Blk.mod (unhide KOut4) hm5 (by simp; omega); have cO := hOut5.cell 0; have fO := hOut5.frozen 0; have lO := hOut5.lt; have KM5 := hide ((unhide KMr).trans hm5 (by simp; omega)); simp at cO) | fail)
    refine leaves_cons (f := 8) (args := #[.pointer (some ⟨w.heap.size, 0, none⟩)]) (by simp) (by simp [go_sem]) ?_
    refine (idle ⟨w.heap.size, 0, none⟩ _).mono ?_
    rintro e u' w'' ⟨rfl, rfl, rfl⟩
    refine ⟨.slice (some ⟨G, 0, none⟩) d.length cap, ?_, ?_⟩
    · have c8 := (hOut5.set 0 (.slice (some ⟨G, 0, none⟩) d.length cap)).cell 0
      simp at c8
      simp [settle, results, Tryd.results6, go_sem, c8]
    · refine ⟨G, cap, rfl, own_base (own_mod ho5 ((Mod.refl [w.heap.size] w5).setCell (by simp) _) ?_) (by omega), (unhide KM5).setCell (by simp) _⟩
      intro g hg
      have : G = g := by simpa [Value.ownBlock] using hg
      simp; omega
end Go.Proofs.YtcjjajbpjfamfaaDoor
