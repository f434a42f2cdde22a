/- The word writer: a whole word, the walk. (YtjfbojmeccdchaaDoor) -/
import Derived.Test.YtjfbojmeccdchaaDoorF3
set_option linter.unusedVariables false
set_option linter.unusedSimpArgs false
namespace Go.Proofs.YtjfbojmeccdchaaDoor
open Go.ChangeShapes Go.WideShapes Go.ChangeAt Go.RowKit
def PW (w : World) (B G N cap P : Nat) (cs : Array Value) (mem : List Nat) (e : Ending) (w' : World) : Prop :=
  e = .returned (.tuple #[]) ∧ Blk w' P 87 cs ∧ w'.ownsRow B 5 1 (.slice (some ⟨G, 0, none⟩) N cap) N (bv mem) ∧ Mod [P, G] w w'
set_option maxRecDepth 100000 in
set_option maxHeartbeats 4000000 in
theorem putW0_any (w : World) (B G N cap P a m c v : Nat) (a2 a3 a4 : Value) (mem : List Nat) (hv : v < 18446744073709551616) (hl : mem.length = N) (hm : 8 ≤ m) (hmc : m ≤ c) (ha : a + m ≤ N) (hrest : 8 < m) (hne : G ≠ P)
    (h : Blk w P 87 #[.slice (some ⟨G, a, none⟩) m c, .int .i64 0, a2, a3, a4]) (hown : w.ownsRow B 5 1 (.slice (some ⟨G, 0, none⟩) N cap) N (bv mem)) :
    Calls Tryd.prog 57 #[.pointer (some ⟨P, 0, none⟩), .int .u64 v] w (PW w B G N cap P #[.slice (some ⟨G, a + 8, none⟩) (m - 8) (c - 8), .int .i64 0, a2, a3, a4] (put8 mem a v)) := by
  obtain ⟨c0, c1, c2, c3, c4⟩ := blk5 h
  have hPl := h.lt
  have hGl := own_lt' hown
  have hne' : P ≠ G := fun e => hne e.symm
  have hP := hide (fun (W : World) (hm' : Mod [] w W) => put64_any W B G N cap a m c v mem hv hm (by omega) (own_mod hown hm' (by simp)))
  have hB := hide h
  clear h hown
  go_enter Tryd.func57, Tryd.ntmps57
  go_upto_region 9 with (fail)
  go_cut [] (fun wx => wx.ownsRow B 5 1 (.slice (some ⟨G, 0, none⟩) N cap) N (bv (put8 mem a v)) ∧ Mod [G] w wx)
  case first =>
    go_region_with (first | (go_at_call 63; (with_reducible refine (unhide hP _ (by (repeat' (first | (with_reducible exact Mod.refl _ _) | (with_reducible assumption) | (with_reducible refine Mod.drew ?_) | (with_reducible refine Mod.drewN ?_ _) | (with_reducible refine Mod.alloc ?_ _) | (with_reducible refine Mod.setCell ?_ ?_ _) | (left; simp; done) | (right; first | omega | (simp; omega) | (simp; done)))))).mono ?_); rintro e w' ⟨rfl, ho, hm'⟩; have hm2 := Mod.trans (S := [G]) (T := [G]) (a := w) (by (repeat' (first | (with_reducible exact Mod.refl _ _) | (with_reducible assumption) | (with_reducible refine Mod.drew ?_) | (with_reducible refine Mod.drewN ?_ _) | (with_reducible refine Mod.alloc ?_ _) | (with_reducible refine Mod.setCell ?_ ?_ _) | (left; simp; done) | (right; first | omega | (simp; omega) | (simp; done))))) hm' (by simp)) | (go_at_call 66; (with_reducible refine (toLE_any _ _).mono ?_); rintro e w' ⟨rfl, rfl⟩))
    all_goals (go_wp2_with fail; go_meet; exact ⟨ho, hm2⟩)
  case rest =>
    obtain ⟨ho, hm2⟩ := hcut
    have hB2 := Blk.mod (unhide hB) hm2 (by simpa using hne')
    obtain ⟨c0, c1, c2, c3, c4⟩ := blk5 hB2
    have f0 := hB2.frozen 0
    go_wp2_with fail
    go_returns
    have r1 := b5s0 hB2 (.slice (some ⟨G, a + 8, none⟩) (m - 8) (c - 8))
    have r2 := own_S (i := 0) ho hne (.slice (some ⟨G, a + 8, none⟩) (m - 8) (c - 8))
    have r3 := (hm2.mono (T := [P, G]) (by simp)).setCell (p := ⟨P, 0, none⟩) (by simp) (.slice (some ⟨G, a + 8, none⟩) (m - 8) (c - 8))
    exact ⟨rfl, by with_reducible exact r1, by with_reducible exact r2, by with_reducible exact r3⟩
set_option maxRecDepth 100000 in
set_option maxHeartbeats 4000000 in
theorem putWs_any (w : World) (B G N cap P a m c s v : Nat) (a2 : Value) (mem : List Nat) (hs8 : s < 8) (h0 : s ≠ 0) (hs : Small mem) (hv : v < 18446744073709551616) (hl : mem.length = N) (hm : 16 ≤ m) (hmc : m ≤ c) (ha : a + m ≤ N) (hne : G ≠ P)
    (h : Blk w P 87 #[.slice (some ⟨G, a, none⟩) m c, .int .i64 s, a2, .int .u64 ((2 ^ s - 1 : Nat) : Int), .int .u64 (wordAt mem a)]) (hown : w.ownsRow B 5 1 (.slice (some ⟨G, 0, none⟩) N cap) N (bv mem)) :
    Calls Tryd.prog 57 #[.pointer (some ⟨P, 0, none⟩), .int .u64 v] w (PW w B G N cap P #[.slice (some ⟨G, a + 8, none⟩) (m - 8) (c - 8), .int .i64 s, a2, .int .u64 ((2 ^ s - 1 : Nat) : Int), .int .u64 (wordAt (putw mem a s v) (a + 8))] (putw mem a s v)) := by
  have hwn := putw_next hs a s v h0 hv (by omega)
  rw [hwn]
  have hpw : putw mem a s v = put8 (put8 mem a (mixw (2 ^ s - 1) (wordAt mem a) (rot s v))) (a + 8) (mixw (2 ^ s - 1) (rot s v) (wordAt mem (a + 8))) := by unfold putw; rw [if_neg h0]
  rw [hpw]
  clear hwn hpw
  obtain ⟨c0, c1, c2, c3, c4⟩ := blk5 h
  have hPl := h.lt
  have hGl := own_lt' hown
  have hne' : P ≠ G := fun e => hne e.symm
  have hmk : 2 ^ s - 1 < 18446744073709551616 := by
    have := pow_lt8 hs8
    omega
  have hR := hide (rot_bits s v hv)
  have hrl := rot_lt s v hv
  have hcl := wordAt_lt hs a
  have hnl := wordAt_lt hs (a + 8)
  have hX := hide (mix_bits (2 ^ s - 1) (wordAt mem a) (rot s v) hmk hcl hrl)
  have hY := hide (mix_bits' (2 ^ s - 1) (rot s v) (wordAt mem (a + 8)) hmk hrl hnl)
  have hxl := mixw_lt (2 ^ s - 1) (wordAt mem a) (rot s v) hcl hrl
  have hyl := mixw_lt (2 ^ s - 1) (rot s v) (wordAt mem (a + 8)) hrl hnl
  have hU := hide (fun (W : World) (hm' : Mod [] w W) => u64_any W G (a + 8) (m - 8) (c - 8) mem hs (by omega) (by omega) (own_rdb (own_mod hown hm' (by simp))))
  generalize mixw (2 ^ s - 1) (wordAt mem a) (rot s v) = X at *
  generalize mixw (2 ^ s - 1) (rot s v) (wordAt mem (a + 8)) = Y at *
  generalize wordAt mem a = cw at *
  generalize wordAt mem (a + 8) = nx at *
  generalize rot s v = r at *
  generalize 2 ^ s - 1 = mk at *
  have hP1 := hide (fun (W : World) (ho : W.ownsRow B 5 1 (.slice (some ⟨G, 0, none⟩) N cap) N (bv mem)) => put64_any W B G N cap a m c X mem hxl (by omega) (by omega) ho)
  have hP2 := hide (fun (W : World) (ho : W.ownsRow B 5 1 (.slice (some ⟨G, 0, none⟩) N cap) N (bv (put8 mem a X))) => put64_any W B G N cap (a + 8) (m - 8) (c - 8) Y (put8 mem a X) hyl (by omega) (by omega) ho)
  have hB := hide h
  have hO := hide hown
  have hs0 : ((s : Int) != 0) = true := by simp; omega
  clear h hown
  go_enter Tryd.func57, Tryd.ntmps57
  go_upto_region 2 with (fail)
  go_cut [1] (fun v1 wx => v1 = .int .u64 r ∧ ∃ q, wx = w.drewN q)
  case first =>
    go_quiet (fail)
    go_wp2_with fail
    go_meet
    exact ⟨by rw [unhide hR], _, rfl⟩
  case rest =>
    obtain ⟨rfl, q, rfl⟩ := hcut
    have hM1 := (Mod.refl [P, G] w).drewN q
    have hB1 := Blk.drewN (unhide hB) q
    have hO1 := own_mod (unhide hO) ((Mod.refl [] w).drewN q) (by simp)
    have hU1 := hide (fun (W : World) (hm' : Mod [] (w.drewN q) W) => unhide hU W (((Mod.refl [] w).drewN q).trans hm' (by simp)))
    clear hU hB hO c0 c1 c2 c3 c4 hPl hGl
    generalize w.drewN q = w1 at *
    obtain ⟨c0, c1, c2, c3, c4⟩ := blk5 hB1
    have KB := hide hB1
    have KO := hide hO1
    have KM := hide hM1
    clear hB1 hO1 hM1
    go_upto_region 3 with (fail)
    go_cut [5] (fun v5 wx => v5 = .int .u64 nx ∧ Mod [] w1 wx)
    case first =>
      go_region_with (first | (go_at_call 67; (with_reducible refine (unhide hU1 _ (by (repeat' (first | (with_reducible exact Mod.refl _ _) | (with_reducible assumption) | (with_reducible refine Mod.drew ?_) | (with_reducible refine Mod.drewN ?_ _) | (with_reducible refine Mod.alloc ?_ _) | (with_reducible refine Mod.setCell ?_ ?_ _) | (left; simp; done) | (right; first | omega | (simp; omega) | (simp; done)))))).mono ?_); rintro e w' ⟨rfl, hm'⟩; have hm2 := Mod.trans (S := []) (T := []) (a := w1) (by (repeat' (first | (with_reducible exact Mod.refl _ _) | (with_reducible assumption) | (with_reducible refine Mod.drew ?_) | (with_reducible refine Mod.drewN ?_ _) | (with_reducible refine Mod.alloc ?_ _) | (with_reducible refine Mod.setCell ?_ ?_ _) | (left; simp; done) | (right; first | omega | (simp; omega) | (simp; done))))) hm' (by simp)) | (go_at_call 66; (with_reducible refine (toLE_any _ _).mono ?_); rintro e w' ⟨rfl, rfl⟩))
      all_goals (go_wp2_with fail; go_meet; exact ⟨rfl, hm2⟩)
    case rest =>
      obtain ⟨rfl, hm2⟩ := hcut
      have hB2 := Blk.mod (unhide KB) hm2 (by simp)
      have hO2 := own_mod (unhide KO) hm2 (by simp)
      have hM2 := (unhide KM).trans hm2 (by simp)
      clear KB KO KM hU1 c0 c1 c2 c3 c4 hm2
      obtain ⟨c0, c1, c2, c3, c4⟩ := blk5 hB2
      have f4 := hB2.frozen 4
      have KB := hide hB2
      have KO := hide hO2
      have KM := hide hM2
      clear hB2 hO2 hM2
      go_upto_region 4 with (fail)
      go_cut [] (fun wx => Blk wx P 87 #[.slice (some ⟨G, a, none⟩) m c, .int .i64 s, a2, .int .u64 (mk : Int), .int .u64 (X : Int)] ∧ wx.ownsRow B 5 1 (.slice (some ⟨G, 0, none⟩) N cap) N (bv mem) ∧ Mod [P] wc wx)
      case first =>
        go_region
        all_goals (go_wp2_with fail; go_meet; rw [unhide hX])
        all_goals (have r1 := b5s4 (unhide KB) (.int .u64 (X : Int)); have r2 := own_S (i := 4) (unhide KO) hne (.int .u64 (X : Int)))
        all_goals exact ⟨r1.drew, own_D r2, by (repeat' (first | (with_reducible exact Mod.refl _ _) | (with_reducible assumption) | (with_reducible refine Mod.drew ?_) | (with_reducible refine Mod.drewN ?_ _) | (with_reducible refine Mod.alloc ?_ _) | (with_reducible refine Mod.setCell ?_ ?_ _) | (left; simp; done) | (right; first | omega | (simp; omega) | (simp; done))))⟩
      case rest =>
        obtain ⟨hB3, hO3, hm3⟩ := hcut
        have hM3 := (unhide KM).trans hm3 (by simp)
        clear KB KO KM c0 c1 c2 c3 c4 f4 hm3
        obtain ⟨c0, c1, c2, c3, c4⟩ := blk5 hB3
        have KB := hide hB3
        have KO := hide hO3
        have KM := hide hM3
        clear hB3 hO3 hM3
        go_upto_region 5 with (fail)
        go_cut [5] (fun v5 wx => v5 = .int .u64 Y ∧ ∃ q, wx = wc.drewN q)
        case first =>
          go_quiet (fail)
          go_wp2_with fail
          go_meet
          exact ⟨by rw [unhide hY], _, rfl⟩
        case rest =>
          obtain ⟨rfl, q2, rfl⟩ := hcut
          have hB4 := Blk.drewN (unhide KB) q2
          have hO4 := own_mod (unhide KO) ((Mod.refl [] wc).drewN q2) (by simp)
          have hM4 := (unhide KM).drewN q2
          clear KB KO KM c0 c1 c2 c3 c4
          generalize wc.drewN q2 = w4 at *
          obtain ⟨c0, c1, c2, c3, c4⟩ := blk5 hB4
          have KB := hide hB4
          have KO := hide hO4
          have KM := hide hM4
          clear hB4 hO4 hM4
          go_upto_region 6 with (fail)
          go_cut [] (fun wx => wx.ownsRow B 5 1 (.slice (some ⟨G, 0, none⟩) N cap) N (bv (put8 mem a X)) ∧ Mod [G] w4 wx)
          case first =>
            go_region_with (first | (go_at_call 63; (with_reducible refine (unhide hP1 _ (own_mod (unhide KO) (show Mod [] w4 _ from (by (repeat' (first | (with_reducible exact Mod.refl _ _) | (with_reducible assumption) | (with_reducible refine Mod.drew ?_) | (with_reducible refine Mod.drewN ?_ _) | (with_reducible refine Mod.alloc ?_ _) | (with_reducible refine Mod.setCell ?_ ?_ _) | (left; simp; done) | (right; first | omega | (simp; omega) | (simp; done)))))) (by simp))).mono ?_); rintro e w' ⟨rfl, ho, hm'⟩; have hm2 := Mod.trans (S := [G]) (T := [G]) (a := w4) (by (repeat' (first | (with_reducible exact Mod.refl _ _) | (with_reducible assumption) | (with_reducible refine Mod.drew ?_) | (with_reducible refine Mod.drewN ?_ _) | (with_reducible refine Mod.alloc ?_ _) | (with_reducible refine Mod.setCell ?_ ?_ _) | (left; simp; done) | (right; first | omega | (simp; omega) | (simp; done))))) hm' (by simp)) | (go_at_call 66; (with_reducible refine (toLE_any _ _).mono ?_); rintro e w' ⟨rfl, rfl⟩))
            all_goals (go_wp2_with fail; go_meet; exact ⟨ho, hm2⟩)
          case rest =>
            obtain ⟨hO5, hm5⟩ := hcut
            have hB5 := Blk.mod (unhide KB) hm5 (by simpa using hne')
            have hM5 := (unhide KM).trans hm5 (by simp)
            clear KB KO KM c0 c1 c2 c3 c4 hm5 hP1
            obtain ⟨c0, c1, c2, c3, c4⟩ := blk5 hB5
            have KB := hide hB5
            have KO := hide hO5
            have KM := hide hM5
            clear hB5 hO5 hM5
            go_upto_region 7 with (fail)
            go_cut [] (fun wx => wx.ownsRow B 5 1 (.slice (some ⟨G, 0, none⟩) N cap) N (bv (put8 (put8 mem a X) (a + 8) Y)) ∧ Mod [G] wc wx)
            case first =>
              go_region_with (first | (go_at_call 63; (with_reducible refine (unhide hP2 _ (own_mod (unhide KO) (show Mod [] wc _ from (by (repeat' (first | (with_reducible exact Mod.refl _ _) | (with_reducible assumption) | (with_reducible refine Mod.drew ?_) | (with_reducible refine Mod.drewN ?_ _) | (with_reducible refine Mod.alloc ?_ _) | (with_reducible refine Mod.setCell ?_ ?_ _) | (left; simp; done) | (right; first | omega | (simp; omega) | (simp; done)))))) (by simp))).mono ?_); rintro e w' ⟨rfl, ho, hm'⟩; have hm2 := Mod.trans (S := [G]) (T := [G]) (a := wc) (by (repeat' (first | (with_reducible exact Mod.refl _ _) | (with_reducible assumption) | (with_reducible refine Mod.drew ?_) | (with_reducible refine Mod.drewN ?_ _) | (with_reducible refine Mod.alloc ?_ _) | (with_reducible refine Mod.setCell ?_ ?_ _) | (left; simp; done) | (right; first | omega | (simp; omega) | (simp; done))))) hm' (by simp)) | (go_at_call 66; (with_reducible refine (toLE_any _ _).mono ?_); rintro e w' ⟨rfl, rfl⟩))
              all_goals (go_wp2_with fail; go_meet; exact ⟨ho, hm2⟩)
            case rest =>
              obtain ⟨hO6, hm6⟩ := hcut
              have hB6 := Blk.mod (unhide KB) hm6 (by simpa using hne')
              have hM6 := (unhide KM).trans hm6 (by simp)
              clear KB KO KM c0 c1 c2 c3 c4 hm6 hP2
              obtain ⟨c0, c1, c2, c3, c4⟩ := blk5 hB6
              have f0 := hB6.frozen 0
              have f4 := hB6.frozen 4
              go_wp2_with fail
              go_returns
              have r1 := b5s0 (b5s4 hB6 (.int .u64 (Y : Int))) (.slice (some ⟨G, a + 8, none⟩) (m - 8) (c - 8))
              have r2 := own_S (i := 0) (own_S (i := 4) hO6 hne (.int .u64 (Y : Int))) hne (.slice (some ⟨G, a + 8, none⟩) (m - 8) (c - 8))
              have r3 := (hM6.setCell (p := ⟨P, 4, none⟩) (by simp) (.int .u64 (Y : Int))).setCell (p := ⟨P, 0, none⟩) (by simp) (.slice (some ⟨G, a + 8, none⟩) (m - 8) (c - 8))
              exact ⟨rfl, by with_reducible exact r1, by with_reducible exact r2, by with_reducible exact r3⟩
end Go.Proofs.YtjfbojmeccdchaaDoor
