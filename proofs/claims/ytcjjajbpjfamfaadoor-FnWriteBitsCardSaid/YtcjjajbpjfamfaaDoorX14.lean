/- The word writer: a byte behind the last word: the walk. (YtcjjajbpjfamfaaDoor) -/
import Derived.Test.YtcjjajbpjfamfaaDoorX13
set_option linter.unusedVariables false
set_option linter.unusedSimpArgs false
namespace Go.Proofs.YtcjjajbpjfamfaaDoor
open Go.ChangeShapes Go.WideShapes Go.ChangeAt Go.RowKit
set_option maxRecDepth 100000 in
set_option maxHeartbeats 4000000 in
theorem putT0_any (w : World) (B G N cap P a m c v cw : Nat) (a2 a3 : Value) (mem : List Nat) (hv : v < 256) (hcw : cw < 18446744073709551616) (hm : 1 ≤ m) (hmc : m ≤ c) (ha : a + m ≤ N) (hne : G ≠ P)
    (h : Blk w P 68 #[.slice (some ⟨G, a, none⟩) m c, .int .i64 0, a2, a3, .int .u64 cw]) (hown : w.ownsRow B 5 1 (.slice (some ⟨G, 0, none⟩) N cap) N (bv mem)) :
    Calls Tryd.prog 31 #[.pointer (some ⟨P, 0, none⟩), .int .u8 v, .int .i64 8] w fun e w' => e = .returned (.tuple #[]) ∧ (1 < c → Blk w' P 68 #[.slice (some ⟨G, a + 1, none⟩) (m - 1) (c - 1), .int .i64 0, a2, a3, .int .u64 cw]) ∧ w'.ownsRow B 5 1 (.slice (some ⟨G, 0, none⟩) N cap) N (bv (mem.set a v)) ∧ Mod [P, G] w w' := by
  obtain ⟨c0, c1, c2, c3, c4⟩ := blk5 h
  have f0 := h.frozen 0
  have g0 := own_cell hown a (by omega)
  have gf := own_frozen hown a
  have hPl := h.lt
  have hGl := own_lt' hown
  have hne' : P ≠ G := fun e => hne e.symm
  have hm0 : (0 : Int) < (m : Int) := by omega
  have h1 := h.other (a := ⟨G, a, none⟩) hne' (.int .u8 v)
  have o1 := own_set hown a v (by omega)
  have m1 := (Mod.refl [P, G] w).setCell (p := ⟨G, a, none⟩) (by simp) (.int .u8 v)
  have hB := hide h1
  have hO := hide o1
  have hM := hide m1
  clear h hown h1 o1 m1
  by_cases hc : c = 1
  · obtain rfl : m = 1 := by omega
    subst hc
    go_enter Tryd.func31, Tryd.ntmps31
    go_wp2_with (first | (go_at_call 40; (with_reducible refine (getLSB_any _ _ hcw).mono ?_); rintro e w' ⟨rfl, rfl⟩))
    go_returns
    have r2 := own_S (i := 0) (unhide hO) hne (.slice (some ⟨G, a, none⟩) 0 0)
    have r3 := (unhide hM).setCell (p := ⟨P, 0, none⟩) (by simp) (.slice (some ⟨G, a, none⟩) 0 0)
    exact ⟨rfl, fun h => by omega, by with_reducible exact r2, by with_reducible exact r3⟩
  · go_enter Tryd.func31, Tryd.ntmps31
    go_wp2_with (first | (go_at_call 40; (with_reducible refine (getLSB_any _ _ hcw).mono ?_); rintro e w' ⟨rfl, rfl⟩))
    go_returns
    have r1 := b5s0 (unhide hB) (.slice (some ⟨G, a + 1, none⟩) (m - 1) (c - 1))
    have r2 := own_S (i := 0) (unhide hO) hne (.slice (some ⟨G, a + 1, none⟩) (m - 1) (c - 1))
    have r3 := (unhide hM).setCell (p := ⟨P, 0, none⟩) (by simp) (.slice (some ⟨G, a + 1, none⟩) (m - 1) (c - 1))
    exact ⟨rfl, fun _ => by with_reducible exact r1, by with_reducible exact r2, by with_reducible exact r3⟩
set_option maxRecDepth 100000 in
set_option maxHeartbeats 4000000 in
theorem putTs_any (w : World) (B G N cap P a m c s v cw : Nat) (a2 : Value) (mem : List Nat) (hs8 : s < 8) (h0 : s ≠ 0) (hs : Small mem) (hv : v < 256) (hcw : cw < 18446744073709551616) (hcm : cw % 256 = mem.getD a 0) (hm : 2 ≤ m) (hmc : m ≤ c) (ha : a + m ≤ N) (hne : G ≠ P)
    (h : Blk w P 68 #[.slice (some ⟨G, a, none⟩) m c, .int .i64 s, a2, .int .u64 ((2 ^ s - 1 : Nat) : Int), .int .u64 cw]) (hown : w.ownsRow B 5 1 (.slice (some ⟨G, 0, none⟩) N cap) N (bv mem)) :
    Calls Tryd.prog 31 #[.pointer (some ⟨P, 0, none⟩), .int .u8 v, .int .i64 8] w fun e w' => e = .returned (.tuple #[]) ∧ Blk w' P 68 #[.slice (some ⟨G, a + 1, none⟩) (m - 1) (c - 1), .int .i64 s, a2, .int .u64 ((2 ^ s - 1 : Nat) : Int), .int .u64 (mixb (2 ^ s - 1) (rotb s v) (mem.getD (a + 1) 0) : Int)] ∧ w'.ownsRow B 5 1 (.slice (some ⟨G, 0, none⟩) N cap) N (bv (putb mem a s v)) ∧ Mod [P, G] w w' := by
  obtain ⟨c0, c1, c2, c3, c4⟩ := blk5 h
  have f0 := h.frozen 0
  have f4 := h.frozen 4
  have g0 := own_cell hown a (by omega)
  have g1 := own_cell hown (a + 1) (by omega)
  have gf := own_frozen hown a
  have gf1 := own_frozen hown (a + 1)
  have hPl := h.lt
  have hGl := own_lt' hown
  have hne' : P ≠ G := fun e => hne e.symm
  have hm0 : (1 : Int) < (m : Int) := by omega
  have hmm0 : 0 < m := by omega
  have hmk : 2 ^ s - 1 < 256 := by
    have := pow_lt8 hs8
    omega
  have hpb : putb mem a s v = (mem.set a (mixb (2 ^ s - 1) (cw % 256) (rotb s v))).set (a + 1) (mixb (2 ^ s - 1) (rotb s v) (mem.getD (a + 1) 0)) := by unfold putb; rw [if_neg h0, hcm]
  rw [hpb]
  have hx8 : cw % 256 < 256 := Nat.mod_lt _ (by decide)
  have hy8 := hs.get (a + 1)
  have hr8 := rotb_lt s v hv
  have hR := rotb_bits s v hv
  rw [show IntKind.u8.wrap ((v : Int) * 2 ^ s) = (v : Int) * 2 ^ s % 256 by simp [IntKind.wrap, IntKind.bits, IntKind.signed]] at hR
  have hR := hide hR
  have hX := mixb_bits (2 ^ s - 1) (cw % 256) (rotb s v) hmk hx8 hr8
  have ecw : ((cw % 256 : Nat) : Int) = (cw : Int) % 256 := by omega
  rw [ecw] at hX
  have hX := hide hX
  have hY := hide (mixb_bits' (2 ^ s - 1) (rotb s v) (mem.getD (a + 1) 0) hmk hr8 hy8)
  have hX8 := mixb_lt (2 ^ s - 1) (cw % 256) (rotb s v) hx8 hr8
  have hY8 := mixb_lt (2 ^ s - 1) (rotb s v) (mem.getD (a + 1) 0) hr8 hy8
  generalize mixb (2 ^ s - 1) (cw % 256) (rotb s v) = X at *
  generalize mixb (2 ^ s - 1) (rotb s v) (mem.getD (a + 1) 0) = Y at *
  generalize mem.getD (a + 1) 0 = y at *
  generalize mem.getD a 0 = x0 at *
  generalize rotb s v = r at *
  generalize 2 ^ s - 1 = mk at *
  have hs0 : ((s : Int) != 0) = true := by simp; omega
  have hmkb : (mk : Int) % 256 = (mk : Int) := by omega
  have hB := hide h
  have hO := hide hown
  clear h hown hcm hpb
  go_enter Tryd.func31, Tryd.ntmps31
  go_upto_region 3 with (first | (go_at_call 40; (with_reducible refine (getLSB_any _ _ hcw).mono ?_); rintro e w' ⟨rfl, rfl⟩))
  go_cut [1] (fun v1 wx => v1 = .int .u8 r ∧ ∃ q, wx = w.drewN q)
  case first =>
    go_quiet (fail)
    go_wp2_with fail
    go_meet
    exact ⟨by first | rfl | rw [unhide hR], _, rfl⟩
  case rest =>
    obtain ⟨rfl, q, rfl⟩ := hcut
    have hB4 := Blk.drewN (unhide hB) q
    have hO4 := own_mod (unhide hO) ((Mod.refl [] w).drewN q) (by simp)
    have hM4 := (Mod.refl [P, G] w).drewN q
    have g1 : (w.drewN q).cell? ⟨G, a + 1, none⟩ = some (.int .u8 y) := g1
    clear hB hO c0 c1 c2 c3 c4 g0 gf gf1 f0 f4
    generalize w.drewN q = w4 at *
    obtain ⟨c0, c1, c2, c3, c4⟩ := blk5 hB4
    have KB := hide hB4
    have KO := hide hO4
    have KM := hide hM4
    clear hB4 hO4 hM4
    go_upto_region 5 with (fail)
    go_cut [6] (fun v6 wx => v6 = .int .u8 X ∧ ∃ q, wx = w4.drewN q)
    case first =>
      go_quiet (fail)
      go_wp2_with fail
      go_meet
      exact ⟨by first | rfl | rw [unhide hX] | rw [hmkb, unhide hX], _, rfl⟩
    case rest =>
      obtain ⟨rfl, q2, rfl⟩ := hcut
      have hB4 := Blk.drewN (unhide KB) q2
      have hO4 := own_mod (unhide KO) ((Mod.refl [] w4).drewN q2) (by simp)
      have hM4 := (unhide KM).drewN q2
      clear KB KO KM c0 c1 c2 c3 c4 g1
      generalize w4.drewN q2 = w5 at *
      obtain ⟨c0, c1, c2, c3, c4⟩ := blk5 hB4
      have KB := hide hB4
      have KO := hide hO4
      have KM := hide hM4
      clear hB4 hO4 hM4
      go_upto_region 6 with (fail)
      go_cut [7] (fun v7 wx => v7 = .int .u8 Y ∧ ∃ q, wx = w5.drewN q)
      case first =>
        go_quiet (fail)
        go_wp2_with fail
        go_meet
        exact ⟨by first | rfl | rw [unhide hY] | rw [hmkb, unhide hY], _, rfl⟩
      case rest =>
        obtain ⟨rfl, q3, rfl⟩ := hcut
        have hB4 := Blk.drewN (unhide KB) q3
        have hO4 := own_mod (unhide KO) ((Mod.refl [] w5).drewN q3) (by simp)
        have hM4 := (unhide KM).drewN q3
        clear KB KO KM c0 c1 c2 c3 c4
        generalize w5.drewN q3 = w6 at *
        obtain ⟨c0, c1, c2, c3, c4⟩ := blk5 hB4
        have f0 := hB4.frozen 0
        have f4 := hB4.frozen 4
        have gf := own_frozen hO4 a
        have gf1 := own_frozen hO4 (a + 1)
        have g0 := own_cell hO4 a (by omega)
        have g1 := own_cell hO4 (a + 1) (by omega)
        have r1 := b5s0 (b5s4 ((hB4.other (a := ⟨G, a, none⟩) hne' (.int .u8 X)).other (a := ⟨G, a + 1, none⟩) hne' (.int .u8 Y)) (.int .u64 (Y : Int))) (.slice (some ⟨G, a + 1, none⟩) (m - 1) (c - 1))
        have r2 := own_S (i := 0) (own_S (i := 4) (own_set (own_set hO4 a X (by omega)) (a + 1) Y (by omega)) hne (.int .u64 (Y : Int))) hne (.slice (some ⟨G, a + 1, none⟩) (m - 1) (c - 1))
        have r3 := (((hM4.setCell (p := ⟨G, a, none⟩) (by simp) (.int .u8 X)).setCell (p := ⟨G, a + 1, none⟩) (by simp) (.int .u8 Y)).setCell (p := ⟨P, 4, none⟩) (by simp) (.int .u64 (Y : Int))).setCell (p := ⟨P, 0, none⟩) (by simp) (.slice (some ⟨G, a + 1, none⟩) (m - 1) (c - 1))
        have r1 := hide r1
        have r2 := hide r2
        have r3 := hide r3
        clear hB4 hO4 hM4
        go_wp2_with fail
        go_returns
        exact ⟨rfl, by with_reducible exact unhide r1, by with_reducible exact unhide r2, by with_reducible exact unhide r3⟩
end Go.Proofs.YtcjjajbpjfamfaaDoor
