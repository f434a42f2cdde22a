/- The word reader is made. (YtcjjajbpjfamfaaDoor) -/
import Derived.Test.YtcjjajbpjfamfaaDoorX7
set_option linter.unusedVariables false
set_option linter.unusedSimpArgs false
namespace Go.Proofs.YtcjjajbpjfamfaaDoor
open Go.ChangeShapes Go.WideShapes Go.ChangeAt Go.RowKit
theorem wordAt_mod {d : List Nat} (h : Small d) (a : Nat) (ha : a + 8 ≤ d.length) : wordAt d a % 256 = d.getD a 0 := by
  apply byte_ext (Nat.mod_lt _ (by decide)) (h.get _)
  intro k hk
  have e : (256 : Nat) = 2 ^ 8 := rfl
  rw [e, Nat.testBit_mod_two_pow, decide_eq_true hk, Bool.true_and, wordAt_tb h a k (by omega) ha]
  unfold bitAt
  have e1 : (8 * a + k) / 8 = a := by omega
  have e2 : (8 * a + k) % 8 = k := by omega
  rw [e1, e2]
theorem blk6_eq {w : World} {P : Nat} {t : TypeId} {a0 : Value} {x1 x2 x3 x4 x5 y1 y2 y3 y4 y5 : Int} (h : Blk w P t #[a0, .int .i64 x1, .int .i64 x2, .int .i64 x3, .int .i64 x4, .int .u64 x5]) (e1 : x1 = y1) (e2 : x2 = y2) (e3 : x3 = y3) (e4 : x4 = y4) (e5 : x5 = y5) : Blk w P t #[a0, .int .i64 y1, .int .i64 y2, .int .i64 y3, .int .i64 y4, .int .u64 y5] := by subst e1 e2 e3 e4 e5; exact h
set_option maxRecDepth 100000 in
set_option maxHeartbeats 2000000 in
theorem newWR_any (w : World) (G o n c f len : Nat) (d : List Nat) (hs : Small d) (h0 : 0 < len) (hl : len < 65536) (hf : f < 65536) (hn : f / 8 + (f % 8 + len + 7) / 8 ≤ n) (hnc : n ≤ c) (ho : o + f / 8 + (f % 8 + len + 7) / 8 ≤ d.length) (hr : Rdb w G d) :
    Calls Tryd.prog 24 #[.slice (some ⟨G, o, none⟩) n c, .int .i64 f, .int .i64 len] w fun e w' => ∃ (P cw : Nat), e = .returned (.pointer (some ⟨P, 0, none⟩)) ∧ w.heap.size ≤ P ∧ Mod [] w w' ∧ cw < 18446744073709551616 ∧
      Blk w' P 60 #[.slice (some ⟨G, o + f / 8, none⟩) ((f % 8 + len + 7) / 8) (c - f / 8), .int .i64 ((f % 8 : Nat) : Int), .int .i64 ((len / 64 - 1 : Nat) : Int), .int .i64 ((len - 64 * (len / 64 - 1) : Nat) : Int), .int .i64 (((len - 64 * (len / 64 - 1) + 7) / 8 : Nat) : Int), .int .u64 cw] ∧
      (0 < len / 64 - 1 → cw = wordAt d (o + f / 8)) ∧ cw % 256 = d.getD (o + f / 8) 0 := by
  have hBF := hide (fun (W : World) => bfb_i W ((f : Int) % 8 + len) (f % 8 + len) (by omega) (by omega))
  generalize hnb : (f % 8 + len + 7) / 8 = nb at *
  by_cases hw : 128 ≤ len
  · have e1 : ¬ (len : Int) / 64 - 1 < 0 := by omega
    have e2 : (0 : Int) < (len : Int) / 64 - 1 := by omega
    go_enter Tryd.func24, Tryd.ntmps24
    go_upto_region 9 with (first | (go_at_call 19; (with_reducible refine (unhide hBF _).mono ?_); rintro e w' ⟨rfl, rfl⟩) | (go_at_call 19; (with_reducible refine (bfb_i _ _ (len - 64 * (len / 64 - 1)) (by omega) (by omega)).mono ?_); rintro e w' ⟨rfl, rfl⟩))
    have k0 := Blk.new (w := w) (g := w.heap.size) 60 #[.slice (some ⟨G, o + f / 8, none⟩) nb (c - f / 8), .int .i64 ((f : Int) % 8), .int .i64 ((len : Int) / 64 - 1), .int .i64 ((len : Int) - ((len : Int) / 64 - 1) * 8 * 8), .int .i64 ((((len - 64 * (len / 64 - 1) : Nat) : Int) + 7) / 8), .int .u64 0] rfl
    have m0 := (Mod.refl [] w).alloc (.cells #[.slice (some ⟨G, o + f / 8, none⟩) nb (c - f / 8), .int .i64 ((f : Int) % 8), .int .i64 ((len : Int) / 64 - 1), .int .i64 ((len : Int) - ((len : Int) / 64 - 1) * 8 * 8), .int .i64 ((((len - 64 * (len / 64 - 1) : Nat) : Int) + 7) / 8), .int .u64 0] 60)
    have r1 := hr.mod m0 (by simp)
    generalize hsz : w.heap.size = P at *
    generalize w.alloc (.cells #[.slice (some ⟨G, o + f / 8, none⟩) nb (c - f / 8), .int .i64 ((f : Int) % 8), .int .i64 ((len : Int) / 64 - 1), .int .i64 ((len : Int) - ((len : Int) / 64 - 1) * 8 * 8), .int .i64 ((((len - 64 * (len / 64 - 1) : Nat) : Int) + 7) / 8), .int .u64 0] 60) = w1 at *
    obtain ⟨c0, c1, c2, c3, c4, c5⟩ := blk6 k0
    have f5 := k0.frozen 5
    have hU := hide (fun (W : World) (hm' : Mod [] w1 W) => u64_any W G (o + f / 8) nb (c - f / 8) d hs (by omega) (by omega) (r1.mod hm' (by simp)))
    have hk := hide k0
    have hm0 := hide m0
    clear k0 m0 r1 hr
    go_cut [] (fun wx => Blk wx P 60 #[.slice (some ⟨G, o + f / 8, none⟩) nb (c - f / 8), .int .i64 ((f : Int) % 8), .int .i64 ((len : Int) / 64 - 1), .int .i64 ((len : Int) - ((len : Int) / 64 - 1) * 8 * 8), .int .i64 ((((len - 64 * (len / 64 - 1) : Nat) : Int) + 7) / 8), .int .u64 (wordAt d (o + f / 8) : Int)] ∧ Mod [P] w1 wx)
    case first =>
      go_region_with (first | (go_at_call 33; (with_reducible refine (unhide hU _ (by (repeat' (first | (with_reducible exact Mod.refl _ _) | (with_reducible assumption) | (with_reducible refine Mod.drew ?_) | (with_reducible refine Mod.drewN ?_ _) | (with_reducible refine Mod.alloc ?_ _) | (with_reducible refine Mod.setCell ?_ ?_ _) | (left; simp; done) | (right; first | omega | (simp; omega) | (simp; done)))))).mono ?_); rintro e w' ⟨rfl, hm'⟩; have hm2 := Mod.trans (S := []) (T := []) (a := w1) (by (repeat' (first | (with_reducible exact Mod.refl _ _) | (with_reducible assumption) | (with_reducible refine Mod.drew ?_) | (with_reducible refine Mod.drewN ?_ _) | (with_reducible refine Mod.alloc ?_ _) | (with_reducible refine Mod.setCell ?_ ?_ _) | (left; simp; done) | (right; first | omega | (simp; omega) | (simp; done))))) hm' (by simp); have hb2 := (unhide hk).mod hm2 (by simp); have hm3 := hm2.any [P]; obtain ⟨x0, x1, x2, x3, x4, x5⟩ := blk6 hb2; have g5 := hb2.frozen 5) | (go_at_call 32; (with_reducible refine (toLE_any _ _).mono ?_); rintro e w' ⟨rfl, rfl⟩))
      all_goals (go_wp2_with fail; go_meet; refine ⟨?_, ?_⟩)
      all_goals first | (with_reducible exact b6s5 hb2 _) | (with_reducible exact (b6s5 hb2 _).drew) | ((repeat' (first | (with_reducible exact Mod.refl _ _) | (with_reducible assumption) | (with_reducible refine Mod.drew ?_) | (with_reducible refine Mod.drewN ?_ _) | (with_reducible refine Mod.alloc ?_ _) | (with_reducible refine Mod.setCell ?_ ?_ _) | (left; simp; done) | (right; first | omega | (simp; omega) | (simp; done)))))
    case rest =>
      obtain ⟨hB, hM⟩ := hcut
      go_wp2_with fail
      go_ret
      refine ⟨P, wordAt d (o + f / 8), rfl, by omega, (unhide hm0).trans hM (by simp; omega), wordAt_lt hs _, ?_, fun _ => rfl, wordAt_mod hs _ (by omega)⟩
      exact blk6_eq hB (by omega) (by omega) (by omega) (by omega) rfl
  · by_cases hw2 : 64 ≤ len
    · have e1 : ¬ (len : Int) / 64 - 1 < 0 := by omega
      have e2 : ¬ (0 : Int) < (len : Int) / 64 - 1 := by omega
      go_enter Tryd.func24, Tryd.ntmps24
      go_upto_region 11 with (first | (go_at_call 19; (with_reducible refine (unhide hBF _).mono ?_); rintro e w' ⟨rfl, rfl⟩) | (go_at_call 19; (with_reducible refine (bfb_i _ _ (len - 64 * (len / 64 - 1)) (by omega) (by omega)).mono ?_); rintro e w' ⟨rfl, rfl⟩))
      have k0 := Blk.new (w := w) (g := w.heap.size) 60 #[.slice (some ⟨G, o + f / 8, none⟩) nb (c - f / 8), .int .i64 ((f : Int) % 8), .int .i64 ((len : Int) / 64 - 1), .int .i64 ((len : Int) - ((len : Int) / 64 - 1) * 8 * 8), .int .i64 ((((len - 64 * (len / 64 - 1) : Nat) : Int) + 7) / 8), .int .u64 0] rfl
      have m0 := (Mod.refl [] w).alloc (.cells #[.slice (some ⟨G, o + f / 8, none⟩) nb (c - f / 8), .int .i64 ((f : Int) % 8), .int .i64 ((len : Int) / 64 - 1), .int .i64 ((len : Int) - ((len : Int) / 64 - 1) * 8 * 8), .int .i64 ((((len - 64 * (len / 64 - 1) : Nat) : Int) + 7) / 8), .int .u64 0] 60)
      have r1 := hr.mod m0 (by simp)
      generalize hsz : w.heap.size = P at *
      generalize w.alloc (.cells #[.slice (some ⟨G, o + f / 8, none⟩) nb (c - f / 8), .int .i64 ((f : Int) % 8), .int .i64 ((len : Int) / 64 - 1), .int .i64 ((len : Int) - ((len : Int) / 64 - 1) * 8 * 8), .int .i64 ((((len - 64 * (len / 64 - 1) : Nat) : Int) + 7) / 8), .int .u64 0] 60) = w1 at *
      have hx := r1 (o + f / 8) (by omega)
      have hb8 := hs.get (o + f / 8)
      generalize hbb : d.getD (o + f / 8) 0 = b at *
      obtain ⟨c0, c1, c2, c3, c4, c5⟩ := blk6 k0
      have f5 := k0.frozen 5
      have hk := hide k0
      have hm0 := hide m0
      clear k0 m0 r1 hr
      go_cut [] (fun wx => Blk wx P 60 #[.slice (some ⟨G, o + f / 8, none⟩) nb (c - f / 8), .int .i64 ((f : Int) % 8), .int .i64 ((len : Int) / 64 - 1), .int .i64 ((len : Int) - ((len : Int) / 64 - 1) * 8 * 8), .int .i64 ((((len - 64 * (len / 64 - 1) : Nat) : Int) + 7) / 8), .int .u64 ((lsb 0 b : Nat) : Int)] ∧ Mod [P] w1 wx)
      case first =>
        go_region_with (first | (go_at_call 34; (with_reducible refine (setLSB_any _ _ 5 0 b (by decide) hb8 ?_ ?_).mono ?_); exact c5; exact f5; rintro e w' ⟨rfl, rfl⟩))
        all_goals (go_wp2_with fail; go_meet; refine ⟨?_, ?_⟩)
        all_goals first | (with_reducible exact b6s5 (unhide hk) _) | (with_reducible exact (b6s5 (unhide hk) _).drew) | ((repeat' (first | (with_reducible exact Mod.refl _ _) | (with_reducible assumption) | (with_reducible refine Mod.drew ?_) | (with_reducible refine Mod.drewN ?_ _) | (with_reducible refine Mod.alloc ?_ _) | (with_reducible refine Mod.setCell ?_ ?_ _) | (left; simp; done) | (right; first | omega | (simp; omega) | (simp; done))))) | (exact (b6s5 (unhide hk).drew _).cast (by simp [lsb]))
      case rest =>
        obtain ⟨hB, hM⟩ := hcut
        go_wp2_with fail
        go_ret
        refine ⟨P, b, rfl, by omega, (unhide hm0).trans hM (by simp; omega), by omega, ?_, fun h => by omega, by rw [hbb]; omega⟩
        exact blk6_eq hB (by omega) (by omega) (by omega) (by omega) (by simp [lsb])
    · have e1 : (len : Int) / 64 - 1 < 0 := by omega
      go_enter Tryd.func24, Tryd.ntmps24
      go_upto_region 11 with (first | (go_at_call 19; (with_reducible refine (unhide hBF _).mono ?_); rintro e w' ⟨rfl, rfl⟩) | (go_at_call 19; (with_reducible refine (bfb_i _ _ (len - 64 * (len / 64 - 1)) (by omega) (by omega)).mono ?_); rintro e w' ⟨rfl, rfl⟩))
      have k0 := Blk.new (w := w) (g := w.heap.size) 60 #[.slice (some ⟨G, o + f / 8, none⟩) nb (c - f / 8), .int .i64 ((f : Int) % 8), .int .i64 0, .int .i64 (len : Int), .int .i64 ((((len - 64 * (len / 64 - 1) : Nat) : Int) + 7) / 8), .int .u64 0] rfl
      have m0 := (Mod.refl [] w).alloc (.cells #[.slice (some ⟨G, o + f / 8, none⟩) nb (c - f / 8), .int .i64 ((f : Int) % 8), .int .i64 0, .int .i64 (len : Int), .int .i64 ((((len - 64 * (len / 64 - 1) : Nat) : Int) + 7) / 8), .int .u64 0] 60)
      have r1 := hr.mod m0 (by simp)
      generalize hsz : w.heap.size = P at *
      generalize w.alloc (.cells #[.slice (some ⟨G, o + f / 8, none⟩) nb (c - f / 8), .int .i64 ((f : Int) % 8), .int .i64 0, .int .i64 (len : Int), .int .i64 ((((len - 64 * (len / 64 - 1) : Nat) : Int) + 7) / 8), .int .u64 0] 60) = w1 at *
      have hx := r1 (o + f / 8) (by omega)
      have hb8 := hs.get (o + f / 8)
      generalize hbb : d.getD (o + f / 8) 0 = b at *
      obtain ⟨c0, c1, c2, c3, c4, c5⟩ := blk6 k0
      have f5 := k0.frozen 5
      have hk := hide k0
      have hm0 := hide m0
      clear k0 m0 r1 hr
      go_cut [] (fun wx => Blk wx P 60 #[.slice (some ⟨G, o + f / 8, none⟩) nb (c - f / 8), .int .i64 ((f : Int) % 8), .int .i64 0, .int .i64 (len : Int), .int .i64 ((((len - 64 * (len / 64 - 1) : Nat) : Int) + 7) / 8), .int .u64 ((lsb 0 b : Nat) : Int)] ∧ Mod [P] w1 wx)
      case first =>
        go_region_with (first | (go_at_call 34; (with_reducible refine (setLSB_any _ _ 5 0 b (by decide) hb8 ?_ ?_).mono ?_); exact c5; exact f5; rintro e w' ⟨rfl, rfl⟩))
        all_goals (go_wp2_with fail; go_meet; refine ⟨?_, ?_⟩)
        all_goals first | (with_reducible exact b6s5 (unhide hk) _) | (with_reducible exact (b6s5 (unhide hk) _).drew) | ((repeat' (first | (with_reducible exact Mod.refl _ _) | (with_reducible assumption) | (with_reducible refine Mod.drew ?_) | (with_reducible refine Mod.drewN ?_ _) | (with_reducible refine Mod.alloc ?_ _) | (with_reducible refine Mod.setCell ?_ ?_ _) | (left; simp; done) | (right; first | omega | (simp; omega) | (simp; done))))) | (exact (b6s5 (unhide hk).drew _).cast (by simp [lsb]))
      case rest =>
        obtain ⟨hB, hM⟩ := hcut
        go_wp2_with fail
        go_ret
        refine ⟨P, b, rfl, by omega, (unhide hm0).trans hM (by simp; omega), by omega, ?_, fun h => by omega, by rw [hbb]; omega⟩
        exact blk6_eq hB (by omega) (by omega) (by omega) (by omega) (by simp [lsb])
end Go.Proofs.YtcjjajbpjfamfaaDoor
