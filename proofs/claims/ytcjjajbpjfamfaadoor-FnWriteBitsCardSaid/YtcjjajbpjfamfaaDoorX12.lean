/- The word writer is made. (YtcjjajbpjfamfaaDoor) -/
import Derived.Test.YtcjjajbpjfamfaaDoorX10
import Derived.Test.YtcjjajbpjfamfaaDoorX9
set_option linter.unusedVariables false
set_option linter.unusedSimpArgs false
namespace Go.Proofs.YtcjjajbpjfamfaaDoor
open Go.ChangeShapes Go.WideShapes Go.ChangeAt Go.RowKit
theorem msk_bits {s : Nat} (hs : s < 8) : IntKind.u64.wrap (IntKind.u64.wrap ((2 : Int) ^ s) - 1) = ((2 ^ s - 1 : Nat) : Int) := by
  rcases (by omega : s = 0 ∨ s = 1 ∨ s = 2 ∨ s = 3 ∨ s = 4 ∨ s = 5 ∨ s = 6 ∨ s = 7) with rfl | rfl | rfl | rfl | rfl | rfl | rfl | rfl <;> decide
theorem blk5_eq {w : World} {P : Nat} {t : TypeId} {a0 a2 : Value} {x1 x3 x4 y1 y3 y4 : Int} (h : Blk w P t #[a0, .int .i64 x1, a2, .int .u64 x3, .int .u64 x4]) (e1 : x1 = y1) (e3 : x3 = y3) (e4 : x4 = y4) : Blk w P t #[a0, .int .i64 y1, a2, .int .u64 y3, .int .u64 y4] := by subst e1 e3 e4; exact h
set_option maxRecDepth 100000 in
set_option maxHeartbeats 2000000 in
theorem newWW_any (w : World) (B G N cap o n c f len : Nat) (mem : List Nat) (hs : Small mem) (hl : mem.length = N) (h0 : 0 < len) (hlen : len < 65536) (hf : f < 65536) (hfl : f + len ≤ 8 * n) (hnc : n ≤ c) (hoN : o + n ≤ N) (hown : w.ownsRow B 5 1 (.slice (some ⟨G, 0, none⟩) N cap) N (bv mem)) :
    Calls Tryd.prog 25 #[.slice (some ⟨G, o, none⟩) n c, .int .i64 f, .int .i64 len] w fun e w' => ∃ (P cw : Nat), e = .returned (.pointer (some ⟨P, 0, none⟩)) ∧ w.heap.size ≤ P ∧ Mod [] w w' ∧ cw < 18446744073709551616 ∧
      Blk w' P 68 #[.slice (some ⟨G, o + f / 8, none⟩) (n - f / 8) (c - f / 8), .int .i64 ((f % 8 : Nat) : Int), .int .i64 len, .int .u64 ((2 ^ (f % 8) - 1 : Nat) : Int), .int .u64 cw] ∧
      (f % 8 ≠ 0 → 64 ≤ len → cw = wordAt mem (o + f / 8)) ∧ (f % 8 ≠ 0 → cw % 256 = mem.getD (o + f / 8) 0) := by
  have hGl := own_lt' hown
  have HM := hide (msk_bits (show f % 8 < 8 by omega))
  by_cases hz : f % 8 = 0
  · have e0 : (f : Int) % 8 = 0 := by omega
    go_enter Tryd.func25, Tryd.ntmps25
    go_wp2_with fail
    go_ret
    have k0 := Blk.new (w := w) (g := w.heap.size) 68 #[.slice (some ⟨G, o + f / 8, none⟩) (n - f / 8) (c - f / 8), .int .i64 0, .int .i64 len, .int .u64 0, .int .u64 0] rfl
    refine ⟨w.heap.size, 0, rfl, Nat.le_refl _, by (repeat' (first | (with_reducible exact Mod.refl _ _) | (with_reducible assumption) | (with_reducible refine Mod.drew ?_) | (with_reducible refine Mod.drewN ?_ _) | (with_reducible refine Mod.alloc ?_ _) | (with_reducible refine Mod.setCell ?_ ?_ _) | (left; simp; done) | (right; first | omega | (simp; omega) | (simp; done)))), by decide, ?_, fun h => absurd hz h, fun h => absurd hz h⟩
    exact blk5_eq k0 (by omega) (by rw [hz]; rfl) rfl
  · have e0 : ((f : Int) % 8 != 0) = true := by simp; omega
    by_cases hw : 64 ≤ len
    · have e1 : (64 : Int) ≤ (len : Int) := by omega
      go_enter Tryd.func25, Tryd.ntmps25
      go_upto_region 4 with (fail)
      have k0 := Blk.new (w := w) (g := w.heap.size) 68 #[.slice (some ⟨G, o + f / 8, none⟩) (n - f / 8) (c - f / 8), .int .i64 ((f : Int) % 8), .int .i64 len, .int .u64 (IntKind.u64.wrap (IntKind.u64.wrap ((2 : Int) ^ (f % 8)) - 1)), .int .u64 0] rfl
      have m0 := (Mod.refl [] w).alloc (.cells #[.slice (some ⟨G, o + f / 8, none⟩) (n - f / 8) (c - f / 8), .int .i64 ((f : Int) % 8), .int .i64 len, .int .u64 (IntKind.u64.wrap (IntKind.u64.wrap ((2 : Int) ^ (f % 8)) - 1)), .int .u64 0] 68)
      have o1 := own_mod hown m0 (by simp)
      generalize hsz : w.heap.size = P at *
      generalize w.alloc (.cells #[.slice (some ⟨G, o + f / 8, none⟩) (n - f / 8) (c - f / 8), .int .i64 ((f : Int) % 8), .int .i64 len, .int .u64 (IntKind.u64.wrap (IntKind.u64.wrap ((2 : Int) ^ (f % 8)) - 1)), .int .u64 0] 68) = w1 at *
      obtain ⟨c0, c1, c2, c3, c4⟩ := blk5 k0
      have f4 := k0.frozen 4
      have hU := hide (fun (W : World) (hm' : Mod [] w1 W) => u64_any W G (o + f / 8) (n - f / 8) (c - f / 8) mem hs (by omega) (by omega) (own_rdb (own_mod o1 hm' (by simp))))
      have hk := hide k0
      have hm0 := hide m0
      clear k0 m0 o1 hown
      go_cut [] (fun wx => Blk wx P 68 #[.slice (some ⟨G, o + f / 8, none⟩) (n - f / 8) (c - f / 8), .int .i64 ((f : Int) % 8), .int .i64 len, .int .u64 (IntKind.u64.wrap (IntKind.u64.wrap ((2 : Int) ^ (f % 8)) - 1)), .int .u64 (wordAt mem (o + f / 8) : Int)] ∧ Mod [P] w1 wx)
      case first =>
        go_region_with (first | (go_at_call 33; (with_reducible refine (unhide hU _ (by (repeat' (first | (with_reducible exact Mod.refl _ _) | (with_reducible assumption) | (with_reducible refine Mod.drew ?_) | (with_reducible refine Mod.drewN ?_ _) | (with_reducible refine Mod.alloc ?_ _) | (with_reducible refine Mod.setCell ?_ ?_ _) | (left; simp; done) | (right; first | omega | (simp; omega) | (simp; done)))))).mono ?_); rintro e w' ⟨rfl, hm'⟩; have hm2 := Mod.trans (S := []) (T := []) (a := w1) (by (repeat' (first | (with_reducible exact Mod.refl _ _) | (with_reducible assumption) | (with_reducible refine Mod.drew ?_) | (with_reducible refine Mod.drewN ?_ _) | (with_reducible refine Mod.alloc ?_ _) | (with_reducible refine Mod.setCell ?_ ?_ _) | (left; simp; done) | (right; first | omega | (simp; omega) | (simp; done))))) hm' (by simp); have hb2 := (unhide hk).mod hm2 (by simp); have hm3 := hm2.any [P]; obtain ⟨x0, x1, x2, x3, x4⟩ := blk5 hb2; have g4 := hb2.frozen 4) | (go_at_call 32; (with_reducible refine (toLE_any _ _).mono ?_); rintro e w' ⟨rfl, rfl⟩))
        all_goals (go_wp2_with fail; go_meet; refine ⟨?_, ?_⟩)
        all_goals first | (with_reducible exact b5s4 hb2 _) | (with_reducible exact (b5s4 hb2 _).drew) | ((repeat' (first | (with_reducible exact Mod.refl _ _) | (with_reducible assumption) | (with_reducible refine Mod.drew ?_) | (with_reducible refine Mod.drewN ?_ _) | (with_reducible refine Mod.alloc ?_ _) | (with_reducible refine Mod.setCell ?_ ?_ _) | (left; simp; done) | (right; first | omega | (simp; omega) | (simp; done)))))
      case rest =>
        obtain ⟨hB, hM⟩ := hcut
        go_wp2_with fail
        go_ret
        refine ⟨P, wordAt mem (o + f / 8), rfl, by omega, (unhide hm0).trans hM (by simp; omega), wordAt_lt hs _, ?_, fun _ _ => rfl, fun _ => wordAt_mod hs _ (by omega)⟩
        exact blk5_eq hB (by omega) (unhide HM) rfl
    · have e1 : ¬ (64 : Int) ≤ (len : Int) := by omega
      go_enter Tryd.func25, Tryd.ntmps25
      go_upto_region 6 with (fail)
      have k0 := Blk.new (w := w) (g := w.heap.size) 68 #[.slice (some ⟨G, o + f / 8, none⟩) (n - f / 8) (c - f / 8), .int .i64 ((f : Int) % 8), .int .i64 len, .int .u64 (IntKind.u64.wrap (IntKind.u64.wrap ((2 : Int) ^ (f % 8)) - 1)), .int .u64 0] rfl
      have m0 := (Mod.refl [] w).alloc (.cells #[.slice (some ⟨G, o + f / 8, none⟩) (n - f / 8) (c - f / 8), .int .i64 ((f : Int) % 8), .int .i64 len, .int .u64 (IntKind.u64.wrap (IntKind.u64.wrap ((2 : Int) ^ (f % 8)) - 1)), .int .u64 0] 68)
      have o1 := own_mod hown m0 (by simp)
      generalize hsz : w.heap.size = P at *
      generalize w.alloc (.cells #[.slice (some ⟨G, o + f / 8, none⟩) (n - f / 8) (c - f / 8), .int .i64 ((f : Int) % 8), .int .i64 len, .int .u64 (IntKind.u64.wrap (IntKind.u64.wrap ((2 : Int) ^ (f % 8)) - 1)), .int .u64 0] 68) = w1 at *
      obtain ⟨c0, c1, c2, c3, c4⟩ := blk5 k0
      have f4 := k0.frozen 4
      have hx := own_rdb o1 (o + f / 8) (by omega)
      have hb8 := hs.get (o + f / 8)
      generalize hbb : mem.getD (o + f / 8) 0 = b at *
      have hk := hide k0
      have hm0 := hide m0
      clear k0 m0 o1 hown
      go_cut [] (fun wx => Blk wx P 68 #[.slice (some ⟨G, o + f / 8, none⟩) (n - f / 8) (c - f / 8), .int .i64 ((f : Int) % 8), .int .i64 len, .int .u64 (IntKind.u64.wrap (IntKind.u64.wrap ((2 : Int) ^ (f % 8)) - 1)), .int .u64 ((lsb 0 b : Nat) : Int)] ∧ Mod [P] w1 wx)
      case first =>
        go_region_with (first | (go_at_call 34; (with_reducible refine (setLSB_any _ _ 4 0 b (by decide) hb8 ?_ ?_).mono ?_); exact c4; exact f4; rintro e w' ⟨rfl, rfl⟩))
        all_goals (go_wp2_with fail; go_meet; refine ⟨?_, ?_⟩)
        all_goals first | (with_reducible exact b5s4 (unhide hk) _) | (with_reducible exact (b5s4 (unhide hk) _).drew) | ((repeat' (first | (with_reducible exact Mod.refl _ _) | (with_reducible assumption) | (with_reducible refine Mod.drew ?_) | (with_reducible refine Mod.drewN ?_ _) | (with_reducible refine Mod.alloc ?_ _) | (with_reducible refine Mod.setCell ?_ ?_ _) | (left; simp; done) | (right; first | omega | (simp; omega) | (simp; done))))) | (exact (b5s4 (unhide hk).drew _).cast (by simp [lsb]))
      case rest =>
        obtain ⟨hB, hM⟩ := hcut
        go_wp2_with fail
        go_ret
        rw [List.getD_eq_getElem?_getD] at hbb
        refine ⟨P, rfl, by omega, (unhide hm0).trans hM (by simp; omega), b, by omega, ?_, by omega⟩
        exact blk5_eq hB rfl (unhide HM) (by simp [lsb])
end Go.Proofs.YtcjjajbpjfamfaaDoor
