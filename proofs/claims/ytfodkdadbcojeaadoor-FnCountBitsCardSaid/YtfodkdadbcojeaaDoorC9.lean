/- Bits counted: CountSetBits from any bit on. -/
import Derived.Test.YtfodkdadbcojeaaDoorC8
set_option linter.unusedVariables false
set_option linter.unusedSimpArgs false
namespace Go.Proofs.YtfodkdadbcojeaaDoor
open Go.ChangeShapes Go.WideShapes Go.ChangeAt Go.RowKit
theorem sl_drop {w : World} {B n b off : Nat} {d : List Nat} (hd : Sl w B (some ⟨b, off, none⟩) n (bv d)) (s : Nat) (hs : s ≤ n) : Sl w B (some ⟨b, off + s, none⟩) (n - s) (bv (d.drop s)) := by
  have hl := hd.1
  simp [bv] at hl
  refine ⟨by simp [bv]; omega, fun h => ?_⟩
  obtain ⟨b', off', e, hb, hc⟩ := hd.2 (by omega)
  cases e
  refine ⟨b, off + s, rfl, hb, fun j u hu => ?_⟩
  rw [Nat.add_assoc]
  apply hc (s + j) u
  rw [← hu]
  simp [bv, List.getElem?_drop]
theorem small_drop {d : List Nat} (hs : Small d) (s : Nat) : Small (d.drop s) := fun x hx => hs x (List.mem_of_mem_drop hx)
def ZRel (wo : World) (v7 vi : Value) (wr : World) : Prop := v7 = .int .i64 0 ∧ vi = .int .i64 0 ∧ wr = wo
set_option maxRecDepth 100000 in
set_option maxHeartbeats 4000000 in
theorem count00 (w : World) (A : Option Addr) (n c : Nat) (hnc : n ≤ c) (hn : n ≤ 4096) :
    Calls Tryd.prog 27 #[.slice A n c, .int .i64 0, .int .i64 0] w fun e w' => e = .returned (.int .i64 0) ∧ w = w' := by
  have hw0 : IntKind.i64.wrap 0 = 0 := by decide
  have hz : bits .andNot .i64 0 7 = 0 := by decide
  go_enter Tryd.func27, Tryd.ntmps27
  go_wp2_with (go_at_call 46; (with_reducible refine (words_nil _ _ _ _ (by omega)).mono ?_); rintro e w' ⟨rfl, rfl⟩)
  all_goals
    go_loopw [7, 28] (ZRel w) (fun _ _ _ => 0)
    case atStart => exact ⟨rfl, rfl, rfl⟩
    case round =>
      obtain ⟨rfl, rfl, rfl⟩ := hrel
      go_wp2_with fail
      all_goals
        go_loopw [7, 43] (ZRel wr) (fun _ _ _ => 0)
        case atStart => exact ⟨rfl, rfl, rfl⟩
        case round =>
          obtain ⟨rfl, rfl, rfl⟩ := hrel
          go_wp2_with fail
          go_loopw [7, 13] (ZRel wr) (fun _ _ _ => 0)
          case atStart => exact ⟨rfl, rfl, rfl⟩
          case round =>
            obtain ⟨rfl, rfl, rfl⟩ := hrel
            go_wp2_with fail
            go_ret
            exact ⟨rfl, rfl⟩
def C4Rel (w : World) (d : List Nat) (f I : Nat) (v7 v11 : Value) (wr : World) : Prop :=
  ∃ k : Nat, k ≤ I ∧ v11 = .int .i64 ((f + k : Nat) : Int) ∧ v7 = .int .i64 (cnt d f k : Nat) ∧ Mod [] w wr
set_option maxRecDepth 100000 in
set_option maxHeartbeats 4000000 in
theorem cntoff_any (w : World) (b off n c f N : Nat) (d : List Nat) (hs : Small d) (hd : Sl w w.heap.size (some ⟨b, off, none⟩) n (bv d)) (hn : n ≤ 4096) (hnc : n ≤ c) (hN : f + N ≤ 8 * n) (hM : Msk w) (hn0 : 0 < n) (hf : 0 < f) :
    Calls Tryd.prog 45 #[.slice (some ⟨b, off, none⟩) n c, .int .i64 (f : Int), .int .i64 (N : Int)] w fun e w' => e = .returned (.int .i64 (cnt d f N : Nat)) ∧ Mod [] w w' := by
  have hR := hide (roundUp_any w f (by omega))
  obtain ⟨I, hI⟩ : ∃ I : Nat, I = min N ((f + 63) / 64 * 64 - f) := ⟨_, rfl⟩
  have hIN : I ≤ N := by omega
  have hM0 := min_any w (N : Int) ((((f + 63) / 64 * 64 : Nat) : Int) - (f : Int))
  rw [show (if (N : Int) < (((f + 63) / 64 * 64 : Nat) : Int) - (f : Int) then (N : Int) else (((f + 63) / 64 * 64 : Nat) : Int) - (f : Int)) = (I : Int) by split <;> omega] at hM0
  have hMi := hide hM0
  have hcase : I = N ∨ ((f + I) % 64 = 0 ∧ I < N) := by omega
  have hU : (f + 63) / 64 * 64 ≤ 65536 := by omega
  generalize (f + 63) / 64 * 64 = U at hR hMi hU
  clear hM0 hI
  go_enter Tryd.func45, Tryd.ntmps45
  go_wp2_with (first | (go_at_call 71; (with_reducible refine (unhide hR).mono ?_); rintro e w' ⟨rfl, rfl⟩) | (go_at_call 53; (with_reducible refine (unhide hMi).mono ?_); rintro e w' ⟨rfl, rfl⟩))
  go_loopw [7, 11] (C4Rel w d f I) (fun _ v _ => f + I - (intOf v).toNat)
  case atStart => exact ⟨0, Nat.zero_le _, by simp, rfl, Mod.refl _ _⟩
  case round =>
    obtain ⟨k, hk, rfl, rfl, hmr⟩ := hrel
    by_cases hlt : k < I
    · have ck := sl_cell (hd.mod hmr (by simp)) ((f + k) / 8) (by omega)
      have hM4 : Msk wr := fun i hi => hmr.cell (hM i hi) (by simp)
      have B1 := hide (isSet_any wr b off n c (f + k) d hs (by omega) (by omega) ck hM4)
      have hF : ∀ wx : World, Mod [] wr wx → C4Rel w d f I (.int .i64 ((cnt d f k : Int) + ((bitAt d (f + k)).toNat : Int))) (.int .i64 (((f + k : Nat) : Int) + 1)) wx := by
        intro wx hx
        refine ⟨k + 1, by omega, by simp [Int.add_assoc], ?_, hmr.trans hx (by simp)⟩
        rw [cnt]
        simp
      have HF := Lib.hid hF
      have n1 := cnt_le d f k
      have hlt2 : f + k < f + I := by omega
      generalize cnt d f k = x1 at HF n1
      generalize bitAt d (f + k) = bb at HF B1
      generalize f + k = p at HF B1 hlt2
      clear hF hM4 ck hd hcase
      cases bb
      all_goals
        simp only [Bool.toNat_false, Bool.toNat_true, Int.natCast_zero, Int.add_zero] at HF
        go_wp2_with (go_at_call 49; (with_reducible refine (unhide B1).mono ?_); rintro e w' ⟨rfl, hmx⟩)
        exact ⟨HF.out _ hmx, by simp [intOf]; omega⟩
    · obtain rfl : k = I := by omega
      have hd2 := hd.mod hmr (by simp)
      have hM2 : Msk wr := fun i hi => hmr.cell (hM i hi) (by simp)
      have hB := bfb_any wr (f + k) (by omega)
      rw [Int.natCast_add] at hB ⊢
      have hB1 := hide hB
      clear hB
      have hs1 : (f + k + 7) / 8 ≤ n := by omega
      rcases hcase with rfl | ⟨h64, hkN⟩
      · generalize (f + k + 7) / 8 = s at hB1 hs1
        have hw0 : (k : Int) - (k : Int) = 0 := by omega
        have hc0 := hide (fun A m c' (h1 : m ≤ c') (h2 : m ≤ 4096) => count00 wr A m c' h1 h2)
        have n1 := cnt_le d f k
        generalize hx1 : cnt d f k = x1 at n1 ⊢
        have HX := Lib.hid hx1
        clear hx1
        go_wp2_with (first | (go_at_call 55; (with_reducible refine (unhide hB1).mono ?_); rintro e w' ⟨rfl, rfl⟩) | (go_at_call 27; (with_reducible refine (unhide hc0 _ _ _ (by omega) (by omega)).mono ?_); rintro e w' ⟨rfl, rfl⟩))
        all_goals (go_ret; exact ⟨by rw [HX.out]; rfl, hmr⟩)
      · have h8 : 8 * ((f + k + 7) / 8) = f + k := by omega
        have hsn : (f + k + 7) / 8 < n := by omega
        have hs0 : 0 < (f + k + 7) / 8 := by omega
        generalize (f + k + 7) / 8 = s at hB1 hs1 h8 hsn hs0
        have hsplit : cnt d f N = cnt d f k + cnt (d.drop s) 0 (N - k) := by
          rw [cnt_drop, h8, Nat.add_zero, ← cnt_add]
          congr 1
          omega
        have hc0 := count0_any wr b (off + s) (n - s) (c - s) (N - k) (d.drop s) (small_drop hs s) ((sl_drop hd2 s hs1).mono hmr.size) (by omega) (by omega) (by omega) hM2 (by omega) rfl rfl
        rw [show ((N - k : Nat) : Int) = (N : Int) - (k : Int) by omega] at hc0
        have n1 := cnt_le d f k
        have n2 := cnt_le (d.drop s) 0 (N - k)
        have hHS := Lib.hid hsplit
        clear hsplit
        generalize cnt d f k = x1 at n1 hHS ⊢
        generalize cnt (d.drop s) 0 (N - k) = x2 at n2 hHS hc0
        have hc1 := hide hc0
        clear hc0 hs0 h64
        have hcs : ¬ c = s := by omega
        have hs0 : ¬ s = 0 := by omega
        go_wp2_with (first | (go_at_call 55; (with_reducible refine (unhide hB1).mono ?_); rintro e w' ⟨rfl, rfl⟩) | (go_at_call 27; (with_reducible refine (unhide hc1).mono ?_); rintro e w' ⟨rfl, hmx⟩))
        all_goals (go_ret; exact ⟨by rw [hHS.out]; simp, hmr.trans hmx (by simp)⟩)
theorem countBits_any (w : World) (A : Option Addr) (n c f N : Nat) (d : List Nat) (hs : Small d) (hd : Sl w w.heap.size A n (bv d)) (hn : n ≤ 4096) (hnc : n ≤ c) (hN : f + N ≤ 8 * n) (hM : Msk w) :
    Calls Tryd.prog 27 #[.slice A n c, .int .i64 (f : Int), .int .i64 (N : Int)] w fun e w' => e = .returned (.int .i64 (cnt d f N : Nat)) ∧ Mod [] w w' := by
  by_cases hn0 : n = 0
  · obtain rfl : f = 0 := by omega
    obtain rfl : N = 0 := by omega
    refine (count00 w A n c hnc hn).mono ?_
    rintro e w' ⟨rfl, rfl⟩
    exact ⟨rfl, Mod.refl _ _⟩
  · obtain ⟨b, off, rfl, _, _⟩ := hd.2 (by omega)
    by_cases hf : f = 0
    · subst hf
      exact count0_any w b off n c N d hs hd hn hnc (by omega) hM (by omega) rfl rfl
    · have H := hide (cntoff_any w b off n c f N d hs hd hn hnc hN hM (by omega) (by omega))
      have hf0 : 0 < f := by omega
      clear hd hM
      generalize cnt d f N = x at H ⊢
      go_enter Tryd.func27, Tryd.ntmps27
      go_wp2_with (go_at_call 45; (with_reducible refine (unhide H).mono ?_); rintro e w' ⟨rfl, hmx⟩)
      go_ret
      exact ⟨rfl, hmx⟩
end Go.Proofs.YtfodkdadbcojeaaDoor
