/- FnGenerated: the law's walk. -/
import Derived.Test.YtfodkdadbcojeaaDoorG9
set_option linter.unusedVariables false
set_option linter.unusedSimpArgs false
namespace Go.Proofs.YtfodkdadbcojeaaDoor
open Go.ChangeShapes Go.WideShapes Go.ChangeAt Go.WideMaps Go.RowKit
theorem withinB_true {n : Nat} {i m : Int} (h : withinB n i m = true) : n ≤ 4096 ∧ 0 ≤ i ∧ 0 ≤ m ∧ i ≤ 8 * n ∧ m ≤ 8 * n - i := by
  simp [withinB] at h; omega
def G3Rel (w : World) (v48 : Value) (wr : World) (L : Nat) : Prop := ∃ j : Nat, j ≤ L ∧ v48 = .int .i64 j ∧ Mod [] w wr
theorem genR_length {d : List Nat} (f : Nat) (l : List Bool) (h : f + l.length ≤ 8 * d.length) : (genR d f l).length = d.length := by
  unfold genR; split
  · rfl
  · exact gfin_length d f l h
theorem genR_small {d : List Nat} (hs : Small d) (f : Nat) (l : List Bool) : Small (genR d f l) := by
  unfold genR; split
  · exact hs
  · exact gfin_small hs f l
theorem bitAt_genR {d : List Nat} (h : Small d) (f : Nat) (l : List Bool) (hk : f + l.length ≤ 8 * d.length) (i : Nat) (hi : i < f + l.length ∨ (f + l.length + 7) / 8 * 8 ≤ i) : bitAt (genR d f l) i = bitAt (chgN d f l l.length) i := by
  unfold genR; split
  · next h0 => subst h0; rfl
  · exact bitAt_gfin h f l hk i hi
set_option maxRecDepth 100000 in
set_option maxHeartbeats 4000000 in
theorem law3_in (w : World) (A A2 : Option Addr) (n c c2 f N : Nat) (u : Bool) (d : List Nat) (l : List Bool) (hdn : d.length = n) (hN : l.length = N) (hd : Sl w w.heap.size A n (bv d)) (hs : Small d) (hl : Sl w w.heap.size A2 N (bools l)) (hn : n ≤ 4096) (hfl : f + N ≤ 8 * n) (hM : Msk w) (hP : Pre w) (hB2 : 2 ≤ w.heap.size) :
    Calls Tryd.prog 3 #[.slice A n c, .int .i64 (f : Int), .slice A2 N c2, .bool u] w fun e w' => e = .returned (.bool true) ∧ Mod [] w w' := by
  subst hdn; subst hN
  have hwi : withinB d.length f l.length = true := by simp [withinB]; omega
  have HW := Lib.hid hwi
  clear hwi
  have HG := hide (generated_any w A A2 c c2 f u d l hd hs hl hn hfl hM hP hB2 rfl)
  have hgl := genR_length f l hfl
  have hgs := genR_small hs f l
  have hbits := fun i hi => bitAt_genR hs f l hfl i hi
  generalize genR d f l = gr at HG hgl hgs hbits
  have hcs : Small (chgN d f l l.length) := chgN_small hs f l l.length
  have hcl : (chgN d f l l.length).length = d.length := chgN_length _ _ _ _
  have HCH := hide (fun w1 (hm : Mod [] w w1) => changed_any w1 A A2 c c2 d l f ((hd.mod hm (by simp)).mono hm.size) ((hl.mod hm (by simp)).mono hm.size) hs hn hfl)
  generalize chgN d f l l.length = cr at HCH hcl hcs hbits
  clear hd hl hM hP
  generalize hN : l.length = N at hfl hbits HG HCH HW
  generalize hD : d.length = n at hfl hbits HG HCH HW hgl hcl hn
  clear hN hD
  go_enter Tryd.func3, Tryd.ntmps3
  go_upto_region 5 with (first | ((go_at_call 8; (with_reducible refine (within_any _ _ _ _ _ _ (by omega)).mono ?_); rintro e w' ⟨rfl, rfl⟩); rw [HW.out]) | fail)
  go_wp2_with (first | (go_at_call 9; (with_reducible refine (unhide HG).mono ?_); rintro e w1 ⟨G, cap, rfl, ho1, hm1⟩; (have HC1 := hide (unhide HCH w1 hm1)); clear HCH HG) | (go_at_call 10; (with_reducible refine (unhide HC1).mono ?_); rintro e w2 ⟨G2, cap2, rfl, ho2, hm2⟩; clear HC1))
  have ho1' := own_mod ho1 hm2 (by simp)
  have g1 := own_lt' ho1'
  have g2 := own_lt' ho2
  have hm0 := hm1.trans hm2 (by simp)
  clear ho1
  go_loopw [48] (fun v wr => G3Rel w2 v wr (8 * n)) (fun v _ => 8 * n - (intOf v).toNat)
  case atStart => exact ⟨0, Nat.zero_le _, rfl, Mod.refl _ _⟩
  case round =>
    obtain ⟨j, hj, rfl, hmr⟩ := hrel
    by_cases hlt : j < 8 * n
    · have c1 := own_cell (own_mod ho1' hmr (by simp)) (j / 8) (by omega)
      have c2 := own_cell (own_mod ho2 hmr (by simp)) (j / 8) (by omega)
      have B1 := hide (bit_any wr G 0 n cap gr j hgs hlt (by omega) (by rw [Nat.zero_add]; exact c1))
      have B2 := hide (bit_any wr G2 0 n cap2 cr j hcs hlt (by omega) (by rw [Nat.zero_add]; exact c2))
      have hfin : ∀ wx : World, Mod [] wr wx → G3Rel w2 (.int .i64 ((j : Int) + 1)) wx (8 * n) := fun wx hx => ⟨j + 1, by omega, by simp, hmr.trans hx (by simp)⟩
      have HF := Lib.hid hfin
      clear hfin
      by_cases hr : j < f + N ∨ (f + N + 7) / 8 * 8 ≤ j
      · rw [hbits j hr] at B1
        generalize bitAt cr j = b at B1 B2
        clear hbits hgl hcl hgs hcs c1 c2
        go_wp2_with (first | (go_at_call 11; (with_reducible refine (unhide B1).mono ?_); rintro e w' ⟨rfl, rfl⟩) | (go_at_call 11; (with_reducible refine (unhide B2).mono ?_); rintro e w' ⟨rfl, rfl⟩))
        all_goals exact ⟨HF.out _ (Mod.refl _ _), by simp [intOf]; omega⟩
      · clear hbits hgl hcl hgs hcs c1 c2
        go_wp2_with fail
        all_goals exact ⟨HF.out _ (Mod.refl _ _), by simp [intOf]; omega⟩
    · obtain rfl : j = 8 * n := by omega
      go_wp2
      go_ret
      exact ⟨rfl, hm0.trans hmr (by simp)⟩
end Go.Proofs.YtfodkdadbcojeaaDoor
