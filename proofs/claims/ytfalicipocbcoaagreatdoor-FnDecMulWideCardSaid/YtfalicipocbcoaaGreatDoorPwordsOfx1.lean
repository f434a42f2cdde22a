-- PRINTED BY print.sh 35421559b90ae4d0a3588c463048766b98c2df88dd9212a6774a882060cdf62d: not written by this session
import Derived.Test.YtfalicipocbcoaaGreatDoorPwordsOfx0
namespace Go.Proofs.YtfalicipocbcoaaGreatDoor.PwordsOf
open Go.RowKit Go.Proofs.YtfalicipocbcoaaGreatDoorW.PrintWords Go.Proofs.YtfalicipocbcoaaGreatDoorW.PrintLast Go.Proofs.YtfalicipocbcoaaGreatDoorW.PrintMore
attribute [local go_sem] max2_int min2_int max_two min_two max_three min_three max_four min_four   -- for this text's walks alone
set_option linter.unusedVariables false
set_option linter.unusedSimpArgs false

/-! ### laws_wordsOf: function 14 -/
def laws_wordsOf.j0 : Nat → Int → Int → Bool → Option (Int × Bool)
  | 0, _, _, _ => none
  | k + 1, x0, x4, x5 => if x5 = true then (some (1, true)) else (if x4 = 128 then (some (wrap64 (Int.tdiv x0 64), true)) else (if x4 = 256 then (some (wrap64 (Int.tdiv x0 64), true)) else (some (0, false))))
def laws_wordsOf.f (k : Nat) (a0 : Int) : Option (Int × Bool) := if a0 = 32 then (laws_wordsOf.j0 k a0 a0 (a0 == 32)) else (laws_wordsOf.j0 k a0 a0 (a0 == 64))
theorem laws_wordsOf.mono_l : ∀ k, (∀ y0 y1 y2, LeO (laws_wordsOf.j0 k y0 y1 y2) (laws_wordsOf.j0 (k + 1) y0 y1 y2))
  | 0 => fun _ _ _ r h => by simp [laws_wordsOf.j0] at h
  | k + 1 => by
    have ih0 := laws_wordsOf.mono_l k
    · intro y0 y1 y2
      unfold laws_wordsOf.j0
      repeat' first
      | (with_reducible exact ih0 _ _ _)
      | (with_reducible exact LeO.refl _)
      | (with_reducible exact LeO.none _)
      | (with_reducible refine LeO.ite ?_ ?_)
      | (with_reducible refine LeO.bind ?_ (fun _ => ?_))
      | exact ih0 _ _ _
      | exact LeO.none _
      | refine LeO.ite ?_ ?_
      | refine LeO.bind ?_ (fun _ => ?_)
theorem laws_wordsOf.mono : ∀ a0 k, LeO (laws_wordsOf.f k a0) (laws_wordsOf.f (k + 1) a0) := by
  intro a0 k
  have ih0 := laws_wordsOf.mono_l k
  unfold laws_wordsOf.f
  repeat' first
      | (with_reducible exact ih0 _ _ _)
      | (with_reducible exact LeO.refl _)
      | (with_reducible exact LeO.none _)
      | (with_reducible refine LeO.ite ?_ ?_)
      | (with_reducible refine LeO.bind ?_ (fun _ => ?_))
      | exact ih0 _ _ _
      | exact LeO.none _
      | refine LeO.ite ?_ ?_
      | refine LeO.bind ?_ (fun _ => ?_)
set_option maxHeartbeats 8000000 in
set_option maxRecDepth 100000 in
theorem laws_wordsOf.calls (k : Nat) (a0 : Int) (r1 : Int) (r2 : Bool) (w : World) (h : laws_wordsOf.f k a0 = some (r1, r2)) :
    Calls Tryz.prog 14 #[.int .i64 a0] w fun e w' => e = .returned (.tuple #[.int .i64 r1, .bool r2]) ∧ Drawn0 w w' := by
  have H : (if a0 = 32 then (laws_wordsOf.j0 k a0 a0 (a0 == 32)) else (laws_wordsOf.j0 k a0 a0 (a0 == 64))) = some (r1, r2) := h
  clear h
  have HC2 := Aside0.mk H
  clear H
  go_enter Tryz.func14, Tryz.ntmps14
  go_upto_if 5 with (fail)
  go_cut [5] (fun v5 wc => ∃ (kq : Nat) (x5_1 : Bool), v5 = .bool x5_1 ∧ Aside0 (laws_wordsOf.j0 kq a0 a0 x5_1 = some (r1, r2)) ∧ Aside0 (kq ≤ k) ∧ Drawn0 w wc)
  case first =>
    have H := HC2.out
    clear HC2
    by_cases c3 : a0 = 32
    · rw [if_pos c3] at H
      have c3b0 : (a0 == 32) = true := beq_iff_eq.mpr c3
      have c3b1 : (a0 != 32) = false := bne_eq_false_iff_eq.mpr c3
      clear c3
      (first | rw [c3b0] | (simp only [i64_w, i32_w]; rw [c3b0]) | skip)
      have H' := Aside0.mk H
      clear H
      go_wp2
      go_meet
      case rel => exact ⟨_, ((a0 == 32)), (by first | rfl | (simp; done) | (simp [*]; done)), H', ⟨by first | omega | exact Nat.le_refl _⟩, by repeat (first | exact Drawn0.refl _ | apply Drawn0.step)⟩
    · rw [if_neg c3] at H
      have c3b0 : (a0 == 32) = false := beq_eq_false_iff_ne.mpr c3
      have c3b1 : (a0 != 32) = true := bne_iff_ne.mpr c3
      (first | rw [c3b0] | (simp only [i64_w, i32_w]; rw [c3b0]) | skip)
      have H' := Aside0.mk H
      clear H
      go_wp2
      go_meet
      case rel => exact ⟨_, ((a0 == 64)), (by first | rfl | (simp; done) | (simp [*]; done)), H', ⟨by first | omega | exact Nat.le_refl _⟩, by repeat (first | exact Drawn0.refl _ | apply Drawn0.step)⟩
  case rest =>
    clear HC2
    try clear c1
    try clear p2
    try clear c3
    try clear c3b0
    try clear c3b1
    obtain ⟨kq, x5_1, rfl, HA, HJ1, ⟨mc1, rfl⟩⟩ := hcut
    cases kq with
    | zero => exact absurd HA.out (by simp [laws_wordsOf.j0])
    | succ kj1 =>
      have H := HA.out
      clear HA
      simp only [laws_wordsOf.j0] at H
      by_cases c4 : x5_1 = true
      · subst c4
        have H1 : (some (1, true)) = some (r1, r2) := by rw [if_pos rfl] at H; exact H
        clear H
        have H := H1
        clear H1
        simp only [Option.some.injEq, Prod.mk.injEq] at H
        obtain ⟨rfl, rfl⟩ := H
        go_wp2
        go_ret2
        exact ⟨by first | rfl | (simp; done) | (simp [*]; done), by repeat (first | exact Drawn0.refl _ | apply Drawn0.step)⟩
      · replace c4 := Bool.eq_false_iff.mpr c4
        subst c4
        have H1 : (if a0 = 128 then (some (wrap64 (Int.tdiv a0 64), true)) else (if a0 = 256 then (some (wrap64 (Int.tdiv a0 64), true)) else (some (0, false)))) = some (r1, r2) := by rw [if_neg (show ¬ (false = true) by decide)] at H; exact H
        clear H
        have H := H1
        clear H1
        by_cases c5 : a0 = 128
        · rw [if_pos c5] at H
          have c5b0 : (a0 == 128) = true := beq_iff_eq.mpr c5
          have c5b1 : (a0 != 128) = false := bne_eq_false_iff_eq.mpr c5
          clear c5
          simp only [Option.some.injEq, Prod.mk.injEq] at H
          obtain ⟨rfl, rfl⟩ := H
          go_wp2
          go_ret2
          exact ⟨by first | rfl | (simp; done) | (simp [*]; done), by repeat (first | exact Drawn0.refl _ | apply Drawn0.step)⟩
        · rw [if_neg c5] at H
          have c5b0 : (a0 == 128) = false := beq_eq_false_iff_ne.mpr c5
          have c5b1 : (a0 != 128) = true := bne_iff_ne.mpr c5
          by_cases c6 : a0 = 256
          · rw [if_pos c6] at H
            have c6b0 : (a0 == 256) = true := beq_iff_eq.mpr c6
            have c6b1 : (a0 != 256) = false := bne_eq_false_iff_eq.mpr c6
            clear c6
            simp only [Option.some.injEq, Prod.mk.injEq] at H
            obtain ⟨rfl, rfl⟩ := H
            go_wp2
            go_ret2
            exact ⟨by first | rfl | (simp; done) | (simp [*]; done), by repeat (first | exact Drawn0.refl _ | apply Drawn0.step)⟩
          · rw [if_neg c6] at H
            have c6b0 : (a0 == 256) = false := beq_eq_false_iff_ne.mpr c6
            have c6b1 : (a0 != 256) = true := bne_iff_ne.mpr c6
            simp only [Option.some.injEq, Prod.mk.injEq] at H
            obtain ⟨rfl, rfl⟩ := H
            go_wp2
            go_ret2
            exact ⟨by first | rfl | (simp; done) | (simp [*]; done), by repeat (first | exact Drawn0.refl _ | apply Drawn0.step)⟩

end Go.Proofs.YtfalicipocbcoaaGreatDoor.PwordsOf
