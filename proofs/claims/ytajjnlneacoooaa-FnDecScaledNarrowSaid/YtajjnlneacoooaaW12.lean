/- The laws' own small functions over exact integers. (Ytajjnlneacoooaa) -/
import Derived.Test.YtajjnlneacoooaaW11
import Derived.Test.YtajjnlneacoooaaPwordsOfx1
import Derived.Test.YtajjnlneacoooaaPsameWordsx1
set_option linter.unusedVariables false
set_option linter.unusedSimpArgs false
namespace Go.Proofs.Ytajjnlneacoooaa
open Go.RowKit Go.ChangeShapes Go.WideShapes Go.ChangeAt Go.Proofs.YtajjnlneacoooaaW.PrintWords Go.Proofs.YtajjnlneacoooaaW.PrintLast Go.Proofs.YtajjnlneacoooaaW.PrintMore
attribute [local go_sem ↓] Go.wp_at_zero Go.wp_at_succ
def wN (width : Int) : Nat := if width = 32 ∨ width = 64 then 1 else if width = 128 then 2 else if width = 256 then 4 else 0
def wIs (width : Int) : Bool := decide (width = 32 ∨ width = 64 ∨ width = 128 ∨ width = 256)
theorem wordsOf_any (w : World) (width : Int) : Calls Try.prog 34 #[.int .i64 width] w fun e w' => e = .returned (.tuple #[.int .i64 (wN width : Nat), .bool (wIs width)]) ∧ Below w.heap.size w w' := by
  have hf : PwordsOf.laws_wordsOf.f 1 width = some ((wN width : Int), wIs width) := by
    unfold PwordsOf.laws_wordsOf.f
    by_cases h1 : width = 32
    · subst h1; rfl
    · by_cases h2 : width = 64
      · subst h2; rfl
      · by_cases h3 : width = 128
        · subst h3
          rw [if_neg (by decide)]
          simp only [PwordsOf.laws_wordsOf.j0]
          rw [if_neg (by decide), if_pos trivial, show wrap64 (Int.tdiv 128 64) = 2 by unfold wrap64; simp]
          rfl
        · by_cases h4 : width = 256
          · subst h4
            rw [if_neg (by decide)]
            simp only [PwordsOf.laws_wordsOf.j0]
            rw [if_neg (by decide), if_neg (by decide), if_pos trivial, show wrap64 (Int.tdiv 256 64) = 4 by unfold wrap64; simp]
            rfl
          · rw [if_neg h1]
            simp only [PwordsOf.laws_wordsOf.j0]
            rw [if_neg (by simp [h2]), if_neg h3, if_neg h4]
            simp [wN, wIs, h1, h2, h3, h4]
  refine (PwordsOf.laws_wordsOf.calls 1 width _ _ w hf).mono ?_
  rintro e w' ⟨rfl, hD⟩
  exact ⟨rfl, below_drawn hD⟩
theorem same_loop (a b : List Int) (hl : a.length = b.length) (hm : a.length ≤ 1000000) (d : Nat) : ∀ i : Nat, i + d = a.length → ∃ k, PsameWords.laws_sameWords.l0 k a b a.length i = some (decide (a.drop i = b.drop i)) := by
  induction d with
  | zero =>
    intro i hi
    refine ⟨1, ?_⟩
    simp only [PsameWords.laws_sameWords.l0]
    rw [if_neg (by omega), List.drop_eq_nil_iff.2 (by omega), List.drop_eq_nil_iff.2 (by omega)]; simp
  | succ d ih =>
    intro i hi
    obtain ⟨k, hk⟩ := ih (i + 1) (by omega)
    refine ⟨k + 1, ?_⟩
    simp only [PsameWords.laws_sameWords.l0]
    rw [if_pos (by omega), if_pos (by omega), if_pos (by omega), if_pos (by omega), rdd, rdd, drop_get (show i < a.length by omega), drop_get (show i < b.length by omega)]
    by_cases h : a.getD i 0 = b.getD i 0
    · rw [if_pos h, wr_succ i (by omega), hk, h]; simp
    · rw [if_neg h]; simp only [List.cons.injEq, h, false_and, decide_false]
theorem sameWords_any (w : World) (u v : Value) (a b : List Int) (hu : Rd .u64 w u a) (hv : Rd .u64 w v b) :
    Calls Try.prog 8 #[u, v] w fun e w' => e = .returned (.bool (decide (a = b))) ∧ Below w.heap.size w w' := by
  have hm : a.length ≤ 1000000 := by obtain ⟨_, _, _, _, _, h⟩ := hu; exact h
  obtain ⟨A, c, rfl, h1, h2⟩ := hu.toC
  obtain ⟨A', c', rfl, h3, h4⟩ := hv.toC
  have hf : ∃ k, PsameWords.laws_sameWords.f k a b = some (decide (a = b)) := by
    unfold PsameWords.laws_sameWords.f
    by_cases hl : a.length = b.length
    · obtain ⟨k, hk⟩ := same_loop a b hl hm a.length 0 (by omega)
      refine ⟨k, ?_⟩
      rw [if_pos (by omega)]
      simpa using hk
    · refine ⟨0, ?_⟩
      rw [if_neg (by omega)]
      have : a ≠ b := fun e => hl (by rw [e])
      simp [this]
  obtain ⟨k, hk⟩ := hf
  refine (PsameWords.laws_sameWords.calls k A c a A' c' b _ w h2 h1 h4 h3 hk).mono ?_
  rintro e w' ⟨rfl, hD⟩
  exact ⟨rfl, below_drawn hD⟩
theorem cmpI_zero (a b : Int) : (cmpI a b == 0) = decide (a = b) := by
  unfold cmpI
  by_cases h : a < b
  · rw [if_pos h]; simp; omega
  · rw [if_neg h]
    by_cases h2 : b < a
    · rw [if_pos h2]; simp; omega
    · rw [if_neg h2]; simp; omega
set_option maxRecDepth 100000 in
set_option maxHeartbeats 4000000 in
theorem least_any (w : World) (v : Value) (z : Int) (width q : Nat) (h : Wd w v z) (hw : width = 32 * q + 32) (hq : q < 50) :
    Calls Try.prog 10 #[.int .i64 (width : Int), v] w fun e w' => e = .returned (.bool (decide (z = -(2 ^ (width - 1))))) ∧ Below w.heap.size w w' := by
  have hst := hide (fun (W : World) (hb : Below w.heap.size w W) => h.below hb)
  obtain ⟨s, A, n, c, rfl⟩ := h.form
  have hT1 := hide (fun (W : World) => (by
    have h := Two_any W (width - 1) q 31 (by omega) (by omega) (by omega)
    rw [show ((width - 1 : Nat) : Int) = (width : Int) - 1 by omega] at h
    exact h : Calls Try.prog 36 #[.int .i64 ((width : Int) - 1)] W (PWide W (2 ^ (width - 1)))))
  have hw2 : width ≤ 3000 := by omega
  have hw3 : 32 ≤ width := by omega
  clear h hw
  have hwr : IntKind.i64.wrap ((width : Int) - 1) = (width : Int) - 1 := IntWalk.i64_in _ (by omega)
  go_enter Try.func10, Try.ntmps10
  go_upto_region 1 with (fail)
  have k0 := Blk.new (w := w) (g := w.heap.size) 30 #[.bool s, .slice A n c] rfl
  have hbw : Below w.heap.size w (w.alloc (.cells #[.bool s, .slice A n c] 30)) := (Below.refl _ _).alloc (Nat.le_refl _) _
  generalize (w.alloc (.cells #[.bool s, .slice A n c] 30)) = w2 at k0 hbw ⊢
  have hL := hide (fun (W : World) (h : Below w2.heap.size w2 W) => (show W.cell? ⟨w.heap.size, 0, none⟩ = some (.bool s) ∧ W.cell? ⟨w.heap.size, 1, none⟩ = some (.slice A n c) ∧ Below w2.heap.size w2 W from
      ⟨by have := (k0.below h).cell 0; simpa using this, by have := (k0.below h).cell 1; simpa using this, h⟩))
  have hC2 := hide (fun (W : World) (u : Value) (h : Below w2.heap.size w2 W) (hu : Wd W u (-(2 ^ (width - 1)))) => WideCmp_any W _ u z (-(2 ^ (width - 1))) ((unhide hst) W (below_tr hbw h hbw.size)) hu)
  have hB0 : Below w2.heap.size w2 w2 := Below.refl _ _
  obtain ⟨e1, e2, _⟩ := (unhide hL) w2 hB0
  have hFin := hide (fun (W : World) (h : Below w2.heap.size w2 W) => below_tr hbw h hbw.size)
  have HZ := hide (cmpI_zero z (-(2 ^ (width - 1))))
  clear k0 hbw
  go_region_held3 (fun W => W.cell? ⟨w.heap.size, 0, none⟩ = some (.bool s) ∧ W.cell? ⟨w.heap.size, 1, none⟩ = some (.slice A n c) ∧ Below w2.heap.size w2 W)
    (first | ((try go_split_ands); (try dsimp only); refine (unhide hL) _ ?_; first | exact bdrew (by assumption) | exact below_tr (by assumption) hb3 (Below.size (by assumption)) | exact below_tr (by assumption) hb4 (Below.size (by assumption)) | exact below_tr (by assumption) hb5 (Below.size (by assumption))))
    (first
      | (go_at_call 36; (with_reducible refine ((unhide hT1) _).mono ?_); rintro e w3 ⟨x3, rfl, hx3, hb3⟩)
      | (go_at_call 12; (with_reducible refine (Negated_any _ _ _ (by assumption)).mono ?_); rintro e w4 ⟨x4, rfl, hx4, hb4⟩)
      | (go_at_call 16; (with_reducible refine ((unhide hC2) _ _ (by go_split_ands; assumption) (by assumption)).mono ?_); rintro e w5 ⟨rfl, hb5⟩))
  have HB5 := hide (show Below w2.heap.size w2 w5 by go_split_ands; assumption)
  go_wp2
  go_ret
  exact ⟨by rw [unhide HZ]; rfl, (unhide hFin) _ (unhide HB5)⟩
end Go.Proofs.Ytajjnlneacoooaa
