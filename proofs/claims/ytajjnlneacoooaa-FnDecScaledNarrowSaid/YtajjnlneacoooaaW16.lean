/- The thin package's decimals: without a sign; 32 and 64 bits. (Ytajjnlneacoooaa) -/
import Derived.Test.YtajjnlneacoooaaW15
import Derived.DeepKeys
set_option linter.unusedVariables false
set_option linter.unusedSimpArgs false
namespace Go.Proofs.Ytajjnlneacoooaa
open Go.RowKit Go.ChangeShapes Go.WideShapes Go.ChangeAt
attribute [local go_sem ↓] Go.wp_at_zero Go.wp_at_succ
theorem neg32_any (w : World) (x : Int) : Calls Try.prog 25 #[.int .i32 x] w fun e w' => e = .returned (.int .i32 (wrap32 (-x))) ∧ w = w' := by
  go_enter Try.func25, Try.ntmps25
  go_wp2
  go_ret
  exact ⟨rfl, rfl⟩
theorem neg64_any (w : World) (x : Int) : Calls Try.prog 26 #[.int .i64 x] w fun e w' => e = .returned (.int .i64 (wrap64 (-x))) ∧ w = w' := by
  go_enter Try.func26, Try.ntmps26
  go_wp2
  go_ret
  exact ⟨rfl, rfl⟩
theorem abs32_any (w : World) (x : Int) : Calls Try.prog 29 #[.int .i32 x] w fun e w' => e = .returned (.int .i32 (if x < 0 then wrap32 (-x) else x)) ∧ w = w' := by
  by_cases h : x < 0
  · rw [if_pos h]
    go_enter Try.func29, Try.ntmps29
    go_wp2
    go_ret
    exact ⟨rfl, rfl⟩
  · rw [if_neg h]
    go_enter Try.func29, Try.ntmps29
    go_wp2
    go_ret
    exact ⟨rfl, rfl⟩
theorem abs64_any (w : World) (x : Int) : Calls Try.prog 30 #[.int .i64 x] w fun e w' => e = .returned (.int .i64 (if x < 0 then wrap64 (-x) else x)) ∧ w = w' := by
  by_cases h : x < 0
  · rw [if_pos h]
    go_enter Try.func30, Try.ntmps30
    go_wp2
    go_ret
    exact ⟨rfl, rfl⟩
  · rw [if_neg h]
    go_enter Try.func30, Try.ntmps30
    go_wp2
    go_ret
    exact ⟨rfl, rfl⟩
theorem blk_two {w : World} {g : Nat} {t : TypeId} {a b : Value} (h : Blk w g t #[a, b]) :
    w.cell? ⟨g, 0, none⟩ = some a ∧ w.cell? ⟨g, 1, none⟩ = some b ∧ w.frozen? ⟨g, 0, none⟩ = false ∧ w.frozen? ⟨g, 1, none⟩ = false ∧ True :=
  ⟨by have := h.cell 0; simpa using this, by have := h.cell 1; simpa using this, h.frozen 0, h.frozen 1, trivial⟩
theorem or1 (x : Int) (h0 : -9223372036854775808 ≤ x) (h1 : x < 9223372036854775808) : bits .or .i64 1 (x / 9223372036854775808) = if x < 0 then -1 else 1 := by
  by_cases h : x < 0
  · rw [show x / 9223372036854775808 = -1 by omega, if_pos h]; decide
  · rw [show x / 9223372036854775808 = 0 by omega, if_neg h]; decide
def PSg (w : World) (neg : Prop) (e : Ending) (w' : World) : Prop := ∃ s : Int, e = .returned (.int .i64 s) ∧ (s = -1 ↔ neg) ∧ Below w.heap.size w w'
set_option maxRecDepth 100000 in
set_option maxHeartbeats 2000000 in
theorem sign128_any (w : World) (lo hi : Int) (h0 : -9223372036854775808 ≤ hi) (h1 : hi < 9223372036854775808) : Calls Try.prog 57 #[.agg #[.int .u64 lo, .int .i64 hi]] w (PSg w (hi < 0)) := by
  have ho := or1 hi h0 h1
  have hfin := hide (fun (W : World) (s : Int) (hs : s = -1 ↔ hi < 0) (h : Below w.heap.size w W) => (show PSg w (hi < 0) (.returned (.int .i64 s)) W from ⟨s, rfl, hs, h⟩))
  by_cases hz : lo = 0 ∧ hi = 0
  · obtain ⟨rfl, rfl⟩ := hz
    clear ho h0 h1
    go_enter Try.func57, Try.ntmps57
    go_wp2
    all_goals go_returns
    all_goals exact (unhide hfin) _ _ (by simp) (by repeat' (first | (with_reducible exact Below.refl _ _) | (with_reducible refine Below.setCell ?_ ?_ _) | (with_reducible refine bdrewN ?_ _) | (with_reducible refine bdrew ?_) | (with_reducible refine Below.alloc ?_ ?_ _) | exact Nat.le_refl _ | (simp; done)))
  · have hb : (lo == 0 && (hi == 0)) = false := by
      rw [Bool.eq_false_iff]; intro h; simp at h; exact hz h
    have hb2 : (lo == 0 && hi == 0) = false := hb
    clear hz
    by_cases hn : hi < 0
    · rw [if_pos hn] at ho
      have HN := hide hn
      clear hn
      go_enter Try.func57, Try.ntmps57
      go_wp2
      all_goals first | (exfalso; simp_all; done) | (go_returns; exact (unhide hfin) _ _ (by have := unhide HN; constructor <;> intro h <;> omega) (by repeat' (first | (with_reducible exact Below.refl _ _) | (with_reducible refine Below.setCell ?_ ?_ _) | (with_reducible refine bdrewN ?_ _) | (with_reducible refine bdrew ?_) | (with_reducible refine Below.alloc ?_ ?_ _) | exact Nat.le_refl _ | (simp; done))))
    · rw [if_neg hn] at ho
      have HN := hide hn
      clear hn
      go_enter Try.func57, Try.ntmps57
      go_wp2
      all_goals first | (exfalso; simp_all; done) | (go_returns; exact (unhide hfin) _ _ (by have := unhide HN; constructor <;> intro h <;> omega) (by repeat' (first | (with_reducible exact Below.refl _ _) | (with_reducible refine Below.setCell ?_ ?_ _) | (with_reducible refine bdrewN ?_ _) | (with_reducible refine bdrew ?_) | (with_reducible refine Below.alloc ?_ ?_ _) | exact Nat.le_refl _ | (simp; done))))
theorem wf64 {a : Int} (h0 : 0 ≤ a) (h1 : a < 18446744073709551616) : (Lit.int .u64 a).wf = true := by
  simp [Lit.wf, IntKind.min, IntKind.max, IntKind.signed, IntKind.bits]; omega
theorem arr_lits (a b c d : Int) (hs : Sm64 [a, b, c, d]) : Try.prog.keyLits 5 58 [.int .u64 a, .int .u64 b, .int .u64 c, .int .u64 d] = some [Lit.int .u64 a, .int .u64 b, .int .u64 c, .int .u64 d] := by
  have h58 : Try.prog.underlying 58 = some (.array 4 27) := by kernel_rfl
  have h27 : Try.prog.underlying 27 = some (.int .u64) := by kernel_rfl
  have c58 : Try.prog.cellsOf 58 = 4 := by kernel_rfl
  have c27 : Try.prog.cellsOf 27 = 1 := by kernel_rfl
  have wa := wf64 (hs a (by simp)).1 (hs a (by simp)).2
  have wb := wf64 (hs b (by simp)).1 (hs b (by simp)).2
  have wc := wf64 (hs c (by simp)).1 (hs c (by simp)).2
  have wd := wf64 (hs d (by simp)).1 (hs d (by simp)).2
  simp [Program.keyLits, h58, h27, c58, c27, wa, wb, wc, wd, List.range, List.range.loop]
theorem arr_eq (w : World) (a b c d : Int) (hs : Sm64 [a, b, c, d]) : ∃ r : Bool, (Op.equalIn 9999 58 (.agg #[.int .u64 a, .int .u64 b, .int .u64 c, .int .u64 d]) (.agg #[.int .u64 0, .int .u64 0, .int .u64 0, .int .u64 0])).run Try.prog w = .ok r w ∧ (r = true ↔ [Lit.int .u64 a, .int .u64 b, .int .u64 c, .int .u64 d] = [Lit.int .u64 0, .int .u64 0, .int .u64 0, .int .u64 0]) :=
  run_equalIn_deep (P := Try.prog) 9997 2 58 (by kernel_rfl) w 5 5 (.agg #[.int .u64 a, .int .u64 b, .int .u64 c, .int .u64 d]) (.agg #[.int .u64 0, .int .u64 0, .int .u64 0, .int .u64 0]) [Lit.int .u64 a, .int .u64 b, .int .u64 c, .int .u64 d] [Lit.int .u64 0, .int .u64 0, .int .u64 0, .int .u64 0] (by kernel_rfl) (by kernel_rfl) (arr_lits a b c d hs) (arr_lits 0 0 0 0 (by intro x hx; simp at hx; omega))
theorem arr_eq2 (a b c d : Int) (hs : Sm64 [a, b, c, d]) : ∃ z : Bool, (z = true → d = 0) ∧ ∀ W : World, (Op.equalIn 9999 58 (.agg #[.int .u64 a, .int .u64 b, .int .u64 c, .int .u64 d]) (.agg #[.int .u64 0, .int .u64 0, .int .u64 0, .int .u64 0])).run Try.prog W = .ok z W := by
  refine ⟨(a == 0 && b == 0 && c == 0 && d == 0), fun h => by simp at h; exact h.2, fun W => ?_⟩
  obtain ⟨r, h1, h2⟩ := arr_eq W a b c d hs
  have e : r = (a == 0 && b == 0 && c == 0 && d == 0) := by
    rw [Bool.eq_iff_iff, h2]
    simp [and_assoc]
  rw [e] at h1
  exact h1
set_option maxRecDepth 100000 in
set_option maxHeartbeats 2000000 in
theorem sign256_any (w : World) (a b c d : Int) (hs : Sm64 [a, b, c, d]) : Calls Try.prog 58 #[.agg #[.int .u64 a, .int .u64 b, .int .u64 c, .int .u64 d]] w (PSg w (9223372036854775808 ≤ d)) := by
  obtain ⟨h0, h1⟩ := hs d (by simp)
  have ho := or1 (wrap64 d) (by unfold wrap64; omega) (by unfold wrap64; omega)
  have hneg : wrap64 d < 0 ↔ 9223372036854775808 ≤ d := by unfold wrap64; omega
  obtain ⟨z, hz, hE⟩ := arr_eq2 a b c d hs
  have hfin := hide (fun (W : World) (s : Int) (hs : s = -1 ↔ 9223372036854775808 ≤ d) (h : Below w.heap.size w W) => (show PSg w (9223372036854775808 ≤ d) (.returned (.int .i64 s)) W from ⟨s, rfl, hs, h⟩))
  cases z with
  | true =>
    have HZ := hide (hz rfl)
    clear hz ho hneg h0 h1
    go_enter Try.func58, Try.ntmps58
    go_wp2
    go_returns
    exact (unhide hfin) _ _ (by rw [unhide HZ]; constructor <;> intro h <;> omega) (by repeat' (first | (with_reducible exact Below.refl _ _) | (with_reducible refine Below.setCell ?_ ?_ _) | (with_reducible refine bdrewN ?_ _) | (with_reducible refine bdrew ?_) | (with_reducible refine Below.alloc ?_ ?_ _) | exact Nat.le_refl _ | (simp; done)))
  | false =>
    clear hz
    by_cases hn : wrap64 d < 0
    · rw [if_pos hn] at ho
      have HN := hide (hneg.1 hn)
      clear hn hneg h0 h1
      go_enter Try.func58, Try.ntmps58
      go_wp2
      all_goals first | (exfalso; simp_all; done) | (go_returns; exact (unhide hfin) _ _ (by have := unhide HN; constructor <;> intro h <;> omega) (by repeat' (first | (with_reducible exact Below.refl _ _) | (with_reducible refine Below.setCell ?_ ?_ _) | (with_reducible refine bdrewN ?_ _) | (with_reducible refine bdrew ?_) | (with_reducible refine Below.alloc ?_ ?_ _) | exact Nat.le_refl _ | (simp; done))))
    · rw [if_neg hn] at ho
      have HN := hide (fun h => hn (hneg.2 h))
      clear hn hneg h0 h1
      go_enter Try.func58, Try.ntmps58
      go_wp2
      all_goals first | (exfalso; simp_all; done) | (go_returns; exact (unhide hfin) _ _ ⟨fun h => by omega, fun h => absurd h (unhide HN)⟩ (by repeat' (first | (with_reducible exact Below.refl _ _) | (with_reducible refine Below.setCell ?_ ?_ _) | (with_reducible refine bdrewN ?_ _) | (with_reducible refine bdrew ?_) | (with_reducible refine Below.alloc ?_ ?_ _) | exact Nat.le_refl _ | (simp; done))))
set_option maxRecDepth 100000 in
set_option maxHeartbeats 2000000 in
theorem abs128_any (w : World) (lo hw : Int) (h0 : 0 ≤ lo) (h1 : lo < 18446744073709551616) (h2 : 0 ≤ hw) (h3 : hw < 18446744073709551616) :
    Calls Try.prog 31 #[.agg #[.int .u64 lo, .int .i64 (wrap64 hw)]] w (P128 w (if wrap64 hw < 0 then negl [lo, hw] 1 else [lo, hw])) := by
  have hb : -9223372036854775808 ≤ wrap64 hw ∧ wrap64 hw < 9223372036854775808 := by unfold wrap64; omega
  have hback : [lo, hw] = [lo, IntKind.u64.wrap (wrap64 hw)] := by
    congr 2
    rw [IntKind.wrap_u64]; unfold wrap64; omega
  have hN := hide (fun (W : World) => neg128_any W lo hw h0 h1 h2 h3)
  have hS := hide (fun (W : World) => sign128_any W lo (wrap64 hw) hb.1 hb.2)
  have HB := hide hback
  clear hback hb h0 h1 h2 h3
  generalize wrap64 hw = hi at *
  by_cases hn : hi < 0
  · rw [if_pos hn]
    have HN := hide hn
    clear hn
    generalize negl [lo, hw] 1 = ll at *
    go_enter Try.func31, Try.ntmps31
    go_wp2_with fail
    refine ((unhide hS) _).mono ?_
    rintro e w1 ⟨s, rfl, hs, hb1⟩
    have hs1 : s = -1 := hs.2 (unhide HN)
    subst hs1
    have k0 := (((Blk.new (w := w) (g := w.heap.size) 57 #[.int .u64 lo, .int .i64 hi] rfl).alloc (.cells #[.int .u64 0, .int .i64 0] 57)).below hb1)
    have k1 := ((Blk.new (w := w.alloc (.cells #[.int .u64 lo, .int .i64 hi] 57)) (g := w.heap.size + 1) 57 #[.int .u64 0, .int .i64 0] (by simp)).below hb1)
    have hB1 := below_tr ((((Below.refl w.heap.size w).alloc (Nat.le_refl _) (.cells #[.int .u64 lo, .int .i64 hi] 57)).alloc (by simp) (.cells #[.int .u64 0, .int .i64 0] 57))) hb1 (by simp; omega)
    have b0 := blk_two k0
    clear hs hb1
    go_wp2_with fail
    refine ((unhide hN) _).mono ?_
    rintro e w2 ⟨lo', hi', rfl, hl2, hb2⟩
    have k2 := blk_two (k1.below hb2)
    have hfin := hide (show P128 w ll (.returned (.agg #[.int .u64 lo', .int .i64 hi'])) ((w2.setCell ⟨w.heap.size + 1, 0, none⟩ (.int .u64 lo')).setCell ⟨w.heap.size + 1, 1, none⟩ (.int .i64 hi')) from ⟨_, _, rfl, hl2, ((below_tr hB1 hb2 hB1.size).setCell (by simp) _).setCell (by simp) _⟩)
    obtain ⟨c0, c1, f0, f1, _⟩ := k2
    clear hl2 hb2 k0 k1 b0 hB1
    go_wp2
    refine bodyPost_ret (v := .agg #[.int .u64 lo', .int .i64 hi']) (by simp [results, Try.results31, go_sem, c0, c1]) rfl ?_
    exact unhide hfin
  · rw [if_neg hn]
    have HN := hide hn
    clear hn
    go_enter Try.func31, Try.ntmps31
    go_wp2_with fail
    refine ((unhide hS) _).mono ?_
    rintro e w1 ⟨s, rfl, hs, hb1⟩
    have hs1 : (s == -1) = false := by simp; intro h; have h5 := unhide HN; have h6 := hs.1 h; omega
    have k0 := (((Blk.new (w := w) (g := w.heap.size) 57 #[.int .u64 lo, .int .i64 hi] rfl).alloc (.cells #[.int .u64 0, .int .i64 0] 57)).below hb1)
    have k1 := ((Blk.new (w := w.alloc (.cells #[.int .u64 lo, .int .i64 hi] 57)) (g := w.heap.size + 1) 57 #[.int .u64 0, .int .i64 0] (by simp)).below hb1)
    have hB1 := below_tr ((((Below.refl w.heap.size w).alloc (Nat.le_refl _) (.cells #[.int .u64 lo, .int .i64 hi] 57)).alloc (by simp) (.cells #[.int .u64 0, .int .i64 0] 57))) hb1 (by simp; omega)
    obtain ⟨b0, b1, _⟩ := blk_two k0
    obtain ⟨c0, c1, f0, f1, _⟩ := blk_two k1
    have hfin := hide (show P128 w [lo, hw] (.returned (.agg #[.int .u64 lo, .int .i64 hi])) ((w1.setCell ⟨w.heap.size + 1, 0, none⟩ (.int .u64 lo)).setCell ⟨w.heap.size + 1, 1, none⟩ (.int .i64 hi)) from ⟨_, _, rfl, unhide HB, (hB1.setCell (by simp) _).setCell (by simp) _⟩)
    clear hs hb1 k0 k1 hB1
    go_wp2
    refine bodyPost_ret (v := .agg #[.int .u64 lo, .int .i64 hi]) (by simp [results, Try.results31, go_sem, c0, c1]) rfl ?_
    exact unhide hfin
theorem blk_four {w : World} {g : Nat} {t : TypeId} {a b c d : Value} (h : Blk w g t #[a, b, c, d]) :
    w.cell? ⟨g, 0, none⟩ = some a ∧ w.cell? ⟨g, 1, none⟩ = some b ∧ w.cell? ⟨g, 2, none⟩ = some c ∧ w.cell? ⟨g, 3, none⟩ = some d ∧ w.frozen? ⟨g, 0, none⟩ = false ∧ w.frozen? ⟨g, 1, none⟩ = false ∧ w.frozen? ⟨g, 2, none⟩ = false ∧ w.frozen? ⟨g, 3, none⟩ = false :=
  ⟨by have := h.cell 0; simpa using this, by have := h.cell 1; simpa using this, by have := h.cell 2; simpa using this, by have := h.cell 3; simpa using this, h.frozen 0, h.frozen 1, h.frozen 2, h.frozen 3⟩
set_option maxRecDepth 100000 in
set_option maxHeartbeats 2000000 in
theorem abs256_any (w : World) (a b c d : Int) (hs : Sm64 [a, b, c, d]) :
    Calls Try.prog 32 #[.agg #[.int .u64 a, .int .u64 b, .int .u64 c, .int .u64 d]] w (P256 w (if 9223372036854775808 ≤ d then negl [a, b, c, d] 1 else [a, b, c, d])) := by
  have hN := hide (fun (W : World) => neg256_any W a b c d hs)
  have hS := hide (fun (W : World) => sign256_any W a b c d hs)
  clear hs
  by_cases hn : 9223372036854775808 ≤ d
  · rw [if_pos hn]
    have HN := hide hn
    clear hn
    generalize negl [a, b, c, d] 1 = ll at *
    go_enter Try.func32, Try.ntmps32
    go_wp2_with fail
    refine ((unhide hS) _).mono ?_
    rintro e w1 ⟨s, rfl, hs, hb1⟩
    have hs1 : s = -1 := hs.2 (unhide HN)
    subst hs1
    have k0 := (((Blk.new (w := w) (g := w.heap.size) 60 #[.int .u64 a, .int .u64 b, .int .u64 c, .int .u64 d] rfl).alloc (.cells #[.int .u64 0, .int .u64 0, .int .u64 0, .int .u64 0] 60)).below hb1)
    have k1 := ((Blk.new (w := w.alloc (.cells #[.int .u64 a, .int .u64 b, .int .u64 c, .int .u64 d] 60)) (g := w.heap.size + 1) 60 #[.int .u64 0, .int .u64 0, .int .u64 0, .int .u64 0] (by simp)).below hb1)
    have hB1 := below_tr ((((Below.refl w.heap.size w).alloc (Nat.le_refl _) (.cells #[.int .u64 a, .int .u64 b, .int .u64 c, .int .u64 d] 60)).alloc (by simp) (.cells #[.int .u64 0, .int .u64 0, .int .u64 0, .int .u64 0] 60))) hb1 (by simp; omega)
    have b0 := blk_four k0
    clear hs hb1
    go_wp2_with fail
    refine ((unhide hN) _).mono ?_
    rintro e w2 ⟨a', b', c', d', rfl, hl2, hb2⟩
    have k2 := blk_four (k1.below hb2)
    have hfin := hide (show P256 w ll (.returned (.agg #[.int .u64 a', .int .u64 b', .int .u64 c', .int .u64 d'])) ((((w2.setCell ⟨w.heap.size + 1, 0, none⟩ (.int .u64 a')).setCell ⟨w.heap.size + 1, 1, none⟩ (.int .u64 b')).setCell ⟨w.heap.size + 1, 2, none⟩ (.int .u64 c')).setCell ⟨w.heap.size + 1, 3, none⟩ (.int .u64 d')) from ⟨_, _, _, _, rfl, hl2, ((((below_tr hB1 hb2 hB1.size).setCell (by simp) _).setCell (by simp) _).setCell (by simp) _).setCell (by simp) _⟩)
    obtain ⟨c0, c1, c2, c3, f0, f1, f2, f3⟩ := k2
    clear hl2 hb2 k0 k1 b0 hB1
    go_wp2
    refine bodyPost_ret (v := .agg #[.int .u64 a', .int .u64 b', .int .u64 c', .int .u64 d']) (by simp [results, Try.results32, go_sem, c0, c1, c2, c3]) rfl ?_
    exact unhide hfin
  · rw [if_neg hn]
    have HN := hide hn
    clear hn
    go_enter Try.func32, Try.ntmps32
    go_wp2_with fail
    refine ((unhide hS) _).mono ?_
    rintro e w1 ⟨s, rfl, hs, hb1⟩
    have hs1 : (s == -1) = false := by simp; intro h; have h5 := unhide HN; have h6 := hs.1 h; omega
    have k0 := (((Blk.new (w := w) (g := w.heap.size) 60 #[.int .u64 a, .int .u64 b, .int .u64 c, .int .u64 d] rfl).alloc (.cells #[.int .u64 0, .int .u64 0, .int .u64 0, .int .u64 0] 60)).below hb1)
    have k1 := ((Blk.new (w := w.alloc (.cells #[.int .u64 a, .int .u64 b, .int .u64 c, .int .u64 d] 60)) (g := w.heap.size + 1) 60 #[.int .u64 0, .int .u64 0, .int .u64 0, .int .u64 0] (by simp)).below hb1)
    have hB1 := below_tr ((((Below.refl w.heap.size w).alloc (Nat.le_refl _) (.cells #[.int .u64 a, .int .u64 b, .int .u64 c, .int .u64 d] 60)).alloc (by simp) (.cells #[.int .u64 0, .int .u64 0, .int .u64 0, .int .u64 0] 60))) hb1 (by simp; omega)
    obtain ⟨b0, b1, b2, b3, _⟩ := blk_four k0
    obtain ⟨c0, c1, c2, c3, f0, f1, f2, f3⟩ := blk_four k1
    have hfin := hide (show P256 w [a, b, c, d] (.returned (.agg #[.int .u64 a, .int .u64 b, .int .u64 c, .int .u64 d])) ((((w1.setCell ⟨w.heap.size + 1, 0, none⟩ (.int .u64 a)).setCell ⟨w.heap.size + 1, 1, none⟩ (.int .u64 b)).setCell ⟨w.heap.size + 1, 2, none⟩ (.int .u64 c)).setCell ⟨w.heap.size + 1, 3, none⟩ (.int .u64 d)) from ⟨_, _, _, _, rfl, rfl, ((((hB1).setCell (by simp) _).setCell (by simp) _).setCell (by simp) _).setCell (by simp) _⟩)
    clear hs hb1 k0 k1 hB1
    go_wp2
    refine bodyPost_ret (v := .agg #[.int .u64 a, .int .u64 b, .int .u64 c, .int .u64 d]) (by simp [results, Try.results32, go_sem, c0, c1, c2, c3]) rfl ?_
    exact unhide hfin
end Go.Proofs.Ytajjnlneacoooaa
