/- The thin package's MetaSame. (Ytpgonjoaeliccaa) -/
import Derived.Test.YtpgonjoaeliccaaM10
set_option linter.unusedVariables false
set_option linter.unusedSimpArgs false
namespace Go.Proofs.Ytpgonjoaeliccaa
open Go.RowKit Go.ChangeShapes Go.WideShapes Go.ChangeAt
attribute [local go_sem ↓] Go.wp_at_zero Go.wp_at_succ
theorem idle7 (p q : Addr) (w : World) : CallsD Try.prog 7 #[.pointer (some p), .pointer (some q)] .returning w fun e u' w' => e = .returned (.tuple #[]) ∧ u' = .returning ∧ w = w' := by
  refine callsD_of_wpS Try.func7 rfl fun c₀ cs hu => ?_
  apply wpS_seq
  apply wpS_region
  simp [wpOpsS, go_sem, recoverD, hu, Try.ntmps7, Exit.thenS]
  refine wpS_cond (t := false) (by simp [Act.eval, Array.replicate]) ?_
  simp only [Bool.false_eq_true, if_false]
  refine wpS_of_wp (wp_skip ?_)
  cases c₀
  simp_all [bodyPostS, results, Try.results7]
theorem equal_any (w : World) (B : Nat) (va vb : Value) (la lb : List Pr) (ha : Md B w va la) (hb : Md B w vb lb) (hn : la.length ≤ 100) : Calls Try.prog 9 #[va, vb] w (PBo w (metaB la lb)) := by
  by_cases he : la.length = lb.length
  · exact equal_eq w B va vb la lb ha hb hn he
  · obtain ⟨A, c, A', c', rfl, _⟩ := ha
    obtain ⟨C, d, C', d', rfl, _⟩ := hb
    have hm : metaB la lb = false := by unfold metaB; rw [decide_eq_false he]; rfl
    rw [hm]
    exact equal_ne w A A' C C' c c' d d' _ _ _ _ he
def PSame (w : World) (r : Bool) (e : Ending) (w' : World) : Prop := e = .returned (.tuple #[.bool r, .bool true]) ∧ Below w.heap.size w w'
theorem blk_ones {w w5 : World} {u v : Value} (k0 : Blk w5 w.heap.size 4 #[u]) (k1 : Blk w5 (w.heap.size + 1) 4 #[v]) (x y : Value) :
    ((w5.setCell ⟨w.heap.size, 0, none⟩ x).setCell ⟨w.heap.size + 1, 0, none⟩ y).cell? ⟨w.heap.size, 0, none⟩ = some x ∧ ((w5.setCell ⟨w.heap.size, 0, none⟩ x).setCell ⟨w.heap.size + 1, 0, none⟩ y).cell? ⟨w.heap.size + 1, 0, none⟩ = some y := by
  have h0 := ((k0.set 0 x).other (a := ⟨w.heap.size + 1, 0, none⟩) (by simp) y).cell 0
  have h1 := ((k1.other (a := ⟨w.heap.size, 0, none⟩) (by simp) x).set 0 y).cell 0
  exact ⟨by simpa using h0, by simpa using h1⟩
set_option maxRecDepth 100000 in
set_option maxHeartbeats 4000000 in
theorem same_any (w : World) (va vb : Value) (la lb : List Pr) (ha : Ps w va la) (hb : Ps w vb lb) (hn : la.length ≤ 100) (hn' : lb.length ≤ 100) : Calls Try.prog 5 #[va, vb] w (PSame w (metaB la lb)) := by
  have hA := hide (fun (W : World) (h : Below w.heap.size w W) => meta_any W va la (ha.below h) hn)
  have hB := hide (fun (W : World) (h : Below w.heap.size w W) => meta_any W vb lb (hb.below h) hn')
  have hE := hide (fun (W : World) (x y : Value) (B : Nat) (h1 : Md B W x la) (h2 : Md B W y lb) => equal_any W B x y la lb h1 h2 hn)
  clear ha hb
  generalize metaB la lb = r at *
  have k0 : Blk ((w.alloc (.cells #[.bool false] 4)).alloc (.cells #[.bool false] 4)) w.heap.size 4 #[.bool false] := (Blk.new _ _ rfl).alloc _
  have k1 : Blk ((w.alloc (.cells #[.bool false] 4)).alloc (.cells #[.bool false] 4)) (w.heap.size + 1) 4 #[.bool false] := Blk.new _ _ (by simp)
  have hb0 : Below w.heap.size w ((w.alloc (.cells #[.bool false] 4)).alloc (.cells #[.bool false] 4)) := ((Below.refl _ _).alloc (Nat.le_refl _) _).alloc (by simp) _
  have tok : True := trivial
  go_enter_defers Try.func5, Try.ntmps5
  go_wp2_with (first
    | (go_at_call 8; have _t := tok; (with_reducible refine ((unhide hA) _ hb0).mono ?_); rintro e w1 ⟨x, rfl, hx, hb1⟩; have hB1 := below_tr hb0 hb1 hb0.size; have k01 := k0.below hb1; have k11 := k1.below hb1; clear tok)
    | (go_at_call 8; (with_reducible refine ((unhide hB) _ hB1).mono ?_); rintro e w2 ⟨y, rfl, hy, hb2⟩; have hB2 := below_tr hB1 hb2 hB1.size; have k02 := k01.below hb2; have k12 := k11.below hb2; have hx2 := hx.below hb2)
    | (go_at_call 9; (with_reducible refine ((unhide hE) _ _ _ 0 (hx2.mono (Nat.zero_le _)) (hy.mono (Nat.zero_le _))).mono ?_); rintro e w3 ⟨rfl, hb3⟩; have hB3 := below_tr hB2 hb3 hB2.size; have k03 := k02.below hb3; have k13 := k12.below hb3; have c0 := k03.cell 0; have c1 := k13.cell 0; have f0 := k03.frozen 0; have f1 := k13.frozen 0; simp at c0 c1))
  have HF := hide (show PSame w r (.returned (.tuple #[.bool r, .bool true])) ((w3.setCell ⟨w.heap.size, 0, none⟩ (.bool r)).setCell ⟨w.heap.size + 1, 0, none⟩ (.bool true)) from ⟨rfl, (hB3.setCell (Nat.le_refl _) _).setCell (by simp) _⟩)
  have hz := hide (blk_ones k03 k13)
  clear k03 k13 hB3 c0 c1 f0 f1 hx hy hx2
  refine leaves_cons (f := 7) (args := #[.pointer (some ⟨w.heap.size, 0, none⟩), .pointer (some ⟨w.heap.size + 1, 0, none⟩)]) (by simp) (by simp [go_sem]) ?_
  refine (idle7 ⟨w.heap.size, 0, none⟩ ⟨w.heap.size + 1, 0, none⟩ _).mono ?_
  rintro e u' w'' ⟨rfl, rfl, rfl⟩
  refine ⟨.tuple #[.bool r, .bool true], ?_, unhide HF⟩
  obtain ⟨z1, z2⟩ := (unhide hz) (.bool r) (.bool true)
  simp [settle, results, Try.results5, go_sem, z1, z2]
end Go.Proofs.Ytpgonjoaeliccaa
