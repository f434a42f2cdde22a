/- Metadata, once more. (YtconkcjcjdmidaaGreatDoor) -/
import Derived.Test.YtconkcjcjdmidaaGreatDoorTN
import Derived.Test.YtconkcjcjdmidaaGreatDoorT4
set_option linter.unusedVariables false
set_option linter.unusedSimpArgs false
namespace Go.Proofs.YtconkcjcjdmidaaGreatDoor
open Go.RowKit Go.ChangeShapes Go.WideShapes Go.ChangeAt Go
attribute [local go_sem ↓] Go.wp_at_zero Go.wp_at_succ
/-- the parameter's block is g0, the result's g0 + 1. -/
def NC4 (w : World) (p : Value) (q : Value) (n : Nat) (v6 : Value) (wx : World) : Prop := ∃ g6 gk gv, v6 = .pointer (some ⟨g6, 0, none⟩) ∧ Blk wx w.heap.size 49 #[p, q] ∧ Blk wx (w.heap.size + 1) 49 Z2 ∧ Blk wx gk 9 (Array.replicate n (.string ⟨#[]⟩)) ∧ Blk wx gv 9 (Array.replicate n (.string ⟨#[]⟩)) ∧ Blk wx g6 49 #[.slice (some ⟨gk, 0, none⟩) n n, .slice (some ⟨gv, 0, none⟩) n n] ∧ w.heap.size + 1 < gk ∧ w.heap.size + 1 < gv ∧ w.heap.size + 1 < g6 ∧ gk ≠ gv ∧ Below w.heap.size w wx
def PAg (w : World) (e : Ending) (w' : World) : Prop := ∃ A A' n n' c c', e = .returned (.agg #[.slice A n c, .slice A' n' c']) ∧ Below w.heap.size w w'
theorem pag_mk {w w' : World} (A A' : Option Addr) (n n' c c' : Nat) (h : Below w.heap.size w w') : PAg w (.returned (.agg #[.slice A n c, .slice A' n' c'])) w' := ⟨A, A', n, n', c, c', rfl, h⟩
set_option maxRecDepth 100000 in
set_option maxHeartbeats 4000000 in
theorem mdClone_pos (w : World) (A A' : Option Addr) (c c' : Nat) (l : List Pr) (hc : l.length ≤ c) (hc' : l.length ≤ c') (h0 : 0 < l.length) (hn : l.length ≤ 100) (ha : Sl w w.heap.size A l.length (ks l)) (hb : Sl w w.heap.size A' l.length (vs l)) :
    Calls Tryz.prog 38 #[.agg #[.slice A l.length c, .slice A' l.length c']] w (PAg w) := by
  have hmk := make31 l.length hn
  have hz : ((l.length : Int) == 0) = false := by rw [beq_eq_false_iff_ne]; omega
  have HA := hide ha
  have HB := hide hb
  clear ha hb
  go_enter Tryz.func38, Tryz.ntmps38
  go_upto_region 3 with (fail)
  go_cut [3] (fun v6 wx => NC4 w (.slice A l.length c) (.slice A' l.length c') l.length v6 wx)
  case first =>
    go_region
    all_goals
      go_wp2_with fail
      go_meet
      first
        | (refine ⟨w.heap.size + 1 + 1 + 1 + 1, w.heap.size + 1 + 1, w.heap.size + 1 + 1 + 1, rfl, ?_, ?_, ?_, ?_, ?_, by omega, by omega, by omega, by omega, ?_⟩; (focus ((repeat' (first | (with_reducible refine Blk.drew ?_) | ((with_reducible refine Blk.new _ _ ?_); (simp; done)) | (with_reducible refine Blk.alloc ?_ _))); done)); (focus ((repeat' (first | (with_reducible refine Blk.drew ?_) | ((with_reducible refine Blk.new _ _ ?_); (simp; done)) | (with_reducible refine Blk.alloc ?_ _))); done)); (focus ((repeat' (first | (with_reducible refine Blk.drew ?_) | ((with_reducible refine Blk.new _ _ ?_); (simp; done)) | (with_reducible refine Blk.alloc ?_ _))); done)); (focus ((repeat' (first | (with_reducible refine Blk.drew ?_) | ((with_reducible refine Blk.new _ _ ?_); (simp; done)) | (with_reducible refine Blk.alloc ?_ _))); done)); (focus ((repeat' (first | (with_reducible refine Blk.drew ?_) | ((with_reducible refine Blk.new _ _ ?_); (simp; done)) | (with_reducible refine Blk.alloc ?_ _))); done)); (focus ((repeat' (first | (with_reducible exact Below.refl _ _) | (with_reducible refine bdrew ?_) | (with_reducible refine Below.alloc ?_ ?_ _) | exact Nat.le_refl _ | (simp; done) | (simp; omega))); done)))
        | (refine ⟨w.heap.size + 1 + 1 + 1, w.heap.size + 1 + 1, w.heap.size + 1 + 1 + 1 + 1, rfl, ?_, ?_, ?_, ?_, ?_, by omega, by omega, by omega, by omega, ?_⟩; (focus ((repeat' (first | (with_reducible refine Blk.drew ?_) | ((with_reducible refine Blk.new _ _ ?_); (simp; done)) | (with_reducible refine Blk.alloc ?_ _))); done)); (focus ((repeat' (first | (with_reducible refine Blk.drew ?_) | ((with_reducible refine Blk.new _ _ ?_); (simp; done)) | (with_reducible refine Blk.alloc ?_ _))); done)); (focus ((repeat' (first | (with_reducible refine Blk.drew ?_) | ((with_reducible refine Blk.new _ _ ?_); (simp; done)) | (with_reducible refine Blk.alloc ?_ _))); done)); (focus ((repeat' (first | (with_reducible refine Blk.drew ?_) | ((with_reducible refine Blk.new _ _ ?_); (simp; done)) | (with_reducible refine Blk.alloc ?_ _))); done)); (focus ((repeat' (first | (with_reducible refine Blk.drew ?_) | ((with_reducible refine Blk.new _ _ ?_); (simp; done)) | (with_reducible refine Blk.alloc ?_ _))); done)); (focus ((repeat' (first | (with_reducible exact Below.refl _ _) | (with_reducible refine bdrew ?_) | (with_reducible refine Below.alloc ?_ ?_ _) | exact Nat.le_refl _ | (simp; done) | (simp; omega))); done)))
        | (refine ⟨w.heap.size + 1 + 1 + 1 + 1, w.heap.size + 1 + 1 + 1, w.heap.size + 1 + 1, rfl, ?_, ?_, ?_, ?_, ?_, by omega, by omega, by omega, by omega, ?_⟩; (focus ((repeat' (first | (with_reducible refine Blk.drew ?_) | ((with_reducible refine Blk.new _ _ ?_); (simp; done)) | (with_reducible refine Blk.alloc ?_ _))); done)); (focus ((repeat' (first | (with_reducible refine Blk.drew ?_) | ((with_reducible refine Blk.new _ _ ?_); (simp; done)) | (with_reducible refine Blk.alloc ?_ _))); done)); (focus ((repeat' (first | (with_reducible refine Blk.drew ?_) | ((with_reducible refine Blk.new _ _ ?_); (simp; done)) | (with_reducible refine Blk.alloc ?_ _))); done)); (focus ((repeat' (first | (with_reducible refine Blk.drew ?_) | ((with_reducible refine Blk.new _ _ ?_); (simp; done)) | (with_reducible refine Blk.alloc ?_ _))); done)); (focus ((repeat' (first | (with_reducible refine Blk.drew ?_) | ((with_reducible refine Blk.new _ _ ?_); (simp; done)) | (with_reducible refine Blk.alloc ?_ _))); done)); (focus ((repeat' (first | (with_reducible exact Below.refl _ _) | (with_reducible refine bdrew ?_) | (with_reducible refine Below.alloc ?_ ?_ _) | exact Nat.le_refl _ | (simp; done) | (simp; omega))); done)))
        | (refine ⟨w.heap.size + 1 + 1, w.heap.size + 1 + 1 + 1, w.heap.size + 1 + 1 + 1 + 1, rfl, ?_, ?_, ?_, ?_, ?_, by omega, by omega, by omega, by omega, ?_⟩; (focus ((repeat' (first | (with_reducible refine Blk.drew ?_) | ((with_reducible refine Blk.new _ _ ?_); (simp; done)) | (with_reducible refine Blk.alloc ?_ _))); done)); (focus ((repeat' (first | (with_reducible refine Blk.drew ?_) | ((with_reducible refine Blk.new _ _ ?_); (simp; done)) | (with_reducible refine Blk.alloc ?_ _))); done)); (focus ((repeat' (first | (with_reducible refine Blk.drew ?_) | ((with_reducible refine Blk.new _ _ ?_); (simp; done)) | (with_reducible refine Blk.alloc ?_ _))); done)); (focus ((repeat' (first | (with_reducible refine Blk.drew ?_) | ((with_reducible refine Blk.new _ _ ?_); (simp; done)) | (with_reducible refine Blk.alloc ?_ _))); done)); (focus ((repeat' (first | (with_reducible refine Blk.drew ?_) | ((with_reducible refine Blk.new _ _ ?_); (simp; done)) | (with_reducible refine Blk.alloc ?_ _))); done)); (focus ((repeat' (first | (with_reducible exact Below.refl _ _) | (with_reducible refine bdrew ?_) | (with_reducible refine Below.alloc ?_ ?_ _) | exact Nat.le_refl _ | (simp; done) | (simp; omega))); done)))
        | (refine ⟨w.heap.size + 1 + 1 + 1, w.heap.size + 1 + 1 + 1 + 1, w.heap.size + 1 + 1, rfl, ?_, ?_, ?_, ?_, ?_, by omega, by omega, by omega, by omega, ?_⟩; (focus ((repeat' (first | (with_reducible refine Blk.drew ?_) | ((with_reducible refine Blk.new _ _ ?_); (simp; done)) | (with_reducible refine Blk.alloc ?_ _))); done)); (focus ((repeat' (first | (with_reducible refine Blk.drew ?_) | ((with_reducible refine Blk.new _ _ ?_); (simp; done)) | (with_reducible refine Blk.alloc ?_ _))); done)); (focus ((repeat' (first | (with_reducible refine Blk.drew ?_) | ((with_reducible refine Blk.new _ _ ?_); (simp; done)) | (with_reducible refine Blk.alloc ?_ _))); done)); (focus ((repeat' (first | (with_reducible refine Blk.drew ?_) | ((with_reducible refine Blk.new _ _ ?_); (simp; done)) | (with_reducible refine Blk.alloc ?_ _))); done)); (focus ((repeat' (first | (with_reducible refine Blk.drew ?_) | ((with_reducible refine Blk.new _ _ ?_); (simp; done)) | (with_reducible refine Blk.alloc ?_ _))); done)); (focus ((repeat' (first | (with_reducible exact Below.refl _ _) | (with_reducible refine bdrew ?_) | (with_reducible refine Below.alloc ?_ ?_ _) | exact Nat.le_refl _ | (simp; done) | (simp; omega))); done)))
        | (refine ⟨w.heap.size + 1 + 1, w.heap.size + 1 + 1 + 1 + 1, w.heap.size + 1 + 1 + 1, rfl, ?_, ?_, ?_, ?_, ?_, by omega, by omega, by omega, by omega, ?_⟩; (focus ((repeat' (first | (with_reducible refine Blk.drew ?_) | ((with_reducible refine Blk.new _ _ ?_); (simp; done)) | (with_reducible refine Blk.alloc ?_ _))); done)); (focus ((repeat' (first | (with_reducible refine Blk.drew ?_) | ((with_reducible refine Blk.new _ _ ?_); (simp; done)) | (with_reducible refine Blk.alloc ?_ _))); done)); (focus ((repeat' (first | (with_reducible refine Blk.drew ?_) | ((with_reducible refine Blk.new _ _ ?_); (simp; done)) | (with_reducible refine Blk.alloc ?_ _))); done)); (focus ((repeat' (first | (with_reducible refine Blk.drew ?_) | ((with_reducible refine Blk.new _ _ ?_); (simp; done)) | (with_reducible refine Blk.alloc ?_ _))); done)); (focus ((repeat' (first | (with_reducible refine Blk.drew ?_) | ((with_reducible refine Blk.new _ _ ?_); (simp; done)) | (with_reducible refine Blk.alloc ?_ _))); done)); (focus ((repeat' (first | (with_reducible exact Below.refl _ _) | (with_reducible refine bdrew ?_) | (with_reducible refine Below.alloc ?_ ?_ _) | exact Nat.le_refl _ | (simp; done) | (simp; omega))); done)))
  case rest =>
    obtain ⟨g6, gk, gv, rfl, kp, k0, kk, kv, k6, h1, h2, h3, h4, hb⟩ := hcut
    have hsA := (unhide HA).mod (Mod.of_below (S := []) hb) (by simp)
    have hsB := (unhide HB).mod (Mod.of_below (S := []) hb) (by simp)
    obtain ⟨w1, hr1, k1, m1⟩ := copy_blk wc w.heap.size gk l.length c A _ _ kk (by simp) hsA h0 (one_ks l)
    have hsB1 := hsB.mod m1 (by simp; omega)
    have n6k : g6 ≠ gk := fun e => absurd (k6.uniq (by rw [e]; exact kk)).1 (by decide)
    have n6v : g6 ≠ gv := fun e => absurd (k6.uniq (by rw [e]; exact kv)).1 (by decide)
    have kv1 := kv.mod m1 (by simp; omega)
    have k61 := k6.mod m1 (by simp; omega)
    have kp1 := kp.mod m1 (by simp; omega)
    have k01 := k0.mod m1 (by simp; omega)
    obtain ⟨w2, hr2, k2, m2⟩ := copy_blk w1 w.heap.size gv l.length c' A' _ _ kv1 (by simp) hsB1 h0 (one_vs l)
    have k62 := k61.mod m2 (by simp; omega)
    have k02 := k01.mod m2 (by simp; omega)
    have hB2 : Mod [gk, gv] wc w2 := (m1.mono (by simp)).trans (m2.mono (T := [gk, gv]) (by simp)) (by simp)
    have hFin : Below w.heap.size w w2 := by
      have h5 : Mod [gk, gv] w w2 := (Mod.of_below (S := [gk, gv]) hb).trans hB2 (by simp)
      exact ⟨h5.os, h5.tape, h5.output, h5.size, fun k hk => h5.block k hk (by simp; omega)⟩
    have HF := hide hFin
    have q0 := k6.cell 0
    have q1 := k61.cell 1
    have q2 := k62.cell 0
    have q3 := k62.cell 1
    have q4 := kp.cell 0
    have q5 := kp1.cell 1
    have p0 := k02.cell 0
    have p1 := k02.cell 1
    have f0 := k02.frozen 0
    have f1 := k02.frozen 1
    simp at q0 q1 q2 q3 q4 q5 p0 p1
    clear hsA hsB hsB1 kv1 k61 k01 k62 k02 hB2 hFin k1 k2 m1 m2 k0 kk kv k6 hmk hb kp kp1
    go_wp2_with (first | (refine wpList_copy_run rfl (.tmp 19) (.tmp 21) 47 47 rfl _ _ _ _ rfl rfl hr1 ?_) | (refine wpList_copy_run rfl (.tmp 24) (.tmp 26) 47 47 rfl _ _ _ _ rfl rfl hr2 ?_))
    have HG := hide (pag_mk (w := w) (some ⟨gk, 0, none⟩) (some ⟨gv, 0, none⟩) l.length l.length l.length l.length (((unhide HF).setCell (p := ⟨w.heap.size + 1, 0, none⟩) (by simp) (.slice (some ⟨gk, 0, none⟩) l.length l.length)).setCell (p := ⟨w.heap.size + 1, 1, none⟩) (by simp) (.slice (some ⟨gv, 0, none⟩) l.length l.length)))
    clear HF
    refine bodyPost_ret (v := .agg #[.slice (some ⟨gk, 0, none⟩) l.length l.length, .slice (some ⟨gv, 0, none⟩) l.length l.length]) (by simp [results, Tryz.results38, go_sem, p0, p1]) rfl ?_
    exact unhide HG
theorem mdClone_any (w : World) (v : Value) (l : List Pr) (h : Md w.heap.size w v l ∨ ∃ B, Md B w v l) (hn : l.length ≤ 100) : Calls Tryz.prog 38 #[v] w (PAg w) := by
  have h : ∃ B, Md B w v l := h.elim (fun h => ⟨_, h⟩) id
  obtain ⟨B, A, c, A', c', rfl, hc, hc', ha, hb⟩ := h
  rcases Nat.eq_zero_or_pos l.length with h0 | h0
  · rw [h0]
    refine (clone_any w A A' c c').mono ?_
    rintro e w' ⟨rfl, hb⟩
    exact ⟨_, _, _, _, _, _, rfl, hb⟩
  · exact mdClone_pos w A A' c c' l hc hc' h0 hn ha.1 hb.1
end Go.Proofs.YtconkcjcjdmidaaGreatDoor
