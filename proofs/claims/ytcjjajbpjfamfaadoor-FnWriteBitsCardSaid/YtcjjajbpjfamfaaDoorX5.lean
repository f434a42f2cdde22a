/- The bit reader. (YtcjjajbpjfamfaaDoor) -/
import Derived.Test.YtcjjajbpjfamfaaDoorX4
set_option linter.unusedVariables false
set_option linter.unusedSimpArgs false
namespace Go.Proofs.YtcjjajbpjfamfaaDoor
open Go.ChangeShapes Go.WideShapes Go.ChangeAt Go.RowKit
theorem and_pow_ne (x k : Nat) (hx : x < 256) (hk : k < 8) : (bits .and .u8 (x : Int) ((2 ^ k : Nat) : Int) == 0) = !x.testBit k := by
  rw [u8_and_nat x (2 ^ k) hx (pow_lt8 hk)]
  have hp := Nat.two_pow_pos k
  cases hb : x.testBit k
  · have h : x &&& 2 ^ k = 0 := by
      apply Nat.eq_of_testBit_eq; intro j
      rw [Nat.testBit_and, Nat.testBit_two_pow]
      by_cases hj : k = j
      · subst hj; rw [hb]; simp
      · simp [hj]
    rw [h]; rfl
  · have h : x &&& 2 ^ k ≠ 0 := by
      intro h
      have := congrArg (fun y => y.testBit k) h
      simp only [Nat.testBit_and, hb, Nat.testBit_two_pow_self, Nat.zero_testBit, Bool.and_true] at this
      cases this
    have h2 : ((x &&& 2 ^ k : Nat) : Int) ≠ 0 := by omega
    simp only [Bool.not_true, beq_eq_false_iff_ne, ne_eq]
    exact h2
theorem pow_int8 {k : Nat} (hk : k < 8) : (2 : Int) ^ k % 256 = ((2 ^ k : Nat) : Int) := by
  have h1 := pow_lt8 hk
  have h2 : ((2 ^ k : Nat) : Int) = (2 : Int) ^ k := by simp
  rw [← h2]
  generalize 2 ^ k = m at h1
  omega
/-- bytes that can be read. -/
def Rdb (w : World) (G : Nat) (d : List Nat) : Prop := ∀ i, i < d.length → w.cell? ⟨G, i, none⟩ = some (.int .u8 ((d.getD i 0 : Nat) : Int))
theorem Rdb.mod {w w' : World} {G : Nat} {d : List Nat} {S : List Nat} (h : Rdb w G d) (hm : Mod S w w') (hS : G ∉ S) : Rdb w' G d := fun i hi => hm.cell (h i hi) hS
theorem own_rdb {w : World} {B G N cap : Nat} {d : List Nat} (h : w.ownsRow B 5 1 (.slice (some ⟨G, 0, none⟩) N cap) N (bv d)) : Rdb w G d := fun i hi => own_cell h i (by have := h.1; simp [bv] at this; omega)
theorem rset_any (w : World) (P : Nat) (a0 a1 a2 a4 : Value) (cur b : Nat) (hc : cur < 256) (hb : b < 8) (h : Blk w P 76 #[a0, a1, a2, .int .u8 cur, a4, .int .i64 b]) :
    Calls Tryd.prog 38 #[.pointer (some ⟨P, 0, none⟩)] w fun e w' => e = .returned (.bool (cur.testBit b)) ∧ Mod [] w w' := by
  obtain ⟨c0, c1, c2, c3, c4, c5⟩ := blk6 h
  have H := Lib.hid (and_pow_ne cur b hc hb)
  have HP := Lib.hid (pow_int8 hb)
  clear h
  go_enter Tryd.func38, Tryd.ntmps38
  go_wp2_with fail
  go_region
  go_wp2
  go_ret
  exact ⟨ret_bool (by rw [HP.out, bne, H.out]; simp), by (repeat' (first | exact Mod.refl _ _ | assumption | apply Mod.drew | apply Mod.drewN | apply Mod.alloc | (refine Mod.setCell ?_ (by first | (left; simp; done) | (right; first | omega | (simp; omega) | (simp; done))) _)))⟩
theorem rnext_in (w : World) (P : Nat) (a0 a2 a3 a4 : Value) (pos b : Nat) (hp : pos < 1048576) (hb : b + 1 < 8) (h : Blk w P 76 #[a0, .int .i64 pos, a2, a3, a4, .int .i64 b]) :
    Calls Tryd.prog 39 #[.pointer (some ⟨P, 0, none⟩)] w (PB w P 76 #[a0, .int .i64 ((pos + 1 : Nat) : Int), a2, a3, a4, .int .i64 ((b + 1 : Nat) : Int)] [P]) := by
  obtain ⟨c0, c1, c2, c3, c4, c5⟩ := blk6 h
  have f5 := h.frozen 5
  have f1 := h.frozen 1
  have e2 : (((b : Int) + 1) == 8) = false := by rw [beq_eq_false_iff_ne]; omega
  have hR := hide (fun (x y : Int) (hx : x = ((b + 1 : Nat) : Int)) (hy : y = ((pos + 1 : Nat) : Int)) => (show PB w P 76 #[a0, .int .i64 ((pos + 1 : Nat) : Int), a2, a3, a4, .int .i64 ((b + 1 : Nat) : Int)] [P] (.returned (.tuple #[])) ((w.setCell ⟨P, 5, none⟩ (.int .i64 x)).setCell ⟨P, 1, none⟩ (.int .i64 y)) from
    ⟨rfl, by rw [hx, hy]; exact b6s1 (b6s5 h _) _, by (repeat' (first | exact Mod.refl _ _ | assumption | apply Mod.drew | apply Mod.drewN | apply Mod.alloc | (refine Mod.setCell ?_ (by first | (left; simp; done) | (right; first | omega | (simp; omega) | (simp; done))) _)))⟩))
  clear h
  go_enter Tryd.func39, Tryd.ntmps39
  go_wp2_with fail
  go_returns
  exact unhide hR _ _ (by omega) (by omega)
set_option maxRecDepth 100000 in
set_option maxHeartbeats 1000000 in
theorem rnext_out (w : World) (G P o n c : Nat) (d : List Nat) (len pos cur q : Nat) (hp : pos < 1048576) (hl : len < 1048576) (hq : q < 1048576) (hne : G ≠ P)
    (hnx : pos + 1 < len → q + 1 < n ∧ o + (q + 1) < d.length) (hr : Rdb w G d)
    (h : Blk w P 76 #[.slice (some ⟨G, o, none⟩) n c, .int .i64 pos, .int .i64 len, .int .u8 cur, .int .i64 q, .int .i64 7]) :
    Calls Tryd.prog 39 #[.pointer (some ⟨P, 0, none⟩)] w (PB w P 76 #[.slice (some ⟨G, o, none⟩) n c, .int .i64 ((pos + 1 : Nat) : Int), .int .i64 len, .int .u8 (((if pos + 1 < len then d.getD (o + (q + 1)) 0 else cur) : Nat) : Int), .int .i64 ((q + 1 : Nat) : Int), .int .i64 0] [P]) := by
  obtain ⟨c0, c1, c2, c3, c4, c5⟩ := blk6 h
  have f1 := h.frozen 1
  have f3 := h.frozen 3
  have f4 := h.frozen 4
  have f5 := h.frozen 5
  have hw := hide (fun (x z : Int) (hx : x = ((pos + 1 : Nat) : Int)) (hz : z = ((q + 1 : Nat) : Int)) => (show Blk ((((w.setCell ⟨P, 5, none⟩ (.int .i64 8)).setCell ⟨P, 1, none⟩ (.int .i64 x)).setCell ⟨P, 5, none⟩ (.int .i64 0)).setCell ⟨P, 4, none⟩ (.int .i64 z)) P 76 #[.slice (some ⟨G, o, none⟩) n c, .int .i64 ((pos + 1 : Nat) : Int), .int .i64 len, .int .u8 cur, .int .i64 ((q + 1 : Nat) : Int), .int .i64 0] from by
    subst hx hz
    have h1 := b6s5 h (.int .i64 8)
    have h2 := b6s1 h1 (.int .i64 ((pos + 1 : Nat) : Int))
    have h3 := b6s5 h2 (.int .i64 0)
    have h4 := b6s4 h3 (.int .i64 ((q + 1 : Nat) : Int))
    with_reducible exact h4))
  by_cases hnl : pos + 1 < len
  · obtain ⟨q1, q2⟩ := hnx hnl
    have cy := hr _ q2
    rw [if_pos hnl]
    generalize d.getD (o + (q + 1)) 0 = y at *
    have hnli : (pos : Int) + 1 < (len : Int) := by omega
    clear h hr hnx
    go_enter Tryd.func39, Tryd.ntmps39
    go_wp2_with fail
    go_region
    go_wp2_with fail
    go_region
    go_wp2_with fail
    go_returns
    exact ⟨rfl, by have := (b6s3 (unhide hw ((pos : Int) + 1) ((q : Int) + 1) (by omega) (by omega)) (.int .u8 y)).drew.drew; with_reducible exact this, by (repeat' (first | exact Mod.refl _ _ | assumption | apply Mod.drew | apply Mod.drewN | apply Mod.alloc | (refine Mod.setCell ?_ (by first | (left; simp; done) | (right; first | omega | (simp; omega) | (simp; done))) _)))⟩
  · rw [if_neg hnl]
    have hnli : ¬ (pos : Int) + 1 < (len : Int) := by omega
    clear h hr hnx
    go_enter Tryd.func39, Tryd.ntmps39
    go_wp2_with fail
    go_region
    go_wp2_with fail
    go_returns
    exact ⟨rfl, by have := (unhide hw ((pos : Int) + 1) ((q : Int) + 1) (by omega) (by omega)).drew; with_reducible exact this, by (repeat' (first | exact Mod.refl _ _ | assumption | apply Mod.drew | apply Mod.drewN | apply Mod.alloc | (refine Mod.setCell ?_ (by first | (left; simp; done) | (right; first | omega | (simp; omega) | (simp; done))) _)))⟩
theorem newBR_any (w : World) (G o n c f len : Nat) (d : List Nat) (hf : f < 1048576) (hl : len < 1048576) (h0 : 0 < len) (hn : f / 8 < n ∧ o + f / 8 < d.length) (hr : Rdb w G d) :
    Calls Tryd.prog 37 #[.slice (some ⟨G, o, none⟩) n c, .int .i64 f, .int .i64 len] w fun e w' => ∃ P, e = .returned (.pointer (some ⟨P, 0, none⟩)) ∧ w.heap.size ≤ P ∧ Mod [] w w' ∧
      Blk w' P 76 #[.slice (some ⟨G, o, none⟩) n c, .int .i64 0, .int .i64 len, .int .u8 ((d.getD (o + f / 8) 0 : Nat) : Int), .int .i64 ((f / 8 : Nat) : Int), .int .i64 ((f % 8 : Nat) : Int)] := by
  obtain ⟨h1, h2⟩ := hn
  have cg := hr _ h2
  generalize d.getD (o + f / 8) 0 = x at *
  clear hr
  go_enter Tryd.func37, Tryd.ntmps37
  go_wp2_with fail
  go_ret
  have k := Blk.new (w := w) (g := w.heap.size) 76 #[.slice (some ⟨G, o, none⟩) n c, .int .i64 0, .int .i64 len, .int .u8 x, .int .i64 ((f : Int) / 8), .int .i64 ((f : Int) % 8)] rfl
  exact ⟨w.heap.size, rfl, Nat.le_refl _, by (repeat' (first | exact Mod.refl _ _ | assumption | apply Mod.drew | apply Mod.drewN | apply Mod.alloc | (refine Mod.setCell ?_ (by first | (left; simp; done) | (right; first | omega | (simp; omega) | (simp; done))) _))), k⟩
end Go.Proofs.YtcjjajbpjfamfaaDoor
