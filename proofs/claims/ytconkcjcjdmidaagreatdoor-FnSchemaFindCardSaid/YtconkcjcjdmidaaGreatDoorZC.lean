/- Schemas that are asked; a field that is found. (YtconkcjcjdmidaaGreatDoor) -/
import Derived.Test.YtconkcjcjdmidaaGreatDoorZB
import Derived.Test.YtconkcjcjdmidaaGreatDoorTV
set_option linter.unusedVariables false
set_option linter.unusedSimpArgs false
namespace Go.Proofs.YtconkcjcjdmidaaGreatDoor
open Go.RowKit Go.ChangeShapes Go.WideShapes Go.ChangeAt Go Go.Maps
attribute [local go_sem ↓] Go.wp_at_zero Go.wp_at_succ
set_option maxRecDepth 100000 in
theorem zz3_any (w : World) (a : Option Addr) (n c : Nat) (A : Option Addr) (cm : Nat) (lm : List Pr) (hn : n ≤ 9223372036854775807) (h : Ps w (.slice A lm.length cm) lm) (hz : Sz lm) : Calls Tryz.prog 4 #[.agg #[.slice a n c, .slice A lm.length cm]] w (PBb w) := by
  have hb1 : Below w.heap.size w (w.alloc (.cells #[.slice a n c, .slice A lm.length cm] 25)) := (by repeat' (first | (with_reducible exact Below.refl _ _) | (with_reducible refine Below.setCell ?_ ?_ _) | (with_reducible refine bdrewN ?_ _) | (with_reducible refine bdrew ?_) | (with_reducible refine Below.alloc ?_ ?_ _) | exact Nat.le_refl _ | (simp; done) | (simp; omega)))
  have hc := hide (zz4_any _ _ lm (h.below hb1) hz)
  have hF := hide (fun (W : World) (hW : Below (w.alloc (.cells #[.slice a n c, .slice A lm.length cm] 25)).heap.size (w.alloc (.cells #[.slice a n c, .slice A lm.length cm] 25)) W) (b : Bool) => pbb_mk (below_tr hb1 hW hb1.size) b)
  replace hb1 := hide hb1
  clear h hz
  go_enter Tryz.func4, Tryz.ntmps4
  go_wp2_with (first | (go_at_call 8; (with_reducible refine (unhide hc).mono ?_); rintro e w2 ⟨b2, rfl, hb2⟩; replace hb2 := hide hb2) | fail)
  all_goals
    go_ret
    first
      | exact unhide hF _ (unhide hb2) _
      | exact unhide hF _ (Below.refl _ _) _
/-- a field that is asked. -/
def FdOk (w0 : World) (f : Fd) : Prop := Asked w0 f.ty ∧ f.nm' = 0
set_option maxRecDepth 100000 in
set_option maxHeartbeats 1000000 in
theorem field_any (w0 : World) (hTb : Tabs w0) (w : World) (f : Fd) (hs : f.nm.size ≤ maxLen) (ht : ∀ m, TyAt w0 m f.ty) (hb : Below w0.heap.size w0 w) : Calls Tryz.prog 9 #[.agg f.row] w (PYes (FdOk w0 f) w) := by
  obtain ⟨W0, hW0⟩ : ∃ W0, W0 = w.alloc (.cells f.row 32) := ⟨_, rfl⟩
  have hB0 : Below w.heap.size w W0 := by rw [hW0]; exact (by repeat' (first | (with_reducible exact Below.refl _ _) | (with_reducible refine Below.setCell ?_ ?_ _) | (with_reducible refine bdrewN ?_ _) | (with_reducible refine bdrew ?_) | (with_reducible refine Below.alloc ?_ ?_ _) | exact Nat.le_refl _ | (simp; done) | (simp; omega)))
  have hK : Blk W0 w.heap.size 32 f.row := by rw [hW0]; exact Blk.new _ _ rfl
  obtain ⟨c0, c1, c2, c3, c4, c5, c6, c7, c8, c9, ca, cb, cc⟩ := FB.fc0 hK
  have hFc := hide (fun (W : World) (hW : Below W0.heap.size W0 W) => FB.fc0 (hK.below hW : FB W w.heap.size f))
  have hasked := hide (asked_any w0 hTb W0 f.ty ht (below_tr hb hB0 hb.size))
  have hwf := hide (fun (W : World) (hW : Below W0.heap.size W0 W) => wf_any w0 W hTb (below_tr (below_tr hb hB0 hb.size) hW (Nat.le_trans hb.size hB0.size)) f.nm hs)
  have hno := hide (fun (W : World) (hW : Below W0.heap.size W0 W) => pyes_no (C := FdOk w0 f) (below_tr hB0 hW hB0.size))
  have hyes := hide (fun (W : World) (b : Bool) (hW : Below W0.heap.size W0 W) (h1 : Asked w0 f.ty) (h2 : f.nm' = 0) => pyes_mk (C := FdOk w0 f) b (below_tr hB0 hW hB0.size) (fun _ => ⟨h1, h2⟩))
  replace hK := hide hK
  clear hb hB0 hTb ht
  go_enter Tryz.func9, Tryz.ntmps9
  go_upto_region 1 with (fail)
  rw [← hW0]
  clear hW0
  go_wp2_with (first
    | (go_at_call 16; (with_reducible refine (unhide hasked).mono ?_); rintro e w2 ⟨b2, rfl, hb2C, hb2⟩; obtain ⟨d0, d1, d2, d3, d4, d5, d6, d7, d8, d9, da, db, dc⟩ := unhide hFc w2 hb2; replace hb2 := hide hb2; replace hb2C := hide hb2C)
    | (go_at_call 17; (with_reducible refine (unhide hwf _ (unhide hb2)).mono ?_); rintro e w3 ⟨b3, rfl, hb3⟩; have hb23 := below_tr (unhide hb2) hb3 (unhide hb2).size; obtain ⟨e0, e1, e2, e3, e4, e5, e6, e7, e8, e9, ea, eb, ec⟩ := unhide hFc w3 hb23; replace hb23 := hide hb23; clear hb3)
    | fail)
  all_goals
    go_ret
    first
      | exact unhide hno w3 (unhide hb23)
      | exact unhide hno w2 (unhide hb2)
      | exact unhide hyes w3 _ (unhide hb23) (unhide hb2C (by first | rfl | assumption | trivial)) (by first | assumption | omega)
/-- a schema that is asked. -/
def SchOk (w0 : World) (a : Option Addr) (n m : Nat) : Prop := n ≤ 20 ∧ m ≤ 20 ∧ ∀ k, k < n → FdOk w0 (fAt w0 a k)
def FR (w0 w : World) (a : Option Addr) (n : Nat) (v : Value) (wr : World) : Prop := ∃ i : Nat, v = .int .i64 (i : Int) ∧ i ≤ n ∧ Below w.heap.size w wr ∧ ∀ k, k < i → FdOk w0 (fAt w0 a k)
theorem FR.next {w0 w wr W : World} {a : Option Addr} {n i : Nat} {f : Fd} (hi : i < n) (hB : Below w.heap.size w wr) (hR : ∀ k, k < i → FdOk w0 (fAt w0 a k)) (h0 : FdOk w0 (fAt w0 a i)) (h : Below (wr.alloc (.cells f.row 32)).heap.size (wr.alloc (.cells f.row 32)) W) :
    FR w0 w a n (.int .i64 ((i : Int) + 1)) W :=
  ⟨i + 1, by simp, by omega, below_tr (hB.alloc hB.size _) h (by simp; have := hB.size; omega), fun k hk => by
    rcases Nat.lt_or_ge k i with h4 | h4
    · exact hR k h4
    · obtain rfl : k = i := by omega
      exact h0⟩
theorem FR.far {w wr W : World} {f : Fd} (hB : Below w.heap.size w wr) (h : Below (wr.alloc (.cells f.row 32)).heap.size (wr.alloc (.cells f.row 32)) W) : Below w.heap.size w W :=
  below_tr (hB.alloc hB.size _) h (by simp; have := hB.size; omega)
set_option maxRecDepth 100000 in
set_option maxHeartbeats 1000000 in
theorem fields_any (w0 : World) (hTb : Tabs w0) (w : World) (a : Option Addr) (n c : Nat) (A : Option Addr) (m cm : Nat) (hfs : Fs w0 a n c) (ht : ∀ k, k < n → ∀ j, TyAt w0 j (fAt w0 a k).ty) (hb : Below w0.heap.size w0 w) :
    Calls Tryz.prog 5 #[.agg #[.slice a n c, .slice A m cm]] w (PYes (SchOk w0 a n m) w) := by
  have hnm : n ≤ 9223372036854775807 := hfs.2.1
  obtain ⟨W0, hW0⟩ : ∃ W0, W0 = w.alloc (.cells #[.slice a n c, .slice A m cm] 25) := ⟨_, rfl⟩
  have hB0 : Below w.heap.size w W0 := by rw [hW0]; exact (by repeat' (first | (with_reducible exact Below.refl _ _) | (with_reducible refine Below.setCell ?_ ?_ _) | (with_reducible refine bdrewN ?_ _) | (with_reducible refine bdrew ?_) | (with_reducible refine Below.alloc ?_ ?_ _) | exact Nat.le_refl _ | (simp; done) | (simp; omega)))
  have hK : Blk W0 w.heap.size 25 #[.slice a n c, .slice A m cm] := by rw [hW0]; exact Blk.new _ _ rfl
  have hS := hide (fun (W : World) (hW : Below W0.heap.size W0 W) => (show W.cell? ⟨w.heap.size, 0, none⟩ = some (.slice a n c) ∧ W.cell? ⟨w.heap.size, 1, none⟩ = some (.slice A m cm) from ⟨by have := (hK.below hW).cell 0; simpa using this, by have := (hK.below hW).cell 1; simpa using this⟩))
  obtain ⟨c0, c1⟩ := unhide hS W0 (Below.refl _ _)
  have hbW := below_tr hb hB0 hb.size
  have hsW := hbW.size
  have h00 := hide (show FR w0 W0 a n (.int .i64 0) W0 from ⟨0, rfl, Nat.zero_le _, Below.refl _ _, fun k hk => absurd hk (by omega)⟩)
  have hno := hide (fun (W : World) (hW : Below W0.heap.size W0 W) => pyes_no (C := SchOk w0 a n m) (below_tr hB0 hW hB0.size))
  have hfin := hide (fun (W : World) (b : Bool) (hW : Below W0.heap.size W0 W) (h : ∀ k, k < n → FdOk w0 (fAt w0 a k)) (h1 : b = true → n ≤ 20 ∧ m ≤ 20) => pyes_mk (C := SchOk w0 a n m) b (below_tr hB0 hW hB0.size) (fun e => ⟨(h1 e).1, (h1 e).2, h⟩))
  have hfd := hide (fun (W : World) (hW : Below W0.heap.size W0 W) (k : Nat) (hk : k < n) (hns : (fAt w0 a k).nm.size ≤ maxLen) => field_any w0 hTb W (fAt w0 a k) hns (ht k hk) (below_tr hbW hW hsW))
  have hC := hide (fun (hz : 0 < n) => (show ∃ b o, a = some ⟨b, o, none⟩ ∧ ∀ W, Below W0.heap.size W0 W → ∀ k, k < n → FCells W b (o + k * 13) (fAt w0 a k) ∧ (fAt w0 a k).nm.size ≤ maxLen from by
    obtain ⟨b, o, ha, hcs⟩ := hfs.base hz
    exact ⟨b, o, ha, fun W hB k hk => hcs W (below_tr hbW hB hsW) k hk⟩))
  clear hb hB0 hTb ht hfs hK hbW hsW
  rcases Nat.eq_zero_or_pos n with hz | hz
  · subst hz
    have hF := hide (fun (b : Bool) (h1 : b = true → 0 ≤ 20 ∧ m ≤ 20) => unhide hfin W0 b (Below.refl _ _) (fun k hk => absurd hk (by omega)) h1)
    clear hfin hno hfd hC h00
    go_enter Tryz.func5, Tryz.ntmps5
    go_upto_region 1 with (fail)
    rw [← hW0]
    clear hW0
    go_wp2_with fail
    refine wp_loop_rounds 1 ?_
    rw [rounds_succ]
    go_wp2_with fail
    all_goals
      go_ret
      exact unhide hF _ (fun h => by first | (simp at h; done) | (simp at h; omega) | omega)
  · obtain ⟨b, o, rfl, hcs⟩ := (unhide hC) hz
    replace hcs := hide hcs
    clear hC
    go_enter Tryz.func5, Tryz.ntmps5
    go_upto_region 1 with (fail)
    rw [← hW0]
    clear hW0
    go_wp2_with fail
    go_loopw [8] (FR w0 W0 (some ⟨b, o, none⟩) n) (fun v _ => n - (intOf v).toNat)
    case atStart => exact unhide h00
    case round =>
      obtain ⟨i, rfl, hi, hB, hR⟩ := hrel
      by_cases hlt : i < n
      · obtain ⟨hfc, hns⟩ := (unhide hcs) wr hB i hlt
        have hBn := hB.alloc hB.size (.cells (fAt w0 (some ⟨b, o, none⟩) i).row 32)
        have hcall := (unhide hfd) _ hBn i hlt hns
        have hnx := hide (fun (W : World) (h0 : FdOk w0 (fAt w0 (some ⟨b, o, none⟩) i)) => FR.next (W := W) (f := fAt w0 (some ⟨b, o, none⟩) i) hlt hB hR h0)
        have hdn := hide (fun (W : World) (h : Below (wr.alloc (.cells (fAt w0 (some ⟨b, o, none⟩) i).row 32)).heap.size (wr.alloc (.cells (fAt w0 (some ⟨b, o, none⟩) i).row 32)) W) => unhide hno W (FR.far (f := fAt w0 (some ⟨b, o, none⟩) i) hB h))
        have hlt' : (i : Int) < (n : Int) := by omega
        have hw1 : IntKind.i64.wrap ((i : Int) + 1) = (i : Int) + 1 := (IntWalk.i64_left _).trans (IntWalk.wrap64_in _ (by omega))
        generalize fAt w0 (some ⟨b, o, none⟩) i = f at *
        replace hcall := hide hcall
        obtain ⟨d0, d1, d2, d3, d4, d5, d6, d7, d8, d9, d10, d11, d12⟩ := hfc
        clear hB hBn hR hfd hcs hno hfin h00
        go_wp2_with (first | (go_at_call 9; (with_reducible refine (unhide hcall).mono ?_); rintro e w2 ⟨b2, rfl, hb2C, hb2⟩; replace hb2 := hide hb2; replace hb2C := hide hb2C) | fail)
        all_goals first
          | (go_ret; exact unhide hdn w2 (unhide hb2))
          | exact ⟨unhide hnx w2 (unhide hb2C (by first | rfl | assumption | trivial | simpa using ‹(!b2) = false›)) (unhide hb2), by show n - (intOf (Value.int IntKind.i64 ((i : Int) + 1))).toNat < n - (intOf (Value.int IntKind.i64 (i : Int))).toNat; simp only [intOf]; omega⟩
      · obtain rfl : i = n := by omega
        have hlt' : ¬ (i : Int) < (i : Int) := by omega
        obtain ⟨d0, d1⟩ := unhide hS wr hB
        have hF := hide (fun (b : Bool) => unhide hfin wr b hB hR)
        clear hB hR hfin hno hfd hcs h00
        go_wp2_with fail
        all_goals
          go_ret
          exact unhide hF _ (fun h => by first | (simp at h; done) | (simp at h; omega) | omega)
end Go.Proofs.YtconkcjcjdmidaaGreatDoor
