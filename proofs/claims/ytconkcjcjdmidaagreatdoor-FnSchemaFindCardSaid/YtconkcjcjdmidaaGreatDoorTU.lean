/- Usual names within a type. (YtconkcjcjdmidaaGreatDoor) -/
import Derived.Test.YtconkcjcjdmidaaGreatDoorTQ
import Derived.Test.YtconkcjcjdmidaaGreatDoorTE
import Derived.Test.YtconkcjcjdmidaaGreatDoorTS
import Derived.Test.YtconkcjcjdmidaaGreatDoorShelf
import Derived.BigQuiet
import Derived.Deep.QuietTactic
set_option linter.unusedVariables false
set_option linter.unusedSimpArgs false
namespace Go.Proofs.YtconkcjcjdmidaaGreatDoor
open Go.RowKit Go.ChangeShapes Go.WideShapes Go.ChangeAt Go
/-- the tables of unicode/utf8. -/
def Tabs (w : World) : Prop := Lib.Utf8Tabs (Tryz.validL_ren.g 3) (Tryz.validL_ren.g 4) w
theorem wf_any (w0 w : World) (hT : Tabs w0) (hb : Below w0.heap.size w0 w) (s : ByteArray) (hs : s.size ≤ maxLen) : Calls Tryz.prog 17 #[.string s] w (PSome w) := by
  have cV : Calls Tryz.prog 24 #[.string s] w _ := Any.utf8_ValidString Tryz.validL s w hs (Utf8Tabs_below hT hb)
  generalize Lib.validD s.data.toList = V at cV
  clear hs hb hT
  go_enter Tryz.func17, Tryz.ntmps17
  go_wp2_with (go_at_call 24; (with_reducible refine cV.mono ?_); rintro e w' ⟨rfl, hb⟩)
  go_ret
  exact ⟨_, rfl, hb⟩
def FC0 (W : World) (g : Nat) (f : Fd) : Prop := W.cell? ⟨g, 0, none⟩ = some (.string f.nm) ∧ W.cell? ⟨g, 1, none⟩ = some (.bool f.nl) ∧ W.cell? ⟨g, 2, none⟩ = some (.int .i64 f.ty.kd) ∧ W.cell? ⟨g, 3, none⟩ = some (.int .i64 f.ty.wd) ∧ W.cell? ⟨g, 4, none⟩ = some (.bool f.ty.sg) ∧ W.cell? ⟨g, 5, none⟩ = some (.int .i64 f.ty.un) ∧ W.cell? ⟨g, 6, none⟩ = some (.int .i64 f.ty.pr) ∧ W.cell? ⟨g, 7, none⟩ = some (.int .i64 f.ty.sc) ∧ W.cell? ⟨g, 8, none⟩ = some (.string f.ty.zn) ∧ W.cell? ⟨g, 9, none⟩ = some (.bool f.ty.fl) ∧ W.cell? ⟨g, 10, none⟩ = some (.slice f.ty.ai f.ty.ni f.ty.ci) ∧ W.cell? ⟨g, 11, none⟩ = some (.slice f.ty.af f.ty.nf f.ty.cf) ∧ W.cell? ⟨g, 12, none⟩ = some (.slice f.am f.nm' f.cm)
theorem FB.fc0 {w : World} {g : Nat} {f : Fd} (h : FB w g f) : FC0 w g f := by
  obtain ⟨h0, h1, h2, h3, h4, h5, h6, h7, h8, h9, h10, h11, h12⟩ := h.cells
  exact ⟨h0, h1, h2, h3, h4, h5, h6, h7, h8, h9, h10, h11, h12⟩
def UsR (w0 wc : World) (n : Nat) (t : Ty) (v : Value) (wr : World) : Prop :=
  ∃ i : Nat, v = .int .i64 (i : Int) ∧ i ≤ t.nf ∧ Below wc.heap.size wc wr ∧ ∀ k, k < i → (fAt w0 t.af k).nm' = 0 ∧ Nm w0 n (fAt w0 t.af k).ty
theorem UsR.next {w0 wc wr W : World} {n i : Nat} {t : Ty} {f : Fd} (hi : i < t.nf) (hB : Below wc.heap.size wc wr) (hR : ∀ k, k < i → (fAt w0 t.af k).nm' = 0 ∧ Nm w0 n (fAt w0 t.af k).ty) (h0 : (fAt w0 t.af i).nm' = 0) (h1 : Nm w0 n (fAt w0 t.af i).ty) (h : Below (wr.alloc (.cells f.row 32)).heap.size (wr.alloc (.cells f.row 32)) W) :
    UsR w0 wc n t (.int .i64 ((i : Int) + 1)) W :=
  ⟨i + 1, by simp, by omega, below_tr (hB.alloc hB.size _) h (by simp; have := hB.size; omega), fun k hk => by
    rcases Nat.lt_or_ge k i with h4 | h4
    · exact hR k h4
    · obtain rfl : k = i := by omega
      exact ⟨h0, h1⟩⟩
theorem UsR.far {wc wr W : World} {f : Fd} (hB : Below wc.heap.size wc wr) (h : Below (wr.alloc (.cells f.row 32)).heap.size (wr.alloc (.cells f.row 32)) W) : Below wc.heap.size wc W :=
  below_tr (hB.alloc hB.size _) h (by simp; have := hB.size; omega)
set_option maxRecDepth 1000000 in
set_option maxHeartbeats 8000000 in
theorem usual_map (w0 : World) (hTb : Tabs w0) (n : Nat) (w : World) (t : Ty) (hk : t.kd = 17) (hok : Ok w0 (n + 1) t) (ht : ∀ m, TyAt w0 m t) (hb : Below w0.heap.size w0 w)
    (hu : ∀ (W : World) (k : Nat), k < t.nf → Below w.heap.size w W → Calls Tryz.prog 36 #[(fAt w0 t.af k).ty.val] W (PYes (Nm w0 n (fAt w0 t.af k).ty) W)) :
    Calls Tryz.prog 23 #[t.val] w (PYes (Nm w0 (n + 1) t) w) := by
  have hok0 := hok
  obtain ⟨h1, h2, h3, h4, _⟩ := hok0
  obtain ⟨_, _, _, _, _, _, _, hfs, _⟩ := ht 1
  have hnf : t.nf ≤ 9223372036854775807 := hfs.2.1
  have hs := hb.size
  have hB0 := (show Below w.heap.size w (w.alloc (.cells #[.int .i64 t.kd, .int .i64 t.wd, .bool t.sg, .int .i64 t.un, .int .i64 t.pr, .int .i64 t.sc, .string t.zn, .bool t.fl, .slice t.ai t.ni t.ci, .slice t.af t.nf t.cf] 30)) from (Below.refl _ _).alloc (Nat.le_refl _) _)
  have hT := TB.new w t
  obtain ⟨W0, hw0⟩ : ∃ W0, W0 = (w.alloc (.cells #[.int .i64 t.kd, .int .i64 t.wd, .bool t.sg, .int .i64 t.un, .int .i64 t.pr, .int .i64 t.sc, .string t.zn, .bool t.fl, .slice t.ai t.ni t.ci, .slice t.af t.nf t.cf] 30)) := ⟨_, rfl⟩
  rw [← hw0] at hT hB0
  have hfin := hide (fun (W : World) (h : Below w.heap.size w W) (hR : ∀ k, k < t.nf → (fAt w0 t.af k).nm' = 0 ∧ Nm w0 n (fAt w0 t.af k).ty) => (pyes_yes h hR : PYes (Nm w0 (n + 1) t) w (.returned (.bool true)) W))
  have hno := hide (fun (W : World) (h : Below w.heap.size w W) => pyes_no (C := Nm w0 (n + 1) t) h)
  have hC := hide (fun (hz : 0 < t.nf) => (show ∃ b o, t.af = some ⟨b, o, none⟩ ∧ ∀ W, Below w.heap.size w W → ∀ k, k < t.nf → FCells W b (o + k * 13) (fAt w0 t.af k) ∧ (fAt w0 t.af k).nm.size ≤ maxLen from by
    obtain ⟨b, o, ha, hcs⟩ := hfs.base hz
    exact ⟨b, o, ha, fun W hB k hk => hcs W (below_tr hb hB hs) k hk⟩))
  have hwf := hide (fun (W : World) (h : Below w.heap.size w W) (s : ByteArray) (h9 : s.size ≤ maxLen) => wf_any w0 W hTb (below_tr hb h hs) s h9)
  obtain ⟨w1, w2, w3, w4, w5, w6, w7, w8, x, r1, r2, r3, r4, r5, r6, r7, r8, hx, hwant, hb8⟩ := nm_made W0 t.kd t.nf h1 h2 h4
  have hT8 := hide (hT.below hb8)
  have hB8 := hide (below_tr hB0 hb8 hB0.size)
  have hmm := @run_makeMap Tryz.prog
  simp only [World.size_alloc] at r1
  replace hT := hide hT
  replace hu := hide hu
  replace hwant := hide hwant
  replace hk := hide hk
  replace hx := hide hx
  clear hok ht hfs hb hTb h1 h2 h3 h4 hB0 hb8
  go_enter Tryz.func23, Tryz.ntmps23
  go_upto_region 1 with (fail)
  rw [← hw0]
  clear hw0
  go_cut [3] (fun v3 wx => v3 = .map (some W0.heap.size) ∧ wx = w8)
  case first =>
    go_wp2_with fail
    go_meet
    exact ⟨rfl, rfl⟩
  obtain ⟨rfl, rfl⟩ := hcut
  clear r1 r2 r3 r4 r5 r6 r7 r8 hmm
  replace hx := unhide hx
  obtain ⟨c0, c1, c2, c3, c4, c5, c6, c7, c8, c9⟩ := (unhide hT8).cells
  rw [unhide hk] at c0 hx
  rcases Nat.eq_zero_or_pos t.nf with hz | hz
  · rw [hz] at c9
    have hF := hide (unhide hfin wc (unhide hB8) (fun k hk => absurd hk (by rw [hz]; omega)))
    clear hfin hno hC hwf hu hz hwant hT hT8
    go_wp2_with fail
    refine wp_loop_rounds 1 ?_
    rw [rounds_succ]
    go_wp2_with fail
    go_ret
    exact unhide hF
  · obtain ⟨b, o, ha, hcs⟩ := (unhide hC) hz
    have h00 := hide (show UsR w0 wc n t (.int .i64 0) wc from ⟨0, rfl, Nat.zero_le _, Below.refl _ _, fun k hk => absurd hk (by omega)⟩)
    replace hcs := hide hcs
    rw [ha] at c9
    replace ha := hide ha
    clear hC hT
    rcases (unhide hwant) with rfl | ⟨g, m, rfl, hm, hg, hcw⟩
    · skip
      clear hwant
      go_wp2_with fail
      go_loopw [26] (UsR w0 wc n t) (fun v _ => t.nf - (intOf v).toNat)
      case atStart => exact unhide h00
      case round =>
        obtain ⟨i, rfl, hi, hB, hR⟩ := hrel
        have hBw := below_tr (unhide hB8) hB (unhide hB8).size
        have hT9 := hide ((unhide hT8).below hB)
        obtain ⟨c0, c1, c2, c3, c4, c5, c6, c7, c8, c9⟩ := (unhide hT9).cells
        rw [unhide hk] at c0
        by_cases hlt : i < t.nf
        · obtain ⟨hfc, hns⟩ := (unhide hcs) wr hBw i hlt
          have hBn := hBw.alloc hBw.size (.cells (fAt w0 t.af i).row 32)
          have hcall := (unhide hu) _ i hlt hBn
          have hnx := hide (fun (W : World) => UsR.next (W := W) (f := fAt w0 t.af i) hlt hB hR)
          have hdn := hide (fun (W : World) (h : Below (wr.alloc (.cells (fAt w0 t.af i).row 32)).heap.size (wr.alloc (.cells (fAt w0 t.af i).row 32)) W) => unhide hno W (below_tr (unhide hB8) (UsR.far (f := fAt w0 t.af i) hB h) (unhide hB8).size))
          have hwf2 := hide (fun (W : World) (h : Below (wr.alloc (.cells (fAt w0 t.af i).row 32)).heap.size (wr.alloc (.cells (fAt w0 t.af i).row 32)) W) => unhide hwf W (below_tr (unhide hB8) (UsR.far (f := fAt w0 t.af i) hB h) (unhide hB8).size) (fAt w0 t.af i).nm hns)
          have hBf := hide (fun (W : World) (h : Below (wr.alloc (.cells (fAt w0 t.af i).row 32)).heap.size (wr.alloc (.cells (fAt w0 t.af i).row 32)) W) => (show TB W w.heap.size t ∧ FC0 W wr.heap.size (fAt w0 t.af i) from ⟨((unhide hT9).alloc _).below h, FB.fc0 ((Blk.new (w := wr) 32 (fAt w0 t.af i).row rfl).below h)⟩))
          have hlt' : (i : Int) < (t.nf : Int) := by omega
          have hw1 : IntKind.i64.wrap ((i : Int) + 1) = (i : Int) + 1 := (IntWalk.i64_left _).trans (IntWalk.wrap64_in _ (by omega))
          generalize fAt w0 t.af i = f at *
          replace hcall := hide hcall
          obtain ⟨d0, d1, d2, d3, d4, d5, d6, d7, d8, d9, d10, d11, d12⟩ := hfc
          have hwlt : w.heap.size < wr.heap.size := Blk.lt (unhide hT9)
          have hgs := hB.size
          clear hB hBw hBn hR hu hcs hno hfin hwf h00 hT9
          all_goals
            go_wp2_with (first
              | (go_at_call 36; (with_reducible refine (unhide hcall).mono ?_); rintro e w2 ⟨b2, rfl, hb2C, hb2⟩; obtain ⟨hT2, p20, p21, p22, p23, p24, p25, p26, p27, p28, p29, p2a, p2b, p2c⟩ := unhide hBf w2 hb2; obtain ⟨e20, e21, e22, e23, e24, e25, e26, e27, e28, e29⟩ := hT2.cells; clear hT2; rw [unhide hk] at e20; replace hb2 := hide hb2; replace hb2C := hide hb2C)
              | (go_at_call 17; (with_reducible refine (unhide hwf2 _ (unhide hb2)).mono ?_); rintro e w3 ⟨b3, rfl, hb3⟩; have hb23 := below_tr (unhide hb2) hb3 (unhide hb2).size; obtain ⟨hT3, p30, p31, p32, p33, p34, p35, p36, p37, p38, p39, p3a, p3b, p3c⟩ := unhide hBf w3 hb23; obtain ⟨e30, e31, e32, e33, e34, e35, e36, e37, e38, e39⟩ := hT3.cells; clear hT3; rw [unhide hk] at e30; replace hb23 := hide hb23; clear hb3)
              | fail)
            all_goals first
              | (go_ret; first | exact unhide hdn w3 (unhide hb23) | exact unhide hdn w2 (unhide hb2))
              | skip
            all_goals
              go_quiet (fail)
              go_wp2_with fail
            all_goals first
              | (go_ret; exact unhide hdn _ (bdrewN (unhide hb23) _))
              | exact ⟨unhide hnx _ (by first | assumption | omega) (unhide hb2C (by first | rfl | assumption | trivial)) (bdrewN (unhide hb23) _), by show t.nf - (intOf (Value.int IntKind.i64 ((i : Int) + 1))).toNat < t.nf - (intOf (Value.int IntKind.i64 (i : Int))).toNat; simp only [intOf]; omega⟩
              | (go_roundw; (case rel => exact unhide hnx _ (by first | assumption | omega) (unhide hb2C (by first | rfl | assumption | trivial)) (bdrewN (unhide hb23) _)); (case measure => show t.nf - (intOf (Value.int IntKind.i64 ((i : Int) + 1))).toNat < t.nf - (intOf (Value.int IntKind.i64 (i : Int))).toNat; simp only [intOf]; omega))
        · obtain rfl : i = t.nf := by omega
          have hlt' : ¬ (t.nf : Int) < (t.nf : Int) := by omega
          have hF := hide (unhide hfin wr hBw hR)
          clear hB hBw hR
          go_wp2_with fail
          go_ret
          exact unhide hF
    · skip
      replace hcw := hide hcw
      clear hwant
      go_wp2_with fail
      go_loopw [26] (UsR w0 wc n t) (fun v _ => t.nf - (intOf v).toNat)
      case atStart => exact unhide h00
      case round =>
        obtain ⟨i, rfl, hi, hB, hR⟩ := hrel
        have hBw := below_tr (unhide hB8) hB (unhide hB8).size
        have hT9 := hide ((unhide hT8).below hB)
        obtain ⟨c0, c1, c2, c3, c4, c5, c6, c7, c8, c9⟩ := (unhide hT9).cells
        rw [unhide hk] at c0
        by_cases hlt : i < t.nf
        · obtain ⟨hfc, hns⟩ := (unhide hcs) wr hBw i hlt
          obtain ⟨sw, hsw⟩ := (unhide hcw) i (by omega)
          have hsw1 : wr.cell? ⟨g, i, none⟩ = some (.string sw) := (hB.cell hg).trans hsw
          have hswA : (wr.alloc (.cells (fAt w0 t.af i).row 32)).cell? ⟨g, i, none⟩ = some (.string sw) := (Below.cell (B := wr.heap.size) (by repeat' (first | (with_reducible exact Below.refl _ _) | (with_reducible refine Below.setCell ?_ ?_ _) | (with_reducible refine bdrewN ?_ _) | (with_reducible refine bdrew ?_) | (with_reducible refine Below.alloc ?_ ?_ _) | exact Nat.le_refl _ | (simp; done))) (Nat.lt_of_lt_of_le hg hB.size)).trans hsw1
          clear hsw
          have hBn := hBw.alloc hBw.size (.cells (fAt w0 t.af i).row 32)
          have hcall := (unhide hu) _ i hlt hBn
          have hnx := hide (fun (W : World) => UsR.next (W := W) (f := fAt w0 t.af i) hlt hB hR)
          have hdn := hide (fun (W : World) (h : Below (wr.alloc (.cells (fAt w0 t.af i).row 32)).heap.size (wr.alloc (.cells (fAt w0 t.af i).row 32)) W) => unhide hno W (below_tr (unhide hB8) (UsR.far (f := fAt w0 t.af i) hB h) (unhide hB8).size))
          have hwf2 := hide (fun (W : World) (h : Below (wr.alloc (.cells (fAt w0 t.af i).row 32)).heap.size (wr.alloc (.cells (fAt w0 t.af i).row 32)) W) => unhide hwf W (below_tr (unhide hB8) (UsR.far (f := fAt w0 t.af i) hB h) (unhide hB8).size) (fAt w0 t.af i).nm hns)
          have hBf := hide (fun (W : World) (h : Below (wr.alloc (.cells (fAt w0 t.af i).row 32)).heap.size (wr.alloc (.cells (fAt w0 t.af i).row 32)) W) => (show TB W w.heap.size t ∧ FC0 W wr.heap.size (fAt w0 t.af i) from ⟨((unhide hT9).alloc _).below h, FB.fc0 ((Blk.new (w := wr) 32 (fAt w0 t.af i).row rfl).below h)⟩))
          have hlt' : (i : Int) < (t.nf : Int) := by omega
          have hw1 : IntKind.i64.wrap ((i : Int) + 1) = (i : Int) + 1 := (IntWalk.i64_left _).trans (IntWalk.wrap64_in _ (by omega))
          generalize fAt w0 t.af i = f at *
          replace hcall := hide hcall
          obtain ⟨d0, d1, d2, d3, d4, d5, d6, d7, d8, d9, d10, d11, d12⟩ := hfc
          have hwlt : w.heap.size < wr.heap.size := Blk.lt (unhide hT9)
          have hgs := hB.size
          clear hB hBw hBn hR hu hcs hno hfin hwf h00 hT9
          all_goals
            go_wp2_with (first
              | (go_at_call 36; (with_reducible refine (unhide hcall).mono ?_); rintro e w2 ⟨b2, rfl, hb2C, hb2⟩; obtain ⟨hT2, p20, p21, p22, p23, p24, p25, p26, p27, p28, p29, p2a, p2b, p2c⟩ := unhide hBf w2 hb2; obtain ⟨e20, e21, e22, e23, e24, e25, e26, e27, e28, e29⟩ := hT2.cells; clear hT2; rw [unhide hk] at e20; replace hb2 := hide hb2; replace hb2C := hide hb2C)
              | (go_at_call 17; (with_reducible refine (unhide hwf2 _ (unhide hb2)).mono ?_); rintro e w3 ⟨b3, rfl, hb3⟩; have hb23 := below_tr (unhide hb2) hb3 (unhide hb2).size; obtain ⟨hT3, p30, p31, p32, p33, p34, p35, p36, p37, p38, p39, p3a, p3b, p3c⟩ := unhide hBf w3 hb23; obtain ⟨e30, e31, e32, e33, e34, e35, e36, e37, e38, e39⟩ := hT3.cells; clear hT3; rw [unhide hk] at e30; have hsw3 := (hb23.cell (p := ⟨g, i, none⟩) (by simp; omega)).trans hswA; replace hb23 := hide hb23; clear hb3)
              | fail)
            all_goals first
              | (go_ret; first | exact unhide hdn w3 (unhide hb23) | exact unhide hdn w2 (unhide hb2))
              | skip
            all_goals
              go_quiet (fail)
              go_wp2_with fail
            all_goals first
              | (go_ret; exact unhide hdn _ (bdrewN (unhide hb23) _))
              | exact ⟨unhide hnx _ (by first | assumption | omega) (unhide hb2C (by first | rfl | assumption | trivial)) (bdrewN (unhide hb23) _), by show t.nf - (intOf (Value.int IntKind.i64 ((i : Int) + 1))).toNat < t.nf - (intOf (Value.int IntKind.i64 (i : Int))).toNat; simp only [intOf]; omega⟩
              | (go_roundw; (case rel => exact unhide hnx _ (by first | assumption | omega) (unhide hb2C (by first | rfl | assumption | trivial)) (bdrewN (unhide hb23) _)); (case measure => show t.nf - (intOf (Value.int IntKind.i64 ((i : Int) + 1))).toNat < t.nf - (intOf (Value.int IntKind.i64 (i : Int))).toNat; simp only [intOf]; omega))
        · obtain rfl : i = t.nf := by omega
          have hlt' : ¬ (t.nf : Int) < (t.nf : Int) := by omega
          have hF := hide (unhide hfin wr hBw hR)
          clear hB hBw hR
          go_wp2_with fail
          go_ret
          exact unhide hF
set_option maxRecDepth 1000000 in
set_option maxHeartbeats 8000000 in
theorem usual_o22 (w0 : World) (hTb : Tabs w0) (n : Nat) (w : World) (t : Ty) (hk : ¬ t.kd = 17) (z3 : (t.kd == 22) = true) (z4 : (t.kd == 27) = false) (hok : Ok w0 (n + 1) t) (ht : ∀ m, TyAt w0 m t) (hb : Below w0.heap.size w0 w)
    (hu : ∀ (W : World) (k : Nat), k < t.nf → Below w.heap.size w W → Calls Tryz.prog 23 #[(fAt w0 t.af k).ty.val] W (PYes (Nm w0 n (fAt w0 t.af k).ty) W)) :
    Calls Tryz.prog 23 #[t.val] w (PYes (Nm w0 (n + 1) t) w) := by
  have hok0 := hok
  obtain ⟨h1, h2, h3, h4, _⟩ := hok0
  obtain ⟨_, _, _, _, _, _, _, hfs, _⟩ := ht 1
  have hnf : t.nf ≤ 9223372036854775807 := hfs.2.1
  have hs := hb.size
  have hB0 := (show Below w.heap.size w (w.alloc (.cells #[.int .i64 t.kd, .int .i64 t.wd, .bool t.sg, .int .i64 t.un, .int .i64 t.pr, .int .i64 t.sc, .string t.zn, .bool t.fl, .slice t.ai t.ni t.ci, .slice t.af t.nf t.cf] 30)) from (Below.refl _ _).alloc (Nat.le_refl _) _)
  have hT := TB.new w t
  obtain ⟨W0, hw0⟩ : ∃ W0, W0 = (w.alloc (.cells #[.int .i64 t.kd, .int .i64 t.wd, .bool t.sg, .int .i64 t.un, .int .i64 t.pr, .int .i64 t.sc, .string t.zn, .bool t.fl, .slice t.ai t.ni t.ci, .slice t.af t.nf t.cf] 30)) := ⟨_, rfl⟩
  rw [← hw0] at hT hB0
  have hfin := hide (fun (W : World) (h : Below w.heap.size w W) (hR : ∀ k, k < t.nf → (fAt w0 t.af k).nm' = 0 ∧ Nm w0 n (fAt w0 t.af k).ty) => (pyes_yes h hR : PYes (Nm w0 (n + 1) t) w (.returned (.bool true)) W))
  have hno := hide (fun (W : World) (h : Below w.heap.size w W) => pyes_no (C := Nm w0 (n + 1) t) h)
  have hC := hide (fun (hz : 0 < t.nf) => (show ∃ b o, t.af = some ⟨b, o, none⟩ ∧ ∀ W, Below w.heap.size w W → ∀ k, k < t.nf → FCells W b (o + k * 13) (fAt w0 t.af k) ∧ (fAt w0 t.af k).nm.size ≤ maxLen from by
    obtain ⟨b, o, ha, hcs⟩ := hfs.base hz
    exact ⟨b, o, ha, fun W hB k hk => hcs W (below_tr hb hB hs) k hk⟩))
  have hwf := hide (fun (W : World) (h : Below w.heap.size w W) (s : ByteArray) (h9 : s.size ≤ maxLen) => wf_any w0 W hTb (below_tr hb h hs) s h9)
  obtain ⟨w1, w2, w3, w4, w5, w6, w7, w8, x, r1, r2, r3, r4, r5, r6, r7, r8, hx, hwant, hb8⟩ := nm_made W0 t.kd t.nf h1 h2 h4
  have hT8 := hide (hT.below hb8)
  have hB8 := hide (below_tr hB0 hb8 hB0.size)
  have hmm := @run_makeMap Tryz.prog
  simp only [World.size_alloc] at r1
  replace hT := hide hT
  replace hu := hide hu
  replace hwant := hide hwant
  replace hk := hide hk
  replace hx := hide hx
  clear hok ht hfs hb hTb h1 h2 h3 h4 hB0 hb8
  go_enter Tryz.func23, Tryz.ntmps23
  go_upto_region 1 with (fail)
  rw [← hw0]
  clear hw0
  go_cut [3] (fun v3 wx => v3 = .map (some W0.heap.size) ∧ wx = w8)
  case first =>
    go_wp2_with fail
    go_meet
    exact ⟨rfl, rfl⟩
  obtain ⟨rfl, rfl⟩ := hcut
  clear r1 r2 r3 r4 r5 r6 r7 r8 hmm
  replace hx := unhide hx
  obtain ⟨c0, c1, c2, c3, c4, c5, c6, c7, c8, c9⟩ := (unhide hT8).cells
  have z1 : (t.kd == 17) = false := by rw [beq_eq_false_iff_ne]; exact unhide hk
  have z2 : (t.kd != 17) = true := by rw [bne_iff_ne]; exact unhide hk
  rcases Nat.eq_zero_or_pos t.nf with hz | hz
  · rw [hz] at c9
    have hF := hide (unhide hfin wc (unhide hB8) (fun k hk => absurd hk (by rw [hz]; omega)))
    clear hfin hno hC hwf hu hz hwant hT hT8
    go_wp2_with fail
    refine wp_loop_rounds 1 ?_
    rw [rounds_succ]
    go_wp2_with fail
    go_ret
    exact unhide hF
  · obtain ⟨b, o, ha, hcs⟩ := (unhide hC) hz
    have h00 := hide (show UsR w0 wc n t (.int .i64 0) wc from ⟨0, rfl, Nat.zero_le _, Below.refl _ _, fun k hk => absurd hk (by omega)⟩)
    replace hcs := hide hcs
    rw [ha] at c9
    replace ha := hide ha
    clear hC hT
    rcases (unhide hwant) with rfl | ⟨g, m, rfl, hm, hg, hcw⟩
    · skip
      clear hwant
      go_wp2_with fail
      go_loopw [26] (UsR w0 wc n t) (fun v _ => t.nf - (intOf v).toNat)
      case atStart => exact unhide h00
      case round =>
        obtain ⟨i, rfl, hi, hB, hR⟩ := hrel
        have hBw := below_tr (unhide hB8) hB (unhide hB8).size
        have hT9 := hide ((unhide hT8).below hB)
        obtain ⟨c0, c1, c2, c3, c4, c5, c6, c7, c8, c9⟩ := (unhide hT9).cells
        by_cases hlt : i < t.nf
        · obtain ⟨hfc, hns⟩ := (unhide hcs) wr hBw i hlt
          have hBn := hBw.alloc hBw.size (.cells (fAt w0 t.af i).row 32)
          have hcall := (unhide hu) _ i hlt hBn
          have hnx := hide (fun (W : World) => UsR.next (W := W) (f := fAt w0 t.af i) hlt hB hR)
          have hdn := hide (fun (W : World) (h : Below (wr.alloc (.cells (fAt w0 t.af i).row 32)).heap.size (wr.alloc (.cells (fAt w0 t.af i).row 32)) W) => unhide hno W (below_tr (unhide hB8) (UsR.far (f := fAt w0 t.af i) hB h) (unhide hB8).size))
          have hwf2 := hide (fun (W : World) (h : Below (wr.alloc (.cells (fAt w0 t.af i).row 32)).heap.size (wr.alloc (.cells (fAt w0 t.af i).row 32)) W) => unhide hwf W (below_tr (unhide hB8) (UsR.far (f := fAt w0 t.af i) hB h) (unhide hB8).size) (fAt w0 t.af i).nm hns)
          have hBf := hide (fun (W : World) (h : Below (wr.alloc (.cells (fAt w0 t.af i).row 32)).heap.size (wr.alloc (.cells (fAt w0 t.af i).row 32)) W) => (show TB W w.heap.size t ∧ FC0 W wr.heap.size (fAt w0 t.af i) from ⟨((unhide hT9).alloc _).below h, FB.fc0 ((Blk.new (w := wr) 32 (fAt w0 t.af i).row rfl).below h)⟩))
          have hlt' : (i : Int) < (t.nf : Int) := by omega
          have hw1 : IntKind.i64.wrap ((i : Int) + 1) = (i : Int) + 1 := (IntWalk.i64_left _).trans (IntWalk.wrap64_in _ (by omega))
          generalize fAt w0 t.af i = f at *
          replace hcall := hide hcall
          obtain ⟨d0, d1, d2, d3, d4, d5, d6, d7, d8, d9, d10, d11, d12⟩ := hfc
          have hwlt : w.heap.size < wr.heap.size := Blk.lt (unhide hT9)
          have hgs := hB.size
          clear hB hBw hBn hR hu hcs hno hfin hwf h00 hT9
          rcases Bool.eq_false_or_eq_true ((i : Int) == 0) with z5 | z5
          all_goals
            go_wp2_with (first
              | (go_at_call 23; (with_reducible refine (unhide hcall).mono ?_); rintro e w2 ⟨b2, rfl, hb2C, hb2⟩; obtain ⟨hT2, p20, p21, p22, p23, p24, p25, p26, p27, p28, p29, p2a, p2b, p2c⟩ := unhide hBf w2 hb2; obtain ⟨e20, e21, e22, e23, e24, e25, e26, e27, e28, e29⟩ := hT2.cells; clear hT2; replace hb2 := hide hb2; replace hb2C := hide hb2C)
              | (go_at_call 17; (with_reducible refine (unhide hwf2 _ (unhide hb2)).mono ?_); rintro e w3 ⟨b3, rfl, hb3⟩; have hb23 := below_tr (unhide hb2) hb3 (unhide hb2).size; obtain ⟨hT3, p30, p31, p32, p33, p34, p35, p36, p37, p38, p39, p3a, p3b, p3c⟩ := unhide hBf w3 hb23; obtain ⟨e30, e31, e32, e33, e34, e35, e36, e37, e38, e39⟩ := hT3.cells; clear hT3; replace hb23 := hide hb23; clear hb3)
              | fail)
            all_goals first
              | (go_ret; first | exact unhide hdn w3 (unhide hb23) | exact unhide hdn w2 (unhide hb2))
              | skip
            all_goals
              go_quiet (fail)
              go_wp2_with fail
            all_goals first
              | (go_ret; exact unhide hdn _ (bdrewN (unhide hb23) _))
              | exact ⟨unhide hnx _ (by first | assumption | omega) (unhide hb2C (by first | rfl | assumption | trivial)) (bdrewN (unhide hb23) _), by show t.nf - (intOf (Value.int IntKind.i64 ((i : Int) + 1))).toNat < t.nf - (intOf (Value.int IntKind.i64 (i : Int))).toNat; simp only [intOf]; omega⟩
              | (go_roundw; (case rel => exact unhide hnx _ (by first | assumption | omega) (unhide hb2C (by first | rfl | assumption | trivial)) (bdrewN (unhide hb23) _)); (case measure => show t.nf - (intOf (Value.int IntKind.i64 ((i : Int) + 1))).toNat < t.nf - (intOf (Value.int IntKind.i64 (i : Int))).toNat; simp only [intOf]; omega))
        · obtain rfl : i = t.nf := by omega
          have hlt' : ¬ (t.nf : Int) < (t.nf : Int) := by omega
          have hF := hide (unhide hfin wr hBw hR)
          clear hB hBw hR
          go_wp2_with fail
          go_ret
          exact unhide hF
    · skip
      replace hcw := hide hcw
      clear hwant
      go_wp2_with fail
      go_loopw [26] (UsR w0 wc n t) (fun v _ => t.nf - (intOf v).toNat)
      case atStart => exact unhide h00
      case round =>
        obtain ⟨i, rfl, hi, hB, hR⟩ := hrel
        have hBw := below_tr (unhide hB8) hB (unhide hB8).size
        have hT9 := hide ((unhide hT8).below hB)
        obtain ⟨c0, c1, c2, c3, c4, c5, c6, c7, c8, c9⟩ := (unhide hT9).cells
        by_cases hlt : i < t.nf
        · obtain ⟨hfc, hns⟩ := (unhide hcs) wr hBw i hlt
          obtain ⟨sw, hsw⟩ := (unhide hcw) i (by omega)
          have hsw1 : wr.cell? ⟨g, i, none⟩ = some (.string sw) := (hB.cell hg).trans hsw
          have hswA : (wr.alloc (.cells (fAt w0 t.af i).row 32)).cell? ⟨g, i, none⟩ = some (.string sw) := (Below.cell (B := wr.heap.size) (by repeat' (first | (with_reducible exact Below.refl _ _) | (with_reducible refine Below.setCell ?_ ?_ _) | (with_reducible refine bdrewN ?_ _) | (with_reducible refine bdrew ?_) | (with_reducible refine Below.alloc ?_ ?_ _) | exact Nat.le_refl _ | (simp; done))) (Nat.lt_of_lt_of_le hg hB.size)).trans hsw1
          clear hsw
          have hBn := hBw.alloc hBw.size (.cells (fAt w0 t.af i).row 32)
          have hcall := (unhide hu) _ i hlt hBn
          have hnx := hide (fun (W : World) => UsR.next (W := W) (f := fAt w0 t.af i) hlt hB hR)
          have hdn := hide (fun (W : World) (h : Below (wr.alloc (.cells (fAt w0 t.af i).row 32)).heap.size (wr.alloc (.cells (fAt w0 t.af i).row 32)) W) => unhide hno W (below_tr (unhide hB8) (UsR.far (f := fAt w0 t.af i) hB h) (unhide hB8).size))
          have hwf2 := hide (fun (W : World) (h : Below (wr.alloc (.cells (fAt w0 t.af i).row 32)).heap.size (wr.alloc (.cells (fAt w0 t.af i).row 32)) W) => unhide hwf W (below_tr (unhide hB8) (UsR.far (f := fAt w0 t.af i) hB h) (unhide hB8).size) (fAt w0 t.af i).nm hns)
          have hBf := hide (fun (W : World) (h : Below (wr.alloc (.cells (fAt w0 t.af i).row 32)).heap.size (wr.alloc (.cells (fAt w0 t.af i).row 32)) W) => (show TB W w.heap.size t ∧ FC0 W wr.heap.size (fAt w0 t.af i) from ⟨((unhide hT9).alloc _).below h, FB.fc0 ((Blk.new (w := wr) 32 (fAt w0 t.af i).row rfl).below h)⟩))
          have hlt' : (i : Int) < (t.nf : Int) := by omega
          have hw1 : IntKind.i64.wrap ((i : Int) + 1) = (i : Int) + 1 := (IntWalk.i64_left _).trans (IntWalk.wrap64_in _ (by omega))
          generalize fAt w0 t.af i = f at *
          replace hcall := hide hcall
          obtain ⟨d0, d1, d2, d3, d4, d5, d6, d7, d8, d9, d10, d11, d12⟩ := hfc
          have hwlt : w.heap.size < wr.heap.size := Blk.lt (unhide hT9)
          have hgs := hB.size
          clear hB hBw hBn hR hu hcs hno hfin hwf h00 hT9
          rcases Bool.eq_false_or_eq_true ((i : Int) == 0) with z5 | z5
          all_goals
            go_wp2_with (first
              | (go_at_call 23; (with_reducible refine (unhide hcall).mono ?_); rintro e w2 ⟨b2, rfl, hb2C, hb2⟩; obtain ⟨hT2, p20, p21, p22, p23, p24, p25, p26, p27, p28, p29, p2a, p2b, p2c⟩ := unhide hBf w2 hb2; obtain ⟨e20, e21, e22, e23, e24, e25, e26, e27, e28, e29⟩ := hT2.cells; clear hT2; replace hb2 := hide hb2; replace hb2C := hide hb2C)
              | (go_at_call 17; (with_reducible refine (unhide hwf2 _ (unhide hb2)).mono ?_); rintro e w3 ⟨b3, rfl, hb3⟩; have hb23 := below_tr (unhide hb2) hb3 (unhide hb2).size; obtain ⟨hT3, p30, p31, p32, p33, p34, p35, p36, p37, p38, p39, p3a, p3b, p3c⟩ := unhide hBf w3 hb23; obtain ⟨e30, e31, e32, e33, e34, e35, e36, e37, e38, e39⟩ := hT3.cells; clear hT3; have hsw3 := (hb23.cell (p := ⟨g, i, none⟩) (by simp; omega)).trans hswA; replace hb23 := hide hb23; clear hb3)
              | fail)
            all_goals first
              | (go_ret; first | exact unhide hdn w3 (unhide hb23) | exact unhide hdn w2 (unhide hb2))
              | skip
            all_goals
              go_quiet (fail)
              go_wp2_with fail
            all_goals first
              | (go_ret; exact unhide hdn _ (bdrewN (unhide hb23) _))
              | exact ⟨unhide hnx _ (by first | assumption | omega) (unhide hb2C (by first | rfl | assumption | trivial)) (bdrewN (unhide hb23) _), by show t.nf - (intOf (Value.int IntKind.i64 ((i : Int) + 1))).toNat < t.nf - (intOf (Value.int IntKind.i64 (i : Int))).toNat; simp only [intOf]; omega⟩
              | (go_roundw; (case rel => exact unhide hnx _ (by first | assumption | omega) (unhide hb2C (by first | rfl | assumption | trivial)) (bdrewN (unhide hb23) _)); (case measure => show t.nf - (intOf (Value.int IntKind.i64 ((i : Int) + 1))).toNat < t.nf - (intOf (Value.int IntKind.i64 (i : Int))).toNat; simp only [intOf]; omega))
        · obtain rfl : i = t.nf := by omega
          have hlt' : ¬ (t.nf : Int) < (t.nf : Int) := by omega
          have hF := hide (unhide hfin wr hBw hR)
          clear hB hBw hR
          go_wp2_with fail
          go_ret
          exact unhide hF
set_option maxRecDepth 1000000 in
set_option maxHeartbeats 8000000 in
theorem usual_o27 (w0 : World) (hTb : Tabs w0) (n : Nat) (w : World) (t : Ty) (hk : ¬ t.kd = 17) (z3 : (t.kd == 22) = false) (z4 : (t.kd == 27) = true) (hok : Ok w0 (n + 1) t) (ht : ∀ m, TyAt w0 m t) (hb : Below w0.heap.size w0 w)
    (hu : ∀ (W : World) (k : Nat), k < t.nf → Below w.heap.size w W → Calls Tryz.prog 23 #[(fAt w0 t.af k).ty.val] W (PYes (Nm w0 n (fAt w0 t.af k).ty) W)) :
    Calls Tryz.prog 23 #[t.val] w (PYes (Nm w0 (n + 1) t) w) := by
  have hok0 := hok
  obtain ⟨h1, h2, h3, h4, _⟩ := hok0
  obtain ⟨_, _, _, _, _, _, _, hfs, _⟩ := ht 1
  have hnf : t.nf ≤ 9223372036854775807 := hfs.2.1
  have hs := hb.size
  have hB0 := (show Below w.heap.size w (w.alloc (.cells #[.int .i64 t.kd, .int .i64 t.wd, .bool t.sg, .int .i64 t.un, .int .i64 t.pr, .int .i64 t.sc, .string t.zn, .bool t.fl, .slice t.ai t.ni t.ci, .slice t.af t.nf t.cf] 30)) from (Below.refl _ _).alloc (Nat.le_refl _) _)
  have hT := TB.new w t
  obtain ⟨W0, hw0⟩ : ∃ W0, W0 = (w.alloc (.cells #[.int .i64 t.kd, .int .i64 t.wd, .bool t.sg, .int .i64 t.un, .int .i64 t.pr, .int .i64 t.sc, .string t.zn, .bool t.fl, .slice t.ai t.ni t.ci, .slice t.af t.nf t.cf] 30)) := ⟨_, rfl⟩
  rw [← hw0] at hT hB0
  have hfin := hide (fun (W : World) (h : Below w.heap.size w W) (hR : ∀ k, k < t.nf → (fAt w0 t.af k).nm' = 0 ∧ Nm w0 n (fAt w0 t.af k).ty) => (pyes_yes h hR : PYes (Nm w0 (n + 1) t) w (.returned (.bool true)) W))
  have hno := hide (fun (W : World) (h : Below w.heap.size w W) => pyes_no (C := Nm w0 (n + 1) t) h)
  have hC := hide (fun (hz : 0 < t.nf) => (show ∃ b o, t.af = some ⟨b, o, none⟩ ∧ ∀ W, Below w.heap.size w W → ∀ k, k < t.nf → FCells W b (o + k * 13) (fAt w0 t.af k) ∧ (fAt w0 t.af k).nm.size ≤ maxLen from by
    obtain ⟨b, o, ha, hcs⟩ := hfs.base hz
    exact ⟨b, o, ha, fun W hB k hk => hcs W (below_tr hb hB hs) k hk⟩))
  have hwf := hide (fun (W : World) (h : Below w.heap.size w W) (s : ByteArray) (h9 : s.size ≤ maxLen) => wf_any w0 W hTb (below_tr hb h hs) s h9)
  obtain ⟨w1, w2, w3, w4, w5, w6, w7, w8, x, r1, r2, r3, r4, r5, r6, r7, r8, hx, hwant, hb8⟩ := nm_made W0 t.kd t.nf h1 h2 h4
  have hT8 := hide (hT.below hb8)
  have hB8 := hide (below_tr hB0 hb8 hB0.size)
  have hmm := @run_makeMap Tryz.prog
  simp only [World.size_alloc] at r1
  replace hT := hide hT
  replace hu := hide hu
  replace hwant := hide hwant
  replace hk := hide hk
  replace hx := hide hx
  clear hok ht hfs hb hTb h1 h2 h3 h4 hB0 hb8
  go_enter Tryz.func23, Tryz.ntmps23
  go_upto_region 1 with (fail)
  rw [← hw0]
  clear hw0
  go_cut [3] (fun v3 wx => v3 = .map (some W0.heap.size) ∧ wx = w8)
  case first =>
    go_wp2_with fail
    go_meet
    exact ⟨rfl, rfl⟩
  obtain ⟨rfl, rfl⟩ := hcut
  clear r1 r2 r3 r4 r5 r6 r7 r8 hmm
  replace hx := unhide hx
  obtain ⟨c0, c1, c2, c3, c4, c5, c6, c7, c8, c9⟩ := (unhide hT8).cells
  have z1 : (t.kd == 17) = false := by rw [beq_eq_false_iff_ne]; exact unhide hk
  have z2 : (t.kd != 17) = true := by rw [bne_iff_ne]; exact unhide hk
  rcases Nat.eq_zero_or_pos t.nf with hz | hz
  · rw [hz] at c9
    have hF := hide (unhide hfin wc (unhide hB8) (fun k hk => absurd hk (by rw [hz]; omega)))
    clear hfin hno hC hwf hu hz hwant hT hT8
    go_wp2_with fail
    refine wp_loop_rounds 1 ?_
    rw [rounds_succ]
    go_wp2_with fail
    go_ret
    exact unhide hF
  · obtain ⟨b, o, ha, hcs⟩ := (unhide hC) hz
    have h00 := hide (show UsR w0 wc n t (.int .i64 0) wc from ⟨0, rfl, Nat.zero_le _, Below.refl _ _, fun k hk => absurd hk (by omega)⟩)
    replace hcs := hide hcs
    rw [ha] at c9
    replace ha := hide ha
    clear hC hT
    rcases (unhide hwant) with rfl | ⟨g, m, rfl, hm, hg, hcw⟩
    · skip
      clear hwant
      go_wp2_with fail
      go_loopw [26] (UsR w0 wc n t) (fun v _ => t.nf - (intOf v).toNat)
      case atStart => exact unhide h00
      case round =>
        obtain ⟨i, rfl, hi, hB, hR⟩ := hrel
        have hBw := below_tr (unhide hB8) hB (unhide hB8).size
        have hT9 := hide ((unhide hT8).below hB)
        obtain ⟨c0, c1, c2, c3, c4, c5, c6, c7, c8, c9⟩ := (unhide hT9).cells
        by_cases hlt : i < t.nf
        · obtain ⟨hfc, hns⟩ := (unhide hcs) wr hBw i hlt
          have hBn := hBw.alloc hBw.size (.cells (fAt w0 t.af i).row 32)
          have hcall := (unhide hu) _ i hlt hBn
          have hnx := hide (fun (W : World) => UsR.next (W := W) (f := fAt w0 t.af i) hlt hB hR)
          have hdn := hide (fun (W : World) (h : Below (wr.alloc (.cells (fAt w0 t.af i).row 32)).heap.size (wr.alloc (.cells (fAt w0 t.af i).row 32)) W) => unhide hno W (below_tr (unhide hB8) (UsR.far (f := fAt w0 t.af i) hB h) (unhide hB8).size))
          have hwf2 := hide (fun (W : World) (h : Below (wr.alloc (.cells (fAt w0 t.af i).row 32)).heap.size (wr.alloc (.cells (fAt w0 t.af i).row 32)) W) => unhide hwf W (below_tr (unhide hB8) (UsR.far (f := fAt w0 t.af i) hB h) (unhide hB8).size) (fAt w0 t.af i).nm hns)
          have hBf := hide (fun (W : World) (h : Below (wr.alloc (.cells (fAt w0 t.af i).row 32)).heap.size (wr.alloc (.cells (fAt w0 t.af i).row 32)) W) => (show TB W w.heap.size t ∧ FC0 W wr.heap.size (fAt w0 t.af i) from ⟨((unhide hT9).alloc _).below h, FB.fc0 ((Blk.new (w := wr) 32 (fAt w0 t.af i).row rfl).below h)⟩))
          have hlt' : (i : Int) < (t.nf : Int) := by omega
          have hw1 : IntKind.i64.wrap ((i : Int) + 1) = (i : Int) + 1 := (IntWalk.i64_left _).trans (IntWalk.wrap64_in _ (by omega))
          generalize fAt w0 t.af i = f at *
          replace hcall := hide hcall
          obtain ⟨d0, d1, d2, d3, d4, d5, d6, d7, d8, d9, d10, d11, d12⟩ := hfc
          have hwlt : w.heap.size < wr.heap.size := Blk.lt (unhide hT9)
          have hgs := hB.size
          clear hB hBw hBn hR hu hcs hno hfin hwf h00 hT9
          all_goals
            go_wp2_with (first
              | (go_at_call 23; (with_reducible refine (unhide hcall).mono ?_); rintro e w2 ⟨b2, rfl, hb2C, hb2⟩; obtain ⟨hT2, p20, p21, p22, p23, p24, p25, p26, p27, p28, p29, p2a, p2b, p2c⟩ := unhide hBf w2 hb2; obtain ⟨e20, e21, e22, e23, e24, e25, e26, e27, e28, e29⟩ := hT2.cells; clear hT2; replace hb2 := hide hb2; replace hb2C := hide hb2C)
              | (go_at_call 17; (with_reducible refine (unhide hwf2 _ (unhide hb2)).mono ?_); rintro e w3 ⟨b3, rfl, hb3⟩; have hb23 := below_tr (unhide hb2) hb3 (unhide hb2).size; obtain ⟨hT3, p30, p31, p32, p33, p34, p35, p36, p37, p38, p39, p3a, p3b, p3c⟩ := unhide hBf w3 hb23; obtain ⟨e30, e31, e32, e33, e34, e35, e36, e37, e38, e39⟩ := hT3.cells; clear hT3; replace hb23 := hide hb23; clear hb3)
              | fail)
            all_goals first
              | (go_ret; first | exact unhide hdn w3 (unhide hb23) | exact unhide hdn w2 (unhide hb2))
              | skip
            all_goals
              go_quiet (fail)
              go_wp2_with fail
            all_goals first
              | (go_ret; exact unhide hdn _ (bdrewN (unhide hb23) _))
              | exact ⟨unhide hnx _ (by first | assumption | omega) (unhide hb2C (by first | rfl | assumption | trivial)) (bdrewN (unhide hb23) _), by show t.nf - (intOf (Value.int IntKind.i64 ((i : Int) + 1))).toNat < t.nf - (intOf (Value.int IntKind.i64 (i : Int))).toNat; simp only [intOf]; omega⟩
              | (go_roundw; (case rel => exact unhide hnx _ (by first | assumption | omega) (unhide hb2C (by first | rfl | assumption | trivial)) (bdrewN (unhide hb23) _)); (case measure => show t.nf - (intOf (Value.int IntKind.i64 ((i : Int) + 1))).toNat < t.nf - (intOf (Value.int IntKind.i64 (i : Int))).toNat; simp only [intOf]; omega))
        · obtain rfl : i = t.nf := by omega
          have hlt' : ¬ (t.nf : Int) < (t.nf : Int) := by omega
          have hF := hide (unhide hfin wr hBw hR)
          clear hB hBw hR
          go_wp2_with fail
          go_ret
          exact unhide hF
    · skip
      replace hcw := hide hcw
      clear hwant
      go_wp2_with fail
      go_loopw [26] (UsR w0 wc n t) (fun v _ => t.nf - (intOf v).toNat)
      case atStart => exact unhide h00
      case round =>
        obtain ⟨i, rfl, hi, hB, hR⟩ := hrel
        have hBw := below_tr (unhide hB8) hB (unhide hB8).size
        have hT9 := hide ((unhide hT8).below hB)
        obtain ⟨c0, c1, c2, c3, c4, c5, c6, c7, c8, c9⟩ := (unhide hT9).cells
        by_cases hlt : i < t.nf
        · obtain ⟨hfc, hns⟩ := (unhide hcs) wr hBw i hlt
          obtain ⟨sw, hsw⟩ := (unhide hcw) i (by omega)
          have hsw1 : wr.cell? ⟨g, i, none⟩ = some (.string sw) := (hB.cell hg).trans hsw
          have hswA : (wr.alloc (.cells (fAt w0 t.af i).row 32)).cell? ⟨g, i, none⟩ = some (.string sw) := (Below.cell (B := wr.heap.size) (by repeat' (first | (with_reducible exact Below.refl _ _) | (with_reducible refine Below.setCell ?_ ?_ _) | (with_reducible refine bdrewN ?_ _) | (with_reducible refine bdrew ?_) | (with_reducible refine Below.alloc ?_ ?_ _) | exact Nat.le_refl _ | (simp; done))) (Nat.lt_of_lt_of_le hg hB.size)).trans hsw1
          clear hsw
          have hBn := hBw.alloc hBw.size (.cells (fAt w0 t.af i).row 32)
          have hcall := (unhide hu) _ i hlt hBn
          have hnx := hide (fun (W : World) => UsR.next (W := W) (f := fAt w0 t.af i) hlt hB hR)
          have hdn := hide (fun (W : World) (h : Below (wr.alloc (.cells (fAt w0 t.af i).row 32)).heap.size (wr.alloc (.cells (fAt w0 t.af i).row 32)) W) => unhide hno W (below_tr (unhide hB8) (UsR.far (f := fAt w0 t.af i) hB h) (unhide hB8).size))
          have hwf2 := hide (fun (W : World) (h : Below (wr.alloc (.cells (fAt w0 t.af i).row 32)).heap.size (wr.alloc (.cells (fAt w0 t.af i).row 32)) W) => unhide hwf W (below_tr (unhide hB8) (UsR.far (f := fAt w0 t.af i) hB h) (unhide hB8).size) (fAt w0 t.af i).nm hns)
          have hBf := hide (fun (W : World) (h : Below (wr.alloc (.cells (fAt w0 t.af i).row 32)).heap.size (wr.alloc (.cells (fAt w0 t.af i).row 32)) W) => (show TB W w.heap.size t ∧ FC0 W wr.heap.size (fAt w0 t.af i) from ⟨((unhide hT9).alloc _).below h, FB.fc0 ((Blk.new (w := wr) 32 (fAt w0 t.af i).row rfl).below h)⟩))
          have hlt' : (i : Int) < (t.nf : Int) := by omega
          have hw1 : IntKind.i64.wrap ((i : Int) + 1) = (i : Int) + 1 := (IntWalk.i64_left _).trans (IntWalk.wrap64_in _ (by omega))
          generalize fAt w0 t.af i = f at *
          replace hcall := hide hcall
          obtain ⟨d0, d1, d2, d3, d4, d5, d6, d7, d8, d9, d10, d11, d12⟩ := hfc
          have hwlt : w.heap.size < wr.heap.size := Blk.lt (unhide hT9)
          have hgs := hB.size
          clear hB hBw hBn hR hu hcs hno hfin hwf h00 hT9
          all_goals
            go_wp2_with (first
              | (go_at_call 23; (with_reducible refine (unhide hcall).mono ?_); rintro e w2 ⟨b2, rfl, hb2C, hb2⟩; obtain ⟨hT2, p20, p21, p22, p23, p24, p25, p26, p27, p28, p29, p2a, p2b, p2c⟩ := unhide hBf w2 hb2; obtain ⟨e20, e21, e22, e23, e24, e25, e26, e27, e28, e29⟩ := hT2.cells; clear hT2; replace hb2 := hide hb2; replace hb2C := hide hb2C)
              | (go_at_call 17; (with_reducible refine (unhide hwf2 _ (unhide hb2)).mono ?_); rintro e w3 ⟨b3, rfl, hb3⟩; have hb23 := below_tr (unhide hb2) hb3 (unhide hb2).size; obtain ⟨hT3, p30, p31, p32, p33, p34, p35, p36, p37, p38, p39, p3a, p3b, p3c⟩ := unhide hBf w3 hb23; obtain ⟨e30, e31, e32, e33, e34, e35, e36, e37, e38, e39⟩ := hT3.cells; clear hT3; have hsw3 := (hb23.cell (p := ⟨g, i, none⟩) (by simp; omega)).trans hswA; replace hb23 := hide hb23; clear hb3)
              | fail)
            all_goals first
              | (go_ret; first | exact unhide hdn w3 (unhide hb23) | exact unhide hdn w2 (unhide hb2))
              | skip
            all_goals
              go_quiet (fail)
              go_wp2_with fail
            all_goals first
              | (go_ret; exact unhide hdn _ (bdrewN (unhide hb23) _))
              | exact ⟨unhide hnx _ (by first | assumption | omega) (unhide hb2C (by first | rfl | assumption | trivial)) (bdrewN (unhide hb23) _), by show t.nf - (intOf (Value.int IntKind.i64 ((i : Int) + 1))).toNat < t.nf - (intOf (Value.int IntKind.i64 (i : Int))).toNat; simp only [intOf]; omega⟩
              | (go_roundw; (case rel => exact unhide hnx _ (by first | assumption | omega) (unhide hb2C (by first | rfl | assumption | trivial)) (bdrewN (unhide hb23) _)); (case measure => show t.nf - (intOf (Value.int IntKind.i64 ((i : Int) + 1))).toNat < t.nf - (intOf (Value.int IntKind.i64 (i : Int))).toNat; simp only [intOf]; omega))
        · obtain rfl : i = t.nf := by omega
          have hlt' : ¬ (t.nf : Int) < (t.nf : Int) := by omega
          have hF := hide (unhide hfin wr hBw hR)
          clear hB hBw hR
          go_wp2_with fail
          go_ret
          exact unhide hF
set_option maxRecDepth 1000000 in
set_option maxHeartbeats 8000000 in
theorem usual_other (w0 : World) (hTb : Tabs w0) (n : Nat) (w : World) (t : Ty) (hk : ¬ t.kd = 17) (z3 : (t.kd == 22) = false) (z4 : (t.kd == 27) = false) (hok : Ok w0 (n + 1) t) (ht : ∀ m, TyAt w0 m t) (hb : Below w0.heap.size w0 w)
    (hu : ∀ (W : World) (k : Nat), k < t.nf → Below w.heap.size w W → Calls Tryz.prog 23 #[(fAt w0 t.af k).ty.val] W (PYes (Nm w0 n (fAt w0 t.af k).ty) W)) :
    Calls Tryz.prog 23 #[t.val] w (PYes (Nm w0 (n + 1) t) w) := by
  have hok0 := hok
  obtain ⟨h1, h2, h3, h4, _⟩ := hok0
  obtain ⟨_, _, _, _, _, _, _, hfs, _⟩ := ht 1
  have hnf : t.nf ≤ 9223372036854775807 := hfs.2.1
  have hs := hb.size
  have hB0 := (show Below w.heap.size w (w.alloc (.cells #[.int .i64 t.kd, .int .i64 t.wd, .bool t.sg, .int .i64 t.un, .int .i64 t.pr, .int .i64 t.sc, .string t.zn, .bool t.fl, .slice t.ai t.ni t.ci, .slice t.af t.nf t.cf] 30)) from (Below.refl _ _).alloc (Nat.le_refl _) _)
  have hT := TB.new w t
  obtain ⟨W0, hw0⟩ : ∃ W0, W0 = (w.alloc (.cells #[.int .i64 t.kd, .int .i64 t.wd, .bool t.sg, .int .i64 t.un, .int .i64 t.pr, .int .i64 t.sc, .string t.zn, .bool t.fl, .slice t.ai t.ni t.ci, .slice t.af t.nf t.cf] 30)) := ⟨_, rfl⟩
  rw [← hw0] at hT hB0
  have hfin := hide (fun (W : World) (h : Below w.heap.size w W) (hR : ∀ k, k < t.nf → (fAt w0 t.af k).nm' = 0 ∧ Nm w0 n (fAt w0 t.af k).ty) => (pyes_yes h hR : PYes (Nm w0 (n + 1) t) w (.returned (.bool true)) W))
  have hno := hide (fun (W : World) (h : Below w.heap.size w W) => pyes_no (C := Nm w0 (n + 1) t) h)
  have hC := hide (fun (hz : 0 < t.nf) => (show ∃ b o, t.af = some ⟨b, o, none⟩ ∧ ∀ W, Below w.heap.size w W → ∀ k, k < t.nf → FCells W b (o + k * 13) (fAt w0 t.af k) ∧ (fAt w0 t.af k).nm.size ≤ maxLen from by
    obtain ⟨b, o, ha, hcs⟩ := hfs.base hz
    exact ⟨b, o, ha, fun W hB k hk => hcs W (below_tr hb hB hs) k hk⟩))
  have hwf := hide (fun (W : World) (h : Below w.heap.size w W) (s : ByteArray) (h9 : s.size ≤ maxLen) => wf_any w0 W hTb (below_tr hb h hs) s h9)
  obtain ⟨w1, w2, w3, w4, w5, w6, w7, w8, x, r1, r2, r3, r4, r5, r6, r7, r8, hx, hwant, hb8⟩ := nm_made W0 t.kd t.nf h1 h2 h4
  have hT8 := hide (hT.below hb8)
  have hB8 := hide (below_tr hB0 hb8 hB0.size)
  have hmm := @run_makeMap Tryz.prog
  simp only [World.size_alloc] at r1
  replace hT := hide hT
  replace hu := hide hu
  replace hwant := hide hwant
  replace hk := hide hk
  replace hx := hide hx
  clear hok ht hfs hb hTb h1 h2 h3 h4 hB0 hb8
  go_enter Tryz.func23, Tryz.ntmps23
  go_upto_region 1 with (fail)
  rw [← hw0]
  clear hw0
  go_cut [3] (fun v3 wx => v3 = .map (some W0.heap.size) ∧ wx = w8)
  case first =>
    go_wp2_with fail
    go_meet
    exact ⟨rfl, rfl⟩
  obtain ⟨rfl, rfl⟩ := hcut
  clear r1 r2 r3 r4 r5 r6 r7 r8 hmm
  replace hx := unhide hx
  obtain ⟨c0, c1, c2, c3, c4, c5, c6, c7, c8, c9⟩ := (unhide hT8).cells
  have z1 : (t.kd == 17) = false := by rw [beq_eq_false_iff_ne]; exact unhide hk
  have z2 : (t.kd != 17) = true := by rw [bne_iff_ne]; exact unhide hk
  rcases Nat.eq_zero_or_pos t.nf with hz | hz
  · rw [hz] at c9
    have hF := hide (unhide hfin wc (unhide hB8) (fun k hk => absurd hk (by rw [hz]; omega)))
    clear hfin hno hC hwf hu hz hwant hT hT8
    go_wp2_with fail
    refine wp_loop_rounds 1 ?_
    rw [rounds_succ]
    go_wp2_with fail
    go_ret
    exact unhide hF
  · obtain ⟨b, o, ha, hcs⟩ := (unhide hC) hz
    have h00 := hide (show UsR w0 wc n t (.int .i64 0) wc from ⟨0, rfl, Nat.zero_le _, Below.refl _ _, fun k hk => absurd hk (by omega)⟩)
    replace hcs := hide hcs
    rw [ha] at c9
    replace ha := hide ha
    clear hC hT
    rcases (unhide hwant) with rfl | ⟨g, m, rfl, hm, hg, hcw⟩
    · skip
      clear hwant
      go_wp2_with fail
      go_loopw [26] (UsR w0 wc n t) (fun v _ => t.nf - (intOf v).toNat)
      case atStart => exact unhide h00
      case round =>
        obtain ⟨i, rfl, hi, hB, hR⟩ := hrel
        have hBw := below_tr (unhide hB8) hB (unhide hB8).size
        have hT9 := hide ((unhide hT8).below hB)
        obtain ⟨c0, c1, c2, c3, c4, c5, c6, c7, c8, c9⟩ := (unhide hT9).cells
        by_cases hlt : i < t.nf
        · obtain ⟨hfc, hns⟩ := (unhide hcs) wr hBw i hlt
          have hBn := hBw.alloc hBw.size (.cells (fAt w0 t.af i).row 32)
          have hcall := (unhide hu) _ i hlt hBn
          have hnx := hide (fun (W : World) => UsR.next (W := W) (f := fAt w0 t.af i) hlt hB hR)
          have hdn := hide (fun (W : World) (h : Below (wr.alloc (.cells (fAt w0 t.af i).row 32)).heap.size (wr.alloc (.cells (fAt w0 t.af i).row 32)) W) => unhide hno W (below_tr (unhide hB8) (UsR.far (f := fAt w0 t.af i) hB h) (unhide hB8).size))
          have hwf2 := hide (fun (W : World) (h : Below (wr.alloc (.cells (fAt w0 t.af i).row 32)).heap.size (wr.alloc (.cells (fAt w0 t.af i).row 32)) W) => unhide hwf W (below_tr (unhide hB8) (UsR.far (f := fAt w0 t.af i) hB h) (unhide hB8).size) (fAt w0 t.af i).nm hns)
          have hBf := hide (fun (W : World) (h : Below (wr.alloc (.cells (fAt w0 t.af i).row 32)).heap.size (wr.alloc (.cells (fAt w0 t.af i).row 32)) W) => (show TB W w.heap.size t ∧ FC0 W wr.heap.size (fAt w0 t.af i) from ⟨((unhide hT9).alloc _).below h, FB.fc0 ((Blk.new (w := wr) 32 (fAt w0 t.af i).row rfl).below h)⟩))
          have hlt' : (i : Int) < (t.nf : Int) := by omega
          have hw1 : IntKind.i64.wrap ((i : Int) + 1) = (i : Int) + 1 := (IntWalk.i64_left _).trans (IntWalk.wrap64_in _ (by omega))
          generalize fAt w0 t.af i = f at *
          replace hcall := hide hcall
          obtain ⟨d0, d1, d2, d3, d4, d5, d6, d7, d8, d9, d10, d11, d12⟩ := hfc
          have hwlt : w.heap.size < wr.heap.size := Blk.lt (unhide hT9)
          have hgs := hB.size
          clear hB hBw hBn hR hu hcs hno hfin hwf h00 hT9
          all_goals
            go_wp2_with (first
              | (go_at_call 23; (with_reducible refine (unhide hcall).mono ?_); rintro e w2 ⟨b2, rfl, hb2C, hb2⟩; obtain ⟨hT2, p20, p21, p22, p23, p24, p25, p26, p27, p28, p29, p2a, p2b, p2c⟩ := unhide hBf w2 hb2; obtain ⟨e20, e21, e22, e23, e24, e25, e26, e27, e28, e29⟩ := hT2.cells; clear hT2; replace hb2 := hide hb2; replace hb2C := hide hb2C)
              | (go_at_call 17; (with_reducible refine (unhide hwf2 _ (unhide hb2)).mono ?_); rintro e w3 ⟨b3, rfl, hb3⟩; have hb23 := below_tr (unhide hb2) hb3 (unhide hb2).size; obtain ⟨hT3, p30, p31, p32, p33, p34, p35, p36, p37, p38, p39, p3a, p3b, p3c⟩ := unhide hBf w3 hb23; obtain ⟨e30, e31, e32, e33, e34, e35, e36, e37, e38, e39⟩ := hT3.cells; clear hT3; replace hb23 := hide hb23; clear hb3)
              | fail)
            all_goals first
              | (go_ret; first | exact unhide hdn w3 (unhide hb23) | exact unhide hdn w2 (unhide hb2))
              | skip
            all_goals
              go_quiet (fail)
              go_wp2_with fail
            all_goals first
              | (go_ret; exact unhide hdn _ (bdrewN (unhide hb23) _))
              | exact ⟨unhide hnx _ (by first | assumption | omega) (unhide hb2C (by first | rfl | assumption | trivial)) (bdrewN (unhide hb23) _), by show t.nf - (intOf (Value.int IntKind.i64 ((i : Int) + 1))).toNat < t.nf - (intOf (Value.int IntKind.i64 (i : Int))).toNat; simp only [intOf]; omega⟩
              | (go_roundw; (case rel => exact unhide hnx _ (by first | assumption | omega) (unhide hb2C (by first | rfl | assumption | trivial)) (bdrewN (unhide hb23) _)); (case measure => show t.nf - (intOf (Value.int IntKind.i64 ((i : Int) + 1))).toNat < t.nf - (intOf (Value.int IntKind.i64 (i : Int))).toNat; simp only [intOf]; omega))
        · obtain rfl : i = t.nf := by omega
          have hlt' : ¬ (t.nf : Int) < (t.nf : Int) := by omega
          have hF := hide (unhide hfin wr hBw hR)
          clear hB hBw hR
          go_wp2_with fail
          go_ret
          exact unhide hF
    · skip
      replace hcw := hide hcw
      clear hwant
      go_wp2_with fail
      go_loopw [26] (UsR w0 wc n t) (fun v _ => t.nf - (intOf v).toNat)
      case atStart => exact unhide h00
      case round =>
        obtain ⟨i, rfl, hi, hB, hR⟩ := hrel
        have hBw := below_tr (unhide hB8) hB (unhide hB8).size
        have hT9 := hide ((unhide hT8).below hB)
        obtain ⟨c0, c1, c2, c3, c4, c5, c6, c7, c8, c9⟩ := (unhide hT9).cells
        by_cases hlt : i < t.nf
        · obtain ⟨hfc, hns⟩ := (unhide hcs) wr hBw i hlt
          obtain ⟨sw, hsw⟩ := (unhide hcw) i (by omega)
          have hsw1 : wr.cell? ⟨g, i, none⟩ = some (.string sw) := (hB.cell hg).trans hsw
          have hswA : (wr.alloc (.cells (fAt w0 t.af i).row 32)).cell? ⟨g, i, none⟩ = some (.string sw) := (Below.cell (B := wr.heap.size) (by repeat' (first | (with_reducible exact Below.refl _ _) | (with_reducible refine Below.setCell ?_ ?_ _) | (with_reducible refine bdrewN ?_ _) | (with_reducible refine bdrew ?_) | (with_reducible refine Below.alloc ?_ ?_ _) | exact Nat.le_refl _ | (simp; done))) (Nat.lt_of_lt_of_le hg hB.size)).trans hsw1
          clear hsw
          have hBn := hBw.alloc hBw.size (.cells (fAt w0 t.af i).row 32)
          have hcall := (unhide hu) _ i hlt hBn
          have hnx := hide (fun (W : World) => UsR.next (W := W) (f := fAt w0 t.af i) hlt hB hR)
          have hdn := hide (fun (W : World) (h : Below (wr.alloc (.cells (fAt w0 t.af i).row 32)).heap.size (wr.alloc (.cells (fAt w0 t.af i).row 32)) W) => unhide hno W (below_tr (unhide hB8) (UsR.far (f := fAt w0 t.af i) hB h) (unhide hB8).size))
          have hwf2 := hide (fun (W : World) (h : Below (wr.alloc (.cells (fAt w0 t.af i).row 32)).heap.size (wr.alloc (.cells (fAt w0 t.af i).row 32)) W) => unhide hwf W (below_tr (unhide hB8) (UsR.far (f := fAt w0 t.af i) hB h) (unhide hB8).size) (fAt w0 t.af i).nm hns)
          have hBf := hide (fun (W : World) (h : Below (wr.alloc (.cells (fAt w0 t.af i).row 32)).heap.size (wr.alloc (.cells (fAt w0 t.af i).row 32)) W) => (show TB W w.heap.size t ∧ FC0 W wr.heap.size (fAt w0 t.af i) from ⟨((unhide hT9).alloc _).below h, FB.fc0 ((Blk.new (w := wr) 32 (fAt w0 t.af i).row rfl).below h)⟩))
          have hlt' : (i : Int) < (t.nf : Int) := by omega
          have hw1 : IntKind.i64.wrap ((i : Int) + 1) = (i : Int) + 1 := (IntWalk.i64_left _).trans (IntWalk.wrap64_in _ (by omega))
          generalize fAt w0 t.af i = f at *
          replace hcall := hide hcall
          obtain ⟨d0, d1, d2, d3, d4, d5, d6, d7, d8, d9, d10, d11, d12⟩ := hfc
          have hwlt : w.heap.size < wr.heap.size := Blk.lt (unhide hT9)
          have hgs := hB.size
          clear hB hBw hBn hR hu hcs hno hfin hwf h00 hT9
          all_goals
            go_wp2_with (first
              | (go_at_call 23; (with_reducible refine (unhide hcall).mono ?_); rintro e w2 ⟨b2, rfl, hb2C, hb2⟩; obtain ⟨hT2, p20, p21, p22, p23, p24, p25, p26, p27, p28, p29, p2a, p2b, p2c⟩ := unhide hBf w2 hb2; obtain ⟨e20, e21, e22, e23, e24, e25, e26, e27, e28, e29⟩ := hT2.cells; clear hT2; replace hb2 := hide hb2; replace hb2C := hide hb2C)
              | (go_at_call 17; (with_reducible refine (unhide hwf2 _ (unhide hb2)).mono ?_); rintro e w3 ⟨b3, rfl, hb3⟩; have hb23 := below_tr (unhide hb2) hb3 (unhide hb2).size; obtain ⟨hT3, p30, p31, p32, p33, p34, p35, p36, p37, p38, p39, p3a, p3b, p3c⟩ := unhide hBf w3 hb23; obtain ⟨e30, e31, e32, e33, e34, e35, e36, e37, e38, e39⟩ := hT3.cells; clear hT3; have hsw3 := (hb23.cell (p := ⟨g, i, none⟩) (by simp; omega)).trans hswA; replace hb23 := hide hb23; clear hb3)
              | fail)
            all_goals first
              | (go_ret; first | exact unhide hdn w3 (unhide hb23) | exact unhide hdn w2 (unhide hb2))
              | skip
            all_goals
              go_quiet (fail)
              go_wp2_with fail
            all_goals first
              | (go_ret; exact unhide hdn _ (bdrewN (unhide hb23) _))
              | exact ⟨unhide hnx _ (by first | assumption | omega) (unhide hb2C (by first | rfl | assumption | trivial)) (bdrewN (unhide hb23) _), by show t.nf - (intOf (Value.int IntKind.i64 ((i : Int) + 1))).toNat < t.nf - (intOf (Value.int IntKind.i64 (i : Int))).toNat; simp only [intOf]; omega⟩
              | (go_roundw; (case rel => exact unhide hnx _ (by first | assumption | omega) (unhide hb2C (by first | rfl | assumption | trivial)) (bdrewN (unhide hb23) _)); (case measure => show t.nf - (intOf (Value.int IntKind.i64 ((i : Int) + 1))).toNat < t.nf - (intOf (Value.int IntKind.i64 (i : Int))).toNat; simp only [intOf]; omega))
        · obtain rfl : i = t.nf := by omega
          have hlt' : ¬ (t.nf : Int) < (t.nf : Int) := by omega
          have hF := hide (unhide hfin wr hBw hR)
          clear hB hBw hR
          go_wp2_with fail
          go_ret
          exact unhide hF
end Go.Proofs.YtconkcjcjdmidaaGreatDoor
