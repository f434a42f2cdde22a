/- Whether a type is right. (YtconkcjcjdmidaaGreatDoor) -/
import Derived.Test.YtconkcjcjdmidaaGreatDoorTA
import Derived.Test.YtconkcjcjdmidaaGreatDoorT7
import Derived.Test.YtconkcjcjdmidaaGreatDoorLK
set_option linter.unusedVariables false
set_option linter.unusedSimpArgs false
namespace Go.Proofs.YtconkcjcjdmidaaGreatDoor
open Go.RowKit Go.ChangeShapes Go.WideShapes Go.ChangeAt Go
set_option maxRecDepth 1000000 in
set_option maxHeartbeats 8000000 in
theorem right_zero (w : World) (t : Ty) (C : Prop) : Calls Tryz.prog 22 #[t.val, .int .i64 0] w (PYes C w) := by
  have hB0 := (show Below w.heap.size w (w.alloc (.cells #[.int .i64 t.kd, .int .i64 t.wd, .bool t.sg, .int .i64 t.un, .int .i64 t.pr, .int .i64 t.sc, .string t.zn, .bool t.fl, .slice t.ai t.ni t.ci, .slice t.af t.nf t.cf] 30)) from (Below.refl _ _).alloc (Nat.le_refl _) _)
  have hT := TB.new w t
  obtain ⟨W0, hw0⟩ : ∃ W0, W0 = (w.alloc (.cells #[.int .i64 t.kd, .int .i64 t.wd, .bool t.sg, .int .i64 t.un, .int .i64 t.pr, .int .i64 t.sc, .string t.zn, .bool t.fl, .slice t.ai t.ni t.ci, .slice t.af t.nf t.cf] 30)) := ⟨_, rfl⟩
  rw [← hw0] at hT hB0
  obtain ⟨c0, c1, c2, c3, c4, c5, c6, c7, c8, c9⟩ := hT.cells
  have hp := hide (parts_any W0 t.kd)
  replace hB0 := hide (pyes_no (C := C) hB0)
  clear hT
  go_enter Tryz.func22, Tryz.ntmps22
  go_upto_region 1 with (fail)
  rw [← hw0]
  clear hw0
  go_wp2_with (first | (go_at_call 28; (with_reducible refine (unhide hp).mono ?_); rintro e w2 ⟨rfl, rfl⟩) | fail)
  go_ret
  exact unhide hB0
def DS (w wc : World) (t : Ty) (W : World) : Prop := W.cell? ⟨w.heap.size, 1, none⟩ = some (.int .i64 t.wd) ∧ W.cell? ⟨w.heap.size, 4, none⟩ = some (.int .i64 t.pr) ∧ W.cell? ⟨w.heap.size, 5, none⟩ = some (.int .i64 t.sc) ∧ TB W w.heap.size t ∧ Below wc.heap.size wc W
theorem DS.of {w wc W : World} {t : Ty} (h : TB W w.heap.size t) (hb : Below wc.heap.size wc W) : DS w wc t W := by
  obtain ⟨c0, c1, c2, c3, c4, c5, _⟩ := h.cells
  exact ⟨c1, c4, c5, h, hb⟩
theorem DS.alloc {w wc W : World} {t : Ty} (h : DS w wc t W) (o : Obj) : DS w wc t (W.alloc o) := .of (h.2.2.2.1.alloc o) (h.2.2.2.2.alloc h.2.2.2.2.size o)
theorem TB.drew {w : World} {g : Nat} {t : Ty} (h : TB w g t) : TB w.drew g t := Blk.drew h
def RRel (w0 w : World) (n : Nat) (t : Ty) (v : Value) (wr : World) : Prop := ∃ i : Nat, v = .int .i64 (i : Int) ∧ i ≤ t.nf ∧ TB wr w.heap.size t ∧ Below w.heap.size w wr ∧ ∀ k, k < i → Ok w0 n (fAt w0 t.af k).ty
theorem RRel.start {w0 w W : World} {n : Nat} {t : Ty} (hT : TB W w.heap.size t) (hB : Below w.heap.size w W) : RRel w0 w n t (.int .i64 0) W := ⟨0, rfl, by omega, hT, hB, fun k hk => absurd hk (by omega)⟩
theorem RRel.next {w0 w wr W : World} {n : Nat} {t : Ty} {i : Nat} {f : Fd} (hi : i < t.nf) (hT : TB wr w.heap.size t) (hB : Below w.heap.size w wr) (hR : ∀ k, k < i → Ok w0 n (fAt w0 t.af k).ty) (ho : Ok w0 n (fAt w0 t.af i).ty) (h : Below (wr.alloc (.cells f.row 32)).heap.size (wr.alloc (.cells f.row 32)) W) :
    RRel w0 w n t (.int .i64 ((i : Int) + 1)) W :=
  ⟨i + 1, by simp, by omega, (hT.alloc _).below h, LRel.done hB h, fun k hk => by
    rcases Nat.lt_or_ge k i with h4 | h4
    · exact hR k h4
    · obtain rfl : k = i := by omega
      exact ho⟩
set_option maxRecDepth 1000000 in
set_option maxHeartbeats 8000000 in
theorem right_succ (w0 : World) (n : Nat) (hn : n < 4) (ih : ∀ (w : World) (t : Ty), (∀ m, TyAt w0 m t) → Below w0.heap.size w0 w → Calls Tryz.prog 22 #[t.val, .int .i64 (n : Int)] w (PYes (Ok w0 n t) w)) (w : World) (t : Ty) (ht : ∀ m, TyAt w0 m t) (hb : Below w0.heap.size w0 w) :
    Calls Tryz.prog 22 #[t.val, .int .i64 ((n : Int) + 1)] w (PYes (Ok w0 (n + 1) t) w) := by
  obtain ⟨_, _, _, _, _, _, _, hfs, _⟩ := ht 1
  have hnf : t.nf ≤ 9223372036854775807 := hfs.2.1
  have hs := hb.size
  have hB0 := (show Below w.heap.size w (w.alloc (.cells #[.int .i64 t.kd, .int .i64 t.wd, .bool t.sg, .int .i64 t.un, .int .i64 t.pr, .int .i64 t.sc, .string t.zn, .bool t.fl, .slice t.ai t.ni t.ci, .slice t.af t.nf t.cf] 30)) from (Below.refl _ _).alloc (Nat.le_refl _) _)
  have hT := TB.new w t
  have hI := hide (fun (W : World) (i : Nat) (hi : i < t.nf) (hB : Below w.heap.size w W) => ih W (fAt w0 t.af i).ty (fun m => ((ht (m + 1)).2.2.2.2.2.2.2.2 i hi).1) (below_tr hb hB hs))
  have hC := hide (fun (hz : 0 < t.nf) => (show ∃ b o, t.af = some ⟨b, o, none⟩ ∧ ∀ W, Below w.heap.size w W → ∀ k, k < t.nf → FCells W b (o + k * 13) (fAt w0 t.af k) ∧ (fAt w0 t.af k).nm.size ≤ maxLen from by
    obtain ⟨b, o, ha, hcs⟩ := hfs.base hz
    exact ⟨b, o, ha, fun W hB k hk => hcs W (below_tr hb hB hs) k hk⟩))
  have hids := hide (fun (W : World) (hB : Below w.heap.size w W) => idsRight_any w0 W t (ht 1) (below_tr hb hB hs))
  have hTyf := hide (fun (k : Nat) (hk : k < t.nf) (m : Nat) => ((ht (m + 1)).2.2.2.2.2.2.2.2 k hk).1)
  have hbw := hide (fun (W : World) (hB : Below w.heap.size w W) => below_tr hb hB hs)
  obtain ⟨W0, hw0⟩ : ∃ W0, W0 = (w.alloc (.cells #[.int .i64 t.kd, .int .i64 t.wd, .bool t.sg, .int .i64 t.un, .int .i64 t.pr, .int .i64 t.sc, .string t.zn, .bool t.fl, .slice t.ai t.ni t.ci, .slice t.af t.nf t.cf] 30)) := ⟨_, rfl⟩
  rw [← hw0] at hT hB0
  obtain ⟨c0, c1, c2, c3, c4, c5, c6, c7, c8, c9⟩ := hT.cells
  have hp := hide (parts_any W0 t.kd)
  have hu := hide (unused_any W0 t)
  have hf := hide (fun (W : World) (hB : Below w.heap.size w W) => fieldsIn_any w0 W t ht (below_tr hb hB hs))
  have hno := hide (fun (W : World) (hB : Below w.heap.size w W) => pyes_no (C := Ok w0 (n + 1) t) hB)
  have hlv : ¬ ((n : Int) + 1) ≤ 0 := by omega
  have hlw : IntKind.i64.wrap ((n : Int) + 1 - 1) = (n : Int) := ((IntWalk.i64_left _).trans (IntWalk.wrap64_in _ (by omega))).trans (by omega)
  replace hT := hide hT
  replace hB0 := hide hB0
  clear ht hb hfs ih hs
  go_enter Tryz.func22, Tryz.ntmps22
  go_upto_region 1 with (fail)
  rw [← hw0]
  clear hw0
  go_upto_region 2 with (first | (go_at_call 28; (with_reducible refine (unhide hp).mono ?_); rintro e w2 ⟨rfl, rfl⟩) | fail)
  have tokA : True := trivial
  go_cut [58] from 17 to 58 (fun v wx => ∃ b : Bool, v = .bool b ∧ (b = false → 1 ≤ t.kd ∧ t.kd ≤ 27 ∧ leastP t.kd ≤ (t.nf : Int) ∧ (t.nf : Int) ≤ mostP t.kd) ∧ TB wx w.heap.size t ∧ Below w.heap.size w wx)
  case first =>
    have hq0 := hide (And.intro (unhide hT) (unhide hB0))
    go_wp2_with (first
      | (go_at_call 29; (with_reducible refine (unhide hu).mono ?_); rintro e w3 ⟨b3, rfl, hb3⟩; have hT3 := hide ((unhide hT).below hb3); have hB3 := hide (below_tr (unhide hB0) hb3 (unhide hB0).size); obtain ⟨d0, d1, d2, d3, d4, d5, d6, d7, d8, d9⟩ := (unhide hT3).cells)
      | (go_at_call 30; (with_reducible refine (unhide hf _ (unhide hB3)).mono ?_); rintro e w4 ⟨m4, rfl, hm0, hm1, hb4⟩; have hT4 := hide ((unhide hT3).below hb4); have hB4 := hide (below_tr (unhide hB3) hb4 (unhide hB3).size))
      | fail)
    all_goals
      go_meet
      first
        | exact ⟨_, rfl, (fun h => by first | omega | (exfalso; simp_all; done) | (simp at h; omega)), unhide hT4, unhide hB4⟩
        | exact ⟨_, rfl, (fun h => by first | omega | (exfalso; simp_all; done) | (simp at h; omega)), unhide hT3, unhide hB3⟩
        | exact ⟨_, rfl, (fun h => by first | omega | (exfalso; simp_all; done) | (simp at h; omega)), unhide hT, unhide hB0⟩
  case rest =>
    obtain ⟨b, rfl, hbk, hTc, hBc⟩ := hcut
    clear c0 c1 c2 c3 c4 c5 c6 c7 c8 c9 hT hB0 hp hu hf
    have hq := hide (unhide hno wc hBc)
    cases b
    · obtain ⟨hk1, hk2, hl1, hl2⟩ := hbk rfl
      clear hbk hq
      obtain ⟨c0, c1, c2, c3, c4, c5, c6, c7, c8, c9⟩ := hTc.cells
      have hst := hide (RRel.start (w0 := w0) (n := n) hTc hBc)
      clear hTc hBc
      go_upto_block 0 with (fail)
      go_cut [] from 59 to 72 (fun wx => TB wx w.heap.size t ∧ Below w.heap.size w wx ∧ ∀ k, k < t.nf → Ok w0 n (fAt w0 t.af k).ty)
      case first =>
        rcases Nat.eq_zero_or_pos t.nf with hz | hz
        · rw [hz]
          have hz9 := hide hz
          clear hz
          go_wp2_with fail
          refine wp_loop_rounds 1 ?_
          rw [rounds_succ]
          go_wp2_with fail
          go_meet
          obtain ⟨_, _, _, hTc, hBc, _⟩ := unhide hst
          exact ⟨hTc, hBc, fun k hk => absurd hk (by rw [unhide hz9]; omega)⟩
        · obtain ⟨b, o, ha, hcs⟩ := (unhide hC) hz
          rw [ha]
          replace hcs := hide hcs
          replace ha := hide ha
          clear hC
          go_wp2_with fail
          go_loopw [62] (RRel w0 w n t) (fun v _ => t.nf - (intOf v).toNat)
          case atStart => exact unhide hst
          case round =>
            obtain ⟨i, rfl, hi, hT, hB, hR⟩ := hrel
            by_cases hlt : i < t.nf
            · obtain ⟨hfc, hns⟩ := (unhide hcs) wr hB i hlt
              have hBn := hB.alloc hB.size (.cells (fAt w0 t.af i).row 32)
              have hcall := (unhide hI) _ i hlt hBn
              have hnx := hide (fun (W : World) => RRel.next (w0 := w0) (n := n) (W := W) (f := fAt w0 t.af i) hlt hT hB hR)
              have hdn := hide (fun (W : World) (h : Below (wr.alloc (.cells (fAt w0 t.af i).row 32)).heap.size (wr.alloc (.cells (fAt w0 t.af i).row 32)) W) => (unhide hno) W (LRel.done (W := W) (f := fAt w0 t.af i) hB h))
              have hlt' : (i : Int) < (t.nf : Int) := by omega
              have hw1 : IntKind.i64.wrap ((i : Int) + 1) = (i : Int) + 1 := (IntWalk.i64_left _).trans (IntWalk.wrap64_in _ (by omega))
              generalize fAt w0 t.af i = f at hfc hcall hns hnx hdn
              replace hcall := hide hcall
              obtain ⟨d0, d1, d2, d3, d4, d5, d6, d7, d8, d9, d10, d11, d12⟩ := hfc
              clear hT hB hBn hI hcs hR hst
              go_wp2_with (first | (go_at_call 22; (with_reducible refine (unhide hcall).mono ?_); rintro e w2 ⟨b2, rfl, hok2, hb2⟩) | fail)
              all_goals first
                | (go_ret; exact unhide hdn w2 hb2)
                | (refine ⟨unhide hnx w2 (hok2 (by first | rfl | assumption | (simp_all; done))) hb2, ?_⟩; show t.nf - (intOf (Value.int IntKind.i64 ((i : Int) + 1))).toNat < t.nf - (intOf (Value.int IntKind.i64 (i : Int))).toNat; simp only [intOf]; omega)
                | trace_state
            · obtain rfl : i = t.nf := by omega
              have hlt' : ¬ (t.nf : Int) < (t.nf : Int) := by omega
              have hB1 := hide (And.intro hT (And.intro hB hR))
              clear hT hB hR hst
              go_wp2_with fail
              go_meet
              exact unhide hB1
      case rest =>
        have hcut := hcut
        obtain ⟨hTc, hBc, hOk⟩ := id hcut
        clear hst c0 c1 c2 c3 c4 c5 c6 c7 c8 c9
        obtain ⟨c0, c1, c2, c3, c4, c5, c6, c7, c8, c9⟩ := hTc.cells
        have hyes := hide (fun (W : World) (hB : Below wc.heap.size wc W) (b : Bool) (hK : b = true → KindOk w0 t) =>
          (show PYes (Ok w0 (n + 1) t) w (.returned (.bool b)) W from pyes_mk b (below_tr hBc hB hBc.size) (fun h => ⟨hk1, hk2, hl1, hl2, hOk, hK h⟩)))
        have hF0 := hide (fun (hz : 0 < t.nf) => (show ∃ b o, t.af = some ⟨b, o, none⟩ ∧ ∀ W, Below wc.heap.size wc W → FCells W b o (fAt w0 t.af 0) ∧ (1 < t.nf → FCells W b (o + 13) (fAt w0 t.af 1)) from by
          obtain ⟨b, o, ha, hcs⟩ := (unhide hC) hz
          refine ⟨b, o, ha, fun W hB => ⟨?_, fun h1 => ?_⟩⟩
          · have := (hcs W (below_tr hBc hB hBc.size) 0 hz).1
            rwa [Nat.zero_mul, Nat.add_zero] at this
          · have := (hcs W (below_tr hBc hB hBc.size) 1 h1).1
            rwa [Nat.one_mul] at this))
        have hbr := hide (Below.refl wc.heap.size wc)
        have hOk0 := hide hOk
        have hTy := hide hl1
        clear hI hC hno hTc hOk
        have hkd : t.kd = 2 ∨ t.kd = 3 ∨ t.kd = 7 ∨ t.kd = 8 ∨ t.kd = 9 ∨ t.kd = 10 ∨ t.kd = 18 ∨ t.kd = 11 ∨ t.kd = 15 ∨ t.kd = 16 ∨ t.kd = 14 ∨ t.kd = 17 ∨ t.kd = 22 ∨ t.kd = 27 ∨ (t.kd ≠ 2 ∧ t.kd ≠ 3 ∧ t.kd ≠ 7 ∧ t.kd ≠ 8 ∧ t.kd ≠ 9 ∧ t.kd ≠ 10 ∧ t.kd ≠ 18 ∧ t.kd ≠ 11 ∧ t.kd ≠ 15 ∧ t.kd ≠ 16 ∧ t.kd ≠ 14 ∧ t.kd ≠ 17 ∧ t.kd ≠ 22 ∧ t.kd ≠ 27) := by omega
        rcases hkd with hkd | hkd | hkd | hkd | hkd | hkd | hkd | hkd | hkd | hkd | hkd | hkd | hkd | hkd | hkd
        · have hi := hide (fun (W : World) => in_lit W t.wd [8, 16, 32, 64] #[.int .i64 8, .int .i64 16, .int .i64 32, .int .i64 64] rfl (by decide) 4 rfl)
          have hK := hide (fun (h : t.wd = 8 ∨ t.wd = 16 ∨ t.wd = 32 ∨ t.wd = 64) => (show KindOk w0 t from by simp [KindOk, hkd]; exact h))
          rw [hkd] at c0
          clear hkd
          go_wp2_with (first | (go_at_call 31; (with_reducible refine (unhide hi wc).mono ?_); rintro e w2 ⟨rfl, hb2⟩) | fail)
          go_ret
          exact unhide hyes w2 hb2 _ (fun h => unhide hK (by simpa using h))
        · have hi := hide (fun (W : World) => in_lit W t.wd [16, 32, 64] #[.int .i64 16, .int .i64 32, .int .i64 64] rfl (by decide) 3 rfl)
          have hK := hide (fun (h : t.wd = 16 ∨ t.wd = 32 ∨ t.wd = 64) => (show KindOk w0 t from by simp [KindOk, hkd]; exact h))
          rw [hkd] at c0
          clear hkd
          go_wp2_with (first | (go_at_call 31; (with_reducible refine (unhide hi wc).mono ?_); rintro e w2 ⟨rfl, hb2⟩) | fail)
          go_ret
          exact unhide hyes w2 hb2 _ (fun h => unhide hK (by simpa using h))
        · rw [hkd] at c0
          have hin := hide (fun (W : World) (g : Nat) (h : Blk W g 3 #[.int .i64 32, .int .i64 64, .int .i64 128, .int .i64 256]) => (show Calls Tryz.prog 31 #[.int .i64 t.wd, .slice (some ⟨g, 0, none⟩) 4 4] W (PInN W (decide (t.wd ∈ [32, 64, 128, 256]))) from in_any W t.wd g 0 4 [32, 64, 128, 256] (by decide) (ivs_blk [32, 64, 128, 256] h)))
          have hpr := hide (fun (W : World) => precisions_any W t.wd)
          have hKd := hide (fun (h : t.wd = 32 ∨ t.wd = 64 ∨ t.wd = 128 ∨ t.wd = 256) => (show KindOk w0 t from by simp [KindOk, hkd]; exact h))
          generalize hbk : decide (t.wd ∈ [32, 64, 128, 256]) = bk at hin
          replace hKd : Hid (bk = true → KindOk w0 t) := hide (fun h => unhide hKd (by rw [← hbk] at h; simpa using h))
          clear hbk
          have hBf := hide (show Below wc.heap.size wc (wc.alloc (.cells #[.int .i64 32, .int .i64 64, .int .i64 128, .int .i64 256] 3)).drew from bdrew ((Below.refl _ _).alloc (Nat.le_refl _) _))
          have hSa := hide (fun (W : World) (o : Obj) (h : DS w wc t W) => h.alloc o)
          have hS0 := hide (show DS w wc t wc.drew from ⟨c1, c4, c5, hcut.1.drew, bdrew (Below.refl _ _)⟩)
          clear hkd
          go_upto_region 16 with (fail)
          refine wp_region_K (S := fun W => W.cell? ⟨w.heap.size, 1, none⟩ = some (.int .i64 t.wd) ∧ W.cell? ⟨w.heap.size, 4, none⟩ = some (.int .i64 t.pr) ∧ W.cell? ⟨w.heap.size, 5, none⟩ = some (.int .i64 t.sc) ∧ TB W w.heap.size t ∧ Below wc.heap.size wc W) (k := 32) (by kernel_rfl) (unhide hS0) (fun hHeld => ?_)
          refine wpAnyK_take (i := 0) (oi := _) (v := ?_) rfl (by kernel_rfl) (by kernel_rfl) (by kernel_rfl) (by kernel_rfl) (fun _ _ _ h => h) (Or.inl ⟨by rfl, ?_⟩) (by assumption) ?_
          rotate_left
          · intro w hSw; (try dsimp only at hSw); (try subst hSw); go_simp; (try with_reducible rfl)
          simp only [Act.put, List.getElem_toArray, List.getElem_cons_zero, List.getElem_cons_succ, List.setIfInBounds_toArray, List.set_cons_zero, List.set_cons_succ]
          refine wpAnyK_take (i := 1) (oi := _) (v := ?_) rfl (by kernel_rfl) (by kernel_rfl) (by kernel_rfl) (by kernel_rfl) (fun _ _ _ h => h) (Or.inl ⟨by rfl, ?_⟩) (by assumption) ?_
          rotate_left
          · intro w hSw; (try dsimp only at hSw); (try subst hSw); go_simp; (try with_reducible rfl)
          simp only [Act.put, List.getElem_toArray, List.getElem_cons_zero, List.getElem_cons_succ, List.setIfInBounds_toArray, List.set_cons_zero, List.set_cons_succ]
          refine wpAnyK_one (i := 2) (o := _) (by kernel_rfl) rfl (fun K hK => ?_)
          go_simp
          (skip; go_wp2_with fail)
          refine hK.out _ _ (unhide hSa _ _ hHeld) (fun hHeld => ?_)
          clear hK K
          cases bk
          · skip
            refine wpAnyK_one (i := 3) (o := _) (by kernel_rfl) rfl (fun K hK => ?_)
            go_simp
            ((go_at_call 31; (with_reducible refine (unhide hin _ _ (Blk.drew (Blk.new 3 _ rfl))).mono ?_); rintro e w2 ⟨rfl, rfl⟩); go_wp2_with fail)
            refine hK.out _ _ (hHeld) (fun hHeld => ?_)
            clear hK K
            refine wpAnyK_take (i := 4) (oi := _) (v := ?_) rfl (by kernel_rfl) (by kernel_rfl) (by kernel_rfl) (by kernel_rfl) (fun _ _ _ h => h) (Or.inl ⟨by rfl, ?_⟩) (by assumption) ?_
            rotate_left
            · intro w hSw; (try dsimp only at hSw); (try subst hSw); go_simp; (try with_reducible rfl)
            simp only [Act.put, List.getElem_toArray, List.getElem_cons_zero, List.getElem_cons_succ, List.setIfInBounds_toArray, List.set_cons_zero, List.set_cons_succ]
            refine wpAnyK_take (i := 5) (oi := _) (v := undef) rfl (by kernel_rfl) (by kernel_rfl) (by kernel_rfl) (by kernel_rfl) (fun _ _ _ h => h) (Or.inr ⟨by rfl, rfl⟩) (by assumption) ?_
            simp only [Act.put, List.getElem_toArray, List.getElem_cons_zero, List.getElem_cons_succ, List.setIfInBounds_toArray, List.set_cons_zero, List.set_cons_succ]
            refine wpAnyK_take (i := 6) (oi := _) (v := undef) rfl (by kernel_rfl) (by kernel_rfl) (by kernel_rfl) (by kernel_rfl) (fun _ _ _ h => h) (Or.inr ⟨by rfl, rfl⟩) (by assumption) ?_
            simp only [Act.put, List.getElem_toArray, List.getElem_cons_zero, List.getElem_cons_succ, List.setIfInBounds_toArray, List.set_cons_zero, List.set_cons_succ]
            refine wpAnyK_take (i := 7) (oi := _) (v := undef) rfl (by kernel_rfl) (by kernel_rfl) (by kernel_rfl) (by kernel_rfl) (fun _ _ _ h => h) (Or.inr ⟨by rfl, rfl⟩) (by assumption) ?_
            simp only [Act.put, List.getElem_toArray, List.getElem_cons_zero, List.getElem_cons_succ, List.setIfInBounds_toArray, List.set_cons_zero, List.set_cons_succ]
            refine wpAnyK_take (i := 8) (oi := _) (v := ?_) rfl (by kernel_rfl) (by kernel_rfl) (by kernel_rfl) (by kernel_rfl) (fun _ _ _ h => h) (Or.inl ⟨by rfl, ?_⟩) (by assumption) ?_
            rotate_left
            · intro w hSw; (try dsimp only at hSw); (try subst hSw); go_simp; (try with_reducible rfl)
            simp only [Act.put, List.getElem_toArray, List.getElem_cons_zero, List.getElem_cons_succ, List.setIfInBounds_toArray, List.set_cons_zero, List.set_cons_succ]
            refine wpAnyK_take (i := 9) (oi := _) (v := ?_) rfl (by kernel_rfl) (by kernel_rfl) (by kernel_rfl) (by kernel_rfl) (fun _ _ _ h => h) (Or.inl ⟨by rfl, ?_⟩) (by assumption) ?_
            rotate_left
            · intro w hSw; (try dsimp only at hSw); (try subst hSw); go_simp; (try with_reducible rfl)
            simp only [Act.put, List.getElem_toArray, List.getElem_cons_zero, List.getElem_cons_succ, List.setIfInBounds_toArray, List.set_cons_zero, List.set_cons_succ]
            refine wpAnyK_take (i := 10) (oi := _) (v := undef) rfl (by kernel_rfl) (by kernel_rfl) (by kernel_rfl) (by kernel_rfl) (fun _ _ _ h => h) (Or.inr ⟨by rfl, rfl⟩) (by assumption) ?_
            simp only [Act.put, List.getElem_toArray, List.getElem_cons_zero, List.getElem_cons_succ, List.setIfInBounds_toArray, List.set_cons_zero, List.set_cons_succ]
            refine wpAnyK_take (i := 11) (oi := _) (v := undef) rfl (by kernel_rfl) (by kernel_rfl) (by kernel_rfl) (by kernel_rfl) (fun _ _ _ h => h) (Or.inr ⟨by rfl, rfl⟩) (by assumption) ?_
            simp only [Act.put, List.getElem_toArray, List.getElem_cons_zero, List.getElem_cons_succ, List.setIfInBounds_toArray, List.set_cons_zero, List.set_cons_succ]
            refine wpAnyK_take (i := 12) (oi := _) (v := undef) rfl (by kernel_rfl) (by kernel_rfl) (by kernel_rfl) (by kernel_rfl) (fun _ _ _ h => h) (Or.inr ⟨by rfl, rfl⟩) (by assumption) ?_
            simp only [Act.put, List.getElem_toArray, List.getElem_cons_zero, List.getElem_cons_succ, List.setIfInBounds_toArray, List.set_cons_zero, List.set_cons_succ]
            refine wpAnyK_take (i := 13) (oi := _) (v := undef) rfl (by kernel_rfl) (by kernel_rfl) (by kernel_rfl) (by kernel_rfl) (fun _ _ _ h => h) (Or.inr ⟨by rfl, rfl⟩) (by assumption) ?_
            simp only [Act.put, List.getElem_toArray, List.getElem_cons_zero, List.getElem_cons_succ, List.setIfInBounds_toArray, List.set_cons_zero, List.set_cons_succ]
            refine wpAnyK_take (i := 14) (oi := _) (v := undef) rfl (by kernel_rfl) (by kernel_rfl) (by kernel_rfl) (by kernel_rfl) (fun _ _ _ h => h) (Or.inr ⟨by rfl, rfl⟩) (by assumption) ?_
            simp only [Act.put, List.getElem_toArray, List.getElem_cons_zero, List.getElem_cons_succ, List.setIfInBounds_toArray, List.set_cons_zero, List.set_cons_succ]
            refine wpAnyK_take (i := 15) (oi := _) (v := undef) rfl (by kernel_rfl) (by kernel_rfl) (by kernel_rfl) (by kernel_rfl) (fun _ _ _ h => h) (Or.inr ⟨by rfl, rfl⟩) (by assumption) ?_
            simp only [Act.put, List.getElem_toArray, List.getElem_cons_zero, List.getElem_cons_succ, List.setIfInBounds_toArray, List.set_cons_zero, List.set_cons_succ]
            refine wpAnyK_take (i := 16) (oi := _) (v := ?_) rfl (by kernel_rfl) (by kernel_rfl) (by kernel_rfl) (by kernel_rfl) (fun _ _ _ h => h) (Or.inl ⟨by rfl, ?_⟩) (by assumption) ?_
            rotate_left
            · intro w hSw; (try dsimp only at hSw); (try subst hSw); go_simp; (try with_reducible rfl)
            simp only [Act.put, List.getElem_toArray, List.getElem_cons_zero, List.getElem_cons_succ, List.setIfInBounds_toArray, List.set_cons_zero, List.set_cons_succ]
            refine wpAnyK_take (i := 17) (oi := _) (v := ?_) rfl (by kernel_rfl) (by kernel_rfl) (by kernel_rfl) (by kernel_rfl) (fun _ _ _ h => h) (Or.inl ⟨by rfl, ?_⟩) (by assumption) ?_
            rotate_left
            · intro w hSw; (try dsimp only at hSw); (try subst hSw); go_simp; (try with_reducible rfl)
            simp only [Act.put, List.getElem_toArray, List.getElem_cons_zero, List.getElem_cons_succ, List.setIfInBounds_toArray, List.set_cons_zero, List.set_cons_succ]
            refine wpAnyK_take (i := 18) (oi := _) (v := undef) rfl (by kernel_rfl) (by kernel_rfl) (by kernel_rfl) (by kernel_rfl) (fun _ _ _ h => h) (Or.inr ⟨by rfl, rfl⟩) (by assumption) ?_
            simp only [Act.put, List.getElem_toArray, List.getElem_cons_zero, List.getElem_cons_succ, List.setIfInBounds_toArray, List.set_cons_zero, List.set_cons_succ]
            refine wpAnyK_take (i := 19) (oi := _) (v := undef) rfl (by kernel_rfl) (by kernel_rfl) (by kernel_rfl) (by kernel_rfl) (fun _ _ _ h => h) (Or.inr ⟨by rfl, rfl⟩) (by assumption) ?_
            simp only [Act.put, List.getElem_toArray, List.getElem_cons_zero, List.getElem_cons_succ, List.setIfInBounds_toArray, List.set_cons_zero, List.set_cons_succ]
            refine wpAnyK_take (i := 20) (oi := _) (v := undef) rfl (by kernel_rfl) (by kernel_rfl) (by kernel_rfl) (by kernel_rfl) (fun _ _ _ h => h) (Or.inr ⟨by rfl, rfl⟩) (by assumption) ?_
            simp only [Act.put, List.getElem_toArray, List.getElem_cons_zero, List.getElem_cons_succ, List.setIfInBounds_toArray, List.set_cons_zero, List.set_cons_succ]
            refine wpAnyK_take (i := 21) (oi := _) (v := undef) rfl (by kernel_rfl) (by kernel_rfl) (by kernel_rfl) (by kernel_rfl) (fun _ _ _ h => h) (Or.inr ⟨by rfl, rfl⟩) (by assumption) ?_
            simp only [Act.put, List.getElem_toArray, List.getElem_cons_zero, List.getElem_cons_succ, List.setIfInBounds_toArray, List.set_cons_zero, List.set_cons_succ]
            refine wpAnyK_take (i := 22) (oi := _) (v := undef) rfl (by kernel_rfl) (by kernel_rfl) (by kernel_rfl) (by kernel_rfl) (fun _ _ _ h => h) (Or.inr ⟨by rfl, rfl⟩) (by assumption) ?_
            simp only [Act.put, List.getElem_toArray, List.getElem_cons_zero, List.getElem_cons_succ, List.setIfInBounds_toArray, List.set_cons_zero, List.set_cons_succ]
            refine wpAnyK_take (i := 23) (oi := _) (v := undef) rfl (by kernel_rfl) (by kernel_rfl) (by kernel_rfl) (by kernel_rfl) (fun _ _ _ h => h) (Or.inr ⟨by rfl, rfl⟩) (by assumption) ?_
            simp only [Act.put, List.getElem_toArray, List.getElem_cons_zero, List.getElem_cons_succ, List.setIfInBounds_toArray, List.set_cons_zero, List.set_cons_succ]
            refine wpAnyK_take (i := 24) (oi := _) (v := ?_) rfl (by kernel_rfl) (by kernel_rfl) (by kernel_rfl) (by kernel_rfl) (fun _ _ _ h => h) (Or.inl ⟨by rfl, ?_⟩) (by assumption) ?_
            rotate_left
            · intro w hSw; (try dsimp only at hSw); (try subst hSw); go_simp; (try with_reducible rfl)
            simp only [Act.put, List.getElem_toArray, List.getElem_cons_zero, List.getElem_cons_succ, List.setIfInBounds_toArray, List.set_cons_zero, List.set_cons_succ]
            refine wpAnyK_take (i := 25) (oi := _) (v := ?_) rfl (by kernel_rfl) (by kernel_rfl) (by kernel_rfl) (by kernel_rfl) (fun _ _ _ h => h) (Or.inl ⟨by rfl, ?_⟩) (by assumption) ?_
            rotate_left
            · intro w hSw; (try dsimp only at hSw); (try subst hSw); go_simp; (try with_reducible rfl)
            simp only [Act.put, List.getElem_toArray, List.getElem_cons_zero, List.getElem_cons_succ, List.setIfInBounds_toArray, List.set_cons_zero, List.set_cons_succ]
            refine wpAnyK_take (i := 26) (oi := _) (v := undef) rfl (by kernel_rfl) (by kernel_rfl) (by kernel_rfl) (by kernel_rfl) (fun _ _ _ h => h) (Or.inr ⟨by rfl, rfl⟩) (by assumption) ?_
            simp only [Act.put, List.getElem_toArray, List.getElem_cons_zero, List.getElem_cons_succ, List.setIfInBounds_toArray, List.set_cons_zero, List.set_cons_succ]
            refine wpAnyK_take (i := 27) (oi := _) (v := undef) rfl (by kernel_rfl) (by kernel_rfl) (by kernel_rfl) (by kernel_rfl) (fun _ _ _ h => h) (Or.inr ⟨by rfl, rfl⟩) (by assumption) ?_
            simp only [Act.put, List.getElem_toArray, List.getElem_cons_zero, List.getElem_cons_succ, List.setIfInBounds_toArray, List.set_cons_zero, List.set_cons_succ]
            refine wpAnyK_take (i := 28) (oi := _) (v := undef) rfl (by kernel_rfl) (by kernel_rfl) (by kernel_rfl) (by kernel_rfl) (fun _ _ _ h => h) (Or.inr ⟨by rfl, rfl⟩) (by assumption) ?_
            simp only [Act.put, List.getElem_toArray, List.getElem_cons_zero, List.getElem_cons_succ, List.setIfInBounds_toArray, List.set_cons_zero, List.set_cons_succ]
            refine wpAnyK_take (i := 29) (oi := _) (v := undef) rfl (by kernel_rfl) (by kernel_rfl) (by kernel_rfl) (by kernel_rfl) (fun _ _ _ h => h) (Or.inr ⟨by rfl, rfl⟩) (by assumption) ?_
            simp only [Act.put, List.getElem_toArray, List.getElem_cons_zero, List.getElem_cons_succ, List.setIfInBounds_toArray, List.set_cons_zero, List.set_cons_succ]
            refine wpAnyK_take (i := 30) (oi := _) (v := undef) rfl (by kernel_rfl) (by kernel_rfl) (by kernel_rfl) (by kernel_rfl) (fun _ _ _ h => h) (Or.inr ⟨by rfl, rfl⟩) (by assumption) ?_
            simp only [Act.put, List.getElem_toArray, List.getElem_cons_zero, List.getElem_cons_succ, List.setIfInBounds_toArray, List.set_cons_zero, List.set_cons_succ]
            refine wpAnyK_take (i := 31) (oi := _) (v := ?_) rfl (by kernel_rfl) (by kernel_rfl) (by kernel_rfl) (by kernel_rfl) (fun _ _ _ h => h) (Or.inl ⟨by rfl, ?_⟩) (by assumption) ?_
            rotate_left
            · intro w hSw; (try dsimp only at hSw); (try subst hSw); go_simp; (try with_reducible rfl)
            simp only [Act.put, List.getElem_toArray, List.getElem_cons_zero, List.getElem_cons_succ, List.setIfInBounds_toArray, List.set_cons_zero, List.set_cons_succ]
            refine wpAnyK_end (o := _) (by kernel_rfl) rfl (fun K hK => ?_)
            go_simp
            refine hK.out _ _ ?_
            clear hK K
            refine wpAnyK_done (by kernel_rfl) ?_ _
            go_wp2_with fail
            go_ret
            refine unhide hyes _ (unhide hBf) _ ?_
            intro h
            first | (simp at h; done) | exact unhide hKd | exact unhide hKd (by first | rfl | trivial)
          · skip
            refine wpAnyK_one (i := 3) (o := _) (by kernel_rfl) rfl (fun K hK => ?_)
            go_simp
            ((go_at_call 31; (with_reducible refine (unhide hin _ _ (Blk.drew (Blk.new 3 _ rfl))).mono ?_); rintro e w2 ⟨rfl, rfl⟩); go_wp2_with fail)
            refine hK.out _ _ (hHeld) (fun hHeld => ?_)
            clear hK K
            refine wpAnyK_take (i := 4) (oi := _) (v := ?_) rfl (by kernel_rfl) (by kernel_rfl) (by kernel_rfl) (by kernel_rfl) (fun _ _ _ h => h) (Or.inl ⟨by rfl, ?_⟩) (by assumption) ?_
            rotate_left
            · intro w hSw; (try dsimp only at hSw); (try subst hSw); go_simp; (try with_reducible rfl)
            simp only [Act.put, List.getElem_toArray, List.getElem_cons_zero, List.getElem_cons_succ, List.setIfInBounds_toArray, List.set_cons_zero, List.set_cons_succ]
            refine wpAnyK_take (i := 5) (oi := _) (v := ?_) rfl (by kernel_rfl) (by kernel_rfl) (by kernel_rfl) (by kernel_rfl) (fun _ _ _ h => h) (Or.inl ⟨by rfl, ?_⟩) (by assumption) ?_
            rotate_left
            · intro w hSw; (try dsimp only at hSw); (try subst hSw); go_simp; (try with_reducible rfl)
            simp only [Act.put, List.getElem_toArray, List.getElem_cons_zero, List.getElem_cons_succ, List.setIfInBounds_toArray, List.set_cons_zero, List.set_cons_succ]
            refine wpAnyK_take (i := 6) (oi := _) (v := ?_) rfl (by kernel_rfl) (by kernel_rfl) (by kernel_rfl) (by kernel_rfl) (fun _ _ _ h => h) (Or.inl ⟨by rfl, ?_⟩) (by assumption) ?_
            rotate_left
            · intro w hSw; (try dsimp only at hSw); (try subst hSw); go_simp; (try with_reducible rfl)
            simp only [Act.put, List.getElem_toArray, List.getElem_cons_zero, List.getElem_cons_succ, List.setIfInBounds_toArray, List.set_cons_zero, List.set_cons_succ]
            by_cases h2 : 1 ≤ t.pr
            · skip
              refine wpAnyK_take (i := 7) (oi := _) (v := ?_) rfl (by kernel_rfl) (by kernel_rfl) (by kernel_rfl) (by kernel_rfl) (fun _ _ _ h => h) (Or.inl ⟨by rfl, ?_⟩) (by assumption) ?_
              rotate_left
              · intro w hSw; (try dsimp only at hSw); (try subst hSw); go_simp; (try with_reducible rfl)
              simp only [Act.put, List.getElem_toArray, List.getElem_cons_zero, List.getElem_cons_succ, List.setIfInBounds_toArray, List.set_cons_zero, List.set_cons_succ]
              refine wpAnyK_take (i := 8) (oi := _) (v := ?_) rfl (by kernel_rfl) (by kernel_rfl) (by kernel_rfl) (by kernel_rfl) (fun _ _ _ h => h) (Or.inl ⟨by rfl, ?_⟩) (by assumption) ?_
              rotate_left
              · intro w hSw; (try dsimp only at hSw); (try subst hSw); go_simp; (try with_reducible rfl)
              simp only [Act.put, List.getElem_toArray, List.getElem_cons_zero, List.getElem_cons_succ, List.setIfInBounds_toArray, List.set_cons_zero, List.set_cons_succ]
              refine wpAnyK_take (i := 9) (oi := _) (v := ?_) rfl (by kernel_rfl) (by kernel_rfl) (by kernel_rfl) (by kernel_rfl) (fun _ _ _ h => h) (Or.inl ⟨by rfl, ?_⟩) (by assumption) ?_
              rotate_left
              · intro w hSw; (try dsimp only at hSw); (try subst hSw); go_simp; (try with_reducible rfl)
              simp only [Act.put, List.getElem_toArray, List.getElem_cons_zero, List.getElem_cons_succ, List.setIfInBounds_toArray, List.set_cons_zero, List.set_cons_succ]
              refine wpAnyK_take (i := 10) (oi := _) (v := ?_) rfl (by kernel_rfl) (by kernel_rfl) (by kernel_rfl) (by kernel_rfl) (fun _ _ _ h => h) (Or.inl ⟨by rfl, ?_⟩) (by assumption) ?_
              rotate_left
              · intro w hSw; (try dsimp only at hSw); (try subst hSw); go_simp; (try with_reducible rfl)
              simp only [Act.put, List.getElem_toArray, List.getElem_cons_zero, List.getElem_cons_succ, List.setIfInBounds_toArray, List.set_cons_zero, List.set_cons_succ]
              refine wpAnyK_take (i := 11) (oi := _) (v := ?_) rfl (by kernel_rfl) (by kernel_rfl) (by kernel_rfl) (by kernel_rfl) (fun _ _ _ h => h) (Or.inl ⟨by rfl, ?_⟩) (by assumption) ?_
              rotate_left
              · intro w hSw; (try dsimp only at hSw); (try subst hSw); go_simp; (try with_reducible rfl)
              simp only [Act.put, List.getElem_toArray, List.getElem_cons_zero, List.getElem_cons_succ, List.setIfInBounds_toArray, List.set_cons_zero, List.set_cons_succ]
              refine wpAnyK_take (i := 12) (oi := _) (v := ?_) rfl (by kernel_rfl) (by kernel_rfl) (by kernel_rfl) (by kernel_rfl) (fun _ _ _ h => h) (Or.inl ⟨by rfl, ?_⟩) (by assumption) ?_
              rotate_left
              · intro w hSw; (try dsimp only at hSw); (try subst hSw); go_simp; (try with_reducible rfl)
              simp only [Act.put, List.getElem_toArray, List.getElem_cons_zero, List.getElem_cons_succ, List.setIfInBounds_toArray, List.set_cons_zero, List.set_cons_succ]
              refine wpAnyK_take (i := 13) (oi := _) (v := ?_) rfl (by kernel_rfl) (by kernel_rfl) (by kernel_rfl) (by kernel_rfl) (fun _ _ _ h => h) (Or.inl ⟨by rfl, ?_⟩) (by assumption) ?_
              rotate_left
              · intro w hSw; (try dsimp only at hSw); (try subst hSw); go_simp; (try with_reducible rfl)
              simp only [Act.put, List.getElem_toArray, List.getElem_cons_zero, List.getElem_cons_succ, List.setIfInBounds_toArray, List.set_cons_zero, List.set_cons_succ]
              refine wpAnyK_one (i := 14) (o := _) (by kernel_rfl) rfl (fun K hK => ?_)
              go_simp
              ((go_at_call 32; (with_reducible refine (unhide hpr _).mono ?_); rintro e w2 ⟨m, rfl, hm, rfl⟩); go_wp2_with fail)
              refine hK.out _ _ (hHeld) (fun hHeld => ?_)
              clear hK K
              by_cases h3 : t.pr ≤ m
              · skip
                refine wpAnyK_take (i := 15) (oi := _) (v := ?_) rfl (by kernel_rfl) (by kernel_rfl) (by kernel_rfl) (by kernel_rfl) (fun _ _ _ h => h) (Or.inl ⟨by rfl, ?_⟩) (by assumption) ?_
                rotate_left
                · intro w hSw; (try dsimp only at hSw); (try subst hSw); go_simp; (try with_reducible rfl)
                simp only [Act.put, List.getElem_toArray, List.getElem_cons_zero, List.getElem_cons_succ, List.setIfInBounds_toArray, List.set_cons_zero, List.set_cons_succ]
                refine wpAnyK_take (i := 16) (oi := _) (v := ?_) rfl (by kernel_rfl) (by kernel_rfl) (by kernel_rfl) (by kernel_rfl) (fun _ _ _ h => h) (Or.inl ⟨by rfl, ?_⟩) (by assumption) ?_
                rotate_left
                · intro w hSw; (try dsimp only at hSw); (try subst hSw); go_simp; (try with_reducible rfl)
                simp only [Act.put, List.getElem_toArray, List.getElem_cons_zero, List.getElem_cons_succ, List.setIfInBounds_toArray, List.set_cons_zero, List.set_cons_succ]
                refine wpAnyK_take (i := 17) (oi := _) (v := ?_) rfl (by kernel_rfl) (by kernel_rfl) (by kernel_rfl) (by kernel_rfl) (fun _ _ _ h => h) (Or.inl ⟨by rfl, ?_⟩) (by assumption) ?_
                rotate_left
                · intro w hSw; (try dsimp only at hSw); (try subst hSw); go_simp; (try with_reducible rfl)
                simp only [Act.put, List.getElem_toArray, List.getElem_cons_zero, List.getElem_cons_succ, List.setIfInBounds_toArray, List.set_cons_zero, List.set_cons_succ]
                refine wpAnyK_take (i := 18) (oi := _) (v := ?_) rfl (by kernel_rfl) (by kernel_rfl) (by kernel_rfl) (by kernel_rfl) (fun _ _ _ h => h) (Or.inl ⟨by rfl, ?_⟩) (by assumption) ?_
                rotate_left
                · intro w hSw; (try dsimp only at hSw); (try subst hSw); go_simp; (try with_reducible rfl)
                simp only [Act.put, List.getElem_toArray, List.getElem_cons_zero, List.getElem_cons_succ, List.setIfInBounds_toArray, List.set_cons_zero, List.set_cons_succ]
                refine wpAnyK_take (i := 19) (oi := _) (v := ?_) rfl (by kernel_rfl) (by kernel_rfl) (by kernel_rfl) (by kernel_rfl) (fun _ _ _ h => h) (Or.inl ⟨by rfl, ?_⟩) (by assumption) ?_
                rotate_left
                · intro w hSw; (try dsimp only at hSw); (try subst hSw); go_simp; (try with_reducible rfl)
                simp only [Act.put, List.getElem_toArray, List.getElem_cons_zero, List.getElem_cons_succ, List.setIfInBounds_toArray, List.set_cons_zero, List.set_cons_succ]
                refine wpAnyK_take (i := 20) (oi := _) (v := ?_) rfl (by kernel_rfl) (by kernel_rfl) (by kernel_rfl) (by kernel_rfl) (fun _ _ _ h => h) (Or.inl ⟨by rfl, ?_⟩) (by assumption) ?_
                rotate_left
                · intro w hSw; (try dsimp only at hSw); (try subst hSw); go_simp; (try with_reducible rfl)
                simp only [Act.put, List.getElem_toArray, List.getElem_cons_zero, List.getElem_cons_succ, List.setIfInBounds_toArray, List.set_cons_zero, List.set_cons_succ]
                refine wpAnyK_take (i := 21) (oi := _) (v := ?_) rfl (by kernel_rfl) (by kernel_rfl) (by kernel_rfl) (by kernel_rfl) (fun _ _ _ h => h) (Or.inl ⟨by rfl, ?_⟩) (by assumption) ?_
                rotate_left
                · intro w hSw; (try dsimp only at hSw); (try subst hSw); go_simp; (try with_reducible rfl)
                simp only [Act.put, List.getElem_toArray, List.getElem_cons_zero, List.getElem_cons_succ, List.setIfInBounds_toArray, List.set_cons_zero, List.set_cons_succ]
                refine wpAnyK_take (i := 22) (oi := _) (v := ?_) rfl (by kernel_rfl) (by kernel_rfl) (by kernel_rfl) (by kernel_rfl) (fun _ _ _ h => h) (Or.inl ⟨by rfl, ?_⟩) (by assumption) ?_
                rotate_left
                · intro w hSw; (try dsimp only at hSw); (try subst hSw); go_simp; (try with_reducible rfl)
                simp only [Act.put, List.getElem_toArray, List.getElem_cons_zero, List.getElem_cons_succ, List.setIfInBounds_toArray, List.set_cons_zero, List.set_cons_succ]
                by_cases h4 : IntKind.i64.wrap (-t.pr) ≤ t.sc
                · skip
                  refine wpAnyK_take (i := 23) (oi := _) (v := ?_) rfl (by kernel_rfl) (by kernel_rfl) (by kernel_rfl) (by kernel_rfl) (fun _ _ _ h => h) (Or.inl ⟨by rfl, ?_⟩) (by assumption) ?_
                  rotate_left
                  · intro w hSw; (try dsimp only at hSw); (try subst hSw); go_simp; (try with_reducible rfl)
                  simp only [Act.put, List.getElem_toArray, List.getElem_cons_zero, List.getElem_cons_succ, List.setIfInBounds_toArray, List.set_cons_zero, List.set_cons_succ]
                  refine wpAnyK_take (i := 24) (oi := _) (v := ?_) rfl (by kernel_rfl) (by kernel_rfl) (by kernel_rfl) (by kernel_rfl) (fun _ _ _ h => h) (Or.inl ⟨by rfl, ?_⟩) (by assumption) ?_
                  rotate_left
                  · intro w hSw; (try dsimp only at hSw); (try subst hSw); go_simp; (try with_reducible rfl)
                  simp only [Act.put, List.getElem_toArray, List.getElem_cons_zero, List.getElem_cons_succ, List.setIfInBounds_toArray, List.set_cons_zero, List.set_cons_succ]
                  refine wpAnyK_take (i := 25) (oi := _) (v := ?_) rfl (by kernel_rfl) (by kernel_rfl) (by kernel_rfl) (by kernel_rfl) (fun _ _ _ h => h) (Or.inl ⟨by rfl, ?_⟩) (by assumption) ?_
                  rotate_left
                  · intro w hSw; (try dsimp only at hSw); (try subst hSw); go_simp; (try with_reducible rfl)
                  simp only [Act.put, List.getElem_toArray, List.getElem_cons_zero, List.getElem_cons_succ, List.setIfInBounds_toArray, List.set_cons_zero, List.set_cons_succ]
                  refine wpAnyK_take (i := 26) (oi := _) (v := ?_) rfl (by kernel_rfl) (by kernel_rfl) (by kernel_rfl) (by kernel_rfl) (fun _ _ _ h => h) (Or.inl ⟨by rfl, ?_⟩) (by assumption) ?_
                  rotate_left
                  · intro w hSw; (try dsimp only at hSw); (try subst hSw); go_simp; (try with_reducible rfl)
                  simp only [Act.put, List.getElem_toArray, List.getElem_cons_zero, List.getElem_cons_succ, List.setIfInBounds_toArray, List.set_cons_zero, List.set_cons_succ]
                  refine wpAnyK_take (i := 27) (oi := _) (v := ?_) rfl (by kernel_rfl) (by kernel_rfl) (by kernel_rfl) (by kernel_rfl) (fun _ _ _ h => h) (Or.inl ⟨by rfl, ?_⟩) (by assumption) ?_
                  rotate_left
                  · intro w hSw; (try dsimp only at hSw); (try subst hSw); go_simp; (try with_reducible rfl)
                  simp only [Act.put, List.getElem_toArray, List.getElem_cons_zero, List.getElem_cons_succ, List.setIfInBounds_toArray, List.set_cons_zero, List.set_cons_succ]
                  refine wpAnyK_take (i := 28) (oi := _) (v := ?_) rfl (by kernel_rfl) (by kernel_rfl) (by kernel_rfl) (by kernel_rfl) (fun _ _ _ h => h) (Or.inl ⟨by rfl, ?_⟩) (by assumption) ?_
                  rotate_left
                  · intro w hSw; (try dsimp only at hSw); (try subst hSw); go_simp; (try with_reducible rfl)
                  simp only [Act.put, List.getElem_toArray, List.getElem_cons_zero, List.getElem_cons_succ, List.setIfInBounds_toArray, List.set_cons_zero, List.set_cons_succ]
                  refine wpAnyK_take (i := 29) (oi := _) (v := ?_) rfl (by kernel_rfl) (by kernel_rfl) (by kernel_rfl) (by kernel_rfl) (fun _ _ _ h => h) (Or.inl ⟨by rfl, ?_⟩) (by assumption) ?_
                  rotate_left
                  · intro w hSw; (try dsimp only at hSw); (try subst hSw); go_simp; (try with_reducible rfl)
                  simp only [Act.put, List.getElem_toArray, List.getElem_cons_zero, List.getElem_cons_succ, List.setIfInBounds_toArray, List.set_cons_zero, List.set_cons_succ]
                  refine wpAnyK_take (i := 30) (oi := _) (v := ?_) rfl (by kernel_rfl) (by kernel_rfl) (by kernel_rfl) (by kernel_rfl) (fun _ _ _ h => h) (Or.inl ⟨by rfl, ?_⟩) (by assumption) ?_
                  rotate_left
                  · intro w hSw; (try dsimp only at hSw); (try subst hSw); go_simp; (try with_reducible rfl)
                  simp only [Act.put, List.getElem_toArray, List.getElem_cons_zero, List.getElem_cons_succ, List.setIfInBounds_toArray, List.set_cons_zero, List.set_cons_succ]
                  refine wpAnyK_take (i := 31) (oi := _) (v := ?_) rfl (by kernel_rfl) (by kernel_rfl) (by kernel_rfl) (by kernel_rfl) (fun _ _ _ h => h) (Or.inl ⟨by rfl, ?_⟩) (by assumption) ?_
                  rotate_left
                  · intro w hSw; (try dsimp only at hSw); (try subst hSw); go_simp; (try with_reducible rfl)
                  simp only [Act.put, List.getElem_toArray, List.getElem_cons_zero, List.getElem_cons_succ, List.setIfInBounds_toArray, List.set_cons_zero, List.set_cons_succ]
                  refine wpAnyK_end (o := _) (by kernel_rfl) rfl (fun K hK => ?_)
                  go_simp
                  refine hK.out _ _ ?_
                  clear hK K
                  refine wpAnyK_done (by kernel_rfl) ?_ _
                  go_wp2_with fail
                  go_ret
                  refine unhide hyes _ (unhide hBf) _ ?_
                  intro h
                  first | (simp at h; done) | exact unhide hKd | exact unhide hKd (by first | rfl | trivial)
                · skip
                  refine wpAnyK_take (i := 23) (oi := _) (v := ?_) rfl (by kernel_rfl) (by kernel_rfl) (by kernel_rfl) (by kernel_rfl) (fun _ _ _ h => h) (Or.inl ⟨by rfl, ?_⟩) (by assumption) ?_
                  rotate_left
                  · intro w hSw; (try dsimp only at hSw); (try subst hSw); go_simp; (try with_reducible rfl)
                  simp only [Act.put, List.getElem_toArray, List.getElem_cons_zero, List.getElem_cons_succ, List.setIfInBounds_toArray, List.set_cons_zero, List.set_cons_succ]
                  refine wpAnyK_take (i := 24) (oi := _) (v := ?_) rfl (by kernel_rfl) (by kernel_rfl) (by kernel_rfl) (by kernel_rfl) (fun _ _ _ h => h) (Or.inl ⟨by rfl, ?_⟩) (by assumption) ?_
                  rotate_left
                  · intro w hSw; (try dsimp only at hSw); (try subst hSw); go_simp; (try with_reducible rfl)
                  simp only [Act.put, List.getElem_toArray, List.getElem_cons_zero, List.getElem_cons_succ, List.setIfInBounds_toArray, List.set_cons_zero, List.set_cons_succ]
                  refine wpAnyK_take (i := 25) (oi := _) (v := ?_) rfl (by kernel_rfl) (by kernel_rfl) (by kernel_rfl) (by kernel_rfl) (fun _ _ _ h => h) (Or.inl ⟨by rfl, ?_⟩) (by assumption) ?_
                  rotate_left
                  · intro w hSw; (try dsimp only at hSw); (try subst hSw); go_simp; (try with_reducible rfl)
                  simp only [Act.put, List.getElem_toArray, List.getElem_cons_zero, List.getElem_cons_succ, List.setIfInBounds_toArray, List.set_cons_zero, List.set_cons_succ]
                  refine wpAnyK_take (i := 26) (oi := _) (v := undef) rfl (by kernel_rfl) (by kernel_rfl) (by kernel_rfl) (by kernel_rfl) (fun _ _ _ h => h) (Or.inr ⟨by rfl, rfl⟩) (by assumption) ?_
                  simp only [Act.put, List.getElem_toArray, List.getElem_cons_zero, List.getElem_cons_succ, List.setIfInBounds_toArray, List.set_cons_zero, List.set_cons_succ]
                  refine wpAnyK_take (i := 27) (oi := _) (v := undef) rfl (by kernel_rfl) (by kernel_rfl) (by kernel_rfl) (by kernel_rfl) (fun _ _ _ h => h) (Or.inr ⟨by rfl, rfl⟩) (by assumption) ?_
                  simp only [Act.put, List.getElem_toArray, List.getElem_cons_zero, List.getElem_cons_succ, List.setIfInBounds_toArray, List.set_cons_zero, List.set_cons_succ]
                  refine wpAnyK_take (i := 28) (oi := _) (v := undef) rfl (by kernel_rfl) (by kernel_rfl) (by kernel_rfl) (by kernel_rfl) (fun _ _ _ h => h) (Or.inr ⟨by rfl, rfl⟩) (by assumption) ?_
                  simp only [Act.put, List.getElem_toArray, List.getElem_cons_zero, List.getElem_cons_succ, List.setIfInBounds_toArray, List.set_cons_zero, List.set_cons_succ]
                  refine wpAnyK_take (i := 29) (oi := _) (v := undef) rfl (by kernel_rfl) (by kernel_rfl) (by kernel_rfl) (by kernel_rfl) (fun _ _ _ h => h) (Or.inr ⟨by rfl, rfl⟩) (by assumption) ?_
                  simp only [Act.put, List.getElem_toArray, List.getElem_cons_zero, List.getElem_cons_succ, List.setIfInBounds_toArray, List.set_cons_zero, List.set_cons_succ]
                  refine wpAnyK_take (i := 30) (oi := _) (v := undef) rfl (by kernel_rfl) (by kernel_rfl) (by kernel_rfl) (by kernel_rfl) (fun _ _ _ h => h) (Or.inr ⟨by rfl, rfl⟩) (by assumption) ?_
                  simp only [Act.put, List.getElem_toArray, List.getElem_cons_zero, List.getElem_cons_succ, List.setIfInBounds_toArray, List.set_cons_zero, List.set_cons_succ]
                  refine wpAnyK_take (i := 31) (oi := _) (v := ?_) rfl (by kernel_rfl) (by kernel_rfl) (by kernel_rfl) (by kernel_rfl) (fun _ _ _ h => h) (Or.inl ⟨by rfl, ?_⟩) (by assumption) ?_
                  rotate_left
                  · intro w hSw; (try dsimp only at hSw); (try subst hSw); go_simp; (try with_reducible rfl)
                  simp only [Act.put, List.getElem_toArray, List.getElem_cons_zero, List.getElem_cons_succ, List.setIfInBounds_toArray, List.set_cons_zero, List.set_cons_succ]
                  refine wpAnyK_end (o := _) (by kernel_rfl) rfl (fun K hK => ?_)
                  go_simp
                  refine hK.out _ _ ?_
                  clear hK K
                  refine wpAnyK_done (by kernel_rfl) ?_ _
                  go_wp2_with fail
                  go_ret
                  refine unhide hyes _ (unhide hBf) _ ?_
                  intro h
                  first | (simp at h; done) | exact unhide hKd | exact unhide hKd (by first | rfl | trivial)
              · skip
                refine wpAnyK_take (i := 15) (oi := _) (v := ?_) rfl (by kernel_rfl) (by kernel_rfl) (by kernel_rfl) (by kernel_rfl) (fun _ _ _ h => h) (Or.inl ⟨by rfl, ?_⟩) (by assumption) ?_
                rotate_left
                · intro w hSw; (try dsimp only at hSw); (try subst hSw); go_simp; (try with_reducible rfl)
                simp only [Act.put, List.getElem_toArray, List.getElem_cons_zero, List.getElem_cons_succ, List.setIfInBounds_toArray, List.set_cons_zero, List.set_cons_succ]
                refine wpAnyK_take (i := 16) (oi := _) (v := ?_) rfl (by kernel_rfl) (by kernel_rfl) (by kernel_rfl) (by kernel_rfl) (fun _ _ _ h => h) (Or.inl ⟨by rfl, ?_⟩) (by assumption) ?_
                rotate_left
                · intro w hSw; (try dsimp only at hSw); (try subst hSw); go_simp; (try with_reducible rfl)
                simp only [Act.put, List.getElem_toArray, List.getElem_cons_zero, List.getElem_cons_succ, List.setIfInBounds_toArray, List.set_cons_zero, List.set_cons_succ]
                refine wpAnyK_take (i := 17) (oi := _) (v := ?_) rfl (by kernel_rfl) (by kernel_rfl) (by kernel_rfl) (by kernel_rfl) (fun _ _ _ h => h) (Or.inl ⟨by rfl, ?_⟩) (by assumption) ?_
                rotate_left
                · intro w hSw; (try dsimp only at hSw); (try subst hSw); go_simp; (try with_reducible rfl)
                simp only [Act.put, List.getElem_toArray, List.getElem_cons_zero, List.getElem_cons_succ, List.setIfInBounds_toArray, List.set_cons_zero, List.set_cons_succ]
                refine wpAnyK_take (i := 18) (oi := _) (v := undef) rfl (by kernel_rfl) (by kernel_rfl) (by kernel_rfl) (by kernel_rfl) (fun _ _ _ h => h) (Or.inr ⟨by rfl, rfl⟩) (by assumption) ?_
                simp only [Act.put, List.getElem_toArray, List.getElem_cons_zero, List.getElem_cons_succ, List.setIfInBounds_toArray, List.set_cons_zero, List.set_cons_succ]
                refine wpAnyK_take (i := 19) (oi := _) (v := undef) rfl (by kernel_rfl) (by kernel_rfl) (by kernel_rfl) (by kernel_rfl) (fun _ _ _ h => h) (Or.inr ⟨by rfl, rfl⟩) (by assumption) ?_
                simp only [Act.put, List.getElem_toArray, List.getElem_cons_zero, List.getElem_cons_succ, List.setIfInBounds_toArray, List.set_cons_zero, List.set_cons_succ]
                refine wpAnyK_take (i := 20) (oi := _) (v := undef) rfl (by kernel_rfl) (by kernel_rfl) (by kernel_rfl) (by kernel_rfl) (fun _ _ _ h => h) (Or.inr ⟨by rfl, rfl⟩) (by assumption) ?_
                simp only [Act.put, List.getElem_toArray, List.getElem_cons_zero, List.getElem_cons_succ, List.setIfInBounds_toArray, List.set_cons_zero, List.set_cons_succ]
                refine wpAnyK_take (i := 21) (oi := _) (v := undef) rfl (by kernel_rfl) (by kernel_rfl) (by kernel_rfl) (by kernel_rfl) (fun _ _ _ h => h) (Or.inr ⟨by rfl, rfl⟩) (by assumption) ?_
                simp only [Act.put, List.getElem_toArray, List.getElem_cons_zero, List.getElem_cons_succ, List.setIfInBounds_toArray, List.set_cons_zero, List.set_cons_succ]
                refine wpAnyK_take (i := 22) (oi := _) (v := undef) rfl (by kernel_rfl) (by kernel_rfl) (by kernel_rfl) (by kernel_rfl) (fun _ _ _ h => h) (Or.inr ⟨by rfl, rfl⟩) (by assumption) ?_
                simp only [Act.put, List.getElem_toArray, List.getElem_cons_zero, List.getElem_cons_succ, List.setIfInBounds_toArray, List.set_cons_zero, List.set_cons_succ]
                refine wpAnyK_take (i := 23) (oi := _) (v := undef) rfl (by kernel_rfl) (by kernel_rfl) (by kernel_rfl) (by kernel_rfl) (fun _ _ _ h => h) (Or.inr ⟨by rfl, rfl⟩) (by assumption) ?_
                simp only [Act.put, List.getElem_toArray, List.getElem_cons_zero, List.getElem_cons_succ, List.setIfInBounds_toArray, List.set_cons_zero, List.set_cons_succ]
                refine wpAnyK_take (i := 24) (oi := _) (v := ?_) rfl (by kernel_rfl) (by kernel_rfl) (by kernel_rfl) (by kernel_rfl) (fun _ _ _ h => h) (Or.inl ⟨by rfl, ?_⟩) (by assumption) ?_
                rotate_left
                · intro w hSw; (try dsimp only at hSw); (try subst hSw); go_simp; (try with_reducible rfl)
                simp only [Act.put, List.getElem_toArray, List.getElem_cons_zero, List.getElem_cons_succ, List.setIfInBounds_toArray, List.set_cons_zero, List.set_cons_succ]
                refine wpAnyK_take (i := 25) (oi := _) (v := ?_) rfl (by kernel_rfl) (by kernel_rfl) (by kernel_rfl) (by kernel_rfl) (fun _ _ _ h => h) (Or.inl ⟨by rfl, ?_⟩) (by assumption) ?_
                rotate_left
                · intro w hSw; (try dsimp only at hSw); (try subst hSw); go_simp; (try with_reducible rfl)
                simp only [Act.put, List.getElem_toArray, List.getElem_cons_zero, List.getElem_cons_succ, List.setIfInBounds_toArray, List.set_cons_zero, List.set_cons_succ]
                refine wpAnyK_take (i := 26) (oi := _) (v := undef) rfl (by kernel_rfl) (by kernel_rfl) (by kernel_rfl) (by kernel_rfl) (fun _ _ _ h => h) (Or.inr ⟨by rfl, rfl⟩) (by assumption) ?_
                simp only [Act.put, List.getElem_toArray, List.getElem_cons_zero, List.getElem_cons_succ, List.setIfInBounds_toArray, List.set_cons_zero, List.set_cons_succ]
                refine wpAnyK_take (i := 27) (oi := _) (v := undef) rfl (by kernel_rfl) (by kernel_rfl) (by kernel_rfl) (by kernel_rfl) (fun _ _ _ h => h) (Or.inr ⟨by rfl, rfl⟩) (by assumption) ?_
                simp only [Act.put, List.getElem_toArray, List.getElem_cons_zero, List.getElem_cons_succ, List.setIfInBounds_toArray, List.set_cons_zero, List.set_cons_succ]
                refine wpAnyK_take (i := 28) (oi := _) (v := undef) rfl (by kernel_rfl) (by kernel_rfl) (by kernel_rfl) (by kernel_rfl) (fun _ _ _ h => h) (Or.inr ⟨by rfl, rfl⟩) (by assumption) ?_
                simp only [Act.put, List.getElem_toArray, List.getElem_cons_zero, List.getElem_cons_succ, List.setIfInBounds_toArray, List.set_cons_zero, List.set_cons_succ]
                refine wpAnyK_take (i := 29) (oi := _) (v := undef) rfl (by kernel_rfl) (by kernel_rfl) (by kernel_rfl) (by kernel_rfl) (fun _ _ _ h => h) (Or.inr ⟨by rfl, rfl⟩) (by assumption) ?_
                simp only [Act.put, List.getElem_toArray, List.getElem_cons_zero, List.getElem_cons_succ, List.setIfInBounds_toArray, List.set_cons_zero, List.set_cons_succ]
                refine wpAnyK_take (i := 30) (oi := _) (v := undef) rfl (by kernel_rfl) (by kernel_rfl) (by kernel_rfl) (by kernel_rfl) (fun _ _ _ h => h) (Or.inr ⟨by rfl, rfl⟩) (by assumption) ?_
                simp only [Act.put, List.getElem_toArray, List.getElem_cons_zero, List.getElem_cons_succ, List.setIfInBounds_toArray, List.set_cons_zero, List.set_cons_succ]
                refine wpAnyK_take (i := 31) (oi := _) (v := ?_) rfl (by kernel_rfl) (by kernel_rfl) (by kernel_rfl) (by kernel_rfl) (fun _ _ _ h => h) (Or.inl ⟨by rfl, ?_⟩) (by assumption) ?_
                rotate_left
                · intro w hSw; (try dsimp only at hSw); (try subst hSw); go_simp; (try with_reducible rfl)
                simp only [Act.put, List.getElem_toArray, List.getElem_cons_zero, List.getElem_cons_succ, List.setIfInBounds_toArray, List.set_cons_zero, List.set_cons_succ]
                refine wpAnyK_end (o := _) (by kernel_rfl) rfl (fun K hK => ?_)
                go_simp
                refine hK.out _ _ ?_
                clear hK K
                refine wpAnyK_done (by kernel_rfl) ?_ _
                go_wp2_with fail
                go_ret
                refine unhide hyes _ (unhide hBf) _ ?_
                intro h
                first | (simp at h; done) | exact unhide hKd | exact unhide hKd (by first | rfl | trivial)
            · skip
              refine wpAnyK_take (i := 7) (oi := _) (v := ?_) rfl (by kernel_rfl) (by kernel_rfl) (by kernel_rfl) (by kernel_rfl) (fun _ _ _ h => h) (Or.inl ⟨by rfl, ?_⟩) (by assumption) ?_
              rotate_left
              · intro w hSw; (try dsimp only at hSw); (try subst hSw); go_simp; (try with_reducible rfl)
              simp only [Act.put, List.getElem_toArray, List.getElem_cons_zero, List.getElem_cons_succ, List.setIfInBounds_toArray, List.set_cons_zero, List.set_cons_succ]
              refine wpAnyK_take (i := 8) (oi := _) (v := ?_) rfl (by kernel_rfl) (by kernel_rfl) (by kernel_rfl) (by kernel_rfl) (fun _ _ _ h => h) (Or.inl ⟨by rfl, ?_⟩) (by assumption) ?_
              rotate_left
              · intro w hSw; (try dsimp only at hSw); (try subst hSw); go_simp; (try with_reducible rfl)
              simp only [Act.put, List.getElem_toArray, List.getElem_cons_zero, List.getElem_cons_succ, List.setIfInBounds_toArray, List.set_cons_zero, List.set_cons_succ]
              refine wpAnyK_take (i := 9) (oi := _) (v := ?_) rfl (by kernel_rfl) (by kernel_rfl) (by kernel_rfl) (by kernel_rfl) (fun _ _ _ h => h) (Or.inl ⟨by rfl, ?_⟩) (by assumption) ?_
              rotate_left
              · intro w hSw; (try dsimp only at hSw); (try subst hSw); go_simp; (try with_reducible rfl)
              simp only [Act.put, List.getElem_toArray, List.getElem_cons_zero, List.getElem_cons_succ, List.setIfInBounds_toArray, List.set_cons_zero, List.set_cons_succ]
              refine wpAnyK_take (i := 10) (oi := _) (v := undef) rfl (by kernel_rfl) (by kernel_rfl) (by kernel_rfl) (by kernel_rfl) (fun _ _ _ h => h) (Or.inr ⟨by rfl, rfl⟩) (by assumption) ?_
              simp only [Act.put, List.getElem_toArray, List.getElem_cons_zero, List.getElem_cons_succ, List.setIfInBounds_toArray, List.set_cons_zero, List.set_cons_succ]
              refine wpAnyK_take (i := 11) (oi := _) (v := undef) rfl (by kernel_rfl) (by kernel_rfl) (by kernel_rfl) (by kernel_rfl) (fun _ _ _ h => h) (Or.inr ⟨by rfl, rfl⟩) (by assumption) ?_
              simp only [Act.put, List.getElem_toArray, List.getElem_cons_zero, List.getElem_cons_succ, List.setIfInBounds_toArray, List.set_cons_zero, List.set_cons_succ]
              refine wpAnyK_take (i := 12) (oi := _) (v := undef) rfl (by kernel_rfl) (by kernel_rfl) (by kernel_rfl) (by kernel_rfl) (fun _ _ _ h => h) (Or.inr ⟨by rfl, rfl⟩) (by assumption) ?_
              simp only [Act.put, List.getElem_toArray, List.getElem_cons_zero, List.getElem_cons_succ, List.setIfInBounds_toArray, List.set_cons_zero, List.set_cons_succ]
              refine wpAnyK_take (i := 13) (oi := _) (v := undef) rfl (by kernel_rfl) (by kernel_rfl) (by kernel_rfl) (by kernel_rfl) (fun _ _ _ h => h) (Or.inr ⟨by rfl, rfl⟩) (by assumption) ?_
              simp only [Act.put, List.getElem_toArray, List.getElem_cons_zero, List.getElem_cons_succ, List.setIfInBounds_toArray, List.set_cons_zero, List.set_cons_succ]
              refine wpAnyK_take (i := 14) (oi := _) (v := undef) rfl (by kernel_rfl) (by kernel_rfl) (by kernel_rfl) (by kernel_rfl) (fun _ _ _ h => h) (Or.inr ⟨by rfl, rfl⟩) (by assumption) ?_
              simp only [Act.put, List.getElem_toArray, List.getElem_cons_zero, List.getElem_cons_succ, List.setIfInBounds_toArray, List.set_cons_zero, List.set_cons_succ]
              refine wpAnyK_take (i := 15) (oi := _) (v := undef) rfl (by kernel_rfl) (by kernel_rfl) (by kernel_rfl) (by kernel_rfl) (fun _ _ _ h => h) (Or.inr ⟨by rfl, rfl⟩) (by assumption) ?_
              simp only [Act.put, List.getElem_toArray, List.getElem_cons_zero, List.getElem_cons_succ, List.setIfInBounds_toArray, List.set_cons_zero, List.set_cons_succ]
              refine wpAnyK_take (i := 16) (oi := _) (v := ?_) rfl (by kernel_rfl) (by kernel_rfl) (by kernel_rfl) (by kernel_rfl) (fun _ _ _ h => h) (Or.inl ⟨by rfl, ?_⟩) (by assumption) ?_
              rotate_left
              · intro w hSw; (try dsimp only at hSw); (try subst hSw); go_simp; (try with_reducible rfl)
              simp only [Act.put, List.getElem_toArray, List.getElem_cons_zero, List.getElem_cons_succ, List.setIfInBounds_toArray, List.set_cons_zero, List.set_cons_succ]
              refine wpAnyK_take (i := 17) (oi := _) (v := ?_) rfl (by kernel_rfl) (by kernel_rfl) (by kernel_rfl) (by kernel_rfl) (fun _ _ _ h => h) (Or.inl ⟨by rfl, ?_⟩) (by assumption) ?_
              rotate_left
              · intro w hSw; (try dsimp only at hSw); (try subst hSw); go_simp; (try with_reducible rfl)
              simp only [Act.put, List.getElem_toArray, List.getElem_cons_zero, List.getElem_cons_succ, List.setIfInBounds_toArray, List.set_cons_zero, List.set_cons_succ]
              refine wpAnyK_take (i := 18) (oi := _) (v := undef) rfl (by kernel_rfl) (by kernel_rfl) (by kernel_rfl) (by kernel_rfl) (fun _ _ _ h => h) (Or.inr ⟨by rfl, rfl⟩) (by assumption) ?_
              simp only [Act.put, List.getElem_toArray, List.getElem_cons_zero, List.getElem_cons_succ, List.setIfInBounds_toArray, List.set_cons_zero, List.set_cons_succ]
              refine wpAnyK_take (i := 19) (oi := _) (v := undef) rfl (by kernel_rfl) (by kernel_rfl) (by kernel_rfl) (by kernel_rfl) (fun _ _ _ h => h) (Or.inr ⟨by rfl, rfl⟩) (by assumption) ?_
              simp only [Act.put, List.getElem_toArray, List.getElem_cons_zero, List.getElem_cons_succ, List.setIfInBounds_toArray, List.set_cons_zero, List.set_cons_succ]
              refine wpAnyK_take (i := 20) (oi := _) (v := undef) rfl (by kernel_rfl) (by kernel_rfl) (by kernel_rfl) (by kernel_rfl) (fun _ _ _ h => h) (Or.inr ⟨by rfl, rfl⟩) (by assumption) ?_
              simp only [Act.put, List.getElem_toArray, List.getElem_cons_zero, List.getElem_cons_succ, List.setIfInBounds_toArray, List.set_cons_zero, List.set_cons_succ]
              refine wpAnyK_take (i := 21) (oi := _) (v := undef) rfl (by kernel_rfl) (by kernel_rfl) (by kernel_rfl) (by kernel_rfl) (fun _ _ _ h => h) (Or.inr ⟨by rfl, rfl⟩) (by assumption) ?_
              simp only [Act.put, List.getElem_toArray, List.getElem_cons_zero, List.getElem_cons_succ, List.setIfInBounds_toArray, List.set_cons_zero, List.set_cons_succ]
              refine wpAnyK_take (i := 22) (oi := _) (v := undef) rfl (by kernel_rfl) (by kernel_rfl) (by kernel_rfl) (by kernel_rfl) (fun _ _ _ h => h) (Or.inr ⟨by rfl, rfl⟩) (by assumption) ?_
              simp only [Act.put, List.getElem_toArray, List.getElem_cons_zero, List.getElem_cons_succ, List.setIfInBounds_toArray, List.set_cons_zero, List.set_cons_succ]
              refine wpAnyK_take (i := 23) (oi := _) (v := undef) rfl (by kernel_rfl) (by kernel_rfl) (by kernel_rfl) (by kernel_rfl) (fun _ _ _ h => h) (Or.inr ⟨by rfl, rfl⟩) (by assumption) ?_
              simp only [Act.put, List.getElem_toArray, List.getElem_cons_zero, List.getElem_cons_succ, List.setIfInBounds_toArray, List.set_cons_zero, List.set_cons_succ]
              refine wpAnyK_take (i := 24) (oi := _) (v := ?_) rfl (by kernel_rfl) (by kernel_rfl) (by kernel_rfl) (by kernel_rfl) (fun _ _ _ h => h) (Or.inl ⟨by rfl, ?_⟩) (by assumption) ?_
              rotate_left
              · intro w hSw; (try dsimp only at hSw); (try subst hSw); go_simp; (try with_reducible rfl)
              simp only [Act.put, List.getElem_toArray, List.getElem_cons_zero, List.getElem_cons_succ, List.setIfInBounds_toArray, List.set_cons_zero, List.set_cons_succ]
              refine wpAnyK_take (i := 25) (oi := _) (v := ?_) rfl (by kernel_rfl) (by kernel_rfl) (by kernel_rfl) (by kernel_rfl) (fun _ _ _ h => h) (Or.inl ⟨by rfl, ?_⟩) (by assumption) ?_
              rotate_left
              · intro w hSw; (try dsimp only at hSw); (try subst hSw); go_simp; (try with_reducible rfl)
              simp only [Act.put, List.getElem_toArray, List.getElem_cons_zero, List.getElem_cons_succ, List.setIfInBounds_toArray, List.set_cons_zero, List.set_cons_succ]
              refine wpAnyK_take (i := 26) (oi := _) (v := undef) rfl (by kernel_rfl) (by kernel_rfl) (by kernel_rfl) (by kernel_rfl) (fun _ _ _ h => h) (Or.inr ⟨by rfl, rfl⟩) (by assumption) ?_
              simp only [Act.put, List.getElem_toArray, List.getElem_cons_zero, List.getElem_cons_succ, List.setIfInBounds_toArray, List.set_cons_zero, List.set_cons_succ]
              refine wpAnyK_take (i := 27) (oi := _) (v := undef) rfl (by kernel_rfl) (by kernel_rfl) (by kernel_rfl) (by kernel_rfl) (fun _ _ _ h => h) (Or.inr ⟨by rfl, rfl⟩) (by assumption) ?_
              simp only [Act.put, List.getElem_toArray, List.getElem_cons_zero, List.getElem_cons_succ, List.setIfInBounds_toArray, List.set_cons_zero, List.set_cons_succ]
              refine wpAnyK_take (i := 28) (oi := _) (v := undef) rfl (by kernel_rfl) (by kernel_rfl) (by kernel_rfl) (by kernel_rfl) (fun _ _ _ h => h) (Or.inr ⟨by rfl, rfl⟩) (by assumption) ?_
              simp only [Act.put, List.getElem_toArray, List.getElem_cons_zero, List.getElem_cons_succ, List.setIfInBounds_toArray, List.set_cons_zero, List.set_cons_succ]
              refine wpAnyK_take (i := 29) (oi := _) (v := undef) rfl (by kernel_rfl) (by kernel_rfl) (by kernel_rfl) (by kernel_rfl) (fun _ _ _ h => h) (Or.inr ⟨by rfl, rfl⟩) (by assumption) ?_
              simp only [Act.put, List.getElem_toArray, List.getElem_cons_zero, List.getElem_cons_succ, List.setIfInBounds_toArray, List.set_cons_zero, List.set_cons_succ]
              refine wpAnyK_take (i := 30) (oi := _) (v := undef) rfl (by kernel_rfl) (by kernel_rfl) (by kernel_rfl) (by kernel_rfl) (fun _ _ _ h => h) (Or.inr ⟨by rfl, rfl⟩) (by assumption) ?_
              simp only [Act.put, List.getElem_toArray, List.getElem_cons_zero, List.getElem_cons_succ, List.setIfInBounds_toArray, List.set_cons_zero, List.set_cons_succ]
              refine wpAnyK_take (i := 31) (oi := _) (v := ?_) rfl (by kernel_rfl) (by kernel_rfl) (by kernel_rfl) (by kernel_rfl) (fun _ _ _ h => h) (Or.inl ⟨by rfl, ?_⟩) (by assumption) ?_
              rotate_left
              · intro w hSw; (try dsimp only at hSw); (try subst hSw); go_simp; (try with_reducible rfl)
              simp only [Act.put, List.getElem_toArray, List.getElem_cons_zero, List.getElem_cons_succ, List.setIfInBounds_toArray, List.set_cons_zero, List.set_cons_succ]
              refine wpAnyK_end (o := _) (by kernel_rfl) rfl (fun K hK => ?_)
              go_simp
              refine hK.out _ _ ?_
              clear hK K
              refine wpAnyK_done (by kernel_rfl) ?_ _
              go_wp2_with fail
              go_ret
              refine unhide hyes _ (unhide hBf) _ ?_
              intro h
              first | (simp at h; done) | exact unhide hKd | exact unhide hKd (by first | rfl | trivial)
        · have hi := hide (fun (W : World) => in_lit W t.un [0, 1] #[.int .i64 0, .int .i64 1] rfl (by decide) 2 rfl)
          have hK := hide (fun (h : True) => (show KindOk w0 t from by simp [KindOk, hkd]))
          rw [hkd] at c0
          clear hkd
          go_wp2_with (first | (go_at_call 31; (with_reducible refine (unhide hi wc).mono ?_); rintro e w2 ⟨rfl, hb2⟩) | fail)
          go_ret
          exact unhide hyes w2 hb2 _ (fun h => unhide hK trivial)
        · have hK := hide (show KindOk w0 t from by simp [KindOk, hkd])
          rw [hkd] at c0
          clear hkd
          go_wp2_with fail
          all_goals
            go_ret
            exact unhide hyes wc (unhide hbr) _ (fun _ => unhide hK)
        · have hK := hide (show KindOk w0 t from by simp [KindOk, hkd])
          rw [hkd] at c0
          clear hkd
          go_wp2_with fail
          all_goals
            go_ret
            exact unhide hyes wc (unhide hbr) _ (fun _ => unhide hK)
        · have hK := hide (show KindOk w0 t from by simp [KindOk, hkd])
          rw [hkd] at c0
          clear hkd
          go_wp2_with fail
          all_goals
            go_ret
            exact unhide hyes wc (unhide hbr) _ (fun _ => unhide hK)
        · have hK := hide (fun (h : t.un = 0 ∨ t.un = 1 ∨ t.un = 2) => (show KindOk w0 t from by simp [KindOk, hkd]; exact h))
          rw [hkd] at c0
          clear hkd
          go_wp2_with fail
          all_goals
            go_ret
            exact unhide hyes wc (unhide hbr) _ (fun h => unhide hK (by first | (simp at h; done) | (simp at h; omega) | omega))
        · have hK := hide (show KindOk w0 t from by simp [KindOk, hkd])
          rw [hkd] at c0
          clear hkd
          go_wp2_with fail
          all_goals
            go_ret
            exact unhide hyes wc (unhide hbr) _ (fun _ => unhide hK)
        · have hK := hide (fun (h : 0 < t.wd ∧ t.wd ≤ 1000) => (show KindOk w0 t from by simp [KindOk, hkd]; exact h))
          have hz : 0 < t.nf := by rw [hkd] at hl1; have : leastP 16 = 1 := by decide
                                   omega
          obtain ⟨b, o, ha, hcs⟩ := (unhide hF0) hz
          have hn0 := narrow_any w0 n wc (fAt w0 t.af 0).ty ((unhide hOk0) 0 hz) ((unhide hTyf) 0 hz) ((unhide hbw) wc hBc)
          obtain ⟨d0, d1, d2, d3, d4, d5, d6, d7, d8, d9, d10, d11, d12⟩ := (hcs wc (unhide hbr)).1
          rw [hkd] at c0
          rw [ha] at c9
          clear hkd ha hcs hl1 hl2
          generalize fAt w0 t.af 0 = f at *
          replace hn0 := hide hn0
          go_wp2_with (first | (go_at_call 33; (with_reducible refine (unhide hn0).mono ?_); rintro e w2 ⟨b2, rfl, hb2⟩) | fail)
          all_goals
            go_ret
            first
              | exact unhide hyes w2 hb2 _ (fun h => unhide hK (by first | omega | (simp at h; done) | (simp at h; omega)))
              | exact unhide hyes wc (unhide hbr) _ (fun h => unhide hK (by first | omega | (simp at h; done) | (simp at h; omega)))
        · have hK := hide (fun (h : IdsOk w0 t ∧ 0 < t.nf) => (show KindOk w0 t from by simp [KindOk, hkd]; exact h))
          have hi := hide (fun (W : World) => in_lit' W t.un [0, 1] #[.int .i64 0, .int .i64 1] rfl (by decide) 2 rfl)
          rw [hkd] at c0
          have hTc2 := hide hcut.1
          clear hkd
          go_wp2_with (first
            | (go_at_call 31; (with_reducible refine (unhide hi wc).mono ?_); rintro e w2 ⟨b2, rfl, hb2⟩; have hB2 := hide (below_tr hBc hb2 hBc.size); obtain ⟨e0, e1, e2, e3, e4, e5, e6, e7, e8, e9⟩ := ((unhide hTc2).below hb2).cells)
            | (go_at_call 34; (with_reducible refine (unhide hids w2 (unhide hB2)).mono ?_); rintro e w3 ⟨b3, rfl, hid, hb3⟩; have hb23 := hide (below_tr hb2 hb3 hb2.size); obtain ⟨g0, g1, g2, g3, g4, g5, g6, g7, g8, g9⟩ := (((unhide hTc2).below hb2).below hb3).cells)
            | fail)
          all_goals
            go_ret
            first
              | exact unhide hyes w3 (unhide hb23) _ (fun h => by first | (simp at h; done) | exact unhide hK ⟨hid (by first | assumption | rfl | trivial | (simp_all; done)), by first | omega | (simp at h; omega)⟩)
              | exact unhide hyes w2 hb2 _ (fun h => by first | (simp at h; done) | (exfalso; simp_all; done))
        · have hK := hide (fun (h : (fAt w0 t.af 0).ty.kd = 13 ∧ (fAt w0 t.af 0).ty.nf = 2 ∧ (fAt w0 (fAt w0 t.af 0).ty.af 0).nl = false) => (show KindOk w0 t from by simp [KindOk, hkd]; exact h))
          have hz : 0 < t.nf := by rw [hkd] at hl1; have : leastP 17 = 1 := by decide
                                   omega
          obtain ⟨b, o, ha, hcs⟩ := (unhide hF0) hz
          obtain ⟨_, _, _, _, _, _, _, hfe, _⟩ := (unhide hTyf) 0 hz 1
          obtain ⟨dz0, dz1, dz2, dz3, dz4, dz5, dz6, dz7, dz8, dz9, dz10, dz11, dz12⟩ := (hcs wc (unhide hbr)).1
          have hb1 : Below wc.heap.size wc (wc.alloc (.cells #[.int .i64 (fAt w0 t.af 0).ty.kd, .int .i64 (fAt w0 t.af 0).ty.wd, .bool (fAt w0 t.af 0).ty.sg, .int .i64 (fAt w0 t.af 0).ty.un, .int .i64 (fAt w0 t.af 0).ty.pr, .int .i64 (fAt w0 t.af 0).ty.sc, .string (fAt w0 t.af 0).ty.zn, .bool (fAt w0 t.af 0).ty.fl, .slice (fAt w0 t.af 0).ty.ai (fAt w0 t.af 0).ty.ni (fAt w0 t.af 0).ty.ci, .slice (fAt w0 t.af 0).ty.af (fAt w0 t.af 0).ty.nf (fAt w0 t.af 0).ty.cf] 30)) := (Below.refl _ _).alloc (Nat.le_refl _) _
          obtain ⟨d0, d1, _⟩ := (hcs _ hb1).1
          obtain ⟨_, _, _, _, _, _, _, _, _, e9⟩ := (TB.below hcut.1 hb1).cells
          have hge := fun (h2 : (fAt w0 t.af 0).ty.nf = 2) => hfe.base (by omega)
          have hbw1 := (unhide hbw) _ (below_tr hBc hb1 hBc.size)
          rw [hkd] at c0
          by_cases h3 : (fAt w0 t.af 0).ty.kd = 13
          · by_cases h2 : (fAt w0 t.af 0).ty.nf = 2
            · obtain ⟨b2, o2, ha2, hcs2⟩ := hge h2
              obtain ⟨g0, g1, _⟩ := (hcs2 _ hbw1 0 (by omega)).1
              rw [Nat.zero_mul, Nat.add_zero] at g0 g1
              clear hge hcs hcs2 hfe hkd hl1 hl2 hOk0 hTyf hF0
              have hK2 := hide (fun (h : (fAt w0 (fAt w0 t.af 0).ty.af 0).nl = false) => unhide hK ⟨h3, h2, h⟩)
              generalize hgg : fAt w0 (fAt w0 t.af 0).ty.af 0 = g at *
              clear hgg hK
              generalize hff : fAt w0 t.af 0 = f at *
              clear hff
              rw [ha] at c9 e9
              rw [ha2, h2, h3] at hb1 d0 d1 e9 g0 g1
              rw [ha2, h2] at dz11
              rw [h3] at dz2
              clear ha ha2 h2 h3 hbw1
              replace hb1 := hide hb1
              go_wp2_with fail
              all_goals
                go_ret
                refine unhide hyes _ (unhide hb1) _ ?_
                intro h
                first | (simp at h; done) | (exact unhide hK2 (by simp_all))
            · have hz2 : (((fAt w0 t.af 0).ty.nf : Int) == 2) = false := by rw [beq_eq_false_iff_ne]; omega
              clear hge hcs hfe hkd hl1 hl2 hOk0 hTyf hF0 h2 hbw1 hK
              generalize hff : fAt w0 t.af 0 = f at *
              clear hff
              rw [ha] at c9 e9
              rw [h3] at hb1 d0 d1 e9 dz2
              clear ha h3
              replace hb1 := hide hb1
              go_wp2_with fail
              all_goals
                go_ret
                refine unhide hyes _ (unhide hb1) _ ?_
                intro h
                first | (simp at h; done) | (exfalso; simp_all; done)
          · have hz3 : ((fAt w0 t.af 0).ty.kd == 13) = false := by rw [beq_eq_false_iff_ne]; exact h3
            clear hge hcs hfe hkd hl1 hl2 hOk0 hTyf hF0 h3 hbw1 hK
            generalize hff : fAt w0 t.af 0 = f at *
            clear hff
            rw [ha] at c9 e9
            clear ha
            replace hb1 := hide hb1
            go_wp2_with fail
            all_goals
              go_ret
              refine unhide hyes _ (unhide hb1) _ ?_
              intro h
              first | (simp at h; done) | (exfalso; simp_all; done)
        · have hK := hide (show KindOk w0 t from by simp [KindOk, hkd])
          have hz : 1 < t.nf := by rw [hkd] at hl1; have : leastP 22 = 2 := by decide
                                   omega
          obtain ⟨b, o, ha, hcs⟩ := (unhide hF0) (by omega)
          obtain ⟨dz0, dz1, dz2, dz3, dz4, dz5, dz6, dz7, dz8, dz9, dz10, dz11, dz12⟩ := (hcs wc (unhide hbr)).1
          have hb1 : Below wc.heap.size wc (wc.alloc (.cells #[.int .i64 (fAt w0 t.af 0).ty.kd, .int .i64 (fAt w0 t.af 0).ty.wd, .bool (fAt w0 t.af 0).ty.sg, .int .i64 (fAt w0 t.af 0).ty.un, .int .i64 (fAt w0 t.af 0).ty.pr, .int .i64 (fAt w0 t.af 0).ty.sc, .string (fAt w0 t.af 0).ty.zn, .bool (fAt w0 t.af 0).ty.fl, .slice (fAt w0 t.af 0).ty.ai (fAt w0 t.af 0).ty.ni (fAt w0 t.af 0).ty.ci, .slice (fAt w0 t.af 0).ty.af (fAt w0 t.af 0).ty.nf (fAt w0 t.af 0).ty.cf] 30)) := (Below.refl _ _).alloc (Nat.le_refl _) _
          obtain ⟨d0, d1, _⟩ := (hcs _ hb1).1
          obtain ⟨k0, k1, k2, k3, k4, k5, k6, k7, k8, k9, k10, k11, k12⟩ := (hcs _ hb1).2 hz
          obtain ⟨_, _, _, _, _, _, _, _, _, e9⟩ := (TB.below hcut.1 hb1).cells
          have hb2 : Below wc.heap.size wc ((wc.alloc (.cells #[.int .i64 (fAt w0 t.af 0).ty.kd, .int .i64 (fAt w0 t.af 0).ty.wd, .bool (fAt w0 t.af 0).ty.sg, .int .i64 (fAt w0 t.af 0).ty.un, .int .i64 (fAt w0 t.af 0).ty.pr, .int .i64 (fAt w0 t.af 0).ty.sc, .string (fAt w0 t.af 0).ty.zn, .bool (fAt w0 t.af 0).ty.fl, .slice (fAt w0 t.af 0).ty.ai (fAt w0 t.af 0).ty.ni (fAt w0 t.af 0).ty.ci, .slice (fAt w0 t.af 0).ty.af (fAt w0 t.af 0).ty.nf (fAt w0 t.af 0).ty.cf] 30)).alloc (.cells #[.int .i64 14, .int .i64 22] 3)) := hb1.alloc (by simp) _
          have hh : Calls Tryz.prog 35 #[(fAt w0 t.af 1).ty.val, .slice (some ⟨wc.heap.size + 1, 0, none⟩) 2 2] ((wc.alloc (.cells #[.int .i64 (fAt w0 t.af 0).ty.kd, .int .i64 (fAt w0 t.af 0).ty.wd, .bool (fAt w0 t.af 0).ty.sg, .int .i64 (fAt w0 t.af 0).ty.un, .int .i64 (fAt w0 t.af 0).ty.pr, .int .i64 (fAt w0 t.af 0).ty.sc, .string (fAt w0 t.af 0).ty.zn, .bool (fAt w0 t.af 0).ty.fl, .slice (fAt w0 t.af 0).ty.ai (fAt w0 t.af 0).ty.ni (fAt w0 t.af 0).ty.ci, .slice (fAt w0 t.af 0).ty.af (fAt w0 t.af 0).ty.nf (fAt w0 t.af 0).ty.cf] 30)).alloc (.cells #[.int .i64 14, .int .i64 22] 3)) (PSome ((wc.alloc (.cells #[.int .i64 (fAt w0 t.af 0).ty.kd, .int .i64 (fAt w0 t.af 0).ty.wd, .bool (fAt w0 t.af 0).ty.sg, .int .i64 (fAt w0 t.af 0).ty.un, .int .i64 (fAt w0 t.af 0).ty.pr, .int .i64 (fAt w0 t.af 0).ty.sc, .string (fAt w0 t.af 0).ty.zn, .bool (fAt w0 t.af 0).ty.fl, .slice (fAt w0 t.af 0).ty.ai (fAt w0 t.af 0).ty.ni (fAt w0 t.af 0).ty.ci, .slice (fAt w0 t.af 0).ty.af (fAt w0 t.af 0).ty.nf (fAt w0 t.af 0).ty.cf] 30)).alloc (.cells #[.int .i64 14, .int .i64 22] 3))) :=
            hasKind_any w0 [14, 22] (by decide) (wc.heap.size + 1) 2 n _ (fAt w0 t.af 1).ty ((unhide hOk0) 1 hz) ((unhide hTyf) 1 hz) ((unhide hbw) _ (below_tr hBc hb2 hBc.size)) ⟨by simp, ivs_blk [14, 22] (Blk.new 3 _ (by simp))⟩
          have hb12 := hide (fun (W : World) (h : Below ((wc.alloc (.cells #[.int .i64 (fAt w0 t.af 0).ty.kd, .int .i64 (fAt w0 t.af 0).ty.wd, .bool (fAt w0 t.af 0).ty.sg, .int .i64 (fAt w0 t.af 0).ty.un, .int .i64 (fAt w0 t.af 0).ty.pr, .int .i64 (fAt w0 t.af 0).ty.sc, .string (fAt w0 t.af 0).ty.zn, .bool (fAt w0 t.af 0).ty.fl, .slice (fAt w0 t.af 0).ty.ai (fAt w0 t.af 0).ty.ni (fAt w0 t.af 0).ty.ci, .slice (fAt w0 t.af 0).ty.af (fAt w0 t.af 0).ty.nf (fAt w0 t.af 0).ty.cf] 30)).alloc (.cells #[.int .i64 14, .int .i64 22] 3)).heap.size ((wc.alloc (.cells #[.int .i64 (fAt w0 t.af 0).ty.kd, .int .i64 (fAt w0 t.af 0).ty.wd, .bool (fAt w0 t.af 0).ty.sg, .int .i64 (fAt w0 t.af 0).ty.un, .int .i64 (fAt w0 t.af 0).ty.pr, .int .i64 (fAt w0 t.af 0).ty.sc, .string (fAt w0 t.af 0).ty.zn, .bool (fAt w0 t.af 0).ty.fl, .slice (fAt w0 t.af 0).ty.ai (fAt w0 t.af 0).ty.ni (fAt w0 t.af 0).ty.ci, .slice (fAt w0 t.af 0).ty.af (fAt w0 t.af 0).ty.nf (fAt w0 t.af 0).ty.cf] 30)).alloc (.cells #[.int .i64 14, .int .i64 22] 3)) W) => below_tr hb2 h (by simp; omega))
          rw [hkd] at c0
          clear hkd hcs hl1 hl2 hOk0 hTyf hF0 hb2
          generalize hgg : fAt w0 t.af 1 = g at *
          clear hgg
          generalize hff : fAt w0 t.af 0 = f at *
          clear hff
          rw [ha] at c9 e9
          clear ha
          by_cases h3 : f.ty.kd = 2
          · rw [h3] at hb1 d0 d1 k0 k1 k2 k3 k4 k5 k6 k7 k8 k9 k10 k11 k12 e9 hh hb12 dz2
            clear h3
            cases hsg : f.ty.sg <;> cases hnl : f.nl
            all_goals
              rw [hsg] at hb1 d0 d1 k0 k1 k2 k3 k4 k5 k6 k7 k8 k9 k10 k11 k12 e9 hh hb12 dz4
              rw [hnl] at d1 dz1
              clear hsg hnl
              replace hb1 := hide hb1
              replace hh := hide hh
              replace hb12 := hide hb12
              go_wp2_with (first | (go_at_call 35; (with_reducible refine (unhide hh).mono ?_); rintro e w2 ⟨b2, rfl, hb2⟩; have hb3 := hide ((unhide hb12) w2 hb2)) | fail)
              all_goals
                go_ret
                first
                  | exact unhide hyes w2 (unhide hb3) _ (fun _ => unhide hK)
                  | exact unhide hyes _ (unhide hb1) _ (fun _ => unhide hK)
          · have hz3 : (f.ty.kd == 2) = false := by rw [beq_eq_false_iff_ne]; exact h3
            clear h3
            replace hb1 := hide hb1
            replace hh := hide hh
            replace hb12 := hide hb12
            go_wp2_with (first | (go_at_call 35; (with_reducible refine (unhide hh).mono ?_); rintro e w2 ⟨b2, rfl, hb2⟩; have hb3 := hide ((unhide hb12) w2 hb2)) | fail)
            all_goals
              go_ret
              first
                | exact unhide hyes w2 (unhide hb3) _ (fun _ => unhide hK)
                | exact unhide hyes _ (unhide hb1) _ (fun _ => unhide hK)
        · have hK := hide (show KindOk w0 t from by simp [KindOk, hkd])
          have hz : 0 < t.nf := by rw [hkd] at hl1; have : leastP 27 = 2 := by decide
                                   omega
          obtain ⟨b, o, ha, hcs⟩ := (unhide hF0) hz
          obtain ⟨d0, d1, d2, d3, d4, d5, d6, d7, d8, d9, d10, d11, d12⟩ := (hcs wc (unhide hbr)).1
          rw [hkd] at c0
          rw [ha] at c9
          clear hkd ha hcs hl1 hl2
          generalize fAt w0 t.af 0 = f at *
          go_wp2_with fail
          all_goals
            go_ret
            exact unhide hyes wc (unhide hbr) _ (fun _ => unhide hK)
        · obtain ⟨n1, n2, n3, n4, n5, n6, n7, n8, n9, n10, n11, n12, n13, n14⟩ := hkd
          have hK := hide (show KindOk w0 t from by simp [KindOk, n1, n2, n3, n8, n10, n11, n12])
          have z1 : (t.kd == 2) = false := by simp [n1]
          have z2 : (t.kd == 3) = false := by simp [n2]
          have z3 : (t.kd == 7) = false := by simp [n3]
          have z4 : (t.kd == 8) = false := by simp [n4]
          have z5 : (t.kd == 9) = false := by simp [n5]
          have z6 : (t.kd == 10) = false := by simp [n6]
          have z7 : (t.kd == 18) = false := by simp [n7]
          have z8 : (t.kd == 11) = false := by simp [n8]
          have z9 : (t.kd == 15) = false := by simp [n9]
          have z10 : (t.kd == 16) = false := by simp [n10]
          have z11 : (t.kd == 14) = false := by simp [n11]
          have z12 : (t.kd == 17) = false := by simp [n12]
          have z13 : (t.kd == 22) = false := by simp [n13]
          have z14 : (t.kd == 27) = false := by simp [n14]
          clear n1 n2 n3 n4 n5 n6 n7 n8 n9 n10 n11 n12 n13 n14
          go_wp2_with fail
          go_ret
          exact unhide hyes wc (unhide hbr) _ (fun _ => unhide hK)
    · clear hbk
      go_wp2_with fail
      go_ret
      exact unhide hq
theorem right_any (w0 : World) : ∀ (n : Nat), n ≤ 4 → ∀ (w : World) (t : Ty), (∀ m, TyAt w0 m t) → Below w0.heap.size w0 w → Calls Tryz.prog 22 #[t.val, .int .i64 (n : Int)] w (PYes (Ok w0 n t) w)
  | 0, _, w, t, _, _ => right_zero w t _
  | n + 1, h, w, t, ht, hb => by
    have := right_succ w0 n (by omega) (right_any w0 n (by omega)) w t ht hb
    rwa [show ((n + 1 : Nat) : Int) = (n : Int) + 1 by omega]
end Go.Proofs.YtconkcjcjdmidaaGreatDoor
