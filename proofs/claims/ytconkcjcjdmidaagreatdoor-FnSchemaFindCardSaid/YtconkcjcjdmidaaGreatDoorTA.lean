/- Kinds within a type. (YtconkcjcjdmidaaGreatDoor) -/
import Derived.Test.YtconkcjcjdmidaaGreatDoorT9
set_option linter.unusedVariables false
set_option linter.unusedSimpArgs false
namespace Go.Proofs.YtconkcjcjdmidaaGreatDoor
open Go.RowKit Go.ChangeShapes Go.WideShapes Go.ChangeAt Go
/-- numbers that lie in a block. -/
def Zs (w : World) (g : Nat) (zs : List Int) : Prop := g < w.heap.size ∧ ∀ j, j < zs.length → w.cell? ⟨g, 0 + j, none⟩ = some (.int .i64 (zs.getD j 0))
theorem Zs.below {w W : World} {g : Nat} {zs : List Int} (h : Zs w g zs) (hb : Below w.heap.size w W) : Zs W g zs := ⟨Nat.lt_of_lt_of_le h.1 hb.size, fun j hj => (hb.cell h.1).trans (h.2 j hj)⟩
set_option maxRecDepth 100000 in
set_option maxHeartbeats 2000000 in
theorem hasKind_any (w0 : World) (zs : List Int) (hz9 : zs.length ≤ maxLen) (g c9 : Nat) : ∀ (n : Nat) (w : World) (t : Ty), Ok w0 n t → (∀ m, TyAt w0 m t) → Below w0.heap.size w0 w → Zs w g zs → Calls Tryz.prog 35 #[t.val, .slice (some ⟨g, 0, none⟩) zs.length c9] w (PSome w) := by
  intro n
  induction n with
  | zero => intro w t h; exact absurd h (by unfold Ok; exact fun h => h)
  | succ n ih =>
    intro w t hok ht hb hzs
    obtain ⟨h1, h2, h3, h4, h5, h6⟩ := hok
    obtain ⟨_, _, _, _, _, _, _, hfs, _⟩ := ht 1
    have hnf : t.nf ≤ 9223372036854775807 := hfs.2.1
    have hs := hb.size
    have hL0 := LRel.start w t
    have hB0 := (show Below w.heap.size w (w.alloc (.cells #[.int .i64 t.kd, .int .i64 t.wd, .bool t.sg, .int .i64 t.un, .int .i64 t.pr, .int .i64 t.sc, .string t.zn, .bool t.fl, .slice t.ai t.ni t.ci, .slice t.af t.nf t.cf] 30)) from (Below.refl _ _).alloc (Nat.le_refl _) _)
    have hin := in_any (w.alloc (.cells #[.int .i64 t.kd, .int .i64 t.wd, .bool t.sg, .int .i64 t.un, .int .i64 t.pr, .int .i64 t.sc, .string t.zn, .bool t.fl, .slice t.ai t.ni t.ci, .slice t.af t.nf t.cf] 30)) t.kd g 0 c9 zs hz9 (hzs.below (hB0)).2
    have hI := hide (fun (W : World) (i : Nat) (hi : i < t.nf) (hB : Below w.heap.size w W) => ih W (fAt w0 t.af i).ty (h5 i hi) (fun m => ((ht (m + 1)).2.2.2.2.2.2.2.2 i hi).1) (below_tr hb hB hs) (hzs.below hB))
    have hT := TB.new w t
    have hC := hide (fun (hz : 0 < t.nf) => (show ∃ b o, t.af = some ⟨b, o, none⟩ ∧ ∀ W, Below w.heap.size w W → ∀ k, k < t.nf → FCells W b (o + k * 13) (fAt w0 t.af k) ∧ (fAt w0 t.af k).nm.size ≤ maxLen from by
      obtain ⟨b, o, ha, hcs⟩ := hfs.base hz
      exact ⟨b, o, ha, fun W hB k hk => hcs W (below_tr hb hB hs) k hk⟩))
    generalize decide (t.kd ∈ zs) = bk at hin
    obtain ⟨W0, hw0⟩ : ∃ W0, W0 = (w.alloc (.cells #[.int .i64 t.kd, .int .i64 t.wd, .bool t.sg, .int .i64 t.un, .int .i64 t.pr, .int .i64 t.sc, .string t.zn, .bool t.fl, .slice t.ai t.ni t.ci, .slice t.af t.nf t.cf] 30)) := ⟨_, rfl⟩
    rw [← hw0] at hT hB0 hL0 hin
    obtain ⟨c0, c1, c2, c3, c4, c5, c6, c7, c8, c9'⟩ := hT.cells
    replace hL0 := hide hL0
    replace hB0 := hide hB0
    replace hin := hide hin
    clear hfs ht hb hzs h1 h2 h3 h4 h5 h6 ih hT hs
    cases bk
    all_goals
      rcases Nat.eq_zero_or_pos t.nf with hz | hz
      · have c9 := c9'
        rw [hz] at c9
        replace hz := hide hz
        clear hC hI c9'
        go_enter Tryz.func35, Tryz.ntmps35
        go_upto_region 1 with (fail)
        rw [← hw0]
        clear hw0
        go_wp2_with (first | (go_at_call 31; (with_reducible refine (unhide hin).mono ?_); rintro e w2 ⟨rfl, rfl⟩) | fail)
        all_goals first
          | (go_ret; exact ⟨_, rfl, unhide hB0⟩)
          | (refine wp_loop_rounds 1 ?_; rw [rounds_succ]; go_wp2_with fail; go_ret; exact ⟨_, rfl, unhide hB0⟩)
      · obtain ⟨b, o, ha, hcs⟩ := (unhide hC) hz
        replace hcs := hide hcs
        have c9 := c9'
        rw [ha] at c9
        replace ha := hide ha
        clear hC c9'
        go_enter Tryz.func35, Tryz.ntmps35
        go_upto_region 1 with (fail)
        rw [← hw0]
        clear hw0
        go_wp2_with (first | (go_at_call 31; (with_reducible refine (unhide hin).mono ?_); rintro e w2 ⟨rfl, rfl⟩) | fail)
        all_goals first
          | (go_ret; exact ⟨_, rfl, unhide hB0⟩)
          | skip
        all_goals
          clear hB0 c0 c1 c2 c3 c4 c5 c6 c7 c8
          go_loopw [14] (LRel w t) (fun v _ => t.nf - (intOf v).toNat)
          case atStart => exact unhide hL0
          case round =>
            obtain ⟨i, rfl, hi, hT, hB⟩ := hrel
            by_cases hlt : i < t.nf
            · obtain ⟨hfc, hns⟩ := (unhide hcs) wr hB i hlt
              have hBn := hB.alloc hB.size (.cells (fAt w0 t.af i).row 32)
              have hcall := (unhide hI) _ i hlt hBn
              have hnx := hide (fun (W : World) => LRel.next (W := W) (f := fAt w0 t.af i) hlt hT hB)
              have hdn := hide (fun (W : World) => LRel.done (W := W) (f := fAt w0 t.af i) hB)
              have hlt' : (i : Int) < (t.nf : Int) := by omega
              have hw1 : IntKind.i64.wrap ((i : Int) + 1) = (i : Int) + 1 := (IntWalk.i64_left _).trans (IntWalk.wrap64_in _ (by omega))
              generalize fAt w0 t.af i = f at hfc hcall hns hnx hdn
              replace hcall := hide hcall
              obtain ⟨d0, d1, d2, d3, d4, d5, d6, d7, d8, d9, d10, d11, d12⟩ := hfc
              clear hT hB hBn hI hcs
              go_wp2_with (first | (go_at_call 35; (with_reducible refine (unhide hcall).mono ?_); rintro e w2 ⟨b2, rfl, hb2⟩) | fail)
              all_goals first
                | (go_ret; exact ⟨_, rfl, unhide hdn w2 hb2⟩)
                | (go_roundw; (case rel => exact unhide hnx w2 hb2); (case measure => show t.nf - (intOf (Value.int IntKind.i64 ((i : Int) + 1))).toNat < t.nf - (intOf (Value.int IntKind.i64 (i : Int))).toNat; simp only [intOf]; omega))
                | exact ⟨unhide hnx w2 hb2, by show t.nf - (intOf (Value.int IntKind.i64 ((i : Int) + 1))).toNat < t.nf - (intOf (Value.int IntKind.i64 (i : Int))).toNat; simp only [intOf]; omega⟩
            · obtain rfl : i = t.nf := by omega
              have hlt' : ¬ (t.nf : Int) < (t.nf : Int) := by omega
              have hB1 := hide hB
              clear hT hB
              go_wp2_with fail
              go_ret
              exact ⟨_, rfl, unhide hB1⟩
end Go.Proofs.YtconkcjcjdmidaaGreatDoor
