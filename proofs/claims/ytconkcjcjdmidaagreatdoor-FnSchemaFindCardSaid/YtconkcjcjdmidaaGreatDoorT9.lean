/- Runs of 16 bits; kinds within a type. (YtconkcjcjdmidaaGreatDoor) -/
import Derived.Test.YtconkcjcjdmidaaGreatDoorT8
set_option linter.unusedVariables false
set_option linter.unusedSimpArgs false
namespace Go.Proofs.YtconkcjcjdmidaaGreatDoor
open Go.RowKit Go.ChangeShapes Go.WideShapes Go.ChangeAt Go
/-- where a type's fields begin. -/
theorem Fs.base {w : World} {a : Option Addr} {n c : Nat} (h : Fs w a n c) (hn : 0 < n) : ∃ b o, a = some ⟨b, o, none⟩ ∧ ∀ W, Below w.heap.size w W → ∀ k, k < n → FCells W b (o + k * 13) (fAt w a k) ∧ (fAt w a k).nm.size ≤ maxLen := by
  obtain ⟨_, _, h3⟩ := h
  obtain ⟨b, o, e, hlt, hc⟩ := h3 hn
  exact ⟨b, o, e, fun W hb k hk => ⟨(hc k hk).1.below hb hlt, (hc k hk).2⟩⟩
def LRel (w : World) (t : Ty) (v : Value) (wr : World) : Prop := ∃ i : Nat, v = .int .i64 (i : Int) ∧ i ≤ t.nf ∧ TB wr w.heap.size t ∧ Below w.heap.size w wr
theorem LRel.start (w : World) (t : Ty) : LRel w t (.int .i64 0) (w.alloc (.cells #[.int .i64 t.kd, .int .i64 t.wd, .bool t.sg, .int .i64 t.un, .int .i64 t.pr, .int .i64 t.sc, .string t.zn, .bool t.fl, .slice t.ai t.ni t.ci, .slice t.af t.nf t.cf] 30)) :=
  ⟨0, rfl, by omega, TB.new w t, (Below.refl _ _).alloc (Nat.le_refl _) _⟩
abbrev Fd.row (f : Fd) : Array Value := #[.string f.nm, .bool f.nl, .int .i64 f.ty.kd, .int .i64 f.ty.wd, .bool f.ty.sg, .int .i64 f.ty.un, .int .i64 f.ty.pr, .int .i64 f.ty.sc, .string f.ty.zn, .bool f.ty.fl, .slice f.ty.ai f.ty.ni f.ty.ci, .slice f.ty.af f.ty.nf f.ty.cf, .slice f.am f.nm' f.cm]
theorem LRel.next {w wr W : World} {t : Ty} {i : Nat} {f : Fd} (hi : i < t.nf) (hT : TB wr w.heap.size t) (hB : Below w.heap.size w wr) (h : Below (wr.alloc (.cells f.row 32)).heap.size (wr.alloc (.cells f.row 32)) W) : LRel w t (.int .i64 ((i : Int) + 1)) W :=
  ⟨i + 1, by simp, by omega, (hT.alloc _).below h, below_tr (hB.alloc hB.size _) h (by simp; have := hB.size; omega)⟩
theorem LRel.done {w wr W : World} {f : Fd} (hB : Below w.heap.size w wr) (h : Below (wr.alloc (.cells f.row 32)).heap.size (wr.alloc (.cells f.row 32)) W) : Below w.heap.size w W :=
  below_tr (hB.alloc hB.size _) h (by simp; have := hB.size; omega)
set_option maxRecDepth 100000 in
set_option maxHeartbeats 2000000 in
theorem narrow_any (w0 : World) : ∀ (n : Nat) (w : World) (t : Ty), Ok w0 n t → (∀ m, TyAt w0 m t) → Below w0.heap.size w0 w → Calls Tryz.prog 33 #[t.val] w (PSome w) := by
  intro n
  induction n with
  | zero => intro w t h; exact absurd h (by unfold Ok; exact fun h => h)
  | succ n ih =>
    intro w t hok ht hb
    obtain ⟨h1, h2, h3, h4, h5, h6⟩ := hok
    obtain ⟨_, _, _, _, _, _, _, hfs, _⟩ := ht 1
    have hnf : t.nf ≤ 9223372036854775807 := hfs.2.1
    have hs := hb.size
    have hL0 := LRel.start w t
    have hB0 := hide (show Below w.heap.size w (w.alloc (.cells #[.int .i64 t.kd, .int .i64 t.wd, .bool t.sg, .int .i64 t.un, .int .i64 t.pr, .int .i64 t.sc, .string t.zn, .bool t.fl, .slice t.ai t.ni t.ci, .slice t.af t.nf t.cf] 30)) from (Below.refl _ _).alloc (Nat.le_refl _) _)
    have hI := hide (fun (W : World) (i : Nat) (hi : i < t.nf) (hB : Below w.heap.size w W) => ih W (fAt w0 t.af i).ty (h5 i hi) (fun m => ((ht (m + 1)).2.2.2.2.2.2.2.2 i hi).1) (below_tr hb hB hs))
    rcases Nat.eq_zero_or_pos t.nf with hz | hz
    · have hk : ¬ t.kd = 22 := fun e => by rw [e, hz] at h3; exact absurd h3 (by decide)
      have hk' : (t.kd == 22) = false := by simp [hk]
      rw [hz] at hB0
      clear hfs ht hb h1 h2 h3 h4 h5 h6 hI ih hL0 hk
      go_enter Tryz.func33, Tryz.ntmps33
      go_wp2_with fail
      refine wp_loop_rounds 1 ?_
      rw [rounds_succ]
      go_wp2_with fail
      go_ret
      exact ⟨_, rfl, unhide hB0⟩
    · obtain ⟨b, o, ha, hcs⟩ := hfs.base hz
      have hC := hide (fun (W : World) (hB : Below w.heap.size w W) (k : Nat) (hk : k < t.nf) => hcs W (below_tr hb hB hs) k hk)
      have h22 : t.kd = 22 → 1 < t.nf := fun e => by rw [e] at h3; have : leastP 22 = 2 := by decide
                                                     omega
      have h00 := (hcs (w.alloc (.cells #[.int .i64 t.kd, .int .i64 t.wd, .bool t.sg, .int .i64 t.un, .int .i64 t.pr, .int .i64 t.sc, .string t.zn, .bool t.fl, .slice t.ai t.ni t.ci, .slice t.af t.nf t.cf] 30)) (hb.alloc hs _) 0 hz).1
      rw [Nat.zero_mul, Nat.add_zero] at h00
      obtain ⟨d0, d1, d2, d3, _⟩ := h00
      replace d3 : (w.alloc (.cells #[.int .i64 t.kd, .int .i64 t.wd, .bool t.sg, .int .i64 t.un, .int .i64 t.pr, .int .i64 t.sc, .string t.zn, .bool t.fl, .slice t.ai t.ni t.ci, .slice t.af t.nf t.cf] 30)).cell? ⟨b, o + 2 + 1, none⟩ = _ := d3
      have hT := TB.new w t
      clear hfs ht hb h1 h2 h3 h4 h5 h6 ih hcs d0 d1 d2 h22
      replace ha := hide ha
      generalize hf0 : fAt w0 t.af 0 = f0 at d3
      clear hf0
      have hw0 : ∃ W0, W0 = (w.alloc (.cells #[.int .i64 t.kd, .int .i64 t.wd, .bool t.sg, .int .i64 t.un, .int .i64 t.pr, .int .i64 t.sc, .string t.zn, .bool t.fl, .slice t.ai t.ni t.ci, .slice t.af t.nf t.cf] 30)) := ⟨_, rfl⟩
      obtain ⟨W0, hw0⟩ := hw0
      rw [← hw0] at hT d3 hB0 hL0
      obtain ⟨c0, c1, c2, c3, c4, c5, c6, c7, c8, c9⟩ := hT.cells
      replace hL0 := hide hL0
      replace hT := hide hT
      go_enter Tryz.func33, Tryz.ntmps33
      go_upto_region 1 with (fail)
      rw [← hw0]
      clear hw0
      rw [unhide ha] at c9
      go_upto_region 3 with (fail)
      all_goals first
        | (go_ret; exact ⟨_, rfl, unhide hB0⟩)
        | skip
      all_goals
        clear d3 hB0 c0 c1 c2 c3 c4 c5 c6 c7 c8
        go_wp2_with fail
        go_loopw [20] (LRel w t) (fun v _ => t.nf - (intOf v).toNat)
        case atStart => exact unhide hL0
        case round =>
          obtain ⟨i, rfl, hi, hT, hB⟩ := hrel
          by_cases hlt : i < t.nf
          · obtain ⟨hfc, hns⟩ := (unhide hC) wr hB i hlt
            have hBn := hB.alloc hB.size (.cells (fAt w0 t.af i).row 32)
            have hcall := (unhide hI) _ i hlt hBn
            have hnx := hide (fun (W : World) => LRel.next (W := W) (f := fAt w0 t.af i) hlt hT hB)
            have hdn := hide (fun (W : World) => LRel.done (W := W) (f := fAt w0 t.af i) hB)
            have hlt' : (i : Int) < (t.nf : Int) := by omega
            have hw1 : IntKind.i64.wrap ((i : Int) + 1) = (i : Int) + 1 := (IntWalk.i64_left _).trans (IntWalk.wrap64_in _ (by omega))
            generalize fAt w0 t.af i = f at hfc hcall hns hnx hdn
            replace hcall := hide hcall
            obtain ⟨d0, d1, d2, d3, d4, d5, d6, d7, d8, d9, d10, d11, d12⟩ := hfc
            clear hT hB hBn hI hC
            go_wp2_with (first | (go_at_call 33; (with_reducible refine (unhide hcall).mono ?_); rintro e w2 ⟨b2, rfl, hb2⟩) | fail)
            all_goals first
              | (go_ret; exact ⟨_, rfl, unhide hdn w2 hb2⟩)
              | (go_roundw; (case rel => exact unhide hnx w2 hb2); (case measure => show t.nf - (intOf (Value.int IntKind.i64 ((i : Int) + 1))).toNat < t.nf - (intOf (Value.int IntKind.i64 (i : Int))).toNat; simp only [intOf]; omega))
              | exact ⟨unhide hnx w2 hb2, by show t.nf - (intOf (Value.int IntKind.i64 ((i : Int) + 1))).toNat < t.nf - (intOf (Value.int IntKind.i64 (i : Int))).toNat; simp only [intOf]; omega⟩
          · obtain rfl : i = t.nf := by omega
            have hlt' : ¬ (t.nf : Int) < (t.nf : Int) := by omega
            have hB1 := hide hB
            clear hT hB
            go_wp2_with fail
            go_ret
            exact ⟨_, rfl, unhide hB1⟩
end Go.Proofs.YtconkcjcjdmidaaGreatDoor
