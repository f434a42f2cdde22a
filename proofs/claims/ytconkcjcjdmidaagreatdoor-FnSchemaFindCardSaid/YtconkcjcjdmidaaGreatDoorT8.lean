/- What a type must be to be right. (YtconkcjcjdmidaaGreatDoor) -/
import Derived.Test.YtconkcjcjdmidaaGreatDoorT6
set_option linter.unusedVariables false
set_option linter.unusedSimpArgs false
namespace Go.Proofs.YtconkcjcjdmidaaGreatDoor
open Go.RowKit Go.ChangeShapes Go.WideShapes Go.ChangeAt Go
/-- a union's numbers: from 0 to 126, no two the same, one for each field. -/
def IdsOk (w : World) (t : Ty) : Prop := t.ni = t.nf ∧ ∀ k, k < t.ni → 0 ≤ iAt w t.ai k ∧ iAt w t.ai k ≤ 126 ∧ ∀ j, j < k → iAt w t.ai j ≠ iAt w t.ai k
/-- what else a kind asks. -/
def KindOk (w : World) (t : Ty) : Prop :=
  (t.kd = 2 → t.wd = 8 ∨ t.wd = 16 ∨ t.wd = 32 ∨ t.wd = 64) ∧ (t.kd = 3 → t.wd = 16 ∨ t.wd = 32 ∨ t.wd = 64) ∧ (t.kd = 7 → t.wd = 32 ∨ t.wd = 64 ∨ t.wd = 128 ∨ t.wd = 256) ∧ (t.kd = 11 → t.un = 0 ∨ t.un = 1 ∨ t.un = 2) ∧
  (t.kd = 16 → 0 < t.wd ∧ t.wd ≤ 1000) ∧ (t.kd = 14 → IdsOk w t ∧ 0 < t.nf) ∧
  (t.kd = 17 → (fAt w t.af 0).ty.kd = 13 ∧ (fAt w t.af 0).ty.nf = 2 ∧ (fAt w (fAt w t.af 0).ty.af 0).nl = false)
def Ok (w : World) : Nat → Ty → Prop
  | 0, _ => False
  | n + 1, t => 1 ≤ t.kd ∧ t.kd ≤ 27 ∧ leastP t.kd ≤ (t.nf : Int) ∧ (t.nf : Int) ≤ mostP t.kd ∧ (∀ k, k < t.nf → Ok w n (fAt w t.af k).ty) ∧ KindOk w t
/-- yes or no; and yes only if it is so. -/
def PYes (C : Prop) (w : World) (e : Ending) (w' : World) : Prop := ∃ b : Bool, e = .returned (.bool b) ∧ (b = true → C) ∧ Below w.heap.size w w'
theorem pyes_no {C : Prop} {w w' : World} (hb : Below w.heap.size w w') : PYes C w (.returned (.bool false)) w' := ⟨false, rfl, (fun h => nomatch h), hb⟩
theorem pyes_yes {C : Prop} {w w' : World} (h : Below w.heap.size w w') (hC : C) : PYes C w (.returned (.bool true)) w' := ⟨true, rfl, fun _ => hC, h⟩
theorem pyes_mk {C : Prop} {w w' : World} (b : Bool) (h : Below w.heap.size w w') (hC : b = true → C) : PYes C w (.returned (.bool b)) w' := ⟨b, rfl, hC, h⟩
/-- number k of a list, in a later world. -/
theorem Is.at_ {w W : World} {a : Option Addr} {n c : Nat} (h : Is w a n c) (hb : Below w.heap.size w W) {k : Nat} (hk : k < n) : ∃ b o, a = some ⟨b, o, none⟩ ∧ W.cell? ⟨b, o + k, none⟩ = some (.int .i64 (iAt w a k)) ∧ i64in (iAt w a k) := by
  obtain ⟨_, _, h3⟩ := h
  obtain ⟨b, o, rfl, hlt, hc⟩ := h3 (by omega)
  obtain ⟨x, h4, h5, h6⟩ := hc k hk
  have e : iAt w (some ⟨b, o, none⟩) k = x := by
    unfold iAt blkOf offOf
    simp only [h4, vI]
  rw [e]
  exact ⟨b, o, rfl, (hb.cell hlt).trans h4, h5, h6⟩
def IR (w0 w : World) (t : Ty) (v : Value) (wr : World) : Prop :=
  ∃ i : Nat, v = .int .i64 (i : Int) ∧ i ≤ t.ni ∧ TB wr w.heap.size t ∧ Below w.heap.size w wr ∧ ∀ k, k < i → 0 ≤ iAt w0 t.ai k ∧ iAt w0 t.ai k ≤ 126 ∧ ∀ j, j < k → iAt w0 t.ai j ≠ iAt w0 t.ai k
set_option maxRecDepth 100000 in
set_option maxHeartbeats 2000000 in
theorem idsRight_any (w0 w : World) (t : Ty) (ht : TyAt w0 1 t) (hb : Below w0.heap.size w0 w) : Calls Tryz.prog 34 #[t.val] w (PYes (IdsOk w0 t) w) := by
  have hm : maxLen = 9223372036854775807 := by decide
  obtain ⟨_, _, _, _, _, _, his, hfs, _⟩ := ht
  have hni := his.2.1
  have hnc := his.1
  have hnf := hfs.2.1
  have hs := hb.size
  have h00 := hide (show IR w0 w t (.int .i64 0) (w.alloc (.cells #[.int .i64 t.kd, .int .i64 t.wd, .bool t.sg, .int .i64 t.un, .int .i64 t.pr, .int .i64 t.sc, .string t.zn, .bool t.fl, .slice t.ai t.ni t.ci, .slice t.af t.nf t.cf] 30)) from
    ⟨0, rfl, by omega, TB.new w t, (Below.refl _ _).alloc (Nat.le_refl _) _, fun k hk => absurd hk (by omega)⟩)
  have hI := hide (fun (W : World) (hW : Below w.heap.size w W) (k : Nat) (hk : k < t.ni) => his.at_ (below_tr hb hW hs) hk)
  -- 'in' of the numbers ahead of number i
  have hin := hide (fun (W : World) (hW : Below w.heap.size w W) (i : Nat) (hi : i < t.ni) (b o : Nat) (e : t.ai = some ⟨b, o, none⟩) =>
    (show Calls Tryz.prog 31 #[.int .i64 (iAt w0 t.ai i), .slice (some ⟨b, o, none⟩) i t.ci] W (PInN W (decide (iAt w0 t.ai i ∈ (List.range i).map (iAt w0 t.ai)))) from by
      have := in_any W (iAt w0 t.ai i) b o t.ci ((List.range i).map (iAt w0 t.ai)) (by simp; omega) (fun j hj => by
        have hj' : j < i := by simpa using hj
        obtain ⟨b', o', e', hc, _⟩ := his.at_ (below_tr hb hW hs) (k := j) (by omega)
        rw [e] at e'
        injection e' with e'
        injection e' with e1 e2 _
        subst e1 e2
        rw [hc]
        simp [List.getD_eq_getElem?_getD, hj'])
      rwa [List.length_map, List.length_range] at this))
  rcases Nat.eq_zero_or_pos t.ni with hz0 | hz0
  · have hB := hide (show Below w.heap.size w (w.alloc (.cells #[.int .i64 t.kd, .int .i64 t.wd, .bool t.sg, .int .i64 t.un, .int .i64 t.pr, .int .i64 t.sc, .string t.zn, .bool t.fl, .slice t.ai t.ni t.ci, .slice t.af t.nf t.cf] 30)) from (Below.refl _ _).alloc (Nat.le_refl _) _)
    rw [hz0] at hB
    have hF := hide (fun (h : (0 : Int) = (t.nf : Int)) => (show IdsOk w0 t from ⟨by omega, fun k hk => absurd hk (by omega)⟩))
    clear his hfs hb hI hin h00
    by_cases he : (0 : Int) = (t.nf : Int)
    · have hz : ((0 : Int) == (t.nf : Int)) = true := by simp [← he]
      have hF2 := hide (pyes_yes (unhide hB) (unhide hF he))
      clear he hF hni hnc hnf hs
      go_enter Tryz.func34, Tryz.ntmps34
      go_wp2_with fail
      refine wp_loop_rounds 1 ?_
      rw [rounds_succ]
      go_wp2_with fail
      go_ret
      exact unhide hF2
    · have hz : ((0 : Int) == (t.nf : Int)) = false := by rw [beq_eq_false_iff_ne]; exact he
      have hF2 := hide (pyes_no (C := IdsOk w0 t) (unhide hB))
      clear he hF hni hnc hnf hs
      go_enter Tryz.func34, Tryz.ntmps34
      go_wp2_with fail
      refine wp_loop_rounds 1 ?_
      rw [rounds_succ]
      go_wp2_with fail
      go_ret
      exact unhide hF2
  obtain ⟨b, o, ha, _, _⟩ := (unhide hI) w (Below.refl _ _) 0 hz0
  clear his hfs hb
  rw [ha] at h00
  go_enter Tryz.func34, Tryz.ntmps34
  go_wp2_with fail
  go_loopw [8] (IR w0 w t) (fun v _ => t.ni - (intOf v).toNat)
  case atStart => exact unhide h00
  case round =>
    obtain ⟨i, rfl, hi, hT, hB, hR⟩ := hrel
    obtain ⟨c0, c1, c2, c3, c4, c5, c6, c7, c8, c9⟩ := hT.cells
    by_cases hlt : i < t.ni
    · obtain ⟨b', o', ha', hc, hx0, hx1⟩ := (unhide hI) wr hB i hlt
      obtain ⟨rfl, rfl⟩ : b = b' ∧ o = o' := by rw [ha] at ha'; injection ha' with e; injection e with e1 e2 _; exact ⟨e1, e2⟩
      have hcall := hide ((unhide hin) wr hB i hlt b o ha)
      have hlt' : (i : Int) < (t.ni : Int) := by omega
      have hw1 : IntKind.i64.wrap ((i : Int) + 1) = (i : Int) + 1 := (IntWalk.i64_left _).trans (IntWalk.wrap64_in _ (by omega))
      have hno := hide (pyes_no (C := IdsOk w0 t) hB)
      have hnx := hide (fun (h1 : ¬ iAt w0 t.ai i < 0) (h2 : ¬ 126 < iAt w0 t.ai i) (h3 : ¬ iAt w0 t.ai i ∈ (List.range i).map (iAt w0 t.ai)) =>
        (show IR w0 w t (.int .i64 ((i : Int) + 1)) wr from ⟨i + 1, by simp, by omega, hT, hB, fun k hk => by
          rcases Nat.lt_or_ge k i with h4 | h4
          · exact hR k h4
          · obtain rfl : k = i := by omega
            exact ⟨by omega, by omega, fun j hj e => h3 (by rw [← e]; exact List.mem_map.2 ⟨j, by simpa using hj, rfl⟩)⟩⟩))
      generalize hL : (List.range i).map (iAt w0 t.ai) = L at *
      generalize iAt w0 t.ai i = x at *
      have hcap : i ≤ t.ci := by omega
      clear hI hin hT hB hR ha' hL
      by_cases h1 : x < 0
      · clear hnx
        go_wp2_with fail
        go_ret
        exact unhide hno
      · by_cases h2 : 126 < x
        · clear hnx
          go_wp2_with fail
          go_ret
          exact unhide hno
        · by_cases h3 : x ∈ L
          · have hd : decide (x ∈ L) = true := by simp [h3]
            rw [hd] at hcall
            clear hnx h3 hd
            go_wp2_with (first | (go_at_call 31; (with_reducible refine (unhide hcall).mono ?_); rintro e w2 ⟨rfl, rfl⟩) | fail)
            go_ret
            exact unhide hno
          · have hd : decide (x ∈ L) = false := by simp [h3]
            rw [hd] at hcall
            have hN := hide (unhide hnx h1 h2 h3)
            clear hnx h3 hd
            go_wp2_with (first | (go_at_call 31; (with_reducible refine (unhide hcall).mono ?_); rintro e w2 ⟨rfl, rfl⟩) | fail)
            go_roundw
            case rel => exact unhide hN
            case measure => show t.ni - (intOf (Value.int IntKind.i64 ((i : Int) + 1))).toNat < t.ni - (intOf (Value.int IntKind.i64 (i : Int))).toNat; simp only [intOf]; omega
    · obtain rfl : i = t.ni := by omega
      have hlt' : ¬ (t.ni : Int) < (t.ni : Int) := by omega
      have hfin := hide (fun (h : (t.ni : Int) = (t.nf : Int)) => (show IdsOk w0 t from ⟨by omega, hR⟩))
      have hB' := hide hB
      by_cases he : (t.ni : Int) = (t.nf : Int)
      · have hz : ((t.ni : Int) == (t.nf : Int)) = true := by simp [he]
        have hF := hide (pyes_yes hB (unhide hfin he))
        clear hT hB hR he hfin hI hin
        go_wp2_with fail
        go_ret
        exact unhide hF
      · have hz : ((t.ni : Int) == (t.nf : Int)) = false := by simp [he]
        have hF := hide (pyes_no (C := IdsOk w0 t) hB)
        clear hT hB hR he hfin hI hin
        go_wp2_with fail
        go_ret
        exact unhide hF
end Go.Proofs.YtconkcjcjdmidaaGreatDoor
