/- The kind of a union; its beginning. (YtconkcjcjdmidaaGreatDoor) -/
import Derived.Test.YtconkcjcjdmidaaGreatDoorTG
import Derived.Test.YtconkcjcjdmidaaGreatDoorLJ
import Derived.Laws.CopyOwn
set_option linter.unusedVariables false
set_option linter.unusedSimpArgs false
namespace Go.Proofs.YtconkcjcjdmidaaGreatDoor
open Go.RowKit Go.ChangeShapes Go.WideShapes Go.ChangeAt Go
/-- 130 cells, the numbers from the third on. -/
def Un (W : World) (g : Nat) : Prop := ∃ (t : TypeId) (cs : Array Value), Blk W g t cs ∧ cs.size = 130 ∧ ∀ j, j < 130 → 2 ≤ j → ∃ x : Int, cs[j]? = some (.int .i64 x)
def UR (w : World) (g : Nat) (v : Value) (wr : World) : Prop := ∃ i : Nat, v = .int .i64 (i : Int) ∧ 1 ≤ i ∧ i < 256 ∧ Un wr g ∧ Below g w wr
theorem Un.set {W : World} {g k : Nat} {x : Int} (h : Un W g) (hk : 2 ≤ k) : Un (W.setCell ⟨g, k, none⟩ (.int .i64 x)) g := by
  obtain ⟨t, cs, h1, h2, h3⟩ := h
  refine ⟨t, _, h1.set _ _, by simpa using h2, fun j hj hj2 => ?_⟩
  by_cases e : k = j
  · subst e; exact ⟨x, by simp [h2, hj]⟩
  · obtain ⟨y, hy⟩ := h3 j hj hj2
    exact ⟨y, by rw [Array.getElem?_setIfInBounds_ne e]; exact hy⟩
theorem Un.cell {W : World} {g : Nat} (h : Un W g) {j : Nat} (hj : j < 130) : (∃ v, W.cell? ⟨g, j, none⟩ = some v) ∧ W.frozen? ⟨g, j, none⟩ = false := by
  obtain ⟨t, cs, h1, h2, h3⟩ := h
  exact ⟨⟨cs[j]'(by omega), by rw [h1.cell]; simp [h2, hj]⟩, h1.frozen _⟩
theorem add_nat (b o k : Nat) : (⟨b, o, none⟩ : Addr).add k = ⟨b, o + k, none⟩ := by unfold Addr.add; split <;> simp_all
theorem un_copy {W : World} {g i : Nat} {t : TypeId} {cs : Array Value} (hsz : cs.size = 130) (hcs : ∀ j, j < 130 → 2 ≤ j → ∃ x : Int, cs[j]? = some (.int .i64 x)) (h1 : 1 ≤ i) (h2 : i < 128)
    (h : W.heap[g]? = some (.cells (splice cs.toList (2 + i) ((cs.toList.drop 2).take (min i (128 - i)))).toArray t (0, 0))) : Un W g := by
  refine ⟨t, _, h, ?_, fun j hj hj2 => ?_⟩
  · simp [length_splice, hsz]
    rw [length_splice] <;> simp [hsz]
    omega
  · have hx : ∀ j, j < 130 → 2 ≤ j → ∃ x : Int, cs.toList[j]? = some (.int .i64 x) := by simpa using hcs
    simp only [List.getElem?_toArray]
    have hl : cs.toList.length = 130 := by simpa using hsz
    have hcl : ((cs.toList.drop 2).take (min i (128 - i))).length = min i (128 - i) := by simp [hsz]
    generalize hc : (cs.toList.drop 2).take (min i (128 - i)) = c at hcl
    generalize hL : cs.toList = L at *
    unfold splice
    rcases Nat.lt_or_ge j (2 + i) with h3 | h3
    · rw [List.getElem?_append_left (by simp; omega), List.getElem?_take_of_lt h3]
      exact hx j hj hj2
    · rw [List.getElem?_append_right (by simp; omega)]
      have e1 : (L.take (2 + i)).length = 2 + i := by simp; omega
      rw [e1]
      rcases Nat.lt_or_ge (j - (2 + i)) c.length with h4 | h4
      · rw [List.getElem?_append_left h4, ← hc, List.getElem?_take_of_lt (by omega), List.getElem?_drop]
        exact hx _ (by omega) (by omega)
      · rw [List.getElem?_append_right h4, List.getElem?_drop]
        exact hx _ (by omega) (by omega)
theorem size3 (w : World) : (sizeOf (Tryz.prog.elem 191)).run Tryz.prog w = .ok 1 w := by
  rw [show Tryz.prog.elem 191 = 3 by kernel_rfl]
  go_simp
theorem cut_lo (W : World) (g i : Nat) (h : i < 128) : (Instr.sliceAt 191 (.pointer (some ⟨g, 2, none⟩)) (some (.int .i64 (i : Int))) none none).run Tryz.prog W = .ok (.slice (some ⟨g, 2 + i, none⟩) (128 - i) (128 - i)) W := by
  have ha : Tryz.prog.arrayLen 191 = 128 := by kernel_rfl
  rw [run_sliceAt_array_l W 191 ⟨g, 2, none⟩ (by kernel_rfl) .i64 (i : Int) (by omega) (by rw [ha]; omega), size3, ha]
  simp only [Result.andThen, slicedAt, Int.toNat_natCast, if_neg (show ¬ 128 = i by omega), Nat.mul_one]
  rw [show (⟨g, 2, none⟩ : Addr).add i = ⟨g, 2 + i, none⟩ from add_nat _ _ _]
theorem cut_hi (W : World) (g i : Nat) (h : i < 128) : (Instr.sliceAt 191 (.pointer (some ⟨g, 2, none⟩)) none (some (.int .i64 (i : Int))) none).run Tryz.prog W = .ok (.slice (some ⟨g, 2, none⟩) i 128) W := by
  have ha : Tryz.prog.arrayLen 191 = 128 := by kernel_rfl
  rw [run_sliceAt_array_h W 191 ⟨g, 2, none⟩ (by kernel_rfl) .i64 (i : Int) (by omega) (by rw [ha]; omega), size3, ha]
  simp only [Result.andThen, slicedAt, Int.toNat_natCast, Nat.sub_zero, Nat.zero_mul]
  rw [if_neg (by omega), add_nat]
theorem Un.set' {W : World} {g k : Nat} {v : Value} (h : Un W g) (hk : k < 2) : Un (W.setCell ⟨g, k, none⟩ v) g := by
  obtain ⟨t, cs, h1, h2, h3⟩ := h
  refine ⟨t, _, h1.set _ _, by simpa using h2, fun j hj hj2 => ?_⟩
  rw [Array.getElem?_setIfInBounds_ne (by omega)]
  exact h3 j hj hj2
def U2 (w : World) (g : Nat) (ids : List Int) (s v : Value) (wr : World) : Prop := ∃ i : Nat, v = .int .i64 (i : Int) ∧ i ≤ ids.length ∧ Un wr g ∧ Below g w wr
set_option maxRecDepth 100000 in
set_option maxHeartbeats 4000000 in
theorem uinit_any (w : World) (g : Nat) (A : Option Addr) (b n c c2 : Nat) (ids : List Int) (hn : n = ids.length) (hi : IdL ids) (hc : Cds w b ids) (hg : Un w g) (hbg : b < g) :
    Calls Tryz.prog 57 #[.pointer (some ⟨g, 0, none⟩), .slice A n c, .slice (some ⟨b, 0, none⟩) ids.length c2] w fun e w' => e = .returned (.tuple #[]) ∧ Below g w w' := by
  subst hn
  obtain ⟨⟨v2, k2⟩, f2⟩ := hg.cell (j := 2) (by omega)
  have h00 := hide (show UR w g (.int .i64 1) (w.setCell ⟨g, 2, none⟩ (.int .i64 (-1))) from ⟨1, rfl, by omega, by omega, hg.set (Nat.le_refl _), (by repeat' (first | (with_reducible exact Below.refl _ _) | (with_reducible refine Below.setCell ?_ ?_ _) | (with_reducible refine bdrewN ?_ _) | (with_reducible refine bdrew ?_) | (with_reducible refine Below.alloc ?_ ?_ _) | exact Nat.le_refl _ | (simp; done)))⟩)
  go_enter Tryz.func57, Tryz.ntmps57
  go_wp2_with fail
  go_loopw [6] (UR w g) (fun v _ => 256 - (intOf v).toNat)
  case atStart => exact unhide h00
  case round =>
    obtain ⟨i, rfl, h1, h2, hU, hB⟩ := hrel
    have hw1 : IntKind.i64.wrap ((i : Int) * 2) = (i : Int) * 2 := (IntWalk.i64_left _).trans (IntWalk.wrap64_in _ (by omega))
    by_cases hlt : i < 128
    · have hlt' : (i : Int) < 128 := by omega
      have hsl := fun (W : World) => cut_lo W g i hlt
      have hsh := fun (W : World) => cut_hi W g i hlt
      obtain ⟨t, cs, hBk, hsz, hcs⟩ := hU
      replace hcs := hide hcs
      replace hB := hide hB
      clear hg hc hi h00 k2 f2
      go_upto_region 4 with (fail)
      refine wp_region_J (S := fun W => W = wr.drew) (k := 10) (by kernel_rfl) rfl (fun hHeld => ?_)
      refine wpAnyJ_loose (i := 0) (oi := _) (v := ?_) rfl (by kernel_rfl) (by kernel_rfl) (by kernel_rfl) (by decide) (fun _ _ _ h => h) (Or.inl ⟨by rfl, ?_⟩) (by assumption) ?_
      rotate_left
      · intro w hSw; (try dsimp only at hSw); go_simp; (try with_reducible rfl)
      simp only [Act.put, List.getElem_toArray, List.getElem_cons_zero, List.getElem_cons_succ, List.setIfInBounds_toArray, List.set_cons_zero, List.set_cons_succ]
      refine wpAnyJ_loose (i := 1) (oi := _) (v := ?_) rfl (by kernel_rfl) (by kernel_rfl) (by kernel_rfl) (by decide) (fun _ _ _ h => h) (Or.inl ⟨by rfl, ?_⟩) (by assumption) ?_
      rotate_left
      · intro w hSw; (try dsimp only at hSw); go_simp; (try with_reducible rfl)
      simp only [Act.put, List.getElem_toArray, List.getElem_cons_zero, List.getElem_cons_succ, List.setIfInBounds_toArray, List.set_cons_zero, List.set_cons_succ]
      refine wpAnyJ_loose (i := 2) (oi := _) (v := ?_) rfl (by kernel_rfl) (by kernel_rfl) (by kernel_rfl) (by decide) (fun _ _ _ h => h) (Or.inl ⟨by rfl, ?_⟩) (by assumption) ?_
      rotate_left
      · intro w hSw; (try dsimp only at hSw); go_simp; (try with_reducible rfl)
      simp only [Act.put, List.getElem_toArray, List.getElem_cons_zero, List.getElem_cons_succ, List.setIfInBounds_toArray, List.set_cons_zero, List.set_cons_succ]
      refine wpAnyJ_loose (i := 3) (oi := _) (v := ?_) rfl (by kernel_rfl) (by kernel_rfl) (by kernel_rfl) (by decide) (fun _ _ _ h => h) (Or.inl ⟨by rfl, ?_⟩) (by assumption) ?_
      rotate_left
      · intro w hSw; (try dsimp only at hSw); go_simp; (try with_reducible rfl)
      simp only [Act.put, List.getElem_toArray, List.getElem_cons_zero, List.getElem_cons_succ, List.setIfInBounds_toArray, List.set_cons_zero, List.set_cons_succ]
      refine wpAnyJ_loose (i := 4) (oi := _) (v := ?_) rfl (by kernel_rfl) (by kernel_rfl) (by kernel_rfl) (by decide) (fun _ _ _ h => h) (Or.inl ⟨by rfl, ?_⟩) (by assumption) ?_
      rotate_left
      · intro w hSw; (try dsimp only at hSw); go_simp; (try with_reducible rfl)
      simp only [Act.put, List.getElem_toArray, List.getElem_cons_zero, List.getElem_cons_succ, List.setIfInBounds_toArray, List.set_cons_zero, List.set_cons_succ]
      refine wpAnyJ_loose (i := 5) (oi := _) (v := ?_) rfl (by kernel_rfl) (by kernel_rfl) (by kernel_rfl) (by decide) (fun _ _ _ h => h) (Or.inl ⟨by rfl, ?_⟩) (by assumption) ?_
      rotate_left
      · intro w hSw; (try dsimp only at hSw); go_simp; (try with_reducible rfl)
      simp only [Act.put, List.getElem_toArray, List.getElem_cons_zero, List.getElem_cons_succ, List.setIfInBounds_toArray, List.set_cons_zero, List.set_cons_succ]
      refine wpAnyJ_loose (i := 6) (oi := _) (v := ?_) rfl (by kernel_rfl) (by kernel_rfl) (by kernel_rfl) (by decide) (fun _ _ _ h => h) (Or.inl ⟨by rfl, ?_⟩) (by assumption) ?_
      rotate_left
      · intro w hSw; (try dsimp only at hSw); go_simp; (try with_reducible rfl)
      simp only [Act.put, List.getElem_toArray, List.getElem_cons_zero, List.getElem_cons_succ, List.setIfInBounds_toArray, List.set_cons_zero, List.set_cons_succ]
      refine wpAnyJ_loose (i := 7) (oi := _) (v := ?_) rfl (by kernel_rfl) (by kernel_rfl) (by kernel_rfl) (by decide) (fun _ _ _ h => h) (Or.inl ⟨by rfl, ?_⟩) (by assumption) ?_
      rotate_left
      · intro w hSw; (try dsimp only at hSw); go_simp; (try with_reducible rfl)
      simp only [Act.put, List.getElem_toArray, List.getElem_cons_zero, List.getElem_cons_succ, List.setIfInBounds_toArray, List.set_cons_zero, List.set_cons_succ]
      refine wpAnyJ_loose (i := 8) (oi := _) (v := ?_) rfl (by kernel_rfl) (by kernel_rfl) (by kernel_rfl) (by decide) (fun _ _ _ h => h) (Or.inl ⟨by rfl, ?_⟩) (by assumption) ?_
      rotate_left
      · intro w hSw; (try dsimp only at hSw); go_simp; (try with_reducible rfl)
      simp only [Act.put, List.getElem_toArray, List.getElem_cons_zero, List.getElem_cons_succ, List.setIfInBounds_toArray, List.set_cons_zero, List.set_cons_succ]
      refine wpAnyJ_loose (i := 9) (oi := _) (v := ?_) rfl (by kernel_rfl) (by kernel_rfl) (by kernel_rfl) (by decide) (fun _ _ _ h => h) (Or.inl ⟨by rfl, ?_⟩) (by assumption) ?_
      rotate_left
      · intro w hSw; (try dsimp only at hSw); go_simp; (try with_reducible rfl)
      simp only [Act.put, List.getElem_toArray, List.getElem_cons_zero, List.getElem_cons_succ, List.setIfInBounds_toArray, List.set_cons_zero, List.set_cons_succ]
      refine wpAnyJ_end (o := _) (by kernel_rfl) (by kernel_rfl) rfl (fun K hK => ?_)
      refine step_copy_splice rfl (.tmp 21) (.tmp 26) 28 28 rfl 3 Tryz.underlying28 (by kernel_rfl) _ _ _ _ _ _ rfl rfl g (2 + i) cs.toList t (show wr.heap[g]? = _ by rw [Array.toArray_toList]; exact hBk) ((cs.toList.drop 2).take (min i (128 - i))) ?_ (fun _ => ⟨rfl, _, rfl, ?_⟩) ?_ ?_ g w (bdrew (unhide hB)) (Nat.le_refl _) ?_
      · simp [hsz]
      · intro j v hv
        have hv2 := List.getElem?_eq_some_iff.1 hv
        obtain ⟨hj, _⟩ := hv2
        rw [List.getElem?_take_of_lt (by simp at hj; omega), List.getElem?_drop] at hv
        rw [add_nat]
        have := hBk.cell (2 + j)
        simp only [World.cell?_drew]
        rw [this]
        simpa using hv
      · simp [hsz]; omega
      · intro v hv
        have hv2 := List.mem_of_mem_drop (List.mem_of_mem_take hv)
        obtain ⟨j, hj⟩ := List.mem_iff_getElem?.1 (List.mem_of_mem_take hv)
        rw [List.getElem?_drop] at hj
        have hj2 : 2 + j < 130 := by have := (List.getElem?_eq_some_iff.1 hj).1; simpa [hsz] using this
        obtain ⟨x, hx⟩ := (unhide hcs) (2 + j) hj2 (by omega)
        rw [Array.getElem?_toList, hx] at hj
        injection hj with hj
        subst hj
        rfl
      intro w2 hg2 hb2
      refine hK.out _ _ ?_
      clear hK K
      refine wpAnyJ_done (by kernel_rfl) ?_ _
      have hnx := hide (show UR w g (.int .i64 ((i : Int) * 2)) w2 from ⟨i * 2, by simp, by omega, by omega, un_copy hsz (unhide hcs) h1 hlt (unhide hg2), hb2⟩)
      go_wp2_with fail
      exact ⟨unhide hnx, by show 256 - (intOf (Value.int IntKind.i64 ((i : Int) * 2))).toNat < 256 - (intOf (Value.int IntKind.i64 (i : Int))).toNat; simp only [intOf]; omega⟩
    · have hlt' : ¬ (i : Int) < 128 := by omega
      obtain ⟨⟨v0, k0⟩, f0⟩ := hU.cell (j := 0) (by omega)
      obtain ⟨⟨v1, k1⟩, f1⟩ := hU.cell (j := 1) (by omega)
      have hCI := hide (fun (W : World) (hW : Below g w W) (j : Nat) (hj : j < ids.length) => (hW.cell hbg).trans (hc.2 j hj))
      have h02 := hide (show U2 w g ids (.slice (some ⟨b, 0, none⟩) ids.length c2) (.int .i64 0) ((wr.setCell ⟨g, 0, none⟩ (.slice A ids.length c)).setCell ⟨g, 1, none⟩ (.slice (some ⟨b, 0, none⟩) ids.length c2)) from
        ⟨0, rfl, Nat.zero_le _, (hU.set' (by omega)).set' (by omega), (hB.setCell (Nat.le_refl _) _).setCell (Nat.le_refl _) _⟩)
      replace hi := hide hi
      clear hU hB hg hc h00
      go_wp2_with fail
      go_loopw [41] (fun v => U2 w g ids (.slice (some ⟨b, 0, none⟩) ids.length c2) v) (fun v _ => ids.length - (intOf v).toNat)
      case atStart => exact unhide h02
      case round =>
        obtain ⟨j, rfl, hjl, hU, hB⟩ := hrel
        by_cases hlt2 : j < ids.length
        · obtain ⟨x0, x1, _⟩ := (unhide hi).2 j hlt2
          have hlt2' : (j : Int) < (ids.length : Int) := by omega
          have hcc := (unhide hCI) wr hB j hlt2
          obtain ⟨⟨v3, k3⟩, f3⟩ := hU.cell (j := 2 + (ids.getD j 0).toNat) (by omega)
          have hw2 : IntKind.i64.wrap ((j : Int) + 1) = (j : Int) + 1 := (IntWalk.i64_left _).trans (IntWalk.wrap64_in _ (by have := (unhide hi).1; omega))
          have hnx := hide (show U2 w g ids (.slice (some ⟨b, 0, none⟩) ids.length c2) (.int .i64 ((j : Int) + 1)) (wr.setCell ⟨g, 2 + (ids.getD j 0).toNat, none⟩ (.int .i64 (j : Int))) from ⟨j + 1, by simp, by omega, hU.set (by omega), hB.setCell (Nat.le_refl _) _⟩)
          generalize ids.getD j 0 = x at *
          clear hU hB hCI hi
          go_wp2_with fail
          exact ⟨unhide hnx, by show ids.length - (intOf (Value.int IntKind.i64 ((j : Int) + 1))).toNat < ids.length - (intOf (Value.int IntKind.i64 (j : Int))).toNat; simp only [intOf]; omega⟩
        · have hlt2' : ¬ (j : Int) < (ids.length : Int) := by omega
          replace hB := hide hB
          clear hU hCI hi
          go_wp2_with fail
          go_returns
          exact ⟨rfl, unhide hB⟩
end Go.Proofs.YtconkcjcjdmidaaGreatDoor
