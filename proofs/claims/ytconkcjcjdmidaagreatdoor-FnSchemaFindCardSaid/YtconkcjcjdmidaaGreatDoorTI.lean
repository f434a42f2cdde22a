/- Unions of arrow. (YtconkcjcjdmidaaGreatDoor) -/
import Derived.Test.YtconkcjcjdmidaaGreatDoorTH
import Derived.Test.YtconkcjcjdmidaaGreatDoorTC
import Derived.Deep.MidRow
set_option linter.unusedVariables false
set_option linter.unusedSimpArgs false
namespace Go.Proofs.YtconkcjcjdmidaaGreatDoor
open Go.RowKit Go.ChangeShapes Go.WideShapes Go.ChangeAt Go
theorem sparseMode_any (w : World) (cs : Array Value) (hs : cs.size = 130) : Calls Tryz.prog 56 #[.agg cs] w fun e w' => e = .returned (.int .i8 2) ∧ Below w.heap.size w w' := by
  go_enter Tryz.func56, Tryz.ntmps56
  go_wp2_with fail
  go_ret
  exact ⟨rfl, (by repeat' (first | (with_reducible exact Below.refl _ _) | (with_reducible refine Below.setCell ?_ ?_ _) | (with_reducible refine bdrewN ?_ _) | (with_reducible refine bdrew ?_) | (with_reducible refine Below.alloc ?_ ?_ _) | exact Nat.le_refl _ | (simp; done)))⟩
theorem denseMode_any (w : World) (cs : Array Value) (hs : cs.size = 130) : Calls Tryz.prog 58 #[.agg cs] w fun e w' => e = .returned (.int .i8 3) ∧ Below w.heap.size w w' := by
  go_enter Tryz.func58, Tryz.ntmps58
  go_wp2_with fail
  go_ret
  exact ⟨rfl, (by repeat' (first | (with_reducible exact Below.refl _ _) | (with_reducible refine Below.setCell ?_ ?_ _) | (with_reducible refine bdrewN ?_ _) | (with_reducible refine bdrew ?_) | (with_reducible refine Below.alloc ?_ ?_ _) | exact Nat.le_refl _ | (simp; done)))⟩
set_option maxRecDepth 100000 in
theorem zero195 : Tryz.zeroCells195 = #[.slice none 0 0, .slice none 0 0] ++ Array.replicate 128 (.int .i64 0) := by rfl
set_option maxRecDepth 100000 in
theorem un_zero {W : World} {g : Nat} {t : TypeId} {cs : Array Value} (h : Blk W g t cs) (e : cs = #[.slice none 0 0, .slice none 0 0] ++ Array.replicate 128 (.int .i64 0)) : Un W g := by
  subst e
  refine ⟨t, _, h, by simp, fun j hj hj2 => ⟨0, ?_⟩⟩
  rw [Array.getElem?_append_right (by simpa using hj2), Array.getElem?_replicate, if_pos (by simp; omega)]
theorem row_range {W : World} {g : Nat} {t : TypeId} {cs : Array Value} (h : Blk W g t cs) : W.rangeAt g 0 cs.toList := by
  intro j v hv
  rw [Nat.zero_add, h.cell]
  simpa using hv
set_option maxRecDepth 100000 in
set_option maxHeartbeats 4000000 in
theorem sparseOf_any (w : World) (A : Option Addr) (b n c c2 : Nat) (ids : List Int) (hn : n = ids.length) (hi : IdL ids) (hc : Cds w b ids) :
    Calls Tryz.prog 46 #[.slice A n c, .slice (some ⟨b, 0, none⟩) ids.length c2] w (PPt w) := by
  subst hn
  obtain ⟨cs, hcs⟩ : ∃ cs, cs = Tryz.zeroCells195 := ⟨_, rfl⟩
  have hsz : cs.size = 130 := by rw [hcs, zero195]; simp
  have h0 := hide (show Blk (w.alloc (.cells cs 195)) w.heap.size 195 cs ∧ Below w.heap.size w (w.alloc (.cells cs 195)) from ⟨Blk.new _ _ rfl, (by repeat' (first | (with_reducible exact Below.refl _ _) | (with_reducible refine Below.setCell ?_ ?_ _) | (with_reducible refine bdrewN ?_ _) | (with_reducible refine bdrew ?_) | (with_reducible refine Below.alloc ?_ ?_ _) | exact Nat.le_refl _ | (simp; done)))⟩)
  have hV := hide (fun (W : World) (hW : Below w.heap.size w W) (u m : Value) => validate_any W u m A b ids.length c c2 ids rfl hi (hc.below hW))
  have hI := hide (fun (W : World) (hW : Below w.heap.size w W) (hU : Un W w.heap.size) => uinit_any W w.heap.size A b ids.length c c2 ids rfl hi (hc.below hW) hU hc.1)
  have hM := hide (fun (W : World) => sparseMode_any W cs hsz)
  have hUn := hide (fun (W : World) (h : Blk W w.heap.size 195 cs) => un_zero h (hcs.trans zero195))
  have hF := hide (fun (W W' : World) (h : Below w.heap.size w W) (h' : Below w.heap.size W W') => (show PPt w (.returned (.pointer (some ⟨w.heap.size, 0, none⟩))) W' from ⟨_, rfl, h.trans h'⟩))
  clear hi hc
  go_enter Tryz.func46, Tryz.ntmps46
  go_upto_region 2 with (fail)
  rw [← hcs]
  clear hcs
  generalize hW0 : w.alloc (.cells cs 195) = W0 at h0 ⊢
  clear hW0
  refine wp_region_K (S := fun W => Blk W w.heap.size 195 cs ∧ Below w.heap.size w W) (k := 10) (by kernel_rfl) (by exact ⟨(unhide h0).1, bdrew (unhide h0).2⟩) (fun hHeld => ?_)
  refine wpAnyK_take (i := 0) (oi := _) (v := ?_) rfl (by kernel_rfl) (by kernel_rfl) (by kernel_rfl) (by kernel_rfl) (fun _ _ _ h => h) (Or.inl ⟨by rfl, ?_⟩) (by assumption) ?_
  rotate_left
  · intro w hSw; (try dsimp only at hSw); (try subst hSw); go_simp; (try with_reducible rfl)
  simp only [Act.put, List.getElem_toArray, List.getElem_cons_zero, List.getElem_cons_succ, List.setIfInBounds_toArray, List.set_cons_zero, List.set_cons_succ]
  refine wpAnyK_take (i := 1) (oi := _) (v := ?_) rfl (by kernel_rfl) (by kernel_rfl) (by kernel_rfl) (by kernel_rfl) (fun _ _ _ h => h) (Or.inl ⟨by rfl, ?_⟩) (by assumption) ?_
  rotate_left
  · intro w hSw; (try dsimp only at hSw); (try subst hSw); go_simp; (try with_reducible rfl)
  simp only [Act.put, List.getElem_toArray, List.getElem_cons_zero, List.getElem_cons_succ, List.setIfInBounds_toArray, List.set_cons_zero, List.set_cons_succ]
  refine wpAnyK_take (i := 2) (oi := _) (v := ?_) rfl (by kernel_rfl) (by kernel_rfl) (by kernel_rfl) (by kernel_rfl) (fun _ _ _ h => h) (Or.inl ⟨by rfl, ?_⟩) (by assumption) ?_
  rotate_left
  · intro w hSw; (try dsimp only at hSw); (try subst hSw); go_simp; (try with_reducible rfl)
  simp only [Act.put, List.getElem_toArray, List.getElem_cons_zero, List.getElem_cons_succ, List.setIfInBounds_toArray, List.set_cons_zero, List.set_cons_succ]
  refine wpAnyK_take (i := 3) (oi := _) (v := ?_) rfl (by kernel_rfl) (by kernel_rfl) (by kernel_rfl) (by kernel_rfl) (fun _ _ _ h => h) (Or.inl ⟨by rfl, ?_⟩) (by assumption) ?_
  rotate_left
  · intro w hSw; (try dsimp only at hSw); (try subst hSw); go_simp; (try with_reducible rfl)
  simp only [Act.put, List.getElem_toArray, List.getElem_cons_zero, List.getElem_cons_succ, List.setIfInBounds_toArray, List.set_cons_zero, List.set_cons_succ]
  refine wpAnyK_take (i := 4) (oi := _) (v := ?_) rfl (by kernel_rfl) (by kernel_rfl) (by kernel_rfl) (by kernel_rfl) (fun _ _ _ h => h) (Or.inl ⟨by rfl, ?_⟩) (by assumption) ?_
  rotate_left
  · intro w hSw; (try dsimp only at hSw); (try subst hSw); go_simp; (try with_reducible rfl)
  simp only [Act.put, List.getElem_toArray, List.getElem_cons_zero, List.getElem_cons_succ, List.setIfInBounds_toArray, List.set_cons_zero, List.set_cons_succ]
  refine wpAnyK_take (i := 5) (oi := _) (v := ?_) rfl (by kernel_rfl) (by kernel_rfl) (by kernel_rfl) (by kernel_rfl) (fun _ _ _ h => h) (Or.inl ⟨by rfl, ?_⟩) (by assumption) ?_
  rotate_left
  · intro w hSw; (try dsimp only at hSw); (try subst hSw); go_simp; (try with_reducible rfl)
  simp only [Act.put, List.getElem_toArray, List.getElem_cons_zero, List.getElem_cons_succ, List.setIfInBounds_toArray, List.set_cons_zero, List.set_cons_succ]
  refine wpAnyK_take (i := 6) (oi := _) (v := ?_) rfl (by kernel_rfl) (by kernel_rfl) (by kernel_rfl) (by kernel_rfl) (fun _ _ _ h => h) (Or.inl ⟨by rfl, ?_⟩) (by assumption) ?_
  rotate_left
  · intro w hSw; (try dsimp only at hSw); (try subst hSw); go_simp; (try with_reducible rfl)
  simp only [Act.put, List.getElem_toArray, List.getElem_cons_zero, List.getElem_cons_succ, List.setIfInBounds_toArray, List.set_cons_zero, List.set_cons_succ]
  refine wpAnyK_take (i := 7) (oi := _) (v := .agg cs) rfl (by kernel_rfl) (by kernel_rfl) (by kernel_rfl) (by kernel_rfl) (fun _ _ _ h => h) (by exact yieldsIf_load_mid rfl 195 (.tmp 15) rfl w.heap.size 0 rfl cs.toList _ (fun W hW => row_range hW.1) Tryz.underlying195 rfl (by rw [Array.length_toList, hsz]; kernel_rfl)) (by assumption) ?_
  simp only [Act.put, List.getElem_toArray, List.getElem_cons_zero, List.getElem_cons_succ, List.setIfInBounds_toArray, List.set_cons_zero, List.set_cons_succ]
  refine wpAnyK_one (i := 8) (o := _) (by kernel_rfl) rfl (fun K hK => ?_)
  go_simp
  ((go_at_call 56; (with_reducible refine (unhide hM _).mono ?_); rintro e w2 ⟨rfl, hb2⟩); go_wp2_with fail)
  refine hK.out _ _ (⟨hHeld.1.below hb2, below_tr hHeld.2 hb2 hHeld.2.size⟩) (fun hHeld => ?_)
  clear hK K
  refine wpAnyK_one (i := 9) (o := _) (by kernel_rfl) rfl (fun K hK => ?_)
  go_simp
  ((go_at_call 55; (with_reducible refine (unhide hV _ hHeld.2 _ _).mono ?_); rintro e w3 ⟨rfl, hb3⟩); go_wp2_with fail)
  refine hK.out _ _ (⟨hHeld.1.below hb3, below_tr hHeld.2 hb3 hHeld.2.size⟩) (fun hHeld => ?_)
  clear hK K
  refine wpAnyK_end (o := _) (by kernel_rfl) rfl (fun K hK => ?_)
  go_simp
  refine hK.out _ _ ?_
  clear hK K
  refine wpAnyK_done (by kernel_rfl) ?_ _
  go_wp2_with (first | (go_at_call 57; (with_reducible refine (unhide hI _ hHeld.2 (unhide hUn _ hHeld.1)).mono ?_); rintro e w4 ⟨rfl, hb4⟩) | fail)
  go_ret
  exact unhide hF _ _ hHeld.2 hb4
set_option maxRecDepth 100000 in
theorem zero202 : Tryz.zeroCells202 = #[.slice none 0 0, .slice none 0 0] ++ Array.replicate 128 (.int .i64 0) := by rfl
set_option maxRecDepth 100000 in
set_option maxHeartbeats 4000000 in
theorem denseOf_any (w : World) (A : Option Addr) (b n c c2 : Nat) (ids : List Int) (hn : n = ids.length) (hi : IdL ids) (hc : Cds w b ids) :
    Calls Tryz.prog 47 #[.slice A n c, .slice (some ⟨b, 0, none⟩) ids.length c2] w (PPt w) := by
  subst hn
  obtain ⟨cs, hcs⟩ : ∃ cs, cs = Tryz.zeroCells202 := ⟨_, rfl⟩
  have hsz : cs.size = 130 := by rw [hcs, zero202]; simp
  have h0 := hide (show Blk (w.alloc (.cells cs 202)) w.heap.size 202 cs ∧ Below w.heap.size w (w.alloc (.cells cs 202)) from ⟨Blk.new _ _ rfl, (by repeat' (first | (with_reducible exact Below.refl _ _) | (with_reducible refine Below.setCell ?_ ?_ _) | (with_reducible refine bdrewN ?_ _) | (with_reducible refine bdrew ?_) | (with_reducible refine Below.alloc ?_ ?_ _) | exact Nat.le_refl _ | (simp; done)))⟩)
  have hV := hide (fun (W : World) (hW : Below w.heap.size w W) (u m : Value) => validate_any W u m A b ids.length c c2 ids rfl hi (hc.below hW))
  have hI := hide (fun (W : World) (hW : Below w.heap.size w W) (hU : Un W w.heap.size) => uinit_any W w.heap.size A b ids.length c c2 ids rfl hi (hc.below hW) hU hc.1)
  have hM := hide (fun (W : World) => denseMode_any W cs hsz)
  have hUn := hide (fun (W : World) (h : Blk W w.heap.size 202 cs) => un_zero h (hcs.trans zero202))
  have hF := hide (fun (W W' : World) (h : Below w.heap.size w W) (h' : Below w.heap.size W W') => (show PPt w (.returned (.pointer (some ⟨w.heap.size, 0, none⟩))) W' from ⟨_, rfl, h.trans h'⟩))
  clear hi hc
  go_enter Tryz.func47, Tryz.ntmps47
  go_upto_region 2 with (fail)
  rw [← hcs]
  clear hcs
  generalize hW0 : w.alloc (.cells cs 202) = W0 at h0 ⊢
  clear hW0
  refine wp_region_K (S := fun W => Blk W w.heap.size 202 cs ∧ Below w.heap.size w W) (k := 10) (by kernel_rfl) (by exact ⟨(unhide h0).1, bdrew (unhide h0).2⟩) (fun hHeld => ?_)
  refine wpAnyK_take (i := 0) (oi := _) (v := ?_) rfl (by kernel_rfl) (by kernel_rfl) (by kernel_rfl) (by kernel_rfl) (fun _ _ _ h => h) (Or.inl ⟨by rfl, ?_⟩) (by assumption) ?_
  rotate_left
  · intro w hSw; (try dsimp only at hSw); (try subst hSw); go_simp; (try with_reducible rfl)
  simp only [Act.put, List.getElem_toArray, List.getElem_cons_zero, List.getElem_cons_succ, List.setIfInBounds_toArray, List.set_cons_zero, List.set_cons_succ]
  refine wpAnyK_take (i := 1) (oi := _) (v := ?_) rfl (by kernel_rfl) (by kernel_rfl) (by kernel_rfl) (by kernel_rfl) (fun _ _ _ h => h) (Or.inl ⟨by rfl, ?_⟩) (by assumption) ?_
  rotate_left
  · intro w hSw; (try dsimp only at hSw); (try subst hSw); go_simp; (try with_reducible rfl)
  simp only [Act.put, List.getElem_toArray, List.getElem_cons_zero, List.getElem_cons_succ, List.setIfInBounds_toArray, List.set_cons_zero, List.set_cons_succ]
  refine wpAnyK_take (i := 2) (oi := _) (v := ?_) rfl (by kernel_rfl) (by kernel_rfl) (by kernel_rfl) (by kernel_rfl) (fun _ _ _ h => h) (Or.inl ⟨by rfl, ?_⟩) (by assumption) ?_
  rotate_left
  · intro w hSw; (try dsimp only at hSw); (try subst hSw); go_simp; (try with_reducible rfl)
  simp only [Act.put, List.getElem_toArray, List.getElem_cons_zero, List.getElem_cons_succ, List.setIfInBounds_toArray, List.set_cons_zero, List.set_cons_succ]
  refine wpAnyK_take (i := 3) (oi := _) (v := ?_) rfl (by kernel_rfl) (by kernel_rfl) (by kernel_rfl) (by kernel_rfl) (fun _ _ _ h => h) (Or.inl ⟨by rfl, ?_⟩) (by assumption) ?_
  rotate_left
  · intro w hSw; (try dsimp only at hSw); (try subst hSw); go_simp; (try with_reducible rfl)
  simp only [Act.put, List.getElem_toArray, List.getElem_cons_zero, List.getElem_cons_succ, List.setIfInBounds_toArray, List.set_cons_zero, List.set_cons_succ]
  refine wpAnyK_take (i := 4) (oi := _) (v := ?_) rfl (by kernel_rfl) (by kernel_rfl) (by kernel_rfl) (by kernel_rfl) (fun _ _ _ h => h) (Or.inl ⟨by rfl, ?_⟩) (by assumption) ?_
  rotate_left
  · intro w hSw; (try dsimp only at hSw); (try subst hSw); go_simp; (try with_reducible rfl)
  simp only [Act.put, List.getElem_toArray, List.getElem_cons_zero, List.getElem_cons_succ, List.setIfInBounds_toArray, List.set_cons_zero, List.set_cons_succ]
  refine wpAnyK_take (i := 5) (oi := _) (v := ?_) rfl (by kernel_rfl) (by kernel_rfl) (by kernel_rfl) (by kernel_rfl) (fun _ _ _ h => h) (Or.inl ⟨by rfl, ?_⟩) (by assumption) ?_
  rotate_left
  · intro w hSw; (try dsimp only at hSw); (try subst hSw); go_simp; (try with_reducible rfl)
  simp only [Act.put, List.getElem_toArray, List.getElem_cons_zero, List.getElem_cons_succ, List.setIfInBounds_toArray, List.set_cons_zero, List.set_cons_succ]
  refine wpAnyK_take (i := 6) (oi := _) (v := ?_) rfl (by kernel_rfl) (by kernel_rfl) (by kernel_rfl) (by kernel_rfl) (fun _ _ _ h => h) (Or.inl ⟨by rfl, ?_⟩) (by assumption) ?_
  rotate_left
  · intro w hSw; (try dsimp only at hSw); (try subst hSw); go_simp; (try with_reducible rfl)
  simp only [Act.put, List.getElem_toArray, List.getElem_cons_zero, List.getElem_cons_succ, List.setIfInBounds_toArray, List.set_cons_zero, List.set_cons_succ]
  refine wpAnyK_take (i := 7) (oi := _) (v := .agg cs) rfl (by kernel_rfl) (by kernel_rfl) (by kernel_rfl) (by kernel_rfl) (fun _ _ _ h => h) (by exact yieldsIf_load_mid rfl 202 (.tmp 15) rfl w.heap.size 0 rfl cs.toList _ (fun W hW => row_range hW.1) Tryz.underlying202 rfl (by rw [Array.length_toList, hsz]; kernel_rfl)) (by assumption) ?_
  simp only [Act.put, List.getElem_toArray, List.getElem_cons_zero, List.getElem_cons_succ, List.setIfInBounds_toArray, List.set_cons_zero, List.set_cons_succ]
  refine wpAnyK_one (i := 8) (o := _) (by kernel_rfl) rfl (fun K hK => ?_)
  go_simp
  ((go_at_call 58; (with_reducible refine (unhide hM _).mono ?_); rintro e w2 ⟨rfl, hb2⟩); go_wp2_with fail)
  refine hK.out _ _ (⟨hHeld.1.below hb2, below_tr hHeld.2 hb2 hHeld.2.size⟩) (fun hHeld => ?_)
  clear hK K
  refine wpAnyK_one (i := 9) (o := _) (by kernel_rfl) rfl (fun K hK => ?_)
  go_simp
  ((go_at_call 55; (with_reducible refine (unhide hV _ hHeld.2 _ _).mono ?_); rintro e w3 ⟨rfl, hb3⟩); go_wp2_with fail)
  refine hK.out _ _ (⟨hHeld.1.below hb3, below_tr hHeld.2 hb3 hHeld.2.size⟩) (fun hHeld => ?_)
  clear hK K
  refine wpAnyK_end (o := _) (by kernel_rfl) rfl (fun K hK => ?_)
  go_simp
  refine hK.out _ _ ?_
  clear hK K
  refine wpAnyK_done (by kernel_rfl) ?_ _
  go_wp2_with (first | (go_at_call 57; (with_reducible refine (unhide hI _ hHeld.2 (unhide hUn _ hHeld.1)).mono ?_); rintro e w4 ⟨rfl, hb4⟩) | fail)
  go_ret
  exact unhide hF _ _ hHeld.2 hb4
end Go.Proofs.YtconkcjcjdmidaaGreatDoor
