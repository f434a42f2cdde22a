/- A field of arrow's. (YtconkcjcjdmidaaGreatDoor) -/
import Derived.Test.YtconkcjcjdmidaaGreatDoorTC
import Derived.Test.YtconkcjcjdmidaaGreatDoorT4
import Derived.Test.YtconkcjcjdmidaaGreatDoorT9
import Derived.Test.YtconkcjcjdmidaaGreatDoorLK
set_option linter.unusedVariables false
set_option linter.unusedSimpArgs false
namespace Go.Proofs.YtconkcjcjdmidaaGreatDoor
open Go.RowKit Go.ChangeShapes Go.WideShapes Go.ChangeAt Go
/-- no pairs give no metadata. -/
theorem meta_none (w : World) (A : Option Addr) (c : Nat) : Calls Tryz.prog 18 #[.slice A 0 c] w fun e w' => ∃ A1 A2 c1 c2, e = .returned (.agg #[.slice A1 0 c1, .slice A2 0 c2]) ∧ Below w.heap.size w w' := by
  refine (meta_any w (.slice A 0 c) [] ⟨A, c, rfl, Nat.zero_le _, fun h => absurd h (by simp)⟩ (by simp)).mono ?_
  rintro e w' ⟨v, rfl, ⟨A1, c1, A2, c2, rfl, _⟩, hb⟩
  exact ⟨A1, A2, c1, c2, rfl, hb⟩
def FB (w : World) (g : Nat) (f : Fd) : Prop := Blk w g 32 f.row
theorem FB.cells {w : World} {g : Nat} {f : Fd} (h : FB w g f) : FCells w g 0 f :=
  ⟨by have := Blk.cell h 0; simpa using this, by have := Blk.cell h 1; simpa using this, by have := Blk.cell h 2; simpa using this, by have := Blk.cell h 3; simpa using this, by have := Blk.cell h 4; simpa using this, by have := Blk.cell h 5; simpa using this, by have := Blk.cell h 6; simpa using this, by have := Blk.cell h 7; simpa using this, by have := Blk.cell h 8; simpa using this, by have := Blk.cell h 9; simpa using this, by have := Blk.cell h 10; simpa using this, by have := Blk.cell h 11; simpa using this, by have := Blk.cell h 12; simpa using this⟩
def AS (w : World) (f : Fd) (W : World) : Prop :=
  W.cell? ⟨w.heap.size, 0, none⟩ = some (.string f.nm) ∧ W.cell? ⟨w.heap.size, 1, none⟩ = some (.bool f.nl) ∧ W.cell? ⟨w.heap.size, 2, none⟩ = some (.int .i64 f.ty.kd) ∧ W.cell? ⟨w.heap.size, 3, none⟩ = some (.int .i64 f.ty.wd) ∧ W.cell? ⟨w.heap.size, 4, none⟩ = some (.bool f.ty.sg) ∧
  W.cell? ⟨w.heap.size, 5, none⟩ = some (.int .i64 f.ty.un) ∧ W.cell? ⟨w.heap.size, 6, none⟩ = some (.int .i64 f.ty.pr) ∧ W.cell? ⟨w.heap.size, 7, none⟩ = some (.int .i64 f.ty.sc) ∧ W.cell? ⟨w.heap.size, 8, none⟩ = some (.string f.ty.zn) ∧ W.cell? ⟨w.heap.size, 9, none⟩ = some (.bool f.ty.fl) ∧
  W.cell? ⟨w.heap.size, 10, none⟩ = some (.slice f.ty.ai f.ty.ni f.ty.ci) ∧ W.cell? ⟨w.heap.size, 11, none⟩ = some (.slice f.ty.af f.ty.nf f.ty.cf) ∧ W.cell? ⟨w.heap.size, 12, none⟩ = some (.slice f.am f.nm' f.cm) ∧
  FB W w.heap.size f ∧ (∃ cs : Array Value, cs.size = 5 ∧ Blk W (w.heap.size + 1) 67 cs) ∧ Below w.heap.size w W
theorem AS.of {w W : World} {f : Fd} (h : FB W w.heap.size f) (h2 : ∃ cs : Array Value, cs.size = 5 ∧ Blk W (w.heap.size + 1) 67 cs) (hb : Below w.heap.size w W) : AS w f W := by
  obtain ⟨h0, h1, h2', h3, h4, h5, h6, h7, h8, h9, h10, h11, h12⟩ := h.cells
  exact ⟨h0, h1, h2', h3, h4, h5, h6, h7, h8, h9, h10, h11, h12, h, h2, hb⟩
theorem AS.below {w W W' : World} {f : Fd} (h : AS w f W) (hb : Below W.heap.size W W') : AS w f W' := by
  obtain ⟨_, _, _, _, _, _, _, _, _, _, _, _, _, h1, ⟨cs, h2, h3⟩, h4⟩ := h
  exact .of (Blk.below h1 hb) ⟨cs, h2, h3.below hb⟩ (below_tr h4 hb h4.size)
def PAf (w : World) (f : Fd) (e : Ending) (w' : World) : Prop := ∃ tid p A A' c c', e = .returned (afv f.nm tid p f.nl A A' c c') ∧ Below w.heap.size w w'
theorem five_cells {w : World} {g : Nat} {t : TypeId} {cs : Array Value} (hs : cs.size = 5) (h : Blk w g t cs) : ∃ a b c d e, w.cell? ⟨g, 0, none⟩ = some a ∧ w.cell? ⟨g, 1, none⟩ = some b ∧ w.cell? ⟨g, 2, none⟩ = some c ∧ w.cell? ⟨g, 3, none⟩ = some d ∧ w.cell? ⟨g, 4, none⟩ = some e := by
  refine ⟨cs[0], cs[1], cs[2], cs[3], cs[4], ?_, ?_, ?_, ?_, ?_⟩
  · rw [h.cell 0]; simp [hs]
  · rw [h.cell 1]; simp [hs]
  · rw [h.cell 2]; simp [hs]
  · rw [h.cell 3]; simp [hs]
  · rw [h.cell 4]; simp [hs]
theorem af_fin (w : World) (f : Fd) (W : World) (tid : TypeId) (p : Addr) (A A' : Option Addr) (c c' : Nat) (h : AS w f W) :
    ((∃ v, W.cell? ⟨w.heap.size + 1, 0, none⟩ = some v) ∧ (∃ v, W.cell? ⟨w.heap.size + 1, 1, none⟩ = some v) ∧ (∃ v, W.cell? ⟨w.heap.size + 1, 2, none⟩ = some v) ∧ (∃ v, W.cell? ⟨w.heap.size + 1, 3, none⟩ = some v) ∧ (∃ v, W.cell? ⟨w.heap.size + 1, 4, none⟩ = some v) ∧
      W.frozen? ⟨w.heap.size + 1, 0, none⟩ = false ∧ W.frozen? ⟨w.heap.size + 1, 1, none⟩ = false ∧ W.frozen? ⟨w.heap.size + 1, 2, none⟩ = false ∧ W.frozen? ⟨w.heap.size + 1, 3, none⟩ = false ∧ W.frozen? ⟨w.heap.size + 1, 4, none⟩ = false) ∧
    PAf w f (.returned (afv f.nm tid p f.nl A A' c c')) (((((W.setCell ⟨w.heap.size + 1, 0, none⟩ (.string f.nm)).setCell ⟨w.heap.size + 1, 1, none⟩ (.iface tid (.pointer (some p)))).setCell ⟨w.heap.size + 1, 2, none⟩ (.bool f.nl)).setCell ⟨w.heap.size + 1, 3, none⟩ (.slice A 0 c)).setCell ⟨w.heap.size + 1, 4, none⟩ (.slice A' 0 c')) := by
  obtain ⟨_, _, _, _, _, _, _, _, _, _, _, _, _, h1, ⟨cs, h2, h3⟩, h4⟩ := h
  obtain ⟨a, b, c1, d, e, k0, k1, k2, k3, k4⟩ := five_cells h2 h3
  exact ⟨⟨⟨a, k0⟩, ⟨b, k1⟩, ⟨c1, k2⟩, ⟨d, k3⟩, ⟨e, k4⟩, h3.frozen 0, h3.frozen 1, h3.frozen 2, h3.frozen 3, h3.frozen 4⟩,
    tid, p, A, A', c, c', rfl, ((((h4.setCell (by simp) _).setCell (by simp) _).setCell (by simp) _).setCell (by simp) _).setCell (by simp) _⟩
set_option maxRecDepth 100000 in
set_option maxHeartbeats 4000000 in
theorem arrowField_of (w : World) (f : Fd) (hm : f.nm' = 0) (hT : ∀ W : World, Below w.heap.size w W → Calls Tryz.prog 40 #[f.ty.val] W (PIf W)) : Calls Tryz.prog 27 #[.agg f.row] w (PAf w f) := by
  have hS0 := hide (show AS w f ((w.alloc (.cells f.row 32)).alloc (.cells #[.string ⟨#[]⟩, .nilIface, .bool false, .slice none 0 0, .slice none 0 0] 67)).drew from
    AS.below (.of ((Blk.new (w := w) (g := w.heap.size) 32 f.row rfl).alloc _) ⟨_, rfl, Blk.new 67 _ (by simp)⟩ (((Below.refl _ _).alloc (Nat.le_refl _) _).alloc (by simp) _)) (bdrew (Below.refl _ _)))
  replace hT := hide hT
  have hM := hide (fun (W : World) => meta_none W f.am f.cm)
  have hAf := hide (fun (W : World) (tid : TypeId) (p : Addr) (A A' : Option Addr) (c c' : Nat) (h : AS w f W) => af_fin w f W tid p A A' c c' h)
  have hB := hide (fun (W W' : World) (h : AS w f W) (hb : Below W.heap.size W W') => h.below hb)
  go_enter Tryz.func27, Tryz.ntmps27
  go_upto_region 1 with (fail)
  refine wp_region_K (S := fun W => W.cell? ⟨w.heap.size, 0, none⟩ = some (.string f.nm) ∧ W.cell? ⟨w.heap.size, 1, none⟩ = some (.bool f.nl) ∧ W.cell? ⟨w.heap.size, 2, none⟩ = some (.int .i64 f.ty.kd) ∧ W.cell? ⟨w.heap.size, 3, none⟩ = some (.int .i64 f.ty.wd) ∧ W.cell? ⟨w.heap.size, 4, none⟩ = some (.bool f.ty.sg) ∧ W.cell? ⟨w.heap.size, 5, none⟩ = some (.int .i64 f.ty.un) ∧ W.cell? ⟨w.heap.size, 6, none⟩ = some (.int .i64 f.ty.pr) ∧ W.cell? ⟨w.heap.size, 7, none⟩ = some (.int .i64 f.ty.sc) ∧ W.cell? ⟨w.heap.size, 8, none⟩ = some (.string f.ty.zn) ∧ W.cell? ⟨w.heap.size, 9, none⟩ = some (.bool f.ty.fl) ∧ W.cell? ⟨w.heap.size, 10, none⟩ = some (.slice f.ty.ai f.ty.ni f.ty.ci) ∧ W.cell? ⟨w.heap.size, 11, none⟩ = some (.slice f.ty.af f.ty.nf f.ty.cf) ∧ W.cell? ⟨w.heap.size, 12, none⟩ = some (.slice f.am f.nm' f.cm) ∧ FB W w.heap.size f ∧ (∃ cs : Array Value, cs.size = 5 ∧ Blk W (w.heap.size + 1) 67 cs) ∧ Below w.heap.size w W) (k := 11) (by kernel_rfl) (unhide hS0) (fun hHeld => ?_)
  refine wpAnyK_take (i := 0) (oi := _) (v := ?_) rfl (by kernel_rfl) (by kernel_rfl) (by kernel_rfl) (by kernel_rfl) (fun _ _ _ h => h) (Or.inl ⟨by rfl, ?_⟩) (by assumption) ?_
  rotate_left
  · intro w hSw; (try dsimp only at hSw); (try subst hSw); go_simp; (try with_reducible rfl)
  simp only [Act.put, List.getElem_toArray, List.getElem_cons_zero, List.getElem_cons_succ, List.setIfInBounds_toArray, List.set_cons_zero, List.set_cons_succ]
  refine wpAnyK_take (i := 1) (oi := _) (v := ?_) rfl (by kernel_rfl) (by kernel_rfl) (by kernel_rfl) (by kernel_rfl) (fun _ _ _ h => h) (Or.inl ⟨by rfl, ?_⟩) (by assumption) ?_
  rotate_left
  · intro w hSw; (try dsimp only at hSw); (try subst hSw); go_simp; (try with_reducible rfl)
  simp only [Act.put, List.getElem_toArray, List.getElem_cons_zero, List.getElem_cons_succ, List.setIfInBounds_toArray, List.set_cons_zero, List.set_cons_succ]
  refine wpAnyK_take (i := 2) (oi := _) (v := ?_) rfl (by kernel_rfl) (by kernel_rfl) (by kernel_rfl) (by kernel_rfl) (fun _ _ _ h => h) (Or.inl ⟨by rfl, ?_⟩) (by assumption) ?_
  rotate_left
  · intro w hSw; (try dsimp only at hSw); (try subst hSw); go_simp; (try with_reducible rfl)
  simp only [Act.put, List.getElem_toArray, List.getElem_cons_zero, List.getElem_cons_succ, List.setIfInBounds_toArray, List.set_cons_zero, List.set_cons_succ]
  refine wpAnyK_take (i := 3) (oi := _) (v := ?_) rfl (by kernel_rfl) (by kernel_rfl) (by kernel_rfl) (by kernel_rfl) (fun _ _ _ h => h) (Or.inl ⟨by rfl, ?_⟩) (by assumption) ?_
  rotate_left
  · intro w hSw; (try dsimp only at hSw); (try subst hSw); go_simp; (try with_reducible rfl)
  simp only [Act.put, List.getElem_toArray, List.getElem_cons_zero, List.getElem_cons_succ, List.setIfInBounds_toArray, List.set_cons_zero, List.set_cons_succ]
  refine wpAnyK_take (i := 5) (oi := _) (v := ?_) rfl (by kernel_rfl) (by kernel_rfl) (by kernel_rfl) (by kernel_rfl) (fun _ _ _ h => h) (Or.inl ⟨by rfl, ?_⟩) (by assumption) ?_
  rotate_left
  · intro w hSw; (try dsimp only at hSw); (try subst hSw); go_simp; (try with_reducible rfl)
  simp only [Act.put, List.getElem_toArray, List.getElem_cons_zero, List.getElem_cons_succ, List.setIfInBounds_toArray, List.set_cons_zero, List.set_cons_succ]
  refine wpAnyK_take (i := 6) (oi := _) (v := ?_) rfl (by kernel_rfl) (by kernel_rfl) (by kernel_rfl) (by kernel_rfl) (fun _ _ _ h => h) (Or.inl ⟨by rfl, ?_⟩) (by assumption) ?_
  rotate_left
  · intro w hSw; (try dsimp only at hSw); (try subst hSw); go_simp; (try with_reducible rfl)
  simp only [Act.put, List.getElem_toArray, List.getElem_cons_zero, List.getElem_cons_succ, List.setIfInBounds_toArray, List.set_cons_zero, List.set_cons_succ]
  refine wpAnyK_take (i := 7) (oi := _) (v := ?_) rfl (by kernel_rfl) (by kernel_rfl) (by kernel_rfl) (by kernel_rfl) (fun _ _ _ h => h) (Or.inl ⟨by rfl, ?_⟩) (by assumption) ?_
  rotate_left
  · intro w hSw; (try dsimp only at hSw); (try subst hSw); go_simp; (try with_reducible rfl)
  simp only [Act.put, List.getElem_toArray, List.getElem_cons_zero, List.getElem_cons_succ, List.setIfInBounds_toArray, List.set_cons_zero, List.set_cons_succ]
  refine wpAnyK_take (i := 8) (oi := _) (v := ?_) rfl (by kernel_rfl) (by kernel_rfl) (by kernel_rfl) (by kernel_rfl) (fun _ _ _ h => h) (Or.inl ⟨by rfl, ?_⟩) (by assumption) ?_
  rotate_left
  · intro w hSw; (try dsimp only at hSw); (try subst hSw); go_simp; (try with_reducible rfl)
  simp only [Act.put, List.getElem_toArray, List.getElem_cons_zero, List.getElem_cons_succ, List.setIfInBounds_toArray, List.set_cons_zero, List.set_cons_succ]
  refine wpAnyK_one (i := 4) (o := _) (by kernel_rfl) rfl (fun K hK => ?_)
  go_simp
  ((go_at_call 40; (with_reducible refine (unhide hT _ hHeld.2.2.2.2.2.2.2.2.2.2.2.2.2.2.2).mono ?_); rintro e w2 ⟨tid, p, rfl, hb2⟩); go_wp2_with fail)
  refine hK.out _ _ (unhide hB _ _ hHeld hb2) (fun hHeld => ?_)
  clear hK K
  refine wpAnyK_one (i := 9) (o := _) (by kernel_rfl) rfl (fun K hK => ?_)
  go_simp
  ((go_at_call 18; (with_reducible refine (unhide hM _).mono ?_); rintro e w3 ⟨A1, A2, c1, c2, rfl, hb3⟩); go_wp2_with fail)
  refine hK.out _ _ (unhide hB _ _ hHeld hb3) (fun hHeld => ?_)
  clear hK K
  refine wpAnyK_take (i := 10) (oi := _) (v := ?_) rfl (by kernel_rfl) (by kernel_rfl) (by kernel_rfl) (by kernel_rfl) (fun _ _ _ h => h) (Or.inl ⟨by rfl, ?_⟩) (by assumption) ?_
  rotate_left
  · intro w hSw; (try dsimp only at hSw); (try subst hSw); go_simp; (try with_reducible rfl)
  simp only [Act.put, List.getElem_toArray, List.getElem_cons_zero, List.getElem_cons_succ, List.setIfInBounds_toArray, List.set_cons_zero, List.set_cons_succ]
  obtain ⟨⟨⟨v0, k0⟩, ⟨v1, k1⟩, ⟨v2, k2⟩, ⟨v3, k3⟩, ⟨v4, k4⟩, g0, g1, g2, g3, g4⟩, hfin⟩ := unhide hAf w3 tid p A1 A2 c1 c2 hHeld
  replace hfin := hide hfin
  clear hHeld hb2 hb3 hT hM hB hS0 hAf
  refine wpAnyK_end (o := _) (by kernel_rfl) rfl (fun K hK => ?_)
  go_simp
  refine hK.out _ _ ?_
  clear hK K
  refine wpAnyK_done (by kernel_rfl) ?_ _
  go_wp2_with fail
  refine bodyPost_ret (v := afv f.nm tid p f.nl A1 A2 c1 c2) (by simp [results, Tryz.results27, go_sem, k0, k1, k2, k3, k4]) rfl ?_
  exact unhide hfin
end Go.Proofs.YtconkcjcjdmidaaGreatDoor
