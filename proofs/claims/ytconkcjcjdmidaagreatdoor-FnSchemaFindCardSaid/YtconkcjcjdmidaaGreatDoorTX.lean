/- A schema: the places of its fields by their names. (YtconkcjcjdmidaaGreatDoor) -/
import Derived.Test.YtconkcjcjdmidaaGreatDoorTW
import Derived.Maps.Views
set_option linter.unusedVariables false
set_option linter.unusedSimpArgs false
namespace Go.Proofs.YtconkcjcjdmidaaGreatDoor
open Go.RowKit Go.ChangeShapes Go.WideShapes Go.ChangeAt Go Go.Maps
/-- the places of a name among the first k fields. -/
def plc (l : List Ar) (k : Nat) (s : ByteArray) : List Int := ((List.range k).filter fun i => decide ((l.getD i dA).nm.data.toList = s.data.toList)).map fun (i : Nat) => (i : Int)
theorem plc_yes (l : List Ar) (k : Nat) (s : ByteArray) (h : (l.getD k dA).nm.data.toList = s.data.toList) : plc l (k + 1) s = plc l k s ++ [(k : Int)] := by
  unfold plc
  rw [List.range_succ, List.filter_append, List.map_append]
  simp only [List.filter_cons, List.filter_nil, decide_eq_true h, if_true, List.map_cons, List.map_nil]
theorem plc_no (l : List Ar) (k : Nat) (s : ByteArray) (h : (l.getD k dA).nm.data.toList ≠ s.data.toList) : plc l (k + 1) s = plc l k s := by
  unfold plc
  rw [List.range_succ, List.filter_append, List.map_append]
  simp only [List.filter_cons, List.filter_nil, decide_eq_false h, Bool.false_eq_true, if_false, List.map_nil, List.append_nil]
def idxD (zs : List Int) : DataW Unit := if zs = [] then .nil else .slice (lits .i64 zs) []
/-- a map reads as the index of names. -/
def IdxOk (D : DataW Unit) (l : List Ar) (k : Nat) : Prop := IsMap D ∧ ∀ s : ByteArray, D.atKey (.string s.data.toList) .nil = idxD (plc l k s)
theorem IdxOk.start (l : List Ar) : IdxOk (.map []) l 0 := ⟨isMap_empty, fun s => rfl⟩
theorem lits_inj {zs zs' : List Int} (h : (lits (H := Unit) .i64 zs) = lits .i64 zs') : zs = zs' := by
  unfold lits at h
  exact (List.map_inj_right (fun a b hab => by injection hab with hab; injection hab)).1 h
theorem idx_zs {w : World} {base : Nat} {v : Value} {zs ps : List Int} (ho : w.ownsInts base 3 .i64 v zs) (h : idxD ps = rowDatum .i64 v zs) : zs = ps := by
  unfold idxD at h
  rcases ho.datum (H := Unit) with ⟨e, h0⟩ | e
  · rw [e] at h
    split at h
    · rename_i h1; rw [h0, h1]
    · cases h
  · rw [e] at h
    split at h
    · cases h
    · injection h with h _
      exact (lits_inj h).symm
theorem IdxOk.next {D : DataW Unit} {l : List Ar} {k : Nat} {w w' : World} {base : Nat} {v v' : Value} {zs : List Int} (h : IdxOk D l k) (ho : w.ownsInts base 3 .i64 v zs) (hat : D.atKey (.string (l.getD k dA).nm.data.toList) .nil = rowDatum .i64 v zs)
    (ho' : w'.ownsInts base 3 .i64 v' (zs ++ [(k : Int)])) : IdxOk (D.put (.string (l.getD k dA).nm.data.toList) (rowDatum .i64 v' (zs ++ [(k : Int)]))) l (k + 1) := by
  refine ⟨h.1.put _ _, fun s => ?_⟩
  by_cases e : (l.getD k dA).nm.data.toList = s.data.toList
  · have hz := idx_zs ho ((h.2 _).symm.trans hat)
    rw [e, atKey_put_same h.1 (by exact trivial), ho'.datum_pos (by simp), plc_yes l k s e]
    unfold idxD
    rw [if_neg (by simp), hz]
    unfold plc
    rw [e]
  · rw [atKey_put_other (by intro h9; injection h9 with h9; exact e h9.symm), h.2, plc_no l k s e]
/-- what a round keeps. -/
def SM (w : World) (F : Value) (gs gb base k gf : Nat) (D : DataW Unit) (r : Ar) (W : World) : Prop :=
  (∃ x y, Blk W gs 60 #[F, .map (some gb), x, y, .int .i16 0]) ∧ W.ownsGroups Tryz.prog 9 base 3 .i64 gb k D ∧ Below w.heap.size w W ∧ base ≤ W.heap.size ∧ gf < W.heap.size ∧ base ≤ gf ∧ Blk W gf 67 r.cells.toArray
theorem SM.cells {w W : World} {F : Value} {gs gb base k gf : Nat} {D : DataW Unit} {r : Ar} (h : SM w F gs gb base k gf D r W) : W.cell? ⟨gs, 1, none⟩ = some (.map (some gb)) ∧ W.cell? ⟨gf, 0, none⟩ = some (.string r.nm) := by
  obtain ⟨⟨x, y, h1⟩, _, _, _, _, _, h9⟩ := h
  exact ⟨by have := h1.cell 1; simpa using this, by have := h9.cell 0; simpa using this⟩
theorem SM.grown {w W W' : World} {F : Value} {gs gb base k gf : Nat} {D : DataW Unit} {r : Ar} {v : Value} {zs : List Int} (h : SM w F gs gb base k gf D r W) (hoi : W.ownsInts base 3 .i64 v zs) (hg : W.grownBy W' v.ownBlock) (e0 : gs < base) (e2 : gb < base) :
    W'.cell? ⟨gs, 1, none⟩ = some (.map (some gb)) ∧ W'.cell? ⟨gf, 0, none⟩ = some (.string r.nm) ∧ W'.heap[gb]? = W.heap[gb]? := by
  obtain ⟨c1, c2⟩ := h.cells
  obtain ⟨_, _, _, h6, h7, h8, h9⟩ := h
  have n1 : some gs ≠ v.ownBlock := fun e => by have := (hoi.1.lt gs e.symm).1; omega
  have n3 : some gb ≠ v.ownBlock := fun e => by have := (hoi.1.lt gb e.symm).1; omega
  have n2 : some gf ≠ v.ownBlock := fun e => by
    rcases hoi.1.2 with ⟨rfl, _⟩ | ⟨g, cap, cur, rfl, _, hh, _⟩
    · cases e
    · have e' : gf = g := by simpa [Value.ownBlock] using e
      subst e'
      have h10 : W.heap[gf]? = some (.cells r.cells.toArray 67 (0, 0)) := h9
      rw [h10] at hh
      simp at hh
  exact ⟨(World.cell?_of_block (hg.block gs (by omega) n1)).trans c1, (World.cell?_of_block (hg.block gf h7 n2)).trans c2, hg.block gb (by omega) n3⟩
def SL (w : World) (F : Value) (gs gb base : Nat) (l : List Ar) (v : Value) (wr : World) : Prop :=
  ∃ (k : Nat) (D : DataW Unit), v = .int .i64 (k : Int) ∧ k ≤ l.length ∧ (∃ x y, Blk wr gs 60 #[F, .map (some gb), x, y, .int .i16 0]) ∧ wr.ownsGroups Tryz.prog 9 base 3 .i64 gb k D ∧ IdxOk D l k ∧ Below w.heap.size w wr ∧ base ≤ wr.heap.size
theorem SL.of {w W W7 w8 : World} {F : Value} {gs gb base k gf : Nat} {l : List Ar} {D D' : DataW Unit} {r : Ar} {v : Value} {zs : List Int} (h : SM w F gs gb base k gf D r W) (hoi : W.ownsInts base 3 .i64 v zs) (hg : W.grownBy W7 v.ownBlock) (e0 : gs < base) (d1 : gs ≠ gb) (q2 : w.heap.size ≤ gb) (hwb : w.heap.size ≤ base)
    (hg2 : W7.grownBy w8 (some gb)) (ho : w8.ownsGroups Tryz.prog 9 base 3 .i64 gb (k + 1) D') (hi : IdxOk D' l (k + 1)) (hk : k + 1 ≤ l.length) : SL w F gs gb base l (.int .i64 ((k : Int) + 1)) w8 := by
  obtain ⟨⟨x, y, h1⟩, h4, h5, h6, h7, h8, h9⟩ := h
  have n1 : some gs ≠ v.ownBlock := fun e => by have := (hoi.1.lt gs e.symm).1; omega
  have hs7 := hg.size
  have hs8 := hg2.size
  refine ⟨k + 1, D', by simp, hk, ⟨x, y, ?_⟩, ho, hi, (h5.grown hg (Nat.le_trans hwb h6) (fun b hb => Nat.le_trans hwb (hoi.1.lt b hb).1)).grown hg2 (Nat.le_trans (Nat.le_trans hwb h6) hs7) (fun b hb => by cases hb; exact q2), by omega⟩
  exact (hg2.block gs (by omega) (by simpa using d1)).trans ((hg.block gs (by omega) n1).trans h1)
theorem grown_new1 (W : World) (o : Obj) (row : Option Nat) : W.grownBy (W.alloc o).drew row := ⟨rfl, rfl, rfl, by simp, fun k hk _ => heap_alloc_old W o hk⟩
theorem grown_drew1 (W : World) (row : Option Nat) : W.grownBy W.drew row := ⟨rfl, rfl, rfl, Nat.le_refl _, fun k _ _ => rfl⟩
/-- a schema. -/
def Sc (B : Nat) (W : World) (gs : Nat) (l : List Ar) : Prop :=
  ∃ b c gb base D x y, Blk W gs 60 #[.slice (some ⟨b, 0, none⟩) l.length c, .map (some gb), x, y, .int .i16 0] ∧ W.ownsGroups Tryz.prog 9 base 3 .i64 gb l.length D ∧ IdxOk D l l.length ∧ B ≤ gs
def PSc (w : World) (l : List Ar) (e : Ending) (w' : World) : Prop := ∃ gs, e = .returned (.pointer (some ⟨gs, 0, none⟩)) ∧ Sc w.heap.size w' gs l ∧ Below w.heap.size w w'
set_option maxRecDepth 100000 in
set_option maxHeartbeats 4000000 in
theorem newSchema_any (w : World) (b c : Nat) (l : List Ar) (gm : Nat) (m0 m1 : Value) (hl : l.length ≤ 1000) (hc : ArL w b l) (hm0 : w.cell? ⟨gm, 0, none⟩ = some m0) (hm1 : w.cell? ⟨gm, 1, none⟩ = some m1) (hmz : gm < w.heap.size) (hm2 : (∃ A n c, m0 = .slice A n c) ∧ ∃ A n c, m1 = .slice A n c) :
    Calls Tryz.prog 39 #[.slice (some ⟨b, 0, none⟩) l.length c, .pointer (some ⟨gm, 0, none⟩), .int .i16 0] w (PSc w l) := by
  have hmm := fun (W : World) => make_map W l.length hl
  obtain ⟨⟨A0, n0, c0, rfl⟩, A1, n1, c1, rfl⟩ := hm2
  obtain ⟨base, hbase⟩ : ∃ base, base = w.heap.size + 1 + 1 := ⟨_, rfl⟩
  have hB2 : Below w.heap.size w ((w.alloc (.map #[] 0)).alloc (.cells #[.slice (some ⟨b, 0, none⟩) l.length c, .map (some w.heap.size), .slice A0 n0 c0, .slice A1 n1 c1, .int .i16 0] 60)) := (by repeat' (first | (with_reducible exact Below.refl _ _) | (with_reducible refine Below.setCell ?_ ?_ _) | (with_reducible refine bdrewN ?_ _) | (with_reducible refine bdrew ?_) | (with_reducible refine Below.alloc ?_ ?_ _) | exact Nat.le_refl _ | (simp; done)))
  have h00 := hide (show SL w (.slice (some ⟨b, 0, none⟩) l.length c) (w.heap.size + 1) w.heap.size base l (.int .i64 0) ((w.alloc (.map #[] 0)).alloc (.cells #[.slice (some ⟨b, 0, none⟩) l.length c, .map (some w.heap.size), .slice A0 n0 c0, .slice A1 n1 c1, .int .i16 0] 60)) from by
    have hK := Blk.new (w := w.alloc (.map #[] 0)) (g := w.heap.size + 1) 60 #[.slice (some ⟨b, 0, none⟩) l.length c, .map (some w.heap.size), .slice A0 n0 c0, .slice A1 n1 c1, .int .i16 0] (by simp)
    refine ⟨0, .map [], rfl, Nat.zero_le _, ⟨.slice A0 n0 c0, .slice A1 n1 c1, hK⟩, groups_new _ Tryz.prog 9 3 .i64 w.heap.size 0 ?_ (by omega), IdxOk.start l, hB2, by simp; omega⟩
    rw [heap_alloc_old (w.alloc (.map #[] 0)) _ (by simp)]
    exact heap_alloc_new w (.map #[] 0))
  clear hB2
  replace hc := hide hc
  have q2 : w.heap.size ≤ w.heap.size := Nat.le_refl _
  have e0 : w.heap.size + 1 < base := by omega
  have e2 : w.heap.size < base := by omega
  have hwb : w.heap.size ≤ base := by omega
  have d1 : w.heap.size + 1 ≠ w.heap.size := by omega
  replace hbase := hide hbase
  go_enter Tryz.func39, Tryz.ntmps39
  go_wp2_with fail
  go_loopw [27] (SL w (.slice (some ⟨b, 0, none⟩) l.length c) (w.heap.size + 1) w.heap.size base l) (fun v _ => l.length - (intOf v).toNat)
  case atStart => exact unhide h00
  case round =>
    obtain ⟨k, D, rfl, hk, ⟨x, y, hs⟩, hgr, hix, hB, hbw⟩ := hrel
    by_cases hlt : k < l.length
    · obtain ⟨⟨f0, f1, f2, f3, f4⟩, hnm⟩ := ((unhide hc).below hB).2 k hlt
      have hlt' : (k : Int) < (l.length : Int) := by omega
      have hw1 : IntKind.i64.wrap ((k : Int) + 1) = (k : Int) + 1 := (IntWalk.i64_left _).trans (IntWalk.wrap64_in _ (by omega))
      have hixn := hide (fun (W W' : World) (v v' : Value) (zs : List Int) (ho : W.ownsInts base 3 .i64 v zs) (hat : D.atKey (.string (l.getD k dA).nm.data.toList) .nil = rowDatum .i64 v zs) (ho' : W'.ownsInts base 3 .i64 v' (zs ++ [(k : Int)])) => hix.next ho hat ho')
      generalize l.getD k dA = r at *
      obtain ⟨W0, hW0⟩ : ∃ W0, W0 = wr.alloc (.cells r.cells.toArray 67) := ⟨_, rfl⟩
      have hM0 := hide (show SM w (.slice (some ⟨b, 0, none⟩) l.length c) (w.heap.size + 1) w.heap.size base k wr.heap.size D r W0 from by
        subst hW0
        exact ⟨⟨x, y, hs.alloc _⟩, groups_below hgr (by repeat' (first | (with_reducible exact Below.refl _ _) | (with_reducible refine Below.setCell ?_ ?_ _) | (with_reducible refine bdrewN ?_ _) | (with_reducible refine bdrew ?_) | (with_reducible refine Below.alloc ?_ ?_ _) | exact Nat.le_refl _ | (simp; done))), hB.alloc hB.size _, by simp; omega, by simp, hbw, Blk.new _ _ rfl⟩)
      obtain ⟨v, zs, ok, look, hat, hoi, hzl, hback, hvb⟩ := groups_look false (unhide hM0).2.1 (Maps.string_keyed Tryz.underlying9) Tryz.underlying56 (fun W => by kernel_rfl) (by unfold maxLen; omega) (Go.WideMaps.keyOf_string_mk Tryz.underlying9 hnm)
      have look2 : ∀ W : World, W.heap[w.heap.size]? = W0.heap[w.heap.size]? → (Instr.lookup 56 (.map (some w.heap.size)) (.string r.nm) false).run Tryz.prog W = .ok v W := fun W hW => by simpa using look W hW
      have hSt := hide (fun (W : World) (hg : W0.grownBy W v.ownBlock) => (show W.cell? ⟨w.heap.size + 1, 1, none⟩ = some (.map (some w.heap.size)) ∧ W.cell? ⟨wr.heap.size, 0, none⟩ = some (.string r.nm) ∧ (Instr.lookup 56 (.map (some w.heap.size)) (.string r.nm) false).run Tryz.prog W = .ok v W ∧ Hid (W0.grownBy W v.ownBlock) from by
        obtain ⟨a1, a2, a3⟩ := (unhide hM0).grown hoi hg e0 e2
        exact ⟨a1, a2, look2 W a3, hide hg⟩))
      have hkw : (Lit.int .i64 (k : Int)).wf = true := (Lit.wf_int_iff .i64 (k : Int)).2 ⟨by show (-9223372036854775808 : Int) ≤ _; omega, by show _ ≤ (9223372036854775807 : Int); omega⟩
      replace hback := hide hback
      replace hoi := hide hoi
      replace hat := hide hat
      clear look look2 h00 hs hgr hB hix hc
      go_upto_region 9 with (fail)
      rw [← hW0]
      clear hW0
      obtain ⟨i3, hi3, ha0, ha1, ha2⟩ := info_parts info_3
      generalize hgf : wr.heap.size = gf at *
      clear hgf f0 f1 f2 f3 f4
      refine wp_region_K (S := fun W => W.cell? ⟨w.heap.size + 1, 1, none⟩ = some (.map (some w.heap.size)) ∧ W.cell? ⟨gf, 0, none⟩ = some (.string r.nm) ∧ (Instr.lookup 56 (.map (some w.heap.size)) (.string r.nm) false).run Tryz.prog W = .ok v W ∧ Hid (W0.grownBy W v.ownBlock)) (k := 16) (by kernel_rfl) (unhide hSt _ (grown_drew1 W0 _)) (fun hHeld => ?_)
      refine wpAnyK_take (i := 0) (oi := _) (v := ?_) rfl (by kernel_rfl) (by kernel_rfl) (by kernel_rfl) (by kernel_rfl) (fun _ _ _ h => h) (Or.inl ⟨by rfl, ?_⟩) (by assumption) ?_
      rotate_left
      · intro w hSw; (try dsimp only at hSw); (try subst hSw); go_simp; (try with_reducible rfl)
      simp only [Act.put, List.getElem_toArray, List.getElem_cons_zero, List.getElem_cons_succ, List.setIfInBounds_toArray, List.set_cons_zero, List.set_cons_succ]
      refine wpAnyK_take (i := 1) (oi := _) (v := ?_) rfl (by kernel_rfl) (by kernel_rfl) (by kernel_rfl) (by kernel_rfl) (fun _ _ _ h => h) (Or.inl ⟨by rfl, ?_⟩) (by assumption) ?_
      rotate_left
      · intro w hSw; (try dsimp only at hSw); (try subst hSw); go_simp; (try with_reducible rfl)
      simp only [Act.put, List.getElem_toArray, List.getElem_cons_zero, List.getElem_cons_succ, List.setIfInBounds_toArray, List.set_cons_zero, List.set_cons_succ]
      refine wpAnyK_take (i := 2) (oi := _) (v := ?_) rfl (by kernel_rfl) (by kernel_rfl) (by kernel_rfl) (by kernel_rfl) (fun _ _ _ h => h) (Or.inl ⟨by rfl, ?_⟩) (by assumption) ?_
      rotate_left
      · intro w hSw; (try dsimp only at hSw); (try subst hSw); go_simp; (try with_reducible rfl)
      simp only [Act.put, List.getElem_toArray, List.getElem_cons_zero, List.getElem_cons_succ, List.setIfInBounds_toArray, List.set_cons_zero, List.set_cons_succ]
      refine wpAnyK_take (i := 3) (oi := _) (v := ?_) rfl (by kernel_rfl) (by kernel_rfl) (by kernel_rfl) (by kernel_rfl) (fun _ _ _ h => h) (Or.inl ⟨by rfl, ?_⟩) (by assumption) ?_
      rotate_left
      · intro w hSw; (try dsimp only at hSw); (try subst hSw); go_simp; (try with_reducible rfl)
      simp only [Act.put, List.getElem_toArray, List.getElem_cons_zero, List.getElem_cons_succ, List.setIfInBounds_toArray, List.set_cons_zero, List.set_cons_succ]
      refine wpAnyK_take (i := 4) (oi := _) (v := ?_) rfl (by kernel_rfl) (by kernel_rfl) (by kernel_rfl) (by kernel_rfl) (fun _ _ _ h => h) (Or.inl ⟨by rfl, ?_⟩) (by assumption) ?_
      rotate_left
      · intro w hSw; (try dsimp only at hSw); (try subst hSw); go_simp; (try with_reducible rfl)
      simp only [Act.put, List.getElem_toArray, List.getElem_cons_zero, List.getElem_cons_succ, List.setIfInBounds_toArray, List.set_cons_zero, List.set_cons_succ]
      refine wpAnyK_take (i := 5) (oi := _) (v := ?_) rfl (by kernel_rfl) (by kernel_rfl) (by kernel_rfl) (by kernel_rfl) (fun _ _ _ h => h) (Or.inl ⟨by rfl, ?_⟩) (by assumption) ?_
      rotate_left
      · intro w hSw; (try dsimp only at hSw); (try subst hSw); go_simp; (try with_reducible rfl)
      simp only [Act.put, List.getElem_toArray, List.getElem_cons_zero, List.getElem_cons_succ, List.setIfInBounds_toArray, List.set_cons_zero, List.set_cons_succ]
      refine wpAnyK_take (i := 6) (oi := _) (v := ?_) rfl (by kernel_rfl) (by kernel_rfl) (by kernel_rfl) (by kernel_rfl) (fun _ _ _ h => h) (Or.inl ⟨by rfl, ?_⟩) (by assumption) ?_
      rotate_left
      · intro w hSw; (try dsimp only at hSw); (try subst hSw); go_simp; (try with_reducible rfl)
      simp only [Act.put, List.getElem_toArray, List.getElem_cons_zero, List.getElem_cons_succ, List.setIfInBounds_toArray, List.set_cons_zero, List.set_cons_succ]
      refine wpAnyK_take (i := 7) (oi := _) (v := ?_) rfl (by kernel_rfl) (by kernel_rfl) (by kernel_rfl) (by kernel_rfl) (fun _ _ _ h => h) (Or.inl ⟨by rfl, ?_⟩) (by assumption) ?_
      rotate_left
      · intro w hSw; (try dsimp only at hSw); (try subst hSw); go_simp; (try with_reducible rfl)
      simp only [Act.put, List.getElem_toArray, List.getElem_cons_zero, List.getElem_cons_succ, List.setIfInBounds_toArray, List.set_cons_zero, List.set_cons_succ]
      refine wpAnyK_take (i := 8) (oi := _) (v := ?_) rfl (by kernel_rfl) (by kernel_rfl) (by kernel_rfl) (by kernel_rfl) (fun _ _ _ h => h) (Or.inl ⟨by rfl, ?_⟩) (by assumption) ?_
      rotate_left
      · intro w hSw; (try dsimp only at hSw); (try subst hSw); go_simp; (try with_reducible rfl)
      simp only [Act.put, List.getElem_toArray, List.getElem_cons_zero, List.getElem_cons_succ, List.setIfInBounds_toArray, List.set_cons_zero, List.set_cons_succ]
      refine wpAnyK_take (i := 9) (oi := _) (v := ?_) rfl (by kernel_rfl) (by kernel_rfl) (by kernel_rfl) (by kernel_rfl) (fun _ _ _ h => h) (Or.inl ⟨by rfl, ?_⟩) (by assumption) ?_
      rotate_left
      · intro w hSw; (try dsimp only at hSw); (try subst hSw); go_simp; (try with_reducible rfl)
      simp only [Act.put, List.getElem_toArray, List.getElem_cons_zero, List.getElem_cons_succ, List.setIfInBounds_toArray, List.set_cons_zero, List.set_cons_succ]
      refine wpAnyK_take (i := 10) (oi := _) (v := ?_) rfl (by kernel_rfl) (by kernel_rfl) (by kernel_rfl) (by kernel_rfl) (fun _ _ _ h => h) (Or.inl ⟨by rfl, ?_⟩) (by assumption) ?_
      rotate_left
      · intro w hSw; (try dsimp only at hSw); (try subst hSw); go_simp; (try with_reducible rfl)
      simp only [Act.put, List.getElem_toArray, List.getElem_cons_zero, List.getElem_cons_succ, List.setIfInBounds_toArray, List.set_cons_zero, List.set_cons_succ]
      refine wpAnyK_take (i := 11) (oi := _) (v := ?_) rfl (by kernel_rfl) (by kernel_rfl) (by kernel_rfl) (by kernel_rfl) (fun _ _ _ h => h) (Or.inl ⟨by rfl, ?_⟩) (by assumption) ?_
      rotate_left
      · intro w hSw; (try dsimp only at hSw); (try subst hSw); go_simp; (try with_reducible rfl)
      simp only [Act.put, List.getElem_toArray, List.getElem_cons_zero, List.getElem_cons_succ, List.setIfInBounds_toArray, List.set_cons_zero, List.set_cons_succ]
      refine wpAnyK_take (i := 12) (oi := _) (v := ?_) rfl (by kernel_rfl) (by kernel_rfl) (by kernel_rfl) (by kernel_rfl) (fun _ _ _ h => h) (Or.inl ⟨by rfl, ?_⟩) (by assumption) ?_
      rotate_left
      · intro w hSw; (try dsimp only at hSw); (try subst hSw); go_simp; (try with_reducible rfl)
      simp only [Act.put, List.getElem_toArray, List.getElem_cons_zero, List.getElem_cons_succ, List.setIfInBounds_toArray, List.set_cons_zero, List.set_cons_succ]
      refine wpAnyK_take (i := 13) (oi := _) (v := ?_) rfl (by kernel_rfl) (by kernel_rfl) (by kernel_rfl) (by kernel_rfl) (fun _ _ _ h => h) (Or.inl ⟨by rfl, ?_⟩) (by assumption) ?_
      rotate_left
      · intro w hSw; (try dsimp only at hSw); (try subst hSw); go_simp; (try with_reducible rfl)
      simp only [Act.put, List.getElem_toArray, List.getElem_cons_zero, List.getElem_cons_succ, List.setIfInBounds_toArray, List.set_cons_zero, List.set_cons_succ]
      refine wpAnyK_one (i := 14) (o := _) (by kernel_rfl) rfl (fun K hK => ?_)
      go_simp
      have hg7 : W0.grownBy (W0.alloc (.cells #[.int .i64 (k : Int)] 3)).drew v.ownBlock := grown_new1 W0 _ _
      have ho7 : (W0.alloc (.cells #[.int .i64 (k : Int)] 3)).drew.ownsInts base 3 .i64 v zs := (unhide hoi).alloc _
      have hn7 : ∀ j u, [Value.int .i64 (k : Int)][j]? = some u → (W0.alloc (.cells #[.int .i64 (k : Int)] 3)).drew.cell? ((⟨W0.heap.size, 0, none⟩ : Addr).add j) = some u := cell_one_new W0 _ 3
      have hb7 : base ≤ (W0.alloc (.cells #[.int .i64 (k : Int)] 3)).drew.heap.size := by have := (unhide hM0).2.2.2.1; simp; omega
      have hs7 : W0.heap.size ≤ (W0.alloc (.cells #[.int .i64 (k : Int)] 3)).drew.heap.size := by simp
      generalize hW7 : (W0.alloc (.cells #[.int .i64 (k : Int)] 3)).drew = W7 at *
      refine hK.out _ _ (unhide hSt _ hg7) (fun hHeld2 => ?_)
      clear hK K hHeld hW7
      refine wpAnyK_one (i := 15) (o := _) (by kernel_rfl) rfl (fun K hK => ?_)
      refine step_append_own_at rfl (.tmp 48) (.tmp 50) 28 rfl base 3 i3 _ 1 8 Tryz.underlying28 hi3 ha0 ha1 ha2 rfl (by decide) v zs.length (zs.map (Value.int .i64)) rfl ho7.1 ⟨W0.heap.size, 0, none⟩ 1 1 [.int .i64 (k : Int)] rfl rfl hn7 (by intro u hu; simp at hu; subst hu; rfl) (by unfold maxLen; omega) (by omega) hb7 ?_
      intro v' w8 ho8 hg8 hat8
      have hg48 := hg7.trans hg8
      have ho9 := ho7.appended ho8 hkw
      refine hK.out _ _ (unhide hSt _ hg48) (fun hHeld3 => ?_)
      clear hK K hHeld2
      refine wpAnyK_end (o := _) (by kernel_rfl) rfl (fun K hK => ?_)
      refine step_mapUpdate_back rfl (.tmp 39) (.tmp 41) (.tmp 51) 56 rfl (unhide hback) rfl rfl rfl hg48 ho9 (by simp; omega) (by rcases hat8 with h | h; exact .inl h; exact .inr ⟨_, h, hs7⟩) ?_
      intro w9 hog hg9
      refine hK.out _ _ ?_
      clear hK K
      refine wpAnyK_done (by kernel_rfl) ?_ _
      have hnx := hide (SL.of (unhide hM0) (unhide hoi) hg48 e0 d1 q2 hwb hg9 hog (unhide hixn _ _ _ _ _ (unhide hoi) (unhide hat) ho9) (by omega))
      clear hog hg9 ho8 hg8 hg48 ho7 ho9 hg7 hSt hback hoi hM0 hHeld3 hat8 hb7 hs7 hn7 hat hixn
      go_wp2_with fail
      exact ⟨unhide hnx, by show l.length - (intOf (Value.int IntKind.i64 ((k : Int) + 1))).toNat < l.length - (intOf (Value.int IntKind.i64 (k : Int))).toNat; simp only [intOf]; omega⟩
    · have hlt' : ¬ (k : Int) < (l.length : Int) := by omega
      obtain rfl : k = l.length := by omega
      have hF := hide (show PSc w l (.returned (.pointer (some ⟨w.heap.size + 1, 0, none⟩))) wr from ⟨_, rfl, ⟨b, c, w.heap.size, base, D, x, y, hs, hgr, hix, by omega⟩, hB⟩)
      clear hs hgr hB hix h00 hc
      go_wp2_with fail
      go_ret
      exact unhide hF
end Go.Proofs.YtconkcjcjdmidaaGreatDoor
