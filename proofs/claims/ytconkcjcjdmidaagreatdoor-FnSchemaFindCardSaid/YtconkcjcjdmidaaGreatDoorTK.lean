/- Structs of arrow. (YtconkcjcjdmidaaGreatDoor) -/
import Derived.Test.YtconkcjcjdmidaaGreatDoorTJ
import Derived.Test.YtconkcjcjdmidaaGreatDoorTC
import Derived.StringKeys
import Derived.DataShut
set_option linter.unusedVariables false
set_option linter.unusedSimpArgs false
namespace Go.Proofs.YtconkcjcjdmidaaGreatDoor
open Go.RowKit Go.ChangeShapes Go.WideShapes Go.ChangeAt Go
/-- fields of arrow's, as they lie. -/
def ArC (w : World) (b o : Nat) (r : Ar) : Prop :=
  w.cell? ⟨b, o, none⟩ = some (.string r.nm) ∧ w.cell? ⟨b, o + 1, none⟩ = some (.iface r.tid (.pointer (some r.p))) ∧ w.cell? ⟨b, o + 2, none⟩ = some (.bool r.nl) ∧ w.cell? ⟨b, o + 3, none⟩ = some (.slice r.A 0 r.c) ∧ w.cell? ⟨b, o + 4, none⟩ = some (.slice r.A' 0 r.c')
def ArL (w : World) (b : Nat) (l : List Ar) : Prop := b < w.heap.size ∧ ∀ k, k < l.length → ArC w b (k * 5) (l.getD k dA) ∧ (l.getD k dA).nm.size ≤ maxLen
theorem ArL.below {w W : World} {b : Nat} {l : List Ar} (h : ArL w b l) (hb : Below w.heap.size w W) : ArL W b l :=
  ⟨Nat.lt_of_lt_of_le h.1 hb.size, fun k hk => by
    obtain ⟨⟨h1, h2, h3, h4, h5⟩, h6⟩ := h.2 k hk
    exact ⟨⟨(hb.cell h.1).trans h1, (hb.cell h.1).trans h2, (hb.cell h.1).trans h3, (hb.cell h.1).trans h4, (hb.cell h.1).trans h5⟩, h6⟩⟩
theorem info_ar : (Tryz.prog.info? 67).map (fun i => (i.zero, i.size, i.bytes)) = some (some (.agg #[.string ⟨#[]⟩, .nilIface, .bool false, .slice none 0 0, .slice none 0 0]), 5, 88) := by kernel_rfl
def StO (w : World) (n : Nat) (v4 : Value) (wx : World) : Prop :=
  ∃ gs g1 gb, v4 = .pointer (some ⟨gs, 0, none⟩) ∧ (w.heap.size ≤ gs ∧ w.heap.size ≤ g1 ∧ w.heap.size ≤ gb) ∧ (gs ≠ g1 ∧ gs ≠ gb ∧ g1 ≠ gb) ∧ (gs < wx.heap.size ∧ g1 < wx.heap.size ∧ gb < wx.heap.size) ∧
    (∃ x y, Blk wx gs 189 #[.slice (some ⟨g1, 0, none⟩) n n, .map (some gb), x, y]) ∧ (∃ cur : Array Value, Blk wx g1 67 cur ∧ cur.size = n * 5) ∧ wx.heap[gb]? = some (.map #[] 0) ∧ Below w.heap.size w wx
theorem make_map (W : World) (n : Nat) (h : n ≤ 1000) : (Instr.makeMap 56 (some (.int .i64 (n : Int)))).run Tryz.prog W = .ok (.map (some W.heap.size)) (W.alloc (.map #[] 0)) := by
  have hw : IntKind.i64.wrap (n : Int) = (n : Int) := (IntWalk.i64_left _).trans (IntWalk.wrap64_in _ (by omega))
  simp [Instr.makeMap, asInt, asIntOf, hw]
theorem stO_1 (w : World) (n : Nat) (MC : Array Value) (hM : MC.size = n * 5) (x y : Value) :
    StO w n (.pointer (some ⟨w.heap.size + 1 + 1, 0, none⟩)) (((w.alloc (.cells MC 67)).alloc (.map #[] 0)).alloc (.cells #[.slice (some ⟨w.heap.size, 0, none⟩) n n, .map (some (w.heap.size + 1)), x, y] 189)).drew := by
  refine ⟨w.heap.size + 1 + 1, w.heap.size, w.heap.size + 1, rfl, by omega, by omega, by simp; omega, ⟨x, y, ?_⟩, ⟨MC, ?_, hM⟩, ?_, bdrew ((((Below.refl _ _).alloc (Nat.le_refl _) _).alloc (by simp) _).alloc (by simp; omega) _)⟩
  · exact Blk.drew (Blk.new _ _ (by simp))
  · exact Blk.drew (((Blk.new _ _ rfl).alloc _).alloc _)
  · have h1 := heap_alloc_new (w.alloc (.cells MC 67)) (.map #[] 0)
    have h2 := heap_alloc_old ((w.alloc (.cells MC 67)).alloc (.map #[] 0)) (.cells #[.slice (some ⟨w.heap.size, 0, none⟩) n n, .map (some (w.heap.size + 1)), x, y] 189) (r := w.heap.size + 1) (by simp)
    simp only [World.size_alloc] at h1
    exact h2.trans h1
theorem stO_2 (w : World) (n : Nat) (MC : Array Value) (hM : MC.size = n * 5) (x y : Value) :
    StO w n (.pointer (some ⟨w.heap.size + 1 + 1, 0, none⟩)) (((w.alloc (.map #[] 0)).alloc (.cells MC 67)).alloc (.cells #[.slice (some ⟨w.heap.size + 1, 0, none⟩) n n, .map (some w.heap.size), x, y] 189)).drew := by
  refine ⟨w.heap.size + 1 + 1, w.heap.size + 1, w.heap.size, rfl, by omega, by omega, by simp; omega, ⟨x, y, ?_⟩, ⟨MC, ?_, hM⟩, ?_, bdrew ((((Below.refl _ _).alloc (Nat.le_refl _) _).alloc (by simp) _).alloc (by simp; omega) _)⟩
  · exact Blk.drew (Blk.new _ _ (by simp))
  · exact Blk.drew ((Blk.new _ _ (by simp)).alloc _)
  · have h1 := heap_alloc_new w (.map #[] 0)
    have h2 := heap_alloc_old (w.alloc (.map #[] 0)) (.cells MC 67) (r := w.heap.size) (by simp)
    have h3 := heap_alloc_old ((w.alloc (.map #[] 0)).alloc (.cells MC 67)) (.cells #[.slice (some ⟨w.heap.size + 1, 0, none⟩) n n, .map (some w.heap.size), x, y] 189) (r := w.heap.size) (by simp; omega)
    exact (h3.trans h2).trans h1
def StL (w : World) (gs g1 gb base n : Nat) (v : Value) (wr : World) : Prop :=
  ∃ (k : Nat) (D : DataW Unit), v = .int .i64 (k : Int) ∧ k ≤ n ∧ (∃ x y, Blk wr gs 189 #[.slice (some ⟨g1, 0, none⟩) n n, .map (some gb), x, y]) ∧ (∃ cur : Array Value, Blk wr g1 67 cur ∧ cur.size = n * 5) ∧
    wr.ownsGroups Tryz.prog 9 base 3 .i64 gb k D ∧ Below w.heap.size w wr ∧ base ≤ wr.heap.size
/-- within a round: the struct, its row, its map; the loop's own field. -/
def StM (w : World) (gs g1 gb base n k gf : Nat) (D : DataW Unit) (r : Ar) (W : World) : Prop :=
  (∃ x y, Blk W gs 189 #[.slice (some ⟨g1, 0, none⟩) n n, .map (some gb), x, y]) ∧ (∃ cur : Array Value, Blk W g1 67 cur ∧ cur.size = n * 5) ∧
    W.ownsGroups Tryz.prog 9 base 3 .i64 gb k D ∧ Below w.heap.size w W ∧ base ≤ W.heap.size ∧ gf < W.heap.size ∧ base ≤ gf ∧ Blk W gf 67 r.cells.toArray
theorem StM.below {w W W' : World} {gs g1 gb base n k gf : Nat} {D : DataW Unit} {r : Ar} (h : StM w gs g1 gb base n k gf D r W) (hb : Below W.heap.size W W') : StM w gs g1 gb base n k gf D r W' := by
  obtain ⟨⟨x, y, h1⟩, ⟨cur, h2, h3⟩, h4, h5, h6, h7, h8, h9⟩ := h
  exact ⟨⟨x, y, h1.below hb⟩, ⟨cur, h2.below hb, h3⟩, groups_below h4 hb, below_tr h5 hb h5.size, Nat.le_trans h6 hb.size, Nat.lt_of_lt_of_le h7 hb.size, h8, h9.below hb⟩
theorem StM.set {w W : World} {gs g1 gb base n k gf : Nat} {D : DataW Unit} {r : Ar} (h : StM w gs g1 gb base n k gf D r W) (d0 : gs ≠ g1) (d2 : g1 ≠ gb) (e1 : g1 < base) (q1 : w.heap.size ≤ g1) (o : Nat) (v : Value) : StM w gs g1 gb base n k gf D r (W.setCell ⟨g1, o, none⟩ v) := by
  obtain ⟨⟨x, y, h1⟩, ⟨cur, h2, h3⟩, h4, h5, h6, h7, h8, h9⟩ := h
  exact ⟨⟨x, y, h1.other d0 _⟩, ⟨_, h2.set _ _, by simpa using h3⟩, groups_set h4 d2 e1, h5.setCell q1 _, by simpa using h6, by simpa using h7, h8, h9.other (by simp; omega) _⟩
theorem StM.cells {w W : World} {gs g1 gb base n k gf : Nat} {D : DataW Unit} {r : Ar} (h : StM w gs g1 gb base n k gf D r W) :
    W.cell? ⟨gs, 0, none⟩ = some (.slice (some ⟨g1, 0, none⟩) n n) ∧ W.cell? ⟨gs, 1, none⟩ = some (.map (some gb)) ∧ W.cell? ⟨gf, 0, none⟩ = some (.string r.nm) ∧ W.cell? ⟨gf, 1, none⟩ = some (.iface r.tid (.pointer (some r.p))) ∧ W.cell? ⟨gf, 2, none⟩ = some (.bool r.nl) ∧ W.cell? ⟨gf, 3, none⟩ = some (.slice r.A 0 r.c) ∧ W.cell? ⟨gf, 4, none⟩ = some (.slice r.A' 0 r.c') := by
  obtain ⟨⟨x, y, h1⟩, ⟨cur, h2, h3⟩, h4, h5, h6, h7, h8, h9⟩ := h
  exact ⟨by have := h1.cell 0; simpa using this, by have := h1.cell 1; simpa using this, by have := h9.cell 0; simpa using this, by have := h9.cell 1; simpa using this, by have := h9.cell 2; simpa using this, by have := h9.cell 3; simpa using this, by have := h9.cell 4; simpa using this⟩
theorem StM.row {w W : World} {gs g1 gb base n k gf : Nat} {D : DataW Unit} {r : Ar} (h : StM w gs g1 gb base n k gf D r W) {j : Nat} (hj : j < n * 5) : (∃ v, W.cell? ⟨g1, j, none⟩ = some v) ∧ W.frozen? ⟨g1, j, none⟩ = false := by
  obtain ⟨_, ⟨cur, h2, h3⟩, _⟩ := h
  exact ⟨⟨cur[j]'(by omega), by rw [h2.cell]; simp [h3, hj]⟩, h2.frozen _⟩
theorem StM.grown {w W W' : World} {gs g1 gb base n k gf : Nat} {D : DataW Unit} {r : Ar} {v : Value} {zs : List Int} (h : StM w gs g1 gb base n k gf D r W) (hoi : W.ownsInts base 3 .i64 v zs) (hg : W.grownBy W' v.ownBlock) (e0 : gs < base) :
    W'.cell? ⟨gs, 1, none⟩ = some (.map (some gb)) ∧ W'.cell? ⟨gf, 0, none⟩ = some (.string r.nm) := by
  obtain ⟨_, c1, c2, _⟩ := h.cells
  obtain ⟨_, _, _, _, h6, h7, h8, h9⟩ := h
  have n1 : some gs ≠ v.ownBlock := fun e => by have := (hoi.1.lt gs e.symm).1; omega
  have n2 : some gf ≠ v.ownBlock := fun e => by
    rcases hoi.1.2 with ⟨rfl, _⟩ | ⟨g, cap, cur, rfl, _, hh, _⟩
    · cases e
    · have e' : gf = g := by simpa [Value.ownBlock] using e
      subst e'
      have h10 : W.heap[gf]? = some (.cells r.cells.toArray 67 (0, 0)) := h9
      rw [h10] at hh
      simp at hh
  exact ⟨(World.cell?_of_block (hg.block gs (by omega) n1)).trans c1, (World.cell?_of_block (hg.block gf h7 n2)).trans c2⟩
theorem StL.of {w W W7 w8 : World} {gs g1 gb base n k gf : Nat} {D D' : DataW Unit} {r : Ar} {v : Value} {zs : List Int} (h : StM w gs g1 gb base n k gf D r W) (hoi : W.ownsInts base 3 .i64 v zs) (hg : W.grownBy W7 v.ownBlock) (e0 : gs < base) (e1 : g1 < base) (d1 : gs ≠ gb) (d2 : g1 ≠ gb) (q2 : w.heap.size ≤ gb) (hwb : w.heap.size ≤ base)
    (hg2 : W7.grownBy w8 (some gb)) (ho : w8.ownsGroups Tryz.prog 9 base 3 .i64 gb (k + 1) D') (hk : k + 1 ≤ n) : StL w gs g1 gb base n (.int .i64 ((k : Int) + 1)) w8 := by
  obtain ⟨⟨x, y, h1⟩, ⟨cur, h2, h3⟩, h4, h5, h6, h7, h8, h9⟩ := h
  have n1 : some gs ≠ v.ownBlock := fun e => by have := (hoi.1.lt gs e.symm).1; omega
  have n2 : some g1 ≠ v.ownBlock := fun e => by have := (hoi.1.lt g1 e.symm).1; omega
  have hs7 := hg.size
  have hs8 := hg2.size
  refine ⟨k + 1, D', by simp, hk, ⟨x, y, ?_⟩, ⟨cur, ?_, h3⟩, ho, (h5.grown hg (Nat.le_trans hwb h6) (fun b hb => Nat.le_trans hwb (hoi.1.lt b hb).1)).grown hg2 (Nat.le_trans (Nat.le_trans hwb h6) hs7) (fun b hb => by cases hb; exact q2), by omega⟩
  · exact (hg2.block gs (by omega) (by simpa using d1)).trans ((hg.block gs (by omega) n1).trans h1)
  · exact (hg2.block g1 (by omega) (by simpa using d2)).trans ((hg.block g1 (by omega) n2).trans h2)
theorem info_3 : (Tryz.prog.info? 3).map (fun i => (i.zero, i.size, i.bytes)) = some (some (.int .i64 0), 1, 8) := by kernel_rfl
theorem grown_alloc' {a b : World} {row : Option Nat} (h : a.grownBy b row) (o : Obj) : a.grownBy (b.alloc o) row := ⟨h.os, h.tape, h.output, by have := h.size; simp; omega, fun k hk hne => (heap_alloc_old b o (Nat.lt_of_lt_of_le hk h.size)).trans (h.block k hk hne)⟩
theorem _root_.Go.World.grownBy_refl' (W : World) (row : Option Nat) : W.grownBy W row := ⟨rfl, rfl, rfl, Nat.le_refl _, fun k _ _ => rfl⟩
theorem grown_new2 (W : World) (o : Obj) (row : Option Nat) : W.grownBy (W.alloc o).drew.drew row := ⟨rfl, rfl, rfl, by simp, fun k hk _ => heap_alloc_old W o hk⟩
theorem grown_drew2 (W : World) (row : Option Nat) : W.grownBy W.drew.drew row := ⟨rfl, rfl, rfl, Nat.le_refl _, fun k _ _ => rfl⟩
set_option maxRecDepth 100000 in
set_option maxHeartbeats 4000000 in
theorem structOf_any (w : World) (b c : Nat) (l : List Ar) (hl : l.length ≤ 1000) (hc : ArL w b l) (hn0 : 0 < l.length) :
    Calls Tryz.prog 45 #[.slice (some ⟨b, 0, none⟩) l.length c] w (PPt w) := by
  obtain ⟨i0, hi, hz0, hz1, hz2⟩ := info_parts info_af
  have hmk := fun (W : World) => run_make W 52 67 i0 _ Tryz.underlying52 hi hz0 .i64 .i64 (l.length : Int) (l.length : Int) (by omega) (Int.le_refl _) (by rw [hz2]; omega) (by omega)
  simp only [hz1, Int.toNat_natCast] at hmk
  have hmm := fun (W : World) => make_map W l.length hl
  have hz : (((l.length : Nat) : Int) == 0) = false := by rw [beq_eq_false_iff_ne]; omega
  replace hc := hide hc
  go_enter Tryz.func45, Tryz.ntmps45
  go_upto_region 4 with (fail)
  go_cut [4] from 15 to 20 (fun v4 wx => StO w l.length v4 wx)
  case first =>
    go_region
    all_goals (go_wp2_with fail; go_meet)
    · exact stO_1 w l.length _ (size_madeCells _ _) _ _
    · exact stO_2 w l.length _ (size_madeCells _ _) _ _
  obtain ⟨gs, g1, gb, rfl, ⟨q0, q1, q2⟩, ⟨d0, d1, d2⟩, ⟨e0, e1, e2⟩, hs, hr, hmap, hB⟩ := hcut
  obtain ⟨base, hbase⟩ : ∃ base, base = wc.heap.size := ⟨_, rfl⟩
  have h00 := hide (show StL w gs g1 gb base l.length (.int .i64 0) wc from ⟨0, .map [], rfl, Nat.zero_le _, hs, hr, groups_new wc Tryz.prog 9 3 .i64 gb 0 hmap (by omega), hB, by omega⟩)
  replace e0 : gs < base := by omega
  replace e1 : g1 < base := by omega
  replace e2 : gb < base := by omega
  clear hs hr hmap hB hbase hmk hmm hi hz0 hz1 hz2
  go_wp2_with fail
  go_loopw [23] (StL w gs g1 gb base l.length) (fun v _ => l.length - (intOf v).toNat)
  case atStart => exact unhide h00
  case round =>
    obtain ⟨k, D, rfl, hk, ⟨x, y, hs⟩, ⟨cur, hr, hcur⟩, hgr, hB, hbw⟩ := hrel
    by_cases hlt : k < l.length
    · obtain ⟨⟨f0, f1, f2, f3, f4⟩, hnm⟩ := ((unhide hc).below hB).2 k hlt
      have hlt' : (k : Int) < (l.length : Int) := by omega
      have hw1 : IntKind.i64.wrap ((k : Int) + 1) = (k : Int) + 1 := (IntWalk.i64_left _).trans (IntWalk.wrap64_in _ (by omega))
      generalize l.getD k dA = r at *
      obtain ⟨W0, hW0⟩ : ∃ W0, W0 = wr.alloc (.cells r.cells.toArray 67) := ⟨_, rfl⟩
      have hM0 := hide (show StM w gs g1 gb base l.length k wr.heap.size D r W0 from by
        subst hW0
        exact ⟨⟨x, y, hs.alloc _⟩, ⟨cur, hr.alloc _, hcur⟩, groups_below hgr (by repeat' (first | (with_reducible exact Below.refl _ _) | (with_reducible refine Below.setCell ?_ ?_ _) | (with_reducible refine bdrewN ?_ _) | (with_reducible refine bdrew ?_) | (with_reducible refine Below.alloc ?_ ?_ _) | exact Nat.le_refl _ | (simp; done))), hB.alloc hB.size _, by simp; omega, by simp, hbw, Blk.new _ _ rfl⟩)
      have hcl := hide (fun (W : World) => clone_any W r.A r.A' r.c r.c')
      have hj : k * 5 + 5 ≤ l.length * 5 := by omega
      clear h00 hc hs hr hgr hB
      go_upto_region 10 with (fail)
      rw [← hW0]
      clear hW0
      have hc0 := (unhide hM0).cells
      generalize hgf : wr.heap.size = gf at *
      clear hgf f0 f1 f2 f3 f4
      refine wp_region_K (S := fun W => W.cell? ⟨gs, 0, none⟩ = some (.slice (some ⟨g1, 0, none⟩) l.length l.length) ∧ W.cell? ⟨gs, 1, none⟩ = some (.map (some gb)) ∧ W.cell? ⟨gf, 0, none⟩ = some (.string r.nm) ∧ W.cell? ⟨gf, 1, none⟩ = some (.iface r.tid (.pointer (some r.p))) ∧ W.cell? ⟨gf, 2, none⟩ = some (.bool r.nl) ∧ W.cell? ⟨gf, 3, none⟩ = some (.slice r.A 0 r.c) ∧ W.cell? ⟨gf, 4, none⟩ = some (.slice r.A' 0 r.c') ∧ Hid (StM w gs g1 gb base l.length k gf D r W)) (k := 16) (by kernel_rfl) ?_ (fun hHeld => ?_)
      · have h := (unhide hM0).below (bdrew (Below.refl _ _))
        obtain ⟨c0, c1, c2, c3, c4, c5, c6⟩ := h.cells
        exact ⟨c0, c1, c2, c3, c4, c5, c6, hide h⟩
      clear hc0 hM0
      refine wpAnyK_take (i := 0) (oi := _) (v := ?_) rfl (by kernel_rfl) (by kernel_rfl) (by kernel_rfl) (by kernel_rfl) (fun _ _ _ h => h) (Or.inl ⟨by rfl, ?_⟩) (by assumption) ?_
      rotate_left
      · intro w hSw; (try dsimp only at hSw); (try subst hSw); go_simp; (try with_reducible rfl)
      simp only [Act.put, List.getElem_toArray, List.getElem_cons_zero, List.getElem_cons_succ, List.setIfInBounds_toArray, List.set_cons_zero, List.set_cons_succ]
      refine wpAnyK_take (i := 1) (oi := _) (v := ?_) rfl (by kernel_rfl) (by kernel_rfl) (by kernel_rfl) (by kernel_rfl) (fun _ _ _ h => h) (Or.inl ⟨by rfl, ?_⟩) (by assumption) ?_
      rotate_left
      · intro w hSw; (try dsimp only at hSw); (try subst hSw); go_simp; (try with_reducible rfl)
      simp only [Act.put, List.getElem_toArray, List.getElem_cons_zero, List.getElem_cons_succ, List.setIfInBounds_toArray, List.set_cons_zero, List.set_cons_succ]
      refine wpAnyK_take (i := 2) (oi := _) (v := ?_) rfl (by kernel_rfl) (by kernel_rfl) (by kernel_rfl) (by kernel_rfl) (fun _ _ _ h => h) (Or.inl ⟨by rfl, ?_⟩) (by assumption) ?_
      rotate_left
      · intro w hSw; (try dsimp only at hSw); (try subst hSw); go_simp; (try with_reducible rfl)
      simp only [Act.put, List.getElem_toArray, List.getElem_cons_zero, List.getElem_cons_succ, List.setIfInBounds_toArray, List.set_cons_zero, List.set_cons_succ]
      refine wpAnyK_take (i := 3) (oi := _) (v := ?_) rfl (by kernel_rfl) (by kernel_rfl) (by kernel_rfl) (by kernel_rfl) (fun _ _ _ h => h) (Or.inl ⟨by rfl, ?_⟩) (by assumption) ?_
      rotate_left
      · intro w hSw; (try dsimp only at hSw); (try subst hSw); go_simp; (try with_reducible rfl)
      simp only [Act.put, List.getElem_toArray, List.getElem_cons_zero, List.getElem_cons_succ, List.setIfInBounds_toArray, List.set_cons_zero, List.set_cons_succ]
      refine wpAnyK_take (i := 4) (oi := _) (v := ?_) rfl (by kernel_rfl) (by kernel_rfl) (by kernel_rfl) (by kernel_rfl) (fun _ _ _ h => h) (Or.inl ⟨by rfl, ?_⟩) (by assumption) ?_
      rotate_left
      · intro w hSw; (try dsimp only at hSw); (try subst hSw); go_simp; (try with_reducible rfl)
      simp only [Act.put, List.getElem_toArray, List.getElem_cons_zero, List.getElem_cons_succ, List.setIfInBounds_toArray, List.set_cons_zero, List.set_cons_succ]
      refine wpAnyK_take (i := 5) (oi := _) (v := ?_) rfl (by kernel_rfl) (by kernel_rfl) (by kernel_rfl) (by kernel_rfl) (fun _ _ _ h => h) (Or.inl ⟨by rfl, ?_⟩) (by assumption) ?_
      rotate_left
      · intro w hSw; (try dsimp only at hSw); (try subst hSw); go_simp; (try with_reducible rfl)
      simp only [Act.put, List.getElem_toArray, List.getElem_cons_zero, List.getElem_cons_succ, List.setIfInBounds_toArray, List.set_cons_zero, List.set_cons_succ]
      refine wpAnyK_take (i := 6) (oi := _) (v := ?_) rfl (by kernel_rfl) (by kernel_rfl) (by kernel_rfl) (by kernel_rfl) (fun _ _ _ h => h) (Or.inl ⟨by rfl, ?_⟩) (by assumption) ?_
      rotate_left
      · intro w hSw; (try dsimp only at hSw); (try subst hSw); go_simp; (try with_reducible rfl)
      simp only [Act.put, List.getElem_toArray, List.getElem_cons_zero, List.getElem_cons_succ, List.setIfInBounds_toArray, List.set_cons_zero, List.set_cons_succ]
      refine wpAnyK_take (i := 7) (oi := _) (v := ?_) rfl (by kernel_rfl) (by kernel_rfl) (by kernel_rfl) (by kernel_rfl) (fun _ _ _ h => h) (Or.inl ⟨by rfl, ?_⟩) (by assumption) ?_
      rotate_left
      · intro w hSw; (try dsimp only at hSw); (try subst hSw); go_simp; (try with_reducible rfl)
      simp only [Act.put, List.getElem_toArray, List.getElem_cons_zero, List.getElem_cons_succ, List.setIfInBounds_toArray, List.set_cons_zero, List.set_cons_succ]
      refine wpAnyK_take (i := 8) (oi := _) (v := ?_) rfl (by kernel_rfl) (by kernel_rfl) (by kernel_rfl) (by kernel_rfl) (fun _ _ _ h => h) (Or.inl ⟨by rfl, ?_⟩) (by assumption) ?_
      rotate_left
      · intro w hSw; (try dsimp only at hSw); (try subst hSw); go_simp; (try with_reducible rfl)
      simp only [Act.put, List.getElem_toArray, List.getElem_cons_zero, List.getElem_cons_succ, List.setIfInBounds_toArray, List.set_cons_zero, List.set_cons_succ]
      refine wpAnyK_take (i := 9) (oi := _) (v := ?_) rfl (by kernel_rfl) (by kernel_rfl) (by kernel_rfl) (by kernel_rfl) (fun _ _ _ h => h) (Or.inl ⟨by rfl, ?_⟩) (by assumption) ?_
      rotate_left
      · intro w hSw; (try dsimp only at hSw); (try subst hSw); go_simp; (try with_reducible rfl)
      simp only [Act.put, List.getElem_toArray, List.getElem_cons_zero, List.getElem_cons_succ, List.setIfInBounds_toArray, List.set_cons_zero, List.set_cons_succ]
      refine wpAnyK_take (i := 10) (oi := _) (v := ?_) rfl (by kernel_rfl) (by kernel_rfl) (by kernel_rfl) (by kernel_rfl) (fun _ _ _ h => h) (Or.inl ⟨by rfl, ?_⟩) (by assumption) ?_
      rotate_left
      · intro w hSw; (try dsimp only at hSw); (try subst hSw); go_simp; (try with_reducible rfl)
      simp only [Act.put, List.getElem_toArray, List.getElem_cons_zero, List.getElem_cons_succ, List.setIfInBounds_toArray, List.set_cons_zero, List.set_cons_succ]
      refine wpAnyK_take (i := 11) (oi := _) (v := ?_) rfl (by kernel_rfl) (by kernel_rfl) (by kernel_rfl) (by kernel_rfl) (fun _ _ _ h => h) (Or.inl ⟨by rfl, ?_⟩) (by assumption) ?_
      rotate_left
      · intro w hSw; (try dsimp only at hSw); (try subst hSw); go_simp; (try with_reducible rfl)
      simp only [Act.put, List.getElem_toArray, List.getElem_cons_zero, List.getElem_cons_succ, List.setIfInBounds_toArray, List.set_cons_zero, List.set_cons_succ]
      refine wpAnyK_take (i := 12) (oi := _) (v := ?_) rfl (by kernel_rfl) (by kernel_rfl) (by kernel_rfl) (by kernel_rfl) (fun _ _ _ h => h) (Or.inl ⟨by rfl, ?_⟩) (by assumption) ?_
      rotate_left
      · intro w hSw; (try dsimp only at hSw); (try subst hSw); go_simp; (try with_reducible rfl)
      simp only [Act.put, List.getElem_toArray, List.getElem_cons_zero, List.getElem_cons_succ, List.setIfInBounds_toArray, List.set_cons_zero, List.set_cons_succ]
      refine wpAnyK_one (i := 13) (o := _) (by kernel_rfl) rfl (fun K hK => ?_)
      go_simp
      ((go_at_call 38; (with_reducible refine (unhide hcl _).mono ?_); rintro e w3 ⟨rfl, hb3⟩); go_wp2_with fail)
      refine hK.out _ _ ((by have h := (unhide hHeld.2.2.2.2.2.2.2).below hb3; obtain ⟨c0, c1, c2, c3, c4, c5, c6⟩ := h.cells; exact ⟨c0, c1, c2, c3, c4, c5, c6, hide h⟩)) (fun hHeld => ?_)
      clear hK K
      refine wpAnyK_take (i := 14) (oi := _) (v := ?_) rfl (by kernel_rfl) (by kernel_rfl) (by kernel_rfl) (by kernel_rfl) (fun _ _ _ h => h) (Or.inl ⟨by rfl, ?_⟩) (by assumption) ?_
      rotate_left
      · intro w hSw; (try dsimp only at hSw); (try subst hSw); go_simp; (try with_reducible rfl)
      simp only [Act.put, List.getElem_toArray, List.getElem_cons_zero, List.getElem_cons_succ, List.setIfInBounds_toArray, List.set_cons_zero, List.set_cons_succ]
      refine wpAnyK_take (i := 15) (oi := _) (v := ?_) rfl (by kernel_rfl) (by kernel_rfl) (by kernel_rfl) (by kernel_rfl) (fun _ _ _ h => h) (Or.inl ⟨by rfl, ?_⟩) (by assumption) ?_
      rotate_left
      · intro w hSw; (try dsimp only at hSw); (try subst hSw); go_simp; (try with_reducible rfl)
      simp only [Act.put, List.getElem_toArray, List.getElem_cons_zero, List.getElem_cons_succ, List.setIfInBounds_toArray, List.set_cons_zero, List.set_cons_succ]
      have hM3 := unhide hHeld.2.2.2.2.2.2.2
      clear hHeld hb3
      obtain ⟨⟨v0, k0⟩, z0⟩ := hM3.row (j := k * 5) (by omega)
      obtain ⟨⟨v1, k1⟩, z1⟩ := hM3.row (j := k * 5 + 1) (by omega)
      obtain ⟨⟨v2, k2⟩, z2⟩ := hM3.row (j := k * 5 + 2) (by omega)
      obtain ⟨⟨v3, k3⟩, z3⟩ := hM3.row (j := k * 5 + 3) (by omega)
      obtain ⟨⟨v4, k4⟩, z4⟩ := hM3.row (j := k * 5 + 4) (by omega)
      replace hM3 := hide hM3
      refine wpAnyK_end (o := _) (by kernel_rfl) rfl (fun K hK => ?_)
      go_simp
      refine hK.out _ _ ?_
      clear hK K
      refine wpAnyK_done (by kernel_rfl) ?_ _
      have hM4 := hide ((((((unhide hM3).set d0 d2 e1 q1 (k * 5) (.string r.nm)).set d0 d2 e1 q1 (k * 5 + 1) (.iface r.tid (.pointer (some r.p)))).set d0 d2 e1 q1 (k * 5 + 2) (.bool r.nl)).set d0 d2 e1 q1 (k * 5 + 3) (.slice none 0 0)).set d0 d2 e1 q1 (k * 5 + 4) (.slice none 0 0))
      generalize (((((w3.setCell ⟨g1, k * 5, none⟩ (.string r.nm)).setCell ⟨g1, k * 5 + 1, none⟩ (.iface r.tid (.pointer (some r.p)))).setCell ⟨g1, k * 5 + 2, none⟩ (.bool r.nl)).setCell ⟨g1, k * 5 + 3, none⟩ (.slice none 0 0)).setCell ⟨g1, k * 5 + 4, none⟩ (.slice none 0 0)) = W4 at hM4 ⊢
      clear hM3 k0 k1 k2 k3 k4 z0 z1 z2 z3 z4 hcl
      obtain ⟨v, zs, ok, look, hat, hoi, hzl, hback, hvb⟩ := groups_look true (unhide hM4).2.2.1 (Maps.string_keyed Tryz.underlying9) Tryz.underlying56 (fun W => by kernel_rfl) (by unfold maxLen; omega) (Go.WideMaps.keyOf_string_mk Tryz.underlying9 hnm)
      simp only [if_true] at look
      have hl1 := look W4 rfl
      have hl2 := look W4.drew rfl
      obtain ⟨c0, c1, c2, c3, c4, c5, c6⟩ := (unhide hM4).cells
      replace hback := hide hback
      replace hoi := hide hoi
      clear hat look
      go_upto_region 11 with (fail)
      refine wp_region_K (S := fun W => W = W4.drew) (k := 11) (by kernel_rfl) rfl (fun hHeld => ?_)
      refine wpAnyK_take (i := 0) (oi := _) (v := ?_) rfl (by kernel_rfl) (by kernel_rfl) (by kernel_rfl) (by kernel_rfl) (fun _ _ _ h => h) (Or.inl ⟨by rfl, ?_⟩) (by assumption) ?_
      rotate_left
      · intro w hSw; (try dsimp only at hSw); (try subst hSw); go_simp; (try with_reducible rfl)
      simp only [Act.put, List.getElem_toArray, List.getElem_cons_zero, List.getElem_cons_succ, List.setIfInBounds_toArray, List.set_cons_zero, List.set_cons_succ]
      refine wpAnyK_take (i := 1) (oi := _) (v := ?_) rfl (by kernel_rfl) (by kernel_rfl) (by kernel_rfl) (by kernel_rfl) (fun _ _ _ h => h) (Or.inl ⟨by rfl, ?_⟩) (by assumption) ?_
      rotate_left
      · intro w hSw; (try dsimp only at hSw); (try subst hSw); go_simp; (try with_reducible rfl)
      simp only [Act.put, List.getElem_toArray, List.getElem_cons_zero, List.getElem_cons_succ, List.setIfInBounds_toArray, List.set_cons_zero, List.set_cons_succ]
      refine wpAnyK_take (i := 2) (oi := _) (v := ?_) rfl (by kernel_rfl) (by kernel_rfl) (by kernel_rfl) (by kernel_rfl) (fun _ _ _ h => h) (Or.inl ⟨by rfl, ?_⟩) (by assumption) ?_
      rotate_left
      · intro w hSw; (try dsimp only at hSw); (try subst hSw); go_simp; (try with_reducible rfl)
      simp only [Act.put, List.getElem_toArray, List.getElem_cons_zero, List.getElem_cons_succ, List.setIfInBounds_toArray, List.set_cons_zero, List.set_cons_succ]
      refine wpAnyK_take (i := 3) (oi := _) (v := ?_) rfl (by kernel_rfl) (by kernel_rfl) (by kernel_rfl) (by kernel_rfl) (fun _ _ _ h => h) (Or.inl ⟨by rfl, ?_⟩) (by assumption) ?_
      rotate_left
      · intro w hSw; (try dsimp only at hSw); (try subst hSw); go_simp; (try with_reducible rfl)
      simp only [Act.put, List.getElem_toArray, List.getElem_cons_zero, List.getElem_cons_succ, List.setIfInBounds_toArray, List.set_cons_zero, List.set_cons_succ]
      refine wpAnyK_take (i := 4) (oi := _) (v := ?_) rfl (by kernel_rfl) (by kernel_rfl) (by kernel_rfl) (by kernel_rfl) (fun _ _ _ h => h) (Or.inl ⟨by rfl, ?_⟩) (by assumption) ?_
      rotate_left
      · intro w hSw; (try dsimp only at hSw); (try subst hSw); go_simp; (try with_reducible rfl)
      simp only [Act.put, List.getElem_toArray, List.getElem_cons_zero, List.getElem_cons_succ, List.setIfInBounds_toArray, List.set_cons_zero, List.set_cons_succ]
      refine wpAnyK_take (i := 5) (oi := _) (v := ?_) rfl (by kernel_rfl) (by kernel_rfl) (by kernel_rfl) (by kernel_rfl) (fun _ _ _ h => h) (Or.inl ⟨by rfl, ?_⟩) (by assumption) ?_
      rotate_left
      · intro w hSw; (try dsimp only at hSw); (try subst hSw); go_simp; (try with_reducible rfl)
      simp only [Act.put, List.getElem_toArray, List.getElem_cons_zero, List.getElem_cons_succ, List.setIfInBounds_toArray, List.set_cons_zero, List.set_cons_succ]
      refine wpAnyK_take (i := 6) (oi := _) (v := ?_) rfl (by kernel_rfl) (by kernel_rfl) (by kernel_rfl) (by kernel_rfl) (fun _ _ _ h => h) (Or.inl ⟨by rfl, ?_⟩) (by assumption) ?_
      rotate_left
      · intro w hSw; (try dsimp only at hSw); (try subst hSw); go_simp; (try with_reducible rfl)
      simp only [Act.put, List.getElem_toArray, List.getElem_cons_zero, List.getElem_cons_succ, List.setIfInBounds_toArray, List.set_cons_zero, List.set_cons_succ]
      refine wpAnyK_take (i := 7) (oi := _) (v := ?_) rfl (by kernel_rfl) (by kernel_rfl) (by kernel_rfl) (by kernel_rfl) (fun _ _ _ h => h) (Or.inl ⟨by rfl, ?_⟩) (by assumption) ?_
      rotate_left
      · intro w hSw; (try dsimp only at hSw); (try subst hSw); go_simp; (try with_reducible rfl)
      simp only [Act.put, List.getElem_toArray, List.getElem_cons_zero, List.getElem_cons_succ, List.setIfInBounds_toArray, List.set_cons_zero, List.set_cons_succ]
      refine wpAnyK_take (i := 8) (oi := _) (v := ?_) rfl (by kernel_rfl) (by kernel_rfl) (by kernel_rfl) (by kernel_rfl) (fun _ _ _ h => h) (Or.inl ⟨by rfl, ?_⟩) (by assumption) ?_
      rotate_left
      · intro w hSw; (try dsimp only at hSw); (try subst hSw); go_simp; (try with_reducible rfl)
      simp only [Act.put, List.getElem_toArray, List.getElem_cons_zero, List.getElem_cons_succ, List.setIfInBounds_toArray, List.set_cons_zero, List.set_cons_succ]
      refine wpAnyK_take (i := 9) (oi := _) (v := ?_) rfl (by kernel_rfl) (by kernel_rfl) (by kernel_rfl) (by kernel_rfl) (fun _ _ _ h => h) (Or.inl ⟨by rfl, ?_⟩) (by assumption) ?_
      rotate_left
      · intro w hSw; (try dsimp only at hSw); (try subst hSw); go_simp; (try with_reducible rfl)
      simp only [Act.put, List.getElem_toArray, List.getElem_cons_zero, List.getElem_cons_succ, List.setIfInBounds_toArray, List.set_cons_zero, List.set_cons_succ]
      refine wpAnyK_take (i := 10) (oi := _) (v := ?_) rfl (by kernel_rfl) (by kernel_rfl) (by kernel_rfl) (by kernel_rfl) (fun _ _ _ h => h) (Or.inl ⟨by rfl, ?_⟩) (by assumption) ?_
      rotate_left
      · intro w hSw; (try dsimp only at hSw); (try subst hSw); go_simp; (try with_reducible rfl)
      simp only [Act.put, List.getElem_toArray, List.getElem_cons_zero, List.getElem_cons_succ, List.setIfInBounds_toArray, List.set_cons_zero, List.set_cons_succ]
      refine wpAnyK_end (o := _) (by kernel_rfl) rfl (fun K hK => ?_)
      go_simp
      refine hK.out _ _ ?_
      clear hK K
      refine wpAnyK_done (by kernel_rfl) ?_ _
      clear hHeld hl1 hl2 c0 c1 c2 c3 c4 c5 c6
      have hwb : w.heap.size ≤ base := by omega
      have hSt := hide (fun (W : World) (hg : W4.grownBy W v.ownBlock) => (unhide hM4).grown (unhide hoi) hg e0)
      have hkw : (Lit.int .i64 (k : Int)).wf = true := (Lit.wf_int_iff .i64 (k : Int)).2 ⟨by show (-9223372036854775808 : Int) ≤ _; omega, by show _ ≤ (9223372036854775807 : Int); omega⟩
      cases ok
      · go_upto_region 14 with (fail)
        refine wp_region_K (S := fun W => W.cell? ⟨gs, 1, none⟩ = some (.map (some gb)) ∧ W.cell? ⟨gf, 0, none⟩ = some (.string r.nm) ∧ Hid (W4.grownBy W v.ownBlock)) (k := 8) (by kernel_rfl) (by obtain ⟨a1, a2⟩ := unhide hSt _ (grown_drew2 W4 _); exact ⟨a1, a2, hide (grown_drew2 W4 _)⟩) (fun hHeld => ?_)
        refine wpAnyK_take (i := 0) (oi := _) (v := ?_) rfl (by kernel_rfl) (by kernel_rfl) (by kernel_rfl) (by kernel_rfl) (fun _ _ _ h => h) (Or.inl ⟨by rfl, ?_⟩) (by assumption) ?_
        rotate_left
        · intro w hSw; (try dsimp only at hSw); (try subst hSw); go_simp; (try with_reducible rfl)
        simp only [Act.put, List.getElem_toArray, List.getElem_cons_zero, List.getElem_cons_succ, List.setIfInBounds_toArray, List.set_cons_zero, List.set_cons_succ]
        refine wpAnyK_take (i := 1) (oi := _) (v := ?_) rfl (by kernel_rfl) (by kernel_rfl) (by kernel_rfl) (by kernel_rfl) (fun _ _ _ h => h) (Or.inl ⟨by rfl, ?_⟩) (by assumption) ?_
        rotate_left
        · intro w hSw; (try dsimp only at hSw); (try subst hSw); go_simp; (try with_reducible rfl)
        simp only [Act.put, List.getElem_toArray, List.getElem_cons_zero, List.getElem_cons_succ, List.setIfInBounds_toArray, List.set_cons_zero, List.set_cons_succ]
        refine wpAnyK_take (i := 2) (oi := _) (v := ?_) rfl (by kernel_rfl) (by kernel_rfl) (by kernel_rfl) (by kernel_rfl) (fun _ _ _ h => h) (Or.inl ⟨by rfl, ?_⟩) (by assumption) ?_
        rotate_left
        · intro w hSw; (try dsimp only at hSw); (try subst hSw); go_simp; (try with_reducible rfl)
        simp only [Act.put, List.getElem_toArray, List.getElem_cons_zero, List.getElem_cons_succ, List.setIfInBounds_toArray, List.set_cons_zero, List.set_cons_succ]
        refine wpAnyK_take (i := 3) (oi := _) (v := ?_) rfl (by kernel_rfl) (by kernel_rfl) (by kernel_rfl) (by kernel_rfl) (fun _ _ _ h => h) (Or.inl ⟨by rfl, ?_⟩) (by assumption) ?_
        rotate_left
        · intro w hSw; (try dsimp only at hSw); (try subst hSw); go_simp; (try with_reducible rfl)
        simp only [Act.put, List.getElem_toArray, List.getElem_cons_zero, List.getElem_cons_succ, List.setIfInBounds_toArray, List.set_cons_zero, List.set_cons_succ]
        refine wpAnyK_take (i := 4) (oi := _) (v := ?_) rfl (by kernel_rfl) (by kernel_rfl) (by kernel_rfl) (by kernel_rfl) (fun _ _ _ h => h) (Or.inl ⟨by rfl, ?_⟩) (by assumption) ?_
        rotate_left
        · intro w hSw; (try dsimp only at hSw); (try subst hSw); go_simp; (try with_reducible rfl)
        simp only [Act.put, List.getElem_toArray, List.getElem_cons_zero, List.getElem_cons_succ, List.setIfInBounds_toArray, List.set_cons_zero, List.set_cons_succ]
        refine wpAnyK_take (i := 5) (oi := _) (v := ?_) rfl (by kernel_rfl) (by kernel_rfl) (by kernel_rfl) (by kernel_rfl) (fun _ _ _ h => h) (Or.inl ⟨by rfl, ?_⟩) (by assumption) ?_
        rotate_left
        · intro w hSw; (try dsimp only at hSw); (try subst hSw); go_simp; (try with_reducible rfl)
        simp only [Act.put, List.getElem_toArray, List.getElem_cons_zero, List.getElem_cons_succ, List.setIfInBounds_toArray, List.set_cons_zero, List.set_cons_succ]
        refine wpAnyK_take (i := 6) (oi := _) (v := ?_) rfl (by kernel_rfl) (by kernel_rfl) (by kernel_rfl) (by kernel_rfl) (fun _ _ _ h => h) (Or.inl ⟨by rfl, ?_⟩) (by assumption) ?_
        rotate_left
        · intro w hSw; (try dsimp only at hSw); (try subst hSw); go_simp; (try with_reducible rfl)
        simp only [Act.put, List.getElem_toArray, List.getElem_cons_zero, List.getElem_cons_succ, List.setIfInBounds_toArray, List.set_cons_zero, List.set_cons_succ]
        refine wpAnyK_one (i := 7) (o := _) (by kernel_rfl) rfl (fun K hK => ?_)
        go_simp
        have hg7 : W4.grownBy (W4.alloc (.cells #[.int .i64 (k : Int)] 3)).drew.drew v.ownBlock := grown_new2 W4 _ _
        have ho7 : (W4.alloc (.cells #[.int .i64 (k : Int)] 3)).drew.drew.ownsInts base 3 .i64 (.slice (some ⟨W4.heap.size, 0, none⟩) 1 1) [(k : Int)] := one_own W4 base k hkw (unhide hM4).2.2.2.2.1
        generalize hW7 : (W4.alloc (.cells #[.int .i64 (k : Int)] 3)).drew.drew = W7 at *
        have h47 := Nat.le_refl W4.heap.size
        refine hK.out _ _ (by obtain ⟨a1, a2⟩ := unhide hSt _ hg7; exact ⟨a1, a2, hide hg7⟩) (fun hHeld2 => ?_)
        clear hK K hHeld hW7
        refine wpAnyK_end (o := _) (by kernel_rfl) rfl (fun K hK => ?_)
        refine step_mapUpdate_back rfl (.tmp 72) (.tmp 74) (.tmp 76) 56 rfl (unhide hback) rfl rfl rfl hg7 ho7 (by simp) (Or.inr ⟨_, rfl, Nat.le_refl _⟩) ?_
        intro w8 ho8 hg8
        refine hK.out _ _ ?_
        clear hK K
        refine wpAnyK_done (by kernel_rfl) ?_ _
        have hnx := hide (StL.of (unhide hM4) (unhide hoi) hg7 e0 e1 d1 d2 q2 hwb hg8 ho8 (by omega))
        clear ho8 hg8 ho7 hg7 hSt hback hoi hM4 hHeld2
        go_wp2_with fail
        exact ⟨unhide hnx, by show l.length - (intOf (Value.int IntKind.i64 ((k : Int) + 1))).toNat < l.length - (intOf (Value.int IntKind.i64 (k : Int))).toNat; simp only [intOf]; omega⟩
      · obtain ⟨i3, hi3, ha0, ha1, ha2⟩ := info_parts info_3
        go_upto_region 13 with (fail)
        refine wp_region_K (S := fun W => W.cell? ⟨gs, 1, none⟩ = some (.map (some gb)) ∧ W.cell? ⟨gf, 0, none⟩ = some (.string r.nm) ∧ Hid (W4.grownBy W v.ownBlock)) (k := 10) (by kernel_rfl) (by obtain ⟨a1, a2⟩ := unhide hSt _ (grown_drew2 W4 _); exact ⟨a1, a2, hide (grown_drew2 W4 _)⟩) (fun hHeld => ?_)
        refine wpAnyK_take (i := 0) (oi := _) (v := ?_) rfl (by kernel_rfl) (by kernel_rfl) (by kernel_rfl) (by kernel_rfl) (fun _ _ _ h => h) (Or.inl ⟨by rfl, ?_⟩) (by assumption) ?_
        rotate_left
        · intro w hSw; (try dsimp only at hSw); (try subst hSw); go_simp; (try with_reducible rfl)
        simp only [Act.put, List.getElem_toArray, List.getElem_cons_zero, List.getElem_cons_succ, List.setIfInBounds_toArray, List.set_cons_zero, List.set_cons_succ]
        refine wpAnyK_take (i := 1) (oi := _) (v := ?_) rfl (by kernel_rfl) (by kernel_rfl) (by kernel_rfl) (by kernel_rfl) (fun _ _ _ h => h) (Or.inl ⟨by rfl, ?_⟩) (by assumption) ?_
        rotate_left
        · intro w hSw; (try dsimp only at hSw); (try subst hSw); go_simp; (try with_reducible rfl)
        simp only [Act.put, List.getElem_toArray, List.getElem_cons_zero, List.getElem_cons_succ, List.setIfInBounds_toArray, List.set_cons_zero, List.set_cons_succ]
        refine wpAnyK_take (i := 2) (oi := _) (v := ?_) rfl (by kernel_rfl) (by kernel_rfl) (by kernel_rfl) (by kernel_rfl) (fun _ _ _ h => h) (Or.inl ⟨by rfl, ?_⟩) (by assumption) ?_
        rotate_left
        · intro w hSw; (try dsimp only at hSw); (try subst hSw); go_simp; (try with_reducible rfl)
        simp only [Act.put, List.getElem_toArray, List.getElem_cons_zero, List.getElem_cons_succ, List.setIfInBounds_toArray, List.set_cons_zero, List.set_cons_succ]
        refine wpAnyK_take (i := 3) (oi := _) (v := ?_) rfl (by kernel_rfl) (by kernel_rfl) (by kernel_rfl) (by kernel_rfl) (fun _ _ _ h => h) (Or.inl ⟨by rfl, ?_⟩) (by assumption) ?_
        rotate_left
        · intro w hSw; (try dsimp only at hSw); (try subst hSw); go_simp; (try with_reducible rfl)
        simp only [Act.put, List.getElem_toArray, List.getElem_cons_zero, List.getElem_cons_succ, List.setIfInBounds_toArray, List.set_cons_zero, List.set_cons_succ]
        refine wpAnyK_take (i := 4) (oi := _) (v := ?_) rfl (by kernel_rfl) (by kernel_rfl) (by kernel_rfl) (by kernel_rfl) (fun _ _ _ h => h) (Or.inl ⟨by rfl, ?_⟩) (by assumption) ?_
        rotate_left
        · intro w hSw; (try dsimp only at hSw); (try subst hSw); go_simp; (try with_reducible rfl)
        simp only [Act.put, List.getElem_toArray, List.getElem_cons_zero, List.getElem_cons_succ, List.setIfInBounds_toArray, List.set_cons_zero, List.set_cons_succ]
        refine wpAnyK_take (i := 5) (oi := _) (v := ?_) rfl (by kernel_rfl) (by kernel_rfl) (by kernel_rfl) (by kernel_rfl) (fun _ _ _ h => h) (Or.inl ⟨by rfl, ?_⟩) (by assumption) ?_
        rotate_left
        · intro w hSw; (try dsimp only at hSw); (try subst hSw); go_simp; (try with_reducible rfl)
        simp only [Act.put, List.getElem_toArray, List.getElem_cons_zero, List.getElem_cons_succ, List.setIfInBounds_toArray, List.set_cons_zero, List.set_cons_succ]
        refine wpAnyK_take (i := 6) (oi := _) (v := ?_) rfl (by kernel_rfl) (by kernel_rfl) (by kernel_rfl) (by kernel_rfl) (fun _ _ _ h => h) (Or.inl ⟨by rfl, ?_⟩) (by assumption) ?_
        rotate_left
        · intro w hSw; (try dsimp only at hSw); (try subst hSw); go_simp; (try with_reducible rfl)
        simp only [Act.put, List.getElem_toArray, List.getElem_cons_zero, List.getElem_cons_succ, List.setIfInBounds_toArray, List.set_cons_zero, List.set_cons_succ]
        refine wpAnyK_take (i := 7) (oi := _) (v := ?_) rfl (by kernel_rfl) (by kernel_rfl) (by kernel_rfl) (by kernel_rfl) (fun _ _ _ h => h) (Or.inl ⟨by rfl, ?_⟩) (by assumption) ?_
        rotate_left
        · intro w hSw; (try dsimp only at hSw); (try subst hSw); go_simp; (try with_reducible rfl)
        simp only [Act.put, List.getElem_toArray, List.getElem_cons_zero, List.getElem_cons_succ, List.setIfInBounds_toArray, List.set_cons_zero, List.set_cons_succ]
        refine wpAnyK_one (i := 8) (o := _) (by kernel_rfl) rfl (fun K hK => ?_)
        go_simp
        have hg7 : W4.grownBy (W4.alloc (.cells #[.int .i64 (k : Int)] 3)).drew.drew v.ownBlock := grown_new2 W4 _ _
        have ho7 : (W4.alloc (.cells #[.int .i64 (k : Int)] 3)).drew.drew.ownsInts base 3 .i64 v zs := (unhide hoi).alloc _
        have hn7 : ∀ j u, [Value.int .i64 (k : Int)][j]? = some u → (W4.alloc (.cells #[.int .i64 (k : Int)] 3)).drew.drew.cell? ((⟨W4.heap.size, 0, none⟩ : Addr).add j) = some u := cell_one_new W4 _ 3
        have hb7 : base ≤ (W4.alloc (.cells #[.int .i64 (k : Int)] 3)).drew.drew.heap.size := by have := (unhide hM4).2.2.2.2.1; simp; omega
        have hs7 : W4.heap.size ≤ (W4.alloc (.cells #[.int .i64 (k : Int)] 3)).drew.drew.heap.size := by simp
        generalize hW7 : (W4.alloc (.cells #[.int .i64 (k : Int)] 3)).drew.drew = W7 at *
        refine hK.out _ _ (by obtain ⟨a1, a2⟩ := unhide hSt _ hg7; exact ⟨a1, a2, hide hg7⟩) (fun hHeld2 => ?_)
        clear hK K hHeld hW7
        refine wpAnyK_one (i := 9) (o := _) (by kernel_rfl) rfl (fun K hK => ?_)
        refine step_append_own_at rfl (.tmp 65) (.tmp 67) 28 rfl base 3 i3 _ 1 8 Tryz.underlying28 hi3 ha0 ha1 ha2 rfl (by decide) v zs.length (zs.map (Value.int .i64)) rfl ho7.1 ⟨W4.heap.size, 0, none⟩ 1 1 [.int .i64 (k : Int)] rfl rfl hn7 (by intro u hu; simp at hu; subst hu; rfl) (by unfold maxLen; omega) (by omega) hb7 ?_
        intro v' w8 ho8 hg8 hat8
        have hg48 := hg7.trans hg8
        refine hK.out _ _ (by obtain ⟨a1, a2⟩ := unhide hSt _ hg48; exact ⟨a1, a2, hide hg48⟩) (fun hHeld3 => ?_)
        clear hK K hHeld2
        refine wpAnyK_end (o := _) (by kernel_rfl) rfl (fun K hK => ?_)
        refine step_mapUpdate_back rfl (.tmp 62) (.tmp 64) (.tmp 68) 56 rfl (unhide hback) rfl rfl rfl hg48 (ho7.appended ho8 hkw) (by simp; omega) (by rcases hat8 with h | h; exact .inl h; exact .inr ⟨_, h, hs7⟩) ?_
        intro w9 ho9 hg9
        refine hK.out _ _ ?_
        clear hK K
        refine wpAnyK_done (by kernel_rfl) ?_ _
        have hnx := hide (StL.of (unhide hM4) (unhide hoi) hg48 e0 e1 d1 d2 q2 hwb hg9 ho9 (by omega))
        clear ho9 hg9 ho8 hg8 hg48 ho7 hg7 hSt hback hoi hM4 hHeld3 hat8 hb7 hs7 hn7
        go_wp2_with fail
        exact ⟨unhide hnx, by show l.length - (intOf (Value.int IntKind.i64 ((k : Int) + 1))).toNat < l.length - (intOf (Value.int IntKind.i64 (k : Int))).toNat; simp only [intOf]; omega⟩
    · have hlt' : ¬ (k : Int) < (l.length : Int) := by omega
      have hF := hide (show PPt w (.returned (.pointer (some ⟨gs, 0, none⟩))) wr from ⟨_, rfl, hB⟩)
      clear hs hr hgr hB h00 hc
      go_wp2_with fail
      go_ret
      exact unhide hF
end Go.Proofs.YtconkcjcjdmidaaGreatDoor
