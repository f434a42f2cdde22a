/- The usual names of a kind's fields, as they are made. (YtconkcjcjdmidaaGreatDoor) -/
import Derived.Test.YtconkcjcjdmidaaGreatDoorTM
import Derived.Maps.Own
set_option linter.unusedVariables false
set_option linter.unusedSimpArgs false
namespace Go.Proofs.YtconkcjcjdmidaaGreatDoor
open Go.Maps Go.RowKit Go.ChangeShapes Go.WideShapes Go.ChangeAt Go
attribute [local go_sem ↓] Go.wp_at_zero Go.wp_at_succ
/-- elements as they are. -/
def RV (v : Value) : Option (DataW Value × List MemPlace) := some (.held v, [])
/-- what a kind's names are: none, or as many as it has fields. -/
def Want (w : World) (nf : Nat) (v : Value) : Prop := v = .slice none 0 0 ∨ ∃ g n, v = .slice (some ⟨g, 0, none⟩) n n ∧ nf ≤ n ∧ g < w.heap.size ∧ ∀ i, i < n → ∃ s : ByteArray, w.cell? ⟨g, i, none⟩ = some (.string s)
theorem Want.below {w W : World} {nf : Nat} {v : Value} (h : Want w nf v) (hb : Below w.heap.size w W) : Want W nf v := by
  rcases h with h | ⟨g, n, h1, h2, h3, h4⟩
  · exact .inl h
  · exact .inr ⟨g, n, h1, h2, Nat.lt_of_lt_of_le h3 hb.size, fun i hi => by
      obtain ⟨s, hs⟩ := h4 i hi
      exact ⟨s, (hb.cell h3).trans hs⟩⟩
def nm1 : ByteArray := ⟨#[105, 116, 101, 109]⟩
/-- one element of a map more, behind a new block. -/
theorem map_more {W : World} {b n : Nat} {D : DataW Value} (h : W.ownsMap Tryz.prog 3 RV b n D) (hn : n < 100) (cs : Array Value) (k : Int) (m : Nat) (hw : (Lit.int IntKind.i64 k).wf = true) :
    ∃ W', (Instr.mapUpdate 75 (.map (some b)) (.int .i64 k) (.slice (some ⟨W.heap.size, 0, none⟩) m m)).run Tryz.prog (W.alloc (.cells cs 9)) = .ok () W' ∧ W'.ownsMap Tryz.prog 3 RV b (n + 1) (D.put (.int .i64 k) (.held (.slice (some ⟨W.heap.size, 0, none⟩) m m))) ∧ (W.alloc (.cells cs 9)).grownBy W' (some b) ∧ Blk W' W.heap.size 9 cs := by
  have K : Maps.Keyed Tryz.prog 3 := Maps.int_keyed Tryz.underlying3
  have hE : Tryz.prog.underlying 3 = some (.int .i64) := Tryz.underlying3
  have hM : Tryz.prog.underlying 75 = some (.map 3 47) := by kernel_rfl
  obtain ⟨W', r, o, g⟩ := (h.alloc (.cells cs 9)).update K hM (by unfold maxLen; omega) (key := .int .i64 k) (val := .slice (some ⟨W.heap.size, 0, none⟩) m m) (Go.Maps.keyOf_int_mk hE hw) (show RV _ = some (_, []) from rfl)
  refine ⟨W', r, o, g, ?_⟩
  have hb := h.lt
  have hB := Blk.new (w := W) (g := W.heap.size) 9 cs rfl
  exact (g.block W.heap.size (by simp) (by simp; omega)).trans hB
set_option maxRecDepth 100000 in
theorem map_look {W : World} {b n : Nat} {D : DataW Value} (h : W.ownsMap Tryz.prog 3 RV b n D) (k : Int) (hw : (Lit.int IntKind.i64 k).wf = true) : ∃ v, (Instr.lookup 75 (.map (some b)) (.int .i64 k) false).run Tryz.prog W = .ok v W ∧ D.atKey (.int .i64 k) (.held (.slice none 0 0)) = .held v := by
  have K : Maps.Keyed Tryz.prog 3 := Maps.int_keyed Tryz.underlying3
  have hE : Tryz.prog.underlying 3 = some (.int .i64) := Tryz.underlying3
  have hM : Tryz.prog.underlying 75 = some (.map 3 47) := by kernel_rfl
  obtain ⟨v, ps, r, e⟩ := h.lookup K hM (z := .slice none 0 0) (by kernel_rfl) (zd := .held (.slice none 0 0)) (zp := []) rfl (key := .int .i64 k) (Go.Maps.keyOf_int_mk hE hw)
  refine ⟨v, r, ?_⟩
  unfold RV at e
  injection e with e
  injection e with e _
  exact e.symm
def nmD (g : Nat → Nat) : DataW Value := (((((((((DataW.map []).put (.int .i64 12) (.held (.slice (some ⟨g 0, 0, none⟩) 1 1))).put (.int .i64 21) (.held (.slice (some ⟨g 1, 0, none⟩) 1 1))).put (.int .i64 25) (.held (.slice (some ⟨g 2, 0, none⟩) 1 1))).put (.int .i64 26) (.held (.slice (some ⟨g 3, 0, none⟩) 1 1))).put (.int .i64 16) (.held (.slice (some ⟨g 4, 0, none⟩) 1 1))).put (.int .i64 17) (.held (.slice (some ⟨g 5, 0, none⟩) 1 1))).put (.int .i64 22) (.held (.slice (some ⟨g 6, 0, none⟩) 2 2))).put (.int .i64 27) (.held (.slice (some ⟨g 7, 0, none⟩) 2 2)))
def nmWhich (g : Nat → Nat) (kd : Int) : Value := if kd = 12 then .slice (some ⟨g 0, 0, none⟩) 1 1 else if kd = 21 then .slice (some ⟨g 1, 0, none⟩) 1 1 else if kd = 25 then .slice (some ⟨g 2, 0, none⟩) 1 1 else if kd = 26 then .slice (some ⟨g 3, 0, none⟩) 1 1 else if kd = 16 then .slice (some ⟨g 4, 0, none⟩) 1 1 else if kd = 17 then .slice (some ⟨g 5, 0, none⟩) 1 1 else if kd = 22 then .slice (some ⟨g 6, 0, none⟩) 2 2 else if kd = 27 then .slice (some ⟨g 7, 0, none⟩) 2 2 else .slice none 0 0
set_option maxHeartbeats 4000000 in
theorem nm_at (g : Nat → Nat) (kd : Int) (h1 : 1 ≤ kd) (h2 : kd ≤ 27) : (nmD g).atKey (.int .i64 kd) (.held (.slice none 0 0)) = .held (nmWhich g kd) := by
  have hc : kd = 1 ∨ kd = 2 ∨ kd = 3 ∨ kd = 4 ∨ kd = 5 ∨ kd = 6 ∨ kd = 7 ∨ kd = 8 ∨ kd = 9 ∨ kd = 10 ∨ kd = 11 ∨ kd = 12 ∨ kd = 13 ∨ kd = 14 ∨ kd = 15 ∨ kd = 16 ∨ kd = 17 ∨ kd = 18 ∨ kd = 19 ∨ kd = 20 ∨ kd = 21 ∨ kd = 22 ∨ kd = 23 ∨ kd = 24 ∨ kd = 25 ∨ kd = 26 ∨ kd = 27 := by omega
  rcases hc with rfl | rfl | rfl | rfl | rfl | rfl | rfl | rfl | rfl | rfl | rfl | rfl | rfl | rfl | rfl | rfl | rfl | rfl | rfl | rfl | rfl | rfl | rfl | rfl | rfl | rfl | rfl
  all_goals (show _ = _; kernel_rfl)
structure Ch (W0 p : World) (n : Nat) (D : DataW Value) : Prop where
  own : p.ownsMap Tryz.prog 3 RV W0.heap.size n D
  below : Below W0.heap.size W0 p
  lt : W0.heap.size < p.heap.size
theorem Ch.start (W0 : World) : Ch W0 (W0.alloc (.map #[] 0)) 0 (.map []) := ⟨World.ownsMap_made W0 Tryz.prog 3 RV, (Below.refl _ _).alloc (Nat.le_refl _) _, by simp⟩
theorem Ch.more {W0 p : World} {n : Nat} {D : DataW Value} (h : Ch W0 p n D) (hn : n < 100) (cs : Array Value) (k : Int) (m : Nat) (hw : (Lit.int IntKind.i64 k).wf = true) :
    ∃ W', (Instr.mapUpdate 75 (.map (some W0.heap.size)) (.int .i64 k) (.slice (some ⟨p.heap.size, 0, none⟩) m m)).run Tryz.prog (p.alloc (.cells cs 9)) = .ok () W' ∧ Ch W0 W' (n + 1) (D.put (.int .i64 k) (.held (.slice (some ⟨p.heap.size, 0, none⟩) m m))) ∧ Blk W' p.heap.size 9 cs ∧ ∀ g cs', W0.heap.size < g → Blk p g 9 cs' → Blk W' g 9 cs' := by
  obtain ⟨W', r, o, g, k⟩ := map_more h.own hn cs k m hw
  have hs := g.size
  have hlt := h.lt
  refine ⟨W', r, ⟨o, (h.below.alloc h.below.size _).grown g (h.below.alloc h.below.size _).size (fun x hx => by cases hx; exact Nat.le_refl _), by simp at hs; omega⟩, k, fun g' cs' hg' hk => ?_⟩
  exact (g.block g' (by have := Blk.lt hk; simp; omega) (by simp; omega)).trans (hk.alloc _)
theorem want_of {W : World} {g n nf : Nat} {cs : Array Value} (h : Blk W g 9 cs) (hall : ∀ i, i < n → ∃ s : ByteArray, cs[i]? = some (.string s)) (hnf : nf ≤ n) : Want W nf (.slice (some ⟨g, 0, none⟩) n n) :=
  .inr ⟨g, n, rfl, hnf, Blk.lt h, fun i hi => by
    obtain ⟨s, hs⟩ := hall i hi
    exact ⟨s, (h.cell i).trans hs⟩⟩
theorem all_one (s : ByteArray) : ∀ i, i < 1 → ∃ u : ByteArray, (#[Value.string s])[i]? = some (.string u) := fun i hi => by
  obtain rfl : i = 0 := by omega
  exact ⟨s, rfl⟩
theorem all_two (s u : ByteArray) : ∀ i, i < 2 → ∃ x : ByteArray, (#[Value.string s, Value.string u])[i]? = some (.string x) := fun i hi => by
  match i, hi with
  | 0, _ => exact ⟨s, rfl⟩
  | 1, _ => exact ⟨u, rfl⟩
set_option maxRecDepth 100000 in
theorem nm_made (W0 : World) (kd : Int) (nf : Nat) (h1 : 1 ≤ kd) (h2 : kd ≤ 27) (hm : (nf : Int) ≤ mostP kd) :
    ∃ w1 w2 w3 w4 w5 w6 w7 w8 : World, ∃ x : Value,
    (Instr.mapUpdate 75 (.map (some W0.heap.size)) (.int .i64 12) (.slice (some ⟨(W0.alloc (.map #[] 0)).heap.size, 0, none⟩) 1 1)).run Tryz.prog ((W0.alloc (.map #[] 0)).alloc (.cells #[.string ⟨#[105, 116, 101, 109]⟩] 9)) = .ok () w1 ∧
    (Instr.mapUpdate 75 (.map (some W0.heap.size)) (.int .i64 21) (.slice (some ⟨w1.heap.size, 0, none⟩) 1 1)).run Tryz.prog (w1.alloc (.cells #[.string ⟨#[105, 116, 101, 109]⟩] 9)) = .ok () w2 ∧
    (Instr.mapUpdate 75 (.map (some W0.heap.size)) (.int .i64 25) (.slice (some ⟨w2.heap.size, 0, none⟩) 1 1)).run Tryz.prog (w2.alloc (.cells #[.string ⟨#[105, 116, 101, 109]⟩] 9)) = .ok () w3 ∧
    (Instr.mapUpdate 75 (.map (some W0.heap.size)) (.int .i64 26) (.slice (some ⟨w3.heap.size, 0, none⟩) 1 1)).run Tryz.prog (w3.alloc (.cells #[.string ⟨#[105, 116, 101, 109]⟩] 9)) = .ok () w4 ∧
    (Instr.mapUpdate 75 (.map (some W0.heap.size)) (.int .i64 16) (.slice (some ⟨w4.heap.size, 0, none⟩) 1 1)).run Tryz.prog (w4.alloc (.cells #[.string ⟨#[105, 116, 101, 109]⟩] 9)) = .ok () w5 ∧
    (Instr.mapUpdate 75 (.map (some W0.heap.size)) (.int .i64 17) (.slice (some ⟨w5.heap.size, 0, none⟩) 1 1)).run Tryz.prog (w5.alloc (.cells #[.string ⟨#[101, 110, 116, 114, 105, 101, 115]⟩] 9)) = .ok () w6 ∧
    (Instr.mapUpdate 75 (.map (some W0.heap.size)) (.int .i64 22) (.slice (some ⟨w6.heap.size, 0, none⟩) 2 2)).run Tryz.prog (w6.alloc (.cells #[.string ⟨#[114, 117, 110, 95, 101, 110, 100, 115]⟩, .string ⟨#[118, 97, 108, 117, 101, 115]⟩] 9)) = .ok () w7 ∧
    (Instr.mapUpdate 75 (.map (some W0.heap.size)) (.int .i64 27) (.slice (some ⟨w7.heap.size, 0, none⟩) 2 2)).run Tryz.prog (w7.alloc (.cells #[.string ⟨#[]⟩, .string ⟨#[]⟩] 9)) = .ok () w8 ∧
    (Instr.lookup 75 (.map (some W0.heap.size)) (.int .i64 kd) false).run Tryz.prog w8 = .ok x w8 ∧ Want w8 nf x ∧ Below W0.heap.size W0 w8 := by
  have c0 := Ch.start W0
  obtain ⟨w1, r1, c1, k1, p1⟩ := c0.more (by omega) #[.string ⟨#[105, 116, 101, 109]⟩] 12 1 (by decide)
  obtain ⟨w2, r2, c2, k2, p2⟩ := c1.more (by omega) #[.string ⟨#[105, 116, 101, 109]⟩] 21 1 (by decide)
  obtain ⟨w3, r3, c3, k3, p3⟩ := c2.more (by omega) #[.string ⟨#[105, 116, 101, 109]⟩] 25 1 (by decide)
  obtain ⟨w4, r4, c4, k4, p4⟩ := c3.more (by omega) #[.string ⟨#[105, 116, 101, 109]⟩] 26 1 (by decide)
  obtain ⟨w5, r5, c5, k5, p5⟩ := c4.more (by omega) #[.string ⟨#[105, 116, 101, 109]⟩] 16 1 (by decide)
  obtain ⟨w6, r6, c6, k6, p6⟩ := c5.more (by omega) #[.string ⟨#[101, 110, 116, 114, 105, 101, 115]⟩] 17 1 (by decide)
  obtain ⟨w7, r7, c7, k7, p7⟩ := c6.more (by omega) #[.string ⟨#[114, 117, 110, 95, 101, 110, 100, 115]⟩, .string ⟨#[118, 97, 108, 117, 101, 115]⟩] 22 2 (by decide)
  obtain ⟨w8, r8, c8, k8, p8⟩ := c7.more (by omega) #[.string ⟨#[]⟩, .string ⟨#[]⟩] 27 2 (by decide)
  obtain ⟨x, hx, hat⟩ := map_look c8.own kd (by simp [Lit.wf, IntKind.min, IntKind.max, IntKind.signed, IntKind.bits]; omega)
  have hx2 := (nm_at (fun i => [(W0.alloc (.map #[] 0)).heap.size, w1.heap.size, w2.heap.size, w3.heap.size, w4.heap.size, w5.heap.size, w6.heap.size, w7.heap.size].getD i 0) kd h1 h2).symm.trans hat
  injection hx2 with hx2
  subst hx2
  refine ⟨w1, w2, w3, w4, w5, w6, w7, w8, _, r1, r2, r3, r4, r5, r6, r7, r8, hx, ?_, c8.below⟩
  have b0 := p8 _ _ c0.lt (p7 _ _ c0.lt (p6 _ _ c0.lt (p5 _ _ c0.lt (p4 _ _ c0.lt (p3 _ _ c0.lt (p2 _ _ c0.lt (k1)))))))
  have b1 := p8 _ _ c1.lt (p7 _ _ c1.lt (p6 _ _ c1.lt (p5 _ _ c1.lt (p4 _ _ c1.lt (p3 _ _ c1.lt (k2))))))
  have b2 := p8 _ _ c2.lt (p7 _ _ c2.lt (p6 _ _ c2.lt (p5 _ _ c2.lt (p4 _ _ c2.lt (k3)))))
  have b3 := p8 _ _ c3.lt (p7 _ _ c3.lt (p6 _ _ c3.lt (p5 _ _ c3.lt (k4))))
  have b4 := p8 _ _ c4.lt (p7 _ _ c4.lt (p6 _ _ c4.lt (k5)))
  have b5 := p8 _ _ c5.lt (p7 _ _ c5.lt (k6))
  have b6 := p8 _ _ c6.lt (k7)
  have b7 := k8
  unfold nmWhich
  split
  · rename_i e; subst e; exact want_of b0 (all_one _) (by have e2 : mostP 12 = 1 := (by decide); omega)
  split
  · rename_i e; subst e; exact want_of b1 (all_one _) (by have e2 : mostP 21 = 1 := (by decide); omega)
  split
  · rename_i e; subst e; exact want_of b2 (all_one _) (by have e2 : mostP 25 = 1 := (by decide); omega)
  split
  · rename_i e; subst e; exact want_of b3 (all_one _) (by have e2 : mostP 26 = 1 := (by decide); omega)
  split
  · rename_i e; subst e; exact want_of b4 (all_one _) (by have e2 : mostP 16 = 1 := (by decide); omega)
  split
  · rename_i e; subst e; exact want_of b5 (all_one _) (by have e2 : mostP 17 = 1 := (by decide); omega)
  split
  · rename_i e; subst e; exact want_of b6 (all_two _ _) (by have e2 : mostP 22 = 2 := (by decide); omega)
  split
  · rename_i e; subst e; exact want_of b7 (all_two _ _) (by have e2 : mostP 27 = 2 := (by decide); omega)
  exact .inl rfl
end Go.Proofs.YtconkcjcjdmidaaGreatDoor
