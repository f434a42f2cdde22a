/- The thin package's SchemaFind. (YtconkcjcjdmidaaGreatDoor) -/
import Derived.Test.YtconkcjcjdmidaaGreatDoorZA
set_option linter.unusedVariables false
set_option linter.unusedSimpArgs false
namespace Go.Proofs.YtconkcjcjdmidaaGreatDoor
open Go.RowKit Go.ChangeShapes Go.WideShapes Go.ChangeAt Go Go.Maps
attribute [local go_sem ↓] Go.wp_at_zero Go.wp_at_succ
/-- the places of a name among the fields that came in. -/
def plcF (w0 : World) (a : Option Addr) (k : Nat) (s : ByteArray) : List Int := ((List.range k).filter fun i => decide ((fAt w0 a i).nm.data.toList = s.data.toList)).map fun (i : Nat) => (i : Int)
theorem plc_like {w0 : World} {a : Option Addr} {l : List Ar} {n : Nat} (hl : l.length = n) (h : Like w0 a l) (s : ByteArray) : plc l n s = plcF w0 a n s := by
  unfold plc plcF
  congr 1
  refine List.filter_congr (fun i hi => ?_)
  have hi' : i < l.length := by rw [hl]; simpa using hi
  rw [(h i hi').1]
theorem idle10 (p q r s : Addr) (w : World) : CallsD Tryz.prog 10 #[.pointer (some p), .pointer (some q), .pointer (some r), .pointer (some s)] .returning w fun e u' w' => e = .returned (.tuple #[]) ∧ u' = .returning ∧ w = w' := by
  refine callsD_of_wpS Tryz.func10 rfl fun c₀ cs hu => ?_
  apply wpS_seq
  apply wpS_region
  simp [wpOpsS, go_sem, recoverD, hu, Tryz.ntmps10, Exit.thenS]
  refine wpS_cond (t := false) (by simp [Act.eval, Array.replicate]) ?_
  simp only [Bool.false_eq_true, if_false]
  refine wpS_of_wp (wp_skip ?_)
  cases c₀
  simp_all [bodyPostS, results, Tryz.results10]
theorem ReadZ.form {W : World} {v : Value} {zs : List Int} (h : ReadZ W v zs) : ∃ A n c, v = .slice A n c := by
  rcases h with ⟨rfl, _⟩ | ⟨g, c, rfl, _⟩
  · exact ⟨_, _, _, rfl⟩
  · exact ⟨_, _, _, rfl⟩
theorem ReadZ.set {W : World} {v : Value} {zs : List Int} (h : ReadZ W v zs) (p : Addr) (x : Value) (hne : ∀ g, v.ownBlock = some g → g ≠ p.block) : ReadZ (W.setCell p x) v zs := by
  rcases h with h | ⟨g, c, rfl, h2, h3, h4, h5⟩
  · exact .inl h
  · have hn := hne g rfl
    exact .inr ⟨g, c, rfl, h2, by simpa using h3, h4, fun j hj => (World.cell?_of_block (heap_setCell_other _ _ _ _ (fun e => hn e))).trans (h5 j hj)⟩
theorem Sc.below {B gs : Nat} {W W' : World} {l : List Ar} (h : Sc B W gs l) (hb : Below W.heap.size W W') : Sc B W' gs l := by
  obtain ⟨b, c, gb, base, D, x, y, h1, h2, h3, h4⟩ := h
  exact ⟨b, c, gb, base, D, x, y, h1.below hb, groups_below h2 hb, h3, h4⟩
def PFind (w : World) (zs : List Int) (n : Nat) (e : Ending) (w' : World) : Prop := ∃ v, e = .returned (.tuple #[v, .bool (decide (0 < zs.length)), .int .i64 (n : Int), .bool true]) ∧ ReadZ w' v zs ∧ Below w.heap.size w w'
theorem four_set {w W : World} {a b c d : Value} (k0 : Blk W (w.heap.size + 1) 28 #[a]) (k1 : Blk W (w.heap.size + 1 + 1) 4 #[b]) (k2 : Blk W (w.heap.size + 1 + 1 + 1) 3 #[c]) (k3 : Blk W (w.heap.size + 1 + 1 + 1 + 1) 4 #[d]) (x y z u : Value) :
    ∀ V, V = ((((W.setCell ⟨w.heap.size + 1, 0, none⟩ x).setCell ⟨w.heap.size + 1 + 1, 0, none⟩ y).setCell ⟨w.heap.size + 1 + 1 + 1, 0, none⟩ z).setCell ⟨w.heap.size + 1 + 1 + 1 + 1, 0, none⟩ u) →
    V.cell? ⟨w.heap.size + 1, 0, none⟩ = some x ∧ V.cell? ⟨w.heap.size + 1 + 1, 0, none⟩ = some y ∧ V.cell? ⟨w.heap.size + 1 + 1 + 1, 0, none⟩ = some z ∧ V.cell? ⟨w.heap.size + 1 + 1 + 1 + 1, 0, none⟩ = some u := by
  rintro V rfl
  have h0 := ((((k0.set 0 x).other (a := ⟨w.heap.size + 1 + 1, 0, none⟩) (by simp) y).other (a := ⟨w.heap.size + 1 + 1 + 1, 0, none⟩) (by first | (simp; done) | (simp; omega)) z).other (a := ⟨w.heap.size + 1 + 1 + 1 + 1, 0, none⟩) (by first | (simp; done) | (simp; omega)) u).cell 0
  have h1 := ((((k1.other (a := ⟨w.heap.size + 1, 0, none⟩) (by simp) x).set 0 y).other (a := ⟨w.heap.size + 1 + 1 + 1, 0, none⟩) (by simp) z).other (a := ⟨w.heap.size + 1 + 1 + 1 + 1, 0, none⟩) (by first | (simp; done) | (simp; omega)) u).cell 0
  have h2 := ((((k2.other (a := ⟨w.heap.size + 1, 0, none⟩) (by first | (simp; done) | (simp; omega)) x).other (a := ⟨w.heap.size + 1 + 1, 0, none⟩) (by simp) y).set 0 z).other (a := ⟨w.heap.size + 1 + 1 + 1 + 1, 0, none⟩) (by simp) u).cell 0
  have h3 := ((((k3.other (a := ⟨w.heap.size + 1, 0, none⟩) (by first | (simp; done) | (simp; omega)) x).other (a := ⟨w.heap.size + 1 + 1, 0, none⟩) (by first | (simp; done) | (simp; omega)) y).other (a := ⟨w.heap.size + 1 + 1 + 1, 0, none⟩) (by simp) z).set 0 u).cell 0
  exact ⟨by simpa using h0, by simpa using h1, by simpa using h2, by simpa using h3⟩
set_option maxRecDepth 100000 in
set_option maxHeartbeats 4000000 in
theorem schemaFind_any (w0 w : World) (a : Option Addr) (n c : Nat) (A : Option Addr) (cm : Nat) (lm : List Pr) (hf : FOk w0 a n c) (hm : Ps w (.slice A lm.length cm) lm) (hlm : lm.length ≤ 20) (hb : Below w0.heap.size w0 w) (s : ByteArray) (hs : s.size ≤ maxLen) :
    Calls Tryz.prog 7 #[.agg #[.slice a n c, .slice A lm.length cm], .string s] w (PFind w (plcF w0 a n s) n) := by
  obtain ⟨W1, hW1⟩ : ∃ W1, W1 = ((((w.alloc (.cells #[.slice a n c, .slice A lm.length cm] 25)).alloc (.cells #[.slice none 0 0] 28)).alloc (.cells #[.bool false] 4)).alloc (.cells #[.int .i64 0] 3)).alloc (.cells #[.bool false] 4) := ⟨_, rfl⟩
  have hb1 : Below w.heap.size w W1 := by rw [hW1]; exact (by repeat' (first | (with_reducible exact Below.refl _ _) | (with_reducible refine Below.setCell ?_ ?_ _) | (with_reducible refine bdrewN ?_ _) | (with_reducible refine bdrew ?_) | (with_reducible refine Below.alloc ?_ ?_ _) | exact Nat.le_refl _ | (simp; done) | (simp; omega)))
  have kS : Blk W1 w.heap.size 25 #[.slice a n c, .slice A lm.length cm] := by rw [hW1]; exact ((((Blk.new _ _ rfl).alloc _).alloc _).alloc _).alloc _
  have k0 : Blk W1 (w.heap.size + 1) 28 #[.slice none 0 0] := by rw [hW1]; exact (((Blk.new _ _ (by simp)).alloc _).alloc _).alloc _
  have k1 : Blk W1 (w.heap.size + 1 + 1) 4 #[.bool false] := by rw [hW1]; exact ((Blk.new _ _ (by simp)).alloc _).alloc _
  have k2 : Blk W1 (w.heap.size + 1 + 1 + 1) 3 #[.int .i64 0] := by rw [hW1]; exact (Blk.new _ _ (by simp)).alloc _
  have k3 : Blk W1 (w.heap.size + 1 + 1 + 1 + 1) 4 #[.bool false] := by rw [hW1]; exact Blk.new _ _ (by simp)
  have hsz : W1.heap.size = w.heap.size + 1 + 1 + 1 + 1 + 1 := by rw [hW1]; simp
  have hA := hide (arrowSchema_any w0 W1 a n c A cm lm hf (hm.below hb1) hlm (below_tr hb hb1 hb.size))
  have h20 := hf.few
  have c0 := kS.cell 0
  have c1 := kS.cell 1
  simp at c0 c1
  have hK := hide (And.intro k0 (And.intro k1 (And.intro k2 (And.intro k3 hb1))))
  clear hm hf hb k0 k1 k2 k3 kS hb1
  replace hsz := hide hsz
  obtain ⟨zs, hzs⟩ : ∃ zs, zs = plcF w0 a n s := ⟨_, rfl⟩
  obtain ⟨bz, hbz⟩ : ∃ bz, bz = decide (0 < zs.length) := ⟨_, rfl⟩
  rw [← hzs]
  replace hzs := hide hzs
  replace hbz := hide hbz
  go_enter_defers Tryz.func7, Tryz.ntmps7
  go_upto_region 2 with (fail)
  rw [← hW1]
  clear hW1
  go_wp2_with (first
    | (go_at_call 11; (with_reducible refine (unhide hA).mono ?_); rintro e w2 ⟨l, hl, hlk, gs, rfl, hsc, hb2⟩; have hpl := plc_like hl hlk s; have hidx := hide (show Calls Tryz.prog 12 #[.pointer (some ⟨gs, 0, none⟩), .string s] w2 (PInts w2 zs) from (by have := fieldIndices_any w2 _ gs l hsc (by omega) s hs; rw [hl, hpl, ← unhide hzs] at this; exact this)); have hhas := hide (fun (W : World) (hW : Below w2.heap.size w2 W) => (show Calls Tryz.prog 13 #[.pointer (some ⟨gs, 0, none⟩), .string s] W (PHas W bz) from (by have := hasField_any W _ gs l (hsc.below hW) (by omega) s hs; rw [hl, hpl, ← unhide hzs, ← unhide hbz] at this; exact this))); have hnum := hide (fun (W : World) (hW : Below w2.heap.size w2 W) => (show Calls Tryz.prog 14 #[.pointer (some ⟨gs, 0, none⟩)] W (PNum W n) from (by have := numFields_any W _ gs l (hsc.below hW); rw [hl] at this; exact this))); replace hb2 := hide hb2; clear hsc hl hlk hpl)
    | (go_at_call 12; (with_reducible refine (unhide hidx).mono ?_); rintro e w3 ⟨v, rfl, hz3, hg3, hb3⟩; obtain ⟨Av, nv, cv, rfl⟩ := hz3.form; replace hz3 := hide hz3; replace hg3 := hide hg3; have hb23 := hide (below_tr (unhide hb2) hb3 (unhide hb2).size); replace hb3 := hide hb3; obtain ⟨q0, q1, q2, q3⟩ := (show Blk w3 _ 28 _ ∧ Blk w3 _ 4 _ ∧ Blk w3 _ 3 _ ∧ Blk w3 _ 4 _ from ⟨(unhide hK).1.below (unhide hb23), (unhide hK).2.1.below (unhide hb23), (unhide hK).2.2.1.below (unhide hb23), (unhide hK).2.2.2.1.below (unhide hb23)⟩); have p0 := q0.cell 0; have p1 := q1.cell 0; have p2 := q2.cell 0; have p3 := q3.cell 0; have f0 := q0.frozen 0; have f1 := q1.frozen 0; have f2 := q2.frozen 0; have f3 := q3.frozen 0; simp at p0 p1 p2 p3; have hfour := hide (four_set q0 q1 q2 q3); clear q0 q1 q2 q3)
    | (go_at_call 13; (with_reducible refine (unhide hhas _ (unhide hb3)).mono ?_); rintro e w4 ⟨rfl, rfl⟩)
    | (go_at_call 14; (with_reducible refine (unhide hnum _ (unhide hb3)).mono ?_); rintro e w5 ⟨rfl, rfl⟩)
    | fail)
  have hR := hide (show PFind w zs n (.returned (.tuple #[.slice Av nv cv, .bool bz, .int .i64 (n : Int), .bool true])) ((((w3.setCell ⟨w.heap.size + 1, 0, none⟩ (.slice Av nv cv)).setCell ⟨w.heap.size + 1 + 1, 0, none⟩ (.bool bz)).setCell ⟨w.heap.size + 1 + 1 + 1, 0, none⟩ (.int .i64 (n : Int))).setCell ⟨w.heap.size + 1 + 1 + 1 + 1, 0, none⟩ (.bool true)) from by
    have hs2 : W1.heap.size ≤ w2.heap.size := (unhide hb2).size
    have hg : ∀ g, (Value.slice Av nv cv).ownBlock = some g → w.heap.size + 1 + 1 + 1 + 1 + 1 ≤ g := fun g h => by have := (unhide hg3) g h; have := unhide hsz; omega
    refine ⟨_, by rw [unhide hbz], (((((unhide hz3).set _ _ ?_).set _ _ ?_).set _ _ ?_).set _ _ ?_), (((((below_tr (unhide hK).2.2.2.2 (unhide hb23) (unhide hK).2.2.2.2.size).setCell (by simp) _).setCell (by simp; omega) _).setCell (by simp; omega) _).setCell (by simp; omega) _)⟩
    all_goals (intro g h; have := hg g h; simp; omega))
  clear hA hK hidx hhas hnum hz3 hg3 hb3 hb23 hb2 p0 p1 p2 p3 f0 f1 f2 f3
  refine leaves_cons (f := 10) (args := #[.pointer (some ⟨w.heap.size + 1, 0, none⟩), .pointer (some ⟨w.heap.size + 1 + 1, 0, none⟩), .pointer (some ⟨w.heap.size + 1 + 1 + 1, 0, none⟩), .pointer (some ⟨w.heap.size + 1 + 1 + 1 + 1, 0, none⟩)]) (by simp) (by simp [go_sem]) ?_
  refine (idle10 ⟨w.heap.size + 1, 0, none⟩ ⟨w.heap.size + 1 + 1, 0, none⟩ ⟨w.heap.size + 1 + 1 + 1, 0, none⟩ ⟨w.heap.size + 1 + 1 + 1 + 1, 0, none⟩ _).mono ?_
  rintro e u' w'' ⟨rfl, rfl, rfl⟩
  refine ⟨.tuple #[.slice Av nv cv, .bool bz, .int .i64 (n : Int), .bool true], ?_, unhide hR⟩
  obtain ⟨z1, z2, z3, z4⟩ := (unhide hfour) (.slice Av nv cv) (.bool bz) (.int .i64 (n : Int)) (.bool true) _ rfl
  simp [settle, results, Tryz.results7, go_sem, z1, z2, z3, z4]
end Go.Proofs.YtconkcjcjdmidaaGreatDoor
