/- A schema of arrow's; what it finds. (YtconkcjcjdmidaaGreatDoor) -/
import Derived.Test.YtconkcjcjdmidaaGreatDoorTY
import Derived.Test.YtconkcjcjdmidaaGreatDoorShelf
set_option linter.unusedVariables false
set_option linter.unusedSimpArgs false
namespace Go.Proofs.YtconkcjcjdmidaaGreatDoor
open Go.RowKit Go.ChangeShapes Go.WideShapes Go.ChangeAt Go Go.Maps
attribute [local go_sem ↓] Go.wp_at_zero Go.wp_at_succ
def PSch (w0 : World) (a : Option Addr) (n : Nat) (w : World) (e : Ending) (w' : World) : Prop := ∃ l, l.length = n ∧ Like w0 a l ∧ PSc w l e w'
/-- the fields of a schema that is asked. -/
structure FOk (w0 : World) (a : Option Addr) (n c : Nat) : Prop where
  fs : Fs w0 a n c
  few : n ≤ 20
  ok : ∀ k, k < n → Ok w0 4 (fAt w0 a k).ty ∧ (fAt w0 a k).nm' = 0 ∧ Nm w0 4 (fAt w0 a k).ty ∧ ∀ m, TyAt w0 m (fAt w0 a k).ty
set_option maxRecDepth 100000 in
set_option maxHeartbeats 4000000 in
theorem arrowSchema_any (w0 w : World) (a : Option Addr) (n c : Nat) (A : Option Addr) (cm : Nat) (lm : List Pr) (hf : FOk w0 a n c) (hm : Ps w (.slice A lm.length cm) lm) (hlm : lm.length ≤ 20) (hb : Below w0.heap.size w0 w) :
    Calls Tryz.prog 11 #[.agg #[.slice a n c, .slice A lm.length cm]] w (PSch w0 a n w) := by
  have hb1 : Below w.heap.size w (w.alloc (.cells #[.slice a n c, .slice A lm.length cm] 25)) := (by repeat' (first | (with_reducible exact Below.refl _ _) | (with_reducible refine Below.setCell ?_ ?_ _) | (with_reducible refine bdrewN ?_ _) | (with_reducible refine bdrew ?_) | (with_reducible refine Below.alloc ?_ ?_ _) | exact Nat.le_refl _ | (simp; done)))
  have hS := Blk.new (w := w) (g := w.heap.size) 25 #[.slice a n c, .slice A lm.length cm] rfl
  have hmt := hide (meta_any _ _ lm (hm.below hb1) (by omega))
  have hfl := hide (fun (W : World) (hW : Below w.heap.size w W) => fields_of w0 4 a n c hf.fs (by have := hf.few; omega) hf.ok (arrowType_all w0 4) W (below_tr hb hW hb.size))
  have h20 := hf.few
  have c0 := hS.cell 0
  have c1 := hS.cell 1
  simp at c0 c1
  replace hb1 := hide hb1
  replace hS := hide hS
  clear hm hf hb
  go_enter Tryz.func11, Tryz.ntmps11
  go_wp2_with (first
    | (go_at_call 18; (with_reducible refine (unhide hmt).mono ?_); rintro e w2 ⟨v, rfl, ⟨A1, k1, A2, k2, rfl, hk1, hk2, hr1, hr2⟩, hb2⟩; have hmd := hide (show Md _ w2 _ lm from ⟨A1, k1, A2, k2, rfl, hk1, hk2, hr1, hr2⟩); have hS2 := hide ((unhide hS).below hb2); have d0 := (unhide hS2).cell 0; simp at d0; have hlt2 : w.heap.size < w2.heap.size := Blk.lt (unhide hS2); have hb12 := hide (below_tr (unhide hb1) hb2 (unhide hb1).size); have hK := hide (Blk.new (w := w2) (g := w2.heap.size) 49 #[.slice A1 lm.length k1, .slice A2 lm.length k2] rfl); clear hr1 hr2 hb2 hk1 hk2)
    | (go_at_call 20; (with_reducible refine (unhide hfl _ ((unhide hb12).alloc (unhide hb12).size _)).mono ?_); rintro e w3 ⟨v3, l, rfl, hl, hlk, hb3, hv3⟩; have hav : ArV w3 v3 l := (by rcases hv3 with ⟨h0, A9, c9, rfl⟩ | ⟨b9, c9, rfl, _, h8, h9⟩; exact .inl ⟨List.eq_nil_of_length_eq_zero (by omega), A9, c9, rfl⟩; exact .inr ⟨b9, c9, rfl, h8, h9⟩); have hK3 := (unhide hK).below hb3; have q0 : w3.cell? ⟨w2.heap.size, 0, none⟩ = some (.slice A1 lm.length k1) := (by have := hK3.cell 0; simpa using this); have q1 : w3.cell? ⟨w2.heap.size, 1, none⟩ = some (.slice A2 lm.length k2) := (by have := hK3.cell 1; simpa using this); have hns := hide (newSchema0_any w3 v3 l w2.heap.size _ A1 A2 lm.length lm.length k1 k2 lm (by omega) hav q0 q1 ((unhide hmd).below (below_tr (by repeat' (first | (with_reducible exact Below.refl _ _) | (with_reducible refine Below.setCell ?_ ?_ _) | (with_reducible refine bdrewN ?_ _) | (with_reducible refine bdrew ?_) | (with_reducible refine Below.alloc ?_ ?_ _) | exact Nat.le_refl _ | (simp; done))) hb3 (by simp))) (by omega)); have hb13 := hide (below_tr ((unhide hb12).alloc (unhide hb12).size _) hb3 (Nat.le_trans (unhide hb12).size (by simp))); replace hl := hide hl; replace hlk := hide hlk; clear hv3 hav hK3 q0 q1 hb3)
    | (go_at_call 19; (with_reducible refine (unhide hns).mono ?_); rintro e w9 hp; obtain ⟨gs, rfl, hsc, hbf⟩ := PSc.of (unhide hb13) hp; clear hp; replace hsc := hide hsc; replace hbf := hide hbf)
    | fail)
  go_ret
  exact ⟨l, unhide hl, unhide hlk, gs, rfl, unhide hsc, unhide hbf⟩
/-- a slice reads as numbers. -/
def ReadZ (W : World) (v : Value) (zs : List Int) : Prop := (v = .slice none 0 0 ∧ zs = []) ∨ ∃ g c, v = .slice (some ⟨g, 0, none⟩) zs.length c ∧ zs.length ≤ c ∧ g < W.heap.size ∧ 0 < zs.length ∧ ∀ j, j < zs.length → W.cell? ⟨g, j, none⟩ = some (.int .i64 (zs.getD j 0))
theorem ReadZ.below {w W : World} {v : Value} {zs : List Int} (h : ReadZ w v zs) (hb : Below w.heap.size w W) : ReadZ W v zs := by
  rcases h with h | ⟨g, c, h1, h2, h3, h4, h5⟩
  · exact .inl h
  · exact .inr ⟨g, c, h1, h2, Nat.lt_of_lt_of_le h3 hb.size, h4, fun j hj => (hb.cell h3).trans (h5 j hj)⟩
theorem readZ_own {W : World} {base n : Nat} {v : Value} {zs : List Int} (h : W.ownsRow base 3 1 v n (zs.map (Value.int .i64))) (hn : zs.length = n) (h0 : 0 < n) : ReadZ W v zs := by
  subst hn
  rcases h.2 with ⟨_, h9⟩ | ⟨g, cap, cur, rfl, hb, hh, hn1, hcap, hcs, ht⟩
  · omega
  · refine .inr ⟨g, cap, rfl, hn1, (Array.getElem?_eq_some_iff.1 hh).1, h0, fun j hj => ?_⟩
    rw [cell_of_row W g _ cur 3 (0, 0) hh]
    have h1 : (cur.toList.take (zs.length * 1))[j]? = (zs.map (Value.int .i64))[j]? := by rw [ht]
    rw [List.getElem?_take_of_lt (by omega), Array.getElem?_toList] at h1
    rw [h1]
    simp [hj, List.getD_eq_getElem?_getD]
/-- what a schema finds for a name. -/
theorem sc_look {B gs : Nat} {W : World} {l : List Ar} (h : Sc B W gs l) (hl : l.length ≤ 20) (s : ByteArray) (hs : s.size ≤ maxLen) :
    ∃ gb v n, W.cell? ⟨gs, 1, none⟩ = some (.map (some gb)) ∧ (Instr.lookup 56 (.map (some gb)) (.string s) false).run Tryz.prog W = .ok v W ∧ ReadZ W v (plc l l.length s) ∧ (∃ A c, v = .slice A n c) ∧ n = (plc l l.length s).length := by
  obtain ⟨b, c, gb, base, D, x, y, h1, h2, h3, h4⟩ := h
  obtain ⟨v, zs, ok, look, hat, hoi, hzl, _, _⟩ := groups_look false h2 (Maps.string_keyed Tryz.underlying9) Tryz.underlying56 (fun W => by kernel_rfl) (by unfold maxLen; omega) (Go.WideMaps.keyOf_string_mk Tryz.underlying9 hs)
  have hz := idx_zs hoi ((h3.2 s).symm.trans hat)
  have he := (h3.2 s).symm.trans hat
  rw [← hz] at he ⊢
  refine ⟨gb, v, zs.length, by have := h1.cell 1; simpa using this, by simpa using look W rfl, ?_, ?_, rfl⟩
  · rcases Nat.eq_zero_or_pos zs.length with h0 | h0
    · obtain rfl : zs = [] := List.eq_nil_of_length_eq_zero h0
      refine .inl ⟨?_, rfl⟩
      rcases hoi.1.2 with ⟨rfl, _⟩ | ⟨g, cap, cur, rfl, _⟩
      · rfl
      · simp [idxD, rowDatum] at he
    · exact readZ_own hoi.1 rfl h0
  · rcases hoi.1.2 with ⟨rfl, h0⟩ | ⟨g, cap, cur, rfl, _⟩
    · exact ⟨none, 0, by rw [h0]⟩
    · exact ⟨_, cap, rfl⟩
end Go.Proofs.YtconkcjcjdmidaaGreatDoor
