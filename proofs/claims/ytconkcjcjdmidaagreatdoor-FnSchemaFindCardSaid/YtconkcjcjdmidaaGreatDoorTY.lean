/- A schema is made. (YtconkcjcjdmidaaGreatDoor) -/
import Derived.Test.YtconkcjcjdmidaaGreatDoorTX
import Derived.Test.YtconkcjcjdmidaaGreatDoorTP
set_option linter.unusedVariables false
set_option linter.unusedSimpArgs false
namespace Go.Proofs.YtconkcjcjdmidaaGreatDoor
open Go.RowKit Go.ChangeShapes Go.WideShapes Go.ChangeAt Go Go.Maps
attribute [local go_sem ↓] Go.wp_at_zero Go.wp_at_succ
/-- a slice of fields of arrow's. -/
def ArV (w : World) (v : Value) (l : List Ar) : Prop := (l = [] ∧ ∃ A c, v = .slice A 0 c) ∨ ∃ b c, v = .slice (some ⟨b, 0, none⟩) l.length c ∧ l.length ≤ c ∧ ArL w b l
theorem ArV.below {w W : World} {v : Value} {l : List Ar} (h : ArV w v l) (hb : Below w.heap.size w W) : ArV W v l := by
  rcases h with h | ⟨b, c, h1, h2, h3⟩
  · exact .inl h
  · exact .inr ⟨b, c, h1, h2, h3.below hb⟩
theorem rows_cell {w : World} {b : Nat} {l : List Ar} (h : ArL w b l) (j : Nat) (v : Value) (hv : (rowsA l)[j]? = some v) : w.cell? ⟨b, j, none⟩ = some v := by
  have hj : j < l.length * 5 := by rw [← rowsA_len]; exact (List.getElem?_eq_some_iff.1 hv).1
  obtain ⟨⟨h0, h1, h2, h3, h4⟩, _⟩ := h.2 (j / 5) (by omega)
  have hi : j % 5 < 5 := Nat.mod_lt _ (by omega)
  have e : j = j / 5 * 5 + j % 5 := by omega
  rw [e, rowsA_get l (j / 5) (j % 5) (by omega) hi] at hv
  rw [e]
  generalize j / 5 = k at *
  generalize j % 5 = i at *
  match i, hi with
  | 0, _ => rw [← hv]; exact h0
  | 1, _ => rw [← hv]; exact h1
  | 2, _ => rw [← hv]; exact h2
  | 3, _ => rw [← hv]; exact h3
  | 4, _ => rw [← hv]; exact h4
theorem arl_of_rows {W : World} {g : Nat} {l : List Ar} (hB : Blk W g 67 (rowsA l).toArray) (hs : ∀ k, k < l.length → (l.getD k dA).nm.size ≤ maxLen) : ArL W g l := by
  have hc : ∀ k i, k < l.length → i < 5 → W.cell? ⟨g, k * 5 + i, none⟩ = (l.getD k dA).cells[i]? := by
    intro k i hk hi
    rw [hB.cell, ← rowsA_get l k i hk hi]
    simp
  refine ⟨hB.lt, fun k hk => ⟨⟨?_, ?_, ?_, ?_, ?_⟩, hs k hk⟩⟩
  · have := hc k 0 hk (by omega); simpa using this
  · have := hc k 1 hk (by omega); simpa using this
  · have := hc k 2 hk (by omega); simpa using this
  · have := hc k 3 hk (by omega); simpa using this
  · have := hc k 4 hk (by omega); simpa using this
theorem one_rows (l : List Ar) : ∀ v ∈ rowsA l, v.oneCell' = true := by
  intro v hv
  obtain ⟨r, _, hr⟩ := List.mem_flatMap.1 hv
  simp [Ar.cells] at hr
  rcases hr with rfl | rfl | rfl | rfl | rfl <;> rfl
theorem copy_fields (W : World) (g : Nat) (v : Value) (l : List Ar) (cur : Array Value) (h : ArV W v l) (hk : Blk W g 67 cur) (hs : cur.size = l.length * 5) :
    ∃ W', (Builtin.copy_ #[52, 52] 3 #[.slice (some ⟨g, 0, none⟩) l.length l.length, v]).run Tryz.prog W = .ok (goInt l.length) W' ∧ ArL W' g l ∧ Mod [g] W W' := by
  obtain ⟨i0, hi, hz0, hz1, hz2⟩ := info_parts info_af
  have hu : Tryz.prog.underlying 52 = some (.slice 67) := Tryz.underlying52
  rcases h with ⟨rfl, A, c, rfl⟩ | ⟨b, c, rfl, hc, ha⟩
  · refine ⟨W.setRow g cur, ?_, ⟨Blk.lt (setRow_heap W g cur cur 67 (0, 0) hk), fun k hk => absurd hk (by simp)⟩, ⟨rfl, rfl, rfl, by simp, fun k hk hn => setRow_other W g k _ (by simpa using hn)⟩⟩
    have hst := run_storeCells_at Tryz.prog g 0 67 [] 0 cur W hk (by simp) (by simp)
    simp at hst
    have hld : ∀ a : Addr, (loadCells a 0).run Tryz.prog W = .ok #[] W := fun a => by have := run_loadCells_list (P := Tryz.prog) W a [] (by simp); simpa using this
    cases A <;> simp [Builtin.copy_, run_underlying hu, Builtin.lenOf, Builtin.firstCells, sizeOf, typeInfo, hi, goInt, hst, hld]
  · have hr := run_copy_wide (P := Tryz.prog) W 52 52 3 67 g l.length l.length ⟨b, 0, none⟩ l.length c 5 cur 67 (rowsA l) hu (by rw [hi]; simp [hz1]) hk (by rw [rowsA_len]; simp) (fun j v hv => by
      rw [add_nat, Nat.zero_add]; exact rows_cell ha j v hv) (by rw [rowsA_len]; omega) (one_rows l)
    have e : (rowsA l ++ cur.toList.drop (rowsA l).length).toArray = (rowsA l).toArray := by
      rw [List.drop_of_length_le (by simp [hs, rowsA_len])]; simp
    have e2 : l.length.min l.length = l.length := Nat.min_self _
    rw [e, e2] at hr
    refine ⟨_, hr, arl_of_rows (setRow_heap W g cur (rowsA l).toArray 67 (0, 0) hk) (fun k hk => (ha.2 k hk).2), ⟨rfl, rfl, rfl, by simp, fun k hk hn => setRow_other W g k _ (by simpa using hn)⟩⟩
theorem PSc.of {w W W' : World} {l : List Ar} {e : Ending} (hb : Below w.heap.size w W) (h : PSc W l e W') : PSc w l e W' := by
  obtain ⟨gs, rfl, ⟨b, c, gb, base, D, x, y, h1, h2, h3, h4⟩, h5⟩ := h
  exact ⟨gs, rfl, ⟨b, c, gb, base, D, x, y, h1, h2, h3, Nat.le_trans hb.size h4⟩, below_tr hb h5 hb.size⟩
set_option maxRecDepth 100000 in
set_option maxHeartbeats 4000000 in
theorem newSchemaE_any (w : World) (v : Value) (l : List Ar) (gm B : Nat) (A0 A1 : Option Addr) (n0 n1 c0 c1 : Nat) (lm : List Pr) (hl : l.length ≤ 1000) (hv : ArV w v l) (hm0 : w.cell? ⟨gm, 0, none⟩ = some (.slice A0 n0 c0)) (hm1 : w.cell? ⟨gm, 1, none⟩ = some (.slice A1 n1 c1)) (hmd : Md B w (.agg #[.slice A0 n0 c0, .slice A1 n1 c1]) lm) (hlm : lm.length ≤ 100) :
    Calls Tryz.prog 26 #[v, .pointer (some ⟨gm, 0, none⟩), .int .i16 0] w (PSc w l) := by
  obtain ⟨i0, hi, hz0, hz1, hz2⟩ := info_parts info_af
  have hmk := fun (W : World) => run_make W 52 67 i0 _ Tryz.underlying52 hi hz0 .i64 .i64 (l.length : Int) (l.length : Int) (by omega) (Int.le_refl _) (by rw [hz2]; omega) (by omega)
  simp only [hz1, Int.toNat_natCast] at hmk
  have hcl := hide (mdClone_any w _ lm (.inr ⟨B, hmd⟩) hlm)
  have hlen : ∀ W : World, ∀ ty : TypeId, (Builtin.len_ #[52] ty #[v]).run Tryz.prog W = .ok (.int .i64 (l.length : Int)) W := by
    intro W ty
    have hu : Tryz.prog.underlying 52 = some (.slice 67) := Tryz.underlying52
    rcases hv with ⟨rfl, A, c, rfl⟩ | ⟨b, c, rfl, _, _⟩ <;> simp [Builtin.len_, run_underlying hu, Builtin.lenOf, goInt]
  replace hv := hide hv
  clear hmd hz0 hz1 hz2 hi
  go_enter Tryz.func26, Tryz.ntmps26
  go_wp2_with (first
    | (go_at_call 38; (with_reducible refine (unhide hcl).mono ?_); rintro e w2 ⟨A, A', n, n', c, c', rfl, hb2⟩; obtain ⟨W', hr, ha', hm'⟩ := copy_fields ((w2.alloc (.cells #[.slice A n c, .slice A' n' c'] 49)).alloc (.cells (madeCells #[.string ⟨#[]⟩, .nilIface, .bool false, .slice none 0 0, .slice none 0 0] (l.length * 5)) 67)) (w2.heap.size + 1) v l _ (((unhide hv).below hb2).below (by repeat' (first | (with_reducible exact Below.refl _ _) | (with_reducible refine Below.setCell ?_ ?_ _) | (with_reducible refine bdrewN ?_ _) | (with_reducible refine bdrew ?_) | (with_reducible refine Below.alloc ?_ ?_ _) | exact Nat.le_refl _ | (simp; done)))) (Blk.new _ _ (by simp)) (size_madeCells _ _); have hk9 : Blk W' w2.heap.size 49 #[.slice A n c, .slice A' n' c'] := Blk.mod ((Blk.new _ _ rfl).alloc _) hm' (by simp); have hbw : Below w2.heap.size w2 W' := below_mod (w0 := w2) (by repeat' (first | (with_reducible exact Below.refl _ _) | (with_reducible refine Below.setCell ?_ ?_ _) | (with_reducible refine bdrewN ?_ _) | (with_reducible refine bdrew ?_) | (with_reducible refine Below.alloc ?_ ?_ _) | exact Nat.le_refl _ | (simp; done))) hm' (by simp); have hbw2 := below_tr hb2 hbw hb2.size; have k0 : W'.cell? ⟨w2.heap.size, 0, none⟩ = some (.slice A n c) := (by have := hk9.cell 0; simpa using this); have k1 : W'.cell? ⟨w2.heap.size, 1, none⟩ = some (.slice A' n' c') := (by have := hk9.cell 1; simpa using this); have hns := hide (newSchema_any W' (w2.heap.size + 1) l.length l w2.heap.size _ _ hl ha' k0 k1 hk9.lt ⟨⟨A, n, c, rfl⟩, A', n', c', rfl⟩); replace hbw2 := hide hbw2; clear ha' hm' hk9 hbw hb2 k0 k1)
    | (go_at_call 39; (with_reducible refine (unhide hns).mono ?_); rintro e w9 hp; obtain ⟨gs, rfl, hsc, hbf⟩ := PSc.of (unhide hbw2) hp; clear hp; replace hsc := hide hsc; replace hbf := hide hbf)
    | fail)
  go_ret
  exact ⟨_, rfl, unhide hsc, unhide hbf⟩
theorem newSchema0_any (w : World) (v : Value) (l : List Ar) (gm B : Nat) (A0 A1 : Option Addr) (n0 n1 c0 c1 : Nat) (lm : List Pr) (hl : l.length ≤ 1000) (hv : ArV w v l) (hm0 : w.cell? ⟨gm, 0, none⟩ = some (.slice A0 n0 c0)) (hm1 : w.cell? ⟨gm, 1, none⟩ = some (.slice A1 n1 c1)) (hmd : Md B w (.agg #[.slice A0 n0 c0, .slice A1 n1 c1]) lm) (hlm : lm.length ≤ 100) :
    Calls Tryz.prog 19 #[v, .pointer (some ⟨gm, 0, none⟩)] w (PSc w l) := by
  have hc := hide (newSchemaE_any w v l gm B A0 A1 n0 n1 c0 c1 lm hl hv hm0 hm1 hmd hlm)
  clear hv hm0 hm1 hmd
  go_enter Tryz.func19, Tryz.ntmps19
  go_wp2_with (first | (go_at_call 26; (with_reducible refine (unhide hc).mono ?_); rintro e w2 ⟨gs, rfl, hsc, hbf⟩; replace hsc := hide hsc; replace hbf := hide hbf) | fail)
  go_ret
  exact ⟨_, rfl, unhide hsc, unhide hbf⟩
end Go.Proofs.YtconkcjcjdmidaaGreatDoor
