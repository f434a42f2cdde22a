/- Types of arrow that hold others. (YtconkcjcjdmidaaGreatDoor) -/
import Derived.Test.YtconkcjcjdmidaaGreatDoorTM
import Derived.OwnWalk
import Derived.Maps.AppendAt
set_option linter.unusedVariables false
set_option linter.unusedSimpArgs false
namespace Go.Proofs.YtconkcjcjdmidaaGreatDoor
open Go.RowKit Go.ChangeShapes Go.WideShapes Go.ChangeAt Go
/-- what arrowFields leaves of fields, where there are some. -/
def FsP (w0 W : World) (a : Option Addr) (n : Nat) (e : Ending) (w' : World) : Prop :=
  ∃ (l : List Ar) (b c : Nat), e = .returned (.slice (some ⟨b, 0, none⟩) n c) ∧ l.length = n ∧ Like w0 a l ∧ Below W.heap.size W w' ∧ n ≤ c ∧ ArL w' b l
theorem pif_mk {w W : World} (tid : TypeId) (p : Addr) (h : Below w.heap.size w W) : PIf w (.returned (.iface tid (.pointer (some p)))) W := ⟨tid, p, rfl, h⟩
theorem ArL.zero {w : World} {b : Nat} {l : List Ar} (h : ArL w b l) (hl : 0 < l.length) : w.cell? ⟨b, 0, none⟩ = some (.string (l.getD 0 dA).nm) ∧ w.cell? ⟨b, 1, none⟩ = some (.iface (l.getD 0 dA).tid (.pointer (some (l.getD 0 dA).p))) ∧ w.cell? ⟨b, 2, none⟩ = some (.bool (l.getD 0 dA).nl) ∧ w.cell? ⟨b, 3, none⟩ = some (.slice (l.getD 0 dA).A 0 (l.getD 0 dA).c) ∧ w.cell? ⟨b, 4, none⟩ = some (.slice (l.getD 0 dA).A' 0 (l.getD 0 dA).c') := by
  have := (h.2 0 hl).1
  unfold ArC at this
  simpa only [Nat.zero_mul, Nat.zero_add] using this
theorem ArL.one {w : World} {b : Nat} {l : List Ar} (h : ArL w b l) (hl : 1 < l.length) : w.cell? ⟨b, 5, none⟩ = some (.string (l.getD 1 dA).nm) ∧ w.cell? ⟨b, 6, none⟩ = some (.iface (l.getD 1 dA).tid (.pointer (some (l.getD 1 dA).p))) ∧ w.cell? ⟨b, 7, none⟩ = some (.bool (l.getD 1 dA).nl) ∧ w.cell? ⟨b, 8, none⟩ = some (.slice (l.getD 1 dA).A 0 (l.getD 1 dA).c) ∧ w.cell? ⟨b, 9, none⟩ = some (.slice (l.getD 1 dA).A' 0 (l.getD 1 dA).c') := by
  have := (h.2 1 hl).1
  unfold ArC at this
  simpa only [Nat.one_mul, Nat.reduceAdd] using this
theorem NR.start {w W : World} {t : Ty} {b c : Nat} {l : List Ar} (hT : TB W w.heap.size t) (hB : Below w.heap.size w W) (hA : ArL W b l) : NR w t b c l (.int .i64 0) W := ⟨0, rfl, Nat.zero_le _, hT, hB, hA⟩
theorem NR.next {w wr : World} {t : Ty} {b c k : Nat} {l : List Ar} (o : Obj) (hk : k < t.nf) (hT : TB wr w.heap.size t) (hB : Below w.heap.size w wr) (hA : ArL wr b l) : NR w t b c l (.int .i64 ((k : Int) + 1)) (wr.alloc o) :=
  ⟨k + 1, by simp, by omega, hT.alloc o, hB.alloc hB.size o, hA.below (by repeat' (first | (with_reducible exact Below.refl _ _) | (with_reducible refine Below.setCell ?_ ?_ _) | (with_reducible refine bdrewN ?_ _) | (with_reducible refine bdrew ?_) | (with_reducible refine Below.alloc ?_ ?_ _) | exact Nat.le_refl _ | (simp; done)))⟩
/-- the boundaries of a nested type's kinds, and what is needed of the functions that it calls. -/
structure NC (w0 w : World) (t : Ty) : Prop where
  pos : 0 < t.nf
  most : t.nf ≤ 100
  fs : ∀ W, Below w.heap.size w W → Calls Tryz.prog 20 #[.slice t.af t.nf t.cf] W (FsP w0 W t.af t.nf)
theorem nc_start {w0 w : World} {t : Ty} (h : NC w0 w t) : ∃ W0, W0 = (w.alloc (.cells #[.int .i64 t.kd, .int .i64 t.wd, .bool t.sg, .int .i64 t.un, .int .i64 t.pr, .int .i64 t.sc, .string t.zn, .bool t.fl, .slice t.ai t.ni t.ci, .slice t.af t.nf t.cf] 30)) ∧ TB W0 w.heap.size t ∧ Hid (Below w.heap.size w W0) ∧ Hid (Calls Tryz.prog 20 #[.slice t.af t.nf t.cf] W0 (FsP w0 W0 t.af t.nf)) := by
  have hB0 := (show Below w.heap.size w (w.alloc (.cells #[.int .i64 t.kd, .int .i64 t.wd, .bool t.sg, .int .i64 t.un, .int .i64 t.pr, .int .i64 t.sc, .string t.zn, .bool t.fl, .slice t.ai t.ni t.ci, .slice t.af t.nf t.cf] 30)) from (Below.refl _ _).alloc (Nat.le_refl _) _)
  exact ⟨_, rfl, TB.new w t, hide hB0, hide (h.fs _ hB0)⟩
/-- a nested type, and its fields of arrow's, within a region. -/
def NS (w : World) (t : Ty) (b : Nat) (l : List Ar) (W : World) : Prop := TB W w.heap.size t ∧ Below w.heap.size w W ∧ ArL W b l
theorem NS.below {w W W' : World} {t : Ty} {b : Nat} {l : List Ar} (h : NS w t b l W) (hb : Below W.heap.size W W') : NS w t b l W' := ⟨h.1.below hb, below_tr h.2.1 hb h.2.1.size, h.2.2.below hb⟩
theorem NS.drew {w W : World} {t : Ty} {b : Nat} {l : List Ar} (h : NS w t b l W) : NS w t b l W.drew := h.below (bdrew (Below.refl _ _))
theorem info_162 : (Tryz.prog.info? 162).map (fun i => (i.zero, i.size, i.bytes)) = some (some (.int .i8 0), 1, 1) := by kernel_rfl
/-- the numbers of a union, as they are made. -/
def UL (w : World) (f : Nat → Int) (n : Nat) (v x : Value) (wx : World) : Prop :=
  ∃ k : Nat, x = .int .i64 (k : Int) ∧ k ≤ n ∧ Below w.heap.size w wx ∧ wx.ownsRow w.heap.size 162 1 v k ((List.range k).map fun j => Value.int .i8 (f j))
theorem UL.start (w : World) (f : Nat → Int) (n : Nat) : UL w f n (.slice none 0 0) (.int .i64 0) w := ⟨0, rfl, Nat.zero_le _, Below.refl _ _, World.ownsRow_nil _ _ _ _⟩
theorem UL.next {w wx w4 : World} {f : Nat → Int} {n k : Nat} {v v' : Value} {o : Obj} (hk : k < n) (hb : Below w.heap.size w wx) (hown : wx.ownsRow w.heap.size 162 1 v k ((List.range k).map fun j => Value.int .i8 (f j)))
    (ho : w4.ownsRow w.heap.size 162 1 v' (k + 1) (((List.range k).map fun j => Value.int .i8 (f j)) ++ [.int .i8 (f k)])) (hg : (wx.alloc o).grownBy w4 v.ownBlock) : UL w f n v' (.int .i64 ((k : Int) + 1)) w4 := by
  refine ⟨k + 1, by simp, by omega, (hb.alloc hb.size o).grown hg (hb.alloc hb.size o).size (fun b hb => (own_lt hown hb).1), ?_⟩
  rw [List.range_succ, List.map_append]
  exact ho
/-- the numbers, whole. -/
theorem UL.done {w wx : World} {f : Nat → Int} {n : Nat} {v : Value} (hn : 0 < n) (h : wx.ownsRow w.heap.size 162 1 v n ((List.range n).map fun j => Value.int .i8 (f j))) : ∃ g c, v = .slice (some ⟨g, 0, none⟩) n c ∧ n ≤ c ∧ Cds wx g ((List.range n).map f) := by
  rcases h.2 with ⟨_, h0⟩ | ⟨g, cap, cur, rfl, hb, hh, hn1, hcap, hcs, ht⟩
  · omega
  · refine ⟨g, cap, rfl, hn1, (Array.getElem?_eq_some_iff.1 hh).1, fun j hj => ?_⟩
    have hj' : j < n := by simpa using hj
    rw [cell_of_row wx g _ cur 162 (0, 0) hh]
    have h1 : (cur.toList.take (n * 1))[j]? = ((List.range n).map fun j => Value.int .i8 (f j))[j]? := by rw [ht]
    rw [List.getElem?_take_of_lt (by omega)] at h1
    rw [Array.getElem?_toList] at h1
    rw [h1]
    simp [hj', List.getD_eq_getElem?_getD]
theorem idl_of {f : Nat → Int} {n : Nat} (h9 : n ≤ 100) (h : ∀ k, k < n → 0 ≤ f k ∧ f k ≤ 126 ∧ ∀ j, j < k → f j ≠ f k) : IdL ((List.range n).map f) := by
  refine ⟨by simpa using h9, fun k hk => ?_⟩
  have hk' : k < n := by simpa using hk
  have e : ∀ j, j < n → ((List.range n).map f).getD j 0 = f j := fun j hj => by simp [List.getD_eq_getElem?_getD, hj]
  rw [e k hk']
  exact ⟨(h k hk').1, (h k hk').2.1, fun j hj => by rw [e j (by omega)]; exact (h k hk').2.2 j hj⟩
set_option maxRecDepth 1000000 in
set_option maxHeartbeats 8000000 in
theorem nested_13 (w0 w : World) (t : Ty) (hkd : t.kd = 13) (hN : NC w0 w t) : Calls Tryz.prog 44 #[t.val] w (PIf w) := by
  obtain ⟨W0, hw0, hT, hB0, hfs⟩ := nc_start hN
  have hpos := hN.pos
  have hmost := hN.most
  obtain ⟨c0, c1, c2, c3, c4, c5, c6, c7, c8, c9⟩ := hT.cells
  replace hT := hide hT
  replace hkd := hide hkd
  clear hN
  go_enter Tryz.func44, Tryz.ntmps44
  go_upto_region 1 with (fail)
  rw [← hw0]
  clear hw0
  go_wp2_with (first | (go_at_call 20; (with_reducible refine (unhide hfs).mono ?_); rintro e w2 ⟨l, b, c, rfl, hl, hlk, hb2, hnc, har⟩; have hst := hide (NR.start (c := c) ((unhide hT).below hb2) (below_tr (unhide hB0) hb2 (unhide hB0).size) har); replace hl := hide hl; replace hlk := hide hlk; clear har hb2) | fail)
  clear c0 c1 c2 c3 c4 c5 c6 c7 c8 c9 hB0 hT hfs
  go_loopw [17] (NR w t b c l) (fun v _ => t.nf - (intOf v).toNat)
  case atStart => exact unhide hst
  case round =>
    obtain ⟨k, rfl, hk, hT, hB, hA⟩ := hrel
    by_cases hlt : k < t.nf
    · have hlt' : (k : Int) < (t.nf : Int) := by omega
      have hnx := hide (fun (o : Obj) => NR.next (c := c) o hlt hT hB hA)
      obtain ⟨⟨f0, f1, f2, f3, f4⟩, _⟩ := hA.2 k (by rw [unhide hl]; exact hlt)
      have hw1 : IntKind.i64.wrap ((k : Int) + 1) = (k : Int) + 1 := (IntWalk.i64_left _).trans (IntWalk.wrap64_in _ (by omega))
      generalize l.getD k dA = r at *
      clear hT hB hA hst hl hlk
      go_wp2_with fail
      exact ⟨unhide hnx _, by show t.nf - (intOf (Value.int IntKind.i64 ((k : Int) + 1))).toNat < t.nf - (intOf (Value.int IntKind.i64 (k : Int))).toNat; simp only [intOf]; omega⟩
    · have hlt' : ¬ (k : Int) < (t.nf : Int) := by omega
      obtain ⟨c0, c1, c2, c3, c4, c5, c6, c7, c8, c9⟩ := hT.cells
      rw [unhide hkd] at c0
      clear hst hk
      have hS := hide (structOf_any wr b c l (by rw [unhide hl]; omega) hA (by rw [unhide hl]; exact hpos))
      rw [unhide hl] at hS
      have hF := hide (fun (W : World) (p : Addr) (h : Below wr.heap.size wr W) => pif_mk 159 p (below_tr hB h hB.size))
      clear hT hB hA hl hlk
      go_wp2_with (first | (go_at_call 45; (with_reducible refine (unhide hS).mono ?_); rintro e w3 ⟨p, rfl, hb3⟩) | fail)
      go_ret
      exact unhide hF _ _ hb3

set_option maxRecDepth 1000000 in
set_option maxHeartbeats 8000000 in
theorem nested_12 (w0 w : World) (t : Ty) (hkd : t.kd = 12) (hN : NC w0 w t) (h1 : t.nf = 1) : Calls Tryz.prog 44 #[t.val] w (PIf w) := by
  obtain ⟨W0, hw0, hT, hB0, hfs⟩ := nc_start hN
  have hpos := hN.pos
  have hmost := hN.most
  obtain ⟨c0, c1, c2, c3, c4, c5, c6, c7, c8, c9⟩ := hT.cells
  replace hT := hide hT
  replace hkd := hide hkd
  have hone : (((t.nf : Nat) : Int) != 1) = false := by simp [h1]
  replace h1 := hide h1
  clear hN
  go_enter Tryz.func44, Tryz.ntmps44
  go_upto_region 1 with (fail)
  rw [← hw0]
  clear hw0
  go_wp2_with (first | (go_at_call 20; (with_reducible refine (unhide hfs).mono ?_); rintro e w2 ⟨l, b, c, rfl, hl, hlk, hb2, hnc, har⟩; have hst := hide (NR.start (c := c) ((unhide hT).below hb2) (below_tr (unhide hB0) hb2 (unhide hB0).size) har); replace hl := hide hl; replace hlk := hide hlk; clear har hb2) | fail)
  clear c0 c1 c2 c3 c4 c5 c6 c7 c8 c9 hB0 hT hfs
  go_loopw [17] (NR w t b c l) (fun v _ => t.nf - (intOf v).toNat)
  case atStart => exact unhide hst
  case round =>
    obtain ⟨k, rfl, hk, hT, hB, hA⟩ := hrel
    by_cases hlt : k < t.nf
    · have hlt' : (k : Int) < (t.nf : Int) := by omega
      have hnx := hide (fun (o : Obj) => NR.next (c := c) o hlt hT hB hA)
      obtain ⟨⟨f0, f1, f2, f3, f4⟩, _⟩ := hA.2 k (by rw [unhide hl]; exact hlt)
      have hw1 : IntKind.i64.wrap ((k : Int) + 1) = (k : Int) + 1 := (IntWalk.i64_left _).trans (IntWalk.wrap64_in _ (by omega))
      generalize l.getD k dA = r at *
      clear hT hB hA hst hl hlk
      go_wp2_with fail
      exact ⟨unhide hnx _, by show t.nf - (intOf (Value.int IntKind.i64 ((k : Int) + 1))).toNat < t.nf - (intOf (Value.int IntKind.i64 (k : Int))).toNat; simp only [intOf]; omega⟩
    · have hlt' : ¬ (k : Int) < (t.nf : Int) := by omega
      obtain ⟨c0, c1, c2, c3, c4, c5, c6, c7, c8, c9⟩ := hT.cells
      rw [unhide hkd] at c0
      clear hst hk
      obtain ⟨f0, f1, f2, f3, f4⟩ := hA.zero (by rw [unhide hl]; exact hpos)
      have hS := hide (fun (W : World) (nm : ByteArray) (tid : TypeId) (p : Addr) (nl : Bool) (A A' : Option Addr) (c c' : Nat) => listOf_any W nm tid p nl A A' c c')
      have hF := hide (fun (W : World) (p : Addr) (h : Below wr.heap.size wr W) => pif_mk 174 p (below_tr hB h hB.size))
      generalize l.getD 0 dA = r at *
      clear hT hB hA hl hlk
      go_wp2_with (first | (go_at_call 49; (with_reducible refine (unhide hS _ _ _ _ _ _ _ _ _).mono ?_); rintro e w3 ⟨p, rfl, hb3⟩) | fail)
      go_ret
      exact unhide hF _ _ hb3

set_option maxRecDepth 1000000 in
set_option maxHeartbeats 8000000 in
theorem nested_21 (w0 w : World) (t : Ty) (hkd : t.kd = 21) (hN : NC w0 w t) (h1 : t.nf = 1) : Calls Tryz.prog 44 #[t.val] w (PIf w) := by
  obtain ⟨W0, hw0, hT, hB0, hfs⟩ := nc_start hN
  have hpos := hN.pos
  have hmost := hN.most
  obtain ⟨c0, c1, c2, c3, c4, c5, c6, c7, c8, c9⟩ := hT.cells
  replace hT := hide hT
  replace hkd := hide hkd
  have hone : (((t.nf : Nat) : Int) != 1) = false := by simp [h1]
  replace h1 := hide h1
  clear hN
  go_enter Tryz.func44, Tryz.ntmps44
  go_upto_region 1 with (fail)
  rw [← hw0]
  clear hw0
  go_wp2_with (first | (go_at_call 20; (with_reducible refine (unhide hfs).mono ?_); rintro e w2 ⟨l, b, c, rfl, hl, hlk, hb2, hnc, har⟩; have hst := hide (NR.start (c := c) ((unhide hT).below hb2) (below_tr (unhide hB0) hb2 (unhide hB0).size) har); replace hl := hide hl; replace hlk := hide hlk; clear har hb2) | fail)
  clear c0 c1 c2 c3 c4 c5 c6 c7 c8 c9 hB0 hT hfs
  go_loopw [17] (NR w t b c l) (fun v _ => t.nf - (intOf v).toNat)
  case atStart => exact unhide hst
  case round =>
    obtain ⟨k, rfl, hk, hT, hB, hA⟩ := hrel
    by_cases hlt : k < t.nf
    · have hlt' : (k : Int) < (t.nf : Int) := by omega
      have hnx := hide (fun (o : Obj) => NR.next (c := c) o hlt hT hB hA)
      obtain ⟨⟨f0, f1, f2, f3, f4⟩, _⟩ := hA.2 k (by rw [unhide hl]; exact hlt)
      have hw1 : IntKind.i64.wrap ((k : Int) + 1) = (k : Int) + 1 := (IntWalk.i64_left _).trans (IntWalk.wrap64_in _ (by omega))
      generalize l.getD k dA = r at *
      clear hT hB hA hst hl hlk
      go_wp2_with fail
      exact ⟨unhide hnx _, by show t.nf - (intOf (Value.int IntKind.i64 ((k : Int) + 1))).toNat < t.nf - (intOf (Value.int IntKind.i64 (k : Int))).toNat; simp only [intOf]; omega⟩
    · have hlt' : ¬ (k : Int) < (t.nf : Int) := by omega
      obtain ⟨c0, c1, c2, c3, c4, c5, c6, c7, c8, c9⟩ := hT.cells
      rw [unhide hkd] at c0
      clear hst hk
      obtain ⟨f0, f1, f2, f3, f4⟩ := hA.zero (by rw [unhide hl]; exact hpos)
      have hS := hide (fun (W : World) (nm : ByteArray) (tid : TypeId) (p : Addr) (nl : Bool) (A A' : Option Addr) (c c' : Nat) => largeListOf_any W nm tid p nl A A' c c')
      have hF := hide (fun (W : World) (p : Addr) (h : Below wr.heap.size wr W) => pif_mk 176 p (below_tr hB h hB.size))
      generalize l.getD 0 dA = r at *
      clear hT hB hA hl hlk
      go_wp2_with (first | (go_at_call 50; (with_reducible refine (unhide hS _ _ _ _ _ _ _ _ _).mono ?_); rintro e w3 ⟨p, rfl, hb3⟩) | fail)
      go_ret
      exact unhide hF _ _ hb3

set_option maxRecDepth 1000000 in
set_option maxHeartbeats 8000000 in
theorem nested_25 (w0 w : World) (t : Ty) (hkd : t.kd = 25) (hN : NC w0 w t) (h1 : t.nf = 1) : Calls Tryz.prog 44 #[t.val] w (PIf w) := by
  obtain ⟨W0, hw0, hT, hB0, hfs⟩ := nc_start hN
  have hpos := hN.pos
  have hmost := hN.most
  obtain ⟨c0, c1, c2, c3, c4, c5, c6, c7, c8, c9⟩ := hT.cells
  replace hT := hide hT
  replace hkd := hide hkd
  have hone : (((t.nf : Nat) : Int) != 1) = false := by simp [h1]
  replace h1 := hide h1
  clear hN
  go_enter Tryz.func44, Tryz.ntmps44
  go_upto_region 1 with (fail)
  rw [← hw0]
  clear hw0
  go_wp2_with (first | (go_at_call 20; (with_reducible refine (unhide hfs).mono ?_); rintro e w2 ⟨l, b, c, rfl, hl, hlk, hb2, hnc, har⟩; have hst := hide (NR.start (c := c) ((unhide hT).below hb2) (below_tr (unhide hB0) hb2 (unhide hB0).size) har); replace hl := hide hl; replace hlk := hide hlk; clear har hb2) | fail)
  clear c0 c1 c2 c3 c4 c5 c6 c7 c8 c9 hB0 hT hfs
  go_loopw [17] (NR w t b c l) (fun v _ => t.nf - (intOf v).toNat)
  case atStart => exact unhide hst
  case round =>
    obtain ⟨k, rfl, hk, hT, hB, hA⟩ := hrel
    by_cases hlt : k < t.nf
    · have hlt' : (k : Int) < (t.nf : Int) := by omega
      have hnx := hide (fun (o : Obj) => NR.next (c := c) o hlt hT hB hA)
      obtain ⟨⟨f0, f1, f2, f3, f4⟩, _⟩ := hA.2 k (by rw [unhide hl]; exact hlt)
      have hw1 : IntKind.i64.wrap ((k : Int) + 1) = (k : Int) + 1 := (IntWalk.i64_left _).trans (IntWalk.wrap64_in _ (by omega))
      generalize l.getD k dA = r at *
      clear hT hB hA hst hl hlk
      go_wp2_with fail
      exact ⟨unhide hnx _, by show t.nf - (intOf (Value.int IntKind.i64 ((k : Int) + 1))).toNat < t.nf - (intOf (Value.int IntKind.i64 (k : Int))).toNat; simp only [intOf]; omega⟩
    · have hlt' : ¬ (k : Int) < (t.nf : Int) := by omega
      obtain ⟨c0, c1, c2, c3, c4, c5, c6, c7, c8, c9⟩ := hT.cells
      rw [unhide hkd] at c0
      clear hst hk
      obtain ⟨f0, f1, f2, f3, f4⟩ := hA.zero (by rw [unhide hl]; exact hpos)
      have hS := hide (fun (W : World) (nm : ByteArray) (tid : TypeId) (p : Addr) (nl : Bool) (A A' : Option Addr) (c c' : Nat) => listViewOf_any W nm tid p nl A A' c c')
      have hF := hide (fun (W : World) (p : Addr) (h : Below wr.heap.size wr W) => pif_mk 178 p (below_tr hB h hB.size))
      generalize l.getD 0 dA = r at *
      clear hT hB hA hl hlk
      go_wp2_with (first | (go_at_call 51; (with_reducible refine (unhide hS _ _ _ _ _ _ _ _ _).mono ?_); rintro e w3 ⟨p, rfl, hb3⟩) | fail)
      go_ret
      exact unhide hF _ _ hb3

set_option maxRecDepth 1000000 in
set_option maxHeartbeats 8000000 in
theorem nested_26 (w0 w : World) (t : Ty) (hkd : t.kd = 26) (hN : NC w0 w t) (h1 : t.nf = 1) : Calls Tryz.prog 44 #[t.val] w (PIf w) := by
  obtain ⟨W0, hw0, hT, hB0, hfs⟩ := nc_start hN
  have hpos := hN.pos
  have hmost := hN.most
  obtain ⟨c0, c1, c2, c3, c4, c5, c6, c7, c8, c9⟩ := hT.cells
  replace hT := hide hT
  replace hkd := hide hkd
  have hone : (((t.nf : Nat) : Int) != 1) = false := by simp [h1]
  replace h1 := hide h1
  clear hN
  go_enter Tryz.func44, Tryz.ntmps44
  go_upto_region 1 with (fail)
  rw [← hw0]
  clear hw0
  go_wp2_with (first | (go_at_call 20; (with_reducible refine (unhide hfs).mono ?_); rintro e w2 ⟨l, b, c, rfl, hl, hlk, hb2, hnc, har⟩; have hst := hide (NR.start (c := c) ((unhide hT).below hb2) (below_tr (unhide hB0) hb2 (unhide hB0).size) har); replace hl := hide hl; replace hlk := hide hlk; clear har hb2) | fail)
  clear c0 c1 c2 c3 c4 c5 c6 c7 c8 c9 hB0 hT hfs
  go_loopw [17] (NR w t b c l) (fun v _ => t.nf - (intOf v).toNat)
  case atStart => exact unhide hst
  case round =>
    obtain ⟨k, rfl, hk, hT, hB, hA⟩ := hrel
    by_cases hlt : k < t.nf
    · have hlt' : (k : Int) < (t.nf : Int) := by omega
      have hnx := hide (fun (o : Obj) => NR.next (c := c) o hlt hT hB hA)
      obtain ⟨⟨f0, f1, f2, f3, f4⟩, _⟩ := hA.2 k (by rw [unhide hl]; exact hlt)
      have hw1 : IntKind.i64.wrap ((k : Int) + 1) = (k : Int) + 1 := (IntWalk.i64_left _).trans (IntWalk.wrap64_in _ (by omega))
      generalize l.getD k dA = r at *
      clear hT hB hA hst hl hlk
      go_wp2_with fail
      exact ⟨unhide hnx _, by show t.nf - (intOf (Value.int IntKind.i64 ((k : Int) + 1))).toNat < t.nf - (intOf (Value.int IntKind.i64 (k : Int))).toNat; simp only [intOf]; omega⟩
    · have hlt' : ¬ (k : Int) < (t.nf : Int) := by omega
      obtain ⟨c0, c1, c2, c3, c4, c5, c6, c7, c8, c9⟩ := hT.cells
      rw [unhide hkd] at c0
      clear hst hk
      obtain ⟨f0, f1, f2, f3, f4⟩ := hA.zero (by rw [unhide hl]; exact hpos)
      have hS := hide (fun (W : World) (nm : ByteArray) (tid : TypeId) (p : Addr) (nl : Bool) (A A' : Option Addr) (c c' : Nat) => largeListViewOf_any W nm tid p nl A A' c c')
      have hF := hide (fun (W : World) (p : Addr) (h : Below wr.heap.size wr W) => pif_mk 180 p (below_tr hB h hB.size))
      generalize l.getD 0 dA = r at *
      clear hT hB hA hl hlk
      go_wp2_with (first | (go_at_call 52; (with_reducible refine (unhide hS _ _ _ _ _ _ _ _ _).mono ?_); rintro e w3 ⟨p, rfl, hb3⟩) | fail)
      go_ret
      exact unhide hF _ _ hb3

set_option maxRecDepth 1000000 in
set_option maxHeartbeats 8000000 in
theorem nested_16 (w0 w : World) (t : Ty) (hkd : t.kd = 16) (hN : NC w0 w t) (h1 : t.nf = 1) (hw0 : 0 < t.wd) (hw9 : t.wd ≤ 1000) : Calls Tryz.prog 44 #[t.val] w (PIf w) := by
  obtain ⟨W0, hw0, hT, hB0, hfs⟩ := nc_start hN
  have hpos := hN.pos
  have hmost := hN.most
  obtain ⟨c0, c1, c2, c3, c4, c5, c6, c7, c8, c9⟩ := hT.cells
  replace hT := hide hT
  replace hkd := hide hkd
  have hone : (((t.nf : Nat) : Int) != 1) = false := by simp [h1]
  replace h1 := hide h1
  replace hw0 := hide hw0
  clear hN
  go_enter Tryz.func44, Tryz.ntmps44
  go_upto_region 1 with (fail)
  rw [← hw0]
  clear hw0
  go_wp2_with (first | (go_at_call 20; (with_reducible refine (unhide hfs).mono ?_); rintro e w2 ⟨l, b, c, rfl, hl, hlk, hb2, hnc, har⟩; have hst := hide (NR.start (c := c) ((unhide hT).below hb2) (below_tr (unhide hB0) hb2 (unhide hB0).size) har); replace hl := hide hl; replace hlk := hide hlk; clear har hb2) | fail)
  clear c0 c1 c2 c3 c4 c5 c6 c7 c8 c9 hB0 hT hfs
  go_loopw [17] (NR w t b c l) (fun v _ => t.nf - (intOf v).toNat)
  case atStart => exact unhide hst
  case round =>
    obtain ⟨k, rfl, hk, hT, hB, hA⟩ := hrel
    by_cases hlt : k < t.nf
    · have hlt' : (k : Int) < (t.nf : Int) := by omega
      have hnx := hide (fun (o : Obj) => NR.next (c := c) o hlt hT hB hA)
      obtain ⟨⟨f0, f1, f2, f3, f4⟩, _⟩ := hA.2 k (by rw [unhide hl]; exact hlt)
      have hw1 : IntKind.i64.wrap ((k : Int) + 1) = (k : Int) + 1 := (IntWalk.i64_left _).trans (IntWalk.wrap64_in _ (by omega))
      generalize l.getD k dA = r at *
      clear hT hB hA hst hl hlk
      go_wp2_with fail
      exact ⟨unhide hnx _, by show t.nf - (intOf (Value.int IntKind.i64 ((k : Int) + 1))).toNat < t.nf - (intOf (Value.int IntKind.i64 (k : Int))).toNat; simp only [intOf]; omega⟩
    · have hlt' : ¬ (k : Int) < (t.nf : Int) := by omega
      obtain ⟨c0, c1, c2, c3, c4, c5, c6, c7, c8, c9⟩ := hT.cells
      rw [unhide hkd] at c0
      clear hst hk
      have hcv : IntKind.i32.wrap t.wd = t.wd := IntWalk.i32_in _ ⟨by have := unhide hw0; omega, by omega⟩
      have hS := hide (fun (W : World) (nm : ByteArray) (tid : TypeId) (p : Addr) (nl : Bool) (A A' : Option Addr) (c c' : Nat) => fixedListOf_any W t.wd nm tid p nl A A' c c' (unhide hw0))
      have hF := hide (fun (W : World) (h : Below w.heap.size w W) (p : Addr) => pif_mk 182 p h)
      have hNS := hide (fun (W : World) (h : NS w t b l W) => (show (fun W => W.cell? ⟨w.heap.size, 1, none⟩ = some (.int .i64 t.wd) ∧ W.cell? ⟨b, 0, none⟩ = some (.string (l.getD 0 dA).nm) ∧ W.cell? ⟨b, 1, none⟩ = some (.iface (l.getD 0 dA).tid (.pointer (some (l.getD 0 dA).p))) ∧ W.cell? ⟨b, 2, none⟩ = some (.bool (l.getD 0 dA).nl) ∧ W.cell? ⟨b, 3, none⟩ = some (.slice (l.getD 0 dA).A 0 (l.getD 0 dA).c) ∧ W.cell? ⟨b, 4, none⟩ = some (.slice (l.getD 0 dA).A' 0 (l.getD 0 dA).c') ∧ NS w t b l W) W from by
        obtain ⟨f0, f1, f2, f3, f4⟩ := h.2.2.zero (by rw [unhide hl]; exact hpos)
        exact ⟨h.1.cells.2.1, f0, f1, f2, f3, f4, h⟩))
      have h0 := hide (NS.drew (⟨hT, hB, hA⟩ : NS w t b l wr))
      generalize l.getD 0 dA = r at *
      clear hT hB hA hl hlk
      go_upto_region 38 with (fail)
      refine wp_region_K (S := fun W => W.cell? ⟨w.heap.size, 1, none⟩ = some (.int .i64 t.wd) ∧ W.cell? ⟨b, 0, none⟩ = some (.string r.nm) ∧ W.cell? ⟨b, 1, none⟩ = some (.iface r.tid (.pointer (some r.p))) ∧ W.cell? ⟨b, 2, none⟩ = some (.bool r.nl) ∧ W.cell? ⟨b, 3, none⟩ = some (.slice r.A 0 r.c) ∧ W.cell? ⟨b, 4, none⟩ = some (.slice r.A' 0 r.c') ∧ NS w t b l W) (k := 8) (by kernel_rfl) (unhide hNS _ (unhide h0)) (fun hHeld => ?_)
      refine wpAnyK_take (i := 0) (oi := _) (v := ?_) rfl (by kernel_rfl) (by kernel_rfl) (by kernel_rfl) (by kernel_rfl) (fun _ _ _ h => h) (Or.inl ⟨by rfl, ?_⟩) (by assumption) ?_
      rotate_left
      · intro w hSw; (try dsimp only at hSw); (try subst hSw); go_simp; (try with_reducible rfl)
      simp only [Act.put, List.getElem_toArray, List.getElem_cons_zero, List.getElem_cons_succ, List.setIfInBounds_toArray, List.set_cons_zero, List.set_cons_succ]
      refine wpAnyK_take (i := 1) (oi := _) (v := ?_) rfl (by kernel_rfl) (by kernel_rfl) (by kernel_rfl) (by kernel_rfl) (fun _ _ _ h => h) (Or.inl ⟨by rfl, ?_⟩) (by assumption) ?_
      rotate_left
      · intro w hSw; (try dsimp only at hSw); (try subst hSw); go_simp; (try with_reducible rfl)
      simp only [Act.put, List.getElem_toArray, List.getElem_cons_zero, List.getElem_cons_succ, List.setIfInBounds_toArray, List.set_cons_zero, List.set_cons_succ]
      refine wpAnyK_take (i := 2) (oi := _) (v := ?_) rfl (by kernel_rfl) (by kernel_rfl) (by kernel_rfl) (by kernel_rfl) (fun _ _ _ h => h) (Or.inl ⟨by rfl, ?_⟩) (by assumption) ?_
      rotate_left
      · intro w hSw; (try dsimp only at hSw); (try subst hSw); go_simp; (try with_reducible rfl)
      simp only [Act.put, List.getElem_toArray, List.getElem_cons_zero, List.getElem_cons_succ, List.setIfInBounds_toArray, List.set_cons_zero, List.set_cons_succ]
      refine wpAnyK_take (i := 3) (oi := _) (v := ?_) rfl (by kernel_rfl) (by kernel_rfl) (by kernel_rfl) (by kernel_rfl) (fun _ _ _ h => h) (Or.inl ⟨by rfl, ?_⟩) (by assumption) ?_
      rotate_left
      · intro w hSw; (try dsimp only at hSw); (try subst hSw); go_simp; (try with_reducible rfl)
      simp only [Act.put, List.getElem_toArray, List.getElem_cons_zero, List.getElem_cons_succ, List.setIfInBounds_toArray, List.set_cons_zero, List.set_cons_succ]
      refine wpAnyK_take (i := 4) (oi := _) (v := ?_) rfl (by kernel_rfl) (by kernel_rfl) (by kernel_rfl) (by kernel_rfl) (fun _ _ _ h => h) (Or.inl ⟨by rfl, ?_⟩) (by assumption) ?_
      rotate_left
      · intro w hSw; (try dsimp only at hSw); (try subst hSw); go_simp; (try with_reducible rfl)
      simp only [Act.put, List.getElem_toArray, List.getElem_cons_zero, List.getElem_cons_succ, List.setIfInBounds_toArray, List.set_cons_zero, List.set_cons_succ]
      refine wpAnyK_take (i := 5) (oi := _) (v := ?_) rfl (by kernel_rfl) (by kernel_rfl) (by kernel_rfl) (by kernel_rfl) (fun _ _ _ h => h) (Or.inl ⟨by rfl, ?_⟩) (by assumption) ?_
      rotate_left
      · intro w hSw; (try dsimp only at hSw); (try subst hSw); go_simp; (try with_reducible rfl)
      simp only [Act.put, List.getElem_toArray, List.getElem_cons_zero, List.getElem_cons_succ, List.setIfInBounds_toArray, List.set_cons_zero, List.set_cons_succ]
      refine wpAnyK_one (i := 6) (o := _) (by kernel_rfl) rfl (fun K hK => ?_)
      go_simp
      ((go_at_call 53; (with_reducible refine (unhide hS _ _ _ _ _ _ _ _ _).mono ?_); rintro e w3 ⟨p, rfl, hb3⟩); go_wp2_with fail)
      refine hK.out _ _ (unhide hNS _ (NS.below hHeld.2.2.2.2.2.2 hb3)) (fun hHeld => ?_)
      clear hK K
      refine wpAnyK_take (i := 7) (oi := _) (v := ?_) rfl (by kernel_rfl) (by kernel_rfl) (by kernel_rfl) (by kernel_rfl) (fun _ _ _ h => h) (Or.inl ⟨by rfl, ?_⟩) (by assumption) ?_
      rotate_left
      · intro w hSw; (try dsimp only at hSw); (try subst hSw); go_simp; (try with_reducible rfl)
      simp only [Act.put, List.getElem_toArray, List.getElem_cons_zero, List.getElem_cons_succ, List.setIfInBounds_toArray, List.set_cons_zero, List.set_cons_succ]
      refine wpAnyK_end (o := _) (by kernel_rfl) rfl (fun K hK => ?_)
      go_simp
      refine hK.out _ _ ?_
      clear hK K
      refine wpAnyK_done (by kernel_rfl) ?_ _
      go_wp2_with fail
      go_ret
      exact unhide hF _ hHeld.2.2.2.2.2.2.2.1 p

set_option maxRecDepth 1000000 in
set_option maxHeartbeats 8000000 in
theorem nested_22 (w0 w : World) (t : Ty) (hkd : t.kd = 22) (hN : NC w0 w t) (h1 : t.nf = 2) : Calls Tryz.prog 44 #[t.val] w (PIf w) := by
  obtain ⟨W0, hw0, hT, hB0, hfs⟩ := nc_start hN
  have hpos := hN.pos
  have hmost := hN.most
  obtain ⟨c0, c1, c2, c3, c4, c5, c6, c7, c8, c9⟩ := hT.cells
  replace hT := hide hT
  replace hkd := hide hkd
  have htwo : (((t.nf : Nat) : Int) == 2) = true := by simp [h1]
  have hlt2 : (1 : Int) < (t.nf : Int) := by omega
  replace h1 := hide h1
  clear hN
  go_enter Tryz.func44, Tryz.ntmps44
  go_upto_region 1 with (fail)
  rw [← hw0]
  clear hw0
  go_wp2_with (first | (go_at_call 20; (with_reducible refine (unhide hfs).mono ?_); rintro e w2 ⟨l, b, c, rfl, hl, hlk, hb2, hnc, har⟩; have hst := hide (NR.start (c := c) ((unhide hT).below hb2) (below_tr (unhide hB0) hb2 (unhide hB0).size) har); replace hl := hide hl; replace hlk := hide hlk; clear har hb2) | fail)
  clear c0 c1 c2 c3 c4 c5 c6 c7 c8 c9 hB0 hT hfs
  go_loopw [17] (NR w t b c l) (fun v _ => t.nf - (intOf v).toNat)
  case atStart => exact unhide hst
  case round =>
    obtain ⟨k, rfl, hk, hT, hB, hA⟩ := hrel
    by_cases hlt : k < t.nf
    · have hlt' : (k : Int) < (t.nf : Int) := by omega
      have hnx := hide (fun (o : Obj) => NR.next (c := c) o hlt hT hB hA)
      obtain ⟨⟨f0, f1, f2, f3, f4⟩, _⟩ := hA.2 k (by rw [unhide hl]; exact hlt)
      have hw1 : IntKind.i64.wrap ((k : Int) + 1) = (k : Int) + 1 := (IntWalk.i64_left _).trans (IntWalk.wrap64_in _ (by omega))
      generalize l.getD k dA = r at *
      clear hT hB hA hst hl hlk
      go_wp2_with fail
      exact ⟨unhide hnx _, by show t.nf - (intOf (Value.int IntKind.i64 ((k : Int) + 1))).toNat < t.nf - (intOf (Value.int IntKind.i64 (k : Int))).toNat; simp only [intOf]; omega⟩
    · have hlt' : ¬ (k : Int) < (t.nf : Int) := by omega
      obtain ⟨c0, c1, c2, c3, c4, c5, c6, c7, c8, c9⟩ := hT.cells
      rw [unhide hkd] at c0
      clear hst hk
      have hNS := hide (fun (W : World) (h : NS w t b l W) => (show (fun W => W.cell? ⟨b, 1, none⟩ = some (.iface (l.getD 0 dA).tid (.pointer (some (l.getD 0 dA).p))) ∧ W.cell? ⟨b, 6, none⟩ = some (.iface (l.getD 1 dA).tid (.pointer (some (l.getD 1 dA).p))) ∧ NS w t b l W) W from by
        obtain ⟨f0, f1, f2, f3, f4⟩ := h.2.2.zero (by rw [unhide hl]; exact hpos)
        obtain ⟨g0, g1, g2, g3, g4⟩ := h.2.2.one (by rw [unhide hl, unhide h1]; omega)
        exact ⟨f1, g1, h⟩))
      have hN2 := hide (fun (W : World) (h : NS w t b l W) => (h.2.2.one (by rw [unhide hl, unhide h1]; omega)).2.2.1)
      have h0 := hide (NS.drew (⟨hT, hB, hA⟩ : NS w t b l wr))
      have hR := hide (fun (W : World) (t1 t2 : TypeId) (p1 p2 : Addr) => runEndsOf_any W t1 t2 p1 p2)
      generalize l.getD 0 dA = r at *
      generalize l.getD 1 dA = r1 at *
      have hF := hide (fun (W : World) (h : Below w.heap.size w W) (p : Addr) => pif_mk 167 p h)
      clear hT hB hA hl hlk
      go_upto_region 21 with (fail)
      refine wp_region_K (S := fun W => W.cell? ⟨b, 1, none⟩ = some (.iface r.tid (.pointer (some r.p))) ∧ W.cell? ⟨b, 6, none⟩ = some (.iface r1.tid (.pointer (some r1.p))) ∧ NS w t b l W) (k := 9) (by kernel_rfl) (unhide hNS _ (unhide h0)) (fun hHeld => ?_)
      refine wpAnyK_take (i := 0) (oi := _) (v := ?_) rfl (by kernel_rfl) (by kernel_rfl) (by kernel_rfl) (by kernel_rfl) (fun _ _ _ h => h) (Or.inl ⟨by rfl, ?_⟩) (by assumption) ?_
      rotate_left
      · intro w hSw; (try dsimp only at hSw); (try subst hSw); go_simp; (try with_reducible rfl)
      simp only [Act.put, List.getElem_toArray, List.getElem_cons_zero, List.getElem_cons_succ, List.setIfInBounds_toArray, List.set_cons_zero, List.set_cons_succ]
      refine wpAnyK_take (i := 1) (oi := _) (v := ?_) rfl (by kernel_rfl) (by kernel_rfl) (by kernel_rfl) (by kernel_rfl) (fun _ _ _ h => h) (Or.inl ⟨by rfl, ?_⟩) (by assumption) ?_
      rotate_left
      · intro w hSw; (try dsimp only at hSw); (try subst hSw); go_simp; (try with_reducible rfl)
      simp only [Act.put, List.getElem_toArray, List.getElem_cons_zero, List.getElem_cons_succ, List.setIfInBounds_toArray, List.set_cons_zero, List.set_cons_succ]
      refine wpAnyK_take (i := 2) (oi := _) (v := ?_) rfl (by kernel_rfl) (by kernel_rfl) (by kernel_rfl) (by kernel_rfl) (fun _ _ _ h => h) (Or.inl ⟨by rfl, ?_⟩) (by assumption) ?_
      rotate_left
      · intro w hSw; (try dsimp only at hSw); (try subst hSw); go_simp; (try with_reducible rfl)
      simp only [Act.put, List.getElem_toArray, List.getElem_cons_zero, List.getElem_cons_succ, List.setIfInBounds_toArray, List.set_cons_zero, List.set_cons_succ]
      refine wpAnyK_take (i := 3) (oi := _) (v := ?_) rfl (by kernel_rfl) (by kernel_rfl) (by kernel_rfl) (by kernel_rfl) (fun _ _ _ h => h) (Or.inl ⟨by rfl, ?_⟩) (by assumption) ?_
      rotate_left
      · intro w hSw; (try dsimp only at hSw); (try subst hSw); go_simp; (try with_reducible rfl)
      simp only [Act.put, List.getElem_toArray, List.getElem_cons_zero, List.getElem_cons_succ, List.setIfInBounds_toArray, List.set_cons_zero, List.set_cons_succ]
      refine wpAnyK_take (i := 4) (oi := _) (v := ?_) rfl (by kernel_rfl) (by kernel_rfl) (by kernel_rfl) (by kernel_rfl) (fun _ _ _ h => h) (Or.inl ⟨by rfl, ?_⟩) (by assumption) ?_
      rotate_left
      · intro w hSw; (try dsimp only at hSw); (try subst hSw); go_simp; (try with_reducible rfl)
      simp only [Act.put, List.getElem_toArray, List.getElem_cons_zero, List.getElem_cons_succ, List.setIfInBounds_toArray, List.set_cons_zero, List.set_cons_succ]
      refine wpAnyK_take (i := 5) (oi := _) (v := ?_) rfl (by kernel_rfl) (by kernel_rfl) (by kernel_rfl) (by kernel_rfl) (fun _ _ _ h => h) (Or.inl ⟨by rfl, ?_⟩) (by assumption) ?_
      rotate_left
      · intro w hSw; (try dsimp only at hSw); (try subst hSw); go_simp; (try with_reducible rfl)
      simp only [Act.put, List.getElem_toArray, List.getElem_cons_zero, List.getElem_cons_succ, List.setIfInBounds_toArray, List.set_cons_zero, List.set_cons_succ]
      refine wpAnyK_take (i := 6) (oi := _) (v := ?_) rfl (by kernel_rfl) (by kernel_rfl) (by kernel_rfl) (by kernel_rfl) (fun _ _ _ h => h) (Or.inl ⟨by rfl, ?_⟩) (by assumption) ?_
      rotate_left
      · intro w hSw; (try dsimp only at hSw); (try subst hSw); go_simp; (try with_reducible rfl)
      simp only [Act.put, List.getElem_toArray, List.getElem_cons_zero, List.getElem_cons_succ, List.setIfInBounds_toArray, List.set_cons_zero, List.set_cons_succ]
      refine wpAnyK_take (i := 7) (oi := _) (v := ?_) rfl (by kernel_rfl) (by kernel_rfl) (by kernel_rfl) (by kernel_rfl) (fun _ _ _ h => h) (Or.inl ⟨by rfl, ?_⟩) (by assumption) ?_
      rotate_left
      · intro w hSw; (try dsimp only at hSw); (try subst hSw); go_simp; (try with_reducible rfl)
      simp only [Act.put, List.getElem_toArray, List.getElem_cons_zero, List.getElem_cons_succ, List.setIfInBounds_toArray, List.set_cons_zero, List.set_cons_succ]
      refine wpAnyK_one (i := 8) (o := _) (by kernel_rfl) rfl (fun K hK => ?_)
      go_simp
      ((go_at_call 48; (with_reducible refine (unhide hR _ _ _ _ _).mono ?_); rintro e w3 ⟨rfl, ⟨x, y, z, hq⟩, hb3⟩); go_wp2_with fail)
      refine hK.out _ _ (unhide hNS _ (NS.below hHeld.2.2 hb3)) (fun hHeld2 => ?_)
      clear hK K
      have hF2 := hide (fun (v : Bool) => unhide hF (w3.setCell ⟨wr.heap.size, 2, none⟩ (.bool v)) (Below.setCell hHeld2.2.2.2.1 (hHeld.2.2.2.1.size) _) ⟨wr.heap.size, 0, none⟩)
      have k2 : w3.cell? ⟨wr.heap.size, 2, none⟩ = some z := by have := hq.cell 2; simpa using this
      have k3 : w3.frozen? ⟨wr.heap.size, 2, none⟩ = false := hq.frozen 2
      have k4 := unhide hN2 w3 hHeld2.2.2
      clear hHeld2 hHeld hq hb3 hN2 hNS h0 hF hR
      refine wpAnyK_end (o := _) (by kernel_rfl) rfl (fun K hK => ?_)
      go_simp
      refine hK.out _ _ ?_
      clear hK K
      refine wpAnyK_done (by kernel_rfl) ?_ _
      go_wp2_with fail
      go_ret
      exact unhide hF2 _

set_option maxRecDepth 1000000 in
set_option maxHeartbeats 8000000 in
theorem nested_27 (w0 w : World) (t : Ty) (hkd : t.kd = 27) (hN : NC w0 w t) (h1 : t.nf = 2) : Calls Tryz.prog 44 #[t.val] w (PIf w) := by
  obtain ⟨W0, hw0, hT, hB0, hfs⟩ := nc_start hN
  have hpos := hN.pos
  have hmost := hN.most
  obtain ⟨c0, c1, c2, c3, c4, c5, c6, c7, c8, c9⟩ := hT.cells
  replace hT := hide hT
  replace hkd := hide hkd
  have htwo : (((t.nf : Nat) : Int) == 2) = true := by simp [h1]
  have hlt2 : (1 : Int) < (t.nf : Int) := by omega
  replace h1 := hide h1
  clear hN
  go_enter Tryz.func44, Tryz.ntmps44
  go_upto_region 1 with (fail)
  rw [← hw0]
  clear hw0
  go_wp2_with (first | (go_at_call 20; (with_reducible refine (unhide hfs).mono ?_); rintro e w2 ⟨l, b, c, rfl, hl, hlk, hb2, hnc, har⟩; have hst := hide (NR.start (c := c) ((unhide hT).below hb2) (below_tr (unhide hB0) hb2 (unhide hB0).size) har); replace hl := hide hl; replace hlk := hide hlk; clear har hb2) | fail)
  clear c0 c1 c2 c3 c4 c5 c6 c7 c8 c9 hB0 hT hfs
  go_loopw [17] (NR w t b c l) (fun v _ => t.nf - (intOf v).toNat)
  case atStart => exact unhide hst
  case round =>
    obtain ⟨k, rfl, hk, hT, hB, hA⟩ := hrel
    by_cases hlt : k < t.nf
    · have hlt' : (k : Int) < (t.nf : Int) := by omega
      have hnx := hide (fun (o : Obj) => NR.next (c := c) o hlt hT hB hA)
      obtain ⟨⟨f0, f1, f2, f3, f4⟩, _⟩ := hA.2 k (by rw [unhide hl]; exact hlt)
      have hw1 : IntKind.i64.wrap ((k : Int) + 1) = (k : Int) + 1 := (IntWalk.i64_left _).trans (IntWalk.wrap64_in _ (by omega))
      generalize l.getD k dA = r at *
      clear hT hB hA hst hl hlk
      go_wp2_with fail
      exact ⟨unhide hnx _, by show t.nf - (intOf (Value.int IntKind.i64 ((k : Int) + 1))).toNat < t.nf - (intOf (Value.int IntKind.i64 (k : Int))).toNat; simp only [intOf]; omega⟩
    · have hlt' : ¬ (k : Int) < (t.nf : Int) := by omega
      obtain ⟨c0, c1, c2, c3, c4, c5, c6, c7, c8, c9⟩ := hT.cells
      rw [unhide hkd] at c0
      clear hst hk
      have hNS := hide (fun (W : World) (h : NS w t b l W) => (show (fun W => W.cell? ⟨b, 1, none⟩ = some (.iface (l.getD 0 dA).tid (.pointer (some (l.getD 0 dA).p))) ∧ W.cell? ⟨b, 6, none⟩ = some (.iface (l.getD 1 dA).tid (.pointer (some (l.getD 1 dA).p))) ∧ W.cell? ⟨w.heap.size, 7, none⟩ = some (.bool t.fl) ∧ NS w t b l W) W from by
        obtain ⟨f0, f1, f2, f3, f4⟩ := h.2.2.zero (by rw [unhide hl]; exact hpos)
        obtain ⟨g0, g1, g2, g3, g4⟩ := h.2.2.one (by rw [unhide hl, unhide h1]; omega)
        exact ⟨f1, g1, h.1.cells.2.2.2.2.2.2.2.1, h⟩))
      have h0 := hide (NS.drew (⟨hT, hB, hA⟩ : NS w t b l wr))
      generalize l.getD 0 dA = r at *
      generalize l.getD 1 dA = r1 at *
      have hF := hide (fun (W : World) (h : Below w.heap.size w W) (p : Addr) => pif_mk 171 p h)
      clear hT hB hA hl hlk
      go_upto_region 25 with (fail)
      refine wp_region_K (S := fun W => W.cell? ⟨b, 1, none⟩ = some (.iface r.tid (.pointer (some r.p))) ∧ W.cell? ⟨b, 6, none⟩ = some (.iface r1.tid (.pointer (some r1.p))) ∧ W.cell? ⟨w.heap.size, 7, none⟩ = some (.bool t.fl) ∧ NS w t b l W) (k := 13) (by kernel_rfl) (unhide hNS _ (unhide h0)) (fun hHeld => ?_)
      refine wpAnyK_take (i := 0) (oi := _) (v := ?_) rfl (by kernel_rfl) (by kernel_rfl) (by kernel_rfl) (by kernel_rfl) (fun _ _ _ h => h) (Or.inl ⟨by rfl, ?_⟩) (by assumption) ?_
      rotate_left
      · intro w hSw; (try dsimp only at hSw); (try subst hSw); go_simp; (try with_reducible rfl)
      simp only [Act.put, List.getElem_toArray, List.getElem_cons_zero, List.getElem_cons_succ, List.setIfInBounds_toArray, List.set_cons_zero, List.set_cons_succ]
      refine wpAnyK_take (i := 1) (oi := _) (v := ?_) rfl (by kernel_rfl) (by kernel_rfl) (by kernel_rfl) (by kernel_rfl) (fun _ _ _ h => h) (Or.inl ⟨by rfl, ?_⟩) (by assumption) ?_
      rotate_left
      · intro w hSw; (try dsimp only at hSw); (try subst hSw); go_simp; (try with_reducible rfl)
      simp only [Act.put, List.getElem_toArray, List.getElem_cons_zero, List.getElem_cons_succ, List.setIfInBounds_toArray, List.set_cons_zero, List.set_cons_succ]
      refine wpAnyK_take (i := 2) (oi := _) (v := ?_) rfl (by kernel_rfl) (by kernel_rfl) (by kernel_rfl) (by kernel_rfl) (fun _ _ _ h => h) (Or.inl ⟨by rfl, ?_⟩) (by assumption) ?_
      rotate_left
      · intro w hSw; (try dsimp only at hSw); (try subst hSw); go_simp; (try with_reducible rfl)
      simp only [Act.put, List.getElem_toArray, List.getElem_cons_zero, List.getElem_cons_succ, List.setIfInBounds_toArray, List.set_cons_zero, List.set_cons_succ]
      refine wpAnyK_take (i := 3) (oi := _) (v := ?_) rfl (by kernel_rfl) (by kernel_rfl) (by kernel_rfl) (by kernel_rfl) (fun _ _ _ h => h) (Or.inl ⟨by rfl, ?_⟩) (by assumption) ?_
      rotate_left
      · intro w hSw; (try dsimp only at hSw); (try subst hSw); go_simp; (try with_reducible rfl)
      simp only [Act.put, List.getElem_toArray, List.getElem_cons_zero, List.getElem_cons_succ, List.setIfInBounds_toArray, List.set_cons_zero, List.set_cons_succ]
      refine wpAnyK_take (i := 4) (oi := _) (v := ?_) rfl (by kernel_rfl) (by kernel_rfl) (by kernel_rfl) (by kernel_rfl) (fun _ _ _ h => h) (Or.inl ⟨by rfl, ?_⟩) (by assumption) ?_
      rotate_left
      · intro w hSw; (try dsimp only at hSw); (try subst hSw); go_simp; (try with_reducible rfl)
      simp only [Act.put, List.getElem_toArray, List.getElem_cons_zero, List.getElem_cons_succ, List.setIfInBounds_toArray, List.set_cons_zero, List.set_cons_succ]
      refine wpAnyK_take (i := 5) (oi := _) (v := ?_) rfl (by kernel_rfl) (by kernel_rfl) (by kernel_rfl) (by kernel_rfl) (fun _ _ _ h => h) (Or.inl ⟨by rfl, ?_⟩) (by assumption) ?_
      rotate_left
      · intro w hSw; (try dsimp only at hSw); (try subst hSw); go_simp; (try with_reducible rfl)
      simp only [Act.put, List.getElem_toArray, List.getElem_cons_zero, List.getElem_cons_succ, List.setIfInBounds_toArray, List.set_cons_zero, List.set_cons_succ]
      refine wpAnyK_take (i := 6) (oi := _) (v := ?_) rfl (by kernel_rfl) (by kernel_rfl) (by kernel_rfl) (by kernel_rfl) (fun _ _ _ h => h) (Or.inl ⟨by rfl, ?_⟩) (by assumption) ?_
      rotate_left
      · intro w hSw; (try dsimp only at hSw); (try subst hSw); go_simp; (try with_reducible rfl)
      simp only [Act.put, List.getElem_toArray, List.getElem_cons_zero, List.getElem_cons_succ, List.setIfInBounds_toArray, List.set_cons_zero, List.set_cons_succ]
      refine wpAnyK_take (i := 7) (oi := _) (v := ?_) rfl (by kernel_rfl) (by kernel_rfl) (by kernel_rfl) (by kernel_rfl) (fun _ _ _ h => h) (Or.inl ⟨by rfl, ?_⟩) (by assumption) ?_
      rotate_left
      · intro w hSw; (try dsimp only at hSw); (try subst hSw); go_simp; (try with_reducible rfl)
      simp only [Act.put, List.getElem_toArray, List.getElem_cons_zero, List.getElem_cons_succ, List.setIfInBounds_toArray, List.set_cons_zero, List.set_cons_succ]
      refine wpAnyK_take (i := 8) (oi := _) (v := ?_) rfl (by kernel_rfl) (by kernel_rfl) (by kernel_rfl) (by kernel_rfl) (fun _ _ _ h => h) (Or.inl ⟨by rfl, ?_⟩) (by assumption) ?_
      rotate_left
      · intro w hSw; (try dsimp only at hSw); (try subst hSw); go_simp; (try with_reducible rfl)
      simp only [Act.put, List.getElem_toArray, List.getElem_cons_zero, List.getElem_cons_succ, List.setIfInBounds_toArray, List.set_cons_zero, List.set_cons_succ]
      refine wpAnyK_take (i := 9) (oi := _) (v := ?_) rfl (by kernel_rfl) (by kernel_rfl) (by kernel_rfl) (by kernel_rfl) (fun _ _ _ h => h) (Or.inl ⟨by rfl, ?_⟩) (by assumption) ?_
      rotate_left
      · intro w hSw; (try dsimp only at hSw); (try subst hSw); go_simp; (try with_reducible rfl)
      simp only [Act.put, List.getElem_toArray, List.getElem_cons_zero, List.getElem_cons_succ, List.setIfInBounds_toArray, List.set_cons_zero, List.set_cons_succ]
      refine wpAnyK_take (i := 10) (oi := _) (v := ?_) rfl (by kernel_rfl) (by kernel_rfl) (by kernel_rfl) (by kernel_rfl) (fun _ _ _ h => h) (Or.inl ⟨by rfl, ?_⟩) (by assumption) ?_
      rotate_left
      · intro w hSw; (try dsimp only at hSw); (try subst hSw); go_simp; (try with_reducible rfl)
      simp only [Act.put, List.getElem_toArray, List.getElem_cons_zero, List.getElem_cons_succ, List.setIfInBounds_toArray, List.set_cons_zero, List.set_cons_succ]
      refine wpAnyK_one (i := 11) (o := _) (by kernel_rfl) rfl (fun K hK => ?_)
      go_simp
      refine hK.out _ _ (unhide hNS _ (NS.below hHeld.2.2.2 ((Below.refl _ _).alloc (Nat.le_refl _) _))) (fun hHeld2 => ?_)
      clear hK K
      refine wpAnyK_take (i := 12) (oi := _) (v := ?_) rfl (by kernel_rfl) (by kernel_rfl) (by kernel_rfl) (by kernel_rfl) (fun _ _ _ h => h) (Or.inl ⟨by rfl, ?_⟩) (by assumption) ?_
      rotate_left
      · intro w hSw; (try dsimp only at hSw); (try subst hSw); go_simp; (try with_reducible rfl)
      simp only [Act.put, List.getElem_toArray, List.getElem_cons_zero, List.getElem_cons_succ, List.setIfInBounds_toArray, List.set_cons_zero, List.set_cons_succ]
      refine wpAnyK_end (o := _) (by kernel_rfl) rfl (fun K hK => ?_)
      go_simp
      refine hK.out _ _ ?_
      clear hK K
      refine wpAnyK_done (by kernel_rfl) ?_ _
      go_wp2_with fail
      go_ret
      exact unhide hF _ hHeld2.2.2.2.2.1 _

set_option maxRecDepth 1000000 in
set_option maxHeartbeats 8000000 in
theorem nested_17 (w0 w : World) (t : Ty) (hkd : t.kd = 17) (hN : NC w0 w t) (h1 : t.nf = 1) (b0 o0 : Nat) (haf : t.af = some ⟨b0, o0, none⟩) (ea : Option Addr) (ec : Nat) (hec : 2 ≤ ec) (hC : ∀ W, Below w.heap.size w W → W.cell? ⟨b0, o0 + 11, none⟩ = some (.slice ea 2 ec)) (hM : ∀ W, Below w.heap.size w W → Calls Tryz.prog 20 #[.slice ea 2 ec] W (FsP w0 W ea 2)) (hnl : (fAt w0 ea 0).nl = false) : Calls Tryz.prog 44 #[t.val] w (PIf w) := by
  obtain ⟨W0, hw0, hT, hB0, hfs⟩ := nc_start hN
  have hpos := hN.pos
  have hmost := hN.most
  obtain ⟨c0, c1, c2, c3, c4, c5, c6, c7, c8, c9⟩ := hT.cells
  replace hT := hide hT
  replace hkd := hide hkd
  have hone : (((t.nf : Nat) : Int) != 1) = false := by simp [h1]
  replace h1 := hide h1
  replace haf := hide haf
  clear hN
  go_enter Tryz.func44, Tryz.ntmps44
  go_upto_region 1 with (fail)
  rw [← hw0]
  clear hw0
  go_wp2_with (first | (go_at_call 20; (with_reducible refine (unhide hfs).mono ?_); rintro e w2 ⟨l, b, c, rfl, hl, hlk, hb2, hnc, har⟩; have hst := hide (NR.start (c := c) ((unhide hT).below hb2) (below_tr (unhide hB0) hb2 (unhide hB0).size) har); replace hl := hide hl; replace hlk := hide hlk; clear har hb2) | fail)
  clear c0 c1 c2 c3 c4 c5 c6 c7 c8 c9 hB0 hT hfs
  go_loopw [17] (NR w t b c l) (fun v _ => t.nf - (intOf v).toNat)
  case atStart => exact unhide hst
  case round =>
    obtain ⟨k, rfl, hk, hT, hB, hA⟩ := hrel
    by_cases hlt : k < t.nf
    · have hlt' : (k : Int) < (t.nf : Int) := by omega
      have hnx := hide (fun (o : Obj) => NR.next (c := c) o hlt hT hB hA)
      obtain ⟨⟨f0, f1, f2, f3, f4⟩, _⟩ := hA.2 k (by rw [unhide hl]; exact hlt)
      have hw1 : IntKind.i64.wrap ((k : Int) + 1) = (k : Int) + 1 := (IntWalk.i64_left _).trans (IntWalk.wrap64_in _ (by omega))
      generalize l.getD k dA = r at *
      clear hT hB hA hst hl hlk
      go_wp2_with fail
      exact ⟨unhide hnx _, by show t.nf - (intOf (Value.int IntKind.i64 ((k : Int) + 1))).toNat < t.nf - (intOf (Value.int IntKind.i64 (k : Int))).toNat; simp only [intOf]; omega⟩
    · have hlt' : ¬ (k : Int) < (t.nf : Int) := by omega
      obtain ⟨c0, c1, c2, c3, c4, c5, c6, c7, c8, c9⟩ := hT.cells
      rw [unhide hkd] at c0
      clear hst hk
      have hMp := hide (fun (W : World) (h : Below w.heap.size w W) => hM W h)
      have hcc := hC wr hB
      have hcc2 : wr.cell? ⟨b0, o0 + 2 + 9, none⟩ = some (.slice ea 2 ec) := hcc
      have c9' := c9
      rw [unhide haf] at c9'
      replace hnl := hide hnl
      have hTB := hide (And.intro hT hB)
      clear hT hB hA hl hlk hC hM c9 haf
      go_wp2_with (first | (go_at_call 20; (with_reducible refine (unhide hMp _ (unhide hTB).2).mono ?_); rintro e w3 ⟨l2, b2, c2, rfl, hl2, hlk2, hb3, hnc2, ha2⟩; have hl2' := hide hl2; have hlk3 := hide hlk2; have h0 := hide (⟨(unhide hTB).1.below hb3, below_tr (unhide hTB).2 hb3 (unhide hTB).2.size, ha2⟩ : NS w t b2 l2 w3); clear hl2 hlk2 ha2 hb3) | fail)
      have hNS := hide (fun (W : World) (h : NS w t b2 l2 W) => (show (fun W => W.cell? ⟨b2, 0, none⟩ = some (.string (l2.getD 0 dA).nm) ∧ W.cell? ⟨b2, 1, none⟩ = some (.iface (l2.getD 0 dA).tid (.pointer (some (l2.getD 0 dA).p))) ∧ W.cell? ⟨b2, 2, none⟩ = some (.bool (l2.getD 0 dA).nl) ∧ W.cell? ⟨b2, 3, none⟩ = some (.slice (l2.getD 0 dA).A 0 (l2.getD 0 dA).c) ∧ W.cell? ⟨b2, 4, none⟩ = some (.slice (l2.getD 0 dA).A' 0 (l2.getD 0 dA).c') ∧ W.cell? ⟨b2, 5, none⟩ = some (.string (l2.getD 1 dA).nm) ∧ W.cell? ⟨b2, 6, none⟩ = some (.iface (l2.getD 1 dA).tid (.pointer (some (l2.getD 1 dA).p))) ∧ W.cell? ⟨b2, 7, none⟩ = some (.bool (l2.getD 1 dA).nl) ∧ W.cell? ⟨b2, 8, none⟩ = some (.slice (l2.getD 1 dA).A 0 (l2.getD 1 dA).c) ∧ W.cell? ⟨b2, 9, none⟩ = some (.slice (l2.getD 1 dA).A' 0 (l2.getD 1 dA).c') ∧ NS w t b2 l2 W) W from by
        obtain ⟨f0, f1, f2, f3, f4⟩ := h.2.2.zero (by rw [unhide hl2']; omega)
        obtain ⟨g0, g1, g2, g3, g4⟩ := h.2.2.one (by rw [unhide hl2']; omega)
        exact ⟨f0, f1, f2, f3, f4, g0, g1, g2, g3, g4, h⟩))
      have hmo := hide (fun (W : World) => mapOf_any W (l2.getD 0 dA) (l2.getD 1 dA) (((unhide hlk3) 0 (by rw [unhide hl2']; omega)).2.trans (unhide hnl)))
      generalize l2.getD 0 dA = r at *
      generalize l2.getD 1 dA = r1 at *
      have hF := hide (fun (W : World) (h : Below w.heap.size w W) (p : Addr) => pif_mk 184 p h)
      refine wp_region_K (S := fun W => W.cell? ⟨b2, 0, none⟩ = some (.string r.nm) ∧ W.cell? ⟨b2, 1, none⟩ = some (.iface r.tid (.pointer (some r.p))) ∧ W.cell? ⟨b2, 2, none⟩ = some (.bool r.nl) ∧ W.cell? ⟨b2, 3, none⟩ = some (.slice r.A 0 r.c) ∧ W.cell? ⟨b2, 4, none⟩ = some (.slice r.A' 0 r.c') ∧ W.cell? ⟨b2, 5, none⟩ = some (.string r1.nm) ∧ W.cell? ⟨b2, 6, none⟩ = some (.iface r1.tid (.pointer (some r1.p))) ∧ W.cell? ⟨b2, 7, none⟩ = some (.bool r1.nl) ∧ W.cell? ⟨b2, 8, none⟩ = some (.slice r1.A 0 r1.c) ∧ W.cell? ⟨b2, 9, none⟩ = some (.slice r1.A' 0 r1.c') ∧ NS w t b2 l2 W) (k := 7) (by kernel_rfl) (unhide hNS _ (NS.drew (unhide h0))) (fun hHeld => ?_)
      refine wpAnyK_take (i := 0) (oi := _) (v := ?_) rfl (by kernel_rfl) (by kernel_rfl) (by kernel_rfl) (by kernel_rfl) (fun _ _ _ h => h) (Or.inl ⟨by rfl, ?_⟩) (by assumption) ?_
      rotate_left
      · intro w hSw; (try dsimp only at hSw); (try subst hSw); go_simp; (try with_reducible rfl)
      simp only [Act.put, List.getElem_toArray, List.getElem_cons_zero, List.getElem_cons_succ, List.setIfInBounds_toArray, List.set_cons_zero, List.set_cons_succ]
      refine wpAnyK_take (i := 1) (oi := _) (v := ?_) rfl (by kernel_rfl) (by kernel_rfl) (by kernel_rfl) (by kernel_rfl) (fun _ _ _ h => h) (Or.inl ⟨by rfl, ?_⟩) (by assumption) ?_
      rotate_left
      · intro w hSw; (try dsimp only at hSw); (try subst hSw); go_simp; (try with_reducible rfl)
      simp only [Act.put, List.getElem_toArray, List.getElem_cons_zero, List.getElem_cons_succ, List.setIfInBounds_toArray, List.set_cons_zero, List.set_cons_succ]
      refine wpAnyK_take (i := 2) (oi := _) (v := ?_) rfl (by kernel_rfl) (by kernel_rfl) (by kernel_rfl) (by kernel_rfl) (fun _ _ _ h => h) (Or.inl ⟨by rfl, ?_⟩) (by assumption) ?_
      rotate_left
      · intro w hSw; (try dsimp only at hSw); (try subst hSw); go_simp; (try with_reducible rfl)
      simp only [Act.put, List.getElem_toArray, List.getElem_cons_zero, List.getElem_cons_succ, List.setIfInBounds_toArray, List.set_cons_zero, List.set_cons_succ]
      refine wpAnyK_take (i := 3) (oi := _) (v := ?_) rfl (by kernel_rfl) (by kernel_rfl) (by kernel_rfl) (by kernel_rfl) (fun _ _ _ h => h) (Or.inl ⟨by rfl, ?_⟩) (by assumption) ?_
      rotate_left
      · intro w hSw; (try dsimp only at hSw); (try subst hSw); go_simp; (try with_reducible rfl)
      simp only [Act.put, List.getElem_toArray, List.getElem_cons_zero, List.getElem_cons_succ, List.setIfInBounds_toArray, List.set_cons_zero, List.set_cons_succ]
      refine wpAnyK_take (i := 4) (oi := _) (v := ?_) rfl (by kernel_rfl) (by kernel_rfl) (by kernel_rfl) (by kernel_rfl) (fun _ _ _ h => h) (Or.inl ⟨by rfl, ?_⟩) (by assumption) ?_
      rotate_left
      · intro w hSw; (try dsimp only at hSw); (try subst hSw); go_simp; (try with_reducible rfl)
      simp only [Act.put, List.getElem_toArray, List.getElem_cons_zero, List.getElem_cons_succ, List.setIfInBounds_toArray, List.set_cons_zero, List.set_cons_succ]
      refine wpAnyK_take (i := 5) (oi := _) (v := ?_) rfl (by kernel_rfl) (by kernel_rfl) (by kernel_rfl) (by kernel_rfl) (fun _ _ _ h => h) (Or.inl ⟨by rfl, ?_⟩) (by assumption) ?_
      rotate_left
      · intro w hSw; (try dsimp only at hSw); (try subst hSw); go_simp; (try with_reducible rfl)
      simp only [Act.put, List.getElem_toArray, List.getElem_cons_zero, List.getElem_cons_succ, List.setIfInBounds_toArray, List.set_cons_zero, List.set_cons_succ]
      refine wpAnyK_one (i := 6) (o := _) (by kernel_rfl) rfl (fun K hK => ?_)
      go_simp
      ((go_at_call 54; (with_reducible refine (unhide hmo _).mono ?_); rintro e w4 ⟨g, x, rfl, hg, hq, hb4⟩); go_wp2_with fail)
      refine hK.out _ _ (unhide hNS _ (NS.below hHeld.2.2.2.2.2.2.2.2.2.2 hb4)) (fun hHeld => ?_)
      clear hK K
      have k2 : w4.cell? ⟨g, 1, none⟩ = some (.bool false) := by have := hq.cell 1; simpa using this
      have k3 : w4.frozen? ⟨g, 1, none⟩ = false := hq.frozen 1
      have h4 := hHeld.2.2.2.2.2.2.2.2.2.2
      have hgw : w.heap.size ≤ g := Nat.le_trans (unhide h0).2.1.size hg
      have k4 := h4.1.cells.2.2.2.2.2.2.2.1
      have hF2 := hide (fun (v : Bool) => unhide hF (w4.setCell ⟨g, 1, none⟩ (.bool v)) (Below.setCell h4.2.1 hgw _) ⟨g, 0, none⟩)
      clear hHeld h4 hq hb4 hF hNS h0 hmo
      refine wpAnyK_end (o := _) (by kernel_rfl) rfl (fun K hK => ?_)
      go_simp
      refine hK.out _ _ ?_
      clear hK K
      refine wpAnyK_done (by kernel_rfl) ?_ _
      go_wp2_with fail
      go_ret
      exact unhide hF2 _

set_option maxRecDepth 1000000 in
set_option maxHeartbeats 8000000 in
theorem nested_14 (w0 w : World) (t : Ty) (hkd : t.kd = 14) (hN : NC w0 w t) (hni : t.ni = t.nf) (bi oi : Nat) (hai : t.ai = some ⟨bi, oi, none⟩) (hnc9 : t.nf ≤ t.ci) (hI : ∀ W, Below w.heap.size w W → ∀ k, k < t.nf → W.cell? ⟨bi, oi + k, none⟩ = some (.int .i64 (iAt w0 t.ai k))) (hids : ∀ k, k < t.nf → 0 ≤ iAt w0 t.ai k ∧ iAt w0 t.ai k ≤ 126 ∧ ∀ j, j < k → iAt w0 t.ai j ≠ iAt w0 t.ai k) : Calls Tryz.prog 44 #[t.val] w (PIf w) := by
  obtain ⟨W0, hw0, hT, hB0, hfs⟩ := nc_start hN
  have hpos := hN.pos
  have hmost := hN.most
  obtain ⟨c0, c1, c2, c3, c4, c5, c6, c7, c8, c9⟩ := hT.cells
  replace hT := hide hT
  replace hkd := hide hkd
  replace hni := hide hni
  replace hai := hide hai
  clear hN
  go_enter Tryz.func44, Tryz.ntmps44
  go_upto_region 1 with (fail)
  rw [← hw0]
  clear hw0
  go_wp2_with (first | (go_at_call 20; (with_reducible refine (unhide hfs).mono ?_); rintro e w2 ⟨l, b, c, rfl, hl, hlk, hb2, hnc, har⟩; have hst := hide (NR.start (c := c) ((unhide hT).below hb2) (below_tr (unhide hB0) hb2 (unhide hB0).size) har); replace hl := hide hl; replace hlk := hide hlk; clear har hb2) | fail)
  clear c0 c1 c2 c3 c4 c5 c6 c7 c8 c9 hB0 hT hfs
  go_loopw [17] (NR w t b c l) (fun v _ => t.nf - (intOf v).toNat)
  case atStart => exact unhide hst
  case round =>
    obtain ⟨k, rfl, hk, hT, hB, hA⟩ := hrel
    by_cases hlt : k < t.nf
    · have hlt' : (k : Int) < (t.nf : Int) := by omega
      have hnx := hide (fun (o : Obj) => NR.next (c := c) o hlt hT hB hA)
      obtain ⟨⟨f0, f1, f2, f3, f4⟩, _⟩ := hA.2 k (by rw [unhide hl]; exact hlt)
      have hw1 : IntKind.i64.wrap ((k : Int) + 1) = (k : Int) + 1 := (IntWalk.i64_left _).trans (IntWalk.wrap64_in _ (by omega))
      generalize l.getD k dA = r at *
      clear hT hB hA hst hl hlk
      go_wp2_with fail
      exact ⟨unhide hnx _, by show t.nf - (intOf (Value.int IntKind.i64 ((k : Int) + 1))).toNat < t.nf - (intOf (Value.int IntKind.i64 (k : Int))).toNat; simp only [intOf]; omega⟩
    · have hlt' : ¬ (k : Int) < (t.nf : Int) := by omega
      obtain ⟨c0, c1, c2, c3, c4, c5, c6, c7, c8, c9⟩ := hT.cells
      rw [unhide hkd] at c0
      clear hst hk
      rw [unhide hai, unhide hni] at c8
      have hN0 := hide (⟨hT, hB, hA⟩ : NS w t b l wr)
      have hst2 := hide (UL.start wr (iAt w0 t.ai) t.nf)
      obtain ⟨i0, hi, hz0, hz1, hz2⟩ := info_parts info_162
      clear hT hB hA
      obtain ⟨wo, rfl⟩ : ∃ wo : World, wo = wr := ⟨_, rfl⟩
      go_wp2_with fail
      go_loopw [6, 47] (UL wo (iAt w0 t.ai) t.nf) (fun _ v _ => t.nf - (intOf v).toNat)
      case atStart => exact unhide hst2
      case round =>
        obtain ⟨k2, rfl, hk2, hbx, hown⟩ := hrel
        have hNx := NS.below (unhide hN0) hbx
        by_cases hlt2 : k2 < t.nf
        · have hlt2' : (k2 : Int) < (t.nf : Int) := by omega
          have hcc := hI wr hNx.2.1 k2 hlt2
          obtain ⟨x0, x1, _⟩ := hids k2 hlt2
          have hcv : IntKind.i8.wrap (iAt w0 t.ai k2) = iAt w0 t.ai k2 := IntWalk.i8_in _ ⟨by omega, by omega⟩
          have hw2 : IntKind.i64.wrap ((k2 : Int) + 1) = (k2 : Int) + 1 := (IntWalk.i64_left _).trans (IntWalk.wrap64_in _ (by omega))
          have hnx := hide (fun (v' : Value) (w4 : World) (ho : w4.ownsRow wo.heap.size 162 1 v' (k2 + 1) (((List.range k2).map fun j => Value.int .i8 (iAt w0 t.ai j)) ++ [.int .i8 (iAt w0 t.ai k2)])) (hg : (wr.alloc (.cells #[.int .i8 (iAt w0 t.ai k2)] 162)).grownBy w4 u6.ownBlock) => UL.next hlt2 hbx hown ho hg)
          have hown' := hide (hown.alloc (.cells #[.int .i8 (iAt w0 t.ai k2)] 162))
          have hle : wo.heap.size ≤ (wr.alloc (.cells #[.int .i8 (iAt w0 t.ai k2)] 162)).heap.size := by have := hbx.size; simp; omega
          have hnw := hide (Go.cell_one_new wr (.int .i8 (iAt w0 t.ai k2)) 162)
          have hk100 : k2 ≤ 100 := by omega
          generalize hL : (List.range k2).map (fun j => Value.int .i8 (iAt w0 t.ai j)) = L at *
          generalize iAt w0 t.ai k2 = x at *
          clear hL hown hbx hNx hN0 hst2 hids hI
          go_wp2_with (first
            | (at_builtin; refine wpList_append_own _ rfl _ _ 161 rfl wo.heap.size 162 i0 _ 1 1 Tryz.underlying161 hi hz0 hz1 hz2 rfl (by decide) _ _ _ rfl (unhide hown') ⟨wr.heap.size, 0, none⟩ 1 1 [.int .i8 x] rfl rfl (unhide hnw) (by intro u hu; simp at hu; subst hu; rfl) (by unfold maxLen; omega) (by omega) hle ?_; intro v' w4 hown4 hgrow4 hnil4)
            | fail)
          exact ⟨unhide hnx v' w4 hown4 hgrow4, by show t.nf - (intOf (Value.int IntKind.i64 ((k2 : Int) + 1))).toNat < t.nf - (intOf (Value.int IntKind.i64 (k2 : Int))).toNat; simp only [intOf]; omega⟩
        · have hlt2' : ¬ (k2 : Int) < (t.nf : Int) := by omega
          obtain rfl : k2 = t.nf := by omega
          obtain ⟨g, cap, rfl, hcap, hcd⟩ := UL.done hpos hown
          obtain ⟨d0, d1, d2, d3, d4, d5, d6, d7, d8, d9⟩ := hNx.1.cells
          by_cases hu : t.un = 0
          · have hz : (t.un == 0) = true := by simp [hu]
            clear hu
            have hS := hide (sparseOf_any wr (some ⟨b, 0, none⟩) g t.nf c cap ((List.range t.nf).map (iAt w0 t.ai)) (by simp) (idl_of hmost hids) hcd)
            rw [List.length_map, List.length_range] at hS
            have hBx := hNx.2.1
            have hF := hide (fun (W : World) (p : Addr) (h : Below wr.heap.size wr W) => pif_mk 163 p (below_tr hBx h hBx.size))
            clear hcd hBx hids hI hNx hbx hown hN0 hst2
            go_wp2_with (first | (go_at_call 46; (with_reducible refine (unhide hS).mono ?_); rintro e w3 ⟨p, rfl, hb3⟩) | fail)
            go_ret
            exact unhide hF _ _ hb3
          · have hz : (t.un == 0) = false := by simp [hu]
            clear hu
            have hS := hide (denseOf_any wr (some ⟨b, 0, none⟩) g t.nf c cap ((List.range t.nf).map (iAt w0 t.ai)) (by simp) (idl_of hmost hids) hcd)
            rw [List.length_map, List.length_range] at hS
            have hBx := hNx.2.1
            have hF := hide (fun (W : World) (p : Addr) (h : Below wr.heap.size wr W) => pif_mk 165 p (below_tr hBx h hBx.size))
            clear hcd hBx hids hI hNx hbx hown hN0 hst2
            go_wp2_with (first | (go_at_call 47; (with_reducible refine (unhide hS).mono ?_); rintro e w3 ⟨p, rfl, hb3⟩) | fail)
            go_ret
            exact unhide hF _ _ hb3

set_option maxRecDepth 1000000 in
set_option maxHeartbeats 8000000 in
theorem nested_13z (w : World) (t : Ty) (hkd : t.kd = 13) (h0 : t.nf = 0) (hfs : ∀ W, Below w.heap.size w W → Calls Tryz.prog 20 #[.slice t.af t.nf t.cf] W fun e w' => ∃ A c, e = .returned (.slice A 0 c) ∧ Below W.heap.size W w') : Calls Tryz.prog 44 #[t.val] w (PIf w) := by
  have hB0 := (show Below w.heap.size w (w.alloc (.cells #[.int .i64 t.kd, .int .i64 t.wd, .bool t.sg, .int .i64 t.un, .int .i64 t.pr, .int .i64 t.sc, .string t.zn, .bool t.fl, .slice t.ai t.ni t.ci, .slice t.af t.nf t.cf] 30)) from (Below.refl _ _).alloc (Nat.le_refl _) _)
  replace hfs := hide (hfs _ hB0)
  have hT := TB.new w t
  obtain ⟨W0, hw0⟩ : ∃ W0, W0 = (w.alloc (.cells #[.int .i64 t.kd, .int .i64 t.wd, .bool t.sg, .int .i64 t.un, .int .i64 t.pr, .int .i64 t.sc, .string t.zn, .bool t.fl, .slice t.ai t.ni t.ci, .slice t.af t.nf t.cf] 30)) := ⟨_, rfl⟩
  rw [← hw0] at hB0 hfs hT
  obtain ⟨c0, c1, c2, c3, c4, c5, c6, c7, c8, c9⟩ := hT.cells
  replace hT := hide hT
  replace hB0 := hide hB0
  replace hkd := hide hkd
  clear h0
  have hF := hide (fun (W : World) (p : Addr) (h : Below w.heap.size w W) => pif_mk 159 p h)
  have hS := hide (fun (W : World) (A : Option Addr) (c : Nat) => structOf_nil W A c)
  go_enter Tryz.func44, Tryz.ntmps44
  go_upto_region 1 with (fail)
  rw [← hw0]
  clear hw0
  go_wp2_with (first | (go_at_call 20; (with_reducible refine (unhide hfs).mono ?_); rintro e w2 ⟨A, c, rfl, hb2⟩; have hT2 := (unhide hT).below hb2; have hB2 := hide (below_tr (unhide hB0) hb2 (unhide hB0).size); obtain ⟨d0, d1, d2, d3, d4, d5, d6, d7, d8, d9⟩ := hT2.cells; rw [unhide hkd] at d0) | fail)
  refine wp_loop_rounds 1 ?_
  rw [rounds_succ]
  clear c0 c1 c2 c3 c4 c5 c6 c7 c8 c9 hT2
  go_wp2_with (first | (go_at_call 45; (with_reducible refine (unhide hS _ _ _).mono ?_); rintro e w3 ⟨p, rfl, hb3⟩) | fail)
  go_ret
  exact unhide hF _ _ (below_tr (unhide hB2) hb3 (unhide hB2).size)
end Go.Proofs.YtconkcjcjdmidaaGreatDoor
