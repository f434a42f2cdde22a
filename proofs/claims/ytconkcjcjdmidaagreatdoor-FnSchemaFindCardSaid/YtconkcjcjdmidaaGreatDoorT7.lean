/- Whether what a kind does not use is zero. (YtconkcjcjdmidaaGreatDoor) -/
import Derived.Test.YtconkcjcjdmidaaGreatDoorT5
import Derived.Test.YtconkcjcjdmidaaGreatDoorLC
set_option linter.unusedVariables false
set_option linter.unusedSimpArgs false
namespace Go.Proofs.YtconkcjcjdmidaaGreatDoor
open Go.RowKit Go.ChangeShapes Go.WideShapes Go.ChangeAt Go
theorem ivs_blk {w : World} {g : Nat} {t : TypeId} (zs : List Int) (h : Blk w g t (zs.map (Value.int .i64)).toArray) : ∀ j, j < zs.length → w.cell? ⟨g, 0 + j, none⟩ = some (.int .i64 (zs.getD j 0)) := fun j hj => by
  have := h.cell j
  rw [Nat.zero_add, this]
  simp [List.getD_eq_getElem?_getD, List.getElem?_eq_getElem hj]
/-- 'in' of numbers just written out. -/
theorem in_lit (w : World) (n : Int) (zs : List Int) (cs : Array Value) (hc : cs = (zs.map (Value.int .i64)).toArray) (hz : zs.length ≤ maxLen) (m : Nat) (hm : m = zs.length) :
    Calls Tryz.prog 31 #[.int .i64 n, .slice (some ⟨w.heap.size, 0, none⟩) m m] (w.alloc (.cells cs 3)) (PBl w (decide (n ∈ zs))) := by
  subst hm
  subst hc
  refine (in_any _ n w.heap.size 0 zs.length zs hz (ivs_blk zs (Blk.new 3 _ rfl))).mono ?_
  rintro e w' ⟨rfl, rfl⟩
  exact ⟨rfl, (Below.refl _ _).alloc (Nat.le_refl _) _⟩
theorem in_lit' (W : World) (n : Int) (zs : List Int) (cs : Array Value) (hc : cs = (zs.map (Value.int .i64)).toArray) (hz : zs.length ≤ maxLen) (m : Nat) (hm : m = zs.length) :
    Calls Tryz.prog 31 #[.int .i64 n, .slice (some ⟨W.heap.size, 0, none⟩) m m] (W.alloc (.cells cs 3)) (PSome W) :=
  (in_lit W n zs cs hc hz m hm).mono fun e w' h => ⟨_, h⟩
def UC0 (w : World) (t : Ty) (a : Act) (W : World) : Prop := ∃ (b : Bool) (x4 x5 x6 x7 x8 x9 x10 x11 x12 x13 x15 x16 x17 x18 x19 x20 x21 x22 x23 x24 x25 x26 x27 x28 x29 x30 x31 x32 x33 x34 x35 x36 x37 x38 x39 x40 x41 x42 x43 x44 x45 x46 x47 x48 x49 x50 x51 x52 x53 x54 x55 x56 x57 x58 x59 x60 x61 x62 x63 x64 x65 x66 x67 x68 x69 x70 x71 x72 x73 x74 x75 : Value), a = ⟨#[t.val, .pointer (some ⟨w.heap.size, 0, none⟩), .bool false, .int .i64 t.kd, x4, x5, x6, x7, x8, x9, x10, x11, x12, x13, .bool b, x15, x16, x17, x18, x19, x20, x21, x22, x23, x24, x25, x26, x27, x28, x29, x30, x31, x32, x33, x34, x35, x36, x37, x38, x39, x40, x41, x42, x43, x44, x45, x46, x47, x48, x49, x50, x51, x52, x53, x54, x55, x56, x57, x58, x59, x60, x61, x62, x63, x64, x65, x66, x67, x68, x69, x70, x71, x72, x73, x74, x75], []⟩ ∧ TB W w.heap.size t ∧ Below w.heap.size w W
def UC1 (w : World) (t : Ty) (a : Act) (W : World) : Prop := ∃ (b : Bool) (x4 x5 x6 x7 x8 x9 x10 x11 x12 x13 x14 x15 x16 x17 x18 x19 x20 x21 x22 x24 x25 x26 x27 x28 x29 x30 x31 x32 x33 x34 x35 x36 x37 x38 x39 x40 x41 x42 x43 x44 x45 x46 x47 x48 x49 x50 x51 x52 x53 x54 x55 x56 x57 x58 x59 x60 x61 x62 x63 x64 x65 x66 x67 x68 x69 x70 x71 x72 x73 x74 x75 : Value), a = ⟨#[t.val, .pointer (some ⟨w.heap.size, 0, none⟩), .bool false, .int .i64 t.kd, x4, x5, x6, x7, x8, x9, x10, x11, x12, x13, x14, x15, x16, x17, x18, x19, x20, x21, x22, .bool b, x24, x25, x26, x27, x28, x29, x30, x31, x32, x33, x34, x35, x36, x37, x38, x39, x40, x41, x42, x43, x44, x45, x46, x47, x48, x49, x50, x51, x52, x53, x54, x55, x56, x57, x58, x59, x60, x61, x62, x63, x64, x65, x66, x67, x68, x69, x70, x71, x72, x73, x74, x75], []⟩ ∧ TB W w.heap.size t ∧ Below w.heap.size w W
def UC2 (w : World) (t : Ty) (a : Act) (W : World) : Prop := ∃ (b : Bool) (x4 x5 x6 x7 x8 x9 x10 x11 x12 x13 x14 x15 x16 x17 x18 x19 x20 x21 x22 x23 x24 x25 x26 x27 x28 x29 x30 x31 x32 x34 x35 x36 x37 x38 x39 x40 x41 x42 x43 x44 x45 x46 x47 x48 x49 x50 x51 x52 x53 x54 x55 x56 x57 x58 x59 x60 x61 x62 x63 x64 x65 x66 x67 x68 x69 x70 x71 x72 x73 x74 x75 : Value), a = ⟨#[t.val, .pointer (some ⟨w.heap.size, 0, none⟩), .bool false, .int .i64 t.kd, x4, x5, x6, x7, x8, x9, x10, x11, x12, x13, x14, x15, x16, x17, x18, x19, x20, x21, x22, x23, x24, x25, x26, x27, x28, x29, x30, x31, x32, .bool b, x34, x35, x36, x37, x38, x39, x40, x41, x42, x43, x44, x45, x46, x47, x48, x49, x50, x51, x52, x53, x54, x55, x56, x57, x58, x59, x60, x61, x62, x63, x64, x65, x66, x67, x68, x69, x70, x71, x72, x73, x74, x75], []⟩ ∧ TB W w.heap.size t ∧ Below w.heap.size w W
def UC3 (w : World) (t : Ty) (a : Act) (W : World) : Prop := ∃ (b : Bool) (x4 x5 x6 x7 x8 x9 x10 x11 x12 x13 x14 x15 x16 x17 x18 x19 x20 x21 x22 x23 x24 x25 x26 x27 x28 x29 x30 x31 x32 x33 x34 x35 x36 x37 x38 x39 x40 x41 x42 x43 x44 x45 x46 x48 x49 x50 x51 x52 x53 x54 x55 x56 x57 x58 x59 x60 x61 x62 x63 x64 x65 x66 x67 x68 x69 x70 x71 x72 x73 x74 x75 : Value), a = ⟨#[t.val, .pointer (some ⟨w.heap.size, 0, none⟩), .bool false, .int .i64 t.kd, x4, x5, x6, x7, x8, x9, x10, x11, x12, x13, x14, x15, x16, x17, x18, x19, x20, x21, x22, x23, x24, x25, x26, x27, x28, x29, x30, x31, x32, x33, x34, x35, x36, x37, x38, x39, x40, x41, x42, x43, x44, x45, x46, .bool b, x48, x49, x50, x51, x52, x53, x54, x55, x56, x57, x58, x59, x60, x61, x62, x63, x64, x65, x66, x67, x68, x69, x70, x71, x72, x73, x74, x75], []⟩ ∧ TB W w.heap.size t ∧ Below w.heap.size w W
def UC4 (w : World) (t : Ty) (a : Act) (W : World) : Prop := ∃ (b : Bool) (x4 x5 x6 x7 x8 x9 x10 x11 x12 x13 x14 x15 x16 x17 x18 x19 x20 x21 x22 x23 x24 x25 x26 x27 x28 x29 x30 x31 x32 x33 x34 x35 x36 x37 x38 x39 x40 x41 x42 x43 x44 x45 x46 x47 x48 x49 x50 x51 x52 x53 x54 x55 x57 x58 x59 x60 x61 x62 x63 x64 x65 x66 x67 x68 x69 x70 x71 x72 x73 x74 x75 : Value), a = ⟨#[t.val, .pointer (some ⟨w.heap.size, 0, none⟩), .bool false, .int .i64 t.kd, x4, x5, x6, x7, x8, x9, x10, x11, x12, x13, x14, x15, x16, x17, x18, x19, x20, x21, x22, x23, x24, x25, x26, x27, x28, x29, x30, x31, x32, x33, x34, x35, x36, x37, x38, x39, x40, x41, x42, x43, x44, x45, x46, x47, x48, x49, x50, x51, x52, x53, x54, x55, .bool b, x57, x58, x59, x60, x61, x62, x63, x64, x65, x66, x67, x68, x69, x70, x71, x72, x73, x74, x75], []⟩ ∧ TB W w.heap.size t ∧ Below w.heap.size w W
def UC5 (w : World) (t : Ty) (a : Act) (W : World) : Prop := ∃ (b : Bool) (x4 x5 x6 x7 x8 x9 x10 x11 x12 x13 x14 x15 x16 x17 x18 x19 x20 x21 x22 x23 x24 x25 x26 x27 x28 x29 x30 x31 x32 x33 x34 x35 x36 x37 x38 x39 x40 x41 x42 x43 x44 x45 x46 x47 x48 x49 x50 x51 x52 x53 x54 x55 x56 x57 x58 x59 x60 x61 x62 x63 x64 x65 x67 x68 x69 x70 x71 x72 x73 x74 x75 : Value), a = ⟨#[t.val, .pointer (some ⟨w.heap.size, 0, none⟩), .bool false, .int .i64 t.kd, x4, x5, x6, x7, x8, x9, x10, x11, x12, x13, x14, x15, x16, x17, x18, x19, x20, x21, x22, x23, x24, x25, x26, x27, x28, x29, x30, x31, x32, x33, x34, x35, x36, x37, x38, x39, x40, x41, x42, x43, x44, x45, x46, x47, x48, x49, x50, x51, x52, x53, x54, x55, x56, x57, x58, x59, x60, x61, x62, x63, x64, x65, .bool b, x67, x68, x69, x70, x71, x72, x73, x74, x75], []⟩ ∧ TB W w.heap.size t ∧ Below w.heap.size w W
set_option maxRecDepth 100000 in
set_option maxHeartbeats 4000000 in
theorem unused_any (w : World) (t : Ty) : Calls Tryz.prog 29 #[t.val] w (PSome w) := by
  have h5 := hide (fun (W : World) => in_lit' W t.kd [2, 3, 7, 15, 16] #[.int .i64 2, .int .i64 3, .int .i64 7, .int .i64 15, .int .i64 16] rfl (by decide) 5 rfl)
  have h6 := hide (fun (W : World) => in_lit' W t.kd [8, 9, 10, 11, 14, 18] #[.int .i64 8, .int .i64 9, .int .i64 10, .int .i64 11, .int .i64 14, .int .i64 18] rfl (by decide) 6 rfl)
  have h2 := hide (fun (W : World) => in_lit' W t.kd [17, 27] #[.int .i64 17, .int .i64 27] rfl (by decide) 2 rfl)
  have hT0 := TB.new w t
  have hB0 : Below w.heap.size w (w.alloc (.cells #[.int .i64 t.kd, .int .i64 t.wd, .bool t.sg, .int .i64 t.un, .int .i64 t.pr, .int .i64 t.sc, .string t.zn, .bool t.fl, .slice t.ai t.ni t.ci, .slice t.af t.nf t.cf] 30)) := (Below.refl _ _).alloc (Nat.le_refl _) _
  go_enter Tryz.func29, Tryz.ntmps29
  go_upto_region 2 with (fail)
  have hT := hT0
  have hB := hB0
  clear hT0 hB0
  generalize w.alloc (.cells #[.int .i64 t.kd, .int .i64 t.wd, .bool t.sg, .int .i64 t.un, .int .i64 t.pr, .int .i64 t.sc, .string t.zn, .bool t.fl, .slice t.ai t.ni t.ci, .slice t.af t.nf t.cf] 30) = W0 at hT hB ⊢
  refine wp_region_lit ?_
  obtain ⟨c0, c1, c2, c3, c4, c5, c6, c7, c8, c9⟩ := hT.cells
  refine wpList_cutAt 9 (UC0 w t) ?_ ?_
  · simp only [List.append_eq, List.cons_append, List.nil_append, List.take_succ_cons, List.take_zero]
    go_wp2_with (first
      | (go_at_call 31; (with_reducible refine (unhide h5 _).mono ?_); rintro e w1 ⟨b1, rfl, hb1⟩; have hT1 := hT.below hb1; have hB1 := below_tr hB hb1 hB.size)
      | (go_at_call 31; (with_reducible refine (unhide h6 _).mono ?_); rintro e w1 ⟨b1, rfl, hb1⟩; have hT1 := hT.below hb1; have hB1 := below_tr hB hb1 hB.size)
      | (go_at_call 31; (with_reducible refine (unhide h2 _).mono ?_); rintro e w1 ⟨b1, rfl, hb1⟩; have hT1 := hT.below hb1; have hB1 := below_tr hB hb1 hB.size)
      | fail)
    all_goals first
      | exact ⟨_, _, _, _, _, _, _, _, _, _, _, _, _, _, _, _, _, _, _, _, _, _, _, _, _, _, _, _, _, _, _, _, _, _, _, _, _, _, _, _, _, _, _, _, _, _, _, _, _, _, _, _, _, _, _, _, _, _, _, _, _, _, _, _, _, _, _, _, _, _, _, _, rfl, hT1, hB1⟩
      | exact ⟨_, _, _, _, _, _, _, _, _, _, _, _, _, _, _, _, _, _, _, _, _, _, _, _, _, _, _, _, _, _, _, _, _, _, _, _, _, _, _, _, _, _, _, _, _, _, _, _, _, _, _, _, _, _, _, _, _, _, _, _, _, _, _, _, _, _, _, _, _, _, _, _, rfl, hT, hB⟩
  simp only [List.append_eq, List.cons_append, List.nil_append, List.drop_succ_cons, List.drop_zero]
  clear hT hB c0 c1 c2 c3 c4 c5 c6 c7 c8 c9
  rintro a W ⟨b, x4, x5, x6, x7, x8, x9, x10, x11, x12, x13, x15, x16, x17, x18, x19, x20, x21, x22, x23, x24, x25, x26, x27, x28, x29, x30, x31, x32, x33, x34, x35, x36, x37, x38, x39, x40, x41, x42, x43, x44, x45, x46, x47, x48, x49, x50, x51, x52, x53, x54, x55, x56, x57, x58, x59, x60, x61, x62, x63, x64, x65, x66, x67, x68, x69, x70, x71, x72, x73, x74, x75, rfl, hT, hB⟩
  obtain ⟨c0, c1, c2, c3, c4, c5, c6, c7, c8, c9⟩ := hT.cells
  refine wpList_cutAt 9 (UC1 w t) ?_ ?_
  · simp only [List.append_eq, List.cons_append, List.nil_append, List.take_succ_cons, List.take_zero]
    go_wp2_with (first
      | (go_at_call 31; (with_reducible refine (unhide h5 _).mono ?_); rintro e w1 ⟨b1, rfl, hb1⟩; have hT1 := hT.below hb1; have hB1 := below_tr hB hb1 hB.size)
      | (go_at_call 31; (with_reducible refine (unhide h6 _).mono ?_); rintro e w1 ⟨b1, rfl, hb1⟩; have hT1 := hT.below hb1; have hB1 := below_tr hB hb1 hB.size)
      | (go_at_call 31; (with_reducible refine (unhide h2 _).mono ?_); rintro e w1 ⟨b1, rfl, hb1⟩; have hT1 := hT.below hb1; have hB1 := below_tr hB hb1 hB.size)
      | fail)
    all_goals first
      | exact ⟨_, _, _, _, _, _, _, _, _, _, _, _, _, _, _, _, _, _, _, _, _, _, _, _, _, _, _, _, _, _, _, _, _, _, _, _, _, _, _, _, _, _, _, _, _, _, _, _, _, _, _, _, _, _, _, _, _, _, _, _, _, _, _, _, _, _, _, _, _, _, _, _, rfl, hT1, hB1⟩
      | exact ⟨_, _, _, _, _, _, _, _, _, _, _, _, _, _, _, _, _, _, _, _, _, _, _, _, _, _, _, _, _, _, _, _, _, _, _, _, _, _, _, _, _, _, _, _, _, _, _, _, _, _, _, _, _, _, _, _, _, _, _, _, _, _, _, _, _, _, _, _, _, _, _, _, rfl, hT, hB⟩
  simp only [List.append_eq, List.cons_append, List.nil_append, List.drop_succ_cons, List.drop_zero]
  clear hT hB c0 c1 c2 c3 c4 c5 c6 c7 c8 c9
  rintro a W ⟨b, x4, x5, x6, x7, x8, x9, x10, x11, x12, x13, x14, x15, x16, x17, x18, x19, x20, x21, x22, x24, x25, x26, x27, x28, x29, x30, x31, x32, x33, x34, x35, x36, x37, x38, x39, x40, x41, x42, x43, x44, x45, x46, x47, x48, x49, x50, x51, x52, x53, x54, x55, x56, x57, x58, x59, x60, x61, x62, x63, x64, x65, x66, x67, x68, x69, x70, x71, x72, x73, x74, x75, rfl, hT, hB⟩
  obtain ⟨c0, c1, c2, c3, c4, c5, c6, c7, c8, c9⟩ := hT.cells
  refine wpList_cutAt 10 (UC2 w t) ?_ ?_
  · simp only [List.append_eq, List.cons_append, List.nil_append, List.take_succ_cons, List.take_zero]
    go_wp2_with (first
      | (go_at_call 31; (with_reducible refine (unhide h5 _).mono ?_); rintro e w1 ⟨b1, rfl, hb1⟩; have hT1 := hT.below hb1; have hB1 := below_tr hB hb1 hB.size)
      | (go_at_call 31; (with_reducible refine (unhide h6 _).mono ?_); rintro e w1 ⟨b1, rfl, hb1⟩; have hT1 := hT.below hb1; have hB1 := below_tr hB hb1 hB.size)
      | (go_at_call 31; (with_reducible refine (unhide h2 _).mono ?_); rintro e w1 ⟨b1, rfl, hb1⟩; have hT1 := hT.below hb1; have hB1 := below_tr hB hb1 hB.size)
      | fail)
    all_goals first
      | exact ⟨_, _, _, _, _, _, _, _, _, _, _, _, _, _, _, _, _, _, _, _, _, _, _, _, _, _, _, _, _, _, _, _, _, _, _, _, _, _, _, _, _, _, _, _, _, _, _, _, _, _, _, _, _, _, _, _, _, _, _, _, _, _, _, _, _, _, _, _, _, _, _, _, rfl, hT1, hB1⟩
      | exact ⟨_, _, _, _, _, _, _, _, _, _, _, _, _, _, _, _, _, _, _, _, _, _, _, _, _, _, _, _, _, _, _, _, _, _, _, _, _, _, _, _, _, _, _, _, _, _, _, _, _, _, _, _, _, _, _, _, _, _, _, _, _, _, _, _, _, _, _, _, _, _, _, _, rfl, hT, hB⟩
  simp only [List.append_eq, List.cons_append, List.nil_append, List.drop_succ_cons, List.drop_zero]
  clear hT hB c0 c1 c2 c3 c4 c5 c6 c7 c8 c9
  rintro a W ⟨b, x4, x5, x6, x7, x8, x9, x10, x11, x12, x13, x14, x15, x16, x17, x18, x19, x20, x21, x22, x23, x24, x25, x26, x27, x28, x29, x30, x31, x32, x34, x35, x36, x37, x38, x39, x40, x41, x42, x43, x44, x45, x46, x47, x48, x49, x50, x51, x52, x53, x54, x55, x56, x57, x58, x59, x60, x61, x62, x63, x64, x65, x66, x67, x68, x69, x70, x71, x72, x73, x74, x75, rfl, hT, hB⟩
  obtain ⟨c0, c1, c2, c3, c4, c5, c6, c7, c8, c9⟩ := hT.cells
  refine wpList_cutAt 14 (UC3 w t) ?_ ?_
  · simp only [List.append_eq, List.cons_append, List.nil_append, List.take_succ_cons, List.take_zero]
    go_wp2_with (first
      | (go_at_call 31; (with_reducible refine (unhide h5 _).mono ?_); rintro e w1 ⟨b1, rfl, hb1⟩; have hT1 := hT.below hb1; have hB1 := below_tr hB hb1 hB.size)
      | (go_at_call 31; (with_reducible refine (unhide h6 _).mono ?_); rintro e w1 ⟨b1, rfl, hb1⟩; have hT1 := hT.below hb1; have hB1 := below_tr hB hb1 hB.size)
      | (go_at_call 31; (with_reducible refine (unhide h2 _).mono ?_); rintro e w1 ⟨b1, rfl, hb1⟩; have hT1 := hT.below hb1; have hB1 := below_tr hB hb1 hB.size)
      | fail)
    all_goals first
      | exact ⟨_, _, _, _, _, _, _, _, _, _, _, _, _, _, _, _, _, _, _, _, _, _, _, _, _, _, _, _, _, _, _, _, _, _, _, _, _, _, _, _, _, _, _, _, _, _, _, _, _, _, _, _, _, _, _, _, _, _, _, _, _, _, _, _, _, _, _, _, _, _, _, _, rfl, hT1, hB1⟩
      | exact ⟨_, _, _, _, _, _, _, _, _, _, _, _, _, _, _, _, _, _, _, _, _, _, _, _, _, _, _, _, _, _, _, _, _, _, _, _, _, _, _, _, _, _, _, _, _, _, _, _, _, _, _, _, _, _, _, _, _, _, _, _, _, _, _, _, _, _, _, _, _, _, _, _, rfl, hT, hB⟩
  simp only [List.append_eq, List.cons_append, List.nil_append, List.drop_succ_cons, List.drop_zero]
  clear hT hB c0 c1 c2 c3 c4 c5 c6 c7 c8 c9
  rintro a W ⟨b, x4, x5, x6, x7, x8, x9, x10, x11, x12, x13, x14, x15, x16, x17, x18, x19, x20, x21, x22, x23, x24, x25, x26, x27, x28, x29, x30, x31, x32, x33, x34, x35, x36, x37, x38, x39, x40, x41, x42, x43, x44, x45, x46, x48, x49, x50, x51, x52, x53, x54, x55, x56, x57, x58, x59, x60, x61, x62, x63, x64, x65, x66, x67, x68, x69, x70, x71, x72, x73, x74, x75, rfl, hT, hB⟩
  obtain ⟨c0, c1, c2, c3, c4, c5, c6, c7, c8, c9⟩ := hT.cells
  refine wpList_cutAt 9 (UC4 w t) ?_ ?_
  · simp only [List.append_eq, List.cons_append, List.nil_append, List.take_succ_cons, List.take_zero]
    go_wp2_with (first
      | (go_at_call 31; (with_reducible refine (unhide h5 _).mono ?_); rintro e w1 ⟨b1, rfl, hb1⟩; have hT1 := hT.below hb1; have hB1 := below_tr hB hb1 hB.size)
      | (go_at_call 31; (with_reducible refine (unhide h6 _).mono ?_); rintro e w1 ⟨b1, rfl, hb1⟩; have hT1 := hT.below hb1; have hB1 := below_tr hB hb1 hB.size)
      | (go_at_call 31; (with_reducible refine (unhide h2 _).mono ?_); rintro e w1 ⟨b1, rfl, hb1⟩; have hT1 := hT.below hb1; have hB1 := below_tr hB hb1 hB.size)
      | fail)
    all_goals first
      | exact ⟨_, _, _, _, _, _, _, _, _, _, _, _, _, _, _, _, _, _, _, _, _, _, _, _, _, _, _, _, _, _, _, _, _, _, _, _, _, _, _, _, _, _, _, _, _, _, _, _, _, _, _, _, _, _, _, _, _, _, _, _, _, _, _, _, _, _, _, _, _, _, _, _, rfl, hT1, hB1⟩
      | exact ⟨_, _, _, _, _, _, _, _, _, _, _, _, _, _, _, _, _, _, _, _, _, _, _, _, _, _, _, _, _, _, _, _, _, _, _, _, _, _, _, _, _, _, _, _, _, _, _, _, _, _, _, _, _, _, _, _, _, _, _, _, _, _, _, _, _, _, _, _, _, _, _, _, rfl, hT, hB⟩
  simp only [List.append_eq, List.cons_append, List.nil_append, List.drop_succ_cons, List.drop_zero]
  clear hT hB c0 c1 c2 c3 c4 c5 c6 c7 c8 c9
  rintro a W ⟨b, x4, x5, x6, x7, x8, x9, x10, x11, x12, x13, x14, x15, x16, x17, x18, x19, x20, x21, x22, x23, x24, x25, x26, x27, x28, x29, x30, x31, x32, x33, x34, x35, x36, x37, x38, x39, x40, x41, x42, x43, x44, x45, x46, x47, x48, x49, x50, x51, x52, x53, x54, x55, x57, x58, x59, x60, x61, x62, x63, x64, x65, x66, x67, x68, x69, x70, x71, x72, x73, x74, x75, rfl, hT, hB⟩
  obtain ⟨c0, c1, c2, c3, c4, c5, c6, c7, c8, c9⟩ := hT.cells
  refine wpList_cutAt 10 (UC5 w t) ?_ ?_
  · simp only [List.append_eq, List.cons_append, List.nil_append, List.take_succ_cons, List.take_zero]
    go_wp2_with (first
      | (go_at_call 31; (with_reducible refine (unhide h5 _).mono ?_); rintro e w1 ⟨b1, rfl, hb1⟩; have hT1 := hT.below hb1; have hB1 := below_tr hB hb1 hB.size)
      | (go_at_call 31; (with_reducible refine (unhide h6 _).mono ?_); rintro e w1 ⟨b1, rfl, hb1⟩; have hT1 := hT.below hb1; have hB1 := below_tr hB hb1 hB.size)
      | (go_at_call 31; (with_reducible refine (unhide h2 _).mono ?_); rintro e w1 ⟨b1, rfl, hb1⟩; have hT1 := hT.below hb1; have hB1 := below_tr hB hb1 hB.size)
      | fail)
    all_goals first
      | exact ⟨_, _, _, _, _, _, _, _, _, _, _, _, _, _, _, _, _, _, _, _, _, _, _, _, _, _, _, _, _, _, _, _, _, _, _, _, _, _, _, _, _, _, _, _, _, _, _, _, _, _, _, _, _, _, _, _, _, _, _, _, _, _, _, _, _, _, _, _, _, _, _, _, rfl, hT1, hB1⟩
      | exact ⟨_, _, _, _, _, _, _, _, _, _, _, _, _, _, _, _, _, _, _, _, _, _, _, _, _, _, _, _, _, _, _, _, _, _, _, _, _, _, _, _, _, _, _, _, _, _, _, _, _, _, _, _, _, _, _, _, _, _, _, _, _, _, _, _, _, _, _, _, _, _, _, _, rfl, hT, hB⟩
  simp only [List.append_eq, List.cons_append, List.nil_append, List.drop_succ_cons, List.drop_zero]
  clear hT hB c0 c1 c2 c3 c4 c5 c6 c7 c8 c9
  rintro a W ⟨b, x4, x5, x6, x7, x8, x9, x10, x11, x12, x13, x14, x15, x16, x17, x18, x19, x20, x21, x22, x23, x24, x25, x26, x27, x28, x29, x30, x31, x32, x33, x34, x35, x36, x37, x38, x39, x40, x41, x42, x43, x44, x45, x46, x47, x48, x49, x50, x51, x52, x53, x54, x55, x56, x57, x58, x59, x60, x61, x62, x63, x64, x65, x67, x68, x69, x70, x71, x72, x73, x74, x75, rfl, hT, hB⟩
  obtain ⟨c0, c1, c2, c3, c4, c5, c6, c7, c8, c9⟩ := hT.cells
  go_wp2_with (first
      | (go_at_call 31; (with_reducible refine (unhide h5 _).mono ?_); rintro e w1 ⟨b1, rfl, hb1⟩; have hT1 := hT.below hb1; have hB1 := below_tr hB hb1 hB.size)
      | (go_at_call 31; (with_reducible refine (unhide h6 _).mono ?_); rintro e w1 ⟨b1, rfl, hb1⟩; have hT1 := hT.below hb1; have hB1 := below_tr hB hb1 hB.size)
      | (go_at_call 31; (with_reducible refine (unhide h2 _).mono ?_); rintro e w1 ⟨b1, rfl, hb1⟩; have hT1 := hT.below hb1; have hB1 := below_tr hB hb1 hB.size)
      | fail)
  all_goals (go_ret; first | exact ⟨_, rfl, hB1⟩ | exact ⟨_, rfl, hB⟩)
end Go.Proofs.YtconkcjcjdmidaaGreatDoor
