/- For every 16 bits: the two bytes of a half are its bits, the lowest first, and are read back as the same half. All inputs. -/
import Derived.Test.YtocpkfaoapbjgaaRows
import Derived.Test.YtocpkfaoapbjgaaL
import Derived.Test.YtocpkfaoapbjgaaA2
set_option linter.unusedVariables false
set_option linter.unusedSimpArgs false
namespace Go.Proofs.Ytocpkfaoapbjgaa.fnHalfBytes
open Go.ChangeShapes Go.WideShapes Go.ChangeAt Go.RowKit
theorem own : ownKnob Try.prog.godebug = none := by kernel_rfl

def toW (a : Int) (w : World) : World := (((w.alloc (Obj.cells #[Value.int IntKind.u16 a] 38)).alloc (Obj.cells #[Value.int IntKind.u8 (a % 256), Value.int IntKind.u8 (a / 256 % 256)] 5)).alloc (Obj.cells #[Value.int IntKind.u16 a] 38)).alloc (Obj.cells #[] 56)
theorem toW_mod (a : Int) (w : World) : Mod [] w (toW a w) := by unfold toW; (repeat' (first | exact Mod.refl _ _ | assumption | apply Mod.drew | apply Mod.drewN | apply Mod.alloc | (refine Mod.setCell ?_ (by first | (left; simp; done) | (right; first | omega | (simp; omega) | (simp; done))) _)))
theorem toW_new (a : Int) (w : World) (g : Nat) (h : g = w.heap.size + 1) : Blk (toW a w) g 5 #[Value.int IntKind.u8 (a % 256), Value.int IntKind.u8 (a / 256 % 256)] := by
  subst h; unfold toW; (repeat' (first | assumption | apply Blk.drew | apply Blk.drewN | (exact Blk.new _ _ (by simp)) | apply Blk.alloc | (refine Blk.other ?_ (by first | assumption | omega | (simp; omega)) _)))
theorem toW_size (a : Int) (w : World) : (toW a w).heap.size = w.heap.size + 4 := by simp [toW]
set_option maxRecDepth 100000 in
theorem tole_any (a : Int) (w : World) : Calls Try.prog 19 #[.agg #[.int .u16 a]] w fun e w' => e = .returned (.slice (some ⟨w.heap.size + 1, 0, none⟩) 2 2) ∧ toW a w = w' := by
  have hmk : ∀ w, (Instr.makeSlice 26 (.int .i64 2) (.int .i64 2)).run Try.prog w = .ok (.slice (some ⟨w.heap.size, 0, none⟩) 2 2) (w.alloc (.cells #[.int .u8 0, .int .u8 0] 5)) := fun _ => by kernel_rfl
  go_enter Try.func19, Try.ntmps19
  go_wp2
  go_ret
  exact ⟨rfl, rfl⟩
def two (x y : Int) : ByteArray := [x, y].foldl (fun r n => r.push (UInt8.ofNat n.toNat)) ByteArray.empty
theorem conv_str (g : Nat) (x y : Int) (w : World) (h0 : w.cell? ⟨g, 0, none⟩ = some (.int .u8 x)) (h1 : w.cell? ⟨g, 1, none⟩ = some (.int .u8 y)) :
    (convert 26 9 (.slice (some ⟨g, 0, none⟩) 2 2)).run Try.prog w = .ok (.string (two x y)) w := by
  rw [run_convert_bytes_string w 26 9 5 _ 2 2 Try.underlying26 Try.underlying5 Try.underlying9]
  exact run_bytesToString w ⟨g, 0, none⟩ 2 2 [x, y] (by simp [loadCells, loadCellsFrom, go_sem, h0, h1])
def join (x y : Int) : Int := bits .or .u16 (IntKind.u16.wrap x) (IntKind.u16.wrap (IntKind.u16.wrap y * 256))
theorem join_is (a : Int) (h0 : 0 ≤ a) (h1 : a < 65536) : join (a % 256) (a / 256 % 256) = a := by
  unfold join
  obtain ⟨n, rfl⟩ := Int.eq_ofNat_of_zero_le h0
  have hn : n < 65536 := by omega
  have e1 : IntKind.u16.wrap ((n : Int) % 256) = ((n % 256 : Nat) : Int) := by rw [IntKind.wrap_u16]; omega
  have e2 : IntKind.u16.wrap (IntKind.u16.wrap ((n : Int) / 256 % 256) * 256) = ((n / 256 * 256 : Nat) : Int) := by rw [IntKind.wrap_u16, IntKind.wrap_u16]; omega
  rw [e1, e2, u16_or_nat _ _ (by omega) (by omega), Nat.or_comm, nat_join 8 _ _ (by simp only [Nat.reducePow]; omega) (by simp only [Nat.reducePow]; omega)]
  omega
set_option maxRecDepth 100000 in
theorem from_any (x y : Int) (g : Nat) (w : World) (h0 : w.cell? ⟨g, 0, none⟩ = some (.int .u8 x)) (h1 : w.cell? ⟨g, 1, none⟩ = some (.int .u8 y)) : Calls Try.prog 21 #[.slice (some ⟨g, 0, none⟩) 2 2] w fun e w' => e = .returned (.agg #[.int .u16 (join x y)]) ∧ Mod [] w w' := by
  have hg : g < w.heap.size := World.block_lt_of_cell? w _ h0
  go_enter Try.func21, Try.ntmps21
  go_wp2
  go_quiet (fail)
  go_wp2
  go_returns
  exact ⟨rfl, by (repeat' (first | exact Mod.refl _ _ | assumption | apply Mod.drew | apply Mod.drewN | apply Mod.alloc | (refine Mod.setCell ?_ (by first | (left; simp; done) | (right; first | omega | (simp; omega) | (simp; done))) _)))⟩
def Cut2 (a : Int) (w : World) (s4 s5 s6 : Value) (wx : World) : Prop :=
  ∃ g g1 g2, s4 = .pointer (some ⟨g, 0, none⟩) ∧ s5 = .slice (some ⟨g1, 0, none⟩) 2 2 ∧ s6 = .slice (some ⟨g2, 0, none⟩) 2 2 ∧ Blk wx g 38 #[.int .u16 a] ∧ Blk wx g1 5 #[.int .u8 (a % 256), .int .u8 (a / 256 % 256)] ∧ Blk wx g2 5 #[.int .u8 0, .int .u8 0] ∧ g1 ≠ g2 ∧ w.heap.size ≤ g1 ∧ w.heap.size ≤ g2 ∧ Mod [] w wx
def base1 (a : Int) (w : World) : World := ((w.alloc (Obj.cells #[Value.int IntKind.u16 a] 38)).alloc (Obj.cells #[Value.int IntKind.u16 a] 38)).drew
theorem order1 (a : Int) (w : World) : Cut2 a w (.pointer (some ⟨w.heap.size + 1, 0, none⟩)) (.slice (some ⟨w.heap.size + 1 + 1 + 1, 0, none⟩) 2 2) (.slice (some ⟨(toW a (base1 a w)).heap.size, 0, none⟩) 2 2) ((toW a (base1 a w)).alloc (Obj.cells #[Value.int IntKind.u8 0, Value.int IntKind.u8 0] 5)) := by
  have hs := toW_size a (base1 a w)
  have h0 : (base1 a w).heap.size = w.heap.size + 2 := by simp [base1]
  have hm := toW_mod a (base1 a w)
  refine ⟨_, _, _, rfl, rfl, rfl, Blk.alloc (Blk.mod (by unfold base1; (repeat' (first | assumption | apply Blk.drew | apply Blk.drewN | (exact Blk.new _ _ (by simp)) | apply Blk.alloc | (refine Blk.other ?_ (by first | assumption | omega | (simp; omega)) _)))) hm (by simp)) _, Blk.alloc (toW_new _ _ _ (by omega)) _, Blk.new _ _ rfl, by omega, by omega, by omega, ?_⟩
  refine Mod.alloc (Mod.trans (T := []) ?_ hm (by simp)) _
  unfold base1; (repeat' (first | exact Mod.refl _ _ | assumption | apply Mod.drew | apply Mod.drewN | apply Mod.alloc | (refine Mod.setCell ?_ (by first | (left; simp; done) | (right; first | omega | (simp; omega) | (simp; done))) _)))
theorem order2 (a : Int) (w : World) : Cut2 a w (.pointer (some ⟨w.heap.size + 1, 0, none⟩)) (.slice (some ⟨w.heap.size + 1 + 1 + 1 + 1, 0, none⟩) 2 2) (.slice (some ⟨w.heap.size + 1 + 1, 0, none⟩) 2 2) (toW a ((((w.alloc (Obj.cells #[Value.int IntKind.u16 a] 38)).alloc (Obj.cells #[Value.int IntKind.u16 a] 38)).alloc (Obj.cells #[Value.int IntKind.u8 0, Value.int IntKind.u8 0] 5)).drew)) := by
  generalize hB : (((w.alloc (Obj.cells #[Value.int IntKind.u16 a] 38)).alloc (Obj.cells #[Value.int IntKind.u16 a] 38)).alloc (Obj.cells #[Value.int IntKind.u8 0, Value.int IntKind.u8 0] 5)).drew = B
  have h0 : B.heap.size = w.heap.size + 3 := by subst hB; simp
  have hs := toW_size a B
  have hm := toW_mod a B
  refine ⟨_, _, _, rfl, rfl, rfl, Blk.mod (by subst hB; (repeat' (first | assumption | apply Blk.drew | apply Blk.drewN | (exact Blk.new _ _ (by simp)) | apply Blk.alloc | (refine Blk.other ?_ (by first | assumption | omega | (simp; omega)) _)))) hm (by simp), toW_new _ _ _ (by omega), Blk.mod (by subst hB; (repeat' (first | assumption | apply Blk.drew | apply Blk.drewN | (exact Blk.new _ _ (by simp)) | apply Blk.alloc | (refine Blk.other ?_ (by first | assumption | omega | (simp; omega)) _)))) hm (by simp), by omega, by omega, by omega, ?_⟩
  refine Mod.trans (T := []) ?_ hm (by simp)
  subst hB; (repeat' (first | exact Mod.refl _ _ | assumption | apply Mod.drew | apply Mod.drewN | apply Mod.alloc | (refine Mod.setCell ?_ (by first | (left; simp; done) | (right; first | omega | (simp; omega) | (simp; done))) _)))
def Cut3 (a : Int) (w : World) (s5 s6 : Value) (wx : World) : Prop :=
  ∃ g1 g2, s5 = .slice (some ⟨g1, 0, none⟩) 2 2 ∧ s6 = .slice (some ⟨g2, 0, none⟩) 2 2 ∧ Blk wx g1 5 #[.int .u8 (a % 256), .int .u8 (a / 256 % 256)] ∧ Blk wx g2 5 #[.int .u8 (a % 256), .int .u8 (a / 256 % 256)] ∧ w.heap.size ≤ g1 ∧ Mod [] w wx
theorem order3 {a : Int} {w wc : World} {g g1 g2 : Nat} (hg : Blk wc g 38 #[.int .u16 a]) (h1 : Blk wc g1 5 #[.int .u8 (a % 256), .int .u8 (a / 256 % 256)]) (h2 : Blk wc g2 5 #[.int .u8 0, .int .u8 0]) (hne : g1 ≠ g2) (hb1 : w.heap.size ≤ g1) (hb2 : w.heap.size ≤ g2) (hm : Mod [] w wc) (ha0 : 0 ≤ a) (ha1 : a < 65536) :
    Cut3 a w (.slice (some ⟨g1, 0, none⟩) 2 2) (.slice (some ⟨g2, 0, none⟩) 2 2) ((((wc.setCell ⟨g2, 0, none⟩ (.int .u8 (a % 256))).setCell ⟨g2, 1, none⟩ (.int .u8 (a / 256))).alloc (.cells #[.int .u16 a] 38)).alloc (.cells #[] 56)) := by
  have e : a / 256 % 256 = a / 256 := Int.emod_eq_of_lt (by omega) (by omega)
  refine ⟨_, _, rfl, rfl, by (repeat' (first | assumption | apply Blk.drew | apply Blk.drewN | (exact Blk.new _ _ (by simp)) | apply Blk.alloc | (refine Blk.other ?_ (by first | assumption | omega | (simp; omega)) _))), ?_, hb1, by (repeat' (first | exact Mod.refl _ _ | assumption | apply Mod.drew | apply Mod.drewN | apply Mod.alloc | (refine Mod.setCell ?_ (by first | (left; simp; done) | (right; first | omega | (simp; omega) | (simp; done))) _)))⟩
  rw [e]
  exact (((h2.set 0 _).set 1 _).alloc _).alloc _
set_option maxHeartbeats 4000000 in
theorem bytes_any (a : Int) (ha0 : 0 ≤ a) (ha1 : a < 65536) (w : World) : Calls Try.prog 9 #[.int .u16 a] w fun e w' => (∃ g, e = .returned (.tuple #[.slice (some ⟨g, 0, none⟩) 2 2, .int .u16 a]) ∧ Blk w' g 5 #[.int .u8 (a % 256), .int .u8 (a / 256 % 256)]) ∧ Mod [] w w' := by
  have hmk : ∀ w, (Instr.makeSlice 26 (.int .i64 2) (.int .i64 2)).run Try.prog w = .ok (.slice (some ⟨w.heap.size, 0, none⟩) 2 2) (w.alloc (.cells #[.int .u8 0, .int .u8 0] 5)) := fun _ => by kernel_rfl
  go_enter Try.func9, Try.ntmps9
  go_upto_region 2 with go_in
  go_cut [4, 5, 6] (Cut2 a w)
  case first =>
    go_region_with ((go_at_call 19; (with_reducible refine (tole_any _ _).mono ?_); rintro e w' ⟨rfl, rfl⟩))
    all_goals (go_wp2_with fail; go_meet)
    all_goals first | exact order1 a w | exact order2 a w
  case rest =>
    obtain ⟨g, g1, g2, rfl, rfl, rfl, hg, h1, h2, hne, hb1, hb2, hgr⟩ := hcut
    go_upto_region 3 with fail
    go_cut [5, 6] (Cut3 a w)
    case first =>
      have c0 := hg.cell 0
      have c3 := h2.cell 0
      have c4 := h2.cell 1
      have f3 := h2.frozen 0
      have f4 := h2.frozen 1
      have l0 := hg.lt
      have l2 := h2.lt
      simp at c0 c3 c4
      go_wp2_with go_in
      go_meet
      case rel => exact order3 hg h1 h2 hne hb1 hb2 hgr ha0 ha1
    case rest =>
      obtain ⟨g1, g2, rfl, rfl, h1, h2, hb, hm⟩ := hcut
      have c1 := h1.cell 0
      have c2 := h1.cell 1
      have c3 := h2.cell 0
      have c4 := h2.cell 1
      simp at c1 c2 c3 c4
      have hcv1 := conv_str g1 (a % 256) (a / 256 % 256) _ c1 c2
      have hcv2 := conv_str g2 (a % 256) (a / 256 % 256) _ c3 c4
      have l1 := h1.lt
      have l2 := h2.lt
      go_wp2_with (first | (go_at_call 21; (with_reducible refine (from_any _ _ _ _ (by assumption) (by assumption)).mono ?_); rintro e w' ⟨rfl, hm1⟩) | go_in)
      go_ret2
      have hx := hm.trans hm1 (by simp)
      have hy := h1.mod hm1 (by simp)
      exact ⟨⟨g1, by rw [join_is a ha0 ha1]; rfl, by (repeat' (first | assumption | apply Blk.drew | apply Blk.drewN | (exact Blk.new _ _ (by simp)) | apply Blk.alloc | (refine Blk.other ?_ (by first | assumption | omega | (simp; omega)) _)))⟩, by (repeat' (first | exact Mod.refl _ _ | assumption | apply Mod.drew | apply Mod.drewN | apply Mod.alloc | (refine Mod.setCell ?_ (by first | (left; simp; done) | (right; first | omega | (simp; omega) | (simp; done))) _)))⟩
set_option maxRecDepth 100000 in
theorem walk (a0 : Int) (w0 : (Lit.int .u16 a0).wf = true) (w : World) :
    Calls Try.prog 4 #[.int .u16 a0] w fun e w' => e = .returned (.bool true) ∧ Mod [] w w' := by
  have hb := bounds_u16 w0
  have hb0 : 0 ≤ a0 := by omega
  have hb1 : a0 < 65536 := by omega
  clear hb
  go_enter Try.func4, Try.ntmps4
  go_upto_region 2 with (first | (go_at_call 9; (with_reducible refine (bytes_any _ hb0 hb1 _).mono ?_); rintro e w' ⟨⟨g, rfl, hg⟩, hm⟩) | go_in)
  have c1 := hg.cell 0
  have c2 := hg.cell 1
  simp at c1 c2
  go_wp2_with (go_at_call 7; (with_reducible refine (halves_mod _).mono ?_); rintro e w' ⟨rfl, hm2⟩)
  go_ret
  exact ⟨rfl, hm.trans hm2 (by simp)⟩

/-! ### THE ROW's STEP: WRITTEN OUT: LEAVE IT -/
set_option maxRecDepth 100000 in
theorem lifted (os : Os) (started : os.Started) (H : Type) (enc : TypeId × Value → H) :
    ReturnsInHanded {} Try.checked os 4 .any (Rows.fnHalfBytesSpec.pre6 enc Try.prog Try.f4 Rows.fnHalfBytesRow.domain false) (Rows.fnHalfBytesSpec.post enc Try.prog Try.f4 false true false false) := by
  refine returnsInHanded_of_change (C := Try.checked) own started (by kernel_rfl) Try.func4
    (ChangeSpec.witness6 (enc := enc) (C := Try.checked) false ⟨#[], #[.int .u16 0], []⟩ 8 (by kernel_rfl) (by kernel_rfl) (by kernel_rfl) (by kernel_rfl)) ?_
  intro W base args ds gs before hval0 hW hcnd _
  have hval : ∀ (j : Nat) t v, Try.f4.params[j]? = some t → args[j]? = some v → Value.okWide Try.prog W .any base t v := hval0
  have hW' := hW
  obtain ⟨p, q, hA0, hV, rfl, hfz, hnd⟩ := hW
  have hA : DataW.TrodAll enc Try.prog W 0 (fun _ => true) true Try.f4.params.toList args.toList ds p := hA0
  rw [Try.params4] at hA hval
  obtain ⟨v0, vs0, d0, ds0, p0, q0, hargs, rfl, rfl, h0, r0⟩ := trodAll_cons hA
  obtain ⟨rfl, rfl, rfl⟩ := trodAll_nil r0
  obtain rfl : args = #[v0] := by cases args; simp_all
  obtain ⟨rfl, rfl⟩ := trodVars_none hV
  obtain ⟨a0, rfl, rfl, rfl, w0⟩ := open_int Try.underlying22 (hval 0 22 v0 rfl rfl) h0
  clear hA0 hval0
  simp only [List.append_nil] at hW'
  refine (walk a0 w0 W).mono fun e W' ⟨he, hg⟩ => ?_
  subst he
  exact ⟨_, rfl, post_of_below (pa := []) (pv := []) hW' (fun _ _ _ => (trodAll_cons_mk (shut_bool Try.underlying4 _) trodAll_mk0)) (fun sp _ => (trodAll_cons_mk (shut_int Try.underlying22 w0) trodAll_mk0)) (fun _ _ => rfl) rfl
    hg.below (ok_one (by kernel_rfl) rfl (okWide_bool_mk Try.underlying4 _))⟩

theorem over : Rows.fnHalfBytesRow.holds Try.pinned (OpenSpec.ofChange Rows.fnHalfBytesSpec) :=
  OpenClaim.holds_of_wide 4 Try.f4 rfl rfl rfl rfl rfl rfl rfl ⟨rfl, rfl, rfl, rfl, rfl⟩ rfl rfl rfl rfl rfl (by kernel_rfl) Try.func4 (by kernel_rfl)
    (of_decide_eq_true (by kernel_rfl)) (by unfold Func.isWrapper; first | (rw [if_pos (by decide +kernel)]; kernel_rfl) | (rw [if_neg (by decide +kernel)]; exact ⟨rfl, rfl⟩))
    (fun os started H enc _ => lifted os started H enc)

/-- ████ THE STATEMENT ████ -/
theorem proved : Rows.FnHalfBytesSaid :=
  over
#print axioms proved
end Go.Proofs.Ytocpkfaoapbjgaa.fnHalfBytes
