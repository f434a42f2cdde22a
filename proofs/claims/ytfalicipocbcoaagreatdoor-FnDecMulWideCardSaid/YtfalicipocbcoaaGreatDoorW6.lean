/- Exact integers: the sign, powers of two. (YtfalicipocbcoaaGreatDoor) -/
import Derived.Test.YtfalicipocbcoaaGreatDoorW5
set_option linter.unusedVariables false
set_option linter.unusedSimpArgs false
namespace Go.Proofs.YtfalicipocbcoaaGreatDoor
open Go.RowKit Go.ChangeShapes Go.WideShapes Go.ChangeAt
attribute [local go_sem ↓] Go.wp_at_zero Go.wp_at_succ
theorem WideSub_any (w : World) (u v : Value) (x y : Int) (hu : Wd w u x) (hv : Wd w v y) (hx1 : -bp 99 < x) (hx2 : x < bp 99) (hy1 : -bp 99 < y) (hy2 : y < bp 99) :
    Calls Tryz.prog 30 #[u, v] w (PWide w (x - y)) := WideSub_of WideAdd_any w u v x y hu hv hx1 hx2 hy1 hy2
/-- a value is stored into the result's box. -/
theorem pwide_fin {W w : World} {g : Nat} {s a a0 b0 : Value} {z : Int} (hx : Wd w (.agg #[s, a]) z) (hbk : Blk w g 29 #[a0, b0]) (hb : Below W.heap.size W w) (hg : W.heap.size ≤ g) :
    PWide W z (.returned (.agg #[s, a])) ((w.setCell ⟨g, 0, none⟩ s).setCell ⟨g, 1, none⟩ a) :=
  ⟨_, rfl, (hx.far hbk.tyb (by decide) 0 s).far (hbk.tyb.set g 0 s) (by decide) 1 a, (hb.setCell hg _).setCell hg _⟩
/-- 'sgn' of the integer. -/
theorem made_zeros (k : IntKind) (N : Nat) : madeCells (Value.cells (.int k 0)) (N * 1) = (ivs k (List.replicate N 0)).toArray := by
  simp [ivs, madeCells, Value.cells]
  apply Array.ext
  · simp
  · intro i h1 h2
    simp [Nat.mod_one]
theorem make_u32 (N : Nat) (hN : N ≤ 1048576) (w : World) : (Instr.makeSlice 27 (.int .i64 (N : Int)) (.int .i64 (N : Int))).run Tryz.prog w = .ok (.slice (some ⟨w.heap.size, 0, none⟩) N N) (w.alloc (.cells (ivs .u32 (List.replicate N 0)).toArray 69)) := by
  obtain ⟨i0, hi, hz0, hz1, hz2⟩ := info_parts (show (Tryz.prog.info? 69).map (fun i => (i.zero, i.size, i.bytes)) = some (some (.int .u32 0), 1, 4) by kernel_rfl)
  have := run_make_rowN (P := Tryz.prog) 27 69 i0 _ Tryz.underlying27 hi hz0 .i64 .i64 N N (Nat.le_refl _) (by rw [hz2]; omega) (by omega) w
  rw [this, hz1, made_zeros]
theorem blk_rd {w : World} {k : IntKind} {G : Nat} {t : TypeId} {l : List Int} (h : Blk w G t (ivs k l).toArray) (hm : l.length ≤ 1000000) : Rd k w (.slice (some ⟨G, 0, none⟩) l.length l.length) l ∧ Ty w t (.slice (some ⟨G, 0, none⟩) l.length l.length) := by
  refine ⟨⟨_, _, rfl, Nat.le_refl _, ⟨by simp, fun hn => ⟨G, 0, rfl, h.lt, fun j u hu => ?_⟩⟩, hm⟩, fun b off n c e hn => ?_⟩
  · have := h.cell j
    rw [Nat.zero_add, this]
    simpa [ivs] using hu
  · injection e with e1 e2 e3
    injection e1 with e1
    injection e1 with e1
    subst e1
    exact h.tyb
theorem two_val (q r : Nat) (hr : r < 32) : dv ((List.replicate (q + 1) (0 : Int)).set q (2 ^ r)) = 2 ^ (32 * q + r) := by
  rw [dv_set _ _ _ (by simp), dv_zeros]
  simp [List.getD_eq_getElem?_getD, bp]
  rw [Int.pow_add, Int.pow_mul]
  rfl
theorem two_sm (q r : Nat) (hr : r < 32) : Sm ((List.replicate (q + 1) (0 : Int)).set q (2 ^ r)) := by
  have h1 : (2 : Int) ^ r < 2 ^ 32 := Int.pow_lt_pow_of_lt (by decide) hr
  exact sm_set (sm_zeros _) q (Int.le_of_lt (Int.pow_pos (by decide))) (by simpa using h1)
theorem pow_bp (n k : Nat) (h : n < 32 * k) : (2 : Int) ^ n < bp k := by
  have : bp k = 2 ^ (32 * k) := by unfold bp; rw [Int.pow_mul]; rfl
  rw [this]
  exact Int.pow_lt_pow_of_lt (by decide) h
set_option maxRecDepth 100000 in
set_option maxHeartbeats 2000000 in
theorem Two_any (w : World) (n q r : Nat) (hn : n = 32 * q + r) (hr : r < 32) (hq : q < 50) :
    Calls Tryz.prog 20 #[.int .i64 (n : Int)] w (PWide w (2 ^ n)) := by
  have hx1 : (n : Int) / 32 = (q : Int) := by omega
  have hx2 : (n : Int) % 32 = (r : Int) := by omega
  have hn3 : n ≤ 3000 := by omega
  have hval := two_val q r hr
  rw [← hn] at hval
  have hW := hide (fun (W : World) (h : Blk W (w.heap.size + 1) 69 (ivs .u32 ((List.replicate (q + 1) (0 : Int)).set q (2 ^ r))).toArray) => by
    have h2 := blk_rd h (by simp; omega)
    rw [show ((List.replicate (q + 1) (0 : Int)).set q (2 ^ r)).length = q + 1 by simp] at h2
    have h3 := wide_any W false _ _ ⟨h2.1, h2.2⟩ (two_sm q r hr) (by rw [hval]; exact pow_bp n 100 (by omega))
    rw [show wv false ((List.replicate (q + 1) (0 : Int)).set q (2 ^ r)) = 2 ^ n from hval] at h3
    exact h3)
  have hmk := make_u32 (q + 1) (by omega) (w.alloc (.cells #[.bool false, .slice none 0 0] 29))
  rw [show ((q + 1 : Nat) : Int) = (q : Int) + 1 by simp] at hmk
  have h32 : (2 : Int) ^ r < 4294967296 := by
    have h1 : (2 : Int) ^ r < 2 ^ 32 := Int.pow_lt_pow_of_lt (by decide) hr
    simpa using h1
  have h33 : (0 : Int) < 2 ^ r := Int.pow_pos (by decide)
  have HN := hide hn
  clear hn hval
  go_enter Tryz.func20, Tryz.ntmps20
  go_upto_region 2 with (fail)
  have hB := Blk.new (w := w.alloc (.cells #[.bool false, .slice none 0 0] 29)) (g := w.heap.size + 1) 69 (ivs .u32 (List.replicate (q + 1) 0)).toArray (by simp)
  have hX := (Blk.new (w := w) (g := w.heap.size) 29 #[.bool false, .slice none 0 0] rfl).alloc (.cells (ivs .u32 (List.replicate (q + 1) 0)).toArray 69)
  have hbw : Below w.heap.size w ((w.alloc (.cells #[.bool false, .slice none 0 0] 29)).alloc (.cells (ivs .u32 (List.replicate (q + 1) 0)).toArray 69)) := ((Below.refl _ _).alloc (Nat.le_refl _) _).alloc (by simp) _
  generalize ((w.alloc (.cells #[.bool false, .slice none 0 0] 29)).alloc (.cells (ivs .u32 (List.replicate (q + 1) 0)).toArray 69)) = w0 at hB hX hbw ⊢
  clear hmk
  have cq := hB.cell q
  have fq := hB.frozen q
  rw [show (ivs .u32 (List.replicate (q + 1) 0)).toArray[q]? = some (.int .u32 0) by simp [ivs]] at cq
  have hP32 : (2 : Int) ^ r % 4294967296 = 2 ^ r := by omega
  have HP := hide hP32
  have HB := hide hB
  have HX := hide hX
  have HBW := hide hbw
  clear h32 h33 hP32 hB hX hbw
  go_wp2_with fail
  rw [HP.out]
  have hB2 := (unhide HB).set q (.int .u32 (2 ^ r))
  rw [show (ivs .u32 (List.replicate (q + 1) 0)).toArray.setIfInBounds q (.int .u32 (2 ^ r)) = (ivs .u32 ((List.replicate (q + 1) (0 : Int)).set q (2 ^ r))).toArray by rw [List.setIfInBounds_toArray]; congr 1; simp only [ivs, List.map_set]] at hB2
  have hbw2 := (unhide HBW).setCell (p := ⟨w.heap.size + 1, q, none⟩) (by simp) (.int .u32 (2 ^ r))
  have hX2 := (unhide HX).other (a := ⟨w.heap.size + 1, q, none⟩) (by simp) (.int .u32 (2 ^ r))
  refine ((unhide hW) _ hB2).mono ?_
  rintro e w1 ⟨x, rfl, hx, hb⟩
  have hX3 := hX2.below hb
  have hb3 := below_tr hbw2 hb hbw2.size
  obtain ⟨s', A', n', c', rfl⟩ := hx.form
  have c0 := hX3.cell 0
  have c1 := hX3.cell 1
  have f0 := hX3.frozen 0
  have f1 := hX3.frozen 1
  simp at c0 c1
  have hfin := hide (pwide_fin hx hX3 hb3 (Nat.le_refl _))
  clear hX3 hb3 hx hX2 hbw2 hB2 hW HP HB HX HBW hb cq fq hx1 hx2
  go_wp2
  refine bodyPost_ret (v := .agg #[.bool s', .slice A' n' c']) (by simp [results, Tryz.results20, go_sem, c0, c1]) rfl ?_
  exact unhide hfin
end Go.Proofs.YtfalicipocbcoaaGreatDoor
