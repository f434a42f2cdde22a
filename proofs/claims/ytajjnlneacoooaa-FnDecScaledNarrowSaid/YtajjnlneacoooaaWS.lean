/- For every width, every scale move up or down, with or without rounding, and every decimal of at most 64 bits: DecScaledNarrow gives the value that is due, and says so where it does not fit. All inputs. (Ytajjnlneacoooaa) -/
import Derived.Test.YtajjnlneacoooaaW10
import Derived.IntWalk
import Derived.Test.YtajjnlneacoooaaLK
import Derived.Test.YtajjnlneacoooaaW12
import Derived.Test.YtajjnlneacoooaaW16
import Derived.Maps.Own
import Derived.Test.YtajjnlneacoooaaW17
import Derived.Test.YtajjnlneacoooaaW13
import Derived.Test.YtajjnlneacoooaaWU
import Derived.Test.YtajjnlneacoooaaLJ
import Derived.Test.YtajjnlneacoooaaRows
set_option linter.unusedVariables false
set_option linter.unusedSimpArgs false
namespace Go.Proofs.Ytajjnlneacoooaa
open Go.RowKit Go.ChangeShapes Go.WideShapes Go.ChangeAt
attribute [local go_sem ↓] Go.wp_at_zero Go.wp_at_succ
theorem mul_step (D c P x A B k T : Int) (hT : T = c + (P + x)) : D + k * (T % 4294967296 - x) + T / 4294967296 * (4294967296 * k) = D + c * k + k * P := by
  have h := Int.emod_add_mul_ediv T 4294967296
  have e : D + k * (T % 4294967296 - x) + T / 4294967296 * (4294967296 * k) = D + k * (T % 4294967296 + 4294967296 * (T / 4294967296)) - k * x := by
    rw [Int.mul_sub, Int.mul_add]
    have : T / 4294967296 * (4294967296 * k) = k * (4294967296 * (T / 4294967296)) := by
      rw [← Int.mul_assoc, Int.mul_comm (T / 4294967296) 4294967296, Int.mul_comm]
    omega
  rw [e, h, hT, Int.mul_add, Int.mul_add, Int.mul_comm k c]
  omega
def OMul (w : World) (a b : List Int) (v17 : Value) (wr : World) : Prop :=
  ∃ i : Nat, i ≤ a.length ∧ v17 = .int .i64 (i : Int) ∧ ∃ o : List Int, o.length = a.length + b.length ∧ Sm o ∧ Blk wr w.heap.size 88 (ivs .u32 o).toArray ∧ Below w.heap.size w wr ∧ dv o = dv (a.take i) * dv b ∧ (∀ j, i + b.length ≤ j → o.getD j 0 = 0)
def IMul (w : World) (a b : List Int) (i : Nat) (v7 v22 : Value) (wr : World) : Prop :=
  ∃ k : Nat, k ≤ b.length ∧ v22 = .int .i64 (k : Int) ∧ ∃ (c : Int) (o : List Int), v7 = .int .u64 c ∧ 0 ≤ c ∧ c < 4294967296 ∧ o.length = a.length + b.length ∧ Sm o ∧ Blk wr w.heap.size 88 (ivs .u32 o).toArray ∧ Below w.heap.size w wr ∧
    dv o + c * bp (i + k) = dv (a.take i) * dv b + bp i * a.getD i 0 * dv (b.take k) ∧ (∀ j, i + b.length ≤ j → o.getD j 0 = 0)
theorem blk_iset' {w : World} {k : IntKind} {G : Nat} {t : TypeId} {q : List Int} (h : Blk w G t (ivs k q).toArray) (j : Nat) (x : Int) : Blk (w.setCell ⟨G, j, none⟩ (.int k x)) G t (ivs k (q.set j x)).toArray := by
  have := h.set j (.int k x)
  rwa [List.setIfInBounds_toArray, show (ivs k q).set j (.int k x) = ivs k (q.set j x) by simp [ivs, List.map_set]] at this
theorem imul_next {w wr : World} {a b o : List Int} {i k : Nat} {c T : Int} (hi : i < a.length) (hk : k < b.length) (h0 : 0 ≤ c) (h1 : c < 4294967296) (hl : o.length = a.length + b.length) (hs : Sm o) (ha : Sm a) (hb' : Sm b)
    (hb : Blk wr w.heap.size 88 (ivs .u32 o).toArray) (hB : Below w.heap.size w wr) (hz : ∀ j, i + b.length ≤ j → o.getD j 0 = 0)
    (he : dv o + c * bp (i + k) = dv (a.take i) * dv b + bp i * a.getD i 0 * dv (b.take k)) (hT : T = c + (a.getD i 0 * b.getD k 0 + o.getD (i + k) 0)) (hT0 : 0 ≤ T) (hT1 : T < 18446744073709551616) (n : Nat) :
    IMul w a b i (.int .u64 (T / 4294967296)) (.int .i64 ((k : Int) + 1)) ((wr.drewN n).setCell ⟨w.heap.size, i + k, none⟩ (.int .u32 (T % 4294967296))) := by
  refine ⟨k + 1, by omega, by simp, T / 4294967296, o.set (i + k) (T % 4294967296), rfl, by omega, by omega, by simpa using hl, sm_set hs _ (by omega) (by omega), blk_iset' (hb.drewN n) _ _, (show Below w.heap.size w (wr.drewN n) from ⟨hB.os, hB.tape, hB.output, hB.size, hB.block⟩).setCell (Nat.le_refl _) _, ?_, fun j hj => ?_⟩
  · rw [dv_set _ _ _ (by omega), show i + (k + 1) = (i + k) + 1 by omega, bp_succ, mul_step (dv o) c (a.getD i 0 * b.getD k 0) (o.getD (i + k) 0) 0 0 (bp (i + k)) T hT, he, dv_take_succ b k hk, bp_add]
    rw [Int.mul_add]
    have : bp i * bp k * (a.getD i 0 * b.getD k 0) = bp i * a.getD i 0 * (bp k * b.getD k 0) := by
      rw [Int.mul_assoc, Int.mul_assoc]
      congr 1
      rw [← Int.mul_assoc, ← Int.mul_assoc, Int.mul_comm (bp k)]
    omega
  · rw [set_getD _ _ _ _ (by omega), if_neg (by omega)]; exact hz j hj
theorem omul_next {w wr : World} {a b o : List Int} {i : Nat} {c : Int} (hi : i < a.length) (h0 : 0 ≤ c) (h1 : c < 4294967296) (hl : o.length = a.length + b.length) (hs : Sm o)
    (hb : Blk wr w.heap.size 88 (ivs .u32 o).toArray) (hB : Below w.heap.size w wr) (hz : ∀ j, i + b.length ≤ j → o.getD j 0 = 0)
    (he : dv o + c * bp (i + b.length) = dv (a.take i) * dv b + bp i * a.getD i 0 * dv b) :
    OMul w a b (.int .i64 ((i : Int) + 1)) (wr.setCell ⟨w.heap.size, i + b.length, none⟩ (.int .u32 c)) := by
  refine ⟨i + 1, by omega, by simp, o.set (i + b.length) c, by simpa using hl, sm_set hs _ h0 h1, blk_iset' hb _ _, hB.setCell (Nat.le_refl _) _, ?_, fun j hj => ?_⟩
  · rw [dv_set _ _ _ (by omega), hz _ (Nat.le_refl _), dv_take_succ a i hi, Int.add_mul, ← he, Int.sub_zero, Int.mul_comm c]
  · rw [set_getD _ _ _ _ (by omega), if_neg (by omega)]; exact hz j (by omega)
theorem omul_end {w wr : World} {a b o : List Int} (hs : Sm o) (hl : o.length = a.length + b.length) (hla : a.length ≤ 100) (hlb : b.length ≤ 100) (hb : Blk wr w.heap.size 88 (ivs .u32 o).toArray) (hB : Below w.heap.size w wr) (he : dv o = dv a * dv b)
    {e : Ending} {w' : World} (h : PTrim (some ⟨w.heap.size, 0, none⟩) o.length wr o e w') : PMag w (dv a * dv b) e w' := by
  obtain ⟨n, rfl, hn, ht, hd, rfl⟩ := h
  obtain ⟨h1, h2⟩ := blk_rd hb (by omega)
  exact ⟨_, o.take n, rfl, mg_take ⟨h1, h2⟩ hn, sm_take hs n, ht, by rw [hd, he], hB, fun b off n c e hp => by injection e with e1 _ _; injection e1 with e1; injection e1 with e1; omega⟩
set_option maxRecDepth 100000 in
set_option maxHeartbeats 4000000 in
theorem magMul_any (w : World) (u v : Value) (a b : List Int) (hu : Mg w u a) (hv : Mg w v b) (ha : Sm a) (hb : Sm b) (hla : a.length ≤ 100) (hlb : b.length ≤ 100) :
    Calls Try.prog 49 #[u, v] w (PMag w (dv a * dv b)) := by
  obtain ⟨⟨A, c, rfl, hc, hsa, _⟩, _⟩ := hu
  obtain ⟨⟨A', c', rfl, hc', hsb, _⟩, _⟩ := hv
  have hmk : ∀ W : World, (Instr.makeSlice 28 (.int .i64 ((a.length : Int) + (b.length : Int))) (.int .i64 ((a.length : Int) + (b.length : Int)))).run Try.prog W = .ok (.slice (some ⟨W.heap.size, 0, none⟩) (a.length + b.length) (a.length + b.length)) (W.alloc (.cells (ivs .u32 (List.replicate (a.length + b.length) 0)).toArray 88)) := fun W => by
    have := make_u32 (a.length + b.length) (by omega) W
    rwa [Int.natCast_add] at this
  have h00 := hide (show OMul w a b (.int .i64 0) (w.alloc (.cells (ivs .u32 (List.replicate (a.length + b.length) 0)).toArray 88)) from
    ⟨0, by omega, rfl, List.replicate (a.length + b.length) 0, by simp, sm_zeros _, Blk.new _ _ rfl, (Below.refl _ _).alloc (Nat.le_refl _) _, by rw [dv_zeros]; simp [dv], fun j _ => by rw [List.getD_eq_getElem?_getD]; by_cases hj : j < a.length + b.length <;> simp [hj]⟩)
  have HA := hide hsa
  have HB := hide hsb
  have HSA := hide ha
  have HSB := hide hb
  clear hsa hsb ha hb
  go_enter Try.func49, Try.ntmps49
  go_wp2_with fail
  generalize hw1 : (w.alloc (.cells (ivs .u32 (List.replicate (a.length + b.length) 0)).toArray 88)) = w1 at *
  clear hw1 hmk
  go_loopw [17] (OMul w a b) (fun v _ => a.length - (intOf v).toNat)
  case atStart => exact unhide h00
  case round =>
    obtain ⟨i, hi, rfl, o, hol, hos, hob, hoB, hoe, hoz⟩ := hrel
    by_cases hlt : i < a.length
    · have hI0 := hide (show IMul w a b i (.int .u64 0) (.int .i64 0) wr from ⟨0, by omega, rfl, 0, o, rfl, by omega, by omega, hol, hos, hob, hoB, by rw [hoe]; simp [dv], hoz⟩)
      obtain ⟨ba, oa, rfl, hba, hca⟩ := (unhide HA).2 (by omega)
      clear hol hos hob hoB hoe hoz
      obtain ⟨wo, rfl⟩ : ∃ wo : World, wo = wr := ⟨_, rfl⟩
      go_wp2_with fail
      go_loopw [7, 22] (IMul w a b i) (fun _ v _ => b.length - (intOf v).toNat)
      case atStart => exact unhide hI0
      case round =>
        obtain ⟨k, hk, rfl, c1, o1, rfl, hc0, hc1, hol, hos, hob, hoB, hoe, hoz⟩ := hrel
        by_cases hlk : k < b.length
        · obtain ⟨bb, ob, rfl, hbb, hcb⟩ := (unhide HB).2 (by omega)
          have y0 := (hoB.cell (p := ⟨ba, oa + i, none⟩) hba).trans (hca i (.int .u32 (a.getD i 0)) (by simp [List.getElem?_map, List.getElem?_eq_getElem hlt, List.getD_eq_getElem?_getD]))
          have y1 := (hoB.cell (p := ⟨bb, ob + k, none⟩) hbb).trans (hcb k (.int .u32 (b.getD k 0)) (by simp [List.getElem?_map, List.getElem?_eq_getElem hlk, List.getD_eq_getElem?_getD]))
          have y2 := hob.cell (i + k)
          rw [ivs_get _ _ _ (by omega)] at y2
          have f2 := hob.frozen (i + k)
          obtain ⟨x0, x1⟩ := sm_get (unhide HSA) i
          obtain ⟨x2, x3⟩ := sm_get (unhide HSB) k
          obtain ⟨x4, x5⟩ := sm_get hos (i + k)
          have hnx := hide (fun T hT hT0 hT1 n => imul_next (T := T) (w := w) (wr := wr) (a := a) (b := b) (o := o1) (i := i) (k := k) (c := c1) hlt hlk hc0 hc1 hol hos (unhide HSA) (unhide HSB) hob hoB hoz hoe hT hT0 hT1 n)
          have hG : w.heap.size < wr.heap.size := hob.lt
          clear hol hos hob hoB hoe hoz hcb
          generalize a.getD i 0 = xa at *
          generalize b.getD k 0 = xb at *
          generalize o1.getD (i + k) 0 = xo at *
          have hp0 : 0 ≤ xa * xb := Int.mul_nonneg x0 x2
          have hp1 : xa * xb ≤ 4294967295 * 4294967295 := Int.mul_le_mul (by omega) (by omega) x2 (by omega)
          generalize hP : xa * xb = P at *
          have e1 : IntKind.u64.wrap (xa * xb) = P := by rw [hP, IntKind.wrap_u64]; omega
          have e2 : IntKind.u64.wrap (P + xo) = P + xo := by rw [IntKind.wrap_u64]; omega
          have e3 : IntKind.u64.wrap (c1 + (P + xo)) = c1 + (P + xo) := by rw [IntKind.wrap_u64]; omega
          have e4 : IntKind.u32.wrap (c1 + (P + xo)) = (c1 + (P + xo)) % 4294967296 := by rw [IntKind.wrap_u32']
          have s1 : IntKind.i64.wrap ((i : Int) + (k : Int)) = (i : Int) + (k : Int) := IntWalk.i64_in _ (by omega)
          have s2 : ((i : Int) + (k : Int)).toNat = i + k := by omega
          have s3 : (0 : Int) ≤ (i : Int) := by omega
          have s4 : (i : Int) < (a.length : Int) := by omega
          have s5 : (0 : Int) ≤ (k : Int) := by omega
          have s6 : (k : Int) < (b.length : Int) := by omega
          have s7 : (0 : Int) ≤ (i : Int) + (k : Int) := by omega
          have s8 : (i : Int) + (k : Int) < ((a.length + b.length : Nat) : Int) := by omega
          have hN := hide ((unhide hnx) _ rfl (by omega) (by omega))
          have hpb := hide (And.intro hp0 hp1)
          clear hnx hP hp0 hp1
          go_upto_region 9 with (fail)
          go_quiet (fail)
          go_wp2_with fail
          exact ⟨(unhide hN) _, by simp [intOf]; omega⟩
        · obtain rfl : k = b.length := by omega
          rw [List.take_length] at hoe
          have y2 := hob.cell (i + b.length)
          rw [ivs_get _ _ _ (by omega)] at y2
          have f2 := hob.frozen (i + b.length)
          have hN := hide (omul_next (w := w) (wr := wr) (a := a) (b := b) (o := o1) (i := i) (c := c1) hlt hc0 hc1 hol hos hob hoB hoz hoe)
          have hG : w.heap.size < wr.heap.size := hob.lt
          clear hol hos hob hoB hoe hoz
          have e4 : IntKind.u32.wrap c1 = c1 := by rw [IntKind.wrap_u32']; omega
          have s1 : IntKind.i64.wrap ((i : Int) + (b.length : Int)) = (i : Int) + (b.length : Int) := IntWalk.i64_in _ (by omega)
          go_wp2_with fail
          exact ⟨unhide hN, by simp [intOf]; omega⟩
    · obtain rfl : i = a.length := by omega
      rw [List.take_length] at hoe
      have hT := hide (trim_any wr (some ⟨w.heap.size, 0, none⟩) (a.length + b.length) o (by have := (blk_rd hob (by omega)).1; rwa [hol] at this ⊢))
      have hE := hide (fun e w' h => omul_end (e := e) (w' := w') hos hol hla hlb hob hoB hoe h)
      rw [hol] at hT hE
      clear hol hos hob hoB hoe hoz
      go_wp2_with fail
      refine (unhide hT).mono ?_
      intro e w' hp
      have hEE := (unhide hE) e w' hp
      obtain ⟨n', rfl, _, _, _, rfl⟩ := hp
      have HE := hide hEE
      clear hEE
      go_wp2_with fail
      go_ret
      exact unhide HE
theorem wv_mul (s s' : Bool) (p q : Int) (r : List Int) (hr : dv r = p * q) : wv (s != s') r = (if s then -p else p) * (if s' then -q else q) := by
  cases s <;> cases s' <;> simp [wv, hr, Int.neg_mul, Int.mul_neg]
theorem mag_mul_bd {s s' : Bool} {p q B : Int} (hp : 0 ≤ p) (hq : 0 ≤ q) (h1 : -B < (if s then -p else p) * (if s' then -q else q)) (h2 : (if s then -p else p) * (if s' then -q else q) < B) : p * q < B := by
  cases s <;> cases s' <;> simp [Int.neg_mul, Int.mul_neg] at h1 h2 <;> omega
set_option maxRecDepth 100000 in
set_option maxHeartbeats 4000000 in
theorem WideMul_any (w : World) (u v : Value) (x y : Int) (hu : Wd w u x) (hv : Wd w v y) (h1 : -bp 100 < x * y) (h2 : x * y < bp 100) :
    Calls Try.prog 19 #[u, v] w (PWide w (x * y)) := by
  obtain ⟨s, a, u, rfl, hu, hsa, hta, hna, rfl, hla⟩ := hu
  obtain ⟨s', b, v, rfl, hv, hsb, htb, hnb, rfl, hlb⟩ := hv
  have hMu := hide (fun (W : World) (h : Below w.heap.size w W) => (magMul_any W u v a b (hu.below h) (hv.below h) hsa hsb (by omega) (by omega)).mono (fun e w' hh => pmag_add hh))
  have hWd := hide (fun (W : World) (t : Bool) (x : Value) (r : List Int) (h : Mg W x r) (hr : Sm r) (hz : dv r < bp 100) => wide_any W t x r h hr hz)
  obtain ⟨⟨A, c, rfl, hc, _⟩, _⟩ := hu
  obtain ⟨⟨A', c', rfl, hc', _⟩, _⟩ := hv
  have n1 := dv_nn hsa
  have n2 := dv_nn hsb
  have hS1 : wv s a = if s then -dv a else dv a := rfl
  have hS2 : wv s' b = if s' then -dv b else dv b := rfl
  rw [hS1, hS2] at h1 h2 ⊢
  have hWV := hide (fun (t t' : Bool) (r : List Int) (hr : dv r = dv a * dv b) => wv_mul t t' (dv a) (dv b) r hr)
  have HBD := hide (mag_mul_bd n1 n2 h1 h2)
  generalize dv a = za at *
  generalize dv b = zb at *
  clear hS1 hS2 hsa hsb hta htb hna hnb h1 h2 hla hlb hc hc' n1 n2
  have hb0 := hide (two2_of w undef undef s s' A A' a.length b.length c c')
  cases s <;> cases s'
  · have h2r := unhide hb0
    clear hb0
    go_enter Try.func19, Try.ntmps19
    go_upto_region 1 with (fail)
    have h2 := h2r
    clear h2r
    generalize (((w.alloc (.cells #[.bool false, .slice A a.length c] 30)).alloc (.cells #[.bool false, .slice A' b.length c'] 30)).alloc (.cells #[.bool false, .slice none 0 0] 30)) = w0 at h2 ⊢
    have hS := hide (fun (W : World) (h : Held w0 (w.heap.size + 2) (w.heap.size + 2) W) => s2_of h2 W h)
    have hF := hide (fun (W : World) (x9 a9 : Value) (z : Int) (hx : Wd W (.agg #[x9, a9]) z) (h : Held w0 (w.heap.size + 2) (w.heap.size + 2) W) => pwide_held hx h2 h)
    have hh0 := held0 h2
    obtain ⟨e1, e2, e3, e4, _⟩ := s2_of h2 w0 hh0
    go_region_held3 (fun W => W.cell? ⟨w.heap.size, 0, none⟩ = some (.bool false) ∧ W.cell? ⟨w.heap.size, 1, none⟩ = some (.slice A a.length c) ∧ W.cell? ⟨w.heap.size + 1, 0, none⟩ = some (.bool false) ∧ W.cell? ⟨w.heap.size + 1, 1, none⟩ = some (.slice A' b.length c') ∧ Held w0 (w.heap.size + 2) (w.heap.size + 2) W)
      (first | ((try go_split_ands); (try dsimp only); refine (unhide hS) _ ?_; first | exact Held.drew (by assumption) | exact Held.below (by assumption) hb1 | exact Held.below (by assumption) hb2 | exact Held.store (by assumption) _ _))
      (first
        | (go_at_call 49; (with_reducible refine ((unhide hMu) _ (held_w h2 (by go_split_ands; assumption))).mono ?_); rintro e w1 ⟨x1, r1, rfl, hg1, hs1, hz1, hb1⟩; have HZ1 := Lib.hid hz1; clear hz1)
        | (go_at_call 37; (with_reducible refine ((unhide hWd) _ _ _ _ hg1 hs1 (by rw [HZ1.out]; exact unhide HBD)).mono ?_); rintro e w2 ⟨x2, rfl, hx2, hb2⟩; obtain ⟨s2, A2, n2, c2, rfl⟩ := hx2.form; have hh2 := Held.below (by go_split_ands; assumption) hb2; obtain ⟨a7, b7, c7, c8, f7, f8⟩ := Held.facts hh2))
    go_wp2
    refine bodyPost_ret (v := .agg #[.bool s2, .slice A2 n2 c2]) (by simp [results, Try.results19, go_sem, c7, c8]) rfl ?_
    have HE := (unhide hF) w2 _ _ _ hx2 hh2
    rw [show wv false r1 = za * zb from by have := (unhide hWV) false false _ (HZ1.out); simpa using this] at HE
    exact HE
  · have h2r := unhide hb0
    clear hb0
    go_enter Try.func19, Try.ntmps19
    go_upto_region 1 with (fail)
    have h2 := h2r
    clear h2r
    generalize (((w.alloc (.cells #[.bool false, .slice A a.length c] 30)).alloc (.cells #[.bool true, .slice A' b.length c'] 30)).alloc (.cells #[.bool false, .slice none 0 0] 30)) = w0 at h2 ⊢
    have hS := hide (fun (W : World) (h : Held w0 (w.heap.size + 2) (w.heap.size + 2) W) => s2_of h2 W h)
    have hF := hide (fun (W : World) (x9 a9 : Value) (z : Int) (hx : Wd W (.agg #[x9, a9]) z) (h : Held w0 (w.heap.size + 2) (w.heap.size + 2) W) => pwide_held hx h2 h)
    have hh0 := held0 h2
    obtain ⟨e1, e2, e3, e4, _⟩ := s2_of h2 w0 hh0
    go_region_held3 (fun W => W.cell? ⟨w.heap.size, 0, none⟩ = some (.bool false) ∧ W.cell? ⟨w.heap.size, 1, none⟩ = some (.slice A a.length c) ∧ W.cell? ⟨w.heap.size + 1, 0, none⟩ = some (.bool true) ∧ W.cell? ⟨w.heap.size + 1, 1, none⟩ = some (.slice A' b.length c') ∧ Held w0 (w.heap.size + 2) (w.heap.size + 2) W)
      (first | ((try go_split_ands); (try dsimp only); refine (unhide hS) _ ?_; first | exact Held.drew (by assumption) | exact Held.below (by assumption) hb1 | exact Held.below (by assumption) hb2 | exact Held.store (by assumption) _ _))
      (first
        | (go_at_call 49; (with_reducible refine ((unhide hMu) _ (held_w h2 (by go_split_ands; assumption))).mono ?_); rintro e w1 ⟨x1, r1, rfl, hg1, hs1, hz1, hb1⟩; have HZ1 := Lib.hid hz1; clear hz1)
        | (go_at_call 37; (with_reducible refine ((unhide hWd) _ _ _ _ hg1 hs1 (by rw [HZ1.out]; exact unhide HBD)).mono ?_); rintro e w2 ⟨x2, rfl, hx2, hb2⟩; obtain ⟨s2, A2, n2, c2, rfl⟩ := hx2.form; have hh2 := Held.below (by go_split_ands; assumption) hb2; obtain ⟨a7, b7, c7, c8, f7, f8⟩ := Held.facts hh2))
    go_wp2
    refine bodyPost_ret (v := .agg #[.bool s2, .slice A2 n2 c2]) (by simp [results, Try.results19, go_sem, c7, c8]) rfl ?_
    have HE := (unhide hF) w2 _ _ _ hx2 hh2
    rw [show wv true r1 = za * -zb from by have := (unhide hWV) false true _ (HZ1.out); simpa using this] at HE
    exact HE
  · have h2r := unhide hb0
    clear hb0
    go_enter Try.func19, Try.ntmps19
    go_upto_region 1 with (fail)
    have h2 := h2r
    clear h2r
    generalize (((w.alloc (.cells #[.bool true, .slice A a.length c] 30)).alloc (.cells #[.bool false, .slice A' b.length c'] 30)).alloc (.cells #[.bool false, .slice none 0 0] 30)) = w0 at h2 ⊢
    have hS := hide (fun (W : World) (h : Held w0 (w.heap.size + 2) (w.heap.size + 2) W) => s2_of h2 W h)
    have hF := hide (fun (W : World) (x9 a9 : Value) (z : Int) (hx : Wd W (.agg #[x9, a9]) z) (h : Held w0 (w.heap.size + 2) (w.heap.size + 2) W) => pwide_held hx h2 h)
    have hh0 := held0 h2
    obtain ⟨e1, e2, e3, e4, _⟩ := s2_of h2 w0 hh0
    go_region_held3 (fun W => W.cell? ⟨w.heap.size, 0, none⟩ = some (.bool true) ∧ W.cell? ⟨w.heap.size, 1, none⟩ = some (.slice A a.length c) ∧ W.cell? ⟨w.heap.size + 1, 0, none⟩ = some (.bool false) ∧ W.cell? ⟨w.heap.size + 1, 1, none⟩ = some (.slice A' b.length c') ∧ Held w0 (w.heap.size + 2) (w.heap.size + 2) W)
      (first | ((try go_split_ands); (try dsimp only); refine (unhide hS) _ ?_; first | exact Held.drew (by assumption) | exact Held.below (by assumption) hb1 | exact Held.below (by assumption) hb2 | exact Held.store (by assumption) _ _))
      (first
        | (go_at_call 49; (with_reducible refine ((unhide hMu) _ (held_w h2 (by go_split_ands; assumption))).mono ?_); rintro e w1 ⟨x1, r1, rfl, hg1, hs1, hz1, hb1⟩; have HZ1 := Lib.hid hz1; clear hz1)
        | (go_at_call 37; (with_reducible refine ((unhide hWd) _ _ _ _ hg1 hs1 (by rw [HZ1.out]; exact unhide HBD)).mono ?_); rintro e w2 ⟨x2, rfl, hx2, hb2⟩; obtain ⟨s2, A2, n2, c2, rfl⟩ := hx2.form; have hh2 := Held.below (by go_split_ands; assumption) hb2; obtain ⟨a7, b7, c7, c8, f7, f8⟩ := Held.facts hh2))
    go_wp2
    refine bodyPost_ret (v := .agg #[.bool s2, .slice A2 n2 c2]) (by simp [results, Try.results19, go_sem, c7, c8]) rfl ?_
    have HE := (unhide hF) w2 _ _ _ hx2 hh2
    rw [show wv true r1 = -za * zb from by have := (unhide hWV) true false _ (HZ1.out); simpa using this] at HE
    exact HE
  · have h2r := unhide hb0
    clear hb0
    go_enter Try.func19, Try.ntmps19
    go_upto_region 1 with (fail)
    have h2 := h2r
    clear h2r
    generalize (((w.alloc (.cells #[.bool true, .slice A a.length c] 30)).alloc (.cells #[.bool true, .slice A' b.length c'] 30)).alloc (.cells #[.bool false, .slice none 0 0] 30)) = w0 at h2 ⊢
    have hS := hide (fun (W : World) (h : Held w0 (w.heap.size + 2) (w.heap.size + 2) W) => s2_of h2 W h)
    have hF := hide (fun (W : World) (x9 a9 : Value) (z : Int) (hx : Wd W (.agg #[x9, a9]) z) (h : Held w0 (w.heap.size + 2) (w.heap.size + 2) W) => pwide_held hx h2 h)
    have hh0 := held0 h2
    obtain ⟨e1, e2, e3, e4, _⟩ := s2_of h2 w0 hh0
    go_region_held3 (fun W => W.cell? ⟨w.heap.size, 0, none⟩ = some (.bool true) ∧ W.cell? ⟨w.heap.size, 1, none⟩ = some (.slice A a.length c) ∧ W.cell? ⟨w.heap.size + 1, 0, none⟩ = some (.bool true) ∧ W.cell? ⟨w.heap.size + 1, 1, none⟩ = some (.slice A' b.length c') ∧ Held w0 (w.heap.size + 2) (w.heap.size + 2) W)
      (first | ((try go_split_ands); (try dsimp only); refine (unhide hS) _ ?_; first | exact Held.drew (by assumption) | exact Held.below (by assumption) hb1 | exact Held.below (by assumption) hb2 | exact Held.store (by assumption) _ _))
      (first
        | (go_at_call 49; (with_reducible refine ((unhide hMu) _ (held_w h2 (by go_split_ands; assumption))).mono ?_); rintro e w1 ⟨x1, r1, rfl, hg1, hs1, hz1, hb1⟩; have HZ1 := Lib.hid hz1; clear hz1)
        | (go_at_call 37; (with_reducible refine ((unhide hWd) _ _ _ _ hg1 hs1 (by rw [HZ1.out]; exact unhide HBD)).mono ?_); rintro e w2 ⟨x2, rfl, hx2, hb2⟩; obtain ⟨s2, A2, n2, c2, rfl⟩ := hx2.form; have hh2 := Held.below (by go_split_ands; assumption) hb2; obtain ⟨a7, b7, c7, c8, f7, f8⟩ := Held.facts hh2))
    go_wp2
    refine bodyPost_ret (v := .agg #[.bool s2, .slice A2 n2 c2]) (by simp [results, Try.results19, go_sem, c7, c8]) rfl ?_
    have HE := (unhide hF) w2 _ _ _ hx2 hh2
    rw [show wv false r1 = -za * -zb from by have := (unhide hWV) true true _ (HZ1.out); simpa using this] at HE
    exact HE
set_option maxRecDepth 100000 in
set_option maxHeartbeats 2000000 in
theorem WideInt_1 (w : World) : Calls Try.prog 50 #[.int .i64 (1)] w (PWide w (1)) := by
  have hW := hide (fun (W : World) (h : Blk W (w.heap.size + 1) 88 (ivs .u32 [1, 0]).toArray) => by
    have h2 := blk_rd h (by simp)
    have h3 := wide_any W false _ _ ⟨h2.1, h2.2⟩ (show Sm [1, 0] from fun x hx => by simp at hx; omega) (by show dv [1, 0] < bp 100; decide)
    rw [show wv false [1, 0] = (1) by decide] at h3
    exact h3)
  have hB := hide (Blk.new (w := w.alloc (.cells #[.bool false, .slice none 0 0] 30)) (g := w.heap.size + 1) 88 (ivs .u32 [1, 0]).toArray (by simp))
  have hX := hide ((Blk.new (w := w) (g := w.heap.size) 30 #[.bool false, .slice none 0 0] rfl).alloc (.cells (ivs .u32 [1, 0]).toArray 88))
  have hbw := hide (show Below w.heap.size w ((w.alloc (.cells #[.bool false, .slice none 0 0] 30)).alloc (.cells (ivs .u32 [1, 0]).toArray 88)) from ((Below.refl _ _).alloc (Nat.le_refl _) _).alloc (by simp) _)
  go_enter Try.func50, Try.ntmps50
  go_wp2_with fail
  refine ((unhide hW) _ (unhide hB)).mono ?_
  rintro e w1 ⟨x, rfl, hx, hb⟩
  have hX3 := (unhide hX).below hb
  have hb3 := below_tr (unhide hbw) hb (unhide hbw).size
  obtain ⟨s', A', n', c', rfl⟩ := hx.form
  have c0 := hX3.cell 0
  have c1 := hX3.cell 1
  have f0 := hX3.frozen 0
  have f1 := hX3.frozen 1
  simp at c0 c1
  have hfin := hide (pwide_fin hx hX3 hb3 (Nat.le_refl _))
  clear hX3 hb3 hx hX hbw hB hW hb
  go_wp2
  refine bodyPost_ret (v := .agg #[.bool s', .slice A' n' c']) (by simp [results, Try.results50, go_sem, c0, c1]) rfl ?_
  exact unhide hfin
set_option maxRecDepth 100000 in
set_option maxHeartbeats 2000000 in
theorem WideInt_10 (w : World) : Calls Try.prog 50 #[.int .i64 (10)] w (PWide w (10)) := by
  have hW := hide (fun (W : World) (h : Blk W (w.heap.size + 1) 88 (ivs .u32 [10, 0]).toArray) => by
    have h2 := blk_rd h (by simp)
    have h3 := wide_any W false _ _ ⟨h2.1, h2.2⟩ (show Sm [10, 0] from fun x hx => by simp at hx; omega) (by show dv [10, 0] < bp 100; decide)
    rw [show wv false [10, 0] = (10) by decide] at h3
    exact h3)
  have hB := hide (Blk.new (w := w.alloc (.cells #[.bool false, .slice none 0 0] 30)) (g := w.heap.size + 1) 88 (ivs .u32 [10, 0]).toArray (by simp))
  have hX := hide ((Blk.new (w := w) (g := w.heap.size) 30 #[.bool false, .slice none 0 0] rfl).alloc (.cells (ivs .u32 [10, 0]).toArray 88))
  have hbw := hide (show Below w.heap.size w ((w.alloc (.cells #[.bool false, .slice none 0 0] 30)).alloc (.cells (ivs .u32 [10, 0]).toArray 88)) from ((Below.refl _ _).alloc (Nat.le_refl _) _).alloc (by simp) _)
  go_enter Try.func50, Try.ntmps50
  go_wp2_with fail
  refine ((unhide hW) _ (unhide hB)).mono ?_
  rintro e w1 ⟨x, rfl, hx, hb⟩
  have hX3 := (unhide hX).below hb
  have hb3 := below_tr (unhide hbw) hb (unhide hbw).size
  obtain ⟨s', A', n', c', rfl⟩ := hx.form
  have c0 := hX3.cell 0
  have c1 := hX3.cell 1
  have f0 := hX3.frozen 0
  have f1 := hX3.frozen 1
  simp at c0 c1
  have hfin := hide (pwide_fin hx hX3 hb3 (Nat.le_refl _))
  clear hX3 hb3 hx hX hbw hB hW hb
  go_wp2
  refine bodyPost_ret (v := .agg #[.bool s', .slice A' n' c']) (by simp [results, Try.results50, go_sem, c0, c1]) rfl ?_
  exact unhide hfin
set_option maxRecDepth 100000 in
set_option maxHeartbeats 2000000 in
theorem WideInt_m1 (w : World) : Calls Try.prog 50 #[.int .i64 (-1)] w (PWide w (-1)) := by
  have hW := hide (fun (W : World) (h : Blk W (w.heap.size + 1) 88 (ivs .u32 [1, 0]).toArray) => by
    have h2 := blk_rd h (by simp)
    have h3 := wide_any W true _ _ ⟨h2.1, h2.2⟩ (show Sm [1, 0] from fun x hx => by simp at hx; omega) (by show dv [1, 0] < bp 100; decide)
    rw [show wv true [1, 0] = (-1) by decide] at h3
    exact h3)
  have hB := hide (Blk.new (w := w.alloc (.cells #[.bool false, .slice none 0 0] 30)) (g := w.heap.size + 1) 88 (ivs .u32 [1, 0]).toArray (by simp))
  have hX := hide ((Blk.new (w := w) (g := w.heap.size) 30 #[.bool false, .slice none 0 0] rfl).alloc (.cells (ivs .u32 [1, 0]).toArray 88))
  have hbw := hide (show Below w.heap.size w ((w.alloc (.cells #[.bool false, .slice none 0 0] 30)).alloc (.cells (ivs .u32 [1, 0]).toArray 88)) from ((Below.refl _ _).alloc (Nat.le_refl _) _).alloc (by simp) _)
  go_enter Try.func50, Try.ntmps50
  go_wp2_with fail
  refine ((unhide hW) _ (unhide hB)).mono ?_
  rintro e w1 ⟨x, rfl, hx, hb⟩
  have hX3 := (unhide hX).below hb
  have hb3 := below_tr (unhide hbw) hb (unhide hbw).size
  obtain ⟨s', A', n', c', rfl⟩ := hx.form
  have c0 := hX3.cell 0
  have c1 := hX3.cell 1
  have f0 := hX3.frozen 0
  have f1 := hX3.frozen 1
  simp at c0 c1
  have hfin := hide (pwide_fin hx hX3 hb3 (Nat.le_refl _))
  clear hX3 hb3 hx hX hbw hB hW hb
  go_wp2
  refine bodyPost_ret (v := .agg #[.bool s', .slice A' n' c']) (by simp [results, Try.results50, go_sem, c0, c1]) rfl ?_
  exact unhide hfin
def KT (w : World) (g2 g3 : Nat) (s : Bool) (A : Option Addr) (n c : Nat) (z : Int) (W : World) : Prop := Blk W g3 30 #[.bool s, .slice A n c] ∧ Wd W (.agg #[.bool s, .slice A n c]) z ∧ (∃ x y, Blk W g2 30 #[x, y]) ∧ Below w.heap.size w W
theorem KT.below {w W W' : World} {g2 g3 : Nat} {s : Bool} {A : Option Addr} {n c : Nat} {z : Int} (h : KT w g2 g3 s A n c z W) (hb : Below W.heap.size W W') : KT w g2 g3 s A n c z W' := by
  obtain ⟨h1, h2, ⟨x, y, h3⟩, h4⟩ := h
  exact ⟨h1.below hb, h2.below hb, ⟨x, y, h3.below hb⟩, below_tr h4 hb h4.size⟩
theorem KT.drew {w W : World} {g2 g3 : Nat} {s : Bool} {A : Option Addr} {n c : Nat} {z : Int} (h : KT w g2 g3 s A n c z W) : KT w g2 g3 s A n c z W.drew := h.below (bdrew (Below.refl _ _))
theorem KT.facts {w W : World} {g2 g3 : Nat} {s : Bool} {A : Option Addr} {n c : Nat} {z : Int} (h : KT w g2 g3 s A n c z W) :
    W.cell? ⟨g3, 0, none⟩ = some (.bool s) ∧ W.cell? ⟨g3, 1, none⟩ = some (.slice A n c) ∧ W.frozen? ⟨g3, 0, none⟩ = false ∧ W.frozen? ⟨g3, 1, none⟩ = false ∧ KT w g2 g3 s A n c z W :=
  ⟨by have := h.1.cell 0; simpa using this, by have := h.1.cell 1; simpa using this, h.1.frozen 0, h.1.frozen 1, h⟩
theorem KT.next {w W : World} {g2 g3 : Nat} {s s' : Bool} {A A' : Option Addr} {n c n' c' : Nat} {z z' : Int} (h : KT w g2 g3 s A n c z W) (hx : Wd W (.agg #[.bool s', .slice A' n' c']) z') (hne : g2 ≠ g3) (h3 : w.heap.size ≤ g3) :
    KT w g2 g3 s' A' n' c' z' ((W.setCell ⟨g3, 0, none⟩ (.bool s')).setCell ⟨g3, 1, none⟩ (.slice A' n' c')) := by
  obtain ⟨h1, h2, ⟨x, y, h4⟩, h5⟩ := h
  refine ⟨by have := (h1.set 0 (.bool s')).set 1 (.slice A' n' c'); simpa using this, (hx.far h1.tyb (by decide) 0 _).far (h1.tyb.set _ _ _) (by decide) 1 _, ⟨x, y, (h4.other (by simpa using hne) _).other (by simpa using hne) _⟩, (h5.setCell h3 _).setCell h3 _⟩
theorem KT.wd {w W : World} {g2 g3 : Nat} {s : Bool} {A : Option Addr} {n c : Nat} {z : Int} (h : KT w g2 g3 s A n c z W) : Wd W (.agg #[.bool s, .slice A n c]) z := h.2.1
def TRel (w : World) (N g3 : Nat) (v4 : Value) (wr : World) : Prop := ∃ (i : Nat) (s : Bool) (A : Option Addr) (n c : Nat), v4 = .int .i64 (i : Int) ∧ i ≤ N ∧ KT w w.heap.size g3 s A n c (10 ^ i) wr
theorem ten_bd (i : Nat) (h : i ≤ 200) : (10 : Int) ^ i < bp 100 := by
  have h0 : (10 : Nat) ^ i ≤ 10 ^ 200 := Nat.pow_le_pow_right (by decide) h
  have h1 : ((10 ^ i : Nat) : Int) ≤ ((10 ^ 200 : Nat) : Int) := by exact_mod_cast h0
  rw [Int.natCast_pow, Int.natCast_pow] at h1
  have h3 : ((10 : Nat) : Int) = 10 := rfl
  rw [h3] at h1
  have h2 : (10 : Int) ^ 200 < bp 100 := by decide +kernel
  omega
set_option maxRecDepth 100000 in
set_option maxHeartbeats 4000000 in
theorem Ten_any (w : World) (N : Nat) (hN : N ≤ 80) : Calls Try.prog 20 #[.int .i64 (N : Int)] w (PWide w (10 ^ N)) := by
  go_enter Try.func20, Try.ntmps20
  go_wp2_with fail
  refine (WideInt_1 _).mono ?_
  rintro e w1 ⟨x, rfl, hx, hb1⟩
  obtain ⟨s, A, n, c, rfl⟩ := hx.form
  have k2 := (Blk.new (w := w) (g := w.heap.size) 30 #[.bool false, .slice none 0 0] rfl).below hb1
  have hB1 := below_tr ((Below.refl w.heap.size w).alloc (Nat.le_refl _) (.cells #[.bool false, .slice none 0 0] 30)) hb1 (by simp)
  have hK0 : KT w w.heap.size w1.heap.size s A n c (10 ^ 0) (w1.alloc (.cells #[.bool s, .slice A n c] 30)) :=
    ⟨Blk.new _ _ rfl, hx.below ((Below.refl _ _).alloc (Nat.le_refl _) _), ⟨_, _, k2.alloc _⟩, hB1.alloc hB1.size _⟩
  have hne : w.heap.size < w1.heap.size := k2.lt
  clear hx k2 hB1 hb1
  go_wp2_with fail
  generalize (w1.alloc (.cells #[.bool s, .slice A n c] 30)) = w2 at *
  generalize w1.heap.size = g3 at *
  have h00 := hide (show TRel w N g3 (.int .i64 0) w2 from ⟨0, s, A, n, c, rfl, by omega, hK0⟩)
  clear hK0
  go_loopw [4] (TRel w N g3) (fun v _ => N - (intOf v).toNat)
  case atStart => exact unhide h00
  case round =>
    obtain ⟨i, s, A, n, c, rfl, hi, hk⟩ := hrel
    by_cases hlt : i < N
    · have hb1 := hide (show -bp 100 < (10 : Int) ^ i * 10 ∧ (10 : Int) ^ i * 10 < bp 100 from by
        have e : (10 : Int) ^ i * 10 = 10 ^ (i + 1) := (Int.pow_succ _ _).symm
        have h1 := ten_bd (i + 1) (by omega)
        have h2 : (0 : Int) < 10 ^ (i + 1) := Int.pow_pos (by decide)
        have h3 := bp_pos 100
        rw [e]; omega)
      have HE := hide (show (10 : Int) ^ i * 10 = 10 ^ (i + 1) from (Int.pow_succ _ _).symm)
      obtain ⟨q0, q1, q2, q3, _⟩ := KT.facts hk
      generalize (10 : Int) ^ i = z at *
      go_upto_region 5 with (fail)
      refine wp_region_K (S := fun W => W.cell? ⟨g3, 0, none⟩ = some (.bool s) ∧ W.cell? ⟨g3, 1, none⟩ = some (.slice A n c) ∧ W.frozen? ⟨g3, 0, none⟩ = false ∧ W.frozen? ⟨g3, 1, none⟩ = false ∧ KT w w.heap.size g3 s A n c z W) (k := 3) (by kernel_rfl) (by with_reducible exact KT.facts hk.drew) (fun hHeld => ?_)
      clear q0 q1 q2 q3
      refine wpAnyK_take (i := 0) (oi := _) (v := ?_) rfl (by kernel_rfl) (by kernel_rfl) (by kernel_rfl) (by kernel_rfl) (fun _ _ _ h => h) (Or.inl ⟨by rfl, ?_⟩) (by assumption) ?_
      rotate_left
      · intro w hSw; (try dsimp only at hSw); go_simp; (try with_reducible rfl)
      try simp only [Act.put, List.setIfInBounds_toArray, List.set_cons_zero, List.set_cons_succ]
      refine wpAnyK_one (i := 1) (o := _) (by kernel_rfl) rfl (fun K hK => ?_)
      go_simp
      ((go_at_call 50; (with_reducible refine (WideInt_10 _).mono ?_); rintro e w3 ⟨x3, rfl, hx3, hb3⟩; obtain ⟨s3, A3, n3, c3, rfl⟩ := hx3.form); go_wp2_with fail)
      refine hK.out _ _ (by with_reducible exact KT.facts (KT.below hHeld.2.2.2.2 hb3)) (fun hHeld => ?_)
      clear hK K
      refine wpAnyK_one (i := 2) (o := _) (by kernel_rfl) rfl (fun K hK => ?_)
      go_simp
      ((go_at_call 19; (with_reducible refine (WideMul_any _ _ _ _ _ (KT.wd hHeld.2.2.2.2) hx3 (unhide hb1).1 (unhide hb1).2).mono ?_); rintro e w4 ⟨x4, rfl, hx4, hb4⟩; obtain ⟨s4, A4, n4, c4, rfl⟩ := hx4.form); go_wp2_with fail)
      refine hK.out _ _ (by with_reducible exact KT.facts (KT.below hHeld.2.2.2.2 hb4)) (fun hHeld => ?_)
      clear hK K
      refine wpAnyK_end (o := _) (by kernel_rfl) rfl (fun K hK => ?_)
      go_simp
      refine hK.out _ _ ?_
      clear hK K
      refine wpAnyK_done (by kernel_rfl) ?_ _
      have hr := hide (show TRel w N g3 (.int .i64 ((i : Int) + 1)) ((w4.setCell ⟨g3, 0, none⟩ (.bool s4)).setCell ⟨g3, 1, none⟩ (.slice A4 n4 c4)) from ⟨i + 1, s4, A4, n4, c4, by simp, by omega, by rw [← unhide HE]; exact KT.next hHeld.2.2.2.2 hx4 (by omega) (by omega)⟩)
      clear hHeld hx4 hb4 hx3 hb3 hk
      go_wp2_with fail
      exact ⟨unhide hr, by simp [intOf]; omega⟩
    · obtain rfl : i = N := by omega
      obtain ⟨q0, q1, q2, q3, _⟩ := KT.facts hk
      obtain ⟨k3, hwd, ⟨x, y, k2⟩, hb⟩ := hk
      have f0 := k2.cell 0
      have f1 := k2.cell 1
      have f2 := k2.frozen 0
      have f3 := k2.frozen 1
      simp at f0 f1
      have hfin := hide (pwide_fin hwd k2 hb (Nat.le_refl _))
      clear hwd k2 k3 hb
      go_wp2_with fail
      refine bodyPost_ret (v := .agg #[.bool s, .slice A n c]) (by simp [results, Try.results20, go_sem, f0, f1]) rfl ?_
      exact unhide hfin
def rnd (x y : Int) : Int := if y ≤ 2 * ((x.tmod y).natAbs : Int) then x.tdiv y + (if x < 0 then -1 else 1) else x.tdiv y
structure RB (w : World) (g7 : Nat) (s : Bool) (A : Option Addr) (n c : Nat) (s' : Bool) (A' : Option Addr) (n' c' : Nat) (sq : Bool) (Aq : Option Addr) (nq cq : Nat) (sr : Bool) (Ar : Option Addr) (nr cr : Nat) (zq zr : Int) (b : List Int) (W : World) : Prop where
  k3 : Blk W w.heap.size 30 #[.bool s, .slice A n c]
  k4 : Blk W (w.heap.size + 1) 30 #[.bool s', .slice A' n' c']
  k6 : ∃ x y, Blk W (w.heap.size + 2) 30 #[x, y]
  k7 : Blk W g7 30 #[.bool sq, .slice Aq nq cq]
  k8 : Blk W (g7 + 1) 30 #[.bool sr, .slice Ar nr cr]
  q : Wd W (.agg #[.bool sq, .slice Aq nq cq]) zq
  r : Wd W (.agg #[.bool sr, .slice Ar nr cr]) zr
  m : Mg W (.slice A' n' c') b
  bel : Below w.heap.size w W
  lt : w.heap.size + 2 < g7
theorem RB.below {w : World} {g7 : Nat} {s : Bool} {A : Option Addr} {n c : Nat} {s' : Bool} {A' : Option Addr} {n' c' : Nat} {sq : Bool} {Aq : Option Addr} {nq cq : Nat} {sr : Bool} {Ar : Option Addr} {nr cr : Nat} {zq zr : Int} {b : List Int} {W W' : World}
    (h : RB w g7 s A n c s' A' n' c' sq Aq nq cq sr Ar nr cr zq zr b W) (hb : Below W.heap.size W W') : RB w g7 s A n c s' A' n' c' sq Aq nq cq sr Ar nr cr zq zr b W' := by
  obtain ⟨h1, h2, ⟨x, y, h3⟩, h4, h5, h6, h7, h8, h9, h10⟩ := h
  exact ⟨h1.below hb, h2.below hb, ⟨x, y, h3.below hb⟩, h4.below hb, h5.below hb, h6.below hb, h7.below hb, h8.below hb, below_tr h9 hb h9.size, h10⟩
theorem Wd.mag {w : World} {s : Bool} {A : Option Addr} {n c : Nat} {z : Int} (h : Wd w (.agg #[.bool s, .slice A n c]) z) : ∃ l, n = l.length ∧ Mg w (.slice A l.length c) l ∧ Sm l ∧ Trim l ∧ dv l = (z.natAbs : Int) ∧ l.length ≤ 100 ∧ s = decide (z < 0) := by
  obtain ⟨s0, l, u, e, hm, hs, ht, hn, hz, hl⟩ := h
  simp only [Value.agg.injEq, Array.mk.injEq, List.cons.injEq, Value.bool.injEq, and_true] at e
  obtain ⟨rfl, rfl⟩ := e
  obtain ⟨A1, c1, e1, h1, h2⟩ := id hm.1
  simp only [Value.slice.injEq] at e1
  obtain ⟨rfl, rfl, rfl⟩ := e1
  obtain ⟨g1, g2⟩ := wd_sign hs ht hn hz
  exact ⟨l, rfl, hm, hs, ht, g2, hl, g1⟩
theorem RB.set {w : World} {g7 : Nat} {s : Bool} {A : Option Addr} {n c : Nat} {s' : Bool} {A' : Option Addr} {n' c' : Nat} {sq : Bool} {Aq : Option Addr} {nq cq : Nat} {sr : Bool} {Ar : Option Addr} {nr cr : Nat} {zq zr : Int} {b : List Int} {W : World} {g : Nat}
    (h : RB w g7 s A n c s' A' n' c' sq Aq nq cq sr Ar nr cr zq zr b W) (hg : g7 + 1 < g) (ht : Tyb W g 30) (i : Nat) (v : Value) : RB w g7 s A n c s' A' n' c' sq Aq nq cq sr Ar nr cr zq zr b (W.setCell ⟨g, i, none⟩ v) := by
  obtain ⟨h1, h2, ⟨x, y, h3⟩, h4, h5, h6, h7, h8, h9, h10⟩ := h
  exact ⟨h1.other (by simp; omega) _, h2.other (by simp; omega) _, ⟨x, y, h3.other (by simp; omega) _⟩, h4.other (by simp; omega) _, h5.other (by simp; omega) _, h6.far ht (by decide) _ _, h7.far ht (by decide) _ _, h8.far ht (by decide) _ _, h9.setCell (by simp; omega) _, h10⟩
theorem rnd_no {x y : Int} (h : ¬ y ≤ ((x.tmod y).natAbs : Int) + ((x.tmod y).natAbs : Int)) : rnd x y = x.tdiv y := by unfold rnd; rw [if_neg (by omega)]
theorem rnd_yes {x y : Int} (h : y ≤ ((x.tmod y).natAbs : Int) + ((x.tmod y).natAbs : Int)) : rnd x y = x.tdiv y + (if x < 0 then -1 else 1) := by unfold rnd; rw [if_pos (by omega)]
theorem cmp_m1 {a b : Int} (h : ¬ b ≤ a) : cmpI a b = -1 := by unfold cmpI; rw [if_pos (by omega)]
theorem cmp_nn {a b : Int} (h : b ≤ a) : 0 ≤ cmpI a b := by unfold cmpI; split <;> (try split) <;> omega
set_option maxRecDepth 100000 in
set_option maxHeartbeats 8000000 in
theorem WideRound_any (w : World) (u v : Value) (x y : Int) (hu : Wd w u x) (hv : Wd w v y) (hy : 0 < y) (h1 : -bp 98 < x) (h2 : x < bp 98) :
    Calls Try.prog 21 #[u, v, .int .i64 1] w (PWide w (rnd x y)) := by
  obtain ⟨s, A, n, c, rfl⟩ := hu.form
  obtain ⟨s', A', n', c', rfl⟩ := hv.form
  obtain ⟨b, hbl, hbm, hbs, hbt, hbd, hb100, hss⟩ := Wd.mag hv
  clear hss
  have hsx : s = decide (x < 0) := by obtain ⟨_, _, _, _, _, _, _, h⟩ := Wd.mag hu; exact h
  subst hbl
  have hD := hide (fun (W : World) (h : Below w.heap.size w W) => WideDiv_any W _ _ x y (hu.below h) (hv.below h) (by omega))
  have HM := hide hbm
  have hbd' : dv b = y := by rw [hbd]; omega
  have HBS := hide (And.intro hbs hbt)
  clear hu hv hbm hbs hbt hbd
  have HSX := hide hsx
  have HBD := hide hbd'
  clear hsx hbd'
  generalize hbn : b.length = bn at *
  have HBN := hide hbn
  clear hbn
  go_enter Try.func21, Try.ntmps21
  go_wp2_with fail
  refine ((unhide hD) _ (by exact (((Below.refl _ _).alloc (Nat.le_refl _) _).alloc (by simp) _).alloc (by simp; omega) _)).mono ?_
  rintro e w1 ⟨xq, xr, rfl, hq, hr, hb1⟩
  obtain ⟨sq, Aq, nq, cq, rfl⟩ := hq.form
  obtain ⟨sr, Ar, nr, cr, rfl⟩ := hr.form
  have hxd := hide (show (x.tmod y).natAbs = (x.tmod y).natAbs from rfl)
  obtain ⟨lr, hlr, hrm, hrs, hrt, hrd, hr100, hss⟩ := Wd.mag hr
  clear hss
  subst hlr
  have hB0 : Below w.heap.size w w1 := below_tr ((((Below.refl w.heap.size w).alloc (Nat.le_refl _) (.cells #[.bool s, .slice A n c] 30)).alloc (by simp) (.cells #[.bool s', .slice A' bn c'] 30)).alloc (by simp; omega) (.cells #[.bool false, .slice none 0 0] 30)) hb1 (by simp; omega)
  have k3 := (((Blk.new (w := w) (g := w.heap.size) 30 #[.bool s, .slice A n c] rfl).alloc (.cells #[.bool s', .slice A' bn c'] 30)).alloc (.cells #[.bool false, .slice none 0 0] 30)).below hb1
  have k4 := ((Blk.new (w := w.alloc (.cells #[.bool s, .slice A n c] 30)) (g := w.heap.size + 1) 30 #[.bool s', .slice A' bn c'] (by simp)).alloc (.cells #[.bool false, .slice none 0 0] 30)).below hb1
  have k6 := (Blk.new (w := (w.alloc (.cells #[.bool s, .slice A n c] 30)).alloc (.cells #[.bool s', .slice A' bn c'] 30)) (g := w.heap.size + 2) 30 #[.bool false, .slice none 0 0] (by simp)).below hb1
  have hm1 : Below w1.heap.size w1 ((w1.alloc (.cells #[.bool sq, .slice Aq nq cq] 30)).alloc (.cells #[.bool sr, .slice Ar lr.length cr] 30)) := ((Below.refl _ _).alloc (Nat.le_refl _) _).alloc (by simp) _
  have hRB : RB w w1.heap.size s A n c s' A' bn c' sq Aq nq cq sr Ar lr.length cr (x.tdiv y) (x.tmod y) b ((w1.alloc (.cells #[.bool sq, .slice Aq nq cq] 30)).alloc (.cells #[.bool sr, .slice Ar lr.length cr] 30)) :=
    ⟨k3.below hm1, k4.below hm1, ⟨_, _, k6.below hm1⟩, (Blk.new _ _ rfl).alloc _, Blk.new _ _ (by simp), hq.below hm1, hr.below hm1, ((unhide HM).below hB0).below hm1, below_tr hB0 hm1 hB0.size, k6.lt⟩
  have hrm2 := hrm.below hm1
  have HLR := hide (And.intro hrs (And.intro hrt (And.intro hrd hr100)))
  clear k3 k4 k6 hB0 hb1 hq hr hrm hm1 hrs hrt hrd hr100 hxd
  generalize hlrn : lr.length = ln at *
  have HLN := hide hlrn
  clear hlrn
  generalize hzr : x.tmod y = zr at *
  have HZR := hide hzr
  clear hzr
  generalize hzq : x.tdiv y = zq at *
  have HZQ := hide hzq
  clear hzq
  go_upto_region 2 with (fail)
  generalize ((w1.alloc (.cells #[.bool sq, .slice Aq nq cq] 30)).alloc (.cells #[.bool sr, .slice Ar ln cr] 30)) = w2 at *
  generalize w1.heap.size = g7 at *
  have hAdd := hide (magAdd_any w2 (.slice Ar ln cr) (.slice Ar ln cr) lr lr (by rw [← unhide HLN] at hrm2 ⊢; exact hrm2.1) (by rw [← unhide HLN] at hrm2 ⊢; exact hrm2.1) (unhide HLR).1 (unhide HLR).1 (by have := (unhide HLR).2.2.2; have h5 := unhide HLN; omega) (by have := (unhide HLR).2.2.2; have h5 := unhide HLN; omega))
  obtain ⟨t0, t1, t2, t3, _⟩ := blk_facts hRB.k8
  have HRB := hide hRB
  clear hRB hrm2
  go_wp2_with fail
  refine (unhide hAdd).mono ?_
  rintro e w3 ⟨x9, l9, rfl, hm9, hs9, hlen9, hz9, hb3, _⟩
  have hRB3 := (unhide HRB).below hb3
  obtain ⟨A9, c9, rfl, _⟩ := id hm9.1
  have hl9 : l9.length ≤ 10000 := by have := (unhide HLR).2.2.2; have h5 := unhide HLN; omega
  have hT := hide (fun (W : World) (h : Below w3.heap.size w3 W) => trim_any W A9 c9 l9 (hm9.1.below h))
  have hD9 : dv l9 = ((x.tmod y).natAbs : Int) + ((x.tmod y).natAbs : Int) := by rw [hz9, (unhide HLR).2.2.1, unhide HZR]
  have hC := hide (fun (W : World) (h : Below w3.heap.size w3 W) (n : Nat) (hn : n ≤ l9.length) (ht : Trim (l9.take n)) (hd : dv (l9.take n) = dv l9) => by
    have := magCmp_any W (.slice A9 n c9) (.slice A' bn c') (l9.take n) b (mg_take (hm9.below h) hn).1 (hRB3.m.below h).1 (sm_take hs9 n) (unhide HBS).1 ht (unhide HBS).2 (by simp; omega) (by rw [unhide HBN]; omega)
    rw [hd, hD9, unhide HBD] at this
    exact this)
  have hL := hide (fun (W : World) (h : Below w3.heap.size w3 W) => (show W.cell? ⟨w.heap.size + 1, 1, none⟩ = some (.slice A' bn c') ∧ Below w3.heap.size w3 W from ⟨by have := (hRB3.k4.below h).cell 1; simpa using this, h⟩))
  have c4 := ((unhide hL) w3 (Below.refl _ _)).1
  have HRB3 := hide hRB3
  clear hRB3 hm9 hs9 hlen9 hz9 hD9 HRB hb3 t0 t1 t2 t3
  generalize hln9 : l9.length = ln9 at *
  have HLN9 := hide hln9
  clear hln9
  generalize hDD : ((x.tmod y).natAbs : Int) + ((x.tmod y).natAbs : Int) = DD at *
  have HDD := hide hDD
  clear hDD
  have hb33 : Below w3.heap.size w3 w3 := Below.refl _ _
  go_upto_region 3 with (fail)
  go_region_held3 (fun W => W.cell? ⟨w.heap.size + 1, 1, none⟩ = some (.slice A' bn c') ∧ Below w3.heap.size w3 W)
    (first | ((try go_split_ands); (try dsimp only); refine (unhide hL) _ ?_; first | (with_reducible assumption) | exact bdrew (by assumption) | exact below_tr (by assumption) hb5 (by first | exact Nat.le_refl _ | exact Below.size (by assumption))))
    (first
      | (go_at_call 52; (with_reducible refine ((unhide hT) _ (by go_split_ands; assumption)).mono ?_); rintro e w4 ⟨n4, rfl, hn4, ht4, hd4, rfl⟩; have hn5 : n4 ≤ ln9 := (unhide HLN9) ▸ hn4)
      | (go_at_call 43; (with_reducible refine ((unhide hC) _ (by go_split_ands; assumption) _ hn5 ht4 hd4).mono ?_); rintro e w5 ⟨rfl, hb5⟩))
  have hRB5 := (unhide HRB3).below (below_tr (bdrew (Below.refl _ _)) hb5 (Nat.le_refl _))
  by_cases hup : y ≤ DD
  · have hcc := cmp_nn hup
    have hz : rnd x y = zq + (if x < 0 then -1 else 1) := by rw [rnd_yes (by rw [unhide HDD]; exact hup), unhide HZQ]
    have hzr : zr ≠ 0 := by
      intro e
      have h3 := unhide HDD
      rw [unhide HZR, e] at h3
      simp at h3
      omega
    have hsg : (sgn zr != 0) = true := by unfold sgn; split <;> (try split) <;> simp_all
    have hzq1 : -bp 99 < zq ∧ zq < bp 99 := by
      have h5 := unhide HZQ
      have h6 : bp 98 ≤ bp 99 := bp_le (by omega)
      have h7 := Int.natAbs_tdiv_le_natAbs x y
      rw [h5] at h7
      omega
    generalize cmpI DD y = cc at *
    have hS := hide (Sign_any w5 _ zr hRB5.r)
    obtain ⟨t0, t1, t2, t3, _⟩ := blk_facts hRB5.k8
    have HRB5 := hide hRB5
    have HZ := hide hz
    have HZB := hide hzq1
    clear hRB5 hz hzr hzq1 hup hb5 hC hT hL c4 HRB3
    go_wp2_with fail
    refine (unhide hS).mono ?_
    rintro e w6 ⟨rfl, hb6⟩
    have hRB6 := (unhide HRB5).below hb6
    have HRB6 := hide hRB6
    clear hRB6 hb6 t0 t1 t2 t3 HRB5
    go_wp2_with fail
    refine (WideInt_1 _).mono ?_
    rintro e w7 ⟨x7, rfl, hx7, hb7⟩
    obtain ⟨s7, A7, n7, c7, rfl⟩ := hx7.form
    have hm8 : Below w7.heap.size w7 (w7.alloc (.cells #[.bool s7, .slice A7 n7 c7] 30)) := (Below.refl _ _).alloc (Nat.le_refl _) _
    have hRB8 := ((unhide HRB6).below hb7).below hm8
    have k12 := Blk.new (w := w7) (g := w7.heap.size) 30 #[.bool s7, .slice A7 n7 c7] rfl
    have hx8 := hx7.below hm8
    have hg12 : g7 + 1 < w7.heap.size := ((unhide HRB6).below hb7).k8.lt
    clear hb7 hx7 hm8 HRB6
    go_upto_region 12 with (fail)
    generalize (w7.alloc (.cells #[.bool s7, .slice A7 n7 c7] 30)) = w8 at *
    generalize w7.heap.size = g12 at *
    have hs := unhide HSX
    cases s
    case false =>
      have hx0 : ¬ x < 0 := by simpa using hs.symm
      rw [if_neg hx0] at HZ
      clear hs HSX
      obtain ⟨t0, t1, t2, t3, _⟩ := blk_facts hRB8.k3
      obtain ⟨p0, p1, p2, p3, _⟩ := blk_facts hRB8.k7
      obtain ⟨r0, r1, r2, r3, _⟩ := blk_facts k12
      have hW := hide (WideAdd_any w8 _ _ zq 1 hRB8.q hx8 (unhide HZB).1 (unhide HZB).2 (by have := bp_pos 99; omega) (by have := bp_le (m := 1) (n := 99) (by omega); have : bp 1 = 4294967296 := rfl; omega))
      have HRB8 := hide hRB8
      clear hRB8 hx8 k12
      go_wp2_with fail
      refine (unhide hW).mono ?_
      rintro e w9 ⟨x9, rfl, hx9, hb9⟩
      obtain ⟨s9, A9', n9, c9', rfl⟩ := hx9.form
      have hRB9 := (unhide HRB8).below hb9
      obtain ⟨m0, m1, m2, m3, _⟩ := blk_facts hRB9.k7
      obtain ⟨xx, yy, k6⟩ := hRB9.k6
      have hlt6 := hRB9.lt
      obtain ⟨f0, f1, f2, f3, _⟩ := blk_facts k6
      have hx10 := (hx9.far hRB9.k7.tyb (by decide) 0 (.bool s9)).far (hRB9.k7.tyb.set _ _ _) (by decide) 1 (.slice A9' n9 c9')
      have k610 := (k6.other (a := ⟨g7, 0, none⟩) (by simp; omega) (.bool s9)).other (a := ⟨g7, 1, none⟩) (by simp; omega) (.slice A9' n9 c9')
      have hb10 := (hRB9.bel.setCell (p := ⟨g7, 0, none⟩) (by simp; omega) (.bool s9)).setCell (p := ⟨g7, 1, none⟩) (by simp; omega) (.slice A9' n9 c9')
      have hfin0 := pwide_fin hx10 k610 hb10 (by omega)
      rw [← unhide HZ] at hfin0
      have hfin := hide hfin0
      have hne6 : w.heap.size + 2 ≠ g7 := by omega
      have hne6' : w.heap.size + 1 + 1 ≠ g7 := by omega
      clear hfin0 hb10 k610 hx10 k6 hRB9 hx9 hb9 hlt6 t0 t1 t2 t3 p0 p1 p2 p3 r0 r1 r2 r3
      go_wp2_with fail
      refine bodyPost_ret (v := .agg #[.bool s9, .slice A9' n9 c9']) (by simp [results, Try.results21, go_sem, f0, f1, hne6, hne6']) rfl ?_
      exact unhide hfin
    case true =>
      have hx0 : x < 0 := by simpa using hs
      rw [if_pos hx0] at HZ
      clear hs HSX
      obtain ⟨t0, t1, t2, t3, _⟩ := blk_facts hRB8.k3
      have HRB80 := hide hRB8
      have K12 := hide k12
      clear hRB8 hx8 k12
      go_wp2_with fail
      refine (WideInt_m1 _).mono ?_
      rintro e wa ⟨xa, rfl, hxa, hba⟩
      obtain ⟨sa, Aa, na, ca, rfl⟩ := hxa.form
      have hRBa := (unhide HRB80).below hba
      have ka := (unhide K12).below hba
      obtain ⟨r0, r1, r2, r3, _⟩ := blk_facts ka
      have hRB8 := (hRBa.set hg12 ka.tyb 0 (.bool sa)).set hg12 (ka.tyb.set _ _ _) 1 (.slice Aa na ca)
      have hx8 := (hxa.far ka.tyb (by decide) 0 (.bool sa)).far (ka.tyb.set _ _ _) (by decide) 1 (.slice Aa na ca)
      have k12 : Blk ((wa.setCell ⟨g12, 0, none⟩ (.bool sa)).setCell ⟨g12, 1, none⟩ (.slice Aa na ca)) g12 30 #[.bool sa, .slice Aa na ca] := by have := (ka.set 0 (.bool sa)).set 1 (.slice Aa na ca); simpa using this
      have HRB81 := hide hRB8
      have HX8 := hide hx8
      have HK12 := hide k12
      clear hRB8 hx8 k12 ka hRBa hxa hba t0 t1 t2 t3
      go_upto_region 14 with (fail)
      have hRB8 := unhide HRB81
      have hx8 := unhide HX8
      have k12 := unhide HK12
      generalize ((wa.setCell ⟨g12, 0, none⟩ (.bool sa)).setCell ⟨g12, 1, none⟩ (.slice Aa na ca)) = wb at *
      clear HRB81 HX8 HK12 r0 r1 r2 r3
      obtain ⟨p0, p1, p2, p3, _⟩ := blk_facts hRB8.k7
      obtain ⟨r0, r1, r2, r3, _⟩ := blk_facts k12
      have hW := hide (WideAdd_any wb _ _ zq (-1) hRB8.q hx8 (unhide HZB).1 (unhide HZB).2 (by have := bp_le (m := 1) (n := 99) (by omega); have : bp 1 = 4294967296 := rfl; omega) (by have := bp_pos 99; omega))
      have HRB8 := hide hRB8
      clear hRB8 hx8 k12
      go_wp2_with fail
      refine (unhide hW).mono ?_
      rintro e w9 ⟨x9, rfl, hx9, hb9⟩
      obtain ⟨s9, A9', n9, c9', rfl⟩ := hx9.form
      have hRB9 := (unhide HRB8).below hb9
      obtain ⟨m0, m1, m2, m3, _⟩ := blk_facts hRB9.k7
      obtain ⟨xx, yy, k6⟩ := hRB9.k6
      have hlt6 := hRB9.lt
      obtain ⟨f0, f1, f2, f3, _⟩ := blk_facts k6
      have hx10 := (hx9.far hRB9.k7.tyb (by decide) 0 (.bool s9)).far (hRB9.k7.tyb.set _ _ _) (by decide) 1 (.slice A9' n9 c9')
      have k610 := (k6.other (a := ⟨g7, 0, none⟩) (by simp; omega) (.bool s9)).other (a := ⟨g7, 1, none⟩) (by simp; omega) (.slice A9' n9 c9')
      have hb10 := (hRB9.bel.setCell (p := ⟨g7, 0, none⟩) (by simp; omega) (.bool s9)).setCell (p := ⟨g7, 1, none⟩) (by simp; omega) (.slice A9' n9 c9')
      have hfin0 := pwide_fin hx10 k610 hb10 (by omega)
      rw [← unhide HZ] at hfin0
      have hfin := hide hfin0
      have hne6 : w.heap.size + 2 ≠ g7 := by omega
      have hne6' : w.heap.size + 1 + 1 ≠ g7 := by omega
      clear hfin0 hb10 k610 hx10 k6 hRB9 hx9 hb9 hlt6  p0 p1 p2 p3 r0 r1 r2 r3
      go_wp2_with fail
      refine bodyPost_ret (v := .agg #[.bool s9, .slice A9' n9 c9']) (by simp [results, Try.results21, go_sem, f0, f1, hne6, hne6']) rfl ?_
      exact unhide hfin
  · have hcc := cmp_m1 hup
    have hz : rnd x y = zq := by rw [rnd_no (by rw [unhide HDD]; exact hup), unhide HZQ]
    rw [hcc]
    obtain ⟨t0, t1, t2, t3, _⟩ := blk_facts hRB5.k7
    obtain ⟨xx, yy, k6⟩ := hRB5.k6
    obtain ⟨f0, f1, f2, f3, _⟩ := blk_facts k6
    have hfin0 := pwide_fin hRB5.q k6 hRB5.bel (by omega)
    rw [← hz] at hfin0
    have hfin := hide hfin0
    clear hfin0
    clear hRB5 k6 hcc hz hup hb5 hC hT hL c4 HRB3
    go_wp2_with fail
    refine bodyPost_ret (v := .agg #[.bool sq, .slice Aq nq cq]) (by simp [results, Try.results21, go_sem, f0, f1]) rfl ?_
    exact unhide hfin
/-- r b^x = T. -/
def PwR (T : Nat) (k : IntKind) (v0 v1 v5 : Value) : Prop := ∃ r b x : Nat, v0 = .int k (b : Int) ∧ v1 = .int k (x : Int) ∧ v5 = .int k (r : Int) ∧ r * b ^ x = T ∧ 1 ≤ r ∧ 2 ≤ b ∧ x ≤ 64
theorem pw_le {r b x T : Nat} (h : r * b ^ x = T) (hr : 1 ≤ r) (hb : 2 ≤ b) : r ≤ T ∧ (1 ≤ x → r * b ≤ T ∧ b ≤ T) ∧ (2 ≤ x → b * b ≤ T) := by
  have hp : 1 ≤ b ^ x := Nat.one_le_pow _ _ (by omega)
  refine ⟨?_, fun hx => ⟨?_, ?_⟩, fun hx => ?_⟩
  · rw [← h]; exact Nat.le_mul_of_pos_right r hp
  · rw [← h]
    refine Nat.mul_le_mul_left r ?_
    calc b = b ^ 1 := (Nat.pow_one b).symm
      _ ≤ b ^ x := Nat.pow_le_pow_right (by omega) hx
  · rw [← h]
    calc b = b ^ 1 := (Nat.pow_one b).symm
      _ ≤ b ^ x := Nat.pow_le_pow_right (by omega) hx
      _ ≤ r * b ^ x := Nat.le_mul_of_pos_left _ hr
  · rw [← h]
    calc b * b = b ^ 2 := by rw [Nat.pow_succ, Nat.pow_one]
      _ ≤ b ^ x := Nat.pow_le_pow_right (by omega) hx
      _ ≤ r * b ^ x := Nat.le_mul_of_pos_left _ hr
theorem pw_odd {r b x T : Nat} (h : r * b ^ x = T) (hx : x % 2 = 1) : r * b * (b * b) ^ (x / 2) = T := by
  rw [← h, ← Nat.pow_two, ← Nat.pow_mul]
  have : x = 2 * (x / 2) + 1 := by omega
  conv => rhs; rw [this, Nat.pow_succ]
  rw [Nat.mul_assoc, Nat.mul_comm b]
theorem pw_even {r b x T : Nat} (h : r * b ^ x = T) (hx : x % 2 = 0) : r * (b * b) ^ (x / 2) = T := by
  rw [← h, ← Nat.pow_two, ← Nat.pow_mul]
  have : x = 2 * (x / 2) := by omega
  conv => rhs; rw [this]
theorem and1_i32 (x : Nat) (h : x ≤ 64) : bits .and .i32 (x : Int) 1 = ((x % 2 : Nat) : Int) := by
  have : ∀ y, y < 65 → bits .and .i32 ((y : Nat) : Int) 1 = ((y % 2 : Nat) : Int) := by decide
  exact this x (by omega)
theorem and1_i64 (x : Nat) (h : x ≤ 64) : bits .and .i64 (x : Int) 1 = ((x % 2 : Nat) : Int) := by
  have : ∀ y, y < 65 → bits .and .i64 ((y : Nat) : Int) 1 = ((y % 2 : Nat) : Int) := by decide
  exact this x (by omega)
set_option maxRecDepth 100000 in
set_option maxHeartbeats 2000000 in
theorem intPow32_any (n : Nat) (hn : n ≤ 9) (w : World) : Calls Try.prog 68 #[.int .i32 10, .int .i32 (n : Int)] w fun e w' => e = .returned (.int .i32 ((10 ^ n : Nat) : Int)) ∧ w = w' := by
  have hT : 10 ^ n ≤ 1000000000 := Nat.le_trans (Nat.pow_le_pow_right (by decide) hn) (by decide)
  have h00 := hide (show PwR (10 ^ n) .i32 (.int .i32 10) (.int .i32 (n : Int)) (.int .i32 1) from ⟨1, 10, n, rfl, rfl, rfl, by omega, by omega, by omega, by omega⟩)
  generalize 10 ^ n = T at *
  clear hn
  go_enter Try.func68, Try.ntmps68
  go_wp2_with fail
  go_loop [0, 1, 5] (PwR T .i32) (fun _ v _ => (intOf v).toNat)
  case atStart => exact unhide h00
  case round =>
    obtain ⟨r, b, x, rfl, rfl, rfl, he, hr, hb, hx⟩ := hrel
    obtain ⟨e1, e2, e3⟩ := pw_le he hr hb
    have ha := and1_i32 x hx
    have HE := hide he
    clear he
    have c0 : ((r * b : Nat) : Int) = (r : Int) * (b : Int) := Int.natCast_mul r b
    have c1 : ((b * b : Nat) : Int) = (b : Int) * (b : Int) := Int.natCast_mul b b
    rcases Nat.mod_two_eq_zero_or_one x with hev | hodd
    · rw [hev] at ha
      have HN := hide (pw_even (unhide HE) hev)
      by_cases hx2 : 2 ≤ x
      · have e6 := e3 hx2
        have b2 : (b : Int) * (b : Int) ≤ 1000000000 := by omega
        have b4 : (0 : Int) ≤ (b : Int) * (b : Int) := by omega
        have hz : ((x : Int) / 2 == 0) = false := by simp; omega
        have hr := hide (show PwR T .i32 (.int .i32 ((b : Int) * (b : Int))) (.int .i32 ((x : Int) / 2)) (.int .i32 ((r : Int))) from ⟨r, b * b, x / 2, by rw [c1], by congr 1, by first | rfl | rw [c0], unhide HN, by first | omega | (have h9 : 1 * 1 ≤ r * b := Nat.mul_le_mul hr (by omega); omega), by have h9 : 2 * 2 ≤ b * b := Nat.mul_le_mul hb hb; omega, by omega⟩)
        clear HN HE
        go_wp2_with fail
        exact ⟨unhide hr, by simp [intOf]; omega⟩
      · have hz : ((x : Int) / 2 == 0) = true := by simp; omega
        have hfin := hide (show (r : Int) = ((T : Nat) : Int) from by have h9 := unhide HN; rw [show x / 2 = 0 by omega, Nat.pow_zero, Nat.mul_one] at h9; rw [← h9])
        clear HN HE
        go_wp2_with fail
        go_ret
        exact ⟨ret_int (unhide hfin), rfl⟩
    · rw [hodd] at ha
      obtain ⟨e4, e5⟩ := e2 (by omega)
      have b1 : (r : Int) * (b : Int) ≤ 1000000000 := by omega
      have b3 : (0 : Int) ≤ (r : Int) * (b : Int) := by omega
      have HN := hide (pw_odd (unhide HE) hodd)
      by_cases hx2 : 2 ≤ x
      · have e6 := e3 hx2
        have b2 : (b : Int) * (b : Int) ≤ 1000000000 := by omega
        have b4 : (0 : Int) ≤ (b : Int) * (b : Int) := by omega
        have hz : ((x : Int) / 2 == 0) = false := by simp; omega
        have hr := hide (show PwR T .i32 (.int .i32 ((b : Int) * (b : Int))) (.int .i32 ((x : Int) / 2)) (.int .i32 ((r : Int) * (b : Int))) from ⟨r * b, b * b, x / 2, by rw [c1], by congr 1, by first | rfl | rw [c0], unhide HN, by first | omega | (have h9 : 1 * 1 ≤ r * b := Nat.mul_le_mul hr (by omega); omega), by have h9 : 2 * 2 ≤ b * b := Nat.mul_le_mul hb hb; omega, by omega⟩)
        clear HN HE
        go_wp2_with fail
        exact ⟨unhide hr, by simp [intOf]; omega⟩
      · have hz : ((x : Int) / 2 == 0) = true := by simp; omega
        have hfin := hide (show (r : Int) * (b : Int) = ((T : Nat) : Int) from by have h9 := unhide HN; rw [show x / 2 = 0 by omega, Nat.pow_zero, Nat.mul_one] at h9; rw [← h9]; exact c0.symm)
        clear HN HE
        go_wp2_with fail
        go_ret
        exact ⟨ret_int (unhide hfin), rfl⟩
set_option maxRecDepth 100000 in
set_option maxHeartbeats 2000000 in
theorem intPow64_any (n : Nat) (hn : n ≤ 18) (w : World) : Calls Try.prog 70 #[.int .i64 10, .int .i64 (n : Int)] w fun e w' => e = .returned (.int .i64 ((10 ^ n : Nat) : Int)) ∧ w = w' := by
  have hT : 10 ^ n ≤ 1000000000000000000 := Nat.le_trans (Nat.pow_le_pow_right (by decide) hn) (by decide)
  have h00 := hide (show PwR (10 ^ n) .i64 (.int .i64 10) (.int .i64 (n : Int)) (.int .i64 1) from ⟨1, 10, n, rfl, rfl, rfl, by omega, by omega, by omega, by omega⟩)
  generalize 10 ^ n = T at *
  clear hn
  go_enter Try.func70, Try.ntmps70
  go_wp2_with fail
  go_loop [0, 1, 5] (PwR T .i64) (fun _ v _ => (intOf v).toNat)
  case atStart => exact unhide h00
  case round =>
    obtain ⟨r, b, x, rfl, rfl, rfl, he, hr, hb, hx⟩ := hrel
    obtain ⟨e1, e2, e3⟩ := pw_le he hr hb
    have ha := and1_i64 x hx
    have HE := hide he
    clear he
    have c0 : ((r * b : Nat) : Int) = (r : Int) * (b : Int) := Int.natCast_mul r b
    have c1 : ((b * b : Nat) : Int) = (b : Int) * (b : Int) := Int.natCast_mul b b
    rcases Nat.mod_two_eq_zero_or_one x with hev | hodd
    · rw [hev] at ha
      have HN := hide (pw_even (unhide HE) hev)
      by_cases hx2 : 2 ≤ x
      · have e6 := e3 hx2
        have b2 : (b : Int) * (b : Int) ≤ 1000000000000000000 := by omega
        have b4 : (0 : Int) ≤ (b : Int) * (b : Int) := by omega
        have hz : ((x : Int) / 2 == 0) = false := by simp; omega
        have hr := hide (show PwR T .i64 (.int .i64 ((b : Int) * (b : Int))) (.int .i64 ((x : Int) / 2)) (.int .i64 ((r : Int))) from ⟨r, b * b, x / 2, by rw [c1], by congr 1, by first | rfl | rw [c0], unhide HN, by first | omega | (have h9 : 1 * 1 ≤ r * b := Nat.mul_le_mul hr (by omega); omega), by have h9 : 2 * 2 ≤ b * b := Nat.mul_le_mul hb hb; omega, by omega⟩)
        clear HN HE
        go_wp2_with fail
        exact ⟨unhide hr, by simp [intOf]; omega⟩
      · have hz : ((x : Int) / 2 == 0) = true := by simp; omega
        have hfin := hide (show (r : Int) = ((T : Nat) : Int) from by have h9 := unhide HN; rw [show x / 2 = 0 by omega, Nat.pow_zero, Nat.mul_one] at h9; rw [← h9])
        clear HN HE
        go_wp2_with fail
        go_ret
        exact ⟨ret_int (unhide hfin), rfl⟩
    · rw [hodd] at ha
      obtain ⟨e4, e5⟩ := e2 (by omega)
      have b1 : (r : Int) * (b : Int) ≤ 1000000000000000000 := by omega
      have b3 : (0 : Int) ≤ (r : Int) * (b : Int) := by omega
      have HN := hide (pw_odd (unhide HE) hodd)
      by_cases hx2 : 2 ≤ x
      · have e6 := e3 hx2
        have b2 : (b : Int) * (b : Int) ≤ 1000000000000000000 := by omega
        have b4 : (0 : Int) ≤ (b : Int) * (b : Int) := by omega
        have hz : ((x : Int) / 2 == 0) = false := by simp; omega
        have hr := hide (show PwR T .i64 (.int .i64 ((b : Int) * (b : Int))) (.int .i64 ((x : Int) / 2)) (.int .i64 ((r : Int) * (b : Int))) from ⟨r * b, b * b, x / 2, by rw [c1], by congr 1, by first | rfl | rw [c0], unhide HN, by first | omega | (have h9 : 1 * 1 ≤ r * b := Nat.mul_le_mul hr (by omega); omega), by have h9 : 2 * 2 ≤ b * b := Nat.mul_le_mul hb hb; omega, by omega⟩)
        clear HN HE
        go_wp2_with fail
        exact ⟨unhide hr, by simp [intOf]; omega⟩
      · have hz : ((x : Int) / 2 == 0) = true := by simp; omega
        have hfin := hide (show (r : Int) * (b : Int) = ((T : Nat) : Int) from by have h9 := unhide HN; rw [show x / 2 = 0 by omega, Nat.pow_zero, Nat.mul_one] at h9; rw [← h9]; exact c0.symm)
        clear HN HE
        go_wp2_with fail
        go_ret
        exact ⟨ret_int (unhide hfin), rfl⟩
theorem tdiv_bd (x : Int) (T : Nat) (h : 10 ≤ T) : (x.tdiv (T : Int)).natAbs ≤ x.natAbs ∧ (x.tmod (T : Int)).natAbs < T ∧ (T : Int) * x.tdiv (T : Int) + x.tmod (T : Int) = x ∧ 10 * (x.tdiv (T : Int)).natAbs ≤ x.natAbs := by
  refine ⟨Int.natAbs_tdiv_le_natAbs _ _, ?_, Int.mul_tdiv_add_tmod _ _, ?_⟩
  · rw [Int.natAbs_tmod]; simp; exact Nat.mod_lt _ (by omega)
  · rw [Int.natAbs_tdiv]
    show 10 * (x.natAbs / (T : Int).natAbs) ≤ x.natAbs
    rw [Int.natAbs_natCast]
    have h5 : x.natAbs / T ≤ x.natAbs / 10 := Nat.div_le_div_left h (by decide)
    omega
theorem inc32_any (x : Int) (n : Nat) (hn : n ≤ 9) (w : World) : Calls Try.prog 45 #[.int .i32 x, .int .i32 (n : Int)] w fun e w' => e = .returned (.int .i32 (wrap32 (x * ((10 ^ n : Nat) : Int)))) ∧ w = w' := by
  have hP := hide (fun W => intPow32_any n hn W)
  have h1 : (n : Int) ≤ 9 := by omega
  generalize ((10 ^ n : Nat) : Int) = T at *
  go_enter Try.func45, Try.ntmps45
  go_wp2_with (first | (go_at_call 68; (with_reducible refine ((unhide hP) _).mono ?_); rintro e w' ⟨rfl, rfl⟩) | go_in)
  go_ret
  exact ⟨rfl, rfl⟩
theorem inc64_any (x : Int) (n : Nat) (hn : n ≤ 18) (w : World) : Calls Try.prog 47 #[.int .i64 x, .int .i32 (n : Int)] w fun e w' => e = .returned (.int .i64 (wrap64 (x * ((10 ^ n : Nat) : Int)))) ∧ w = w' := by
  have hP := hide (fun W => intPow64_any n hn W)
  have h1 : (n : Int) ≤ 18 := by omega
  generalize ((10 ^ n : Nat) : Int) = T at *
  go_enter Try.func47, Try.ntmps47
  go_wp2_with (first | (go_at_call 70; (with_reducible refine ((unhide hP) _).mono ?_); rintro e w' ⟨rfl, rfl⟩) | go_in)
  go_ret
  exact ⟨rfl, rfl⟩
theorem bdrewN' {a b : World} {B : Nat} (h : Below B a b) (n : Nat) : Below B a (b.drewN n) := ⟨h.os, h.tape, h.output, h.size, h.block⟩
theorem absn32_any (w : World) (r : Int) (h : -2147483648 < r) (h2 : r ≤ 2147483647) : Calls Try.prog 29 #[.int .i32 r] w fun e w' => e = .returned (.int .i32 ((r.natAbs : Nat) : Int)) ∧ Below w.heap.size w w' := by
  refine (abs32_any w r).mono ?_
  rintro e w' ⟨rfl, rfl⟩
  refine ⟨ret_int ?_, Below.refl _ _⟩
  by_cases hr : r < 0
  · rw [if_pos hr]; unfold wrap32; omega
  · rw [if_neg hr]; omega
theorem red32_zero (x : Int) (r : Bool) (w : World) : Calls Try.prog 69 #[.int .i32 x, .int .i32 0, .bool r] w fun e w' => e = .returned (.int .i32 x) ∧ Below w.heap.size w w' := by
  go_enter Try.func69, Try.ntmps69
  go_wp2_with fail
  go_ret
  exact ⟨rfl, Below.refl _ _⟩
set_option maxRecDepth 100000 in
theorem red32_cut (x : Int) (n : Nat) (hn : n ≤ 9) (h0 : 0 < n) (h1 : -2147483648 ≤ x) (h2 : x ≤ 2147483647) (w : World) : Calls Try.prog 69 #[.int .i32 x, .int .i32 (n : Int), .bool false] w fun e w' => e = .returned (.int .i32 (x.tdiv ((10 ^ n : Nat) : Int))) ∧ Below w.heap.size w w' := by
  have hP := hide (fun W => intPow32_any n hn W)
  have hT1 : 10 ^ n ≤ 1000000000 := Nat.le_trans (Nat.pow_le_pow_right (by decide) hn) (by decide)
  have hT : 10 ≤ 10 ^ n := by calc 10 = 10 ^ 1 := rfl
    _ ≤ 10 ^ n := Nat.pow_le_pow_right (by decide) h0
  have hz : ((n : Int) == 0) = false := by simp; omega
  generalize 10 ^ n = T at *
  go_enter Try.func69, Try.ntmps69
  go_wp2_with (first | (go_at_call 68; (with_reducible refine ((unhide hP) _).mono ?_); rintro e w' ⟨rfl, rfl⟩))
  have hw := tdiv_bd x T (by omega)
  go_ret
  exact ⟨ret_int (by first | rfl | (unfold wrap32; omega)), Below.refl _ _⟩
set_option maxRecDepth 100000 in
set_option maxHeartbeats 1000000 in
theorem red32_round (x : Int) (n : Nat) (hn : n ≤ 9) (h0 : 0 < n) (h1 : -2147483648 ≤ x) (h2 : x ≤ 2147483647) (w : World) : Calls Try.prog 69 #[.int .i32 x, .int .i32 (n : Int), .bool true] w fun e w' => e = .returned (.int .i32 (if ((10 ^ n / 2 : Nat) : Int) ≤ ((x.tmod ((10 ^ n : Nat) : Int)).natAbs : Int) then x.tdiv ((10 ^ n : Nat) : Int) + (if 0 < x then 1 else -1) else x.tdiv ((10 ^ n : Nat) : Int))) ∧ Below w.heap.size w w' := by
  have hP := hide (fun W => intPow32_any n hn W)
  have hT1 : 10 ^ n ≤ 1000000000 := Nat.le_trans (Nat.pow_le_pow_right (by decide) hn) (by decide)
  have hT : 10 ≤ 10 ^ n := by calc 10 = 10 ^ 1 := rfl
    _ ≤ 10 ^ n := Nat.pow_le_pow_right (by decide) h0
  have hz : ((n : Int) == 0) = false := by simp; omega
  generalize 10 ^ n = T at *
  obtain ⟨b1, b2, b3, b4⟩ := tdiv_bd x T (by omega)
  have hA := hide (fun W => absn32_any W (x.tmod (T : Int)) (by omega) (by omega))
  have HB3 := hide b3
  have hd : ((T / 2 : Nat) : Int) = (T : Int) / 2 := by omega
  rw [hd]
  clear hd
  clear b3
  have HX := hide (And.intro h1 h2)
  go_enter Try.func69, Try.ntmps69
  go_wp2_with (first | (go_at_call 68; (with_reducible refine ((unhide hP) _).mono ?_); rintro e w' ⟨rfl, rfl⟩))
  go_quiet (fail)
  go_wp2_with (go_at_call 29; (with_reducible refine ((unhide hA) _).mono ?_); rintro e w1 ⟨rfl, hb1⟩)
  all_goals
    go_ret
    exact ⟨ret_int (by first | rfl | (unfold wrap32; omega)), below_tr (bdrewN' (Below.refl _ _) _) hb1 (Nat.le_refl _)⟩
theorem absn64_any (w : World) (r : Int) (h : -9223372036854775808 < r) (h2 : r ≤ 9223372036854775807) : Calls Try.prog 30 #[.int .i64 r] w fun e w' => e = .returned (.int .i64 ((r.natAbs : Nat) : Int)) ∧ Below w.heap.size w w' := by
  refine (abs64_any w r).mono ?_
  rintro e w' ⟨rfl, rfl⟩
  refine ⟨ret_int ?_, Below.refl _ _⟩
  by_cases hr : r < 0
  · rw [if_pos hr]; unfold wrap64; omega
  · rw [if_neg hr]; omega
theorem red64_zero (x : Int) (r : Bool) (w : World) : Calls Try.prog 71 #[.int .i64 x, .int .i32 0, .bool r] w fun e w' => e = .returned (.int .i64 x) ∧ Below w.heap.size w w' := by
  go_enter Try.func71, Try.ntmps71
  go_wp2_with fail
  go_ret
  exact ⟨rfl, Below.refl _ _⟩
set_option maxRecDepth 100000 in
theorem red64_cut (x : Int) (n : Nat) (hn : n ≤ 9) (h0 : 0 < n) (h1 : -9223372036854775808 ≤ x) (h2 : x ≤ 9223372036854775807) (w : World) : Calls Try.prog 71 #[.int .i64 x, .int .i32 (n : Int), .bool false] w fun e w' => e = .returned (.int .i64 (x.tdiv ((10 ^ n : Nat) : Int))) ∧ Below w.heap.size w w' := by
  have hP := hide (fun W => intPow32_any n hn W)
  have hT1 : 10 ^ n ≤ 1000000000 := Nat.le_trans (Nat.pow_le_pow_right (by decide) hn) (by decide)
  have hT : 10 ≤ 10 ^ n := by calc 10 = 10 ^ 1 := rfl
    _ ≤ 10 ^ n := Nat.pow_le_pow_right (by decide) h0
  have hz : ((n : Int) == 0) = false := by simp; omega
  generalize 10 ^ n = T at *
  go_enter Try.func71, Try.ntmps71
  go_wp2_with (first | (go_at_call 68; (with_reducible refine ((unhide hP) _).mono ?_); rintro e w' ⟨rfl, rfl⟩))
  have hw := tdiv_bd x T (by omega)
  go_ret
  exact ⟨ret_int (by first | rfl | (unfold wrap64; omega)), Below.refl _ _⟩
set_option maxRecDepth 100000 in
set_option maxHeartbeats 1000000 in
theorem red64_round (x : Int) (n : Nat) (hn : n ≤ 9) (h0 : 0 < n) (h1 : -9223372036854775808 ≤ x) (h2 : x ≤ 9223372036854775807) (w : World) : Calls Try.prog 71 #[.int .i64 x, .int .i32 (n : Int), .bool true] w fun e w' => e = .returned (.int .i64 (if ((10 ^ n / 2 : Nat) : Int) ≤ ((x.tmod ((10 ^ n : Nat) : Int)).natAbs : Int) then x.tdiv ((10 ^ n : Nat) : Int) + (if 0 < x then 1 else -1) else x.tdiv ((10 ^ n : Nat) : Int))) ∧ Below w.heap.size w w' := by
  have hP := hide (fun W => intPow32_any n hn W)
  have hT1 : 10 ^ n ≤ 1000000000 := Nat.le_trans (Nat.pow_le_pow_right (by decide) hn) (by decide)
  have hT : 10 ≤ 10 ^ n := by calc 10 = 10 ^ 1 := rfl
    _ ≤ 10 ^ n := Nat.pow_le_pow_right (by decide) h0
  have hz : ((n : Int) == 0) = false := by simp; omega
  generalize 10 ^ n = T at *
  obtain ⟨b1, b2, b3, b4⟩ := tdiv_bd x T (by omega)
  have hA := hide (fun W => absn64_any W (x.tmod (T : Int)) (by omega) (by omega))
  have HB3 := hide b3
  have hd : ((T / 2 : Nat) : Int) = (T : Int) / 2 := by omega
  rw [hd]
  clear hd
  clear b3
  have HX := hide (And.intro h1 h2)
  go_enter Try.func71, Try.ntmps71
  go_wp2_with (first | (go_at_call 68; (with_reducible refine ((unhide hP) _).mono ?_); rintro e w' ⟨rfl, rfl⟩))
  go_quiet (fail)
  go_wp2_with (go_at_call 30; (with_reducible refine ((unhide hA) _).mono ?_); rintro e w1 ⟨rfl, hb1⟩)
  all_goals
    go_ret
    exact ⟨ret_int (by first | rfl | (unfold wrap64; omega)), below_tr (bdrewN' (Below.refl _ _) _) hb1 (Nat.le_refl _)⟩
def redI32 (x : Int) (n : Nat) (r : Bool) : Int := if n = 0 then x else if r then (if ((10 ^ n / 2 : Nat) : Int) ≤ ((x.tmod ((10 ^ n : Nat) : Int)).natAbs : Int) then x.tdiv ((10 ^ n : Nat) : Int) + (if 0 < x then 1 else -1) else x.tdiv ((10 ^ n : Nat) : Int)) else x.tdiv ((10 ^ n : Nat) : Int)
theorem reduce32_any (x : Int) (n : Nat) (hn : n ≤ 9) (r : Bool) (h1 : -2147483648 ≤ x) (h2 : x ≤ 2147483647) (w : World) : Calls Try.prog 46 #[.int .i32 x, .int .i32 (n : Int), .bool r] w fun e w' => e = .returned (.int .i32 (redI32 x n r)) ∧ Below w.heap.size w w' := by
  have hR := hide (show ∀ W : World, Calls Try.prog 69 #[.int .i32 x, .int .i32 (n : Int), .bool r] W fun e w' => e = .returned (.int .i32 (redI32 x n r)) ∧ Below W.heap.size W w' from fun W => by
    unfold redI32
    by_cases h0 : n = 0
    · subst h0; rw [if_pos rfl]; exact red32_zero x r W
    · rw [if_neg h0]
      cases r
      · exact red32_cut x n hn (by omega) h1 h2 W
      · exact red32_round x n hn (by omega) h1 h2 W)
  have h3 : (n : Int) ≤ 9 := by omega
  have h4 : (0 : Int) ≤ (n : Int) := by omega
  generalize redI32 x n r = z at *
  generalize (n : Int) = m at *
  clear h1 h2
  go_enter Try.func46, Try.ntmps46
  go_wp2_with (first | (go_at_call 69; (with_reducible refine ((unhide hR) _).mono ?_); rintro e w' ⟨rfl, hb⟩) | go_in)
  go_ret
  exact ⟨rfl, hb⟩
def redI64 (x : Int) (n : Nat) (r : Bool) : Int := if n = 0 then x else if r then (if ((10 ^ n / 2 : Nat) : Int) ≤ ((x.tmod ((10 ^ n : Nat) : Int)).natAbs : Int) then x.tdiv ((10 ^ n : Nat) : Int) + (if 0 < x then 1 else -1) else x.tdiv ((10 ^ n : Nat) : Int)) else x.tdiv ((10 ^ n : Nat) : Int)
theorem reduce64_any (x : Int) (n : Nat) (hn : n ≤ 9) (r : Bool) (h1 : -9223372036854775808 ≤ x) (h2 : x ≤ 9223372036854775807) (w : World) : Calls Try.prog 48 #[.int .i64 x, .int .i32 (n : Int), .bool r] w fun e w' => e = .returned (.int .i64 (redI64 x n r)) ∧ Below w.heap.size w w' := by
  have hR := hide (show ∀ W : World, Calls Try.prog 71 #[.int .i64 x, .int .i32 (n : Int), .bool r] W fun e w' => e = .returned (.int .i64 (redI64 x n r)) ∧ Below W.heap.size W w' from fun W => by
    unfold redI64
    by_cases h0 : n = 0
    · subst h0; rw [if_pos rfl]; exact red64_zero x r W
    · rw [if_neg h0]
      cases r
      · exact red64_cut x n hn (by omega) h1 h2 W
      · exact red64_round x n hn (by omega) h1 h2 W)
  have h3 : (n : Int) ≤ 9 := by omega
  have h4 : (0 : Int) ≤ (n : Int) := by omega
  generalize redI64 x n r = z at *
  generalize (n : Int) = m at *
  clear h1 h2
  go_enter Try.func48, Try.ntmps48
  go_wp2_with (first | (go_at_call 71; (with_reducible refine ((unhide hR) _).mono ?_); rintro e w' ⟨rfl, hb⟩) | go_in)
  go_ret
  exact ⟨rfl, hb⟩
def precD : DataW Unit := ((((DataW.map []).put (Lit.int IntKind.i64 32) (DataW.lit (Lit.int IntKind.i64 9))).put (Lit.int IntKind.i64 64) (DataW.lit (Lit.int IntKind.i64 18))).put (Lit.int IntKind.i64 128) (DataW.lit (Lit.int IntKind.i64 38))).put (Lit.int IntKind.i64 256) (DataW.lit (Lit.int IntKind.i64 76))
set_option maxRecDepth 100000 in
theorem prec_of (w : World) (width p : Int) (hw : (Lit.int .i64 width).wf = true) (hp : ∀ c : Int, precD.atKey (Lit.int IntKind.i64 width) (DataW.lit (Lit.int IntKind.i64 0)) = DataW.lit (Lit.int IntKind.i64 c) → c = p) :
    Calls Try.prog 18 #[.int .i64 width] w fun e w' => e = .returned (.int .i64 p) ∧ Below w.heap.size w w' := by
  have K : Maps.Keyed Try.prog 3 := Maps.int_keyed Try.underlying3
  have hE : Try.prog.underlying 3 = some (.int .i64) := Try.underlying3
  have hM : Try.prog.underlying 84 = some (.map 3 3) := by kernel_rfl
  have hz : ∀ W : World, (zeroValue 3).run Try.prog W = .ok (.int .i64 0) W := fun W => by kernel_rfl
  have hmm := @run_makeMap Try.prog
  have o0 := World.ownsMap_made (H := Unit) w Try.prog 3 (plainElem Try.prog 3)
  obtain ⟨w1, r1, o1, g1⟩ := o0.update K hM (by decide) (key := .int .i64 32) (val := .int .i64 9) (Go.Maps.keyOf_int_mk hE (by decide)) (plainElem_int hE (by decide))
  obtain ⟨w2, r2, o2, g2⟩ := o1.update K hM (by decide) (key := .int .i64 64) (val := .int .i64 18) (Go.Maps.keyOf_int_mk hE (by decide)) (plainElem_int hE (by decide))
  obtain ⟨w3, r3, o3, g3⟩ := o2.update K hM (by decide) (key := .int .i64 128) (val := .int .i64 38) (Go.Maps.keyOf_int_mk hE (by decide)) (plainElem_int hE (by decide))
  obtain ⟨w4, r4, o4, g4⟩ := o3.update K hM (by decide) (key := .int .i64 256) (val := .int .i64 76) (Go.Maps.keyOf_int_mk hE (by decide)) (plainElem_int hE (by decide))
  obtain ⟨c, hrun, hat, _⟩ := o4.lookup_int K hM hE (hz _) (key := .int .i64 width) (Go.Maps.keyOf_int_mk hE hw)
  have hc := hp c hat
  subst hc
  have hb0 : Below w.heap.size w (w.alloc (.map #[] 0)) := (Below.refl _ _).alloc (Nat.le_refl _) _
  have hb := hide ((((hb0.grown g1 hb0.size (by simp)).grown g2 (hb0.grown g1 hb0.size (by simp)).size (by simp)).grown g3 ((hb0.grown g1 hb0.size (by simp)).grown g2 (hb0.grown g1 hb0.size (by simp)).size (by simp)).size (by simp)).grown g4 (((hb0.grown g1 hb0.size (by simp)).grown g2 (hb0.grown g1 hb0.size (by simp)).size (by simp)).grown g3 ((hb0.grown g1 hb0.size (by simp)).grown g2 (hb0.grown g1 hb0.size (by simp)).size (by simp)).size (by simp)).size (by simp))
  clear o0 o1 o2 o3 o4 g1 g2 g3 g4 hat hb0 hp hz K hE
  go_enter Try.func18, Try.ntmps18
  go_wp2_with fail
  go_ret
  exact ⟨rfl, unhide hb⟩
theorem prec_any (w : World) (width p : Int) (h : (width = 32 ∧ p = 9) ∨ (width = 64 ∧ p = 18) ∨ (width = 128 ∧ p = 38) ∨ (width = 256 ∧ p = 76)) : Calls Try.prog 18 #[.int .i64 width] w fun e w' => e = .returned (.int .i64 p) ∧ Below w.heap.size w w' := by
  rcases h with ⟨rfl, rfl⟩ | ⟨rfl, rfl⟩ | ⟨rfl, rfl⟩ | ⟨rfl, rfl⟩
  · exact prec_of w 32 9 (by decide) fun c h => by
      have e : precD.atKey (Lit.int IntKind.i64 32) (DataW.lit (Lit.int IntKind.i64 0)) = DataW.lit (Lit.int IntKind.i64 9) := by rfl
      rw [e] at h; injection h with h; injection h with _ h; exact h.symm
  · exact prec_of w 64 18 (by decide) fun c h => by
      have e : precD.atKey (Lit.int IntKind.i64 64) (DataW.lit (Lit.int IntKind.i64 0)) = DataW.lit (Lit.int IntKind.i64 18) := by rfl
      rw [e] at h; injection h with h; injection h with _ h; exact h.symm
  · exact prec_of w 128 38 (by decide) fun c h => by
      have e : precD.atKey (Lit.int IntKind.i64 128) (DataW.lit (Lit.int IntKind.i64 0)) = DataW.lit (Lit.int IntKind.i64 38) := by rfl
      rw [e] at h; injection h with h; injection h with _ h; exact h.symm
  · exact prec_of w 256 76 (by decide) fun c h => by
      have e : precD.atKey (Lit.int IntKind.i64 256) (DataW.lit (Lit.int IntKind.i64 0)) = DataW.lit (Lit.int IntKind.i64 76) := by rfl
      rw [e] at h; injection h with h; injection h with _ h; exact h.symm
theorem narrow_one (w : World) (g : Nat) (z : Int) (h : Blk w g 3 #[.int .i64 z]) (h1 : -1000 ≤ z) (h2 : z ≤ 1000) : Calls Try.prog 44 #[.slice (some ⟨g, 0, none⟩) 1 1] w fun e w' => e = .returned (.bool true) ∧ w = w' := by
  have c0 := h.cell 0
  simp at c0
  clear h
  go_enter Try.func44, Try.ntmps44
  go_wp2_with fail
  go_loop [7] (fun v => v = .int .i64 0 ∨ v = .int .i64 1) (fun v => 1 - (intOf v).toNat)
  case atStart => exact .inl rfl
  case round =>
    rcases hrel with rfl | rfl
    · go_wp2_with fail
      all_goals first | (exact ⟨.inr rfl, by simp [intOf]⟩) | (exfalso; simp at *; done)
    · go_wp2_with fail
      go_ret
      exact ⟨rfl, rfl⟩
set_option maxRecDepth 100000 in
set_option maxHeartbeats 4000000 in
theorem decSN_32_up (w : World) (v : Value) (d32 d64 lo hi a b c d z : Int) (n : Nat) (hn : n ≤ 18) (r : Bool) (res : List Int)
    (hdec : ∀ W : World, Below w.heap.size w W → Calls Try.prog 24 #[.int .i64 32, v] W (PDec W (decV 32 d32 d64 lo hi a b c d)))
    (hf : ∀ W : World, Calls Try.prog 45 #[.int .i32 d32, .int .i32 (n : Int)] W fun e w' => e = .returned (.int .i32 z) ∧ Below W.heap.size W w')
    (hwords : ∀ W : World, Calls Try.prog 33 #[decV 32 z d64 lo hi a b c d] W (PWords W res)) :
    Calls Try.prog 17 #[.int .i64 32, v, .int .i64 (n : Int), .bool true, .bool r] w (PUn w res) := by
  have hD := hide hdec
  have hF := hide hf
  have hW := hide hwords
  unfold decV at hD hW
  clear hdec hf hwords
  have hn0 : (0 : Int) ≤ (n : Int) := by omega
  have hn1 : (n : Int) ≤ 18 := by omega
  generalize (n : Int) = m at *
  go_enter_defers Try.func17, Try.ntmps17
  go_wp2_with fail
  refine ((unhide hD) _ (by exact ((Below.refl _ _).alloc (Nat.le_refl _) _).alloc (by simp) _)).mono ?_
  rintro e w1 ⟨rfl, hb1⟩
  have k0 : Blk w1 w.heap.size 22 #[.slice none 0 0] := (((Blk.new (w := w) (g := w.heap.size) 22 _ rfl).alloc _).below hb1)
  have k1 : Blk w1 (w.heap.size + 1) 4 #[.bool false] := ((Blk.new (w := w.alloc _) (g := w.heap.size + 1) 4 _ (by simp)).below hb1)
  have hB1 : Below w.heap.size w w1 := below_tr (((Below.refl w.heap.size w).alloc (Nat.le_refl _) _).alloc (by simp) _) hb1 (by simp; omega)
  have K0 := hide (k0.alloc (.cells #[.int .i64 32, .int .i32 d32, .int .i64 d64, .int .u64 lo, .int .i64 hi, .int .u64 a, .int .u64 b, .int .u64 c, .int .u64 d] 62))
  have K1 := hide (k1.alloc (.cells #[.int .i64 32, .int .i32 d32, .int .i64 d64, .int .u64 lo, .int .i64 hi, .int .u64 a, .int .u64 b, .int .u64 c, .int .u64 d] 62))
  have K8 := hide (Blk.new (w := w1) (g := w1.heap.size) 62 #[.int .i64 32, .int .i32 d32, .int .i64 d64, .int .u64 lo, .int .i64 hi, .int .u64 a, .int .u64 b, .int .u64 c, .int .u64 d] rfl)
  have HB1 := hide (hB1.alloc hB1.size (.cells #[.int .i64 32, .int .i32 d32, .int .i64 d64, .int .u64 lo, .int .i64 hi, .int .u64 a, .int .u64 b, .int .u64 c, .int .u64 d] 62))
  have hlt1 : w.heap.size + 1 < w1.heap.size := k1.lt
  clear k0 k1 hB1 hb1
  go_wp2_with fail
  refine (narrow_one _ _ _ (by exact Blk.new _ _ (by simp)) (by omega) (by omega)).mono ?_
  rintro e w' ⟨rfl, rfl⟩
  have hw2 : ∃ w2, w2 = w1.alloc (.cells #[.int .i64 32, .int .i32 d32, .int .i64 d64, .int .u64 lo, .int .i64 hi, .int .u64 a, .int .u64 b, .int .u64 c, .int .u64 d] 62) := ⟨_, rfl⟩
  obtain ⟨w2, hw2⟩ := hw2
  rw [← hw2] at K0 K1 K8 HB1 ⊢
  generalize w1.heap.size = g8 at *
  have hg8 : g8 < w2.heap.size := (unhide K8).lt
  clear hw2
  have hm3 : Below w2.heap.size w2 (w2.alloc (.cells #[.int .i64 m] 3)) := (Below.refl _ _).alloc (Nat.le_refl _) _
  have k8 := (unhide K8).below hm3
  have K03 := hide ((unhide K0).below hm3)
  have K13 := hide ((unhide K1).below hm3)
  have K83 := hide k8
  have HB3 := hide (below_tr (unhide HB1) hm3 (unhide HB1).size)
  clear K0 K1 K8 HB1 hm3
  obtain ⟨p0, p1, p2, p3, p4, p5, p6, p7, p8, f0, f1, f2, f3, f4, f5, f6, f7, f8⟩ := blk_nine k8
  clear k8
  go_wp2_with fail
  generalize (w2.alloc (.cells #[.int .i64 m] 3)) = w3 at *
  refine ((unhide hF) _).mono ?_
  rintro e w4 ⟨rfl, hb4⟩
  have k8 := (unhide K83).below hb4
  have k84 : Blk (w4.setCell ⟨g8, 1, none⟩ (.int .i32 z)) g8 62 #[.int .i64 32, .int .i32 z, .int .i64 d64, .int .u64 lo, .int .i64 hi, .int .u64 a, .int .u64 b, .int .u64 c, .int .u64 d] := by have := k8.set 1 (.int .i32 z); simpa using this
  have hb4w := below_tr (unhide HB3) hb4 (unhide HB3).size
  have K04 := hide (((unhide K03).below hb4).other (a := ⟨g8, 1, none⟩) (by simp; omega) (.int .i32 z))
  have K14 := hide (((unhide K13).below hb4).other (a := ⟨g8, 1, none⟩) (by simp; omega) (.int .i32 z))
  have HB4 := hide (hb4w.setCell (p := ⟨g8, 1, none⟩) (by simp; omega) (.int .i32 z))
  have K84 := hide k84
  clear p0 p1 p2 p3 p4 p5 p6 p7 p8 f0 f1 f2 f3 f4 f5 f6 f7 f8 k84 hb4w K03 K13 K83 HB3
  obtain ⟨p0, p1, p2, p3, p4, p5, p6, p7, p8, f0, f1, f2, f3, f4, f5, f6, f7, f8⟩ := blk_nine k8
  have hlt4 : g8 < w4.heap.size := k8.lt
  clear k8 hb4
  go_wp2_with fail
  generalize (w4.setCell ⟨g8, 1, none⟩ (.int .i32 z)) = w6 at *
  clear p0 p1 p2 p3 p4 p5 p6 p7 p8 f0 f1 f2 f3 f4 f5 f6 f7 f8
  refine ((unhide hW) _).mono ?_
  rintro e w5 ⟨x, rfl, hx, hb5, hnew⟩
  have k05 := (unhide K04).below hb5
  have k15 := (unhide K14).below hb5
  have hB5 := below_tr (unhide HB4) hb5 (unhide HB4).size
  obtain ⟨A5, c5', rfl, _⟩ := id hx
  have y0 := k05.cell 0
  have y1 := k15.cell 0
  have yf0 := k05.frozen 0
  have yf1 := k15.frozen 0
  simp at y0 y1
  have hfin := hide (pun_fin hx k05 k15 hB5 hnew (unhide K14).lt)
  have z0 := hide (blk_one0 k05 k15)
  clear hx hb5 k05 k15 hB5 hnew K04 K14 HB4 K84
  go_wp2_with fail
  have HF := hide (unhide hfin)
  refine leaves_cons (f := 23) (args := #[.pointer (some ⟨w.heap.size, 0, none⟩), .pointer (some ⟨w.heap.size + 1, 0, none⟩)]) (by simp) (by simp [go_sem]) ?_
  refine (idle23 ⟨w.heap.size, 0, none⟩ ⟨w.heap.size + 1, 0, none⟩ _).mono ?_
  rintro e u' w'' ⟨rfl, rfl, rfl⟩
  refine ⟨.tuple #[.slice A5 res.length c5', .bool true], ?_, unhide HF⟩
  obtain ⟨z1, z2⟩ := (unhide z0) (.slice A5 res.length c5') (.bool true)
  simp [settle, results, Try.results17, go_sem, z1, z2]
set_option maxRecDepth 100000 in
set_option maxHeartbeats 4000000 in
theorem decSN_32_dn (w : World) (v : Value) (d32 d64 lo hi a b c d z : Int) (n : Nat) (hn : n ≤ 18) (r : Bool) (res : List Int)
    (hdec : ∀ W : World, Below w.heap.size w W → Calls Try.prog 24 #[.int .i64 32, v] W (PDec W (decV 32 d32 d64 lo hi a b c d)))
    (hf : ∀ W : World, Calls Try.prog 46 #[.int .i32 d32, .int .i32 (n : Int), .bool r] W fun e w' => e = .returned (.int .i32 z) ∧ Below W.heap.size W w')
    (hwords : ∀ W : World, Calls Try.prog 33 #[decV 32 z d64 lo hi a b c d] W (PWords W res)) :
    Calls Try.prog 17 #[.int .i64 32, v, .int .i64 (n : Int), .bool false, .bool r] w (PUn w res) := by
  have hD := hide hdec
  have hF := hide hf
  have hW := hide hwords
  unfold decV at hD hW
  clear hdec hf hwords
  have hn0 : (0 : Int) ≤ (n : Int) := by omega
  have hn1 : (n : Int) ≤ 18 := by omega
  generalize (n : Int) = m at *
  go_enter_defers Try.func17, Try.ntmps17
  go_wp2_with fail
  refine ((unhide hD) _ (by exact ((Below.refl _ _).alloc (Nat.le_refl _) _).alloc (by simp) _)).mono ?_
  rintro e w1 ⟨rfl, hb1⟩
  have k0 : Blk w1 w.heap.size 22 #[.slice none 0 0] := (((Blk.new (w := w) (g := w.heap.size) 22 _ rfl).alloc _).below hb1)
  have k1 : Blk w1 (w.heap.size + 1) 4 #[.bool false] := ((Blk.new (w := w.alloc _) (g := w.heap.size + 1) 4 _ (by simp)).below hb1)
  have hB1 : Below w.heap.size w w1 := below_tr (((Below.refl w.heap.size w).alloc (Nat.le_refl _) _).alloc (by simp) _) hb1 (by simp; omega)
  have K0 := hide (k0.alloc (.cells #[.int .i64 32, .int .i32 d32, .int .i64 d64, .int .u64 lo, .int .i64 hi, .int .u64 a, .int .u64 b, .int .u64 c, .int .u64 d] 62))
  have K1 := hide (k1.alloc (.cells #[.int .i64 32, .int .i32 d32, .int .i64 d64, .int .u64 lo, .int .i64 hi, .int .u64 a, .int .u64 b, .int .u64 c, .int .u64 d] 62))
  have K8 := hide (Blk.new (w := w1) (g := w1.heap.size) 62 #[.int .i64 32, .int .i32 d32, .int .i64 d64, .int .u64 lo, .int .i64 hi, .int .u64 a, .int .u64 b, .int .u64 c, .int .u64 d] rfl)
  have HB1 := hide (hB1.alloc hB1.size (.cells #[.int .i64 32, .int .i32 d32, .int .i64 d64, .int .u64 lo, .int .i64 hi, .int .u64 a, .int .u64 b, .int .u64 c, .int .u64 d] 62))
  have hlt1 : w.heap.size + 1 < w1.heap.size := k1.lt
  clear k0 k1 hB1 hb1
  go_wp2_with fail
  refine (narrow_one _ _ _ (by exact Blk.new _ _ (by simp)) (by omega) (by omega)).mono ?_
  rintro e w' ⟨rfl, rfl⟩
  have hw2 : ∃ w2, w2 = w1.alloc (.cells #[.int .i64 32, .int .i32 d32, .int .i64 d64, .int .u64 lo, .int .i64 hi, .int .u64 a, .int .u64 b, .int .u64 c, .int .u64 d] 62) := ⟨_, rfl⟩
  obtain ⟨w2, hw2⟩ := hw2
  rw [← hw2] at K0 K1 K8 HB1 ⊢
  generalize w1.heap.size = g8 at *
  have hg8 : g8 < w2.heap.size := (unhide K8).lt
  clear hw2
  have hm3 : Below w2.heap.size w2 (w2.alloc (.cells #[.int .i64 m] 3)) := (Below.refl _ _).alloc (Nat.le_refl _) _
  have k8 := (unhide K8).below hm3
  have K03 := hide ((unhide K0).below hm3)
  have K13 := hide ((unhide K1).below hm3)
  have K83 := hide k8
  have HB3 := hide (below_tr (unhide HB1) hm3 (unhide HB1).size)
  clear K0 K1 K8 HB1 hm3
  obtain ⟨p0, p1, p2, p3, p4, p5, p6, p7, p8, f0, f1, f2, f3, f4, f5, f6, f7, f8⟩ := blk_nine k8
  clear k8
  go_wp2_with fail
  generalize (w2.alloc (.cells #[.int .i64 m] 3)) = w3 at *
  refine ((unhide hF) _).mono ?_
  rintro e w4 ⟨rfl, hb4⟩
  have k8 := (unhide K83).below hb4
  have k84 : Blk (w4.setCell ⟨g8, 1, none⟩ (.int .i32 z)) g8 62 #[.int .i64 32, .int .i32 z, .int .i64 d64, .int .u64 lo, .int .i64 hi, .int .u64 a, .int .u64 b, .int .u64 c, .int .u64 d] := by have := k8.set 1 (.int .i32 z); simpa using this
  have hb4w := below_tr (unhide HB3) hb4 (unhide HB3).size
  have K04 := hide (((unhide K03).below hb4).other (a := ⟨g8, 1, none⟩) (by simp; omega) (.int .i32 z))
  have K14 := hide (((unhide K13).below hb4).other (a := ⟨g8, 1, none⟩) (by simp; omega) (.int .i32 z))
  have HB4 := hide (hb4w.setCell (p := ⟨g8, 1, none⟩) (by simp; omega) (.int .i32 z))
  have K84 := hide k84
  clear p0 p1 p2 p3 p4 p5 p6 p7 p8 f0 f1 f2 f3 f4 f5 f6 f7 f8 k84 hb4w K03 K13 K83 HB3
  obtain ⟨p0, p1, p2, p3, p4, p5, p6, p7, p8, f0, f1, f2, f3, f4, f5, f6, f7, f8⟩ := blk_nine k8
  have hlt4 : g8 < w4.heap.size := k8.lt
  clear k8 hb4
  go_wp2_with fail
  generalize (w4.setCell ⟨g8, 1, none⟩ (.int .i32 z)) = w6 at *
  clear p0 p1 p2 p3 p4 p5 p6 p7 p8 f0 f1 f2 f3 f4 f5 f6 f7 f8
  refine ((unhide hW) _).mono ?_
  rintro e w5 ⟨x, rfl, hx, hb5, hnew⟩
  have k05 := (unhide K04).below hb5
  have k15 := (unhide K14).below hb5
  have hB5 := below_tr (unhide HB4) hb5 (unhide HB4).size
  obtain ⟨A5, c5', rfl, _⟩ := id hx
  have y0 := k05.cell 0
  have y1 := k15.cell 0
  have yf0 := k05.frozen 0
  have yf1 := k15.frozen 0
  simp at y0 y1
  have hfin := hide (pun_fin hx k05 k15 hB5 hnew (unhide K14).lt)
  have z0 := hide (blk_one0 k05 k15)
  clear hx hb5 k05 k15 hB5 hnew K04 K14 HB4 K84
  go_wp2_with fail
  have HF := hide (unhide hfin)
  refine leaves_cons (f := 23) (args := #[.pointer (some ⟨w.heap.size, 0, none⟩), .pointer (some ⟨w.heap.size + 1, 0, none⟩)]) (by simp) (by simp [go_sem]) ?_
  refine (idle23 ⟨w.heap.size, 0, none⟩ ⟨w.heap.size + 1, 0, none⟩ _).mono ?_
  rintro e u' w'' ⟨rfl, rfl, rfl⟩
  refine ⟨.tuple #[.slice A5 res.length c5', .bool true], ?_, unhide HF⟩
  obtain ⟨z1, z2⟩ := (unhide z0) (.slice A5 res.length c5') (.bool true)
  simp [settle, results, Try.results17, go_sem, z1, z2]
set_option maxRecDepth 100000 in
set_option maxHeartbeats 4000000 in
theorem decSN_64_up (w : World) (v : Value) (d32 d64 lo hi a b c d z : Int) (n : Nat) (hn : n ≤ 18) (r : Bool) (res : List Int)
    (hdec : ∀ W : World, Below w.heap.size w W → Calls Try.prog 24 #[.int .i64 64, v] W (PDec W (decV 64 d32 d64 lo hi a b c d)))
    (hf : ∀ W : World, Calls Try.prog 47 #[.int .i64 d64, .int .i32 (n : Int)] W fun e w' => e = .returned (.int .i64 z) ∧ Below W.heap.size W w')
    (hwords : ∀ W : World, Calls Try.prog 33 #[decV 64 d32 z lo hi a b c d] W (PWords W res)) :
    Calls Try.prog 17 #[.int .i64 64, v, .int .i64 (n : Int), .bool true, .bool r] w (PUn w res) := by
  have hD := hide hdec
  have hF := hide hf
  have hW := hide hwords
  unfold decV at hD hW
  clear hdec hf hwords
  have hn0 : (0 : Int) ≤ (n : Int) := by omega
  have hn1 : (n : Int) ≤ 18 := by omega
  generalize (n : Int) = m at *
  go_enter_defers Try.func17, Try.ntmps17
  go_wp2_with fail
  refine ((unhide hD) _ (by exact ((Below.refl _ _).alloc (Nat.le_refl _) _).alloc (by simp) _)).mono ?_
  rintro e w1 ⟨rfl, hb1⟩
  have k0 : Blk w1 w.heap.size 22 #[.slice none 0 0] := (((Blk.new (w := w) (g := w.heap.size) 22 _ rfl).alloc _).below hb1)
  have k1 : Blk w1 (w.heap.size + 1) 4 #[.bool false] := ((Blk.new (w := w.alloc _) (g := w.heap.size + 1) 4 _ (by simp)).below hb1)
  have hB1 : Below w.heap.size w w1 := below_tr (((Below.refl w.heap.size w).alloc (Nat.le_refl _) _).alloc (by simp) _) hb1 (by simp; omega)
  have K0 := hide (k0.alloc (.cells #[.int .i64 64, .int .i32 d32, .int .i64 d64, .int .u64 lo, .int .i64 hi, .int .u64 a, .int .u64 b, .int .u64 c, .int .u64 d] 62))
  have K1 := hide (k1.alloc (.cells #[.int .i64 64, .int .i32 d32, .int .i64 d64, .int .u64 lo, .int .i64 hi, .int .u64 a, .int .u64 b, .int .u64 c, .int .u64 d] 62))
  have K8 := hide (Blk.new (w := w1) (g := w1.heap.size) 62 #[.int .i64 64, .int .i32 d32, .int .i64 d64, .int .u64 lo, .int .i64 hi, .int .u64 a, .int .u64 b, .int .u64 c, .int .u64 d] rfl)
  have HB1 := hide (hB1.alloc hB1.size (.cells #[.int .i64 64, .int .i32 d32, .int .i64 d64, .int .u64 lo, .int .i64 hi, .int .u64 a, .int .u64 b, .int .u64 c, .int .u64 d] 62))
  have hlt1 : w.heap.size + 1 < w1.heap.size := k1.lt
  clear k0 k1 hB1 hb1
  go_wp2_with fail
  refine (narrow_one _ _ _ (by exact Blk.new _ _ (by simp)) (by omega) (by omega)).mono ?_
  rintro e w' ⟨rfl, rfl⟩
  have hw2 : ∃ w2, w2 = w1.alloc (.cells #[.int .i64 64, .int .i32 d32, .int .i64 d64, .int .u64 lo, .int .i64 hi, .int .u64 a, .int .u64 b, .int .u64 c, .int .u64 d] 62) := ⟨_, rfl⟩
  obtain ⟨w2, hw2⟩ := hw2
  rw [← hw2] at K0 K1 K8 HB1 ⊢
  generalize w1.heap.size = g8 at *
  have hg8 : g8 < w2.heap.size := (unhide K8).lt
  clear hw2
  have hm3 : Below w2.heap.size w2 (w2.alloc (.cells #[.int .i64 m] 3)) := (Below.refl _ _).alloc (Nat.le_refl _) _
  have k8 := (unhide K8).below hm3
  have K03 := hide ((unhide K0).below hm3)
  have K13 := hide ((unhide K1).below hm3)
  have K83 := hide k8
  have HB3 := hide (below_tr (unhide HB1) hm3 (unhide HB1).size)
  clear K0 K1 K8 HB1 hm3
  obtain ⟨p0, p1, p2, p3, p4, p5, p6, p7, p8, f0, f1, f2, f3, f4, f5, f6, f7, f8⟩ := blk_nine k8
  clear k8
  go_wp2_with fail
  generalize (w2.alloc (.cells #[.int .i64 m] 3)) = w3 at *
  refine ((unhide hF) _).mono ?_
  rintro e w4 ⟨rfl, hb4⟩
  have k8 := (unhide K83).below hb4
  have k84 : Blk (w4.setCell ⟨g8, 2, none⟩ (.int .i64 z)) g8 62 #[.int .i64 64, .int .i32 d32, .int .i64 z, .int .u64 lo, .int .i64 hi, .int .u64 a, .int .u64 b, .int .u64 c, .int .u64 d] := by have := k8.set 2 (.int .i64 z); simpa using this
  have hb4w := below_tr (unhide HB3) hb4 (unhide HB3).size
  have K04 := hide (((unhide K03).below hb4).other (a := ⟨g8, 2, none⟩) (by simp; omega) (.int .i64 z))
  have K14 := hide (((unhide K13).below hb4).other (a := ⟨g8, 2, none⟩) (by simp; omega) (.int .i64 z))
  have HB4 := hide (hb4w.setCell (p := ⟨g8, 2, none⟩) (by simp; omega) (.int .i64 z))
  have K84 := hide k84
  clear p0 p1 p2 p3 p4 p5 p6 p7 p8 f0 f1 f2 f3 f4 f5 f6 f7 f8 k84 hb4w K03 K13 K83 HB3
  obtain ⟨p0, p1, p2, p3, p4, p5, p6, p7, p8, f0, f1, f2, f3, f4, f5, f6, f7, f8⟩ := blk_nine k8
  have hlt4 : g8 < w4.heap.size := k8.lt
  clear k8 hb4
  go_wp2_with fail
  generalize (w4.setCell ⟨g8, 2, none⟩ (.int .i64 z)) = w6 at *
  clear p0 p1 p2 p3 p4 p5 p6 p7 p8 f0 f1 f2 f3 f4 f5 f6 f7 f8
  refine ((unhide hW) _).mono ?_
  rintro e w5 ⟨x, rfl, hx, hb5, hnew⟩
  have k05 := (unhide K04).below hb5
  have k15 := (unhide K14).below hb5
  have hB5 := below_tr (unhide HB4) hb5 (unhide HB4).size
  obtain ⟨A5, c5', rfl, _⟩ := id hx
  have y0 := k05.cell 0
  have y1 := k15.cell 0
  have yf0 := k05.frozen 0
  have yf1 := k15.frozen 0
  simp at y0 y1
  have hfin := hide (pun_fin hx k05 k15 hB5 hnew (unhide K14).lt)
  have z0 := hide (blk_one0 k05 k15)
  clear hx hb5 k05 k15 hB5 hnew K04 K14 HB4 K84
  go_wp2_with fail
  have HF := hide (unhide hfin)
  refine leaves_cons (f := 23) (args := #[.pointer (some ⟨w.heap.size, 0, none⟩), .pointer (some ⟨w.heap.size + 1, 0, none⟩)]) (by simp) (by simp [go_sem]) ?_
  refine (idle23 ⟨w.heap.size, 0, none⟩ ⟨w.heap.size + 1, 0, none⟩ _).mono ?_
  rintro e u' w'' ⟨rfl, rfl, rfl⟩
  refine ⟨.tuple #[.slice A5 res.length c5', .bool true], ?_, unhide HF⟩
  obtain ⟨z1, z2⟩ := (unhide z0) (.slice A5 res.length c5') (.bool true)
  simp [settle, results, Try.results17, go_sem, z1, z2]
set_option maxRecDepth 100000 in
set_option maxHeartbeats 4000000 in
theorem decSN_64_dn (w : World) (v : Value) (d32 d64 lo hi a b c d z : Int) (n : Nat) (hn : n ≤ 18) (r : Bool) (res : List Int)
    (hdec : ∀ W : World, Below w.heap.size w W → Calls Try.prog 24 #[.int .i64 64, v] W (PDec W (decV 64 d32 d64 lo hi a b c d)))
    (hf : ∀ W : World, Calls Try.prog 48 #[.int .i64 d64, .int .i32 (n : Int), .bool r] W fun e w' => e = .returned (.int .i64 z) ∧ Below W.heap.size W w')
    (hwords : ∀ W : World, Calls Try.prog 33 #[decV 64 d32 z lo hi a b c d] W (PWords W res)) :
    Calls Try.prog 17 #[.int .i64 64, v, .int .i64 (n : Int), .bool false, .bool r] w (PUn w res) := by
  have hD := hide hdec
  have hF := hide hf
  have hW := hide hwords
  unfold decV at hD hW
  clear hdec hf hwords
  have hn0 : (0 : Int) ≤ (n : Int) := by omega
  have hn1 : (n : Int) ≤ 18 := by omega
  generalize (n : Int) = m at *
  go_enter_defers Try.func17, Try.ntmps17
  go_wp2_with fail
  refine ((unhide hD) _ (by exact ((Below.refl _ _).alloc (Nat.le_refl _) _).alloc (by simp) _)).mono ?_
  rintro e w1 ⟨rfl, hb1⟩
  have k0 : Blk w1 w.heap.size 22 #[.slice none 0 0] := (((Blk.new (w := w) (g := w.heap.size) 22 _ rfl).alloc _).below hb1)
  have k1 : Blk w1 (w.heap.size + 1) 4 #[.bool false] := ((Blk.new (w := w.alloc _) (g := w.heap.size + 1) 4 _ (by simp)).below hb1)
  have hB1 : Below w.heap.size w w1 := below_tr (((Below.refl w.heap.size w).alloc (Nat.le_refl _) _).alloc (by simp) _) hb1 (by simp; omega)
  have K0 := hide (k0.alloc (.cells #[.int .i64 64, .int .i32 d32, .int .i64 d64, .int .u64 lo, .int .i64 hi, .int .u64 a, .int .u64 b, .int .u64 c, .int .u64 d] 62))
  have K1 := hide (k1.alloc (.cells #[.int .i64 64, .int .i32 d32, .int .i64 d64, .int .u64 lo, .int .i64 hi, .int .u64 a, .int .u64 b, .int .u64 c, .int .u64 d] 62))
  have K8 := hide (Blk.new (w := w1) (g := w1.heap.size) 62 #[.int .i64 64, .int .i32 d32, .int .i64 d64, .int .u64 lo, .int .i64 hi, .int .u64 a, .int .u64 b, .int .u64 c, .int .u64 d] rfl)
  have HB1 := hide (hB1.alloc hB1.size (.cells #[.int .i64 64, .int .i32 d32, .int .i64 d64, .int .u64 lo, .int .i64 hi, .int .u64 a, .int .u64 b, .int .u64 c, .int .u64 d] 62))
  have hlt1 : w.heap.size + 1 < w1.heap.size := k1.lt
  clear k0 k1 hB1 hb1
  go_wp2_with fail
  refine (narrow_one _ _ _ (by exact Blk.new _ _ (by simp)) (by omega) (by omega)).mono ?_
  rintro e w' ⟨rfl, rfl⟩
  have hw2 : ∃ w2, w2 = w1.alloc (.cells #[.int .i64 64, .int .i32 d32, .int .i64 d64, .int .u64 lo, .int .i64 hi, .int .u64 a, .int .u64 b, .int .u64 c, .int .u64 d] 62) := ⟨_, rfl⟩
  obtain ⟨w2, hw2⟩ := hw2
  rw [← hw2] at K0 K1 K8 HB1 ⊢
  generalize w1.heap.size = g8 at *
  have hg8 : g8 < w2.heap.size := (unhide K8).lt
  clear hw2
  have hm3 : Below w2.heap.size w2 (w2.alloc (.cells #[.int .i64 m] 3)) := (Below.refl _ _).alloc (Nat.le_refl _) _
  have k8 := (unhide K8).below hm3
  have K03 := hide ((unhide K0).below hm3)
  have K13 := hide ((unhide K1).below hm3)
  have K83 := hide k8
  have HB3 := hide (below_tr (unhide HB1) hm3 (unhide HB1).size)
  clear K0 K1 K8 HB1 hm3
  obtain ⟨p0, p1, p2, p3, p4, p5, p6, p7, p8, f0, f1, f2, f3, f4, f5, f6, f7, f8⟩ := blk_nine k8
  clear k8
  go_wp2_with fail
  generalize (w2.alloc (.cells #[.int .i64 m] 3)) = w3 at *
  refine ((unhide hF) _).mono ?_
  rintro e w4 ⟨rfl, hb4⟩
  have k8 := (unhide K83).below hb4
  have k84 : Blk (w4.setCell ⟨g8, 2, none⟩ (.int .i64 z)) g8 62 #[.int .i64 64, .int .i32 d32, .int .i64 z, .int .u64 lo, .int .i64 hi, .int .u64 a, .int .u64 b, .int .u64 c, .int .u64 d] := by have := k8.set 2 (.int .i64 z); simpa using this
  have hb4w := below_tr (unhide HB3) hb4 (unhide HB3).size
  have K04 := hide (((unhide K03).below hb4).other (a := ⟨g8, 2, none⟩) (by simp; omega) (.int .i64 z))
  have K14 := hide (((unhide K13).below hb4).other (a := ⟨g8, 2, none⟩) (by simp; omega) (.int .i64 z))
  have HB4 := hide (hb4w.setCell (p := ⟨g8, 2, none⟩) (by simp; omega) (.int .i64 z))
  have K84 := hide k84
  clear p0 p1 p2 p3 p4 p5 p6 p7 p8 f0 f1 f2 f3 f4 f5 f6 f7 f8 k84 hb4w K03 K13 K83 HB3
  obtain ⟨p0, p1, p2, p3, p4, p5, p6, p7, p8, f0, f1, f2, f3, f4, f5, f6, f7, f8⟩ := blk_nine k8
  have hlt4 : g8 < w4.heap.size := k8.lt
  clear k8 hb4
  go_wp2_with fail
  generalize (w4.setCell ⟨g8, 2, none⟩ (.int .i64 z)) = w6 at *
  clear p0 p1 p2 p3 p4 p5 p6 p7 p8 f0 f1 f2 f3 f4 f5 f6 f7 f8
  refine ((unhide hW) _).mono ?_
  rintro e w5 ⟨x, rfl, hx, hb5, hnew⟩
  have k05 := (unhide K04).below hb5
  have k15 := (unhide K14).below hb5
  have hB5 := below_tr (unhide HB4) hb5 (unhide HB4).size
  obtain ⟨A5, c5', rfl, _⟩ := id hx
  have y0 := k05.cell 0
  have y1 := k15.cell 0
  have yf0 := k05.frozen 0
  have yf1 := k15.frozen 0
  simp at y0 y1
  have hfin := hide (pun_fin hx k05 k15 hB5 hnew (unhide K14).lt)
  have z0 := hide (blk_one0 k05 k15)
  clear hx hb5 k05 k15 hB5 hnew K04 K14 HB4 K84
  go_wp2_with fail
  have HF := hide (unhide hfin)
  refine leaves_cons (f := 23) (args := #[.pointer (some ⟨w.heap.size, 0, none⟩), .pointer (some ⟨w.heap.size + 1, 0, none⟩)]) (by simp) (by simp [go_sem]) ?_
  refine (idle23 ⟨w.heap.size, 0, none⟩ ⟨w.heap.size + 1, 0, none⟩ _).mono ?_
  rintro e u' w'' ⟨rfl, rfl, rfl⟩
  refine ⟨.tuple #[.slice A5 res.length c5', .bool true], ?_, unhide HF⟩
  obtain ⟨z1, z2⟩ := (unhide z0) (.slice A5 res.length c5') (.bool true)
  simp [settle, results, Try.results17, go_sem, z1, z2]
def scl (up r : Bool) (z : Int) (n : Nat) : Int := if up then z * 10 ^ n else if r then rnd z (10 ^ n) else z.tdiv (10 ^ n)
theorem ten_cast (n : Nat) : ((10 ^ n : Nat) : Int) = 10 ^ n := by rw [Int.natCast_pow]; rfl
theorem ten_even (n : Nat) (h : 0 < n) : 10 ^ n % 2 = 0 := by
  obtain ⟨m, rfl⟩ : ∃ m, n = m + 1 := ⟨n - 1, by omega⟩
  rw [Nat.pow_succ]; omega
theorem red_scl (x : Int) (n : Nat) (r : Bool) : (if n = 0 then x else if r then (if ((10 ^ n / 2 : Nat) : Int) ≤ ((x.tmod ((10 ^ n : Nat) : Int)).natAbs : Int) then x.tdiv ((10 ^ n : Nat) : Int) + (if 0 < x then 1 else -1) else x.tdiv ((10 ^ n : Nat) : Int)) else x.tdiv ((10 ^ n : Nat) : Int)) = scl false r x n := by
  unfold scl
  simp only [Bool.false_eq_true, if_false]
  rw [← ten_cast]
  by_cases h0 : n = 0
  · subst h0
    rw [if_pos rfl]
    cases r
    · simp
    · simp [rnd]
  · rw [if_neg h0]
    cases r
    · simp
    · simp only [if_true]
      unfold rnd
      have he := ten_even n (by omega)
      have hp : 0 < 10 ^ n := Nat.pow_pos (by decide)
      generalize 10 ^ n = T at *
      by_cases hc : ((T / 2 : Nat) : Int) ≤ ((x.tmod (T : Int)).natAbs : Int)
      · have h7 : (T : Int) ≤ 2 * ((x.tmod (T : Int)).natAbs : Int) := by omega
        rw [if_pos hc, if_pos h7]
        congr 1
        by_cases hx : 0 < x
        · rw [if_pos hx, if_neg (by omega)]
        · rw [if_neg hx]
          by_cases hx2 : x < 0
          · rw [if_pos hx2]
          · exfalso
            have : x = 0 := by omega
            subst this
            simp at hc
            omega
      · have h7 : ¬ (T : Int) ≤ 2 * ((x.tmod (T : Int)).natAbs : Int) := by omega
        rw [if_neg hc, if_neg h7]
theorem scl_small (x : Int) (n : Nat) (r : Bool) : scl false r x n = x ∨ 2 * (scl false r x n).natAbs ≤ x.natAbs + 2 := by
  rw [← red_scl]
  by_cases h0 : n = 0
  · rw [if_pos h0]; exact .inl rfl
  · right
    rw [if_neg h0]
    have hT : 10 ≤ 10 ^ n := by calc 10 = 10 ^ 1 := rfl
      _ ≤ 10 ^ n := Nat.pow_le_pow_right (by decide) (by omega)
    generalize 10 ^ n = T at *
    obtain ⟨b1, b2, b3, b4⟩ := tdiv_bd x T hT
    clear b1 b2 b3
    generalize x.tdiv (T : Int) = q at *
    (repeat' split) <;> omega
theorem w32_of (y : Int) : IntKind.u64.wrap (wrap64 (wrap32 y)) = x32 (y % 18446744073709551616) := by
  unfold x32
  congr 2
  unfold wrap32; omega
theorem decSN_any (W : World) (v : Value) (width : Int) (up r : Bool) (n : Nat) (l : List Int) (h : Rd .u64 W v l) (h64 : Sm64 l) (hg : good width l = true) (hw : width ≤ 64) (hn : n ≤ 18) (hn9 : (width = 32 ∨ up = false) → n ≤ 9) :
    Calls Try.prog 17 #[.int .i64 width, v, .int .i64 (n : Int), .bool up, .bool r] W (PUn W (wrl width (scl up r (sv l) n))) := by
  unfold good at hg
  simp only [Bool.and_eq_true, decide_eq_true_eq] at hg
  obtain ⟨⟨hI, hlen⟩, hx⟩ := hg
  unfold wIs at hI
  simp only [decide_eq_true_eq] at hI
  rcases hI with rfl | rfl | rfl | rfl
  · obtain ⟨x, rfl⟩ := List.length_eq_one_iff.1 (by rw [hlen]; decide)
    have hx' : x32 x = x := by simp at hx; exact hx
    obtain ⟨h1, h2⟩ := h64 x (by simp)
    have hk : sv [x] = wrap32 x := by
      rw [sv_one x h1 h2]
      unfold x32 at hx'; rw [u64_wrap_eq] at hx'; unfold wrap64 wrap32 at *; omega
    have hb : -2147483648 ≤ wrap32 x ∧ wrap32 x ≤ 2147483647 := by unfold wrap32; omega
    rw [hk]
    have n9 := hn9 (.inl rfl)
    cases up with
    | true =>
      have := decSN_32_up W v (wrap32 x) 0 0 (wrap64 0) 0 0 0 0 (wrap32 (wrap32 x * ((10 ^ n : Nat) : Int))) n hn r (wrl 32 (scl true r (wrap32 x) n)) (hd_32 W v x h h64 hx')
        (fun W' => (inc32_any (wrap32 x) n n9 W').mono (fun e w' hh => ⟨hh.1, by rw [← hh.2]; exact Below.refl _ _⟩))
        (fun W' => by
          have h5 := words_32 W' (wrap32 (wrap32 x * ((10 ^ n : Nat) : Int))) 0 0 (wrap64 0) 0 0 0 0
          have he : wrl 32 (scl true r (wrap32 x) n) = [IntKind.u64.wrap (wrap64 (wrap32 (wrap32 x * ((10 ^ n : Nat) : Int))))] := by
            unfold wrl; rw [if_pos rfl, twos_one, w32_of]; simp [scl, ten_cast]
          rw [he]; exact h5)
      exact this
    | false =>
      have hs := scl_small (wrap32 x) n r
      have := decSN_32_dn W v (wrap32 x) 0 0 (wrap64 0) 0 0 0 0 (redI32 (wrap32 x) n r) n hn r (wrl 32 (scl false r (wrap32 x) n)) (hd_32 W v x h h64 hx')
        (fun W' => reduce32_any (wrap32 x) n n9 r hb.1 hb.2 W')
        (fun W' => by
          have h5 := words_32 W' (redI32 (wrap32 x) n r) 0 0 (wrap64 0) 0 0 0 0
          have h6 : redI32 (wrap32 x) n r = scl false r (wrap32 x) n := red_scl _ _ _
          rw [h6] at h5 ⊢
          have he : wrl 32 (scl false r (wrap32 x) n) = [IntKind.u64.wrap (wrap64 (scl false r (wrap32 x) n))] := by
            unfold wrl; rw [if_pos rfl, twos_one]
            have := w32_of (scl false r (wrap32 x) n)
            rw [show wrap32 (scl false r (wrap32 x) n) = scl false r (wrap32 x) n by
              generalize scl false r (wrap32 x) n = y at *
              generalize wrap32 x = xx at *
              have h9 : -2147483648 ≤ y ∧ y ≤ 2147483647 := by rcases hs with h9 | h9 <;> omega
              unfold wrap32; omega] at this
            rw [this]; simp
          rw [he]; exact h5)
      exact this
  · obtain ⟨x, rfl⟩ := List.length_eq_one_iff.1 (by rw [hlen]; decide)
    obtain ⟨h1, h2⟩ := h64 x (by simp)
    have hk : sv [x] = wrap64 x := sv_one x h1 h2
    have hb : -9223372036854775808 ≤ wrap64 x ∧ wrap64 x ≤ 9223372036854775807 := by unfold wrap64; omega
    rw [hk]
    cases up with
    | true =>
      have := decSN_64_up W v 0 (wrap64 x) 0 (wrap64 0) 0 0 0 0 (wrap64 (wrap64 x * ((10 ^ n : Nat) : Int))) n hn r (wrl 64 (scl true r (wrap64 x) n)) (hd_64 W v x h)
        (fun W' => (inc64_any (wrap64 x) n hn W').mono (fun e w' hh => ⟨hh.1, by rw [← hh.2]; exact Below.refl _ _⟩))
        (fun W' => by
          have h5 := words_64 W' 0 (wrap64 (wrap64 x * ((10 ^ n : Nat) : Int))) 0 (wrap64 0) 0 0 0 0
          have he : wrl 64 (scl true r (wrap64 x) n) = [IntKind.u64.wrap (wrap64 (wrap64 x * ((10 ^ n : Nat) : Int)))] := by
            unfold wrl; rw [if_neg (by decide), show wN 64 = 1 by decide, twos_one, u64_wrap_eq]
            simp only [scl, if_true, ten_cast]
            generalize wrap64 x * 10 ^ n = y
            congr 1
            unfold wrap64; omega
          rw [he]; exact h5)
      exact this
    | false =>
      have hs := scl_small (wrap64 x) n r
      have n9 := hn9 (.inr rfl)
      have := decSN_64_dn W v 0 (wrap64 x) 0 (wrap64 0) 0 0 0 0 (redI64 (wrap64 x) n r) n hn r (wrl 64 (scl false r (wrap64 x) n)) (hd_64 W v x h)
        (fun W' => reduce64_any (wrap64 x) n n9 r hb.1 hb.2 W')
        (fun W' => by
          have h5 := words_64 W' 0 (redI64 (wrap64 x) n r) 0 (wrap64 0) 0 0 0 0
          have h6 : redI64 (wrap64 x) n r = scl false r (wrap64 x) n := red_scl _ _ _
          rw [h6] at h5 ⊢
          have he : wrl 64 (scl false r (wrap64 x) n) = [IntKind.u64.wrap (scl false r (wrap64 x) n)] := by
            unfold wrl; rw [if_neg (by decide), show wN 64 = 1 by decide, twos_one, u64_wrap_eq]
          rw [he]; exact h5)
      exact this
  · omega
  · omega
def RuS (w : World) (u : Value) (l : List Int) : Prop := ∃ A c, u = .slice A l.length c ∧ l.length ≤ c ∧ Sl w w.heap.size A l.length (ivs .u64 l) ∧ Sm64 l ∧ l.length ≤ maxLen
theorem RuS.below {w w' : World} {u : Value} {l : List Int} (h : RuS w u l) (hb : Below w.heap.size w w') : RuS w' u l := by
  obtain ⟨A, c, e, h1, h2, h3⟩ := h
  exact ⟨A, c, e, h1, (h2.mod (Mod.of_below (S := []) hb) (by simp)).mono hb.size, h3⟩
theorem RuS.rd {w : World} {u : Value} {l : List Int} (h : RuS w u l) (hl : l.length ≤ 1000000) : Rd .u64 w u l := by
  obtain ⟨A, c, e, h1, h2, _⟩ := h
  exact ⟨A, c, e, h1, h2, hl⟩
theorem goodS_len {width : Int} {l : List Int} (h : good width l = true) : wIs width = true ∧ l.length = wN width := by
  unfold good at h
  simp only [Bool.and_eq_true, decide_eq_true_eq] at h
  exact h.1
theorem wNS_le (width : Int) : wN width ≤ 4 := by unfold wN; split <;> (try split) <;> (try split) <;> omega
theorem decS_any (w : World) (u : Value) (width : Int) (l : List Int) (h : RuS w u l) : Calls Try.prog 9 #[.int .i64 width, u] w (PDc w width l) := by
  by_cases h1 : l.length ≤ 1000000
  · obtain ⟨_, _, _, _, _, h64, _⟩ := id h
    exact decimal_any w u width l (h.rd h1) h64
  · have hw := wNS_le width
    obtain ⟨A, c, rfl, _⟩ := h
    cases hI : wIs width with
    | true => exact decimal_bad2 w A c width l hI (by omega)
    | false => exact decimal_bad1 w A _ c width l hI
theorem sn_awake (W : World) (g : Nat) (hb : Blk W g 27 #[.int .u64 1]) : Calls Try.prog 17 #[.int .i64 64, .slice (some ⟨g, 0, none⟩) 1 1, .int .i64 1, .bool true, .bool false] W (PUn W [10]) := by
  have h1 : Rd .u64 W (.slice (some ⟨g, 0, none⟩) 1 1) [1] := (blk_rd (k := .u64) (l := [1]) hb (by simp)).1
  have h2 := decSN_any W _ 64 true false 1 [1] h1 (fun x hx => by simp at hx; omega) (by decide) (by omega) (by omega) (fun h => by omega)
  rw [show wrl 64 (scl true false (sv [1]) 1) = [10] by decide] at h2
  exact h2
theorem same_ten (w : World) (m : Value) (hm : Rd .u64 w m [10]) : Calls Try.prog 8 #[m, .slice (some ⟨w.heap.size, 0, none⟩) 1 1] (w.alloc (.cells #[.int .u64 10] 27)) fun e w' => e = .returned (.bool true) ∧ Below w.heap.size w w' := by
  have h1 : Rd .u64 (w.alloc (.cells #[.int .u64 10] 27)) (.slice (some ⟨w.heap.size, 0, none⟩) 1 1) [10] := (blk_rd (k := .u64) (l := [10]) (Blk.new (w := w) (g := w.heap.size) 27 #[.int .u64 10] rfl) (by simp)).1
  refine (sameWords_any _ _ _ _ _ (hm.below ((Below.refl _ _).alloc (Nat.le_refl _) _)) h1).mono ?_
  rintro e w' ⟨rfl, hb⟩
  exact ⟨by simp, below_tr ((Below.refl w.heap.size w).alloc (Nat.le_refl _) _) hb (by simp)⟩
def KS (w : World) (g3 : Nat) (s : Bool) (A : Option Addr) (n c : Nat) (z : Int) (W : World) : Prop := Blk W g3 30 #[.bool s, .slice A n c] ∧ Wd W (.agg #[.bool s, .slice A n c]) z ∧ Below w.heap.size w W
theorem KS.below {w W W' : World} {g3 : Nat} {s : Bool} {A : Option Addr} {n c : Nat} {z : Int} (h : KS w g3 s A n c z W) (hb : Below W.heap.size W W') : KS w g3 s A n c z W' := by
  obtain ⟨h1, h2, h4⟩ := h
  exact ⟨h1.below hb, h2.below hb, below_tr h4 hb h4.size⟩
theorem KS.drew {w W : World} {g3 : Nat} {s : Bool} {A : Option Addr} {n c : Nat} {z : Int} (h : KS w g3 s A n c z W) : KS w g3 s A n c z W.drew := h.below (bdrew (Below.refl _ _))
theorem KS.facts {w W : World} {g3 : Nat} {s : Bool} {A : Option Addr} {n c : Nat} {z : Int} (h : KS w g3 s A n c z W) :
    W.cell? ⟨g3, 0, none⟩ = some (.bool s) ∧ W.cell? ⟨g3, 1, none⟩ = some (.slice A n c) ∧ W.frozen? ⟨g3, 0, none⟩ = false ∧ W.frozen? ⟨g3, 1, none⟩ = false ∧ KS w g3 s A n c z W :=
  ⟨by have := h.1.cell 0; simpa using this, by have := h.1.cell 1; simpa using this, h.1.frozen 0, h.1.frozen 1, h⟩
theorem KS.wd {w W : World} {g3 : Nat} {s : Bool} {A : Option Addr} {n c : Nat} {z : Int} (h : KS w g3 s A n c z W) : Wd W (.agg #[.bool s, .slice A n c]) z := h.2.1
theorem KS.next {w W : World} {g3 : Nat} {s s' : Bool} {A A' : Option Addr} {n c n' c' : Nat} {z z' : Int} (h : KS w g3 s A n c z W) (hx : Wd W (.agg #[.bool s', .slice A' n' c']) z') (h3 : w.heap.size ≤ g3) :
    KS w g3 s' A' n' c' z' ((W.setCell ⟨g3, 0, none⟩ (.bool s')).setCell ⟨g3, 1, none⟩ (.slice A' n' c')) := by
  obtain ⟨h1, h2, h5⟩ := h
  exact ⟨by have := (h1.set 0 (.bool s')).set 1 (.slice A' n' c'); simpa using this, (hx.far h1.tyb (by decide) 0 _).far (h1.tyb.set _ _ _) (by decide) 1 _, (h5.setCell h3 _).setCell h3 _⟩
set_option maxRecDepth 100000 in
set_option maxHeartbeats 4000000 in
theorem lawS_big (w : World) (v : Value) (width m : Int) (up r : Bool) (l : List Int) (h : RuS w v l) (hbig : 2147483647 < l.length) :
    Calls Try.prog 5 #[.int .i64 width, v, .int .i64 m, .bool up, .bool r] w (POut w) := by
  have hP1 := hide (fun (w4 : World) (hb : Below w.heap.size w w4) => pout_mk hb)
  obtain ⟨A, c, rfl, hc, _, _, hml⟩ := h
  unfold maxLen at hml
  generalize l.length = ln at *
  go_enter Try.func5, Try.ntmps5
  go_wp2_with fail
  all_goals first | (go_ret; exact (unhide hP1) _ (Below.refl _ _)) | (exfalso; simp at *; omega)
set_option maxRecDepth 100000 in
set_option maxHeartbeats 4000000 in
theorem lawS_bad (w : World) (v : Value) (width m : Int) (up r : Bool) (l : List Int) (h : RuS w v l) (hsz : l.length ≤ 2147483647) (hg : good width l = false) :
    Calls Try.prog 5 #[.int .i64 width, v, .int .i64 m, .bool up, .bool r] w (POut w) := by
  have hD := hide (fun (W : World) (hb : Below w.heap.size w W) => decS_any W _ width l (h.below hb))
  unfold PDc at hD
  rw [hg] at hD
  have hP := hide (fun (w4 : World) (hb : Below w.heap.size w w4) o => pout_box hb o)
  have hP1 := hide (fun (w4 : World) (hb : Below w.heap.size w w4) => pout_mk hb)
  have tokA : True := trivial
  obtain ⟨A, c, rfl, hc, _, _, hml⟩ := h
  unfold maxLen at hml
  generalize l.length = ln at *
  clear hg
  have hbig : ln ≤ 2147483647 := hsz
  clear hsz
  go_enter Try.func5, Try.ntmps5
  go_wp2_with (first
    | (go_at_call 17; have _t := tokA; (with_reducible refine (sn_awake _ _ (by exact Blk.new _ _ rfl)).mono ?_); rintro e w1 ⟨m, rfl, hm, hb1⟩; have hB1 := below_tr ((Below.refl w.heap.size w).alloc (Nat.le_refl _) (.cells #[.int .u64 1] 27)) hb1 (by simp); clear tokA)
    | (go_at_call 8; (with_reducible refine (same_ten _ _ hm).mono ?_); rintro e w3 ⟨rfl, hb3⟩; have hB3 := below_tr hB1 hb3 hB1.size)
    | (go_at_call 9; (with_reducible refine ((unhide hD) _ hB3).mono ?_); rintro e w4 ⟨s, A4, n4, c4, rfl, hx, hb4⟩; have hB4 := below_tr hB3 hb4 hB3.size))
  all_goals first | (go_ret; exact (unhide hP) _ hB4 _) | (exfalso; simp at *; omega)
set_option maxRecDepth 100000 in
set_option maxHeartbeats 4000000 in
theorem lawS_neg (w : World) (v : Value) (width m : Int) (up r : Bool) (l : List Int) (h : RuS w v l) (hsz : l.length ≤ 2147483647) (hg : good width l = true) (hm0 : m < 0) :
    Calls Try.prog 5 #[.int .i64 width, v, .int .i64 m, .bool up, .bool r] w (POut w) := by
  have hD := hide (fun (W : World) (hb : Below w.heap.size w W) => decS_any W _ width l (h.below hb))
  unfold PDc at hD
  rw [hg] at hD
  have hP := hide (fun (w4 : World) (hb : Below w.heap.size w w4) o => pout_box hb o)
  have hP1 := hide (fun (w4 : World) (hb : Below w.heap.size w w4) => pout_mk hb)
  have tokA : True := trivial
  obtain ⟨A, c, rfl, hc, _, _, hml⟩ := h
  unfold maxLen at hml
  generalize l.length = ln at *
  clear hg
  have hbig : ln ≤ 2147483647 := hsz
  clear hsz
  go_enter Try.func5, Try.ntmps5
  go_wp2_with (first
    | (go_at_call 17; have _t := tokA; (with_reducible refine (sn_awake _ _ (by exact Blk.new _ _ rfl)).mono ?_); rintro e w1 ⟨m, rfl, hm, hb1⟩; have hB1 := below_tr ((Below.refl w.heap.size w).alloc (Nat.le_refl _) (.cells #[.int .u64 1] 27)) hb1 (by simp); clear tokA)
    | (go_at_call 8; (with_reducible refine (same_ten _ _ hm).mono ?_); rintro e w3 ⟨rfl, hb3⟩; have hB3 := below_tr hB1 hb3 hB1.size)
    | (go_at_call 9; (with_reducible refine ((unhide hD) _ hB3).mono ?_); rintro e w4 ⟨s, A4, n4, c4, rfl, hx, hb4⟩; have hB4 := below_tr hB3 hb4 hB3.size))
  all_goals first | (go_ret; exact (unhide hP) _ hB4 _) | (exfalso; simp at *; omega)
set_option maxRecDepth 100000 in
set_option maxHeartbeats 4000000 in
theorem lawS_prec (w : World) (v : Value) (width m : Int) (up r : Bool) (l : List Int) (h : RuS w v l) (hsz : l.length ≤ 2147483647) (p : Int) (hPr0 : ∀ W : World, Calls Try.prog 18 #[.int .i64 width] W fun e w' => e = .returned (.int .i64 p) ∧ Below W.heap.size W w') (hg : good width l = true) (hm0 : 0 ≤ m) (hm1 : p < m) :
    Calls Try.prog 5 #[.int .i64 width, v, .int .i64 m, .bool up, .bool r] w (POut w) := by
  have hD := hide (fun (W : World) (hb : Below w.heap.size w W) => decS_any W _ width l (h.below hb))
  unfold PDc at hD
  rw [hg] at hD
  have hP := hide (fun (w4 : World) (hb : Below w.heap.size w w4) o => pout_box hb o)
  have hP1 := hide (fun (w4 : World) (hb : Below w.heap.size w w4) => pout_mk hb)
  have tokA : True := trivial
  have hPr := hide hPr0
  clear hPr0
  obtain ⟨A, c, rfl, hc, _, _, hml⟩ := h
  unfold maxLen at hml
  generalize l.length = ln at *
  clear hg
  have hbig : ln ≤ 2147483647 := hsz
  clear hsz
  go_enter Try.func5, Try.ntmps5
  go_wp2_with (first
    | (go_at_call 17; have _t := tokA; (with_reducible refine (sn_awake _ _ (by exact Blk.new _ _ rfl)).mono ?_); rintro e w1 ⟨m, rfl, hm, hb1⟩; have hB1 := below_tr ((Below.refl w.heap.size w).alloc (Nat.le_refl _) (.cells #[.int .u64 1] 27)) hb1 (by simp); clear tokA)
    | (go_at_call 8; (with_reducible refine (same_ten _ _ hm).mono ?_); rintro e w3 ⟨rfl, hb3⟩; have hB3 := below_tr hB1 hb3 hB1.size)
    | (go_at_call 9; (with_reducible refine ((unhide hD) _ hB3).mono ?_); rintro e w4 ⟨s, A4, n4, c4, rfl, hx, hb4⟩; have hB4 := below_tr hB3 hb4 hB3.size; have kb := Blk.new (w := w4) (g := w4.heap.size) 30 #[.bool s, .slice A4 n4 c4] rfl; obtain ⟨q0, q1, q2, q3, _⟩ := blk_facts kb; have hx5 := (hx (by first | rfl | trivial)).below ((Below.refl w4.heap.size w4).alloc (Nat.le_refl _) (.cells #[.bool s, .slice A4 n4 c4] 30)); have hB5 := hB4.alloc hB4.size (.cells #[.bool s, .slice A4 n4 c4] 30))
    | (go_at_call 18; (with_reducible refine ((unhide hPr) _).mono ?_); rintro e w6 ⟨rfl, hb6⟩; have hB6 := below_tr hB5 hb6 hB5.size; have k6 := kb.below hb6; obtain ⟨r0, r1, r2, r3, _⟩ := blk_facts k6; have hx6 := hx5.below hb6))
  all_goals first | (go_ret; exact (unhide hP1) _ hB6) | (exfalso; simp at *; omega)
set_option maxRecDepth 100000 in
set_option maxHeartbeats 4000000 in
theorem lawS_least (w : World) (v : Value) (width m : Int) (up r : Bool) (l : List Int) (h : RuS w v l) (hsz : l.length ≤ 2147483647) (p : Int) (hPr0 : ∀ W : World, Calls Try.prog 18 #[.int .i64 width] W fun e w' => e = .returned (.int .i64 p) ∧ Below W.heap.size W w') (hL : ∀ (W : World) (x : Value), Wd W x (sv l) → Calls Try.prog 10 #[.int .i64 width, x] W fun e w' => e = .returned (.bool true) ∧ Below W.heap.size W w') (hg : good width l = true) (hm0 : 0 ≤ m) (hm1 : m ≤ p) :
    Calls Try.prog 5 #[.int .i64 width, v, .int .i64 m, .bool up, .bool r] w (POut w) := by
  have hD := hide (fun (W : World) (hb : Below w.heap.size w W) => decS_any W _ width l (h.below hb))
  unfold PDc at hD
  rw [hg] at hD
  have hP := hide (fun (w4 : World) (hb : Below w.heap.size w w4) o => pout_box hb o)
  have hP1 := hide (fun (w4 : World) (hb : Below w.heap.size w w4) => pout_mk hb)
  have tokA : True := trivial
  have hPr := hide hPr0
  clear hPr0
  have hLL := hide hL
  clear hL
  have tokL : True := trivial
  obtain ⟨A, c, rfl, hc, _, _, hml⟩ := h
  unfold maxLen at hml
  generalize l.length = ln at *
  clear hg
  have hbig : ln ≤ 2147483647 := hsz
  clear hsz
  go_enter Try.func5, Try.ntmps5
  go_wp2_with (first
    | (go_at_call 17; have _t := tokA; (with_reducible refine (sn_awake _ _ (by exact Blk.new _ _ rfl)).mono ?_); rintro e w1 ⟨m, rfl, hm, hb1⟩; have hB1 := below_tr ((Below.refl w.heap.size w).alloc (Nat.le_refl _) (.cells #[.int .u64 1] 27)) hb1 (by simp); clear tokA)
    | (go_at_call 8; (with_reducible refine (same_ten _ _ hm).mono ?_); rintro e w3 ⟨rfl, hb3⟩; have hB3 := below_tr hB1 hb3 hB1.size)
    | (go_at_call 9; (with_reducible refine ((unhide hD) _ hB3).mono ?_); rintro e w4 ⟨s, A4, n4, c4, rfl, hx, hb4⟩; have hB4 := below_tr hB3 hb4 hB3.size; have kb := Blk.new (w := w4) (g := w4.heap.size) 30 #[.bool s, .slice A4 n4 c4] rfl; obtain ⟨q0, q1, q2, q3, _⟩ := blk_facts kb; have hx5 := (hx (by first | rfl | trivial)).below ((Below.refl w4.heap.size w4).alloc (Nat.le_refl _) (.cells #[.bool s, .slice A4 n4 c4] 30)); have hB5 := hB4.alloc hB4.size (.cells #[.bool s, .slice A4 n4 c4] 30))
    | (go_at_call 18; (with_reducible refine ((unhide hPr) _).mono ?_); rintro e w6 ⟨rfl, hb6⟩; have hB6 := below_tr hB5 hb6 hB5.size; have k6 := kb.below hb6; obtain ⟨r0, r1, r2, r3, _⟩ := blk_facts k6; have hx6 := hx5.below hb6)
    | (go_at_call 10; have _t := tokL; (with_reducible refine ((unhide hLL) _ _ hx6).mono ?_); rintro e w7 ⟨rfl, hb7⟩; have hB7 := below_tr hB6 hb7 hB6.size; have k7 := k6.below hb7; obtain ⟨t0, t1, t2, t3, _⟩ := blk_facts k7; have hx7 := hx6.below hb7; clear tokL))
  all_goals first | (go_ret; exact (unhide hP1) _ hB7) | (exfalso; simp at *; omega)
set_option maxRecDepth 100000 in
set_option maxHeartbeats 4000000 in
theorem lawS_wide (w : World) (v : Value) (width m : Int) (up r : Bool) (l : List Int) (h : RuS w v l) (hsz : l.length ≤ 2147483647) (p : Int) (hPr0 : ∀ W : World, Calls Try.prog 18 #[.int .i64 width] W fun e w' => e = .returned (.int .i64 p) ∧ Below W.heap.size W w') (hL : ∀ (W : World) (x : Value), Wd W x (sv l) → Calls Try.prog 10 #[.int .i64 width, x] W fun e w' => e = .returned (.bool false) ∧ Below W.heap.size W w') (hg : good width l = true) (hm0 : 0 ≤ m) (hm1 : m ≤ p) (hw : 64 < width) :
    Calls Try.prog 5 #[.int .i64 width, v, .int .i64 m, .bool up, .bool r] w (POut w) := by
  have hD := hide (fun (W : World) (hb : Below w.heap.size w W) => decS_any W _ width l (h.below hb))
  unfold PDc at hD
  rw [hg] at hD
  have hP := hide (fun (w4 : World) (hb : Below w.heap.size w w4) o => pout_box hb o)
  have hP1 := hide (fun (w4 : World) (hb : Below w.heap.size w w4) => pout_mk hb)
  have tokA : True := trivial
  have hPr := hide hPr0
  clear hPr0
  have hLL := hide hL
  clear hL
  have tokL : True := trivial
  obtain ⟨A, c, rfl, hc, _, _, hml⟩ := h
  unfold maxLen at hml
  generalize l.length = ln at *
  clear hg
  have hbig : ln ≤ 2147483647 := hsz
  clear hsz
  go_enter Try.func5, Try.ntmps5
  go_wp2_with (first
    | (go_at_call 17; have _t := tokA; (with_reducible refine (sn_awake _ _ (by exact Blk.new _ _ rfl)).mono ?_); rintro e w1 ⟨m, rfl, hm, hb1⟩; have hB1 := below_tr ((Below.refl w.heap.size w).alloc (Nat.le_refl _) (.cells #[.int .u64 1] 27)) hb1 (by simp); clear tokA)
    | (go_at_call 8; (with_reducible refine (same_ten _ _ hm).mono ?_); rintro e w3 ⟨rfl, hb3⟩; have hB3 := below_tr hB1 hb3 hB1.size)
    | (go_at_call 9; (with_reducible refine ((unhide hD) _ hB3).mono ?_); rintro e w4 ⟨s, A4, n4, c4, rfl, hx, hb4⟩; have hB4 := below_tr hB3 hb4 hB3.size; have kb := Blk.new (w := w4) (g := w4.heap.size) 30 #[.bool s, .slice A4 n4 c4] rfl; obtain ⟨q0, q1, q2, q3, _⟩ := blk_facts kb; have hx5 := (hx (by first | rfl | trivial)).below ((Below.refl w4.heap.size w4).alloc (Nat.le_refl _) (.cells #[.bool s, .slice A4 n4 c4] 30)); have hB5 := hB4.alloc hB4.size (.cells #[.bool s, .slice A4 n4 c4] 30))
    | (go_at_call 18; (with_reducible refine ((unhide hPr) _).mono ?_); rintro e w6 ⟨rfl, hb6⟩; have hB6 := below_tr hB5 hb6 hB5.size; have k6 := kb.below hb6; obtain ⟨r0, r1, r2, r3, _⟩ := blk_facts k6; have hx6 := hx5.below hb6)
    | (go_at_call 10; have _t := tokL; (with_reducible refine ((unhide hLL) _ _ hx6).mono ?_); rintro e w7 ⟨rfl, hb7⟩; have hB7 := below_tr hB6 hb7 hB6.size; have k7 := k6.below hb7; obtain ⟨t0, t1, t2, t3, _⟩ := blk_facts k7; have hx7 := hx6.below hb7; clear tokL))
  all_goals first | (go_ret; exact (unhide hP1) _ hB7) | (exfalso; simp at *; omega)
set_option maxRecDepth 100000 in
set_option maxHeartbeats 4000000 in
theorem lawS_nine (w : World) (v : Value) (m : Int) (r : Bool) (l : List Int) (h : RuS w v l) (hsz : l.length ≤ 2147483647) (p : Int) (hPr0 : ∀ W : World, Calls Try.prog 18 #[.int .i64 64] W fun e w' => e = .returned (.int .i64 p) ∧ Below W.heap.size W w') (hL : ∀ (W : World) (x : Value), Wd W x (sv l) → Calls Try.prog 10 #[.int .i64 64, x] W fun e w' => e = .returned (.bool false) ∧ Below W.heap.size W w') (hg : good 64 l = true) (hm0 : 0 ≤ m) (hm1 : m ≤ p) (hm9 : 9 < m) :
    Calls Try.prog 5 #[.int .i64 64, v, .int .i64 m, .bool false, .bool r] w (POut w) := by
  have hD := hide (fun (W : World) (hb : Below w.heap.size w W) => decS_any W _ 64 l (h.below hb))
  unfold PDc at hD
  rw [hg] at hD
  have hP := hide (fun (w4 : World) (hb : Below w.heap.size w w4) o => pout_box hb o)
  have hP1 := hide (fun (w4 : World) (hb : Below w.heap.size w w4) => pout_mk hb)
  have tokA : True := trivial
  have hPr := hide hPr0
  clear hPr0
  have hLL := hide hL
  clear hL
  have tokL : True := trivial
  obtain ⟨A, c, rfl, hc, _, _, hml⟩ := h
  unfold maxLen at hml
  generalize l.length = ln at *
  clear hg
  have hbig : ln ≤ 2147483647 := hsz
  clear hsz
  go_enter Try.func5, Try.ntmps5
  go_wp2_with (first
    | (go_at_call 17; have _t := tokA; (with_reducible refine (sn_awake _ _ (by exact Blk.new _ _ rfl)).mono ?_); rintro e w1 ⟨m, rfl, hm, hb1⟩; have hB1 := below_tr ((Below.refl w.heap.size w).alloc (Nat.le_refl _) (.cells #[.int .u64 1] 27)) hb1 (by simp); clear tokA)
    | (go_at_call 8; (with_reducible refine (same_ten _ _ hm).mono ?_); rintro e w3 ⟨rfl, hb3⟩; have hB3 := below_tr hB1 hb3 hB1.size)
    | (go_at_call 9; (with_reducible refine ((unhide hD) _ hB3).mono ?_); rintro e w4 ⟨s, A4, n4, c4, rfl, hx, hb4⟩; have hB4 := below_tr hB3 hb4 hB3.size; have kb := Blk.new (w := w4) (g := w4.heap.size) 30 #[.bool s, .slice A4 n4 c4] rfl; obtain ⟨q0, q1, q2, q3, _⟩ := blk_facts kb; have hx5 := (hx (by first | rfl | trivial)).below ((Below.refl w4.heap.size w4).alloc (Nat.le_refl _) (.cells #[.bool s, .slice A4 n4 c4] 30)); have hB5 := hB4.alloc hB4.size (.cells #[.bool s, .slice A4 n4 c4] 30))
    | (go_at_call 18; (with_reducible refine ((unhide hPr) _).mono ?_); rintro e w6 ⟨rfl, hb6⟩; have hB6 := below_tr hB5 hb6 hB5.size; have k6 := kb.below hb6; obtain ⟨r0, r1, r2, r3, _⟩ := blk_facts k6; have hx6 := hx5.below hb6)
    | (go_at_call 10; have _t := tokL; (with_reducible refine ((unhide hLL) _ _ hx6).mono ?_); rintro e w7 ⟨rfl, hb7⟩; have hB7 := below_tr hB6 hb7 hB6.size; have k7 := k6.below hb7; obtain ⟨t0, t1, t2, t3, _⟩ := blk_facts k7; have hx7 := hx6.below hb7; clear tokL))
  all_goals first | (go_ret; exact (unhide hP1) _ hB7) | (exfalso; simp at *; omega)
def PWB (w : World) (b : Bool) (l : List Int) (e : Ending) (w' : World) : Prop := ∃ x, e = .returned (.tuple #[x, .bool b]) ∧ Rd .u64 w' x l ∧ Below w.heap.size w w'
def PDq (w : World) (q : Int) (e : Ending) (w' : World) : Prop := ∃ u v, e = .returned (.tuple #[u, v]) ∧ Wd w' u q ∧ (∃ r, Wd w' v r) ∧ Below w.heap.size w w'
set_option maxRecDepth 100000 in
set_option maxHeartbeats 8000000 in
theorem lawS_9_ff_32 (w : World) (v : Value) (m : Int) (r : Bool) (l : List Int) (h : RuS w v l) (hsz : l.length ≤ 2147483647) (p : Int) (hPr0 : ∀ W : World, Calls Try.prog 18 #[.int .i64 32] W fun e w' => e = .returned (.int .i64 p) ∧ Below W.heap.size W w') (hL : ∀ (W : World) (x : Value), Wd W x (sv l) → Calls Try.prog 10 #[.int .i64 32, x] W fun e w' => e = .returned (.bool false) ∧ Below W.heap.size W w') (hg : good 32 l = true) (hm0 : 0 ≤ m) (hm1 : m ≤ p) (T z : Int) (R : List Int) (hT : ∀ W : World, Calls Try.prog 20 #[.int .i64 m] W (PWide W T)) (hReg : ∀ (W : World) (x y : Value), Wd W x (sv l) → Wd W y T → Calls Try.prog 19 #[x, y] W (PWide W z)) (hWr : ∀ (W : World) (x : Value), Wd W x z → Calls Try.prog 13 #[.int .i64 32, x] W (PWB W false R)) :
    Calls Try.prog 5 #[.int .i64 32, v, .int .i64 m, .bool true, .bool r] w (POut w) := by
  have hD := hide (fun (W : World) (hb : Below w.heap.size w W) => decS_any W _ 32 l (h.below hb))
  unfold PDc at hD
  rw [hg] at hD
  have hP := hide (fun (w4 : World) (hb : Below w.heap.size w w4) o => pout_box hb o)
  have hP1 := hide (fun (w4 : World) (hb : Below w.heap.size w w4) => pout_mk hb)
  have tokA : True := trivial
  have hPr := hide hPr0
  clear hPr0
  have hLL := hide hL
  clear hL
  have tokL : True := trivial
  have hTT := hide hT
  have hRR := hide hReg
  have hWW := hide hWr
  clear hT hReg hWr
  obtain ⟨A, c, rfl, hc, _, _, hml⟩ := h
  unfold maxLen at hml
  generalize l.length = ln at *
  clear hg
  have hbig : ln ≤ 2147483647 := hsz
  clear hsz
  go_enter Try.func5, Try.ntmps5
  go_upto_region 9 with (first
    | (go_at_call 17; have _t := tokA; (with_reducible refine (sn_awake _ _ (by exact Blk.new _ _ rfl)).mono ?_); rintro e w1 ⟨m, rfl, hm, hb1⟩; have hB1 := below_tr ((Below.refl w.heap.size w).alloc (Nat.le_refl _) (.cells #[.int .u64 1] 27)) hb1 (by simp); clear tokA)
    | (go_at_call 8; (with_reducible refine (same_ten _ _ hm).mono ?_); rintro e w3 ⟨rfl, hb3⟩; have hB3 := below_tr hB1 hb3 hB1.size)
    | (go_at_call 9; (with_reducible refine ((unhide hD) _ hB3).mono ?_); rintro e w4 ⟨s, A4, n4, c4, rfl, hx, hb4⟩; have hB4 := below_tr hB3 hb4 hB3.size; have kb := Blk.new (w := w4) (g := w4.heap.size) 30 #[.bool s, .slice A4 n4 c4] rfl; obtain ⟨q0, q1, q2, q3, _⟩ := blk_facts kb; have hx5 := (hx (by first | rfl | trivial)).below ((Below.refl w4.heap.size w4).alloc (Nat.le_refl _) (.cells #[.bool s, .slice A4 n4 c4] 30)); have hB5 := hB4.alloc hB4.size (.cells #[.bool s, .slice A4 n4 c4] 30))
    | (go_at_call 18; (with_reducible refine ((unhide hPr) _).mono ?_); rintro e w6 ⟨rfl, hb6⟩; have hB6 := below_tr hB5 hb6 hB5.size; have k6 := kb.below hb6; obtain ⟨r0, r1, r2, r3, _⟩ := blk_facts k6; have hx6 := hx5.below hb6)
    | (go_at_call 10; have _t := tokL; (with_reducible refine ((unhide hLL) _ _ hx6).mono ?_); rintro e w7 ⟨rfl, hb7⟩; have hB7 := below_tr hB6 hb7 hB6.size; have k7 := k6.below hb7; obtain ⟨t0, t1, t2, t3, _⟩ := blk_facts k7; have hx7 := hx6.below hb7; clear tokL))
  have hK : KS w w4.heap.size s A4 n4 c4 (sv l) w7 := ⟨k7, hx7, hB7⟩
  have hG : w.heap.size ≤ w4.heap.size := hB4.size
  clear k7 hx7 hB7 hb7 t0 t1 t2 t3 hx6 k6 hb6 hB6 r0 r1 r2 r3 hx5 kb hB5 q0 q1 q2 q3 hx hb4 hB4 hb3 hB3 hm hb1 hB1
  generalize w4.heap.size = g3 at *
  refine wp_region_K (S := fun W => W.cell? ⟨g3, 0, none⟩ = some (.bool s) ∧ W.cell? ⟨g3, 1, none⟩ = some (.slice A4 n4 c4) ∧ W.frozen? ⟨g3, 0, none⟩ = false ∧ W.frozen? ⟨g3, 1, none⟩ = false ∧ KS w g3 s A4 n4 c4 (sv l) W) (k := 4) (by kernel_rfl) (by with_reducible exact KS.facts hK.drew) (fun hHeld => ?_)
  refine wpAnyK_take (i := 0) (oi := _) (v := ?_) rfl (by kernel_rfl) (by kernel_rfl) (by kernel_rfl) (by kernel_rfl) (fun _ _ _ h => h) (Or.inl ⟨by rfl, ?_⟩) (by assumption) ?_
  rotate_left
  · intro w hSw; (try dsimp only at hSw); go_simp; (try with_reducible rfl)
  try simp only [Act.put, List.setIfInBounds_toArray, List.set_cons_zero, List.set_cons_succ]
  refine wpAnyK_take (i := 1) (oi := _) (v := ?_) rfl (by kernel_rfl) (by kernel_rfl) (by kernel_rfl) (by kernel_rfl) (fun _ _ _ h => h) (Or.inl ⟨by rfl, ?_⟩) (by assumption) ?_
  rotate_left
  · intro w hSw; (try dsimp only at hSw); go_simp; (try with_reducible rfl)
  try simp only [Act.put, List.setIfInBounds_toArray, List.set_cons_zero, List.set_cons_succ]
  refine wpAnyK_one (i := 2) (o := _) (by kernel_rfl) rfl (fun K hK => ?_)
  go_simp
  ((go_at_call 20; (with_reducible refine ((unhide hTT) _).mono ?_); rintro e w8 ⟨x8, rfl, hx8, hb8⟩; obtain ⟨s8, A8, n8, c8, rfl⟩ := hx8.form); go_wp2_with fail)
  refine hK.out _ _ (by with_reducible exact KS.facts (KS.below hHeld.2.2.2.2 hb8)) (fun hHeld => ?_)
  clear hK K
  refine wpAnyK_one (i := 3) (o := _) (by kernel_rfl) rfl (fun K hK => ?_)
  go_simp
  ((go_at_call 19; (with_reducible refine ((unhide hRR) _ _ _ (KS.wd hHeld.2.2.2.2) hx8).mono ?_); rintro e w9 ⟨x9, rfl, hx9, hb9⟩; obtain ⟨s9, A9, n9, c9, rfl⟩ := hx9.form); go_wp2_with fail)
  refine hK.out _ _ (by with_reducible exact KS.facts (KS.below hHeld.2.2.2.2 hb9)) (fun hHeld => ?_)
  clear hK K
  refine wpAnyK_end (o := _) (by kernel_rfl) rfl (fun K hK => ?_)
  go_simp
  refine hK.out _ _ ?_
  clear hK K
  refine wpAnyK_done (by kernel_rfl) ?_ _
  have hKn := KS.next hHeld.2.2.2.2 hx9 hG
  clear hHeld hx9 hb9 hx8 hb8 hK
  generalize ((w9.setCell ⟨g3, 0, none⟩ (.bool s9)).setCell ⟨g3, 1, none⟩ (.slice A9 n9 c9)) = w10 at *
  obtain ⟨q0, q1, q2, q3, _⟩ := KS.facts hKn
  obtain ⟨kn, hxn, hBn⟩ := hKn
  have tokU : True := trivial
  go_wp2_with (first
    | (go_at_call 13; (with_reducible refine ((unhide hWW) _ _ hxn).mono ?_); rintro e w11 ⟨du, rfl, hdu, hb11⟩; have hB11 := below_tr hBn hb11 hBn.size; have k11 := kn.below hb11; obtain ⟨t0, t1, t2, t3, _⟩ := blk_facts k11; have hx11 := hxn.below hb11))
  all_goals first | (go_ret; exact (unhide hP1) _ hB11) | (exfalso; simp at *; omega)
set_option maxRecDepth 100000 in
set_option maxHeartbeats 8000000 in
theorem lawS_9_tt_32 (w : World) (v : Value) (m : Int) (r : Bool) (l : List Int) (h : RuS w v l) (hsz : l.length ≤ 2147483647) (p : Int) (hPr0 : ∀ W : World, Calls Try.prog 18 #[.int .i64 32] W fun e w' => e = .returned (.int .i64 p) ∧ Below W.heap.size W w') (hL : ∀ (W : World) (x : Value), Wd W x (sv l) → Calls Try.prog 10 #[.int .i64 32, x] W fun e w' => e = .returned (.bool false) ∧ Below W.heap.size W w') (hg : good 32 l = true) (hm0 : 0 ≤ m) (hm1 : m ≤ p) (T z : Int) (R : List Int) (hT : ∀ W : World, Calls Try.prog 20 #[.int .i64 m] W (PWide W T)) (hReg : ∀ (W : World) (x y : Value), Wd W x (sv l) → Wd W y T → Calls Try.prog 19 #[x, y] W (PWide W z)) (hWr : ∀ (W : World) (x : Value), Wd W x z → Calls Try.prog 13 #[.int .i64 32, x] W (PWB W true R)) (hL2 : ∀ (W : World) (x : Value), Wd W x z → Calls Try.prog 10 #[.int .i64 32, x] W fun e w' => e = .returned (.bool true) ∧ Below W.heap.size W w') :
    Calls Try.prog 5 #[.int .i64 32, v, .int .i64 m, .bool true, .bool r] w (POut w) := by
  have hD := hide (fun (W : World) (hb : Below w.heap.size w W) => decS_any W _ 32 l (h.below hb))
  unfold PDc at hD
  rw [hg] at hD
  have hP := hide (fun (w4 : World) (hb : Below w.heap.size w w4) o => pout_box hb o)
  have hP1 := hide (fun (w4 : World) (hb : Below w.heap.size w w4) => pout_mk hb)
  have tokA : True := trivial
  have hPr := hide hPr0
  clear hPr0
  have hLL := hide hL
  clear hL
  have tokL : True := trivial
  have hTT := hide hT
  have hRR := hide hReg
  have hWW := hide hWr
  clear hT hReg hWr
  have hL3 := hide hL2
  clear hL2
  obtain ⟨A, c, rfl, hc, _, _, hml⟩ := h
  unfold maxLen at hml
  generalize l.length = ln at *
  clear hg
  have hbig : ln ≤ 2147483647 := hsz
  clear hsz
  go_enter Try.func5, Try.ntmps5
  go_upto_region 9 with (first
    | (go_at_call 17; have _t := tokA; (with_reducible refine (sn_awake _ _ (by exact Blk.new _ _ rfl)).mono ?_); rintro e w1 ⟨m, rfl, hm, hb1⟩; have hB1 := below_tr ((Below.refl w.heap.size w).alloc (Nat.le_refl _) (.cells #[.int .u64 1] 27)) hb1 (by simp); clear tokA)
    | (go_at_call 8; (with_reducible refine (same_ten _ _ hm).mono ?_); rintro e w3 ⟨rfl, hb3⟩; have hB3 := below_tr hB1 hb3 hB1.size)
    | (go_at_call 9; (with_reducible refine ((unhide hD) _ hB3).mono ?_); rintro e w4 ⟨s, A4, n4, c4, rfl, hx, hb4⟩; have hB4 := below_tr hB3 hb4 hB3.size; have kb := Blk.new (w := w4) (g := w4.heap.size) 30 #[.bool s, .slice A4 n4 c4] rfl; obtain ⟨q0, q1, q2, q3, _⟩ := blk_facts kb; have hx5 := (hx (by first | rfl | trivial)).below ((Below.refl w4.heap.size w4).alloc (Nat.le_refl _) (.cells #[.bool s, .slice A4 n4 c4] 30)); have hB5 := hB4.alloc hB4.size (.cells #[.bool s, .slice A4 n4 c4] 30))
    | (go_at_call 18; (with_reducible refine ((unhide hPr) _).mono ?_); rintro e w6 ⟨rfl, hb6⟩; have hB6 := below_tr hB5 hb6 hB5.size; have k6 := kb.below hb6; obtain ⟨r0, r1, r2, r3, _⟩ := blk_facts k6; have hx6 := hx5.below hb6)
    | (go_at_call 10; have _t := tokL; (with_reducible refine ((unhide hLL) _ _ hx6).mono ?_); rintro e w7 ⟨rfl, hb7⟩; have hB7 := below_tr hB6 hb7 hB6.size; have k7 := k6.below hb7; obtain ⟨t0, t1, t2, t3, _⟩ := blk_facts k7; have hx7 := hx6.below hb7; clear tokL))
  have hK : KS w w4.heap.size s A4 n4 c4 (sv l) w7 := ⟨k7, hx7, hB7⟩
  have hG : w.heap.size ≤ w4.heap.size := hB4.size
  clear k7 hx7 hB7 hb7 t0 t1 t2 t3 hx6 k6 hb6 hB6 r0 r1 r2 r3 hx5 kb hB5 q0 q1 q2 q3 hx hb4 hB4 hb3 hB3 hm hb1 hB1
  generalize w4.heap.size = g3 at *
  refine wp_region_K (S := fun W => W.cell? ⟨g3, 0, none⟩ = some (.bool s) ∧ W.cell? ⟨g3, 1, none⟩ = some (.slice A4 n4 c4) ∧ W.frozen? ⟨g3, 0, none⟩ = false ∧ W.frozen? ⟨g3, 1, none⟩ = false ∧ KS w g3 s A4 n4 c4 (sv l) W) (k := 4) (by kernel_rfl) (by with_reducible exact KS.facts hK.drew) (fun hHeld => ?_)
  refine wpAnyK_take (i := 0) (oi := _) (v := ?_) rfl (by kernel_rfl) (by kernel_rfl) (by kernel_rfl) (by kernel_rfl) (fun _ _ _ h => h) (Or.inl ⟨by rfl, ?_⟩) (by assumption) ?_
  rotate_left
  · intro w hSw; (try dsimp only at hSw); go_simp; (try with_reducible rfl)
  try simp only [Act.put, List.setIfInBounds_toArray, List.set_cons_zero, List.set_cons_succ]
  refine wpAnyK_take (i := 1) (oi := _) (v := ?_) rfl (by kernel_rfl) (by kernel_rfl) (by kernel_rfl) (by kernel_rfl) (fun _ _ _ h => h) (Or.inl ⟨by rfl, ?_⟩) (by assumption) ?_
  rotate_left
  · intro w hSw; (try dsimp only at hSw); go_simp; (try with_reducible rfl)
  try simp only [Act.put, List.setIfInBounds_toArray, List.set_cons_zero, List.set_cons_succ]
  refine wpAnyK_one (i := 2) (o := _) (by kernel_rfl) rfl (fun K hK => ?_)
  go_simp
  ((go_at_call 20; (with_reducible refine ((unhide hTT) _).mono ?_); rintro e w8 ⟨x8, rfl, hx8, hb8⟩; obtain ⟨s8, A8, n8, c8, rfl⟩ := hx8.form); go_wp2_with fail)
  refine hK.out _ _ (by with_reducible exact KS.facts (KS.below hHeld.2.2.2.2 hb8)) (fun hHeld => ?_)
  clear hK K
  refine wpAnyK_one (i := 3) (o := _) (by kernel_rfl) rfl (fun K hK => ?_)
  go_simp
  ((go_at_call 19; (with_reducible refine ((unhide hRR) _ _ _ (KS.wd hHeld.2.2.2.2) hx8).mono ?_); rintro e w9 ⟨x9, rfl, hx9, hb9⟩; obtain ⟨s9, A9, n9, c9, rfl⟩ := hx9.form); go_wp2_with fail)
  refine hK.out _ _ (by with_reducible exact KS.facts (KS.below hHeld.2.2.2.2 hb9)) (fun hHeld => ?_)
  clear hK K
  refine wpAnyK_end (o := _) (by kernel_rfl) rfl (fun K hK => ?_)
  go_simp
  refine hK.out _ _ ?_
  clear hK K
  refine wpAnyK_done (by kernel_rfl) ?_ _
  have hKn := KS.next hHeld.2.2.2.2 hx9 hG
  clear hHeld hx9 hb9 hx8 hb8 hK
  generalize ((w9.setCell ⟨g3, 0, none⟩ (.bool s9)).setCell ⟨g3, 1, none⟩ (.slice A9 n9 c9)) = w10 at *
  obtain ⟨q0, q1, q2, q3, _⟩ := KS.facts hKn
  obtain ⟨kn, hxn, hBn⟩ := hKn
  have tokU : True := trivial
  go_wp2_with (first
    | (go_at_call 13; (with_reducible refine ((unhide hWW) _ _ hxn).mono ?_); rintro e w11 ⟨du, rfl, hdu, hb11⟩; have hB11 := below_tr hBn hb11 hBn.size; have k11 := kn.below hb11; obtain ⟨t0, t1, t2, t3, _⟩ := blk_facts k11; have hx11 := hxn.below hb11)
    | (go_at_call 10; (with_reducible refine ((unhide hL3) _ _ hx11).mono ?_); rintro e w12 ⟨rfl, hb12⟩; have hB12 := below_tr hB11 hb12 hB11.size; have hdu12 := hdu.below hb12))
  all_goals first | (go_ret; exact (unhide hP1) _ hB12) | (exfalso; simp at *; omega)
set_option maxRecDepth 100000 in
set_option maxHeartbeats 8000000 in
theorem lawS_9_tf_32 (w : World) (v : Value) (m : Int) (r : Bool) (l : List Int) (h : RuS w v l) (hsz : l.length ≤ 2147483647) (p : Int) (hPr0 : ∀ W : World, Calls Try.prog 18 #[.int .i64 32] W fun e w' => e = .returned (.int .i64 p) ∧ Below W.heap.size W w') (hL : ∀ (W : World) (x : Value), Wd W x (sv l) → Calls Try.prog 10 #[.int .i64 32, x] W fun e w' => e = .returned (.bool false) ∧ Below W.heap.size W w') (hg : good 32 l = true) (hm0 : 0 ≤ m) (hm1 : m ≤ p) (T z : Int) (R : List Int) (hT : ∀ W : World, Calls Try.prog 20 #[.int .i64 m] W (PWide W T)) (hReg : ∀ (W : World) (x y : Value), Wd W x (sv l) → Wd W y T → Calls Try.prog 19 #[x, y] W (PWide W z)) (hWr : ∀ (W : World) (x : Value), Wd W x z → Calls Try.prog 13 #[.int .i64 32, x] W (PWB W true R)) (hL2 : ∀ (W : World) (x : Value), Wd W x z → Calls Try.prog 10 #[.int .i64 32, x] W fun e w' => e = .returned (.bool false) ∧ Below W.heap.size W w') (hU : ∀ W : World, Below w.heap.size w W → Calls Try.prog 17 #[.int .i64 32, v, .int .i64 m, .bool true, .bool r] W (PUn W R)) :
    Calls Try.prog 5 #[.int .i64 32, v, .int .i64 m, .bool true, .bool r] w (POut w) := by
  have hD := hide (fun (W : World) (hb : Below w.heap.size w W) => decS_any W _ 32 l (h.below hb))
  unfold PDc at hD
  rw [hg] at hD
  have hP := hide (fun (w4 : World) (hb : Below w.heap.size w w4) o => pout_box hb o)
  have hP1 := hide (fun (w4 : World) (hb : Below w.heap.size w w4) => pout_mk hb)
  have tokA : True := trivial
  have hPr := hide hPr0
  clear hPr0
  have hLL := hide hL
  clear hL
  have tokL : True := trivial
  have hTT := hide hT
  have hRR := hide hReg
  have hWW := hide hWr
  clear hT hReg hWr
  have hL3 := hide hL2
  clear hL2
  have hUU := hide hU
  clear hU
  obtain ⟨A, c, rfl, hc, _, _, hml⟩ := h
  unfold maxLen at hml
  generalize l.length = ln at *
  clear hg
  have hbig : ln ≤ 2147483647 := hsz
  clear hsz
  go_enter Try.func5, Try.ntmps5
  go_upto_region 9 with (first
    | (go_at_call 17; have _t := tokA; (with_reducible refine (sn_awake _ _ (by exact Blk.new _ _ rfl)).mono ?_); rintro e w1 ⟨m, rfl, hm, hb1⟩; have hB1 := below_tr ((Below.refl w.heap.size w).alloc (Nat.le_refl _) (.cells #[.int .u64 1] 27)) hb1 (by simp); clear tokA)
    | (go_at_call 8; (with_reducible refine (same_ten _ _ hm).mono ?_); rintro e w3 ⟨rfl, hb3⟩; have hB3 := below_tr hB1 hb3 hB1.size)
    | (go_at_call 9; (with_reducible refine ((unhide hD) _ hB3).mono ?_); rintro e w4 ⟨s, A4, n4, c4, rfl, hx, hb4⟩; have hB4 := below_tr hB3 hb4 hB3.size; have kb := Blk.new (w := w4) (g := w4.heap.size) 30 #[.bool s, .slice A4 n4 c4] rfl; obtain ⟨q0, q1, q2, q3, _⟩ := blk_facts kb; have hx5 := (hx (by first | rfl | trivial)).below ((Below.refl w4.heap.size w4).alloc (Nat.le_refl _) (.cells #[.bool s, .slice A4 n4 c4] 30)); have hB5 := hB4.alloc hB4.size (.cells #[.bool s, .slice A4 n4 c4] 30))
    | (go_at_call 18; (with_reducible refine ((unhide hPr) _).mono ?_); rintro e w6 ⟨rfl, hb6⟩; have hB6 := below_tr hB5 hb6 hB5.size; have k6 := kb.below hb6; obtain ⟨r0, r1, r2, r3, _⟩ := blk_facts k6; have hx6 := hx5.below hb6)
    | (go_at_call 10; have _t := tokL; (with_reducible refine ((unhide hLL) _ _ hx6).mono ?_); rintro e w7 ⟨rfl, hb7⟩; have hB7 := below_tr hB6 hb7 hB6.size; have k7 := k6.below hb7; obtain ⟨t0, t1, t2, t3, _⟩ := blk_facts k7; have hx7 := hx6.below hb7; clear tokL))
  have hK : KS w w4.heap.size s A4 n4 c4 (sv l) w7 := ⟨k7, hx7, hB7⟩
  have hG : w.heap.size ≤ w4.heap.size := hB4.size
  clear k7 hx7 hB7 hb7 t0 t1 t2 t3 hx6 k6 hb6 hB6 r0 r1 r2 r3 hx5 kb hB5 q0 q1 q2 q3 hx hb4 hB4 hb3 hB3 hm hb1 hB1
  generalize w4.heap.size = g3 at *
  refine wp_region_K (S := fun W => W.cell? ⟨g3, 0, none⟩ = some (.bool s) ∧ W.cell? ⟨g3, 1, none⟩ = some (.slice A4 n4 c4) ∧ W.frozen? ⟨g3, 0, none⟩ = false ∧ W.frozen? ⟨g3, 1, none⟩ = false ∧ KS w g3 s A4 n4 c4 (sv l) W) (k := 4) (by kernel_rfl) (by with_reducible exact KS.facts hK.drew) (fun hHeld => ?_)
  refine wpAnyK_take (i := 0) (oi := _) (v := ?_) rfl (by kernel_rfl) (by kernel_rfl) (by kernel_rfl) (by kernel_rfl) (fun _ _ _ h => h) (Or.inl ⟨by rfl, ?_⟩) (by assumption) ?_
  rotate_left
  · intro w hSw; (try dsimp only at hSw); go_simp; (try with_reducible rfl)
  try simp only [Act.put, List.setIfInBounds_toArray, List.set_cons_zero, List.set_cons_succ]
  refine wpAnyK_take (i := 1) (oi := _) (v := ?_) rfl (by kernel_rfl) (by kernel_rfl) (by kernel_rfl) (by kernel_rfl) (fun _ _ _ h => h) (Or.inl ⟨by rfl, ?_⟩) (by assumption) ?_
  rotate_left
  · intro w hSw; (try dsimp only at hSw); go_simp; (try with_reducible rfl)
  try simp only [Act.put, List.setIfInBounds_toArray, List.set_cons_zero, List.set_cons_succ]
  refine wpAnyK_one (i := 2) (o := _) (by kernel_rfl) rfl (fun K hK => ?_)
  go_simp
  ((go_at_call 20; (with_reducible refine ((unhide hTT) _).mono ?_); rintro e w8 ⟨x8, rfl, hx8, hb8⟩; obtain ⟨s8, A8, n8, c8, rfl⟩ := hx8.form); go_wp2_with fail)
  refine hK.out _ _ (by with_reducible exact KS.facts (KS.below hHeld.2.2.2.2 hb8)) (fun hHeld => ?_)
  clear hK K
  refine wpAnyK_one (i := 3) (o := _) (by kernel_rfl) rfl (fun K hK => ?_)
  go_simp
  ((go_at_call 19; (with_reducible refine ((unhide hRR) _ _ _ (KS.wd hHeld.2.2.2.2) hx8).mono ?_); rintro e w9 ⟨x9, rfl, hx9, hb9⟩; obtain ⟨s9, A9, n9, c9, rfl⟩ := hx9.form); go_wp2_with fail)
  refine hK.out _ _ (by with_reducible exact KS.facts (KS.below hHeld.2.2.2.2 hb9)) (fun hHeld => ?_)
  clear hK K
  refine wpAnyK_end (o := _) (by kernel_rfl) rfl (fun K hK => ?_)
  go_simp
  refine hK.out _ _ ?_
  clear hK K
  refine wpAnyK_done (by kernel_rfl) ?_ _
  have hKn := KS.next hHeld.2.2.2.2 hx9 hG
  clear hHeld hx9 hb9 hx8 hb8 hK
  generalize ((w9.setCell ⟨g3, 0, none⟩ (.bool s9)).setCell ⟨g3, 1, none⟩ (.slice A9 n9 c9)) = w10 at *
  obtain ⟨q0, q1, q2, q3, _⟩ := KS.facts hKn
  obtain ⟨kn, hxn, hBn⟩ := hKn
  have tokU : True := trivial
  go_wp2_with (first
    | (go_at_call 13; (with_reducible refine ((unhide hWW) _ _ hxn).mono ?_); rintro e w11 ⟨du, rfl, hdu, hb11⟩; have hB11 := below_tr hBn hb11 hBn.size; have k11 := kn.below hb11; obtain ⟨t0, t1, t2, t3, _⟩ := blk_facts k11; have hx11 := hxn.below hb11)
    | (go_at_call 10; (with_reducible refine ((unhide hL3) _ _ hx11).mono ?_); rintro e w12 ⟨rfl, hb12⟩; have hB12 := below_tr hB11 hb12 hB11.size; have hdu12 := hdu.below hb12)
    | (go_at_call 17; (with_reducible refine ((unhide hUU) _ hB12).mono ?_); rintro e w13 ⟨gt, rfl, hgt, hb13⟩; have hB13 := below_tr hB12 hb13 hB12.size; have hdu13 := hdu12.below hb13)
    | (go_at_call 8; (with_reducible refine (same_any _ _ _ _ hgt hdu13).mono ?_); rintro e w14 ⟨rfl, hb14⟩; have hB14 := below_tr hB13 hb14 hB13.size))
  all_goals first | (go_ret; exact (unhide hP1) _ hB14) | (exfalso; simp at *; omega)
set_option maxRecDepth 100000 in
set_option maxHeartbeats 8000000 in
theorem lawS_11_ff_32 (w : World) (v : Value) (m : Int) (l : List Int) (h : RuS w v l) (hsz : l.length ≤ 2147483647) (p : Int) (hPr0 : ∀ W : World, Calls Try.prog 18 #[.int .i64 32] W fun e w' => e = .returned (.int .i64 p) ∧ Below W.heap.size W w') (hL : ∀ (W : World) (x : Value), Wd W x (sv l) → Calls Try.prog 10 #[.int .i64 32, x] W fun e w' => e = .returned (.bool false) ∧ Below W.heap.size W w') (hg : good 32 l = true) (hm0 : 0 ≤ m) (hm1 : m ≤ p) (hm9 : m ≤ 9) (T z : Int) (R : List Int) (hT : ∀ W : World, Calls Try.prog 20 #[.int .i64 m] W (PWide W T)) (hReg : ∀ (W : World) (x y : Value), Wd W x (sv l) → Wd W y T → Calls Try.prog 21 #[x, y, .int .i64 1] W (PWide W z)) (hWr : ∀ (W : World) (x : Value), Wd W x z → Calls Try.prog 13 #[.int .i64 32, x] W (PWB W false R)) :
    Calls Try.prog 5 #[.int .i64 32, v, .int .i64 m, .bool false, .bool true] w (POut w) := by
  have hD := hide (fun (W : World) (hb : Below w.heap.size w W) => decS_any W _ 32 l (h.below hb))
  unfold PDc at hD
  rw [hg] at hD
  have hP := hide (fun (w4 : World) (hb : Below w.heap.size w w4) o => pout_box hb o)
  have hP1 := hide (fun (w4 : World) (hb : Below w.heap.size w w4) => pout_mk hb)
  have tokA : True := trivial
  have hPr := hide hPr0
  clear hPr0
  have hLL := hide hL
  clear hL
  have tokL : True := trivial
  have hTT := hide hT
  have hRR := hide hReg
  have hWW := hide hWr
  clear hT hReg hWr
  obtain ⟨A, c, rfl, hc, _, _, hml⟩ := h
  unfold maxLen at hml
  generalize l.length = ln at *
  clear hg
  have hbig : ln ≤ 2147483647 := hsz
  clear hsz
  go_enter Try.func5, Try.ntmps5
  go_upto_region 11 with (first
    | (go_at_call 17; have _t := tokA; (with_reducible refine (sn_awake _ _ (by exact Blk.new _ _ rfl)).mono ?_); rintro e w1 ⟨m, rfl, hm, hb1⟩; have hB1 := below_tr ((Below.refl w.heap.size w).alloc (Nat.le_refl _) (.cells #[.int .u64 1] 27)) hb1 (by simp); clear tokA)
    | (go_at_call 8; (with_reducible refine (same_ten _ _ hm).mono ?_); rintro e w3 ⟨rfl, hb3⟩; have hB3 := below_tr hB1 hb3 hB1.size)
    | (go_at_call 9; (with_reducible refine ((unhide hD) _ hB3).mono ?_); rintro e w4 ⟨s, A4, n4, c4, rfl, hx, hb4⟩; have hB4 := below_tr hB3 hb4 hB3.size; have kb := Blk.new (w := w4) (g := w4.heap.size) 30 #[.bool s, .slice A4 n4 c4] rfl; obtain ⟨q0, q1, q2, q3, _⟩ := blk_facts kb; have hx5 := (hx (by first | rfl | trivial)).below ((Below.refl w4.heap.size w4).alloc (Nat.le_refl _) (.cells #[.bool s, .slice A4 n4 c4] 30)); have hB5 := hB4.alloc hB4.size (.cells #[.bool s, .slice A4 n4 c4] 30))
    | (go_at_call 18; (with_reducible refine ((unhide hPr) _).mono ?_); rintro e w6 ⟨rfl, hb6⟩; have hB6 := below_tr hB5 hb6 hB5.size; have k6 := kb.below hb6; obtain ⟨r0, r1, r2, r3, _⟩ := blk_facts k6; have hx6 := hx5.below hb6)
    | (go_at_call 10; have _t := tokL; (with_reducible refine ((unhide hLL) _ _ hx6).mono ?_); rintro e w7 ⟨rfl, hb7⟩; have hB7 := below_tr hB6 hb7 hB6.size; have k7 := k6.below hb7; obtain ⟨t0, t1, t2, t3, _⟩ := blk_facts k7; have hx7 := hx6.below hb7; clear tokL))
  have hK : KS w w4.heap.size s A4 n4 c4 (sv l) w7 := ⟨k7, hx7, hB7⟩
  have hG : w.heap.size ≤ w4.heap.size := hB4.size
  clear k7 hx7 hB7 hb7 t0 t1 t2 t3 hx6 k6 hb6 hB6 r0 r1 r2 r3 hx5 kb hB5 q0 q1 q2 q3 hx hb4 hB4 hb3 hB3 hm hb1 hB1
  generalize w4.heap.size = g3 at *
  refine wp_region_K (S := fun W => W.cell? ⟨g3, 0, none⟩ = some (.bool s) ∧ W.cell? ⟨g3, 1, none⟩ = some (.slice A4 n4 c4) ∧ W.frozen? ⟨g3, 0, none⟩ = false ∧ W.frozen? ⟨g3, 1, none⟩ = false ∧ KS w g3 s A4 n4 c4 (sv l) W) (k := 4) (by kernel_rfl) (by with_reducible exact KS.facts hK.drew) (fun hHeld => ?_)
  refine wpAnyK_take (i := 0) (oi := _) (v := ?_) rfl (by kernel_rfl) (by kernel_rfl) (by kernel_rfl) (by kernel_rfl) (fun _ _ _ h => h) (Or.inl ⟨by rfl, ?_⟩) (by assumption) ?_
  rotate_left
  · intro w hSw; (try dsimp only at hSw); go_simp; (try with_reducible rfl)
  try simp only [Act.put, List.setIfInBounds_toArray, List.set_cons_zero, List.set_cons_succ]
  refine wpAnyK_take (i := 1) (oi := _) (v := ?_) rfl (by kernel_rfl) (by kernel_rfl) (by kernel_rfl) (by kernel_rfl) (fun _ _ _ h => h) (Or.inl ⟨by rfl, ?_⟩) (by assumption) ?_
  rotate_left
  · intro w hSw; (try dsimp only at hSw); go_simp; (try with_reducible rfl)
  try simp only [Act.put, List.setIfInBounds_toArray, List.set_cons_zero, List.set_cons_succ]
  refine wpAnyK_one (i := 2) (o := _) (by kernel_rfl) rfl (fun K hK => ?_)
  go_simp
  ((go_at_call 20; (with_reducible refine ((unhide hTT) _).mono ?_); rintro e w8 ⟨x8, rfl, hx8, hb8⟩; obtain ⟨s8, A8, n8, c8, rfl⟩ := hx8.form); go_wp2_with fail)
  refine hK.out _ _ (by with_reducible exact KS.facts (KS.below hHeld.2.2.2.2 hb8)) (fun hHeld => ?_)
  clear hK K
  refine wpAnyK_one (i := 3) (o := _) (by kernel_rfl) rfl (fun K hK => ?_)
  go_simp
  ((go_at_call 21; (with_reducible refine ((unhide hRR) _ _ _ (KS.wd hHeld.2.2.2.2) hx8).mono ?_); rintro e w9 ⟨x9, rfl, hx9, hb9⟩; obtain ⟨s9, A9, n9, c9, rfl⟩ := hx9.form); go_wp2_with fail)
  refine hK.out _ _ (by with_reducible exact KS.facts (KS.below hHeld.2.2.2.2 hb9)) (fun hHeld => ?_)
  clear hK K
  refine wpAnyK_end (o := _) (by kernel_rfl) rfl (fun K hK => ?_)
  go_simp
  refine hK.out _ _ ?_
  clear hK K
  refine wpAnyK_done (by kernel_rfl) ?_ _
  have hKn := KS.next hHeld.2.2.2.2 hx9 hG
  clear hHeld hx9 hb9 hx8 hb8 hK
  generalize ((w9.setCell ⟨g3, 0, none⟩ (.bool s9)).setCell ⟨g3, 1, none⟩ (.slice A9 n9 c9)) = w10 at *
  obtain ⟨q0, q1, q2, q3, _⟩ := KS.facts hKn
  obtain ⟨kn, hxn, hBn⟩ := hKn
  have tokU : True := trivial
  go_wp2_with (first
    | (go_at_call 13; (with_reducible refine ((unhide hWW) _ _ hxn).mono ?_); rintro e w11 ⟨du, rfl, hdu, hb11⟩; have hB11 := below_tr hBn hb11 hBn.size; have k11 := kn.below hb11; obtain ⟨t0, t1, t2, t3, _⟩ := blk_facts k11; have hx11 := hxn.below hb11))
  all_goals first | (go_ret; exact (unhide hP1) _ hB11) | (exfalso; simp at *; omega)
set_option maxRecDepth 100000 in
set_option maxHeartbeats 8000000 in
theorem lawS_11_tt_32 (w : World) (v : Value) (m : Int) (l : List Int) (h : RuS w v l) (hsz : l.length ≤ 2147483647) (p : Int) (hPr0 : ∀ W : World, Calls Try.prog 18 #[.int .i64 32] W fun e w' => e = .returned (.int .i64 p) ∧ Below W.heap.size W w') (hL : ∀ (W : World) (x : Value), Wd W x (sv l) → Calls Try.prog 10 #[.int .i64 32, x] W fun e w' => e = .returned (.bool false) ∧ Below W.heap.size W w') (hg : good 32 l = true) (hm0 : 0 ≤ m) (hm1 : m ≤ p) (hm9 : m ≤ 9) (T z : Int) (R : List Int) (hT : ∀ W : World, Calls Try.prog 20 #[.int .i64 m] W (PWide W T)) (hReg : ∀ (W : World) (x y : Value), Wd W x (sv l) → Wd W y T → Calls Try.prog 21 #[x, y, .int .i64 1] W (PWide W z)) (hWr : ∀ (W : World) (x : Value), Wd W x z → Calls Try.prog 13 #[.int .i64 32, x] W (PWB W true R)) (hL2 : ∀ (W : World) (x : Value), Wd W x z → Calls Try.prog 10 #[.int .i64 32, x] W fun e w' => e = .returned (.bool true) ∧ Below W.heap.size W w') :
    Calls Try.prog 5 #[.int .i64 32, v, .int .i64 m, .bool false, .bool true] w (POut w) := by
  have hD := hide (fun (W : World) (hb : Below w.heap.size w W) => decS_any W _ 32 l (h.below hb))
  unfold PDc at hD
  rw [hg] at hD
  have hP := hide (fun (w4 : World) (hb : Below w.heap.size w w4) o => pout_box hb o)
  have hP1 := hide (fun (w4 : World) (hb : Below w.heap.size w w4) => pout_mk hb)
  have tokA : True := trivial
  have hPr := hide hPr0
  clear hPr0
  have hLL := hide hL
  clear hL
  have tokL : True := trivial
  have hTT := hide hT
  have hRR := hide hReg
  have hWW := hide hWr
  clear hT hReg hWr
  have hL3 := hide hL2
  clear hL2
  obtain ⟨A, c, rfl, hc, _, _, hml⟩ := h
  unfold maxLen at hml
  generalize l.length = ln at *
  clear hg
  have hbig : ln ≤ 2147483647 := hsz
  clear hsz
  go_enter Try.func5, Try.ntmps5
  go_upto_region 11 with (first
    | (go_at_call 17; have _t := tokA; (with_reducible refine (sn_awake _ _ (by exact Blk.new _ _ rfl)).mono ?_); rintro e w1 ⟨m, rfl, hm, hb1⟩; have hB1 := below_tr ((Below.refl w.heap.size w).alloc (Nat.le_refl _) (.cells #[.int .u64 1] 27)) hb1 (by simp); clear tokA)
    | (go_at_call 8; (with_reducible refine (same_ten _ _ hm).mono ?_); rintro e w3 ⟨rfl, hb3⟩; have hB3 := below_tr hB1 hb3 hB1.size)
    | (go_at_call 9; (with_reducible refine ((unhide hD) _ hB3).mono ?_); rintro e w4 ⟨s, A4, n4, c4, rfl, hx, hb4⟩; have hB4 := below_tr hB3 hb4 hB3.size; have kb := Blk.new (w := w4) (g := w4.heap.size) 30 #[.bool s, .slice A4 n4 c4] rfl; obtain ⟨q0, q1, q2, q3, _⟩ := blk_facts kb; have hx5 := (hx (by first | rfl | trivial)).below ((Below.refl w4.heap.size w4).alloc (Nat.le_refl _) (.cells #[.bool s, .slice A4 n4 c4] 30)); have hB5 := hB4.alloc hB4.size (.cells #[.bool s, .slice A4 n4 c4] 30))
    | (go_at_call 18; (with_reducible refine ((unhide hPr) _).mono ?_); rintro e w6 ⟨rfl, hb6⟩; have hB6 := below_tr hB5 hb6 hB5.size; have k6 := kb.below hb6; obtain ⟨r0, r1, r2, r3, _⟩ := blk_facts k6; have hx6 := hx5.below hb6)
    | (go_at_call 10; have _t := tokL; (with_reducible refine ((unhide hLL) _ _ hx6).mono ?_); rintro e w7 ⟨rfl, hb7⟩; have hB7 := below_tr hB6 hb7 hB6.size; have k7 := k6.below hb7; obtain ⟨t0, t1, t2, t3, _⟩ := blk_facts k7; have hx7 := hx6.below hb7; clear tokL))
  have hK : KS w w4.heap.size s A4 n4 c4 (sv l) w7 := ⟨k7, hx7, hB7⟩
  have hG : w.heap.size ≤ w4.heap.size := hB4.size
  clear k7 hx7 hB7 hb7 t0 t1 t2 t3 hx6 k6 hb6 hB6 r0 r1 r2 r3 hx5 kb hB5 q0 q1 q2 q3 hx hb4 hB4 hb3 hB3 hm hb1 hB1
  generalize w4.heap.size = g3 at *
  refine wp_region_K (S := fun W => W.cell? ⟨g3, 0, none⟩ = some (.bool s) ∧ W.cell? ⟨g3, 1, none⟩ = some (.slice A4 n4 c4) ∧ W.frozen? ⟨g3, 0, none⟩ = false ∧ W.frozen? ⟨g3, 1, none⟩ = false ∧ KS w g3 s A4 n4 c4 (sv l) W) (k := 4) (by kernel_rfl) (by with_reducible exact KS.facts hK.drew) (fun hHeld => ?_)
  refine wpAnyK_take (i := 0) (oi := _) (v := ?_) rfl (by kernel_rfl) (by kernel_rfl) (by kernel_rfl) (by kernel_rfl) (fun _ _ _ h => h) (Or.inl ⟨by rfl, ?_⟩) (by assumption) ?_
  rotate_left
  · intro w hSw; (try dsimp only at hSw); go_simp; (try with_reducible rfl)
  try simp only [Act.put, List.setIfInBounds_toArray, List.set_cons_zero, List.set_cons_succ]
  refine wpAnyK_take (i := 1) (oi := _) (v := ?_) rfl (by kernel_rfl) (by kernel_rfl) (by kernel_rfl) (by kernel_rfl) (fun _ _ _ h => h) (Or.inl ⟨by rfl, ?_⟩) (by assumption) ?_
  rotate_left
  · intro w hSw; (try dsimp only at hSw); go_simp; (try with_reducible rfl)
  try simp only [Act.put, List.setIfInBounds_toArray, List.set_cons_zero, List.set_cons_succ]
  refine wpAnyK_one (i := 2) (o := _) (by kernel_rfl) rfl (fun K hK => ?_)
  go_simp
  ((go_at_call 20; (with_reducible refine ((unhide hTT) _).mono ?_); rintro e w8 ⟨x8, rfl, hx8, hb8⟩; obtain ⟨s8, A8, n8, c8, rfl⟩ := hx8.form); go_wp2_with fail)
  refine hK.out _ _ (by with_reducible exact KS.facts (KS.below hHeld.2.2.2.2 hb8)) (fun hHeld => ?_)
  clear hK K
  refine wpAnyK_one (i := 3) (o := _) (by kernel_rfl) rfl (fun K hK => ?_)
  go_simp
  ((go_at_call 21; (with_reducible refine ((unhide hRR) _ _ _ (KS.wd hHeld.2.2.2.2) hx8).mono ?_); rintro e w9 ⟨x9, rfl, hx9, hb9⟩; obtain ⟨s9, A9, n9, c9, rfl⟩ := hx9.form); go_wp2_with fail)
  refine hK.out _ _ (by with_reducible exact KS.facts (KS.below hHeld.2.2.2.2 hb9)) (fun hHeld => ?_)
  clear hK K
  refine wpAnyK_end (o := _) (by kernel_rfl) rfl (fun K hK => ?_)
  go_simp
  refine hK.out _ _ ?_
  clear hK K
  refine wpAnyK_done (by kernel_rfl) ?_ _
  have hKn := KS.next hHeld.2.2.2.2 hx9 hG
  clear hHeld hx9 hb9 hx8 hb8 hK
  generalize ((w9.setCell ⟨g3, 0, none⟩ (.bool s9)).setCell ⟨g3, 1, none⟩ (.slice A9 n9 c9)) = w10 at *
  obtain ⟨q0, q1, q2, q3, _⟩ := KS.facts hKn
  obtain ⟨kn, hxn, hBn⟩ := hKn
  have tokU : True := trivial
  go_wp2_with (first
    | (go_at_call 13; (with_reducible refine ((unhide hWW) _ _ hxn).mono ?_); rintro e w11 ⟨du, rfl, hdu, hb11⟩; have hB11 := below_tr hBn hb11 hBn.size; have k11 := kn.below hb11; obtain ⟨t0, t1, t2, t3, _⟩ := blk_facts k11; have hx11 := hxn.below hb11)
    | (go_at_call 10; (with_reducible refine ((unhide hL3) _ _ hx11).mono ?_); rintro e w12 ⟨rfl, hb12⟩; have hB12 := below_tr hB11 hb12 hB11.size; have hdu12 := hdu.below hb12))
  all_goals first | (go_ret; exact (unhide hP1) _ hB12) | (exfalso; simp at *; omega)
set_option maxRecDepth 100000 in
set_option maxHeartbeats 8000000 in
theorem lawS_11_tf_32 (w : World) (v : Value) (m : Int) (l : List Int) (h : RuS w v l) (hsz : l.length ≤ 2147483647) (p : Int) (hPr0 : ∀ W : World, Calls Try.prog 18 #[.int .i64 32] W fun e w' => e = .returned (.int .i64 p) ∧ Below W.heap.size W w') (hL : ∀ (W : World) (x : Value), Wd W x (sv l) → Calls Try.prog 10 #[.int .i64 32, x] W fun e w' => e = .returned (.bool false) ∧ Below W.heap.size W w') (hg : good 32 l = true) (hm0 : 0 ≤ m) (hm1 : m ≤ p) (hm9 : m ≤ 9) (T z : Int) (R : List Int) (hT : ∀ W : World, Calls Try.prog 20 #[.int .i64 m] W (PWide W T)) (hReg : ∀ (W : World) (x y : Value), Wd W x (sv l) → Wd W y T → Calls Try.prog 21 #[x, y, .int .i64 1] W (PWide W z)) (hWr : ∀ (W : World) (x : Value), Wd W x z → Calls Try.prog 13 #[.int .i64 32, x] W (PWB W true R)) (hL2 : ∀ (W : World) (x : Value), Wd W x z → Calls Try.prog 10 #[.int .i64 32, x] W fun e w' => e = .returned (.bool false) ∧ Below W.heap.size W w') (hU : ∀ W : World, Below w.heap.size w W → Calls Try.prog 17 #[.int .i64 32, v, .int .i64 m, .bool false, .bool true] W (PUn W R)) :
    Calls Try.prog 5 #[.int .i64 32, v, .int .i64 m, .bool false, .bool true] w (POut w) := by
  have hD := hide (fun (W : World) (hb : Below w.heap.size w W) => decS_any W _ 32 l (h.below hb))
  unfold PDc at hD
  rw [hg] at hD
  have hP := hide (fun (w4 : World) (hb : Below w.heap.size w w4) o => pout_box hb o)
  have hP1 := hide (fun (w4 : World) (hb : Below w.heap.size w w4) => pout_mk hb)
  have tokA : True := trivial
  have hPr := hide hPr0
  clear hPr0
  have hLL := hide hL
  clear hL
  have tokL : True := trivial
  have hTT := hide hT
  have hRR := hide hReg
  have hWW := hide hWr
  clear hT hReg hWr
  have hL3 := hide hL2
  clear hL2
  have hUU := hide hU
  clear hU
  obtain ⟨A, c, rfl, hc, _, _, hml⟩ := h
  unfold maxLen at hml
  generalize l.length = ln at *
  clear hg
  have hbig : ln ≤ 2147483647 := hsz
  clear hsz
  go_enter Try.func5, Try.ntmps5
  go_upto_region 11 with (first
    | (go_at_call 17; have _t := tokA; (with_reducible refine (sn_awake _ _ (by exact Blk.new _ _ rfl)).mono ?_); rintro e w1 ⟨m, rfl, hm, hb1⟩; have hB1 := below_tr ((Below.refl w.heap.size w).alloc (Nat.le_refl _) (.cells #[.int .u64 1] 27)) hb1 (by simp); clear tokA)
    | (go_at_call 8; (with_reducible refine (same_ten _ _ hm).mono ?_); rintro e w3 ⟨rfl, hb3⟩; have hB3 := below_tr hB1 hb3 hB1.size)
    | (go_at_call 9; (with_reducible refine ((unhide hD) _ hB3).mono ?_); rintro e w4 ⟨s, A4, n4, c4, rfl, hx, hb4⟩; have hB4 := below_tr hB3 hb4 hB3.size; have kb := Blk.new (w := w4) (g := w4.heap.size) 30 #[.bool s, .slice A4 n4 c4] rfl; obtain ⟨q0, q1, q2, q3, _⟩ := blk_facts kb; have hx5 := (hx (by first | rfl | trivial)).below ((Below.refl w4.heap.size w4).alloc (Nat.le_refl _) (.cells #[.bool s, .slice A4 n4 c4] 30)); have hB5 := hB4.alloc hB4.size (.cells #[.bool s, .slice A4 n4 c4] 30))
    | (go_at_call 18; (with_reducible refine ((unhide hPr) _).mono ?_); rintro e w6 ⟨rfl, hb6⟩; have hB6 := below_tr hB5 hb6 hB5.size; have k6 := kb.below hb6; obtain ⟨r0, r1, r2, r3, _⟩ := blk_facts k6; have hx6 := hx5.below hb6)
    | (go_at_call 10; have _t := tokL; (with_reducible refine ((unhide hLL) _ _ hx6).mono ?_); rintro e w7 ⟨rfl, hb7⟩; have hB7 := below_tr hB6 hb7 hB6.size; have k7 := k6.below hb7; obtain ⟨t0, t1, t2, t3, _⟩ := blk_facts k7; have hx7 := hx6.below hb7; clear tokL))
  have hK : KS w w4.heap.size s A4 n4 c4 (sv l) w7 := ⟨k7, hx7, hB7⟩
  have hG : w.heap.size ≤ w4.heap.size := hB4.size
  clear k7 hx7 hB7 hb7 t0 t1 t2 t3 hx6 k6 hb6 hB6 r0 r1 r2 r3 hx5 kb hB5 q0 q1 q2 q3 hx hb4 hB4 hb3 hB3 hm hb1 hB1
  generalize w4.heap.size = g3 at *
  refine wp_region_K (S := fun W => W.cell? ⟨g3, 0, none⟩ = some (.bool s) ∧ W.cell? ⟨g3, 1, none⟩ = some (.slice A4 n4 c4) ∧ W.frozen? ⟨g3, 0, none⟩ = false ∧ W.frozen? ⟨g3, 1, none⟩ = false ∧ KS w g3 s A4 n4 c4 (sv l) W) (k := 4) (by kernel_rfl) (by with_reducible exact KS.facts hK.drew) (fun hHeld => ?_)
  refine wpAnyK_take (i := 0) (oi := _) (v := ?_) rfl (by kernel_rfl) (by kernel_rfl) (by kernel_rfl) (by kernel_rfl) (fun _ _ _ h => h) (Or.inl ⟨by rfl, ?_⟩) (by assumption) ?_
  rotate_left
  · intro w hSw; (try dsimp only at hSw); go_simp; (try with_reducible rfl)
  try simp only [Act.put, List.setIfInBounds_toArray, List.set_cons_zero, List.set_cons_succ]
  refine wpAnyK_take (i := 1) (oi := _) (v := ?_) rfl (by kernel_rfl) (by kernel_rfl) (by kernel_rfl) (by kernel_rfl) (fun _ _ _ h => h) (Or.inl ⟨by rfl, ?_⟩) (by assumption) ?_
  rotate_left
  · intro w hSw; (try dsimp only at hSw); go_simp; (try with_reducible rfl)
  try simp only [Act.put, List.setIfInBounds_toArray, List.set_cons_zero, List.set_cons_succ]
  refine wpAnyK_one (i := 2) (o := _) (by kernel_rfl) rfl (fun K hK => ?_)
  go_simp
  ((go_at_call 20; (with_reducible refine ((unhide hTT) _).mono ?_); rintro e w8 ⟨x8, rfl, hx8, hb8⟩; obtain ⟨s8, A8, n8, c8, rfl⟩ := hx8.form); go_wp2_with fail)
  refine hK.out _ _ (by with_reducible exact KS.facts (KS.below hHeld.2.2.2.2 hb8)) (fun hHeld => ?_)
  clear hK K
  refine wpAnyK_one (i := 3) (o := _) (by kernel_rfl) rfl (fun K hK => ?_)
  go_simp
  ((go_at_call 21; (with_reducible refine ((unhide hRR) _ _ _ (KS.wd hHeld.2.2.2.2) hx8).mono ?_); rintro e w9 ⟨x9, rfl, hx9, hb9⟩; obtain ⟨s9, A9, n9, c9, rfl⟩ := hx9.form); go_wp2_with fail)
  refine hK.out _ _ (by with_reducible exact KS.facts (KS.below hHeld.2.2.2.2 hb9)) (fun hHeld => ?_)
  clear hK K
  refine wpAnyK_end (o := _) (by kernel_rfl) rfl (fun K hK => ?_)
  go_simp
  refine hK.out _ _ ?_
  clear hK K
  refine wpAnyK_done (by kernel_rfl) ?_ _
  have hKn := KS.next hHeld.2.2.2.2 hx9 hG
  clear hHeld hx9 hb9 hx8 hb8 hK
  generalize ((w9.setCell ⟨g3, 0, none⟩ (.bool s9)).setCell ⟨g3, 1, none⟩ (.slice A9 n9 c9)) = w10 at *
  obtain ⟨q0, q1, q2, q3, _⟩ := KS.facts hKn
  obtain ⟨kn, hxn, hBn⟩ := hKn
  have tokU : True := trivial
  go_wp2_with (first
    | (go_at_call 13; (with_reducible refine ((unhide hWW) _ _ hxn).mono ?_); rintro e w11 ⟨du, rfl, hdu, hb11⟩; have hB11 := below_tr hBn hb11 hBn.size; have k11 := kn.below hb11; obtain ⟨t0, t1, t2, t3, _⟩ := blk_facts k11; have hx11 := hxn.below hb11)
    | (go_at_call 10; (with_reducible refine ((unhide hL3) _ _ hx11).mono ?_); rintro e w12 ⟨rfl, hb12⟩; have hB12 := below_tr hB11 hb12 hB11.size; have hdu12 := hdu.below hb12)
    | (go_at_call 17; (with_reducible refine ((unhide hUU) _ hB12).mono ?_); rintro e w13 ⟨gt, rfl, hgt, hb13⟩; have hB13 := below_tr hB12 hb13 hB12.size; have hdu13 := hdu12.below hb13)
    | (go_at_call 8; (with_reducible refine (same_any _ _ _ _ hgt hdu13).mono ?_); rintro e w14 ⟨rfl, hb14⟩; have hB14 := below_tr hB13 hb14 hB13.size))
  all_goals first | (go_ret; exact (unhide hP1) _ hB14) | (exfalso; simp at *; omega)
set_option maxRecDepth 100000 in
set_option maxHeartbeats 8000000 in
theorem lawS_12_ff_32 (w : World) (v : Value) (m : Int) (l : List Int) (h : RuS w v l) (hsz : l.length ≤ 2147483647) (p : Int) (hPr0 : ∀ W : World, Calls Try.prog 18 #[.int .i64 32] W fun e w' => e = .returned (.int .i64 p) ∧ Below W.heap.size W w') (hL : ∀ (W : World) (x : Value), Wd W x (sv l) → Calls Try.prog 10 #[.int .i64 32, x] W fun e w' => e = .returned (.bool false) ∧ Below W.heap.size W w') (hg : good 32 l = true) (hm0 : 0 ≤ m) (hm1 : m ≤ p) (hm9 : m ≤ 9) (T z : Int) (R : List Int) (hT : ∀ W : World, Calls Try.prog 20 #[.int .i64 m] W (PWide W T)) (hReg : ∀ (W : World) (x y : Value), Wd W x (sv l) → Wd W y T → Calls Try.prog 22 #[x, y] W (PDq W z)) (hWr : ∀ (W : World) (x : Value), Wd W x z → Calls Try.prog 13 #[.int .i64 32, x] W (PWB W false R)) :
    Calls Try.prog 5 #[.int .i64 32, v, .int .i64 m, .bool false, .bool false] w (POut w) := by
  have hD := hide (fun (W : World) (hb : Below w.heap.size w W) => decS_any W _ 32 l (h.below hb))
  unfold PDc at hD
  rw [hg] at hD
  have hP := hide (fun (w4 : World) (hb : Below w.heap.size w w4) o => pout_box hb o)
  have hP1 := hide (fun (w4 : World) (hb : Below w.heap.size w w4) => pout_mk hb)
  have tokA : True := trivial
  have hPr := hide hPr0
  clear hPr0
  have hLL := hide hL
  clear hL
  have tokL : True := trivial
  have hTT := hide hT
  have hRR := hide hReg
  have hWW := hide hWr
  clear hT hReg hWr
  obtain ⟨A, c, rfl, hc, _, _, hml⟩ := h
  unfold maxLen at hml
  generalize l.length = ln at *
  clear hg
  have hbig : ln ≤ 2147483647 := hsz
  clear hsz
  go_enter Try.func5, Try.ntmps5
  go_upto_region 12 with (first
    | (go_at_call 17; have _t := tokA; (with_reducible refine (sn_awake _ _ (by exact Blk.new _ _ rfl)).mono ?_); rintro e w1 ⟨m, rfl, hm, hb1⟩; have hB1 := below_tr ((Below.refl w.heap.size w).alloc (Nat.le_refl _) (.cells #[.int .u64 1] 27)) hb1 (by simp); clear tokA)
    | (go_at_call 8; (with_reducible refine (same_ten _ _ hm).mono ?_); rintro e w3 ⟨rfl, hb3⟩; have hB3 := below_tr hB1 hb3 hB1.size)
    | (go_at_call 9; (with_reducible refine ((unhide hD) _ hB3).mono ?_); rintro e w4 ⟨s, A4, n4, c4, rfl, hx, hb4⟩; have hB4 := below_tr hB3 hb4 hB3.size; have kb := Blk.new (w := w4) (g := w4.heap.size) 30 #[.bool s, .slice A4 n4 c4] rfl; obtain ⟨q0, q1, q2, q3, _⟩ := blk_facts kb; have hx5 := (hx (by first | rfl | trivial)).below ((Below.refl w4.heap.size w4).alloc (Nat.le_refl _) (.cells #[.bool s, .slice A4 n4 c4] 30)); have hB5 := hB4.alloc hB4.size (.cells #[.bool s, .slice A4 n4 c4] 30))
    | (go_at_call 18; (with_reducible refine ((unhide hPr) _).mono ?_); rintro e w6 ⟨rfl, hb6⟩; have hB6 := below_tr hB5 hb6 hB5.size; have k6 := kb.below hb6; obtain ⟨r0, r1, r2, r3, _⟩ := blk_facts k6; have hx6 := hx5.below hb6)
    | (go_at_call 10; have _t := tokL; (with_reducible refine ((unhide hLL) _ _ hx6).mono ?_); rintro e w7 ⟨rfl, hb7⟩; have hB7 := below_tr hB6 hb7 hB6.size; have k7 := k6.below hb7; obtain ⟨t0, t1, t2, t3, _⟩ := blk_facts k7; have hx7 := hx6.below hb7; clear tokL))
  have hK : KS w w4.heap.size s A4 n4 c4 (sv l) w7 := ⟨k7, hx7, hB7⟩
  have hG : w.heap.size ≤ w4.heap.size := hB4.size
  clear k7 hx7 hB7 hb7 t0 t1 t2 t3 hx6 k6 hb6 hB6 r0 r1 r2 r3 hx5 kb hB5 q0 q1 q2 q3 hx hb4 hB4 hb3 hB3 hm hb1 hB1
  generalize w4.heap.size = g3 at *
  refine wp_region_J (S := fun W => W.cell? ⟨g3, 0, none⟩ = some (.bool s) ∧ W.cell? ⟨g3, 1, none⟩ = some (.slice A4 n4 c4) ∧ W.frozen? ⟨g3, 0, none⟩ = false ∧ W.frozen? ⟨g3, 1, none⟩ = false ∧ KS w g3 s A4 n4 c4 (sv l) W) (k := 7) (by kernel_rfl) (by with_reducible exact KS.facts hK.drew) (fun hHeld => ?_)
  refine wpAnyJ_take (i := 0) (oi := _) (v := ?_) rfl (by kernel_rfl) (by kernel_rfl) (by kernel_rfl) (by kernel_rfl) (by kernel_rfl) (fun _ _ _ h => h) (Or.inl ⟨by rfl, ?_⟩) (by assumption) ?_
  rotate_left
  · intro w hSw; (try dsimp only at hSw); go_simp; (try with_reducible rfl)
  try simp only [Act.put, List.setIfInBounds_toArray, List.set_cons_zero, List.set_cons_succ]
  refine wpAnyJ_take (i := 1) (oi := _) (v := ?_) rfl (by kernel_rfl) (by kernel_rfl) (by kernel_rfl) (by kernel_rfl) (by kernel_rfl) (fun _ _ _ h => h) (Or.inl ⟨by rfl, ?_⟩) (by assumption) ?_
  rotate_left
  · intro w hSw; (try dsimp only at hSw); go_simp; (try with_reducible rfl)
  try simp only [Act.put, List.setIfInBounds_toArray, List.set_cons_zero, List.set_cons_succ]
  refine wpAnyJ_one (i := 2) (o := _) (by kernel_rfl) rfl (fun K hK => ?_)
  go_simp
  ((go_at_call 20; (with_reducible refine ((unhide hTT) _).mono ?_); rintro e w8 ⟨x8, rfl, hx8, hb8⟩; obtain ⟨s8, A8, n8, c8, rfl⟩ := hx8.form); go_wp2_with fail)
  refine hK.out _ _ (by with_reducible exact KS.facts (KS.below hHeld.2.2.2.2 hb8)) (fun hHeld => ?_)
  clear hK K
  refine wpAnyJ_one (i := 3) (o := _) (by kernel_rfl) rfl (fun K hK => ?_)
  go_simp
  ((go_at_call 22; (with_reducible refine ((unhide hRR) _ _ _ (KS.wd hHeld.2.2.2.2) hx8).mono ?_); rintro e w9 ⟨x9, y9, rfl, hx9, ⟨r9, hy9⟩, hb9⟩; obtain ⟨s9, A9, n9, c9, rfl⟩ := hx9.form; obtain ⟨t9, B9, m9, d9, rfl⟩ := hy9.form; clear hy9); go_wp2_with fail)
  refine hK.out _ _ (by with_reducible exact KS.facts (KS.below hHeld.2.2.2.2 hb9)) (fun hHeld => ?_)
  clear hK K
  refine wpAnyJ_take (i := 4) (oi := _) (v := ?_) rfl (by kernel_rfl) (by kernel_rfl) (by kernel_rfl) (by kernel_rfl) (by kernel_rfl) (fun _ _ _ h => h) (Or.inl ⟨by rfl, ?_⟩) (by assumption) ?_
  rotate_left
  · intro w hSw; (try dsimp only at hSw); go_simp; (try with_reducible rfl)
  try simp only [Act.put, List.setIfInBounds_toArray, List.set_cons_zero, List.set_cons_succ]
  refine wpAnyJ_take (i := 5) (oi := _) (v := ?_) rfl (by kernel_rfl) (by kernel_rfl) (by kernel_rfl) (by kernel_rfl) (by kernel_rfl) (fun _ _ _ h => h) (Or.inl ⟨by rfl, ?_⟩) (by assumption) ?_
  rotate_left
  · intro w hSw; (try dsimp only at hSw); go_simp; (try with_reducible rfl)
  try simp only [Act.put, List.setIfInBounds_toArray, List.set_cons_zero, List.set_cons_succ]
  refine wpAnyJ_loose (i := 6) (oi := _) (v := ?_) rfl (by kernel_rfl) (by kernel_rfl) (by kernel_rfl) (by decide) (fun _ _ _ h => h) (Or.inl ⟨by rfl, ?_⟩) (by assumption) ?_
  rotate_left
  · intro w hSw; (try dsimp only at hSw); go_simp; (try with_reducible rfl)
  try simp only [Act.put, List.setIfInBounds_toArray, List.set_cons_zero, List.set_cons_succ]
  refine wpAnyJ_end (o := _) (by kernel_rfl) (by kernel_rfl) rfl (fun K hK => ?_)
  go_simp
  refine hK.out _ _ ?_
  clear hK K
  refine wpAnyJ_done (by kernel_rfl) ?_ _
  have hKn := KS.next hHeld.2.2.2.2 hx9 hG
  clear hHeld hx9 hb9 hx8 hb8 hK
  generalize ((w9.setCell ⟨g3, 0, none⟩ (.bool s9)).setCell ⟨g3, 1, none⟩ (.slice A9 n9 c9)) = w10 at *
  obtain ⟨q0, q1, q2, q3, _⟩ := KS.facts hKn
  obtain ⟨kn, hxn, hBn⟩ := hKn
  have tokU : True := trivial
  go_wp2_with (first
    | (go_at_call 13; (with_reducible refine ((unhide hWW) _ _ hxn).mono ?_); rintro e w11 ⟨du, rfl, hdu, hb11⟩; have hB11 := below_tr hBn hb11 hBn.size; have k11 := kn.below hb11; obtain ⟨t0, t1, t2, t3, _⟩ := blk_facts k11; have hx11 := hxn.below hb11))
  all_goals first | (go_ret; exact (unhide hP1) _ hB11) | (exfalso; simp at *; omega)
set_option maxRecDepth 100000 in
set_option maxHeartbeats 8000000 in
theorem lawS_12_tt_32 (w : World) (v : Value) (m : Int) (l : List Int) (h : RuS w v l) (hsz : l.length ≤ 2147483647) (p : Int) (hPr0 : ∀ W : World, Calls Try.prog 18 #[.int .i64 32] W fun e w' => e = .returned (.int .i64 p) ∧ Below W.heap.size W w') (hL : ∀ (W : World) (x : Value), Wd W x (sv l) → Calls Try.prog 10 #[.int .i64 32, x] W fun e w' => e = .returned (.bool false) ∧ Below W.heap.size W w') (hg : good 32 l = true) (hm0 : 0 ≤ m) (hm1 : m ≤ p) (hm9 : m ≤ 9) (T z : Int) (R : List Int) (hT : ∀ W : World, Calls Try.prog 20 #[.int .i64 m] W (PWide W T)) (hReg : ∀ (W : World) (x y : Value), Wd W x (sv l) → Wd W y T → Calls Try.prog 22 #[x, y] W (PDq W z)) (hWr : ∀ (W : World) (x : Value), Wd W x z → Calls Try.prog 13 #[.int .i64 32, x] W (PWB W true R)) (hL2 : ∀ (W : World) (x : Value), Wd W x z → Calls Try.prog 10 #[.int .i64 32, x] W fun e w' => e = .returned (.bool true) ∧ Below W.heap.size W w') :
    Calls Try.prog 5 #[.int .i64 32, v, .int .i64 m, .bool false, .bool false] w (POut w) := by
  have hD := hide (fun (W : World) (hb : Below w.heap.size w W) => decS_any W _ 32 l (h.below hb))
  unfold PDc at hD
  rw [hg] at hD
  have hP := hide (fun (w4 : World) (hb : Below w.heap.size w w4) o => pout_box hb o)
  have hP1 := hide (fun (w4 : World) (hb : Below w.heap.size w w4) => pout_mk hb)
  have tokA : True := trivial
  have hPr := hide hPr0
  clear hPr0
  have hLL := hide hL
  clear hL
  have tokL : True := trivial
  have hTT := hide hT
  have hRR := hide hReg
  have hWW := hide hWr
  clear hT hReg hWr
  have hL3 := hide hL2
  clear hL2
  obtain ⟨A, c, rfl, hc, _, _, hml⟩ := h
  unfold maxLen at hml
  generalize l.length = ln at *
  clear hg
  have hbig : ln ≤ 2147483647 := hsz
  clear hsz
  go_enter Try.func5, Try.ntmps5
  go_upto_region 12 with (first
    | (go_at_call 17; have _t := tokA; (with_reducible refine (sn_awake _ _ (by exact Blk.new _ _ rfl)).mono ?_); rintro e w1 ⟨m, rfl, hm, hb1⟩; have hB1 := below_tr ((Below.refl w.heap.size w).alloc (Nat.le_refl _) (.cells #[.int .u64 1] 27)) hb1 (by simp); clear tokA)
    | (go_at_call 8; (with_reducible refine (same_ten _ _ hm).mono ?_); rintro e w3 ⟨rfl, hb3⟩; have hB3 := below_tr hB1 hb3 hB1.size)
    | (go_at_call 9; (with_reducible refine ((unhide hD) _ hB3).mono ?_); rintro e w4 ⟨s, A4, n4, c4, rfl, hx, hb4⟩; have hB4 := below_tr hB3 hb4 hB3.size; have kb := Blk.new (w := w4) (g := w4.heap.size) 30 #[.bool s, .slice A4 n4 c4] rfl; obtain ⟨q0, q1, q2, q3, _⟩ := blk_facts kb; have hx5 := (hx (by first | rfl | trivial)).below ((Below.refl w4.heap.size w4).alloc (Nat.le_refl _) (.cells #[.bool s, .slice A4 n4 c4] 30)); have hB5 := hB4.alloc hB4.size (.cells #[.bool s, .slice A4 n4 c4] 30))
    | (go_at_call 18; (with_reducible refine ((unhide hPr) _).mono ?_); rintro e w6 ⟨rfl, hb6⟩; have hB6 := below_tr hB5 hb6 hB5.size; have k6 := kb.below hb6; obtain ⟨r0, r1, r2, r3, _⟩ := blk_facts k6; have hx6 := hx5.below hb6)
    | (go_at_call 10; have _t := tokL; (with_reducible refine ((unhide hLL) _ _ hx6).mono ?_); rintro e w7 ⟨rfl, hb7⟩; have hB7 := below_tr hB6 hb7 hB6.size; have k7 := k6.below hb7; obtain ⟨t0, t1, t2, t3, _⟩ := blk_facts k7; have hx7 := hx6.below hb7; clear tokL))
  have hK : KS w w4.heap.size s A4 n4 c4 (sv l) w7 := ⟨k7, hx7, hB7⟩
  have hG : w.heap.size ≤ w4.heap.size := hB4.size
  clear k7 hx7 hB7 hb7 t0 t1 t2 t3 hx6 k6 hb6 hB6 r0 r1 r2 r3 hx5 kb hB5 q0 q1 q2 q3 hx hb4 hB4 hb3 hB3 hm hb1 hB1
  generalize w4.heap.size = g3 at *
  refine wp_region_J (S := fun W => W.cell? ⟨g3, 0, none⟩ = some (.bool s) ∧ W.cell? ⟨g3, 1, none⟩ = some (.slice A4 n4 c4) ∧ W.frozen? ⟨g3, 0, none⟩ = false ∧ W.frozen? ⟨g3, 1, none⟩ = false ∧ KS w g3 s A4 n4 c4 (sv l) W) (k := 7) (by kernel_rfl) (by with_reducible exact KS.facts hK.drew) (fun hHeld => ?_)
  refine wpAnyJ_take (i := 0) (oi := _) (v := ?_) rfl (by kernel_rfl) (by kernel_rfl) (by kernel_rfl) (by kernel_rfl) (by kernel_rfl) (fun _ _ _ h => h) (Or.inl ⟨by rfl, ?_⟩) (by assumption) ?_
  rotate_left
  · intro w hSw; (try dsimp only at hSw); go_simp; (try with_reducible rfl)
  try simp only [Act.put, List.setIfInBounds_toArray, List.set_cons_zero, List.set_cons_succ]
  refine wpAnyJ_take (i := 1) (oi := _) (v := ?_) rfl (by kernel_rfl) (by kernel_rfl) (by kernel_rfl) (by kernel_rfl) (by kernel_rfl) (fun _ _ _ h => h) (Or.inl ⟨by rfl, ?_⟩) (by assumption) ?_
  rotate_left
  · intro w hSw; (try dsimp only at hSw); go_simp; (try with_reducible rfl)
  try simp only [Act.put, List.setIfInBounds_toArray, List.set_cons_zero, List.set_cons_succ]
  refine wpAnyJ_one (i := 2) (o := _) (by kernel_rfl) rfl (fun K hK => ?_)
  go_simp
  ((go_at_call 20; (with_reducible refine ((unhide hTT) _).mono ?_); rintro e w8 ⟨x8, rfl, hx8, hb8⟩; obtain ⟨s8, A8, n8, c8, rfl⟩ := hx8.form); go_wp2_with fail)
  refine hK.out _ _ (by with_reducible exact KS.facts (KS.below hHeld.2.2.2.2 hb8)) (fun hHeld => ?_)
  clear hK K
  refine wpAnyJ_one (i := 3) (o := _) (by kernel_rfl) rfl (fun K hK => ?_)
  go_simp
  ((go_at_call 22; (with_reducible refine ((unhide hRR) _ _ _ (KS.wd hHeld.2.2.2.2) hx8).mono ?_); rintro e w9 ⟨x9, y9, rfl, hx9, ⟨r9, hy9⟩, hb9⟩; obtain ⟨s9, A9, n9, c9, rfl⟩ := hx9.form; obtain ⟨t9, B9, m9, d9, rfl⟩ := hy9.form; clear hy9); go_wp2_with fail)
  refine hK.out _ _ (by with_reducible exact KS.facts (KS.below hHeld.2.2.2.2 hb9)) (fun hHeld => ?_)
  clear hK K
  refine wpAnyJ_take (i := 4) (oi := _) (v := ?_) rfl (by kernel_rfl) (by kernel_rfl) (by kernel_rfl) (by kernel_rfl) (by kernel_rfl) (fun _ _ _ h => h) (Or.inl ⟨by rfl, ?_⟩) (by assumption) ?_
  rotate_left
  · intro w hSw; (try dsimp only at hSw); go_simp; (try with_reducible rfl)
  try simp only [Act.put, List.setIfInBounds_toArray, List.set_cons_zero, List.set_cons_succ]
  refine wpAnyJ_take (i := 5) (oi := _) (v := ?_) rfl (by kernel_rfl) (by kernel_rfl) (by kernel_rfl) (by kernel_rfl) (by kernel_rfl) (fun _ _ _ h => h) (Or.inl ⟨by rfl, ?_⟩) (by assumption) ?_
  rotate_left
  · intro w hSw; (try dsimp only at hSw); go_simp; (try with_reducible rfl)
  try simp only [Act.put, List.setIfInBounds_toArray, List.set_cons_zero, List.set_cons_succ]
  refine wpAnyJ_loose (i := 6) (oi := _) (v := ?_) rfl (by kernel_rfl) (by kernel_rfl) (by kernel_rfl) (by decide) (fun _ _ _ h => h) (Or.inl ⟨by rfl, ?_⟩) (by assumption) ?_
  rotate_left
  · intro w hSw; (try dsimp only at hSw); go_simp; (try with_reducible rfl)
  try simp only [Act.put, List.setIfInBounds_toArray, List.set_cons_zero, List.set_cons_succ]
  refine wpAnyJ_end (o := _) (by kernel_rfl) (by kernel_rfl) rfl (fun K hK => ?_)
  go_simp
  refine hK.out _ _ ?_
  clear hK K
  refine wpAnyJ_done (by kernel_rfl) ?_ _
  have hKn := KS.next hHeld.2.2.2.2 hx9 hG
  clear hHeld hx9 hb9 hx8 hb8 hK
  generalize ((w9.setCell ⟨g3, 0, none⟩ (.bool s9)).setCell ⟨g3, 1, none⟩ (.slice A9 n9 c9)) = w10 at *
  obtain ⟨q0, q1, q2, q3, _⟩ := KS.facts hKn
  obtain ⟨kn, hxn, hBn⟩ := hKn
  have tokU : True := trivial
  go_wp2_with (first
    | (go_at_call 13; (with_reducible refine ((unhide hWW) _ _ hxn).mono ?_); rintro e w11 ⟨du, rfl, hdu, hb11⟩; have hB11 := below_tr hBn hb11 hBn.size; have k11 := kn.below hb11; obtain ⟨t0, t1, t2, t3, _⟩ := blk_facts k11; have hx11 := hxn.below hb11)
    | (go_at_call 10; (with_reducible refine ((unhide hL3) _ _ hx11).mono ?_); rintro e w12 ⟨rfl, hb12⟩; have hB12 := below_tr hB11 hb12 hB11.size; have hdu12 := hdu.below hb12))
  all_goals first | (go_ret; exact (unhide hP1) _ hB12) | (exfalso; simp at *; omega)
set_option maxRecDepth 100000 in
set_option maxHeartbeats 8000000 in
theorem lawS_12_tf_32 (w : World) (v : Value) (m : Int) (l : List Int) (h : RuS w v l) (hsz : l.length ≤ 2147483647) (p : Int) (hPr0 : ∀ W : World, Calls Try.prog 18 #[.int .i64 32] W fun e w' => e = .returned (.int .i64 p) ∧ Below W.heap.size W w') (hL : ∀ (W : World) (x : Value), Wd W x (sv l) → Calls Try.prog 10 #[.int .i64 32, x] W fun e w' => e = .returned (.bool false) ∧ Below W.heap.size W w') (hg : good 32 l = true) (hm0 : 0 ≤ m) (hm1 : m ≤ p) (hm9 : m ≤ 9) (T z : Int) (R : List Int) (hT : ∀ W : World, Calls Try.prog 20 #[.int .i64 m] W (PWide W T)) (hReg : ∀ (W : World) (x y : Value), Wd W x (sv l) → Wd W y T → Calls Try.prog 22 #[x, y] W (PDq W z)) (hWr : ∀ (W : World) (x : Value), Wd W x z → Calls Try.prog 13 #[.int .i64 32, x] W (PWB W true R)) (hL2 : ∀ (W : World) (x : Value), Wd W x z → Calls Try.prog 10 #[.int .i64 32, x] W fun e w' => e = .returned (.bool false) ∧ Below W.heap.size W w') (hU : ∀ W : World, Below w.heap.size w W → Calls Try.prog 17 #[.int .i64 32, v, .int .i64 m, .bool false, .bool false] W (PUn W R)) :
    Calls Try.prog 5 #[.int .i64 32, v, .int .i64 m, .bool false, .bool false] w (POut w) := by
  have hD := hide (fun (W : World) (hb : Below w.heap.size w W) => decS_any W _ 32 l (h.below hb))
  unfold PDc at hD
  rw [hg] at hD
  have hP := hide (fun (w4 : World) (hb : Below w.heap.size w w4) o => pout_box hb o)
  have hP1 := hide (fun (w4 : World) (hb : Below w.heap.size w w4) => pout_mk hb)
  have tokA : True := trivial
  have hPr := hide hPr0
  clear hPr0
  have hLL := hide hL
  clear hL
  have tokL : True := trivial
  have hTT := hide hT
  have hRR := hide hReg
  have hWW := hide hWr
  clear hT hReg hWr
  have hL3 := hide hL2
  clear hL2
  have hUU := hide hU
  clear hU
  obtain ⟨A, c, rfl, hc, _, _, hml⟩ := h
  unfold maxLen at hml
  generalize l.length = ln at *
  clear hg
  have hbig : ln ≤ 2147483647 := hsz
  clear hsz
  go_enter Try.func5, Try.ntmps5
  go_upto_region 12 with (first
    | (go_at_call 17; have _t := tokA; (with_reducible refine (sn_awake _ _ (by exact Blk.new _ _ rfl)).mono ?_); rintro e w1 ⟨m, rfl, hm, hb1⟩; have hB1 := below_tr ((Below.refl w.heap.size w).alloc (Nat.le_refl _) (.cells #[.int .u64 1] 27)) hb1 (by simp); clear tokA)
    | (go_at_call 8; (with_reducible refine (same_ten _ _ hm).mono ?_); rintro e w3 ⟨rfl, hb3⟩; have hB3 := below_tr hB1 hb3 hB1.size)
    | (go_at_call 9; (with_reducible refine ((unhide hD) _ hB3).mono ?_); rintro e w4 ⟨s, A4, n4, c4, rfl, hx, hb4⟩; have hB4 := below_tr hB3 hb4 hB3.size; have kb := Blk.new (w := w4) (g := w4.heap.size) 30 #[.bool s, .slice A4 n4 c4] rfl; obtain ⟨q0, q1, q2, q3, _⟩ := blk_facts kb; have hx5 := (hx (by first | rfl | trivial)).below ((Below.refl w4.heap.size w4).alloc (Nat.le_refl _) (.cells #[.bool s, .slice A4 n4 c4] 30)); have hB5 := hB4.alloc hB4.size (.cells #[.bool s, .slice A4 n4 c4] 30))
    | (go_at_call 18; (with_reducible refine ((unhide hPr) _).mono ?_); rintro e w6 ⟨rfl, hb6⟩; have hB6 := below_tr hB5 hb6 hB5.size; have k6 := kb.below hb6; obtain ⟨r0, r1, r2, r3, _⟩ := blk_facts k6; have hx6 := hx5.below hb6)
    | (go_at_call 10; have _t := tokL; (with_reducible refine ((unhide hLL) _ _ hx6).mono ?_); rintro e w7 ⟨rfl, hb7⟩; have hB7 := below_tr hB6 hb7 hB6.size; have k7 := k6.below hb7; obtain ⟨t0, t1, t2, t3, _⟩ := blk_facts k7; have hx7 := hx6.below hb7; clear tokL))
  have hK : KS w w4.heap.size s A4 n4 c4 (sv l) w7 := ⟨k7, hx7, hB7⟩
  have hG : w.heap.size ≤ w4.heap.size := hB4.size
  clear k7 hx7 hB7 hb7 t0 t1 t2 t3 hx6 k6 hb6 hB6 r0 r1 r2 r3 hx5 kb hB5 q0 q1 q2 q3 hx hb4 hB4 hb3 hB3 hm hb1 hB1
  generalize w4.heap.size = g3 at *
  refine wp_region_J (S := fun W => W.cell? ⟨g3, 0, none⟩ = some (.bool s) ∧ W.cell? ⟨g3, 1, none⟩ = some (.slice A4 n4 c4) ∧ W.frozen? ⟨g3, 0, none⟩ = false ∧ W.frozen? ⟨g3, 1, none⟩ = false ∧ KS w g3 s A4 n4 c4 (sv l) W) (k := 7) (by kernel_rfl) (by with_reducible exact KS.facts hK.drew) (fun hHeld => ?_)
  refine wpAnyJ_take (i := 0) (oi := _) (v := ?_) rfl (by kernel_rfl) (by kernel_rfl) (by kernel_rfl) (by kernel_rfl) (by kernel_rfl) (fun _ _ _ h => h) (Or.inl ⟨by rfl, ?_⟩) (by assumption) ?_
  rotate_left
  · intro w hSw; (try dsimp only at hSw); go_simp; (try with_reducible rfl)
  try simp only [Act.put, List.setIfInBounds_toArray, List.set_cons_zero, List.set_cons_succ]
  refine wpAnyJ_take (i := 1) (oi := _) (v := ?_) rfl (by kernel_rfl) (by kernel_rfl) (by kernel_rfl) (by kernel_rfl) (by kernel_rfl) (fun _ _ _ h => h) (Or.inl ⟨by rfl, ?_⟩) (by assumption) ?_
  rotate_left
  · intro w hSw; (try dsimp only at hSw); go_simp; (try with_reducible rfl)
  try simp only [Act.put, List.setIfInBounds_toArray, List.set_cons_zero, List.set_cons_succ]
  refine wpAnyJ_one (i := 2) (o := _) (by kernel_rfl) rfl (fun K hK => ?_)
  go_simp
  ((go_at_call 20; (with_reducible refine ((unhide hTT) _).mono ?_); rintro e w8 ⟨x8, rfl, hx8, hb8⟩; obtain ⟨s8, A8, n8, c8, rfl⟩ := hx8.form); go_wp2_with fail)
  refine hK.out _ _ (by with_reducible exact KS.facts (KS.below hHeld.2.2.2.2 hb8)) (fun hHeld => ?_)
  clear hK K
  refine wpAnyJ_one (i := 3) (o := _) (by kernel_rfl) rfl (fun K hK => ?_)
  go_simp
  ((go_at_call 22; (with_reducible refine ((unhide hRR) _ _ _ (KS.wd hHeld.2.2.2.2) hx8).mono ?_); rintro e w9 ⟨x9, y9, rfl, hx9, ⟨r9, hy9⟩, hb9⟩; obtain ⟨s9, A9, n9, c9, rfl⟩ := hx9.form; obtain ⟨t9, B9, m9, d9, rfl⟩ := hy9.form; clear hy9); go_wp2_with fail)
  refine hK.out _ _ (by with_reducible exact KS.facts (KS.below hHeld.2.2.2.2 hb9)) (fun hHeld => ?_)
  clear hK K
  refine wpAnyJ_take (i := 4) (oi := _) (v := ?_) rfl (by kernel_rfl) (by kernel_rfl) (by kernel_rfl) (by kernel_rfl) (by kernel_rfl) (fun _ _ _ h => h) (Or.inl ⟨by rfl, ?_⟩) (by assumption) ?_
  rotate_left
  · intro w hSw; (try dsimp only at hSw); go_simp; (try with_reducible rfl)
  try simp only [Act.put, List.setIfInBounds_toArray, List.set_cons_zero, List.set_cons_succ]
  refine wpAnyJ_take (i := 5) (oi := _) (v := ?_) rfl (by kernel_rfl) (by kernel_rfl) (by kernel_rfl) (by kernel_rfl) (by kernel_rfl) (fun _ _ _ h => h) (Or.inl ⟨by rfl, ?_⟩) (by assumption) ?_
  rotate_left
  · intro w hSw; (try dsimp only at hSw); go_simp; (try with_reducible rfl)
  try simp only [Act.put, List.setIfInBounds_toArray, List.set_cons_zero, List.set_cons_succ]
  refine wpAnyJ_loose (i := 6) (oi := _) (v := ?_) rfl (by kernel_rfl) (by kernel_rfl) (by kernel_rfl) (by decide) (fun _ _ _ h => h) (Or.inl ⟨by rfl, ?_⟩) (by assumption) ?_
  rotate_left
  · intro w hSw; (try dsimp only at hSw); go_simp; (try with_reducible rfl)
  try simp only [Act.put, List.setIfInBounds_toArray, List.set_cons_zero, List.set_cons_succ]
  refine wpAnyJ_end (o := _) (by kernel_rfl) (by kernel_rfl) rfl (fun K hK => ?_)
  go_simp
  refine hK.out _ _ ?_
  clear hK K
  refine wpAnyJ_done (by kernel_rfl) ?_ _
  have hKn := KS.next hHeld.2.2.2.2 hx9 hG
  clear hHeld hx9 hb9 hx8 hb8 hK
  generalize ((w9.setCell ⟨g3, 0, none⟩ (.bool s9)).setCell ⟨g3, 1, none⟩ (.slice A9 n9 c9)) = w10 at *
  obtain ⟨q0, q1, q2, q3, _⟩ := KS.facts hKn
  obtain ⟨kn, hxn, hBn⟩ := hKn
  have tokU : True := trivial
  go_wp2_with (first
    | (go_at_call 13; (with_reducible refine ((unhide hWW) _ _ hxn).mono ?_); rintro e w11 ⟨du, rfl, hdu, hb11⟩; have hB11 := below_tr hBn hb11 hBn.size; have k11 := kn.below hb11; obtain ⟨t0, t1, t2, t3, _⟩ := blk_facts k11; have hx11 := hxn.below hb11)
    | (go_at_call 10; (with_reducible refine ((unhide hL3) _ _ hx11).mono ?_); rintro e w12 ⟨rfl, hb12⟩; have hB12 := below_tr hB11 hb12 hB11.size; have hdu12 := hdu.below hb12)
    | (go_at_call 17; (with_reducible refine ((unhide hUU) _ hB12).mono ?_); rintro e w13 ⟨gt, rfl, hgt, hb13⟩; have hB13 := below_tr hB12 hb13 hB12.size; have hdu13 := hdu12.below hb13)
    | (go_at_call 8; (with_reducible refine (same_any _ _ _ _ hgt hdu13).mono ?_); rintro e w14 ⟨rfl, hb14⟩; have hB14 := below_tr hB13 hb14 hB13.size))
  all_goals first | (go_ret; exact (unhide hP1) _ hB14) | (exfalso; simp at *; omega)
set_option maxRecDepth 100000 in
set_option maxHeartbeats 8000000 in
theorem lawS_9_ff_64 (w : World) (v : Value) (m : Int) (r : Bool) (l : List Int) (h : RuS w v l) (hsz : l.length ≤ 2147483647) (p : Int) (hPr0 : ∀ W : World, Calls Try.prog 18 #[.int .i64 64] W fun e w' => e = .returned (.int .i64 p) ∧ Below W.heap.size W w') (hL : ∀ (W : World) (x : Value), Wd W x (sv l) → Calls Try.prog 10 #[.int .i64 64, x] W fun e w' => e = .returned (.bool false) ∧ Below W.heap.size W w') (hg : good 64 l = true) (hm0 : 0 ≤ m) (hm1 : m ≤ p) (T z : Int) (R : List Int) (hT : ∀ W : World, Calls Try.prog 20 #[.int .i64 m] W (PWide W T)) (hReg : ∀ (W : World) (x y : Value), Wd W x (sv l) → Wd W y T → Calls Try.prog 19 #[x, y] W (PWide W z)) (hWr : ∀ (W : World) (x : Value), Wd W x z → Calls Try.prog 13 #[.int .i64 64, x] W (PWB W false R)) :
    Calls Try.prog 5 #[.int .i64 64, v, .int .i64 m, .bool true, .bool r] w (POut w) := by
  have hD := hide (fun (W : World) (hb : Below w.heap.size w W) => decS_any W _ 64 l (h.below hb))
  unfold PDc at hD
  rw [hg] at hD
  have hP := hide (fun (w4 : World) (hb : Below w.heap.size w w4) o => pout_box hb o)
  have hP1 := hide (fun (w4 : World) (hb : Below w.heap.size w w4) => pout_mk hb)
  have tokA : True := trivial
  have hPr := hide hPr0
  clear hPr0
  have hLL := hide hL
  clear hL
  have tokL : True := trivial
  have hTT := hide hT
  have hRR := hide hReg
  have hWW := hide hWr
  clear hT hReg hWr
  obtain ⟨A, c, rfl, hc, _, _, hml⟩ := h
  unfold maxLen at hml
  generalize l.length = ln at *
  clear hg
  have hbig : ln ≤ 2147483647 := hsz
  clear hsz
  go_enter Try.func5, Try.ntmps5
  go_upto_region 9 with (first
    | (go_at_call 17; have _t := tokA; (with_reducible refine (sn_awake _ _ (by exact Blk.new _ _ rfl)).mono ?_); rintro e w1 ⟨m, rfl, hm, hb1⟩; have hB1 := below_tr ((Below.refl w.heap.size w).alloc (Nat.le_refl _) (.cells #[.int .u64 1] 27)) hb1 (by simp); clear tokA)
    | (go_at_call 8; (with_reducible refine (same_ten _ _ hm).mono ?_); rintro e w3 ⟨rfl, hb3⟩; have hB3 := below_tr hB1 hb3 hB1.size)
    | (go_at_call 9; (with_reducible refine ((unhide hD) _ hB3).mono ?_); rintro e w4 ⟨s, A4, n4, c4, rfl, hx, hb4⟩; have hB4 := below_tr hB3 hb4 hB3.size; have kb := Blk.new (w := w4) (g := w4.heap.size) 30 #[.bool s, .slice A4 n4 c4] rfl; obtain ⟨q0, q1, q2, q3, _⟩ := blk_facts kb; have hx5 := (hx (by first | rfl | trivial)).below ((Below.refl w4.heap.size w4).alloc (Nat.le_refl _) (.cells #[.bool s, .slice A4 n4 c4] 30)); have hB5 := hB4.alloc hB4.size (.cells #[.bool s, .slice A4 n4 c4] 30))
    | (go_at_call 18; (with_reducible refine ((unhide hPr) _).mono ?_); rintro e w6 ⟨rfl, hb6⟩; have hB6 := below_tr hB5 hb6 hB5.size; have k6 := kb.below hb6; obtain ⟨r0, r1, r2, r3, _⟩ := blk_facts k6; have hx6 := hx5.below hb6)
    | (go_at_call 10; have _t := tokL; (with_reducible refine ((unhide hLL) _ _ hx6).mono ?_); rintro e w7 ⟨rfl, hb7⟩; have hB7 := below_tr hB6 hb7 hB6.size; have k7 := k6.below hb7; obtain ⟨t0, t1, t2, t3, _⟩ := blk_facts k7; have hx7 := hx6.below hb7; clear tokL))
  have hK : KS w w4.heap.size s A4 n4 c4 (sv l) w7 := ⟨k7, hx7, hB7⟩
  have hG : w.heap.size ≤ w4.heap.size := hB4.size
  clear k7 hx7 hB7 hb7 t0 t1 t2 t3 hx6 k6 hb6 hB6 r0 r1 r2 r3 hx5 kb hB5 q0 q1 q2 q3 hx hb4 hB4 hb3 hB3 hm hb1 hB1
  generalize w4.heap.size = g3 at *
  refine wp_region_K (S := fun W => W.cell? ⟨g3, 0, none⟩ = some (.bool s) ∧ W.cell? ⟨g3, 1, none⟩ = some (.slice A4 n4 c4) ∧ W.frozen? ⟨g3, 0, none⟩ = false ∧ W.frozen? ⟨g3, 1, none⟩ = false ∧ KS w g3 s A4 n4 c4 (sv l) W) (k := 4) (by kernel_rfl) (by with_reducible exact KS.facts hK.drew) (fun hHeld => ?_)
  refine wpAnyK_take (i := 0) (oi := _) (v := ?_) rfl (by kernel_rfl) (by kernel_rfl) (by kernel_rfl) (by kernel_rfl) (fun _ _ _ h => h) (Or.inl ⟨by rfl, ?_⟩) (by assumption) ?_
  rotate_left
  · intro w hSw; (try dsimp only at hSw); go_simp; (try with_reducible rfl)
  try simp only [Act.put, List.setIfInBounds_toArray, List.set_cons_zero, List.set_cons_succ]
  refine wpAnyK_take (i := 1) (oi := _) (v := ?_) rfl (by kernel_rfl) (by kernel_rfl) (by kernel_rfl) (by kernel_rfl) (fun _ _ _ h => h) (Or.inl ⟨by rfl, ?_⟩) (by assumption) ?_
  rotate_left
  · intro w hSw; (try dsimp only at hSw); go_simp; (try with_reducible rfl)
  try simp only [Act.put, List.setIfInBounds_toArray, List.set_cons_zero, List.set_cons_succ]
  refine wpAnyK_one (i := 2) (o := _) (by kernel_rfl) rfl (fun K hK => ?_)
  go_simp
  ((go_at_call 20; (with_reducible refine ((unhide hTT) _).mono ?_); rintro e w8 ⟨x8, rfl, hx8, hb8⟩; obtain ⟨s8, A8, n8, c8, rfl⟩ := hx8.form); go_wp2_with fail)
  refine hK.out _ _ (by with_reducible exact KS.facts (KS.below hHeld.2.2.2.2 hb8)) (fun hHeld => ?_)
  clear hK K
  refine wpAnyK_one (i := 3) (o := _) (by kernel_rfl) rfl (fun K hK => ?_)
  go_simp
  ((go_at_call 19; (with_reducible refine ((unhide hRR) _ _ _ (KS.wd hHeld.2.2.2.2) hx8).mono ?_); rintro e w9 ⟨x9, rfl, hx9, hb9⟩; obtain ⟨s9, A9, n9, c9, rfl⟩ := hx9.form); go_wp2_with fail)
  refine hK.out _ _ (by with_reducible exact KS.facts (KS.below hHeld.2.2.2.2 hb9)) (fun hHeld => ?_)
  clear hK K
  refine wpAnyK_end (o := _) (by kernel_rfl) rfl (fun K hK => ?_)
  go_simp
  refine hK.out _ _ ?_
  clear hK K
  refine wpAnyK_done (by kernel_rfl) ?_ _
  have hKn := KS.next hHeld.2.2.2.2 hx9 hG
  clear hHeld hx9 hb9 hx8 hb8 hK
  generalize ((w9.setCell ⟨g3, 0, none⟩ (.bool s9)).setCell ⟨g3, 1, none⟩ (.slice A9 n9 c9)) = w10 at *
  obtain ⟨q0, q1, q2, q3, _⟩ := KS.facts hKn
  obtain ⟨kn, hxn, hBn⟩ := hKn
  have tokU : True := trivial
  go_wp2_with (first
    | (go_at_call 13; (with_reducible refine ((unhide hWW) _ _ hxn).mono ?_); rintro e w11 ⟨du, rfl, hdu, hb11⟩; have hB11 := below_tr hBn hb11 hBn.size; have k11 := kn.below hb11; obtain ⟨t0, t1, t2, t3, _⟩ := blk_facts k11; have hx11 := hxn.below hb11))
  all_goals first | (go_ret; exact (unhide hP1) _ hB11) | (exfalso; simp at *; omega)
set_option maxRecDepth 100000 in
set_option maxHeartbeats 8000000 in
theorem lawS_9_tt_64 (w : World) (v : Value) (m : Int) (r : Bool) (l : List Int) (h : RuS w v l) (hsz : l.length ≤ 2147483647) (p : Int) (hPr0 : ∀ W : World, Calls Try.prog 18 #[.int .i64 64] W fun e w' => e = .returned (.int .i64 p) ∧ Below W.heap.size W w') (hL : ∀ (W : World) (x : Value), Wd W x (sv l) → Calls Try.prog 10 #[.int .i64 64, x] W fun e w' => e = .returned (.bool false) ∧ Below W.heap.size W w') (hg : good 64 l = true) (hm0 : 0 ≤ m) (hm1 : m ≤ p) (T z : Int) (R : List Int) (hT : ∀ W : World, Calls Try.prog 20 #[.int .i64 m] W (PWide W T)) (hReg : ∀ (W : World) (x y : Value), Wd W x (sv l) → Wd W y T → Calls Try.prog 19 #[x, y] W (PWide W z)) (hWr : ∀ (W : World) (x : Value), Wd W x z → Calls Try.prog 13 #[.int .i64 64, x] W (PWB W true R)) (hL2 : ∀ (W : World) (x : Value), Wd W x z → Calls Try.prog 10 #[.int .i64 64, x] W fun e w' => e = .returned (.bool true) ∧ Below W.heap.size W w') :
    Calls Try.prog 5 #[.int .i64 64, v, .int .i64 m, .bool true, .bool r] w (POut w) := by
  have hD := hide (fun (W : World) (hb : Below w.heap.size w W) => decS_any W _ 64 l (h.below hb))
  unfold PDc at hD
  rw [hg] at hD
  have hP := hide (fun (w4 : World) (hb : Below w.heap.size w w4) o => pout_box hb o)
  have hP1 := hide (fun (w4 : World) (hb : Below w.heap.size w w4) => pout_mk hb)
  have tokA : True := trivial
  have hPr := hide hPr0
  clear hPr0
  have hLL := hide hL
  clear hL
  have tokL : True := trivial
  have hTT := hide hT
  have hRR := hide hReg
  have hWW := hide hWr
  clear hT hReg hWr
  have hL3 := hide hL2
  clear hL2
  obtain ⟨A, c, rfl, hc, _, _, hml⟩ := h
  unfold maxLen at hml
  generalize l.length = ln at *
  clear hg
  have hbig : ln ≤ 2147483647 := hsz
  clear hsz
  go_enter Try.func5, Try.ntmps5
  go_upto_region 9 with (first
    | (go_at_call 17; have _t := tokA; (with_reducible refine (sn_awake _ _ (by exact Blk.new _ _ rfl)).mono ?_); rintro e w1 ⟨m, rfl, hm, hb1⟩; have hB1 := below_tr ((Below.refl w.heap.size w).alloc (Nat.le_refl _) (.cells #[.int .u64 1] 27)) hb1 (by simp); clear tokA)
    | (go_at_call 8; (with_reducible refine (same_ten _ _ hm).mono ?_); rintro e w3 ⟨rfl, hb3⟩; have hB3 := below_tr hB1 hb3 hB1.size)
    | (go_at_call 9; (with_reducible refine ((unhide hD) _ hB3).mono ?_); rintro e w4 ⟨s, A4, n4, c4, rfl, hx, hb4⟩; have hB4 := below_tr hB3 hb4 hB3.size; have kb := Blk.new (w := w4) (g := w4.heap.size) 30 #[.bool s, .slice A4 n4 c4] rfl; obtain ⟨q0, q1, q2, q3, _⟩ := blk_facts kb; have hx5 := (hx (by first | rfl | trivial)).below ((Below.refl w4.heap.size w4).alloc (Nat.le_refl _) (.cells #[.bool s, .slice A4 n4 c4] 30)); have hB5 := hB4.alloc hB4.size (.cells #[.bool s, .slice A4 n4 c4] 30))
    | (go_at_call 18; (with_reducible refine ((unhide hPr) _).mono ?_); rintro e w6 ⟨rfl, hb6⟩; have hB6 := below_tr hB5 hb6 hB5.size; have k6 := kb.below hb6; obtain ⟨r0, r1, r2, r3, _⟩ := blk_facts k6; have hx6 := hx5.below hb6)
    | (go_at_call 10; have _t := tokL; (with_reducible refine ((unhide hLL) _ _ hx6).mono ?_); rintro e w7 ⟨rfl, hb7⟩; have hB7 := below_tr hB6 hb7 hB6.size; have k7 := k6.below hb7; obtain ⟨t0, t1, t2, t3, _⟩ := blk_facts k7; have hx7 := hx6.below hb7; clear tokL))
  have hK : KS w w4.heap.size s A4 n4 c4 (sv l) w7 := ⟨k7, hx7, hB7⟩
  have hG : w.heap.size ≤ w4.heap.size := hB4.size
  clear k7 hx7 hB7 hb7 t0 t1 t2 t3 hx6 k6 hb6 hB6 r0 r1 r2 r3 hx5 kb hB5 q0 q1 q2 q3 hx hb4 hB4 hb3 hB3 hm hb1 hB1
  generalize w4.heap.size = g3 at *
  refine wp_region_K (S := fun W => W.cell? ⟨g3, 0, none⟩ = some (.bool s) ∧ W.cell? ⟨g3, 1, none⟩ = some (.slice A4 n4 c4) ∧ W.frozen? ⟨g3, 0, none⟩ = false ∧ W.frozen? ⟨g3, 1, none⟩ = false ∧ KS w g3 s A4 n4 c4 (sv l) W) (k := 4) (by kernel_rfl) (by with_reducible exact KS.facts hK.drew) (fun hHeld => ?_)
  refine wpAnyK_take (i := 0) (oi := _) (v := ?_) rfl (by kernel_rfl) (by kernel_rfl) (by kernel_rfl) (by kernel_rfl) (fun _ _ _ h => h) (Or.inl ⟨by rfl, ?_⟩) (by assumption) ?_
  rotate_left
  · intro w hSw; (try dsimp only at hSw); go_simp; (try with_reducible rfl)
  try simp only [Act.put, List.setIfInBounds_toArray, List.set_cons_zero, List.set_cons_succ]
  refine wpAnyK_take (i := 1) (oi := _) (v := ?_) rfl (by kernel_rfl) (by kernel_rfl) (by kernel_rfl) (by kernel_rfl) (fun _ _ _ h => h) (Or.inl ⟨by rfl, ?_⟩) (by assumption) ?_
  rotate_left
  · intro w hSw; (try dsimp only at hSw); go_simp; (try with_reducible rfl)
  try simp only [Act.put, List.setIfInBounds_toArray, List.set_cons_zero, List.set_cons_succ]
  refine wpAnyK_one (i := 2) (o := _) (by kernel_rfl) rfl (fun K hK => ?_)
  go_simp
  ((go_at_call 20; (with_reducible refine ((unhide hTT) _).mono ?_); rintro e w8 ⟨x8, rfl, hx8, hb8⟩; obtain ⟨s8, A8, n8, c8, rfl⟩ := hx8.form); go_wp2_with fail)
  refine hK.out _ _ (by with_reducible exact KS.facts (KS.below hHeld.2.2.2.2 hb8)) (fun hHeld => ?_)
  clear hK K
  refine wpAnyK_one (i := 3) (o := _) (by kernel_rfl) rfl (fun K hK => ?_)
  go_simp
  ((go_at_call 19; (with_reducible refine ((unhide hRR) _ _ _ (KS.wd hHeld.2.2.2.2) hx8).mono ?_); rintro e w9 ⟨x9, rfl, hx9, hb9⟩; obtain ⟨s9, A9, n9, c9, rfl⟩ := hx9.form); go_wp2_with fail)
  refine hK.out _ _ (by with_reducible exact KS.facts (KS.below hHeld.2.2.2.2 hb9)) (fun hHeld => ?_)
  clear hK K
  refine wpAnyK_end (o := _) (by kernel_rfl) rfl (fun K hK => ?_)
  go_simp
  refine hK.out _ _ ?_
  clear hK K
  refine wpAnyK_done (by kernel_rfl) ?_ _
  have hKn := KS.next hHeld.2.2.2.2 hx9 hG
  clear hHeld hx9 hb9 hx8 hb8 hK
  generalize ((w9.setCell ⟨g3, 0, none⟩ (.bool s9)).setCell ⟨g3, 1, none⟩ (.slice A9 n9 c9)) = w10 at *
  obtain ⟨q0, q1, q2, q3, _⟩ := KS.facts hKn
  obtain ⟨kn, hxn, hBn⟩ := hKn
  have tokU : True := trivial
  go_wp2_with (first
    | (go_at_call 13; (with_reducible refine ((unhide hWW) _ _ hxn).mono ?_); rintro e w11 ⟨du, rfl, hdu, hb11⟩; have hB11 := below_tr hBn hb11 hBn.size; have k11 := kn.below hb11; obtain ⟨t0, t1, t2, t3, _⟩ := blk_facts k11; have hx11 := hxn.below hb11)
    | (go_at_call 10; (with_reducible refine ((unhide hL3) _ _ hx11).mono ?_); rintro e w12 ⟨rfl, hb12⟩; have hB12 := below_tr hB11 hb12 hB11.size; have hdu12 := hdu.below hb12))
  all_goals first | (go_ret; exact (unhide hP1) _ hB12) | (exfalso; simp at *; omega)
set_option maxRecDepth 100000 in
set_option maxHeartbeats 8000000 in
theorem lawS_9_tf_64 (w : World) (v : Value) (m : Int) (r : Bool) (l : List Int) (h : RuS w v l) (hsz : l.length ≤ 2147483647) (p : Int) (hPr0 : ∀ W : World, Calls Try.prog 18 #[.int .i64 64] W fun e w' => e = .returned (.int .i64 p) ∧ Below W.heap.size W w') (hL : ∀ (W : World) (x : Value), Wd W x (sv l) → Calls Try.prog 10 #[.int .i64 64, x] W fun e w' => e = .returned (.bool false) ∧ Below W.heap.size W w') (hg : good 64 l = true) (hm0 : 0 ≤ m) (hm1 : m ≤ p) (T z : Int) (R : List Int) (hT : ∀ W : World, Calls Try.prog 20 #[.int .i64 m] W (PWide W T)) (hReg : ∀ (W : World) (x y : Value), Wd W x (sv l) → Wd W y T → Calls Try.prog 19 #[x, y] W (PWide W z)) (hWr : ∀ (W : World) (x : Value), Wd W x z → Calls Try.prog 13 #[.int .i64 64, x] W (PWB W true R)) (hL2 : ∀ (W : World) (x : Value), Wd W x z → Calls Try.prog 10 #[.int .i64 64, x] W fun e w' => e = .returned (.bool false) ∧ Below W.heap.size W w') (hU : ∀ W : World, Below w.heap.size w W → Calls Try.prog 17 #[.int .i64 64, v, .int .i64 m, .bool true, .bool r] W (PUn W R)) :
    Calls Try.prog 5 #[.int .i64 64, v, .int .i64 m, .bool true, .bool r] w (POut w) := by
  have hD := hide (fun (W : World) (hb : Below w.heap.size w W) => decS_any W _ 64 l (h.below hb))
  unfold PDc at hD
  rw [hg] at hD
  have hP := hide (fun (w4 : World) (hb : Below w.heap.size w w4) o => pout_box hb o)
  have hP1 := hide (fun (w4 : World) (hb : Below w.heap.size w w4) => pout_mk hb)
  have tokA : True := trivial
  have hPr := hide hPr0
  clear hPr0
  have hLL := hide hL
  clear hL
  have tokL : True := trivial
  have hTT := hide hT
  have hRR := hide hReg
  have hWW := hide hWr
  clear hT hReg hWr
  have hL3 := hide hL2
  clear hL2
  have hUU := hide hU
  clear hU
  obtain ⟨A, c, rfl, hc, _, _, hml⟩ := h
  unfold maxLen at hml
  generalize l.length = ln at *
  clear hg
  have hbig : ln ≤ 2147483647 := hsz
  clear hsz
  go_enter Try.func5, Try.ntmps5
  go_upto_region 9 with (first
    | (go_at_call 17; have _t := tokA; (with_reducible refine (sn_awake _ _ (by exact Blk.new _ _ rfl)).mono ?_); rintro e w1 ⟨m, rfl, hm, hb1⟩; have hB1 := below_tr ((Below.refl w.heap.size w).alloc (Nat.le_refl _) (.cells #[.int .u64 1] 27)) hb1 (by simp); clear tokA)
    | (go_at_call 8; (with_reducible refine (same_ten _ _ hm).mono ?_); rintro e w3 ⟨rfl, hb3⟩; have hB3 := below_tr hB1 hb3 hB1.size)
    | (go_at_call 9; (with_reducible refine ((unhide hD) _ hB3).mono ?_); rintro e w4 ⟨s, A4, n4, c4, rfl, hx, hb4⟩; have hB4 := below_tr hB3 hb4 hB3.size; have kb := Blk.new (w := w4) (g := w4.heap.size) 30 #[.bool s, .slice A4 n4 c4] rfl; obtain ⟨q0, q1, q2, q3, _⟩ := blk_facts kb; have hx5 := (hx (by first | rfl | trivial)).below ((Below.refl w4.heap.size w4).alloc (Nat.le_refl _) (.cells #[.bool s, .slice A4 n4 c4] 30)); have hB5 := hB4.alloc hB4.size (.cells #[.bool s, .slice A4 n4 c4] 30))
    | (go_at_call 18; (with_reducible refine ((unhide hPr) _).mono ?_); rintro e w6 ⟨rfl, hb6⟩; have hB6 := below_tr hB5 hb6 hB5.size; have k6 := kb.below hb6; obtain ⟨r0, r1, r2, r3, _⟩ := blk_facts k6; have hx6 := hx5.below hb6)
    | (go_at_call 10; have _t := tokL; (with_reducible refine ((unhide hLL) _ _ hx6).mono ?_); rintro e w7 ⟨rfl, hb7⟩; have hB7 := below_tr hB6 hb7 hB6.size; have k7 := k6.below hb7; obtain ⟨t0, t1, t2, t3, _⟩ := blk_facts k7; have hx7 := hx6.below hb7; clear tokL))
  have hK : KS w w4.heap.size s A4 n4 c4 (sv l) w7 := ⟨k7, hx7, hB7⟩
  have hG : w.heap.size ≤ w4.heap.size := hB4.size
  clear k7 hx7 hB7 hb7 t0 t1 t2 t3 hx6 k6 hb6 hB6 r0 r1 r2 r3 hx5 kb hB5 q0 q1 q2 q3 hx hb4 hB4 hb3 hB3 hm hb1 hB1
  generalize w4.heap.size = g3 at *
  refine wp_region_K (S := fun W => W.cell? ⟨g3, 0, none⟩ = some (.bool s) ∧ W.cell? ⟨g3, 1, none⟩ = some (.slice A4 n4 c4) ∧ W.frozen? ⟨g3, 0, none⟩ = false ∧ W.frozen? ⟨g3, 1, none⟩ = false ∧ KS w g3 s A4 n4 c4 (sv l) W) (k := 4) (by kernel_rfl) (by with_reducible exact KS.facts hK.drew) (fun hHeld => ?_)
  refine wpAnyK_take (i := 0) (oi := _) (v := ?_) rfl (by kernel_rfl) (by kernel_rfl) (by kernel_rfl) (by kernel_rfl) (fun _ _ _ h => h) (Or.inl ⟨by rfl, ?_⟩) (by assumption) ?_
  rotate_left
  · intro w hSw; (try dsimp only at hSw); go_simp; (try with_reducible rfl)
  try simp only [Act.put, List.setIfInBounds_toArray, List.set_cons_zero, List.set_cons_succ]
  refine wpAnyK_take (i := 1) (oi := _) (v := ?_) rfl (by kernel_rfl) (by kernel_rfl) (by kernel_rfl) (by kernel_rfl) (fun _ _ _ h => h) (Or.inl ⟨by rfl, ?_⟩) (by assumption) ?_
  rotate_left
  · intro w hSw; (try dsimp only at hSw); go_simp; (try with_reducible rfl)
  try simp only [Act.put, List.setIfInBounds_toArray, List.set_cons_zero, List.set_cons_succ]
  refine wpAnyK_one (i := 2) (o := _) (by kernel_rfl) rfl (fun K hK => ?_)
  go_simp
  ((go_at_call 20; (with_reducible refine ((unhide hTT) _).mono ?_); rintro e w8 ⟨x8, rfl, hx8, hb8⟩; obtain ⟨s8, A8, n8, c8, rfl⟩ := hx8.form); go_wp2_with fail)
  refine hK.out _ _ (by with_reducible exact KS.facts (KS.below hHeld.2.2.2.2 hb8)) (fun hHeld => ?_)
  clear hK K
  refine wpAnyK_one (i := 3) (o := _) (by kernel_rfl) rfl (fun K hK => ?_)
  go_simp
  ((go_at_call 19; (with_reducible refine ((unhide hRR) _ _ _ (KS.wd hHeld.2.2.2.2) hx8).mono ?_); rintro e w9 ⟨x9, rfl, hx9, hb9⟩; obtain ⟨s9, A9, n9, c9, rfl⟩ := hx9.form); go_wp2_with fail)
  refine hK.out _ _ (by with_reducible exact KS.facts (KS.below hHeld.2.2.2.2 hb9)) (fun hHeld => ?_)
  clear hK K
  refine wpAnyK_end (o := _) (by kernel_rfl) rfl (fun K hK => ?_)
  go_simp
  refine hK.out _ _ ?_
  clear hK K
  refine wpAnyK_done (by kernel_rfl) ?_ _
  have hKn := KS.next hHeld.2.2.2.2 hx9 hG
  clear hHeld hx9 hb9 hx8 hb8 hK
  generalize ((w9.setCell ⟨g3, 0, none⟩ (.bool s9)).setCell ⟨g3, 1, none⟩ (.slice A9 n9 c9)) = w10 at *
  obtain ⟨q0, q1, q2, q3, _⟩ := KS.facts hKn
  obtain ⟨kn, hxn, hBn⟩ := hKn
  have tokU : True := trivial
  go_wp2_with (first
    | (go_at_call 13; (with_reducible refine ((unhide hWW) _ _ hxn).mono ?_); rintro e w11 ⟨du, rfl, hdu, hb11⟩; have hB11 := below_tr hBn hb11 hBn.size; have k11 := kn.below hb11; obtain ⟨t0, t1, t2, t3, _⟩ := blk_facts k11; have hx11 := hxn.below hb11)
    | (go_at_call 10; (with_reducible refine ((unhide hL3) _ _ hx11).mono ?_); rintro e w12 ⟨rfl, hb12⟩; have hB12 := below_tr hB11 hb12 hB11.size; have hdu12 := hdu.below hb12)
    | (go_at_call 17; (with_reducible refine ((unhide hUU) _ hB12).mono ?_); rintro e w13 ⟨gt, rfl, hgt, hb13⟩; have hB13 := below_tr hB12 hb13 hB12.size; have hdu13 := hdu12.below hb13)
    | (go_at_call 8; (with_reducible refine (same_any _ _ _ _ hgt hdu13).mono ?_); rintro e w14 ⟨rfl, hb14⟩; have hB14 := below_tr hB13 hb14 hB13.size))
  all_goals first | (go_ret; exact (unhide hP1) _ hB14) | (exfalso; simp at *; omega)
set_option maxRecDepth 100000 in
set_option maxHeartbeats 8000000 in
theorem lawS_11_ff_64 (w : World) (v : Value) (m : Int) (l : List Int) (h : RuS w v l) (hsz : l.length ≤ 2147483647) (p : Int) (hPr0 : ∀ W : World, Calls Try.prog 18 #[.int .i64 64] W fun e w' => e = .returned (.int .i64 p) ∧ Below W.heap.size W w') (hL : ∀ (W : World) (x : Value), Wd W x (sv l) → Calls Try.prog 10 #[.int .i64 64, x] W fun e w' => e = .returned (.bool false) ∧ Below W.heap.size W w') (hg : good 64 l = true) (hm0 : 0 ≤ m) (hm1 : m ≤ p) (hm9 : m ≤ 9) (T z : Int) (R : List Int) (hT : ∀ W : World, Calls Try.prog 20 #[.int .i64 m] W (PWide W T)) (hReg : ∀ (W : World) (x y : Value), Wd W x (sv l) → Wd W y T → Calls Try.prog 21 #[x, y, .int .i64 1] W (PWide W z)) (hWr : ∀ (W : World) (x : Value), Wd W x z → Calls Try.prog 13 #[.int .i64 64, x] W (PWB W false R)) :
    Calls Try.prog 5 #[.int .i64 64, v, .int .i64 m, .bool false, .bool true] w (POut w) := by
  have hD := hide (fun (W : World) (hb : Below w.heap.size w W) => decS_any W _ 64 l (h.below hb))
  unfold PDc at hD
  rw [hg] at hD
  have hP := hide (fun (w4 : World) (hb : Below w.heap.size w w4) o => pout_box hb o)
  have hP1 := hide (fun (w4 : World) (hb : Below w.heap.size w w4) => pout_mk hb)
  have tokA : True := trivial
  have hPr := hide hPr0
  clear hPr0
  have hLL := hide hL
  clear hL
  have tokL : True := trivial
  have hTT := hide hT
  have hRR := hide hReg
  have hWW := hide hWr
  clear hT hReg hWr
  obtain ⟨A, c, rfl, hc, _, _, hml⟩ := h
  unfold maxLen at hml
  generalize l.length = ln at *
  clear hg
  have hbig : ln ≤ 2147483647 := hsz
  clear hsz
  go_enter Try.func5, Try.ntmps5
  go_upto_region 11 with (first
    | (go_at_call 17; have _t := tokA; (with_reducible refine (sn_awake _ _ (by exact Blk.new _ _ rfl)).mono ?_); rintro e w1 ⟨m, rfl, hm, hb1⟩; have hB1 := below_tr ((Below.refl w.heap.size w).alloc (Nat.le_refl _) (.cells #[.int .u64 1] 27)) hb1 (by simp); clear tokA)
    | (go_at_call 8; (with_reducible refine (same_ten _ _ hm).mono ?_); rintro e w3 ⟨rfl, hb3⟩; have hB3 := below_tr hB1 hb3 hB1.size)
    | (go_at_call 9; (with_reducible refine ((unhide hD) _ hB3).mono ?_); rintro e w4 ⟨s, A4, n4, c4, rfl, hx, hb4⟩; have hB4 := below_tr hB3 hb4 hB3.size; have kb := Blk.new (w := w4) (g := w4.heap.size) 30 #[.bool s, .slice A4 n4 c4] rfl; obtain ⟨q0, q1, q2, q3, _⟩ := blk_facts kb; have hx5 := (hx (by first | rfl | trivial)).below ((Below.refl w4.heap.size w4).alloc (Nat.le_refl _) (.cells #[.bool s, .slice A4 n4 c4] 30)); have hB5 := hB4.alloc hB4.size (.cells #[.bool s, .slice A4 n4 c4] 30))
    | (go_at_call 18; (with_reducible refine ((unhide hPr) _).mono ?_); rintro e w6 ⟨rfl, hb6⟩; have hB6 := below_tr hB5 hb6 hB5.size; have k6 := kb.below hb6; obtain ⟨r0, r1, r2, r3, _⟩ := blk_facts k6; have hx6 := hx5.below hb6)
    | (go_at_call 10; have _t := tokL; (with_reducible refine ((unhide hLL) _ _ hx6).mono ?_); rintro e w7 ⟨rfl, hb7⟩; have hB7 := below_tr hB6 hb7 hB6.size; have k7 := k6.below hb7; obtain ⟨t0, t1, t2, t3, _⟩ := blk_facts k7; have hx7 := hx6.below hb7; clear tokL))
  have hK : KS w w4.heap.size s A4 n4 c4 (sv l) w7 := ⟨k7, hx7, hB7⟩
  have hG : w.heap.size ≤ w4.heap.size := hB4.size
  clear k7 hx7 hB7 hb7 t0 t1 t2 t3 hx6 k6 hb6 hB6 r0 r1 r2 r3 hx5 kb hB5 q0 q1 q2 q3 hx hb4 hB4 hb3 hB3 hm hb1 hB1
  generalize w4.heap.size = g3 at *
  refine wp_region_K (S := fun W => W.cell? ⟨g3, 0, none⟩ = some (.bool s) ∧ W.cell? ⟨g3, 1, none⟩ = some (.slice A4 n4 c4) ∧ W.frozen? ⟨g3, 0, none⟩ = false ∧ W.frozen? ⟨g3, 1, none⟩ = false ∧ KS w g3 s A4 n4 c4 (sv l) W) (k := 4) (by kernel_rfl) (by with_reducible exact KS.facts hK.drew) (fun hHeld => ?_)
  refine wpAnyK_take (i := 0) (oi := _) (v := ?_) rfl (by kernel_rfl) (by kernel_rfl) (by kernel_rfl) (by kernel_rfl) (fun _ _ _ h => h) (Or.inl ⟨by rfl, ?_⟩) (by assumption) ?_
  rotate_left
  · intro w hSw; (try dsimp only at hSw); go_simp; (try with_reducible rfl)
  try simp only [Act.put, List.setIfInBounds_toArray, List.set_cons_zero, List.set_cons_succ]
  refine wpAnyK_take (i := 1) (oi := _) (v := ?_) rfl (by kernel_rfl) (by kernel_rfl) (by kernel_rfl) (by kernel_rfl) (fun _ _ _ h => h) (Or.inl ⟨by rfl, ?_⟩) (by assumption) ?_
  rotate_left
  · intro w hSw; (try dsimp only at hSw); go_simp; (try with_reducible rfl)
  try simp only [Act.put, List.setIfInBounds_toArray, List.set_cons_zero, List.set_cons_succ]
  refine wpAnyK_one (i := 2) (o := _) (by kernel_rfl) rfl (fun K hK => ?_)
  go_simp
  ((go_at_call 20; (with_reducible refine ((unhide hTT) _).mono ?_); rintro e w8 ⟨x8, rfl, hx8, hb8⟩; obtain ⟨s8, A8, n8, c8, rfl⟩ := hx8.form); go_wp2_with fail)
  refine hK.out _ _ (by with_reducible exact KS.facts (KS.below hHeld.2.2.2.2 hb8)) (fun hHeld => ?_)
  clear hK K
  refine wpAnyK_one (i := 3) (o := _) (by kernel_rfl) rfl (fun K hK => ?_)
  go_simp
  ((go_at_call 21; (with_reducible refine ((unhide hRR) _ _ _ (KS.wd hHeld.2.2.2.2) hx8).mono ?_); rintro e w9 ⟨x9, rfl, hx9, hb9⟩; obtain ⟨s9, A9, n9, c9, rfl⟩ := hx9.form); go_wp2_with fail)
  refine hK.out _ _ (by with_reducible exact KS.facts (KS.below hHeld.2.2.2.2 hb9)) (fun hHeld => ?_)
  clear hK K
  refine wpAnyK_end (o := _) (by kernel_rfl) rfl (fun K hK => ?_)
  go_simp
  refine hK.out _ _ ?_
  clear hK K
  refine wpAnyK_done (by kernel_rfl) ?_ _
  have hKn := KS.next hHeld.2.2.2.2 hx9 hG
  clear hHeld hx9 hb9 hx8 hb8 hK
  generalize ((w9.setCell ⟨g3, 0, none⟩ (.bool s9)).setCell ⟨g3, 1, none⟩ (.slice A9 n9 c9)) = w10 at *
  obtain ⟨q0, q1, q2, q3, _⟩ := KS.facts hKn
  obtain ⟨kn, hxn, hBn⟩ := hKn
  have tokU : True := trivial
  go_wp2_with (first
    | (go_at_call 13; (with_reducible refine ((unhide hWW) _ _ hxn).mono ?_); rintro e w11 ⟨du, rfl, hdu, hb11⟩; have hB11 := below_tr hBn hb11 hBn.size; have k11 := kn.below hb11; obtain ⟨t0, t1, t2, t3, _⟩ := blk_facts k11; have hx11 := hxn.below hb11))
  all_goals first | (go_ret; exact (unhide hP1) _ hB11) | (exfalso; simp at *; omega)
set_option maxRecDepth 100000 in
set_option maxHeartbeats 8000000 in
theorem lawS_11_tt_64 (w : World) (v : Value) (m : Int) (l : List Int) (h : RuS w v l) (hsz : l.length ≤ 2147483647) (p : Int) (hPr0 : ∀ W : World, Calls Try.prog 18 #[.int .i64 64] W fun e w' => e = .returned (.int .i64 p) ∧ Below W.heap.size W w') (hL : ∀ (W : World) (x : Value), Wd W x (sv l) → Calls Try.prog 10 #[.int .i64 64, x] W fun e w' => e = .returned (.bool false) ∧ Below W.heap.size W w') (hg : good 64 l = true) (hm0 : 0 ≤ m) (hm1 : m ≤ p) (hm9 : m ≤ 9) (T z : Int) (R : List Int) (hT : ∀ W : World, Calls Try.prog 20 #[.int .i64 m] W (PWide W T)) (hReg : ∀ (W : World) (x y : Value), Wd W x (sv l) → Wd W y T → Calls Try.prog 21 #[x, y, .int .i64 1] W (PWide W z)) (hWr : ∀ (W : World) (x : Value), Wd W x z → Calls Try.prog 13 #[.int .i64 64, x] W (PWB W true R)) (hL2 : ∀ (W : World) (x : Value), Wd W x z → Calls Try.prog 10 #[.int .i64 64, x] W fun e w' => e = .returned (.bool true) ∧ Below W.heap.size W w') :
    Calls Try.prog 5 #[.int .i64 64, v, .int .i64 m, .bool false, .bool true] w (POut w) := by
  have hD := hide (fun (W : World) (hb : Below w.heap.size w W) => decS_any W _ 64 l (h.below hb))
  unfold PDc at hD
  rw [hg] at hD
  have hP := hide (fun (w4 : World) (hb : Below w.heap.size w w4) o => pout_box hb o)
  have hP1 := hide (fun (w4 : World) (hb : Below w.heap.size w w4) => pout_mk hb)
  have tokA : True := trivial
  have hPr := hide hPr0
  clear hPr0
  have hLL := hide hL
  clear hL
  have tokL : True := trivial
  have hTT := hide hT
  have hRR := hide hReg
  have hWW := hide hWr
  clear hT hReg hWr
  have hL3 := hide hL2
  clear hL2
  obtain ⟨A, c, rfl, hc, _, _, hml⟩ := h
  unfold maxLen at hml
  generalize l.length = ln at *
  clear hg
  have hbig : ln ≤ 2147483647 := hsz
  clear hsz
  go_enter Try.func5, Try.ntmps5
  go_upto_region 11 with (first
    | (go_at_call 17; have _t := tokA; (with_reducible refine (sn_awake _ _ (by exact Blk.new _ _ rfl)).mono ?_); rintro e w1 ⟨m, rfl, hm, hb1⟩; have hB1 := below_tr ((Below.refl w.heap.size w).alloc (Nat.le_refl _) (.cells #[.int .u64 1] 27)) hb1 (by simp); clear tokA)
    | (go_at_call 8; (with_reducible refine (same_ten _ _ hm).mono ?_); rintro e w3 ⟨rfl, hb3⟩; have hB3 := below_tr hB1 hb3 hB1.size)
    | (go_at_call 9; (with_reducible refine ((unhide hD) _ hB3).mono ?_); rintro e w4 ⟨s, A4, n4, c4, rfl, hx, hb4⟩; have hB4 := below_tr hB3 hb4 hB3.size; have kb := Blk.new (w := w4) (g := w4.heap.size) 30 #[.bool s, .slice A4 n4 c4] rfl; obtain ⟨q0, q1, q2, q3, _⟩ := blk_facts kb; have hx5 := (hx (by first | rfl | trivial)).below ((Below.refl w4.heap.size w4).alloc (Nat.le_refl _) (.cells #[.bool s, .slice A4 n4 c4] 30)); have hB5 := hB4.alloc hB4.size (.cells #[.bool s, .slice A4 n4 c4] 30))
    | (go_at_call 18; (with_reducible refine ((unhide hPr) _).mono ?_); rintro e w6 ⟨rfl, hb6⟩; have hB6 := below_tr hB5 hb6 hB5.size; have k6 := kb.below hb6; obtain ⟨r0, r1, r2, r3, _⟩ := blk_facts k6; have hx6 := hx5.below hb6)
    | (go_at_call 10; have _t := tokL; (with_reducible refine ((unhide hLL) _ _ hx6).mono ?_); rintro e w7 ⟨rfl, hb7⟩; have hB7 := below_tr hB6 hb7 hB6.size; have k7 := k6.below hb7; obtain ⟨t0, t1, t2, t3, _⟩ := blk_facts k7; have hx7 := hx6.below hb7; clear tokL))
  have hK : KS w w4.heap.size s A4 n4 c4 (sv l) w7 := ⟨k7, hx7, hB7⟩
  have hG : w.heap.size ≤ w4.heap.size := hB4.size
  clear k7 hx7 hB7 hb7 t0 t1 t2 t3 hx6 k6 hb6 hB6 r0 r1 r2 r3 hx5 kb hB5 q0 q1 q2 q3 hx hb4 hB4 hb3 hB3 hm hb1 hB1
  generalize w4.heap.size = g3 at *
  refine wp_region_K (S := fun W => W.cell? ⟨g3, 0, none⟩ = some (.bool s) ∧ W.cell? ⟨g3, 1, none⟩ = some (.slice A4 n4 c4) ∧ W.frozen? ⟨g3, 0, none⟩ = false ∧ W.frozen? ⟨g3, 1, none⟩ = false ∧ KS w g3 s A4 n4 c4 (sv l) W) (k := 4) (by kernel_rfl) (by with_reducible exact KS.facts hK.drew) (fun hHeld => ?_)
  refine wpAnyK_take (i := 0) (oi := _) (v := ?_) rfl (by kernel_rfl) (by kernel_rfl) (by kernel_rfl) (by kernel_rfl) (fun _ _ _ h => h) (Or.inl ⟨by rfl, ?_⟩) (by assumption) ?_
  rotate_left
  · intro w hSw; (try dsimp only at hSw); go_simp; (try with_reducible rfl)
  try simp only [Act.put, List.setIfInBounds_toArray, List.set_cons_zero, List.set_cons_succ]
  refine wpAnyK_take (i := 1) (oi := _) (v := ?_) rfl (by kernel_rfl) (by kernel_rfl) (by kernel_rfl) (by kernel_rfl) (fun _ _ _ h => h) (Or.inl ⟨by rfl, ?_⟩) (by assumption) ?_
  rotate_left
  · intro w hSw; (try dsimp only at hSw); go_simp; (try with_reducible rfl)
  try simp only [Act.put, List.setIfInBounds_toArray, List.set_cons_zero, List.set_cons_succ]
  refine wpAnyK_one (i := 2) (o := _) (by kernel_rfl) rfl (fun K hK => ?_)
  go_simp
  ((go_at_call 20; (with_reducible refine ((unhide hTT) _).mono ?_); rintro e w8 ⟨x8, rfl, hx8, hb8⟩; obtain ⟨s8, A8, n8, c8, rfl⟩ := hx8.form); go_wp2_with fail)
  refine hK.out _ _ (by with_reducible exact KS.facts (KS.below hHeld.2.2.2.2 hb8)) (fun hHeld => ?_)
  clear hK K
  refine wpAnyK_one (i := 3) (o := _) (by kernel_rfl) rfl (fun K hK => ?_)
  go_simp
  ((go_at_call 21; (with_reducible refine ((unhide hRR) _ _ _ (KS.wd hHeld.2.2.2.2) hx8).mono ?_); rintro e w9 ⟨x9, rfl, hx9, hb9⟩; obtain ⟨s9, A9, n9, c9, rfl⟩ := hx9.form); go_wp2_with fail)
  refine hK.out _ _ (by with_reducible exact KS.facts (KS.below hHeld.2.2.2.2 hb9)) (fun hHeld => ?_)
  clear hK K
  refine wpAnyK_end (o := _) (by kernel_rfl) rfl (fun K hK => ?_)
  go_simp
  refine hK.out _ _ ?_
  clear hK K
  refine wpAnyK_done (by kernel_rfl) ?_ _
  have hKn := KS.next hHeld.2.2.2.2 hx9 hG
  clear hHeld hx9 hb9 hx8 hb8 hK
  generalize ((w9.setCell ⟨g3, 0, none⟩ (.bool s9)).setCell ⟨g3, 1, none⟩ (.slice A9 n9 c9)) = w10 at *
  obtain ⟨q0, q1, q2, q3, _⟩ := KS.facts hKn
  obtain ⟨kn, hxn, hBn⟩ := hKn
  have tokU : True := trivial
  go_wp2_with (first
    | (go_at_call 13; (with_reducible refine ((unhide hWW) _ _ hxn).mono ?_); rintro e w11 ⟨du, rfl, hdu, hb11⟩; have hB11 := below_tr hBn hb11 hBn.size; have k11 := kn.below hb11; obtain ⟨t0, t1, t2, t3, _⟩ := blk_facts k11; have hx11 := hxn.below hb11)
    | (go_at_call 10; (with_reducible refine ((unhide hL3) _ _ hx11).mono ?_); rintro e w12 ⟨rfl, hb12⟩; have hB12 := below_tr hB11 hb12 hB11.size; have hdu12 := hdu.below hb12))
  all_goals first | (go_ret; exact (unhide hP1) _ hB12) | (exfalso; simp at *; omega)
set_option maxRecDepth 100000 in
set_option maxHeartbeats 8000000 in
theorem lawS_11_tf_64 (w : World) (v : Value) (m : Int) (l : List Int) (h : RuS w v l) (hsz : l.length ≤ 2147483647) (p : Int) (hPr0 : ∀ W : World, Calls Try.prog 18 #[.int .i64 64] W fun e w' => e = .returned (.int .i64 p) ∧ Below W.heap.size W w') (hL : ∀ (W : World) (x : Value), Wd W x (sv l) → Calls Try.prog 10 #[.int .i64 64, x] W fun e w' => e = .returned (.bool false) ∧ Below W.heap.size W w') (hg : good 64 l = true) (hm0 : 0 ≤ m) (hm1 : m ≤ p) (hm9 : m ≤ 9) (T z : Int) (R : List Int) (hT : ∀ W : World, Calls Try.prog 20 #[.int .i64 m] W (PWide W T)) (hReg : ∀ (W : World) (x y : Value), Wd W x (sv l) → Wd W y T → Calls Try.prog 21 #[x, y, .int .i64 1] W (PWide W z)) (hWr : ∀ (W : World) (x : Value), Wd W x z → Calls Try.prog 13 #[.int .i64 64, x] W (PWB W true R)) (hL2 : ∀ (W : World) (x : Value), Wd W x z → Calls Try.prog 10 #[.int .i64 64, x] W fun e w' => e = .returned (.bool false) ∧ Below W.heap.size W w') (hU : ∀ W : World, Below w.heap.size w W → Calls Try.prog 17 #[.int .i64 64, v, .int .i64 m, .bool false, .bool true] W (PUn W R)) :
    Calls Try.prog 5 #[.int .i64 64, v, .int .i64 m, .bool false, .bool true] w (POut w) := by
  have hD := hide (fun (W : World) (hb : Below w.heap.size w W) => decS_any W _ 64 l (h.below hb))
  unfold PDc at hD
  rw [hg] at hD
  have hP := hide (fun (w4 : World) (hb : Below w.heap.size w w4) o => pout_box hb o)
  have hP1 := hide (fun (w4 : World) (hb : Below w.heap.size w w4) => pout_mk hb)
  have tokA : True := trivial
  have hPr := hide hPr0
  clear hPr0
  have hLL := hide hL
  clear hL
  have tokL : True := trivial
  have hTT := hide hT
  have hRR := hide hReg
  have hWW := hide hWr
  clear hT hReg hWr
  have hL3 := hide hL2
  clear hL2
  have hUU := hide hU
  clear hU
  obtain ⟨A, c, rfl, hc, _, _, hml⟩ := h
  unfold maxLen at hml
  generalize l.length = ln at *
  clear hg
  have hbig : ln ≤ 2147483647 := hsz
  clear hsz
  go_enter Try.func5, Try.ntmps5
  go_upto_region 11 with (first
    | (go_at_call 17; have _t := tokA; (with_reducible refine (sn_awake _ _ (by exact Blk.new _ _ rfl)).mono ?_); rintro e w1 ⟨m, rfl, hm, hb1⟩; have hB1 := below_tr ((Below.refl w.heap.size w).alloc (Nat.le_refl _) (.cells #[.int .u64 1] 27)) hb1 (by simp); clear tokA)
    | (go_at_call 8; (with_reducible refine (same_ten _ _ hm).mono ?_); rintro e w3 ⟨rfl, hb3⟩; have hB3 := below_tr hB1 hb3 hB1.size)
    | (go_at_call 9; (with_reducible refine ((unhide hD) _ hB3).mono ?_); rintro e w4 ⟨s, A4, n4, c4, rfl, hx, hb4⟩; have hB4 := below_tr hB3 hb4 hB3.size; have kb := Blk.new (w := w4) (g := w4.heap.size) 30 #[.bool s, .slice A4 n4 c4] rfl; obtain ⟨q0, q1, q2, q3, _⟩ := blk_facts kb; have hx5 := (hx (by first | rfl | trivial)).below ((Below.refl w4.heap.size w4).alloc (Nat.le_refl _) (.cells #[.bool s, .slice A4 n4 c4] 30)); have hB5 := hB4.alloc hB4.size (.cells #[.bool s, .slice A4 n4 c4] 30))
    | (go_at_call 18; (with_reducible refine ((unhide hPr) _).mono ?_); rintro e w6 ⟨rfl, hb6⟩; have hB6 := below_tr hB5 hb6 hB5.size; have k6 := kb.below hb6; obtain ⟨r0, r1, r2, r3, _⟩ := blk_facts k6; have hx6 := hx5.below hb6)
    | (go_at_call 10; have _t := tokL; (with_reducible refine ((unhide hLL) _ _ hx6).mono ?_); rintro e w7 ⟨rfl, hb7⟩; have hB7 := below_tr hB6 hb7 hB6.size; have k7 := k6.below hb7; obtain ⟨t0, t1, t2, t3, _⟩ := blk_facts k7; have hx7 := hx6.below hb7; clear tokL))
  have hK : KS w w4.heap.size s A4 n4 c4 (sv l) w7 := ⟨k7, hx7, hB7⟩
  have hG : w.heap.size ≤ w4.heap.size := hB4.size
  clear k7 hx7 hB7 hb7 t0 t1 t2 t3 hx6 k6 hb6 hB6 r0 r1 r2 r3 hx5 kb hB5 q0 q1 q2 q3 hx hb4 hB4 hb3 hB3 hm hb1 hB1
  generalize w4.heap.size = g3 at *
  refine wp_region_K (S := fun W => W.cell? ⟨g3, 0, none⟩ = some (.bool s) ∧ W.cell? ⟨g3, 1, none⟩ = some (.slice A4 n4 c4) ∧ W.frozen? ⟨g3, 0, none⟩ = false ∧ W.frozen? ⟨g3, 1, none⟩ = false ∧ KS w g3 s A4 n4 c4 (sv l) W) (k := 4) (by kernel_rfl) (by with_reducible exact KS.facts hK.drew) (fun hHeld => ?_)
  refine wpAnyK_take (i := 0) (oi := _) (v := ?_) rfl (by kernel_rfl) (by kernel_rfl) (by kernel_rfl) (by kernel_rfl) (fun _ _ _ h => h) (Or.inl ⟨by rfl, ?_⟩) (by assumption) ?_
  rotate_left
  · intro w hSw; (try dsimp only at hSw); go_simp; (try with_reducible rfl)
  try simp only [Act.put, List.setIfInBounds_toArray, List.set_cons_zero, List.set_cons_succ]
  refine wpAnyK_take (i := 1) (oi := _) (v := ?_) rfl (by kernel_rfl) (by kernel_rfl) (by kernel_rfl) (by kernel_rfl) (fun _ _ _ h => h) (Or.inl ⟨by rfl, ?_⟩) (by assumption) ?_
  rotate_left
  · intro w hSw; (try dsimp only at hSw); go_simp; (try with_reducible rfl)
  try simp only [Act.put, List.setIfInBounds_toArray, List.set_cons_zero, List.set_cons_succ]
  refine wpAnyK_one (i := 2) (o := _) (by kernel_rfl) rfl (fun K hK => ?_)
  go_simp
  ((go_at_call 20; (with_reducible refine ((unhide hTT) _).mono ?_); rintro e w8 ⟨x8, rfl, hx8, hb8⟩; obtain ⟨s8, A8, n8, c8, rfl⟩ := hx8.form); go_wp2_with fail)
  refine hK.out _ _ (by with_reducible exact KS.facts (KS.below hHeld.2.2.2.2 hb8)) (fun hHeld => ?_)
  clear hK K
  refine wpAnyK_one (i := 3) (o := _) (by kernel_rfl) rfl (fun K hK => ?_)
  go_simp
  ((go_at_call 21; (with_reducible refine ((unhide hRR) _ _ _ (KS.wd hHeld.2.2.2.2) hx8).mono ?_); rintro e w9 ⟨x9, rfl, hx9, hb9⟩; obtain ⟨s9, A9, n9, c9, rfl⟩ := hx9.form); go_wp2_with fail)
  refine hK.out _ _ (by with_reducible exact KS.facts (KS.below hHeld.2.2.2.2 hb9)) (fun hHeld => ?_)
  clear hK K
  refine wpAnyK_end (o := _) (by kernel_rfl) rfl (fun K hK => ?_)
  go_simp
  refine hK.out _ _ ?_
  clear hK K
  refine wpAnyK_done (by kernel_rfl) ?_ _
  have hKn := KS.next hHeld.2.2.2.2 hx9 hG
  clear hHeld hx9 hb9 hx8 hb8 hK
  generalize ((w9.setCell ⟨g3, 0, none⟩ (.bool s9)).setCell ⟨g3, 1, none⟩ (.slice A9 n9 c9)) = w10 at *
  obtain ⟨q0, q1, q2, q3, _⟩ := KS.facts hKn
  obtain ⟨kn, hxn, hBn⟩ := hKn
  have tokU : True := trivial
  go_wp2_with (first
    | (go_at_call 13; (with_reducible refine ((unhide hWW) _ _ hxn).mono ?_); rintro e w11 ⟨du, rfl, hdu, hb11⟩; have hB11 := below_tr hBn hb11 hBn.size; have k11 := kn.below hb11; obtain ⟨t0, t1, t2, t3, _⟩ := blk_facts k11; have hx11 := hxn.below hb11)
    | (go_at_call 10; (with_reducible refine ((unhide hL3) _ _ hx11).mono ?_); rintro e w12 ⟨rfl, hb12⟩; have hB12 := below_tr hB11 hb12 hB11.size; have hdu12 := hdu.below hb12)
    | (go_at_call 17; (with_reducible refine ((unhide hUU) _ hB12).mono ?_); rintro e w13 ⟨gt, rfl, hgt, hb13⟩; have hB13 := below_tr hB12 hb13 hB12.size; have hdu13 := hdu12.below hb13)
    | (go_at_call 8; (with_reducible refine (same_any _ _ _ _ hgt hdu13).mono ?_); rintro e w14 ⟨rfl, hb14⟩; have hB14 := below_tr hB13 hb14 hB13.size))
  all_goals first | (go_ret; exact (unhide hP1) _ hB14) | (exfalso; simp at *; omega)
set_option maxRecDepth 100000 in
set_option maxHeartbeats 8000000 in
theorem lawS_12_ff_64 (w : World) (v : Value) (m : Int) (l : List Int) (h : RuS w v l) (hsz : l.length ≤ 2147483647) (p : Int) (hPr0 : ∀ W : World, Calls Try.prog 18 #[.int .i64 64] W fun e w' => e = .returned (.int .i64 p) ∧ Below W.heap.size W w') (hL : ∀ (W : World) (x : Value), Wd W x (sv l) → Calls Try.prog 10 #[.int .i64 64, x] W fun e w' => e = .returned (.bool false) ∧ Below W.heap.size W w') (hg : good 64 l = true) (hm0 : 0 ≤ m) (hm1 : m ≤ p) (hm9 : m ≤ 9) (T z : Int) (R : List Int) (hT : ∀ W : World, Calls Try.prog 20 #[.int .i64 m] W (PWide W T)) (hReg : ∀ (W : World) (x y : Value), Wd W x (sv l) → Wd W y T → Calls Try.prog 22 #[x, y] W (PDq W z)) (hWr : ∀ (W : World) (x : Value), Wd W x z → Calls Try.prog 13 #[.int .i64 64, x] W (PWB W false R)) :
    Calls Try.prog 5 #[.int .i64 64, v, .int .i64 m, .bool false, .bool false] w (POut w) := by
  have hD := hide (fun (W : World) (hb : Below w.heap.size w W) => decS_any W _ 64 l (h.below hb))
  unfold PDc at hD
  rw [hg] at hD
  have hP := hide (fun (w4 : World) (hb : Below w.heap.size w w4) o => pout_box hb o)
  have hP1 := hide (fun (w4 : World) (hb : Below w.heap.size w w4) => pout_mk hb)
  have tokA : True := trivial
  have hPr := hide hPr0
  clear hPr0
  have hLL := hide hL
  clear hL
  have tokL : True := trivial
  have hTT := hide hT
  have hRR := hide hReg
  have hWW := hide hWr
  clear hT hReg hWr
  obtain ⟨A, c, rfl, hc, _, _, hml⟩ := h
  unfold maxLen at hml
  generalize l.length = ln at *
  clear hg
  have hbig : ln ≤ 2147483647 := hsz
  clear hsz
  go_enter Try.func5, Try.ntmps5
  go_upto_region 12 with (first
    | (go_at_call 17; have _t := tokA; (with_reducible refine (sn_awake _ _ (by exact Blk.new _ _ rfl)).mono ?_); rintro e w1 ⟨m, rfl, hm, hb1⟩; have hB1 := below_tr ((Below.refl w.heap.size w).alloc (Nat.le_refl _) (.cells #[.int .u64 1] 27)) hb1 (by simp); clear tokA)
    | (go_at_call 8; (with_reducible refine (same_ten _ _ hm).mono ?_); rintro e w3 ⟨rfl, hb3⟩; have hB3 := below_tr hB1 hb3 hB1.size)
    | (go_at_call 9; (with_reducible refine ((unhide hD) _ hB3).mono ?_); rintro e w4 ⟨s, A4, n4, c4, rfl, hx, hb4⟩; have hB4 := below_tr hB3 hb4 hB3.size; have kb := Blk.new (w := w4) (g := w4.heap.size) 30 #[.bool s, .slice A4 n4 c4] rfl; obtain ⟨q0, q1, q2, q3, _⟩ := blk_facts kb; have hx5 := (hx (by first | rfl | trivial)).below ((Below.refl w4.heap.size w4).alloc (Nat.le_refl _) (.cells #[.bool s, .slice A4 n4 c4] 30)); have hB5 := hB4.alloc hB4.size (.cells #[.bool s, .slice A4 n4 c4] 30))
    | (go_at_call 18; (with_reducible refine ((unhide hPr) _).mono ?_); rintro e w6 ⟨rfl, hb6⟩; have hB6 := below_tr hB5 hb6 hB5.size; have k6 := kb.below hb6; obtain ⟨r0, r1, r2, r3, _⟩ := blk_facts k6; have hx6 := hx5.below hb6)
    | (go_at_call 10; have _t := tokL; (with_reducible refine ((unhide hLL) _ _ hx6).mono ?_); rintro e w7 ⟨rfl, hb7⟩; have hB7 := below_tr hB6 hb7 hB6.size; have k7 := k6.below hb7; obtain ⟨t0, t1, t2, t3, _⟩ := blk_facts k7; have hx7 := hx6.below hb7; clear tokL))
  have hK : KS w w4.heap.size s A4 n4 c4 (sv l) w7 := ⟨k7, hx7, hB7⟩
  have hG : w.heap.size ≤ w4.heap.size := hB4.size
  clear k7 hx7 hB7 hb7 t0 t1 t2 t3 hx6 k6 hb6 hB6 r0 r1 r2 r3 hx5 kb hB5 q0 q1 q2 q3 hx hb4 hB4 hb3 hB3 hm hb1 hB1
  generalize w4.heap.size = g3 at *
  refine wp_region_J (S := fun W => W.cell? ⟨g3, 0, none⟩ = some (.bool s) ∧ W.cell? ⟨g3, 1, none⟩ = some (.slice A4 n4 c4) ∧ W.frozen? ⟨g3, 0, none⟩ = false ∧ W.frozen? ⟨g3, 1, none⟩ = false ∧ KS w g3 s A4 n4 c4 (sv l) W) (k := 7) (by kernel_rfl) (by with_reducible exact KS.facts hK.drew) (fun hHeld => ?_)
  refine wpAnyJ_take (i := 0) (oi := _) (v := ?_) rfl (by kernel_rfl) (by kernel_rfl) (by kernel_rfl) (by kernel_rfl) (by kernel_rfl) (fun _ _ _ h => h) (Or.inl ⟨by rfl, ?_⟩) (by assumption) ?_
  rotate_left
  · intro w hSw; (try dsimp only at hSw); go_simp; (try with_reducible rfl)
  try simp only [Act.put, List.setIfInBounds_toArray, List.set_cons_zero, List.set_cons_succ]
  refine wpAnyJ_take (i := 1) (oi := _) (v := ?_) rfl (by kernel_rfl) (by kernel_rfl) (by kernel_rfl) (by kernel_rfl) (by kernel_rfl) (fun _ _ _ h => h) (Or.inl ⟨by rfl, ?_⟩) (by assumption) ?_
  rotate_left
  · intro w hSw; (try dsimp only at hSw); go_simp; (try with_reducible rfl)
  try simp only [Act.put, List.setIfInBounds_toArray, List.set_cons_zero, List.set_cons_succ]
  refine wpAnyJ_one (i := 2) (o := _) (by kernel_rfl) rfl (fun K hK => ?_)
  go_simp
  ((go_at_call 20; (with_reducible refine ((unhide hTT) _).mono ?_); rintro e w8 ⟨x8, rfl, hx8, hb8⟩; obtain ⟨s8, A8, n8, c8, rfl⟩ := hx8.form); go_wp2_with fail)
  refine hK.out _ _ (by with_reducible exact KS.facts (KS.below hHeld.2.2.2.2 hb8)) (fun hHeld => ?_)
  clear hK K
  refine wpAnyJ_one (i := 3) (o := _) (by kernel_rfl) rfl (fun K hK => ?_)
  go_simp
  ((go_at_call 22; (with_reducible refine ((unhide hRR) _ _ _ (KS.wd hHeld.2.2.2.2) hx8).mono ?_); rintro e w9 ⟨x9, y9, rfl, hx9, ⟨r9, hy9⟩, hb9⟩; obtain ⟨s9, A9, n9, c9, rfl⟩ := hx9.form; obtain ⟨t9, B9, m9, d9, rfl⟩ := hy9.form; clear hy9); go_wp2_with fail)
  refine hK.out _ _ (by with_reducible exact KS.facts (KS.below hHeld.2.2.2.2 hb9)) (fun hHeld => ?_)
  clear hK K
  refine wpAnyJ_take (i := 4) (oi := _) (v := ?_) rfl (by kernel_rfl) (by kernel_rfl) (by kernel_rfl) (by kernel_rfl) (by kernel_rfl) (fun _ _ _ h => h) (Or.inl ⟨by rfl, ?_⟩) (by assumption) ?_
  rotate_left
  · intro w hSw; (try dsimp only at hSw); go_simp; (try with_reducible rfl)
  try simp only [Act.put, List.setIfInBounds_toArray, List.set_cons_zero, List.set_cons_succ]
  refine wpAnyJ_take (i := 5) (oi := _) (v := ?_) rfl (by kernel_rfl) (by kernel_rfl) (by kernel_rfl) (by kernel_rfl) (by kernel_rfl) (fun _ _ _ h => h) (Or.inl ⟨by rfl, ?_⟩) (by assumption) ?_
  rotate_left
  · intro w hSw; (try dsimp only at hSw); go_simp; (try with_reducible rfl)
  try simp only [Act.put, List.setIfInBounds_toArray, List.set_cons_zero, List.set_cons_succ]
  refine wpAnyJ_loose (i := 6) (oi := _) (v := ?_) rfl (by kernel_rfl) (by kernel_rfl) (by kernel_rfl) (by decide) (fun _ _ _ h => h) (Or.inl ⟨by rfl, ?_⟩) (by assumption) ?_
  rotate_left
  · intro w hSw; (try dsimp only at hSw); go_simp; (try with_reducible rfl)
  try simp only [Act.put, List.setIfInBounds_toArray, List.set_cons_zero, List.set_cons_succ]
  refine wpAnyJ_end (o := _) (by kernel_rfl) (by kernel_rfl) rfl (fun K hK => ?_)
  go_simp
  refine hK.out _ _ ?_
  clear hK K
  refine wpAnyJ_done (by kernel_rfl) ?_ _
  have hKn := KS.next hHeld.2.2.2.2 hx9 hG
  clear hHeld hx9 hb9 hx8 hb8 hK
  generalize ((w9.setCell ⟨g3, 0, none⟩ (.bool s9)).setCell ⟨g3, 1, none⟩ (.slice A9 n9 c9)) = w10 at *
  obtain ⟨q0, q1, q2, q3, _⟩ := KS.facts hKn
  obtain ⟨kn, hxn, hBn⟩ := hKn
  have tokU : True := trivial
  go_wp2_with (first
    | (go_at_call 13; (with_reducible refine ((unhide hWW) _ _ hxn).mono ?_); rintro e w11 ⟨du, rfl, hdu, hb11⟩; have hB11 := below_tr hBn hb11 hBn.size; have k11 := kn.below hb11; obtain ⟨t0, t1, t2, t3, _⟩ := blk_facts k11; have hx11 := hxn.below hb11))
  all_goals first | (go_ret; exact (unhide hP1) _ hB11) | (exfalso; simp at *; omega)
set_option maxRecDepth 100000 in
set_option maxHeartbeats 8000000 in
theorem lawS_12_tt_64 (w : World) (v : Value) (m : Int) (l : List Int) (h : RuS w v l) (hsz : l.length ≤ 2147483647) (p : Int) (hPr0 : ∀ W : World, Calls Try.prog 18 #[.int .i64 64] W fun e w' => e = .returned (.int .i64 p) ∧ Below W.heap.size W w') (hL : ∀ (W : World) (x : Value), Wd W x (sv l) → Calls Try.prog 10 #[.int .i64 64, x] W fun e w' => e = .returned (.bool false) ∧ Below W.heap.size W w') (hg : good 64 l = true) (hm0 : 0 ≤ m) (hm1 : m ≤ p) (hm9 : m ≤ 9) (T z : Int) (R : List Int) (hT : ∀ W : World, Calls Try.prog 20 #[.int .i64 m] W (PWide W T)) (hReg : ∀ (W : World) (x y : Value), Wd W x (sv l) → Wd W y T → Calls Try.prog 22 #[x, y] W (PDq W z)) (hWr : ∀ (W : World) (x : Value), Wd W x z → Calls Try.prog 13 #[.int .i64 64, x] W (PWB W true R)) (hL2 : ∀ (W : World) (x : Value), Wd W x z → Calls Try.prog 10 #[.int .i64 64, x] W fun e w' => e = .returned (.bool true) ∧ Below W.heap.size W w') :
    Calls Try.prog 5 #[.int .i64 64, v, .int .i64 m, .bool false, .bool false] w (POut w) := by
  have hD := hide (fun (W : World) (hb : Below w.heap.size w W) => decS_any W _ 64 l (h.below hb))
  unfold PDc at hD
  rw [hg] at hD
  have hP := hide (fun (w4 : World) (hb : Below w.heap.size w w4) o => pout_box hb o)
  have hP1 := hide (fun (w4 : World) (hb : Below w.heap.size w w4) => pout_mk hb)
  have tokA : True := trivial
  have hPr := hide hPr0
  clear hPr0
  have hLL := hide hL
  clear hL
  have tokL : True := trivial
  have hTT := hide hT
  have hRR := hide hReg
  have hWW := hide hWr
  clear hT hReg hWr
  have hL3 := hide hL2
  clear hL2
  obtain ⟨A, c, rfl, hc, _, _, hml⟩ := h
  unfold maxLen at hml
  generalize l.length = ln at *
  clear hg
  have hbig : ln ≤ 2147483647 := hsz
  clear hsz
  go_enter Try.func5, Try.ntmps5
  go_upto_region 12 with (first
    | (go_at_call 17; have _t := tokA; (with_reducible refine (sn_awake _ _ (by exact Blk.new _ _ rfl)).mono ?_); rintro e w1 ⟨m, rfl, hm, hb1⟩; have hB1 := below_tr ((Below.refl w.heap.size w).alloc (Nat.le_refl _) (.cells #[.int .u64 1] 27)) hb1 (by simp); clear tokA)
    | (go_at_call 8; (with_reducible refine (same_ten _ _ hm).mono ?_); rintro e w3 ⟨rfl, hb3⟩; have hB3 := below_tr hB1 hb3 hB1.size)
    | (go_at_call 9; (with_reducible refine ((unhide hD) _ hB3).mono ?_); rintro e w4 ⟨s, A4, n4, c4, rfl, hx, hb4⟩; have hB4 := below_tr hB3 hb4 hB3.size; have kb := Blk.new (w := w4) (g := w4.heap.size) 30 #[.bool s, .slice A4 n4 c4] rfl; obtain ⟨q0, q1, q2, q3, _⟩ := blk_facts kb; have hx5 := (hx (by first | rfl | trivial)).below ((Below.refl w4.heap.size w4).alloc (Nat.le_refl _) (.cells #[.bool s, .slice A4 n4 c4] 30)); have hB5 := hB4.alloc hB4.size (.cells #[.bool s, .slice A4 n4 c4] 30))
    | (go_at_call 18; (with_reducible refine ((unhide hPr) _).mono ?_); rintro e w6 ⟨rfl, hb6⟩; have hB6 := below_tr hB5 hb6 hB5.size; have k6 := kb.below hb6; obtain ⟨r0, r1, r2, r3, _⟩ := blk_facts k6; have hx6 := hx5.below hb6)
    | (go_at_call 10; have _t := tokL; (with_reducible refine ((unhide hLL) _ _ hx6).mono ?_); rintro e w7 ⟨rfl, hb7⟩; have hB7 := below_tr hB6 hb7 hB6.size; have k7 := k6.below hb7; obtain ⟨t0, t1, t2, t3, _⟩ := blk_facts k7; have hx7 := hx6.below hb7; clear tokL))
  have hK : KS w w4.heap.size s A4 n4 c4 (sv l) w7 := ⟨k7, hx7, hB7⟩
  have hG : w.heap.size ≤ w4.heap.size := hB4.size
  clear k7 hx7 hB7 hb7 t0 t1 t2 t3 hx6 k6 hb6 hB6 r0 r1 r2 r3 hx5 kb hB5 q0 q1 q2 q3 hx hb4 hB4 hb3 hB3 hm hb1 hB1
  generalize w4.heap.size = g3 at *
  refine wp_region_J (S := fun W => W.cell? ⟨g3, 0, none⟩ = some (.bool s) ∧ W.cell? ⟨g3, 1, none⟩ = some (.slice A4 n4 c4) ∧ W.frozen? ⟨g3, 0, none⟩ = false ∧ W.frozen? ⟨g3, 1, none⟩ = false ∧ KS w g3 s A4 n4 c4 (sv l) W) (k := 7) (by kernel_rfl) (by with_reducible exact KS.facts hK.drew) (fun hHeld => ?_)
  refine wpAnyJ_take (i := 0) (oi := _) (v := ?_) rfl (by kernel_rfl) (by kernel_rfl) (by kernel_rfl) (by kernel_rfl) (by kernel_rfl) (fun _ _ _ h => h) (Or.inl ⟨by rfl, ?_⟩) (by assumption) ?_
  rotate_left
  · intro w hSw; (try dsimp only at hSw); go_simp; (try with_reducible rfl)
  try simp only [Act.put, List.setIfInBounds_toArray, List.set_cons_zero, List.set_cons_succ]
  refine wpAnyJ_take (i := 1) (oi := _) (v := ?_) rfl (by kernel_rfl) (by kernel_rfl) (by kernel_rfl) (by kernel_rfl) (by kernel_rfl) (fun _ _ _ h => h) (Or.inl ⟨by rfl, ?_⟩) (by assumption) ?_
  rotate_left
  · intro w hSw; (try dsimp only at hSw); go_simp; (try with_reducible rfl)
  try simp only [Act.put, List.setIfInBounds_toArray, List.set_cons_zero, List.set_cons_succ]
  refine wpAnyJ_one (i := 2) (o := _) (by kernel_rfl) rfl (fun K hK => ?_)
  go_simp
  ((go_at_call 20; (with_reducible refine ((unhide hTT) _).mono ?_); rintro e w8 ⟨x8, rfl, hx8, hb8⟩; obtain ⟨s8, A8, n8, c8, rfl⟩ := hx8.form); go_wp2_with fail)
  refine hK.out _ _ (by with_reducible exact KS.facts (KS.below hHeld.2.2.2.2 hb8)) (fun hHeld => ?_)
  clear hK K
  refine wpAnyJ_one (i := 3) (o := _) (by kernel_rfl) rfl (fun K hK => ?_)
  go_simp
  ((go_at_call 22; (with_reducible refine ((unhide hRR) _ _ _ (KS.wd hHeld.2.2.2.2) hx8).mono ?_); rintro e w9 ⟨x9, y9, rfl, hx9, ⟨r9, hy9⟩, hb9⟩; obtain ⟨s9, A9, n9, c9, rfl⟩ := hx9.form; obtain ⟨t9, B9, m9, d9, rfl⟩ := hy9.form; clear hy9); go_wp2_with fail)
  refine hK.out _ _ (by with_reducible exact KS.facts (KS.below hHeld.2.2.2.2 hb9)) (fun hHeld => ?_)
  clear hK K
  refine wpAnyJ_take (i := 4) (oi := _) (v := ?_) rfl (by kernel_rfl) (by kernel_rfl) (by kernel_rfl) (by kernel_rfl) (by kernel_rfl) (fun _ _ _ h => h) (Or.inl ⟨by rfl, ?_⟩) (by assumption) ?_
  rotate_left
  · intro w hSw; (try dsimp only at hSw); go_simp; (try with_reducible rfl)
  try simp only [Act.put, List.setIfInBounds_toArray, List.set_cons_zero, List.set_cons_succ]
  refine wpAnyJ_take (i := 5) (oi := _) (v := ?_) rfl (by kernel_rfl) (by kernel_rfl) (by kernel_rfl) (by kernel_rfl) (by kernel_rfl) (fun _ _ _ h => h) (Or.inl ⟨by rfl, ?_⟩) (by assumption) ?_
  rotate_left
  · intro w hSw; (try dsimp only at hSw); go_simp; (try with_reducible rfl)
  try simp only [Act.put, List.setIfInBounds_toArray, List.set_cons_zero, List.set_cons_succ]
  refine wpAnyJ_loose (i := 6) (oi := _) (v := ?_) rfl (by kernel_rfl) (by kernel_rfl) (by kernel_rfl) (by decide) (fun _ _ _ h => h) (Or.inl ⟨by rfl, ?_⟩) (by assumption) ?_
  rotate_left
  · intro w hSw; (try dsimp only at hSw); go_simp; (try with_reducible rfl)
  try simp only [Act.put, List.setIfInBounds_toArray, List.set_cons_zero, List.set_cons_succ]
  refine wpAnyJ_end (o := _) (by kernel_rfl) (by kernel_rfl) rfl (fun K hK => ?_)
  go_simp
  refine hK.out _ _ ?_
  clear hK K
  refine wpAnyJ_done (by kernel_rfl) ?_ _
  have hKn := KS.next hHeld.2.2.2.2 hx9 hG
  clear hHeld hx9 hb9 hx8 hb8 hK
  generalize ((w9.setCell ⟨g3, 0, none⟩ (.bool s9)).setCell ⟨g3, 1, none⟩ (.slice A9 n9 c9)) = w10 at *
  obtain ⟨q0, q1, q2, q3, _⟩ := KS.facts hKn
  obtain ⟨kn, hxn, hBn⟩ := hKn
  have tokU : True := trivial
  go_wp2_with (first
    | (go_at_call 13; (with_reducible refine ((unhide hWW) _ _ hxn).mono ?_); rintro e w11 ⟨du, rfl, hdu, hb11⟩; have hB11 := below_tr hBn hb11 hBn.size; have k11 := kn.below hb11; obtain ⟨t0, t1, t2, t3, _⟩ := blk_facts k11; have hx11 := hxn.below hb11)
    | (go_at_call 10; (with_reducible refine ((unhide hL3) _ _ hx11).mono ?_); rintro e w12 ⟨rfl, hb12⟩; have hB12 := below_tr hB11 hb12 hB11.size; have hdu12 := hdu.below hb12))
  all_goals first | (go_ret; exact (unhide hP1) _ hB12) | (exfalso; simp at *; omega)
set_option maxRecDepth 100000 in
set_option maxHeartbeats 8000000 in
theorem lawS_12_tf_64 (w : World) (v : Value) (m : Int) (l : List Int) (h : RuS w v l) (hsz : l.length ≤ 2147483647) (p : Int) (hPr0 : ∀ W : World, Calls Try.prog 18 #[.int .i64 64] W fun e w' => e = .returned (.int .i64 p) ∧ Below W.heap.size W w') (hL : ∀ (W : World) (x : Value), Wd W x (sv l) → Calls Try.prog 10 #[.int .i64 64, x] W fun e w' => e = .returned (.bool false) ∧ Below W.heap.size W w') (hg : good 64 l = true) (hm0 : 0 ≤ m) (hm1 : m ≤ p) (hm9 : m ≤ 9) (T z : Int) (R : List Int) (hT : ∀ W : World, Calls Try.prog 20 #[.int .i64 m] W (PWide W T)) (hReg : ∀ (W : World) (x y : Value), Wd W x (sv l) → Wd W y T → Calls Try.prog 22 #[x, y] W (PDq W z)) (hWr : ∀ (W : World) (x : Value), Wd W x z → Calls Try.prog 13 #[.int .i64 64, x] W (PWB W true R)) (hL2 : ∀ (W : World) (x : Value), Wd W x z → Calls Try.prog 10 #[.int .i64 64, x] W fun e w' => e = .returned (.bool false) ∧ Below W.heap.size W w') (hU : ∀ W : World, Below w.heap.size w W → Calls Try.prog 17 #[.int .i64 64, v, .int .i64 m, .bool false, .bool false] W (PUn W R)) :
    Calls Try.prog 5 #[.int .i64 64, v, .int .i64 m, .bool false, .bool false] w (POut w) := by
  have hD := hide (fun (W : World) (hb : Below w.heap.size w W) => decS_any W _ 64 l (h.below hb))
  unfold PDc at hD
  rw [hg] at hD
  have hP := hide (fun (w4 : World) (hb : Below w.heap.size w w4) o => pout_box hb o)
  have hP1 := hide (fun (w4 : World) (hb : Below w.heap.size w w4) => pout_mk hb)
  have tokA : True := trivial
  have hPr := hide hPr0
  clear hPr0
  have hLL := hide hL
  clear hL
  have tokL : True := trivial
  have hTT := hide hT
  have hRR := hide hReg
  have hWW := hide hWr
  clear hT hReg hWr
  have hL3 := hide hL2
  clear hL2
  have hUU := hide hU
  clear hU
  obtain ⟨A, c, rfl, hc, _, _, hml⟩ := h
  unfold maxLen at hml
  generalize l.length = ln at *
  clear hg
  have hbig : ln ≤ 2147483647 := hsz
  clear hsz
  go_enter Try.func5, Try.ntmps5
  go_upto_region 12 with (first
    | (go_at_call 17; have _t := tokA; (with_reducible refine (sn_awake _ _ (by exact Blk.new _ _ rfl)).mono ?_); rintro e w1 ⟨m, rfl, hm, hb1⟩; have hB1 := below_tr ((Below.refl w.heap.size w).alloc (Nat.le_refl _) (.cells #[.int .u64 1] 27)) hb1 (by simp); clear tokA)
    | (go_at_call 8; (with_reducible refine (same_ten _ _ hm).mono ?_); rintro e w3 ⟨rfl, hb3⟩; have hB3 := below_tr hB1 hb3 hB1.size)
    | (go_at_call 9; (with_reducible refine ((unhide hD) _ hB3).mono ?_); rintro e w4 ⟨s, A4, n4, c4, rfl, hx, hb4⟩; have hB4 := below_tr hB3 hb4 hB3.size; have kb := Blk.new (w := w4) (g := w4.heap.size) 30 #[.bool s, .slice A4 n4 c4] rfl; obtain ⟨q0, q1, q2, q3, _⟩ := blk_facts kb; have hx5 := (hx (by first | rfl | trivial)).below ((Below.refl w4.heap.size w4).alloc (Nat.le_refl _) (.cells #[.bool s, .slice A4 n4 c4] 30)); have hB5 := hB4.alloc hB4.size (.cells #[.bool s, .slice A4 n4 c4] 30))
    | (go_at_call 18; (with_reducible refine ((unhide hPr) _).mono ?_); rintro e w6 ⟨rfl, hb6⟩; have hB6 := below_tr hB5 hb6 hB5.size; have k6 := kb.below hb6; obtain ⟨r0, r1, r2, r3, _⟩ := blk_facts k6; have hx6 := hx5.below hb6)
    | (go_at_call 10; have _t := tokL; (with_reducible refine ((unhide hLL) _ _ hx6).mono ?_); rintro e w7 ⟨rfl, hb7⟩; have hB7 := below_tr hB6 hb7 hB6.size; have k7 := k6.below hb7; obtain ⟨t0, t1, t2, t3, _⟩ := blk_facts k7; have hx7 := hx6.below hb7; clear tokL))
  have hK : KS w w4.heap.size s A4 n4 c4 (sv l) w7 := ⟨k7, hx7, hB7⟩
  have hG : w.heap.size ≤ w4.heap.size := hB4.size
  clear k7 hx7 hB7 hb7 t0 t1 t2 t3 hx6 k6 hb6 hB6 r0 r1 r2 r3 hx5 kb hB5 q0 q1 q2 q3 hx hb4 hB4 hb3 hB3 hm hb1 hB1
  generalize w4.heap.size = g3 at *
  refine wp_region_J (S := fun W => W.cell? ⟨g3, 0, none⟩ = some (.bool s) ∧ W.cell? ⟨g3, 1, none⟩ = some (.slice A4 n4 c4) ∧ W.frozen? ⟨g3, 0, none⟩ = false ∧ W.frozen? ⟨g3, 1, none⟩ = false ∧ KS w g3 s A4 n4 c4 (sv l) W) (k := 7) (by kernel_rfl) (by with_reducible exact KS.facts hK.drew) (fun hHeld => ?_)
  refine wpAnyJ_take (i := 0) (oi := _) (v := ?_) rfl (by kernel_rfl) (by kernel_rfl) (by kernel_rfl) (by kernel_rfl) (by kernel_rfl) (fun _ _ _ h => h) (Or.inl ⟨by rfl, ?_⟩) (by assumption) ?_
  rotate_left
  · intro w hSw; (try dsimp only at hSw); go_simp; (try with_reducible rfl)
  try simp only [Act.put, List.setIfInBounds_toArray, List.set_cons_zero, List.set_cons_succ]
  refine wpAnyJ_take (i := 1) (oi := _) (v := ?_) rfl (by kernel_rfl) (by kernel_rfl) (by kernel_rfl) (by kernel_rfl) (by kernel_rfl) (fun _ _ _ h => h) (Or.inl ⟨by rfl, ?_⟩) (by assumption) ?_
  rotate_left
  · intro w hSw; (try dsimp only at hSw); go_simp; (try with_reducible rfl)
  try simp only [Act.put, List.setIfInBounds_toArray, List.set_cons_zero, List.set_cons_succ]
  refine wpAnyJ_one (i := 2) (o := _) (by kernel_rfl) rfl (fun K hK => ?_)
  go_simp
  ((go_at_call 20; (with_reducible refine ((unhide hTT) _).mono ?_); rintro e w8 ⟨x8, rfl, hx8, hb8⟩; obtain ⟨s8, A8, n8, c8, rfl⟩ := hx8.form); go_wp2_with fail)
  refine hK.out _ _ (by with_reducible exact KS.facts (KS.below hHeld.2.2.2.2 hb8)) (fun hHeld => ?_)
  clear hK K
  refine wpAnyJ_one (i := 3) (o := _) (by kernel_rfl) rfl (fun K hK => ?_)
  go_simp
  ((go_at_call 22; (with_reducible refine ((unhide hRR) _ _ _ (KS.wd hHeld.2.2.2.2) hx8).mono ?_); rintro e w9 ⟨x9, y9, rfl, hx9, ⟨r9, hy9⟩, hb9⟩; obtain ⟨s9, A9, n9, c9, rfl⟩ := hx9.form; obtain ⟨t9, B9, m9, d9, rfl⟩ := hy9.form; clear hy9); go_wp2_with fail)
  refine hK.out _ _ (by with_reducible exact KS.facts (KS.below hHeld.2.2.2.2 hb9)) (fun hHeld => ?_)
  clear hK K
  refine wpAnyJ_take (i := 4) (oi := _) (v := ?_) rfl (by kernel_rfl) (by kernel_rfl) (by kernel_rfl) (by kernel_rfl) (by kernel_rfl) (fun _ _ _ h => h) (Or.inl ⟨by rfl, ?_⟩) (by assumption) ?_
  rotate_left
  · intro w hSw; (try dsimp only at hSw); go_simp; (try with_reducible rfl)
  try simp only [Act.put, List.setIfInBounds_toArray, List.set_cons_zero, List.set_cons_succ]
  refine wpAnyJ_take (i := 5) (oi := _) (v := ?_) rfl (by kernel_rfl) (by kernel_rfl) (by kernel_rfl) (by kernel_rfl) (by kernel_rfl) (fun _ _ _ h => h) (Or.inl ⟨by rfl, ?_⟩) (by assumption) ?_
  rotate_left
  · intro w hSw; (try dsimp only at hSw); go_simp; (try with_reducible rfl)
  try simp only [Act.put, List.setIfInBounds_toArray, List.set_cons_zero, List.set_cons_succ]
  refine wpAnyJ_loose (i := 6) (oi := _) (v := ?_) rfl (by kernel_rfl) (by kernel_rfl) (by kernel_rfl) (by decide) (fun _ _ _ h => h) (Or.inl ⟨by rfl, ?_⟩) (by assumption) ?_
  rotate_left
  · intro w hSw; (try dsimp only at hSw); go_simp; (try with_reducible rfl)
  try simp only [Act.put, List.setIfInBounds_toArray, List.set_cons_zero, List.set_cons_succ]
  refine wpAnyJ_end (o := _) (by kernel_rfl) (by kernel_rfl) rfl (fun K hK => ?_)
  go_simp
  refine hK.out _ _ ?_
  clear hK K
  refine wpAnyJ_done (by kernel_rfl) ?_ _
  have hKn := KS.next hHeld.2.2.2.2 hx9 hG
  clear hHeld hx9 hb9 hx8 hb8 hK
  generalize ((w9.setCell ⟨g3, 0, none⟩ (.bool s9)).setCell ⟨g3, 1, none⟩ (.slice A9 n9 c9)) = w10 at *
  obtain ⟨q0, q1, q2, q3, _⟩ := KS.facts hKn
  obtain ⟨kn, hxn, hBn⟩ := hKn
  have tokU : True := trivial
  go_wp2_with (first
    | (go_at_call 13; (with_reducible refine ((unhide hWW) _ _ hxn).mono ?_); rintro e w11 ⟨du, rfl, hdu, hb11⟩; have hB11 := below_tr hBn hb11 hBn.size; have k11 := kn.below hb11; obtain ⟨t0, t1, t2, t3, _⟩ := blk_facts k11; have hx11 := hxn.below hb11)
    | (go_at_call 10; (with_reducible refine ((unhide hL3) _ _ hx11).mono ?_); rintro e w12 ⟨rfl, hb12⟩; have hB12 := below_tr hB11 hb12 hB11.size; have hdu12 := hdu.below hb12)
    | (go_at_call 17; (with_reducible refine ((unhide hUU) _ hB12).mono ?_); rintro e w13 ⟨gt, rfl, hgt, hb13⟩; have hB13 := below_tr hB12 hb13 hB12.size; have hdu13 := hdu12.below hb13)
    | (go_at_call 8; (with_reducible refine (same_any _ _ _ _ hgt hdu13).mono ?_); rintro e w14 ⟨rfl, hb14⟩; have hB14 := below_tr hB13 hb14 hB13.size))
  all_goals first | (go_ret; exact (unhide hP1) _ hB14) | (exfalso; simp at *; omega)
theorem ten_le (n : Nat) (h : n ≤ 18) : 10 ^ n ≤ 1000000000000000000 := by
  have : (10 : Nat) ^ n ≤ 10 ^ 18 := Nat.pow_le_pow_right (by decide) h
  omega
theorem big98 : (9223372036854775808000000000000000000 : Int) < bp 98 := by decide +kernel
theorem svS_bd (width : Int) (l : List Int) (hg : good width l = true) (h64 : Sm64 l) (hw : width = 32 ∨ width = 64) : -9223372036854775808 ≤ sv l ∧ sv l ≤ 9223372036854775807 := by
  obtain ⟨_, hl⟩ := goodS_len hg
  obtain ⟨x, rfl⟩ : ∃ x, l = [x] := List.length_eq_one_iff.1 (by rw [hl]; rcases hw with rfl | rfl <;> decide)
  obtain ⟨h1, h2⟩ := h64 x (by simp)
  rw [sv_one x h1 h2]
  unfold wrap64; omega
theorem sclU_bd (z : Int) (n : Nat) (hz : -9223372036854775808 ≤ z ∧ z ≤ 9223372036854775807) (hn : n ≤ 18) : -bp 100 < z * 10 ^ n ∧ z * 10 ^ n < bp 100 := by
  have h1 : (z * 10 ^ n).natAbs ≤ 9223372036854775808 * 1000000000000000000 := by
    rw [Int.natAbs_mul, ← ten_cast n, Int.natAbs_natCast]
    exact Nat.mul_le_mul (by omega) (ten_le n hn)
  have h2 := big98
  have h3 := bp_le (m := 98) (n := 100) (by omega)
  omega
theorem tenS_pos (n : Nat) : (0 : Int) < 10 ^ n := Int.pow_pos (by decide)
theorem wrS_of {w : World} {width z : Int} {v : Value} {b : Bool} (h : Wd w v z) (hI : wIs width = true) (hb : wrb width z = b) : Calls Try.prog 13 #[.int .i64 width, v] w (PWB w b (wrl width z)) := by
  subst hb
  exact wrapped_any w v z width h hI
theorem mainS_9_32 (w : World) (v : Value) (r : Bool) (n : Nat) (l : List Int) (h : RuS w v l) (hg : good 32 l = true) (hn : n ≤ 9) (f : Int → Bool) (hf : ∀ (W : World) (x : Value) (z : Int), Wd W x z → Calls Try.prog 10 #[.int .i64 32, x] W fun e w' => e = .returned (.bool (f z)) ∧ Below W.heap.size W w') (hf0 : f (sv l) = false) :
    Calls Try.prog 5 #[.int .i64 32, v, .int .i64 (n : Int), .bool true, .bool r] w (POut w) := by
  have h64 : Sm64 l := by obtain ⟨_, _, _, _, _, h, _⟩ := id h; exact h
  have hlen := goodS_len hg
  have hbd := svS_bd 32 l hg h64 (by omega)
  have hsz : l.length ≤ 1000000 := by have := wNS_le 32; omega
  have hPr : ∀ W : World, Calls Try.prog 18 #[.int .i64 32] W fun e w' => e = .returned (.int .i64 9) ∧ Below W.heap.size W w' := fun W => prec_any W _ _ (by omega)
  have hL : ∀ (W : World) (x : Value), Wd W x (sv l) → Calls Try.prog 10 #[.int .i64 32, x] W fun e w' => e = .returned (.bool false) ∧ Below W.heap.size W w' := fun W x hx => by rw [← hf0]; exact hf W x _ hx
  have hT : ∀ W : World, Calls Try.prog 20 #[.int .i64 (n : Int)] W (PWide W (10 ^ n)) := fun W => Ten_any W n (by omega)
  have hR : ∀ (W : World) (x y : Value), Wd W x (sv l) → Wd W y (10 ^ n) → Calls Try.prog 19 #[x, y] W (PWide W (scl true r (sv l) n)) := fun W x y hx hy => WideMul_any W x y _ _ hx hy (sclU_bd _ n hbd (by omega)).1 (sclU_bd _ n hbd (by omega)).2
  cases hb : wrb 32 (scl true r (sv l) n)
  case false => exact lawS_9_ff_32 w v _ r l h (by omega) _ hPr hL hg (by omega) (by omega) _ _ (wrl 32 (scl true r (sv l) n)) hT hR (fun W x hx => wrS_of hx hlen.1 hb)
  case true =>
    cases hc : f (scl true r (sv l) n)
    case true => exact lawS_9_tt_32 w v _ r l h (by omega) _ hPr hL hg (by omega) (by omega) _ _ (wrl 32 (scl true r (sv l) n)) hT hR (fun W x hx => wrS_of hx hlen.1 hb) (fun W x hx => by rw [← hc]; exact hf W x _ hx)
    case false => exact lawS_9_tf_32 w v _ r l h (by omega) _ hPr hL hg (by omega) (by omega) _ _ (wrl 32 (scl true r (sv l) n)) hT hR (fun W x hx => wrS_of hx hlen.1 hb) (fun W x hx => by rw [← hc]; exact hf W x _ hx) (fun W hW => decSN_any W v 32 true r n l ((h.rd hsz).below hW) h64 hg (by omega) (by omega) (fun _ => by first | omega | simp_all))
theorem mainS_11_32 (w : World) (v : Value) (n : Nat) (l : List Int) (h : RuS w v l) (hg : good 32 l = true) (hn : n ≤ 9) (f : Int → Bool) (hf : ∀ (W : World) (x : Value) (z : Int), Wd W x z → Calls Try.prog 10 #[.int .i64 32, x] W fun e w' => e = .returned (.bool (f z)) ∧ Below W.heap.size W w') (hf0 : f (sv l) = false) :
    Calls Try.prog 5 #[.int .i64 32, v, .int .i64 (n : Int), .bool false, .bool true] w (POut w) := by
  have h64 : Sm64 l := by obtain ⟨_, _, _, _, _, h, _⟩ := id h; exact h
  have hlen := goodS_len hg
  have hbd := svS_bd 32 l hg h64 (by omega)
  have hsz : l.length ≤ 1000000 := by have := wNS_le 32; omega
  have hPr : ∀ W : World, Calls Try.prog 18 #[.int .i64 32] W fun e w' => e = .returned (.int .i64 9) ∧ Below W.heap.size W w' := fun W => prec_any W _ _ (by omega)
  have hL : ∀ (W : World) (x : Value), Wd W x (sv l) → Calls Try.prog 10 #[.int .i64 32, x] W fun e w' => e = .returned (.bool false) ∧ Below W.heap.size W w' := fun W x hx => by rw [← hf0]; exact hf W x _ hx
  have hT : ∀ W : World, Calls Try.prog 20 #[.int .i64 (n : Int)] W (PWide W (10 ^ n)) := fun W => Ten_any W n (by omega)
  have hR : ∀ (W : World) (x y : Value), Wd W x (sv l) → Wd W y (10 ^ n) → Calls Try.prog 21 #[x, y, .int .i64 1] W (PWide W (scl false true (sv l) n)) := fun W x y hx hy => WideRound_any W x y _ _ hx hy (tenS_pos n) (by have := big98; omega) (by have := big98; omega)
  cases hb : wrb 32 (scl false true (sv l) n)
  case false => exact lawS_11_ff_32 w v _ l h (by omega) _ hPr hL hg (by omega) (by omega) (by omega) _ _ (wrl 32 (scl false true (sv l) n)) hT hR (fun W x hx => wrS_of hx hlen.1 hb)
  case true =>
    cases hc : f (scl false true (sv l) n)
    case true => exact lawS_11_tt_32 w v _ l h (by omega) _ hPr hL hg (by omega) (by omega) (by omega) _ _ (wrl 32 (scl false true (sv l) n)) hT hR (fun W x hx => wrS_of hx hlen.1 hb) (fun W x hx => by rw [← hc]; exact hf W x _ hx)
    case false => exact lawS_11_tf_32 w v _ l h (by omega) _ hPr hL hg (by omega) (by omega) (by omega) _ _ (wrl 32 (scl false true (sv l) n)) hT hR (fun W x hx => wrS_of hx hlen.1 hb) (fun W x hx => by rw [← hc]; exact hf W x _ hx) (fun W hW => decSN_any W v 32 false true n l ((h.rd hsz).below hW) h64 hg (by omega) (by omega) (fun _ => by first | omega | simp_all))
theorem mainS_12_32 (w : World) (v : Value) (n : Nat) (l : List Int) (h : RuS w v l) (hg : good 32 l = true) (hn : n ≤ 9) (f : Int → Bool) (hf : ∀ (W : World) (x : Value) (z : Int), Wd W x z → Calls Try.prog 10 #[.int .i64 32, x] W fun e w' => e = .returned (.bool (f z)) ∧ Below W.heap.size W w') (hf0 : f (sv l) = false) :
    Calls Try.prog 5 #[.int .i64 32, v, .int .i64 (n : Int), .bool false, .bool false] w (POut w) := by
  have h64 : Sm64 l := by obtain ⟨_, _, _, _, _, h, _⟩ := id h; exact h
  have hlen := goodS_len hg
  have hbd := svS_bd 32 l hg h64 (by omega)
  have hsz : l.length ≤ 1000000 := by have := wNS_le 32; omega
  have hPr : ∀ W : World, Calls Try.prog 18 #[.int .i64 32] W fun e w' => e = .returned (.int .i64 9) ∧ Below W.heap.size W w' := fun W => prec_any W _ _ (by omega)
  have hL : ∀ (W : World) (x : Value), Wd W x (sv l) → Calls Try.prog 10 #[.int .i64 32, x] W fun e w' => e = .returned (.bool false) ∧ Below W.heap.size W w' := fun W x hx => by rw [← hf0]; exact hf W x _ hx
  have hT : ∀ W : World, Calls Try.prog 20 #[.int .i64 (n : Int)] W (PWide W (10 ^ n)) := fun W => Ten_any W n (by omega)
  have hR : ∀ (W : World) (x y : Value), Wd W x (sv l) → Wd W y (10 ^ n) → Calls Try.prog 22 #[x, y] W (PDq W (scl false false (sv l) n)) := fun W x y hx hy => (WideDiv_any W x y _ _ hx hy (by have := tenS_pos n; omega)).mono fun e w' ⟨a, b, he, ha, hb, hc⟩ => ⟨a, b, he, ha, ⟨_, hb⟩, hc⟩
  cases hb : wrb 32 (scl false false (sv l) n)
  case false => exact lawS_12_ff_32 w v _ l h (by omega) _ hPr hL hg (by omega) (by omega) (by omega) _ _ (wrl 32 (scl false false (sv l) n)) hT hR (fun W x hx => wrS_of hx hlen.1 hb)
  case true =>
    cases hc : f (scl false false (sv l) n)
    case true => exact lawS_12_tt_32 w v _ l h (by omega) _ hPr hL hg (by omega) (by omega) (by omega) _ _ (wrl 32 (scl false false (sv l) n)) hT hR (fun W x hx => wrS_of hx hlen.1 hb) (fun W x hx => by rw [← hc]; exact hf W x _ hx)
    case false => exact lawS_12_tf_32 w v _ l h (by omega) _ hPr hL hg (by omega) (by omega) (by omega) _ _ (wrl 32 (scl false false (sv l) n)) hT hR (fun W x hx => wrS_of hx hlen.1 hb) (fun W x hx => by rw [← hc]; exact hf W x _ hx) (fun W hW => decSN_any W v 32 false false n l ((h.rd hsz).below hW) h64 hg (by omega) (by omega) (fun _ => by first | omega | simp_all))
theorem mainS_9_64 (w : World) (v : Value) (r : Bool) (n : Nat) (l : List Int) (h : RuS w v l) (hg : good 64 l = true) (hn : n ≤ 18) (f : Int → Bool) (hf : ∀ (W : World) (x : Value) (z : Int), Wd W x z → Calls Try.prog 10 #[.int .i64 64, x] W fun e w' => e = .returned (.bool (f z)) ∧ Below W.heap.size W w') (hf0 : f (sv l) = false) :
    Calls Try.prog 5 #[.int .i64 64, v, .int .i64 (n : Int), .bool true, .bool r] w (POut w) := by
  have h64 : Sm64 l := by obtain ⟨_, _, _, _, _, h, _⟩ := id h; exact h
  have hlen := goodS_len hg
  have hbd := svS_bd 64 l hg h64 (by omega)
  have hsz : l.length ≤ 1000000 := by have := wNS_le 64; omega
  have hPr : ∀ W : World, Calls Try.prog 18 #[.int .i64 64] W fun e w' => e = .returned (.int .i64 18) ∧ Below W.heap.size W w' := fun W => prec_any W _ _ (by omega)
  have hL : ∀ (W : World) (x : Value), Wd W x (sv l) → Calls Try.prog 10 #[.int .i64 64, x] W fun e w' => e = .returned (.bool false) ∧ Below W.heap.size W w' := fun W x hx => by rw [← hf0]; exact hf W x _ hx
  have hT : ∀ W : World, Calls Try.prog 20 #[.int .i64 (n : Int)] W (PWide W (10 ^ n)) := fun W => Ten_any W n (by omega)
  have hR : ∀ (W : World) (x y : Value), Wd W x (sv l) → Wd W y (10 ^ n) → Calls Try.prog 19 #[x, y] W (PWide W (scl true r (sv l) n)) := fun W x y hx hy => WideMul_any W x y _ _ hx hy (sclU_bd _ n hbd (by omega)).1 (sclU_bd _ n hbd (by omega)).2
  cases hb : wrb 64 (scl true r (sv l) n)
  case false => exact lawS_9_ff_64 w v _ r l h (by omega) _ hPr hL hg (by omega) (by omega) _ _ (wrl 64 (scl true r (sv l) n)) hT hR (fun W x hx => wrS_of hx hlen.1 hb)
  case true =>
    cases hc : f (scl true r (sv l) n)
    case true => exact lawS_9_tt_64 w v _ r l h (by omega) _ hPr hL hg (by omega) (by omega) _ _ (wrl 64 (scl true r (sv l) n)) hT hR (fun W x hx => wrS_of hx hlen.1 hb) (fun W x hx => by rw [← hc]; exact hf W x _ hx)
    case false => exact lawS_9_tf_64 w v _ r l h (by omega) _ hPr hL hg (by omega) (by omega) _ _ (wrl 64 (scl true r (sv l) n)) hT hR (fun W x hx => wrS_of hx hlen.1 hb) (fun W x hx => by rw [← hc]; exact hf W x _ hx) (fun W hW => decSN_any W v 64 true r n l ((h.rd hsz).below hW) h64 hg (by omega) (by omega) (fun _ => by first | omega | simp_all))
theorem mainS_11_64 (w : World) (v : Value) (n : Nat) (l : List Int) (h : RuS w v l) (hg : good 64 l = true) (hn : n ≤ 9) (f : Int → Bool) (hf : ∀ (W : World) (x : Value) (z : Int), Wd W x z → Calls Try.prog 10 #[.int .i64 64, x] W fun e w' => e = .returned (.bool (f z)) ∧ Below W.heap.size W w') (hf0 : f (sv l) = false) :
    Calls Try.prog 5 #[.int .i64 64, v, .int .i64 (n : Int), .bool false, .bool true] w (POut w) := by
  have h64 : Sm64 l := by obtain ⟨_, _, _, _, _, h, _⟩ := id h; exact h
  have hlen := goodS_len hg
  have hbd := svS_bd 64 l hg h64 (by omega)
  have hsz : l.length ≤ 1000000 := by have := wNS_le 64; omega
  have hPr : ∀ W : World, Calls Try.prog 18 #[.int .i64 64] W fun e w' => e = .returned (.int .i64 18) ∧ Below W.heap.size W w' := fun W => prec_any W _ _ (by omega)
  have hL : ∀ (W : World) (x : Value), Wd W x (sv l) → Calls Try.prog 10 #[.int .i64 64, x] W fun e w' => e = .returned (.bool false) ∧ Below W.heap.size W w' := fun W x hx => by rw [← hf0]; exact hf W x _ hx
  have hT : ∀ W : World, Calls Try.prog 20 #[.int .i64 (n : Int)] W (PWide W (10 ^ n)) := fun W => Ten_any W n (by omega)
  have hR : ∀ (W : World) (x y : Value), Wd W x (sv l) → Wd W y (10 ^ n) → Calls Try.prog 21 #[x, y, .int .i64 1] W (PWide W (scl false true (sv l) n)) := fun W x y hx hy => WideRound_any W x y _ _ hx hy (tenS_pos n) (by have := big98; omega) (by have := big98; omega)
  cases hb : wrb 64 (scl false true (sv l) n)
  case false => exact lawS_11_ff_64 w v _ l h (by omega) _ hPr hL hg (by omega) (by omega) (by omega) _ _ (wrl 64 (scl false true (sv l) n)) hT hR (fun W x hx => wrS_of hx hlen.1 hb)
  case true =>
    cases hc : f (scl false true (sv l) n)
    case true => exact lawS_11_tt_64 w v _ l h (by omega) _ hPr hL hg (by omega) (by omega) (by omega) _ _ (wrl 64 (scl false true (sv l) n)) hT hR (fun W x hx => wrS_of hx hlen.1 hb) (fun W x hx => by rw [← hc]; exact hf W x _ hx)
    case false => exact lawS_11_tf_64 w v _ l h (by omega) _ hPr hL hg (by omega) (by omega) (by omega) _ _ (wrl 64 (scl false true (sv l) n)) hT hR (fun W x hx => wrS_of hx hlen.1 hb) (fun W x hx => by rw [← hc]; exact hf W x _ hx) (fun W hW => decSN_any W v 64 false true n l ((h.rd hsz).below hW) h64 hg (by omega) (by omega) (fun _ => by first | omega | simp_all))
theorem mainS_12_64 (w : World) (v : Value) (n : Nat) (l : List Int) (h : RuS w v l) (hg : good 64 l = true) (hn : n ≤ 9) (f : Int → Bool) (hf : ∀ (W : World) (x : Value) (z : Int), Wd W x z → Calls Try.prog 10 #[.int .i64 64, x] W fun e w' => e = .returned (.bool (f z)) ∧ Below W.heap.size W w') (hf0 : f (sv l) = false) :
    Calls Try.prog 5 #[.int .i64 64, v, .int .i64 (n : Int), .bool false, .bool false] w (POut w) := by
  have h64 : Sm64 l := by obtain ⟨_, _, _, _, _, h, _⟩ := id h; exact h
  have hlen := goodS_len hg
  have hbd := svS_bd 64 l hg h64 (by omega)
  have hsz : l.length ≤ 1000000 := by have := wNS_le 64; omega
  have hPr : ∀ W : World, Calls Try.prog 18 #[.int .i64 64] W fun e w' => e = .returned (.int .i64 18) ∧ Below W.heap.size W w' := fun W => prec_any W _ _ (by omega)
  have hL : ∀ (W : World) (x : Value), Wd W x (sv l) → Calls Try.prog 10 #[.int .i64 64, x] W fun e w' => e = .returned (.bool false) ∧ Below W.heap.size W w' := fun W x hx => by rw [← hf0]; exact hf W x _ hx
  have hT : ∀ W : World, Calls Try.prog 20 #[.int .i64 (n : Int)] W (PWide W (10 ^ n)) := fun W => Ten_any W n (by omega)
  have hR : ∀ (W : World) (x y : Value), Wd W x (sv l) → Wd W y (10 ^ n) → Calls Try.prog 22 #[x, y] W (PDq W (scl false false (sv l) n)) := fun W x y hx hy => (WideDiv_any W x y _ _ hx hy (by have := tenS_pos n; omega)).mono fun e w' ⟨a, b, he, ha, hb, hc⟩ => ⟨a, b, he, ha, ⟨_, hb⟩, hc⟩
  cases hb : wrb 64 (scl false false (sv l) n)
  case false => exact lawS_12_ff_64 w v _ l h (by omega) _ hPr hL hg (by omega) (by omega) (by omega) _ _ (wrl 64 (scl false false (sv l) n)) hT hR (fun W x hx => wrS_of hx hlen.1 hb)
  case true =>
    cases hc : f (scl false false (sv l) n)
    case true => exact lawS_12_tt_64 w v _ l h (by omega) _ hPr hL hg (by omega) (by omega) (by omega) _ _ (wrl 64 (scl false false (sv l) n)) hT hR (fun W x hx => wrS_of hx hlen.1 hb) (fun W x hx => by rw [← hc]; exact hf W x _ hx)
    case false => exact lawS_12_tf_64 w v _ l h (by omega) _ hPr hL hg (by omega) (by omega) (by omega) _ _ (wrl 64 (scl false false (sv l) n)) hT hR (fun W x hx => wrS_of hx hlen.1 hb) (fun W x hx => by rw [← hc]; exact hf W x _ hx) (fun W hW => decSN_any W v 64 false false n l ((h.rd hsz).below hW) h64 hg (by omega) (by omega) (fun _ => by first | omega | simp_all))
theorem lawS_any (w : World) (v : Value) (width m : Int) (up r : Bool) (l : List Int) (h : RuS w v l) : Calls Try.prog 5 #[.int .i64 width, v, .int .i64 m, .bool up, .bool r] w (POut w) := by
  by_cases hbig : 2147483647 < l.length
  · exact lawS_big w v width m up r l h hbig
  have hsz : l.length ≤ 2147483647 := by omega
  cases hg : good width l
  case false => exact lawS_bad w v width m up r l h hsz hg
  case true =>
  by_cases hm0 : m < 0
  · exact lawS_neg w v width m up r l h hsz hg hm0
  obtain ⟨hI, hlen⟩ := goodS_len hg
  obtain ⟨f, hf⟩ := least_w width hI
  unfold wIs at hI
  simp only [decide_eq_true_eq] at hI
  obtain ⟨p, hp⟩ : ∃ p : Int, (width = 32 ∧ p = 9) ∨ (width = 64 ∧ p = 18) ∨ (width = 128 ∧ p = 38) ∨ (width = 256 ∧ p = 76) := by
    rcases hI with rfl | rfl | rfl | rfl
    · exact ⟨9, by omega⟩
    · exact ⟨18, by omega⟩
    · exact ⟨38, by omega⟩
    · exact ⟨76, by omega⟩
  have hPr : ∀ W : World, Calls Try.prog 18 #[.int .i64 width] W fun e w' => e = .returned (.int .i64 p) ∧ Below W.heap.size W w' := fun W => prec_any W _ _ hp
  by_cases hm1 : p < m
  · exact lawS_prec w v width m up r l h hsz p hPr hg (by omega) hm1
  cases hf0 : f (sv l)
  case true => exact lawS_least w v width m up r l h hsz p hPr (fun W x hx => by rw [← hf0]; exact hf W x _ hx) hg (by omega) (by omega)
  case false =>
  have hL : ∀ (W : World) (x : Value), Wd W x (sv l) → Calls Try.prog 10 #[.int .i64 width, x] W fun e w' => e = .returned (.bool false) ∧ Below W.heap.size W w' := fun W x hx => by rw [← hf0]; exact hf W x _ hx
  by_cases hw : 64 < width
  · exact lawS_wide w v width m up r l h hsz p hPr hL hg (by omega) (by omega) hw
  obtain ⟨n, rfl⟩ : ∃ n : Nat, m = (n : Int) := ⟨m.toNat, by omega⟩
  by_cases h32 : width = 32
  · subst h32
    cases up
    · cases r
      · exact mainS_12_32 w v n l h hg (by omega) f hf hf0
      · exact mainS_11_32 w v n l h hg (by omega) f hf hf0
    · exact mainS_9_32 w v r n l h hg (by omega) f hf hf0
  obtain rfl : width = 64 := by omega
  cases up
  · by_cases h9 : 9 < (n : Int)
    · exact lawS_nine w v n r l h hsz p hPr hL hg (by omega) (by omega) h9
    cases r
    · exact mainS_12_64 w v n l h hg (by omega) f hf hf0
    · exact mainS_11_64 w v n l h hg (by omega) f hf hf0
  · exact mainS_9_64 w v r n l h hg (by omega) f hf hf0
set_option maxRecDepth 100000 in
theorem lifted5 (os : Os) (started : os.Started) (H : Type) (enc : TypeId × Value → H) :
    ReturnsInHanded {} Try.checked os 5 .any (Rows.fnDecScaledNarrowSpec.pre6 enc Try.prog Try.f5 Rows.fnDecScaledNarrowRow.domain false) (Rows.fnDecScaledNarrowSpec.post enc Try.prog Try.f5 false true false false) := by
  refine returnsInHanded_of_change (C := Try.checked) Try.own' started (by kernel_rfl) Try.func5
    (ChangeSpec.witness6 (enc := enc) (C := Try.checked) false ⟨#[], #[.int .i64 0, .slice none 0 0, .int .i64 0, .bool false, .bool false], []⟩ 8 (by kernel_rfl) (by kernel_rfl) (by kernel_rfl) (by kernel_rfl)) ?_
  intro W base args ds gs before hval0 hW hcnd _
  have hval : ∀ (j : Nat) t v, Try.f5.params[j]? = some t → args[j]? = some v → Value.okWide Try.prog W .any base t v := hval0
  have hW' := hW
  obtain ⟨p, q, hA0, hV, rfl, hfz, hnd⟩ := hW
  have hA : DataW.TrodAll enc Try.prog W 0 (fun _ => true) true Try.f5.params.toList args.toList ds p := hA0
  rw [Try.params5] at hA hval
  obtain ⟨v0, vs0, d0, ds0, p0, q0, hargs, rfl, rfl, h0, r0⟩ := trodAll_cons hA
  obtain ⟨v1, vs1, d1, ds1, p1, q1, rfl, rfl, rfl, h1, r1⟩ := trodAll_cons r0
  obtain ⟨v2, vs2, d2, ds2, p2, q2, rfl, rfl, rfl, h2, r2⟩ := trodAll_cons r1
  obtain ⟨v3, vs3, d3, ds3, p3, q3, rfl, rfl, rfl, h3, r3⟩ := trodAll_cons r2
  obtain ⟨v4, vs4, d4, ds4, p4, q4, rfl, rfl, rfl, h4, r4⟩ := trodAll_cons r3
  obtain ⟨rfl, rfl, rfl⟩ := trodAll_nil r4
  obtain rfl : args = #[v0, v1, v2, v3, v4] := by cases args; simp_all
  obtain ⟨rfl, rfl⟩ := trodVars_none hV
  obtain ⟨wd, rfl, _, _, _⟩ := open_int Try.underlying3 (hval 0 3 v0 rfl rfl) h0
  obtain ⟨A, c, l, hv1, hc, h64, hsl, hn⟩ := open_u64 Try.underlying22 Try.underlying27 (by kernel_rfl) (okWide_slice Try.underlying22 (hval 1 22 v1 rfl rfl)) h1
  obtain ⟨m, rfl, _, _, _⟩ := open_int Try.underlying3 (hval 2 3 v2 rfl rfl) h2
  obtain ⟨up, rfl, _, _⟩ := open_bool Try.underlying4 (hval 3 4 v3 rfl rfl) h3
  obtain ⟨r, rfl, _, _⟩ := open_bool Try.underlying4 (hval 4 4 v4 rfl rfl) h4
  clear hA0 hval0
  refine (lawS_any W v1 wd m up r l ⟨A, c, hv1, hc, hsl, h64, hn⟩).mono fun e W' ⟨he, hb⟩ => ?_
  subst he
  exact ⟨_, rfl, law_post Try.laidOut' (by kernel_rfl) (by kernel_rfl) (by kernel_rfl) Try.underlying4 hW' hb ⟨rfl, rfl, rfl⟩⟩
theorem fnDecScaledNarrow_over : Rows.fnDecScaledNarrowRow.holds Try.pinned (OpenSpec.ofChange Rows.fnDecScaledNarrowSpec) :=
  OpenClaim.holds_of_wide 5 Try.f5 rfl rfl rfl rfl rfl rfl rfl ⟨rfl, rfl, rfl, rfl, rfl⟩ rfl rfl rfl rfl rfl (by kernel_rfl) Try.func5 (by kernel_rfl)
    (of_decide_eq_true (by kernel_rfl)) (by unfold Func.isWrapper; first | (rw [if_pos (by decide +kernel)]; kernel_rfl) | (rw [if_neg (by decide +kernel)]; exact ⟨rfl, rfl⟩))
    (fun os started H enc _ => lifted5 os started H enc)
/-- THE STATEMENT -/
theorem fnDecScaledNarrow.proved : Rows.FnDecScaledNarrowSaid := fnDecScaledNarrow_over
#print axioms fnDecScaledNarrow.proved
end Go.Proofs.Ytajjnlneacoooaa
