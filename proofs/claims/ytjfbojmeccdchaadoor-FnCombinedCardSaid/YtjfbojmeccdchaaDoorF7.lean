/- The five operations: their closures. Bytes read as words. Bytes combined one by one, and by words: plain facts. (YtjfbojmeccdchaaDoor) -/
import Derived.Test.YtjfbojmeccdchaaDoorF6
import Derived.Test.YtjfbojmeccdchaaDoorF2
import Derived.Test.YtjfbojmeccdchaaDoorF1
set_option linter.unusedVariables false
set_option linter.unusedSimpArgs false
namespace Go.Proofs.YtjfbojmeccdchaaDoor
section
open Go.ChangeShapes Go.WideShapes Go.ChangeAt Go.RowKit
theorem run_store_fn (P : Program) (w : World) (a : Addr) (f : Fn) (x y : Array Value) (m : Mode) : (store a (.func f x y) m).run P w = stored P w a (.func f x y) m := run_store P w a _ m rfl
attribute [local go_sem] run_store_fn
theorem notu64 (z : Nat) (hz : z < 18446744073709551616) : bits .xor .u64 IntKind.u64.max (z : Int) = ((18446744073709551615 - z : Nat) : Int) := by
  have h : bits .xor .u64 ((18446744073709551615 : Nat) : Int) (z : Int) = ((18446744073709551615 ^^^ z : Nat) : Int) := u64_xor_nat 18446744073709551615 z (by decide) hz
  have e : 18446744073709551615 ^^^ z = 18446744073709551615 - z := by
    apply Nat.eq_of_testBit_eq
    intro j
    have hm : (18446744073709551615 : Nat).testBit j = decide (j < 64) := by
      have : (18446744073709551615 : Nat) = 2 ^ 64 - 1 := by decide
      rw [this, Nat.testBit_two_pow_sub_one]
    rw [Nat.testBit_xor, hm]
    by_cases hj : j < 64
    · rw [tb_not64 z j hz hj, decide_eq_true hj]; simp
    · have big : ∀ x, x < 18446744073709551616 → x.testBit j = false := fun x hx => Nat.testBit_lt_two_pow (Nat.lt_of_lt_of_le (show x < 2 ^ 64 from hx) (Nat.pow_le_pow_right (by decide) (by omega)))
      rw [big z hz, big _ (by omega), decide_eq_false hj]; rfl
  rw [← e]; exact h
theorem opW_0 : OpW 0 35 := by
  intro W x y hx hy
  have HH := hide (u64_and_nat x y hx hy)
  go_enter Tryd.func35, Tryd.ntmps35
  go_wp2
  go_ret
  exact ⟨ret_int (unhide HH), rfl⟩
theorem opB_0 : OpB 0 36 := by
  intro W x y hx hy
  have HH := hide (u8_and_nat x y hx hy)
  go_enter Tryd.func36, Tryd.ntmps36
  go_wp2
  go_ret
  exact ⟨ret_int (unhide HH), rfl⟩
theorem mkOp_0 (w : World) : Calls Tryd.prog 27 #[] w fun e w' => e = .returned (.agg #[fnV 35, fnV 36, fnV 37]) ∧ Mod [] w w' := by
  have k := Blk.new (w := w) (g := w.heap.size) 47 #[.func (.func 35) #[] #[], .func (.func 36) #[] #[], .func (.func 37) #[] #[]] rfl
  have x0 := hide (k.cell 0)
  have x1 := hide (k.cell 1)
  have x2 := hide (k.cell 2)
  clear k
  go_enter Tryd.func27, Tryd.ntmps27
  go_wp2_with fail
  have x0 := unhide x0
  have x1 := unhide x1
  have x2 := unhide x2
  refine bodyPost_ret (v := .agg #[fnV 35, fnV 36, fnV 37]) (by simp [results, Tryd.results27, go_sem]) rfl ?_
  exact ⟨rfl, by (repeat' (first | (with_reducible exact Mod.refl _ _) | (with_reducible assumption) | (with_reducible refine Mod.drew ?_) | (with_reducible refine Mod.drewN ?_ _) | (with_reducible refine Mod.alloc ?_ _) | (with_reducible refine Mod.setCell ?_ ?_ _) | (left; simp; done) | (right; first | omega | (simp; omega) | (simp; done))))⟩
theorem opW_1 : OpW 1 38 := by
  intro W x y hx hy
  have HH := hide (u64_or_nat x y hx hy)
  go_enter Tryd.func38, Tryd.ntmps38
  go_wp2
  go_ret
  exact ⟨ret_int (unhide HH), rfl⟩
theorem opB_1 : OpB 1 39 := by
  intro W x y hx hy
  have HH := hide (u8_or_nat x y hx hy)
  go_enter Tryd.func39, Tryd.ntmps39
  go_wp2
  go_ret
  exact ⟨ret_int (unhide HH), rfl⟩
theorem mkOp_1 (w : World) : Calls Tryd.prog 28 #[] w fun e w' => e = .returned (.agg #[fnV 38, fnV 39, fnV 40]) ∧ Mod [] w w' := by
  have k := Blk.new (w := w) (g := w.heap.size) 47 #[.func (.func 38) #[] #[], .func (.func 39) #[] #[], .func (.func 40) #[] #[]] rfl
  have x0 := hide (k.cell 0)
  have x1 := hide (k.cell 1)
  have x2 := hide (k.cell 2)
  clear k
  go_enter Tryd.func28, Tryd.ntmps28
  go_wp2_with fail
  have x0 := unhide x0
  have x1 := unhide x1
  have x2 := unhide x2
  refine bodyPost_ret (v := .agg #[fnV 38, fnV 39, fnV 40]) (by simp [results, Tryd.results28, go_sem]) rfl ?_
  exact ⟨rfl, by (repeat' (first | (with_reducible exact Mod.refl _ _) | (with_reducible assumption) | (with_reducible refine Mod.drew ?_) | (with_reducible refine Mod.drewN ?_ _) | (with_reducible refine Mod.alloc ?_ _) | (with_reducible refine Mod.setCell ?_ ?_ _) | (left; simp; done) | (right; first | omega | (simp; omega) | (simp; done))))⟩
theorem opW_2 : OpW 2 41 := by
  intro W x y hx hy
  have HH := hide (u64_xor_nat x y hx hy)
  go_enter Tryd.func41, Tryd.ntmps41
  go_wp2
  go_ret
  exact ⟨ret_int (unhide HH), rfl⟩
theorem opB_2 : OpB 2 42 := by
  intro W x y hx hy
  have HH := hide (u8_xor_nat x y hx hy)
  go_enter Tryd.func42, Tryd.ntmps42
  go_wp2
  go_ret
  exact ⟨ret_int (unhide HH), rfl⟩
theorem mkOp_2 (w : World) : Calls Tryd.prog 29 #[] w fun e w' => e = .returned (.agg #[fnV 41, fnV 42, fnV 43]) ∧ Mod [] w w' := by
  have k := Blk.new (w := w) (g := w.heap.size) 47 #[.func (.func 41) #[] #[], .func (.func 42) #[] #[], .func (.func 43) #[] #[]] rfl
  have x0 := hide (k.cell 0)
  have x1 := hide (k.cell 1)
  have x2 := hide (k.cell 2)
  clear k
  go_enter Tryd.func29, Tryd.ntmps29
  go_wp2_with fail
  have x0 := unhide x0
  have x1 := unhide x1
  have x2 := unhide x2
  refine bodyPost_ret (v := .agg #[fnV 41, fnV 42, fnV 43]) (by simp [results, Tryd.results29, go_sem]) rfl ?_
  exact ⟨rfl, by (repeat' (first | (with_reducible exact Mod.refl _ _) | (with_reducible assumption) | (with_reducible refine Mod.drew ?_) | (with_reducible refine Mod.drewN ?_ _) | (with_reducible refine Mod.alloc ?_ _) | (with_reducible refine Mod.setCell ?_ ?_ _) | (left; simp; done) | (right; first | omega | (simp; omega) | (simp; done))))⟩
theorem opW_3 : OpW 3 44 := by
  intro W x y hx hy
  have HH := hide (u64_andNot_nat x y hx hy)
  go_enter Tryd.func44, Tryd.ntmps44
  go_wp2
  go_ret
  exact ⟨ret_int (unhide HH), rfl⟩
theorem opB_3 : OpB 3 45 := by
  intro W x y hx hy
  have HH := hide (u8_andNot_nat x y hx hy)
  go_enter Tryd.func45, Tryd.ntmps45
  go_wp2
  go_ret
  exact ⟨ret_int (unhide HH), rfl⟩
theorem mkOp_3 (w : World) : Calls Tryd.prog 30 #[] w fun e w' => e = .returned (.agg #[fnV 44, fnV 45, fnV 46]) ∧ Mod [] w w' := by
  have k := Blk.new (w := w) (g := w.heap.size) 47 #[.func (.func 44) #[] #[], .func (.func 45) #[] #[], .func (.func 46) #[] #[]] rfl
  have x0 := hide (k.cell 0)
  have x1 := hide (k.cell 1)
  have x2 := hide (k.cell 2)
  clear k
  go_enter Tryd.func30, Tryd.ntmps30
  go_wp2_with fail
  have x0 := unhide x0
  have x1 := unhide x1
  have x2 := unhide x2
  refine bodyPost_ret (v := .agg #[fnV 44, fnV 45, fnV 46]) (by simp [results, Tryd.results30, go_sem]) rfl ?_
  exact ⟨rfl, by (repeat' (first | (with_reducible exact Mod.refl _ _) | (with_reducible assumption) | (with_reducible refine Mod.drew ?_) | (with_reducible refine Mod.drewN ?_ _) | (with_reducible refine Mod.alloc ?_ _) | (with_reducible refine Mod.setCell ?_ ?_ _) | (left; simp; done) | (right; first | omega | (simp; omega) | (simp; done))))⟩
theorem opW_4 : OpW 4 47 := by
  intro W x y hx hy
  have HH := hide (show bits .xor .u64 IntKind.u64.max (bits .xor .u64 (x : Int) (y : Int)) = ((18446744073709551615 - (x ^^^ y) : Nat) : Int) from by rw [u64_xor_nat x y hx hy]; exact notu64 _ (Nat.xor_lt_two_pow (n := 64) hx hy))
  go_enter Tryd.func47, Tryd.ntmps47
  go_wp2
  go_ret
  exact ⟨ret_int (unhide HH), rfl⟩
theorem opB_4 : OpB 4 48 := by
  intro W x y hx hy
  have HH := hide (show bits .xor .u8 IntKind.u8.max (bits .xor .u8 (x : Int) (y : Int)) = ((255 - (x ^^^ y) : Nat) : Int) from by rw [u8_xor_nat x y hx hy]; exact notu8 _ (Nat.xor_lt_two_pow (n := 8) hx hy))
  go_enter Tryd.func48, Tryd.ntmps48
  go_wp2
  go_ret
  exact ⟨ret_int (unhide HH), rfl⟩
theorem mkOp_4 (w : World) : Calls Tryd.prog 31 #[] w fun e w' => e = .returned (.agg #[fnV 47, fnV 48, fnV 49]) ∧ Mod [] w w' := by
  have k := Blk.new (w := w) (g := w.heap.size) 47 #[.func (.func 47) #[] #[], .func (.func 48) #[] #[], .func (.func 49) #[] #[]] rfl
  have x0 := hide (k.cell 0)
  have x1 := hide (k.cell 1)
  have x2 := hide (k.cell 2)
  clear k
  go_enter Tryd.func31, Tryd.ntmps31
  go_wp2_with fail
  have x0 := unhide x0
  have x1 := unhide x1
  have x2 := unhide x2
  refine bodyPost_ret (v := .agg #[fnV 47, fnV 48, fnV 49]) (by simp [results, Tryd.results31, go_sem]) rfl ?_
  exact ⟨rfl, by (repeat' (first | (with_reducible exact Mod.refl _ _) | (with_reducible assumption) | (with_reducible refine Mod.drew ?_) | (with_reducible refine Mod.drewN ?_ _) | (with_reducible refine Mod.alloc ?_ _) | (with_reducible refine Mod.setCell ?_ ?_ _) | (left; simp; done) | (right; first | omega | (simp; omega) | (simp; done))))⟩
end
section
open Go.ChangeShapes Go.WideShapes Go.ChangeAt Go.RowKit Go
def word (d : List Nat) (j : Nat) : Nat := le ((d.drop (8 * j)).take 8)
def words (d : List Nat) (q : Nat) : List Value := (List.range q).map fun j => Value.int .u64 (word d j : Int)
theorem words_length (d : List Nat) (q : Nat) : (words d q).length = q := by simp [words]
theorem words_succ (d : List Nat) (q : Nat) : words d (q + 1) = words d q ++ [.int .u64 (word d q : Int)] := by simp [words, List.range_succ]
def wpart (xs : List Value) (N : Nat) : Array Value := (xs ++ List.replicate (N - xs.length) (Value.int .u64 0)).toArray
theorem wpart_set (l : List Value) (N : Nat) (b : Value) (h : l.length < N) : (wpart l N).setIfInBounds l.length b = wpart (l ++ [b]) N := by
  unfold wpart
  rw [List.setIfInBounds_toArray]
  congr 1
  rw [List.set_append_right _ _ (by omega), Nat.sub_self]
  obtain ⟨m, hm⟩ : ∃ m, N - l.length = m + 1 := ⟨N - l.length - 1, by omega⟩
  have hm2 : N - (l ++ [b]).length = m := by simp; omega
  rw [hm, hm2, List.replicate_succ, List.set_cons_zero]
  simp
theorem wpart_size (l : List Value) (N : Nat) (h : l.length ≤ N) : (wpart l N).size = N := by simp [wpart]; omega
theorem wpart_full (l : List Value) (N : Nat) (h : l.length = N) : wpart l N = l.toArray := by simp [wpart, h]
theorem info58 : (Tryd.prog.info? 58).map (fun i => (i.zero, i.size, i.bytes)) = some (some (.int .u64 0), 1, 8) := by kernel_rfl
theorem made_wpart (N : Nat) : madeCells (Value.cells (.int .u64 0)) (N * 1) = wpart [] N := by
  simp [wpart, madeCells, Value.cells]
  apply Array.ext
  · simp
  · intro i h1 h2
    simp [Nat.mod_one]
theorem make74 (N : Nat) (hN : N ≤ 1048576) (w : World) : (Instr.makeSlice 74 (.int .i64 (N : Int)) (.int .i64 (N : Int))).run Tryd.prog w = .ok (.slice (some ⟨w.heap.size, 0, none⟩) N N) (w.alloc (.cells (wpart [] N) 58)) := by
  obtain ⟨i0, hi, hz0, hz1, hz2⟩ := info_parts info58
  have := run_make_rowN (P := Tryd.prog) 74 58 i0 _ Tryd.underlying74 hi hz0 .i64 .i64 N N (Nat.le_refl _) (by rw [hz2]; omega) (by omega) w
  rw [this, hz1, made_wpart]
def WdRel (w : World) (d : List Nat) (q G : Nat) (v14 : Value) (wr : World) : Prop :=
  ∃ k : Nat, k ≤ q ∧ v14 = .int .i64 k ∧ Blk wr G 58 (wpart (words d k) q) ∧ Mod [] w wr
theorem eight_of {l : List Nat} (h : l.length = 8) : ∃ b0 b1 b2 b3 b4 b5 b6 b7, l = [b0, b1, b2, b3, b4, b5, b6, b7] := by
  match l, h with
  | [b0, b1, b2, b3, b4, b5, b6, b7], _ => exact ⟨b0, b1, b2, b3, b4, b5, b6, b7, rfl⟩
theorem words_cell {w : World} {B n b off : Nat} {d : List Nat} (hd : Sl w B (some ⟨b, off, none⟩) n (bv d)) (k j : Nat) (hk : 8 * k + 8 ≤ n) (hj : j < 8) :
    w.cell? ⟨b, off + k * 8 + j, none⟩ = some (.int .u8 ((((d.drop (8 * k)).take 8).getD j 0 : Nat) : Int)) := by
  obtain ⟨b', off', u, e, hbl, hu, hcell⟩ := hd.at_ (k := 8 * k + j) (by omega)
  cases e
  rw [show off + k * 8 + j = off + (8 * k + j) by omega, hcell]
  have hl := hd.1
  simp [bv] at hl
  have hlt : 8 * k + j < d.length := by omega
  simp only [bv, List.getElem?_map, List.getElem?_eq_getElem hlt, Option.map_some] at hu
  cases hu
  congr 2
  simp [List.getD_eq_getElem?_getD, List.getElem?_take, hj, List.getElem?_drop, List.getElem?_eq_getElem hlt]
set_option maxRecDepth 100000 in
set_option maxHeartbeats 4000000 in
theorem b2w_any (w : World) (A : Option Addr) (n c : Nat) (d : List Nat) (hs : Small d) (hd : Sl w w.heap.size A n (bv d)) (hn : n ≤ 4096) (h8 : 8 ≤ n) (hnc : n ≤ c) {q : Nat} (hq : n / 8 = q) :
    Calls Tryd.prog 62 #[.slice A n c] w fun e w' => ∃ G, e = .returned (.slice (some ⟨G, 0, none⟩) q q) ∧ Blk w' G 58 (words d q).toArray ∧ Mod [] w w' := by
  have hmk := make74 (n / 8) (by omega) w
  rw [show ((n / 8 : Nat) : Int) = (n : Int) / 8 by simp] at hmk
  go_enter Tryd.func62, Tryd.ntmps62
  go_wp2_with fail
  clear hmk
  have hqi : (n : Int) / 8 = (q : Int) := by omega
  try simp only [hqi, hq]
  have hm0 : Mod [] w (w.alloc (.cells (wpart [] q) 58)) := by (repeat' (first | exact Mod.refl _ _ | assumption | apply Mod.drew | apply Mod.drewN | apply Mod.alloc | (refine Mod.setCell ?_ (by first | (left; simp; done) | (right; first | omega | (simp; omega) | (simp; done))) _)))
  have hb0 : Blk (w.alloc (.cells (wpart [] q) 58)) w.heap.size 58 (wpart [] q) := by (repeat' (first | assumption | apply Blk.drew | apply Blk.drewN | (exact Blk.new _ _ (by simp)) | apply Blk.alloc | (refine Blk.other ?_ (by first | assumption | omega | (simp; omega)) _)))
  generalize w.alloc (.cells (wpart [] q) 58) = w1 at hm0 hb0 ⊢
  have hq8 : 8 * q ≤ n := by omega
  have hq9 : q ≤ 512 := by omega
  clear hqi hq
  go_loopw [14] (WdRel w d q w.heap.size) (fun v _ => q - (intOf v).toNat)
  case atStart => exact ⟨0, Nat.zero_le _, rfl, hb0, hm0⟩
  case round =>
    obtain ⟨k, hk, rfl, hb, hmr⟩ := hrel
    by_cases hlt : k < q
    · obtain ⟨b, off, u, rfl, hbl, hu, hcell⟩ := (hd.mod hmr (by simp)).at_ (k := 8 * k) (by omega)
      have hps : k < (wpart (words d k) q).size := by rw [wpart_size _ _ (by rw [words_length]; omega)]; exact hlt
      have ck := hb.cell k
      rw [Array.getElem?_eq_getElem hps] at ck
      have fk := hb.frozen k
      have hG := hb.lt
      have hck : 8 * k < c := by omega
      have hki : (k : Int) * 8 ≤ (n : Int) := by omega
      have hk1 : (k : Int) * 8 < (c : Int) := by omega
      have hk2 : k * 8 < c := by omega
      have hk3 : ¬ c - k * 8 = 0 := by omega
      have hk4 : ¬ c = k * 8 := by omega
      have hk5 : 0 ≤ (k : Int) * 8 := by omega
      have hk6 : k * 8 ≤ n := by omega
      have hk7 : (n : Int) ≤ (c : Int) := by omega
      have hk8 : (8 : Int) * (k : Int) < (c : Int) := by omega
      have hk9 : (c : Int) - (k : Int) * 8 ≠ 0 := by omega
      have hk10 : ¬ (c : Int) = (k : Int) * 8 := by omega
      have hU : ∀ wx : World, Mod [] wr wx → Calls Tryd.prog 67 #[.agg #[], .slice (some ⟨b, off + k * 8, none⟩) (n - k * 8) (c - k * 8)] wx fun e w' => e = .returned (.int .u64 (word d k : Int)) ∧ Mod [] wx w' := by
        intro wx hx
        have hl := hd.1
        simp [bv] at hl
        obtain ⟨b0, b1, b2, b3, b4, b5, b6, b7, e8⟩ : ∃ b0 b1 b2 b3 b4 b5 b6 b7, (d.drop (8 * k)).take 8 = [b0, b1, b2, b3, b4, b5, b6, b7] := eight_of (by simp; omega)
        have hc8 := fun j hj => words_cell (hd.mod (hmr.trans hx (by simp)) (by simp)) k j (by omega) hj
        rw [e8] at hc8
        have hs8 : Small [b0, b1, b2, b3, b4, b5, b6, b7] := by
          rw [← e8]; intro x hx; exact hs x (List.mem_of_mem_drop (List.mem_of_mem_take hx))
        have := le64_any wx b (off + k * 8) (n - k * 8) (c - k * 8) b0 b1 b2 b3 b4 b5 b6 b7 (by omega) hs8 hc8
        unfold word
        rw [e8]
        exact this
      have hF : ∀ wx : World, Mod [] wr wx → WdRel w d q w.heap.size (.int .i64 ((k : Int) + 1)) (wx.setCell ⟨w.heap.size, k, none⟩ (.int .u64 (word d k : Int))) := by
        intro wx hx
        refine ⟨k + 1, by omega, by simp, ?_, (hmr.trans hx (by simp)).setCell (by simp) _⟩
        have h2 := (hb.mod hx (by simp)).set k (.int .u64 (word d k : Int))
        have h3 := wpart_set (words d k) q (.int .u64 (word d k : Int)) (by rw [words_length]; exact hlt)
        rw [words_length, ← words_succ] at h3
        rw [h3] at h2
        exact h2
      have hcf : ∀ wx : World, Mod [] wr wx → (∃ v0, wx.cell? ⟨w.heap.size, k, none⟩ = some v0) ∧ wx.frozen? ⟨w.heap.size, k, none⟩ = false := by
        intro wx hx
        have := hb.mod hx (by simp)
        refine ⟨⟨_, by rw [this.cell k, Array.getElem?_eq_getElem hps]⟩, this.frozen k⟩
      have HU := hide hU
      have HF := hide hF
      have HC := hide hcf
      generalize word d k = vv at HU HF
      clear hU hF hcf ck fk hb hd hcell hu hps hm0 hb0 hmr
      rcases Nat.eq_zero_or_pos k with rfl | hkp
      · simp only [Nat.zero_mul, Nat.add_zero, Nat.sub_zero] at HU
        have hw0 : IntKind.i64.wrap 0 = 0 := by decide
        have hw1 : ¬ c = 0 := by omega
        go_upto_region 7 with fail
        go_region_with (go_at_call 67; (with_reducible refine (unhide HU _ (by (repeat' (first | exact Mod.refl _ _ | assumption | apply Mod.drew | apply Mod.drewN | apply Mod.alloc | (refine Mod.setCell ?_ (by first | (left; simp; done) | (right; first | omega | (simp; omega) | (simp; done))) _))))).mono ?_); rintro e w' ⟨rfl, hm'⟩; obtain ⟨⟨v0, ck'⟩, fk'⟩ := unhide HC _ (show Mod [] _ w' from (by apply Mod.trans (b := wr.drew) (by (repeat' (first | exact Mod.refl _ _ | assumption | apply Mod.drew | apply Mod.drewN | apply Mod.alloc | (refine Mod.setCell ?_ (by first | (left; simp; done) | (right; first | omega | (simp; omega) | (simp; done))) _)))) hm' (by simp))))
        go_wp2
        exact ⟨unhide HF _ (Mod.trans (b := wr.drew) (by (repeat' (first | exact Mod.refl _ _ | assumption | apply Mod.drew | apply Mod.drewN | apply Mod.alloc | (refine Mod.setCell ?_ (by first | (left; simp; done) | (right; first | omega | (simp; omega) | (simp; done))) _)))) hm' (by simp)), by simp [intOf]; omega⟩
      · have hkn : ¬ k * 8 = 0 := by omega
        have hkn2 : ¬ k = 0 := by omega
        have hw0 : IntKind.i64.wrap ((k : Int) * 8) = (k : Int) * 8 := (IntWalk.i64_left _).trans (IntWalk.wrap64_in _ (by omega))
        have hw1 : ((k : Int) * 8).toNat = k * 8 := by omega
        go_upto_region 7 with fail
        go_region_with (go_at_call 67; (with_reducible refine (unhide HU _ (by (repeat' (first | exact Mod.refl _ _ | assumption | apply Mod.drew | apply Mod.drewN | apply Mod.alloc | (refine Mod.setCell ?_ (by first | (left; simp; done) | (right; first | omega | (simp; omega) | (simp; done))) _))))).mono ?_); rintro e w' ⟨rfl, hm'⟩; obtain ⟨⟨v0, ck'⟩, fk'⟩ := unhide HC _ (show Mod [] _ w' from (by apply Mod.trans (b := wr.drew) (by (repeat' (first | exact Mod.refl _ _ | assumption | apply Mod.drew | apply Mod.drewN | apply Mod.alloc | (refine Mod.setCell ?_ (by first | (left; simp; done) | (right; first | omega | (simp; omega) | (simp; done))) _)))) hm' (by simp))))
        go_wp2
        exact ⟨unhide HF _ (Mod.trans (b := wr.drew) (by (repeat' (first | exact Mod.refl _ _ | assumption | apply Mod.drew | apply Mod.drewN | apply Mod.alloc | (refine Mod.setCell ?_ (by first | (left; simp; done) | (right; first | omega | (simp; omega) | (simp; done))) _)))) hm' (by simp)), by simp [intOf]; omega⟩
    · obtain rfl : k = q := by omega
      go_wp2
      go_ret
      refine ⟨w.heap.size, rfl, ?_, hmr⟩
      rw [wpart_full _ _ (words_length d k)] at hb
      exact hb
end
section
open Go.RowKit
/-- the first k bytes from o on are combined. -/
def alB (op : Nat) (m : List Nat) (o : Nat) (x y : List Nat) : Nat → List Nat
  | 0 => m
  | k + 1 => (alB op m o x y k).set (o + k) (bOp op (x.getD k 0) (y.getD k 0))
theorem alB_length (op : Nat) (m : List Nat) (o : Nat) (x y : List Nat) : ∀ k, (alB op m o x y k).length = m.length
  | 0 => rfl
  | k + 1 => by rw [alB, List.length_set, alB_length op m o x y k]
theorem alB_small {m x y : List Nat} (h : Small m) (hx : Small x) (hy : Small y) (op o : Nat) : ∀ k, Small (alB op m o x y k)
  | 0 => h
  | k + 1 => (alB_small h hx hy op o k).set _ _ (bOp_lt op _ _ (hx.get _) (hy.get _))
theorem bitAt_alB {m x y : List Nat} (hx : Small x) (hy : Small y) (op o : Nat) : ∀ k, o + k ≤ m.length → ∀ i, bitAt (alB op m o x y k) i = if 8 * o ≤ i ∧ i < 8 * (o + k) then cmb op (bitAt x (i - 8 * o)) (bitAt y (i - 8 * o)) else bitAt m i
  | 0, _, i => by rw [if_neg (by omega)]; rfl
  | k + 1, hk, i => by
    rw [alB, bitAt_set _ _ _ _ (by rw [alB_length]; omega)]
    by_cases c : i / 8 = o + k
    · rw [if_pos c, if_pos (by omega), bOp_tb op _ _ _ (hx.get _) (hy.get _) (by omega)]
      unfold bitAt
      have e1 : (i - 8 * o) / 8 = k := by omega
      have e2 : (i - 8 * o) % 8 = i % 8 := by omega
      rw [e1, e2]
    · rw [if_neg c, bitAt_alB hx hy op o k (by omega)]
      by_cases c2 : 8 * o ≤ i ∧ i < 8 * (o + k)
      · rw [if_pos c2, if_pos (by omega)]
      · rw [if_neg c2, if_neg (by omega)]
theorem word_is (d : List Nat) (j : Nat) : word d j = wordAt d (8 * j) := rfl
/-- eight bytes more, by a word. -/
theorem put8_alB {m x y : List Nat} (h : Small m) (hx : Small x) (hy : Small y) (op o j : Nat) (hxl : 8 * (j + 1) ≤ x.length) (hyl : 8 * (j + 1) ≤ y.length) (ho : o + 8 * (j + 1) ≤ m.length) :
    put8 (alB op m o x y (8 * j)) (o + 8 * j) (wOp op (word x j) (word y j)) = alB op m o x y (8 * (j + 1)) := by
  have l1 := wordAt_lt hx (8 * j)
  have l2 := wordAt_lt hy (8 * j)
  rw [word_is, word_is]
  have hw := wOp_lt op (wordAt x (8 * j)) (wordAt y (8 * j)) l1 l2
  have s1 := alB_small h hx hy op o (8 * j)
  apply bytes_ext (by rw [put8_length, alB_length, alB_length]) (put8_small s1 _ _ hw) (alB_small h hx hy op o _)
  intro i hi
  rw [bitAt_put8 _ _ _ _ hw (by rw [alB_length]; omega), bitAt_alB hx hy op o (8 * (j + 1)) (by omega), bitAt_alB hx hy op o (8 * j) (by omega)]
  by_cases c : 8 * (o + 8 * j) ≤ i ∧ i < 8 * (o + 8 * j) + 64
  · rw [if_pos c, if_pos (by omega), wOp_tb op _ _ _ l1 l2 (by omega), wordAt_tb hx _ _ (by omega) (by omega), wordAt_tb hy _ _ (by omega) (by omega)]
    have e : 8 * (8 * j) + (i - 8 * (o + 8 * j)) = i - 8 * o := by omega
    rw [e]
  · rw [if_neg c]
    by_cases c2 : 8 * o ≤ i ∧ i < 8 * (o + 8 * j)
    · rw [if_pos c2, if_pos (by omega)]
    · rw [if_neg c2, if_neg (by omega)]
end
end Go.Proofs.YtjfbojmeccdchaaDoor
