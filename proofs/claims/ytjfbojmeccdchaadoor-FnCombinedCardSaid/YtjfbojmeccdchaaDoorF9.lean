/- A buffer that grows: it is made, it is laid out, it is read. The reference's side: the list of bits, two bits combined, two lists the same. Nothing combined: zero bits. A slice of bytes as it comes in; nothing combined at one and the same place. What a new buffer holds. (YtjfbojmeccdchaaDoor) -/
import Derived.Test.YtjfbojmeccdchaaDoorF1
import Derived.Laws.LoneSync
import Derived.Handy
import Derived.Test.YtjfbojmeccdchaaDoorF6
import Derived.BigQuiet
import Derived.Test.YtjfbojmeccdchaaDoorF5
import Derived.Test.YtjfbojmeccdchaaDoorF8
set_option linter.unusedVariables false
set_option linter.unusedSimpArgs false
namespace Go.Proofs.YtjfbojmeccdchaaDoor
section
open Go.ChangeShapes Go.WideShapes Go.ChangeAt Go.RowKit
abbrev plainV : Value := .iface 40 (.agg #[])
theorem add64_any (w : World) (P i : Nat) (x : Int) (hx : x = 0) (h : w.cell? ⟨P, i, none⟩ = some (.int .i64 x)) (hz : w.frozen? ⟨P, i, none⟩ = false) :
    (callFunc 78 #[.pointer (some ⟨P, i, none⟩), .int .i64 1]).run Tryd.prog w = .ok (.value (.int .i64 1)) (w.setCell ⟨P, i, none⟩ (.int .i64 1)) := by
  subst hx
  exact run_call_add (P := Tryd.prog) Tryd.func78 (by kernel_rfl) (by kernel_rfl) (by kernel_rfl) .i64 (by kernel_rfl) (x := 0) (y := 1) (s := 1) h hz (by simp [go_sem, IntKind.wrap])
theorem atAdd_any (w : World) (P : Nat) (h : w.cell? ⟨P, 0, none⟩ = some (.int .i64 0)) (hz : w.frozen? ⟨P, 0, none⟩ = false) :
    Calls Tryd.prog 64 #[.pointer (some ⟨P, 0, none⟩), .int .i64 1] w fun e w' => e = .returned (.int .i64 1) ∧ w' = w.setCell ⟨P, 0, none⟩ (.int .i64 1) := by
  have hadd := add64_any w P 0 0 rfl h hz
  go_enter Tryd.func64, Tryd.ntmps64
  go_wp2_with fail
  go_ret
  exact ⟨rfl, rfl⟩
set_option maxRecDepth 100000 in
theorem newBuf_any (w : World) : Calls Tryd.prog 50 #[plainV] w fun e w' => e = .returned (.pointer (some ⟨w.heap.size, 0, none⟩)) ∧ Blk w' w.heap.size 57 #[.int .i64 1, .slice none 0 0, .int .i64 0, .bool true, plainV, .pointer none] ∧ Mod [] w w' := by
  have k0 := Blk.new (w := w) (g := w.heap.size) 57 #[.int .i64 0, .slice none 0 0, .int .i64 0, .bool true, plainV, .pointer none] rfl
  have a0 := k0.cell 0
  have f0 := k0.frozen 0
  have hadd := fun W => atAdd_any W w.heap.size
  clear k0
  go_enter Tryd.func50, Tryd.ntmps50
  go_wp2_with (first | (go_at_call 64; with_reducible refine (hadd _ a0 f0).mono ?_; rintro e w' ⟨rfl, rfl⟩))
  go_ret
  exact ⟨rfl, Blk.new _ _ rfl, by (repeat' (first | (with_reducible exact Mod.refl _ _) | (with_reducible assumption) | (with_reducible refine Mod.drew ?_) | (with_reducible refine Mod.drewN ?_ _) | (with_reducible refine Mod.alloc ?_ _) | (with_reducible refine Mod.setCell ?_ ?_ _) | (left; simp; done) | (right; first | omega | (simp; omega) | (simp; done))))⟩
def r64 (m : Nat) : Nat := 64 * ((m + 63) / 64)
theorem and63 (x : Nat) (hx : x < 65536) : bits .and .i64 (x : Int) (-64) = ((64 * (x / 64) : Nat) : Int) := by
  have key : (BitVec.ofInt 64 (x : Int) &&& BitVec.ofInt 64 (-64)).toNat = 64 * (x / 64) := by
    have h1 : (BitVec.ofInt 64 (-64)).toNat = (2 ^ 58 - 1) * 2 ^ 6 := by decide
    have h2 : (BitVec.ofInt 64 (x : Int)).toNat = x := by rw [BitVec.toNat_ofInt]; omega
    rw [BitVec.toNat_and, h1, h2]
    have e : 64 * (x / 64) = x / 2 ^ 6 * 2 ^ 6 := by omega
    rw [e]
    apply Nat.eq_of_testBit_eq
    intro j
    rw [Nat.testBit_and, Nat.testBit_mul_two_pow, Nat.testBit_mul_two_pow, Nat.testBit_two_pow_sub_one, Nat.testBit_div_two_pow]
    by_cases c : 6 ≤ j
    · have e2 : j - 6 + 6 = j := by omega
      rw [e2]
      by_cases c2 : j - 6 < 58
      · simp [c, c2]
      · have : x.testBit j = false := Nat.testBit_lt_two_pow (Nat.lt_of_lt_of_le (show x < 2 ^ 16 by omega) (Nat.pow_le_pow_right (by decide) (by omega)))
        simp [this]
    · simp [c]
  show IntKind.i64.wrap ((BitVec.ofInt 64 (x : Int) &&& BitVec.ofInt 64 (-64)).toNat : Nat) = _
  rw [key, IntKind.wrap_i64]
  omega
theorem round_any (w : World) (m : Nat) (hm : m ≤ 4096) : Calls Tryd.prog 80 #[.int .i64 m] w fun e w' => e = .returned (.int .i64 (r64 m : Int)) ∧ w = w' := by
  have h := and63 (m + 63) (by omega)
  have e : ((m + 63 : Nat) : Int) = (m : Int) + 63 := by omega
  rw [e, show (-64 : Int) = bits .xor .i64 (-1) 63 by decide] at h
  go_enter Tryd.func80, Tryd.ntmps80
  go_wp2
  go_ret
  exact ⟨ret_int (by unfold r64; omega), rfl⟩
theorem made22 (N : Nat) : madeCells (Value.cells (.int .u8 0)) (N * 1) = (bv (List.replicate N 0)).toArray := by
  simp [madeCells, Value.cells, bv]
  apply Array.ext
  · simp
  · intro i h1 h2
    simp [Nat.mod_one]
theorem make22 (N : Nat) (hN : N ≤ 1048576) (w : World) : (Instr.makeSlice 22 (.int .i64 (N : Int)) (.int .i64 (N : Int))).run Tryd.prog w = .ok (.slice (some ⟨w.heap.size, 0, none⟩) N N) (w.alloc (.cells (bv (List.replicate N 0)).toArray 5)) := by
  obtain ⟨i0, hi, hz0, hz1, hz2⟩ := info_parts info5
  have := run_make_rowN (P := Tryd.prog) 22 5 i0 _ Tryd.underlying22 hi hz0 .i64 .i64 N N (Nat.le_refl _) (by rw [hz2]; omega) (by omega) w
  rw [this, hz1, made22]
theorem alloc_any (w : World) (N : Nat) (hN : N ≤ 1048576) : Calls Tryd.prog 98 #[.agg #[], .int .i64 N] w fun e w' => ∃ G, e = .returned (.slice (some ⟨G, 0, none⟩) N N) ∧ w.heap.size ≤ G ∧ G < w'.heap.size ∧ Blk w' G 5 (bv (List.replicate N 0)).toArray ∧ Mod [] w w' := by
  have hmk := make22 N hN
  go_enter Tryd.func98, Tryd.ntmps98
  go_wp2_with fail
  go_ret
  exact ⟨_, rfl, by simp, by simp, Blk.new _ _ (by simp), by (repeat' (first | (with_reducible exact Mod.refl _ _) | (with_reducible assumption) | (with_reducible refine Mod.drew ?_) | (with_reducible refine Mod.drewN ?_ _) | (with_reducible refine Mod.alloc ?_ _) | (with_reducible refine Mod.setCell ?_ ?_ _) | (left; simp; done) | (right; first | omega | (simp; omega) | (simp; done))))⟩
abbrev Bf (w : World) (P : Nat) (sl : Value) (m : Nat) : Prop := Blk w P 57 #[.int .i64 1, sl, .int .i64 (m : Int), .bool true, plainV, .pointer none]
theorem bf_sl {w : World} {P m : Nat} {sl : Value} (h : Bf w P sl m) (sl' : Value) : Bf (w.setCell ⟨P, 1, none⟩ sl') P sl' m := h.set 1 sl'
theorem bf_len {w : World} {P m : Nat} {sl : Value} (h : Bf w P sl m) (m' : Nat) : Bf (w.setCell ⟨P, 2, none⟩ (.int .i64 (m' : Int))) P sl m' := h.set 2 (.int .i64 (m' : Int))
theorem reserve_any (w : World) (P m : Nat) (hm0 : 0 < m) (hm : m ≤ 4096) (h : Bf w P (.slice none 0 0) 0) :
    Calls Tryd.prog 79 #[.pointer (some ⟨P, 0, none⟩), .int .i64 m] w fun e w' => ∃ G, e = .returned (.tuple #[]) ∧ w.heap.size ≤ G ∧ Bf w' P (.slice (some ⟨G, 0, none⟩) (r64 m) (r64 m)) 0 ∧ Blk w' G 5 (bv (List.replicate (r64 m) 0)).toArray ∧ Mod [P] w w' := by
  have hr := fun W => round_any W m hm
  have hrr : m ≤ r64 m ∧ r64 m ≤ 1048576 := by unfold r64; omega
  have c1 := h.cell 1
  have c4 := h.cell 4
  have f1 := h.frozen 1
  have hPl := h.lt
  have HB := hide h
  have ha := fun W => alloc_any W (r64 m) hrr.2
  clear h
  generalize r64 m = R at *
  go_enter Tryd.func79, Tryd.ntmps79
  go_wp2_with (first | (go_at_call 80; with_reducible refine (hr _).mono ?_; rintro e w' ⟨rfl, rfl⟩) | (go_at_call 98; go_loud (with_reducible refine (ha _).mono ?_; rintro e w1 ⟨G, rfl, hG, hGl, hb, hm1⟩; have hB1 := Blk.mod (unhide HB) hm1 (by simp); have d1 := hB1.frozen 1; have e1 := hB1.cell 1)))
  go_returns
  have hne : G ≠ P := by omega
  have r1 := bf_sl hB1 (.slice (some ⟨G, 0, none⟩) R R)
  have r2 := hb.other (a := ⟨P, 1, none⟩) hne (.slice (some ⟨G, 0, none⟩) R R)
  have r3 := (hm1.any [P]).setCell (p := ⟨P, 1, none⟩) (by simp) (.slice (some ⟨G, 0, none⟩) R R)
  exact ⟨G, rfl, hG, by with_reducible exact r1, by with_reducible exact r2, by with_reducible exact r3⟩
theorem resizeP_any (w : World) (P m : Nat) (hm0 : 0 < m) (hm : m ≤ 4096) (h : Bf w P (.slice none 0 0) 0) :
    Calls Tryd.prog 51 #[.pointer (some ⟨P, 0, none⟩), .int .i64 m] w fun e w' => ∃ G, e = .returned (.tuple #[]) ∧ w.heap.size ≤ G ∧ Bf w' P (.slice (some ⟨G, 0, none⟩) (r64 m) (r64 m)) m ∧ Blk w' G 5 (bv (List.replicate (r64 m) 0)).toArray ∧ Mod [P] w w' := by
  have hR := hide (reserve_any w P m hm0 hm h)
  have c2 := h.cell 2
  have hPl := h.lt
  have q1 : (0 : Int) < (m : Int) := by omega
  have hnot : ∀ (x : Bool) (w : World), (Op.unary .not (.bool x)).run Tryd.prog w = .ok (.bool (!x)) w := fun _ _ => rfl
  clear h
  go_enter Tryd.func51, Tryd.ntmps51
  go_wp2_with (first | (go_at_call 65; go_in) | (go_at_call 79; with_reducible refine (unhide hR).mono ?_; rintro e w1 ⟨G, rfl, hG, hB1, hb, hm1⟩; have d1 := hB1.frozen 2; have e1 := hB1.cell 2))
  go_returns
  have hne : G ≠ P := by omega
  exact ⟨G, rfl, hG, by with_reducible exact bf_len hB1 m, by with_reducible exact hb.other (a := ⟨P, 2, none⟩) hne _, by with_reducible exact hm1.setCell (p := ⟨P, 2, none⟩) (by simp) _⟩
theorem resizeZ_any (w : World) (P : Nat) (h : Bf w P (.slice none 0 0) 0) :
    Calls Tryd.prog 51 #[.pointer (some ⟨P, 0, none⟩), .int .i64 0] w fun e w' => e = .returned (.tuple #[]) ∧ Bf w' P (.slice none 0 0) 0 ∧ Mod [P] w w' := by
  have hR := hide (fun W => show Calls Tryd.prog 80 #[.int .i64 0] W fun e w' => e = .returned (.int .i64 0) ∧ W = w' from round_any W 0 (by omega))
  have c1 := h.cell 1
  have c2 := h.cell 2
  have f2 := h.frozen 2
  have hPl := h.lt
  have HB := hide h
  have hnot : ∀ (x : Bool) (w : World), (Op.unary .not (.bool x)).run Tryd.prog w = .ok (.bool (!x)) w := fun _ _ => rfl
  clear h
  go_enter Tryd.func51, Tryd.ntmps51
  go_wp2_with (first | (go_at_call 65; go_in) | (go_at_call 80; with_reducible refine (unhide hR w).mono ?_; rintro e w1 ⟨rfl, rfl⟩))
  go_returns
  exact ⟨rfl, by exact bf_len (unhide HB) 0, by (repeat' (first | (with_reducible exact Mod.refl _ _) | (with_reducible assumption) | (with_reducible refine Mod.drew ?_) | (with_reducible refine Mod.drewN ?_ _) | (with_reducible refine Mod.alloc ?_ _) | (with_reducible refine Mod.setCell ?_ ?_ _) | (left; simp; done) | (right; first | omega | (simp; omega) | (simp; done))))⟩
theorem bytes_any (w : World) (P m n c : Nat) (A : Option Addr) (hm : m ≤ c) (h : Bf w P (.slice A n c) m) :
    Calls Tryd.prog 25 #[.pointer (some ⟨P, 0, none⟩)] w fun e w' => e = .returned (.slice A m c) ∧ Mod [] w w' := by
  have c1 := h.cell 1
  have c2 := h.cell 2
  clear h
  cases A with
  | none =>
    go_enter Tryd.func25, Tryd.ntmps25
    go_wp2_with fail
    go_quiet (fail)
    go_wp2_with fail
    go_ret
    exact ⟨rfl, by (repeat' (first | (with_reducible exact Mod.refl _ _) | (with_reducible assumption) | (with_reducible refine Mod.drew ?_) | (with_reducible refine Mod.drewN ?_ _) | (with_reducible refine Mod.alloc ?_ _) | (with_reducible refine Mod.setCell ?_ ?_ _) | (left; simp; done) | (right; first | omega | (simp; omega) | (simp; done))))⟩
  | some a =>
    go_enter Tryd.func25, Tryd.ntmps25
    go_wp2_with fail
    go_quiet (fail)
    go_wp2_with fail
    go_ret
    exact ⟨rfl, by (repeat' (first | (with_reducible exact Mod.refl _ _) | (with_reducible assumption) | (with_reducible refine Mod.drew ?_) | (with_reducible refine Mod.drewN ?_ _) | (with_reducible refine Mod.alloc ?_ _) | (with_reducible refine Mod.setCell ?_ ?_ _) | (left; simp; done) | (right; first | omega | (simp; omega) | (simp; done))))⟩
end
section
open Go.ChangeShapes Go.WideShapes Go.ChangeAt Go.RowKit
theorem bit_any (w : World) (b off n c : Nat) (d : List Nat) (i : Nat) (hs : Small d) (hi : i < 8 * n) (hn : n ≤ 140737488351232) (hx : w.cell? ⟨b, off + i / 8, none⟩ = some (.int .u8 ((d.getD (i / 8) 0 : Nat) : Int))) :
    Calls Tryd.prog 11 #[.slice (some ⟨b, off, none⟩) n c, .int .i64 (i : Int)] w fun e w' => e = .returned (.bool (bitAt d i)) ∧ w = w' := by
  have h1 : i / 8 < n := by omega
  have h2 := and1_tb (d.getD (i / 8) 0) (i % 8) (hs.get _)
  have H2 := Lib.hid h2
  clear h2
  generalize hd : d.getD (i / 8) 0 = x at hx H2
  have HD := Lib.hid hd
  clear hd
  go_enter Tryd.func11, Tryd.ntmps11
  go_wp2
  go_ret
  exact ⟨ret_bool (by rw [H2.out, bitAt, HD.out]), rfl⟩
def lb (d : List Nat) (f n : Nat) : List Bool := (List.range n).map fun i => bitAt d (f + i)
theorem lb_length (d : List Nat) (f n : Nat) : (lb d f n).length = n := by simp [lb]
theorem lb_succ (d : List Nat) (f n : Nat) : lb d f (n + 1) = lb d f n ++ [bitAt d (f + n)] := by simp [lb, List.range_succ]
theorem lb_get (d : List Nat) (f n i : Nat) (h : i < n) : (lb d f n).getD i false = bitAt d (f + i) := by
  simp [lb, List.getD_eq_getElem?_getD, List.getElem?_range h]
/-- a made row: k of them are written. -/
def part (l : List Bool) (N : Nat) : Array Value := (bools l ++ List.replicate (N - l.length) (Value.bool false)).toArray
theorem part_set (l : List Bool) (N : Nat) (b : Bool) (h : l.length < N) : (part l N).setIfInBounds l.length (.bool b) = part (l ++ [b]) N := by
  unfold part
  rw [List.setIfInBounds_toArray]
  congr 1
  have hb : (bools l).length = l.length := by simp [bools]
  rw [List.set_append_right _ _ (by omega), hb, Nat.sub_self]
  obtain ⟨m, hm⟩ : ∃ m, N - l.length = m + 1 := ⟨N - l.length - 1, by omega⟩
  have hm2 : N - (l ++ [b]).length = m := by simp; omega
  rw [hm, hm2, List.replicate_succ, List.set_cons_zero]
  simp [bools]
theorem part_size (l : List Bool) (N : Nat) (h : l.length ≤ N) : (part l N).size = N := by simp [part, bools]; omega
theorem part_full (l : List Bool) (N : Nat) (h : l.length = N) : part l N = (bools l).toArray := by simp [part, h]
theorem info4 : (Tryd.prog.info? 4).map (fun i => (i.zero, i.size, i.bytes)) = some (some (.bool false), 1, 1) := by kernel_rfl
theorem made_part (N : Nat) : madeCells (Value.cells (.bool false)) (N * 1) = part [] N := by
  simp [part, bools, madeCells, Value.cells]
  apply Array.ext
  · simp
  · intro i h1 h2
    simp [Nat.mod_one]
theorem make24 (N : Nat) (hN : N ≤ 281474976710656) (w : World) : (Instr.makeSlice 24 (.int .i64 (N : Int)) (.int .i64 (N : Int))).run Tryd.prog w = .ok (.slice (some ⟨w.heap.size, 0, none⟩) N N) (w.alloc (.cells (part [] N) 4)) := by
  obtain ⟨i0, hi, hz0, hz1, hz2⟩ := info_parts info4
  have := run_make_rowN (P := Tryd.prog) 24 4 i0 _ Tryd.underlying24 hi hz0 .i64 .i64 N N (Nat.le_refl _) (by rw [hz2]; omega) (by omega) w
  rw [this, hz1, made_part]
def BlRel (w : World) (d : List Nat) (f N G : Nat) (v29 : Value) (wr : World) : Prop :=
  ∃ k : Nat, k ≤ N ∧ v29 = .int .i64 k ∧ Blk wr G 4 (part (lb d f k) N) ∧ Mod [] w wr
set_option maxRecDepth 100000 in
set_option maxHeartbeats 4000000 in
theorem blist_any (w : World) (A : Option Addr) (n c f N : Nat) (d : List Nat) (hs : Small d) (hd : Sl w w.heap.size A n (bv d)) (hn : n ≤ 4096) (hfl : f + N ≤ 8 * n) :
    Calls Tryd.prog 5 #[.slice A n c, .int .i64 (f : Int), .int .i64 (N : Int)] w fun e w' => ∃ G, e = .returned (.tuple #[.slice (some ⟨G, 0, none⟩) N N, .bool true]) ∧ Blk w' G 4 (bools (lb d f N)).toArray ∧ Mod [] w w' ∧ w.heap.size ≤ G := by
  have hmk := make24 N (by omega) w
  go_enter Tryd.func5, Tryd.ntmps5
  go_wp2_with fail
  clear hmk
  have hm0 : Mod [] w (w.alloc (.cells (part [] N) 4)) := by (repeat' (first | exact Mod.refl _ _ | assumption | apply Mod.drew | apply Mod.drewN | apply Mod.alloc | (refine Mod.setCell ?_ (by first | (left; simp; done) | (right; first | omega | (simp; omega) | (simp; done))) _)))
  have hb0 : Blk (w.alloc (.cells (part [] N) 4)) w.heap.size 4 (part [] N) := by (repeat' (first | assumption | apply Blk.drew | apply Blk.drewN | (exact Blk.new _ _ (by simp)) | apply Blk.alloc | (refine Blk.other ?_ (by first | assumption | omega | (simp; omega)) _)))
  generalize w.alloc (.cells (part [] N) 4) = w1 at hm0 hb0 ⊢
  go_loopw [29] (BlRel w d f N w.heap.size) (fun v _ => N - (intOf v).toNat)
  case atStart => exact ⟨0, Nat.zero_le _, rfl, hb0, hm0⟩
  case round =>
    obtain ⟨k, hk, rfl, hb, hmr⟩ := hrel
    by_cases hlt : k < N
    · obtain ⟨b, off, u, rfl, hbl, hu, hcell⟩ := (hd.mod hmr (by simp)).at_ (k := (f + k) / 8) (by omega)
      have hcu : wr.cell? ⟨b, off + (f + k) / 8, none⟩ = some (.int .u8 ((d.getD ((f + k) / 8) 0 : Nat) : Int)) := by
        rw [hcell]
        congr 1
        have hl := hd.1
        simp [bv] at hl
        simp [bv, List.getElem?_eq_getElem (show (f + k) / 8 < d.length by omega)] at hu
        rw [← hu, List.getD_eq_getElem?_getD, List.getElem?_eq_getElem (show (f + k) / 8 < d.length by omega)]
        rfl
      have B0 := bit_any wr b off n c d (f + k) hs (by omega) (by omega) hcu
      rw [Int.natCast_add] at B0
      have B1 := hide B0
      clear B0
      have hps : k < (part (lb d f k) N).size := by rw [part_size _ _ (by rw [lb_length]; omega)]; exact hlt
      have ck := hb.cell k
      rw [Array.getElem?_eq_getElem hps] at ck
      have fk := hb.frozen k
      have hG := hb.lt
      have hfin : BlRel w d f N w.heap.size (.int .i64 ((k : Int) + 1)) (wr.setCell ⟨w.heap.size, k, none⟩ (.bool (bitAt d (f + k)))) := by
        refine ⟨k + 1, by omega, by simp, ?_, hmr.setCell (by simp) _⟩
        have h2 := hb.set k (.bool (bitAt d (f + k)))
        have h3 := part_set (lb d f k) N (bitAt d (f + k)) (by rw [lb_length]; exact hlt)
        rw [lb_length, ← lb_succ] at h3
        rw [h3] at h2
        exact h2
      have HF := Lib.hid hfin
      generalize bitAt d (f + k) = bb at B1 HF
      generalize (part (lb d f k) N)[k] = vv at ck
      clear hfin hb hd hcell hu hcu hps hb0 hm0 hmr
      go_wp2_with (go_at_call 11; (with_reducible refine (unhide B1).mono ?_); rintro e w' ⟨rfl, rfl⟩)
      all_goals exact ⟨HF.out, by simp [intOf]; omega⟩
    · obtain rfl : k = N := by omega
      go_wp2
      go_ret2
      refine ⟨w.heap.size, rfl, ?_, hmr, Nat.le_refl _⟩
      rw [part_full _ _ (lb_length d f k)] at hb
      exact hb
theorem comb_any (w : World) (op : Nat) (a b : Bool) : Calls Tryd.prog 6 #[.int .i64 (op : Int), .bool a, .bool b] w fun e w' => e = .returned (.bool (cmb op a b)) ∧ w = w' := by
  have hnot : ∀ (x : Bool) (w : World), (Op.unary .not (.bool x)).run Tryd.prog w = .ok (.bool (!x)) w := fun _ _ => rfl
  by_cases h0 : op = 0
  · subst h0
    cases a <;> cases b <;> (go_enter Tryd.func6, Tryd.ntmps6; go_wp2; go_ret; exact ⟨rfl, rfl⟩)
  by_cases h1 : op = 1
  · subst h1
    cases a <;> cases b <;> (go_enter Tryd.func6, Tryd.ntmps6; go_wp2; go_ret; exact ⟨rfl, rfl⟩)
  by_cases h2 : op = 2
  · subst h2
    cases a <;> cases b <;> (go_enter Tryd.func6, Tryd.ntmps6; go_wp2; go_ret; exact ⟨rfl, rfl⟩)
  by_cases h3 : op = 3
  · subst h3
    cases a <;> cases b <;> (go_enter Tryd.func6, Tryd.ntmps6; go_wp2; go_ret; exact ⟨rfl, rfl⟩)
  have e : cmb op a b = (a == b) := by unfold cmb; rw [if_neg h0, if_neg h1, if_neg h2, if_neg h3]
  rw [e]
  have z0 : ((op : Int) == 0) = false := by rw [beq_eq_false_iff_ne]; omega
  have z1 : ((op : Int) == 1) = false := by rw [beq_eq_false_iff_ne]; omega
  have z2 : ((op : Int) == 2) = false := by rw [beq_eq_false_iff_ne]; omega
  have z3 : ((op : Int) == 3) = false := by rw [beq_eq_false_iff_ne]; omega
  clear e h0 h1 h2 h3
  generalize (op : Int) = z at *
  cases a <;> cases b <;> (go_enter Tryd.func6, Tryd.ntmps6; go_wp2; go_ret; exact ⟨rfl, rfl⟩)
def SbR (v : Value) (n : Nat) (w wr : World) : Prop := ∃ k : Nat, k ≤ n ∧ v = .int .i64 (k : Int) ∧ Mod [] w wr
set_option maxRecDepth 100000 in
theorem sameBools_any (w : World) (A A2 : Option Addr) (c c2 : Nat) (l : List Bool) (h1 : Sl w w.heap.size A l.length (bools l)) (h2 : Sl w w.heap.size A2 l.length (bools l)) (hln : l.length ≤ 65536) :
    Calls Tryd.prog 10 #[.slice A l.length c, .slice A2 l.length c2] w fun e w' => e = .returned (.bool true) ∧ Mod [] w w' := by
  have hln2 : l.length < 65537 := by omega
  go_enter Tryd.func10, Tryd.ntmps10
  go_wp2_with fail
  go_loopw [13] (fun v wr => SbR v l.length w wr) (fun v _ => l.length - (intOf v).toNat)
  case atStart => exact ⟨0, Nat.zero_le _, rfl, Mod.refl _ _⟩
  case round =>
    obtain ⟨k, hk, rfl, hmr⟩ := hrel
    by_cases hlt : k < l.length
    · obtain ⟨b, off, rfl, hb, hcell⟩ := bools_at (h1.mod hmr (by simp)) hlt
      obtain ⟨b2, off2, rfl, hb2, hcell2⟩ := bools_at (h2.mod hmr (by simp)) hlt
      have hC := hide (fun (W : World) (hm : Mod [] wr W) => (show SbR (.int .i64 ((k : Int) + 1)) l.length w W from ⟨k + 1, by omega, by simp, hmr.trans hm (by simp)⟩))
      generalize l.getD k false = x at *
      generalize hN : l.length = N at *
      clear h1 h2 hmr hN
      cases x
      all_goals
        go_upto_region 6 with (fail)
        go_region
        go_wp2_with fail
        exact ⟨unhide hC _ (by (repeat' (first | (with_reducible exact Mod.refl _ _) | (with_reducible assumption) | (with_reducible refine Mod.drew ?_) | (with_reducible refine Mod.drewN ?_ _) | (with_reducible refine Mod.alloc ?_ _) | (with_reducible refine Mod.setCell ?_ ?_ _) | (left; simp; done) | (right; first | omega | (simp; omega) | (simp; done))))), by simp [intOf]; omega⟩
    · obtain rfl : k = l.length := by omega
      go_wp2
      go_ret
      exact ⟨rfl, hmr⟩
end
section
open Go.ChangeShapes Go.WideShapes Go.ChangeAt Go.RowKit
/-- a slice as it may come in. -/
def SlF (A : Option Addr) (n c : Nat) : Prop := n ≤ c ∧ (A = none → c = 0) ∧ (0 < n → ∃ S o, A = some ⟨S, o, none⟩)
set_option maxRecDepth 100000 in
set_option maxHeartbeats 2000000 in
theorem newWR_z (w : World) (A : Option Addr) (n c f : Nat) (hA : SlF A n c) (hn : n ≤ 4096) (hf : f ≤ 8 * n) :
    Calls Tryd.prog 54 #[.slice A n c, .int .i64 f, .int .i64 0] w fun e w' => ∃ (P : Nat) (a0 a1 a5 : Value), e = .returned (.pointer (some ⟨P, 0, none⟩)) ∧ w.heap.size ≤ P ∧ Mod [] w w' ∧
      Blk w' P 81 #[a0, a1, .int .i64 0, .int .i64 0, .int .i64 0, a5] := by
  obtain ⟨hc, hz, hs⟩ := hA
  by_cases h0 : n = 0
  · subst h0
    obtain rfl : f = 0 := by omega
    have hBF := hide (fun (W : World) => bfb_i W 0 0 rfl (by omega))
    cases A with
    | none =>
      obtain rfl : c = 0 := hz rfl
      go_enter Tryd.func54, Tryd.ntmps54
      go_wp2_with (first | (go_at_call 52; (with_reducible refine (unhide hBF _).mono ?_); rintro e w' ⟨rfl, rfl⟩) | fail)
      go_ret
      exact ⟨w.heap.size, _, _, _, rfl, Nat.le_refl _, by (repeat' (first | (with_reducible exact Mod.refl _ _) | (with_reducible assumption) | (with_reducible refine Mod.drew ?_) | (with_reducible refine Mod.drewN ?_ _) | (with_reducible refine Mod.alloc ?_ _) | (with_reducible refine Mod.setCell ?_ ?_ _) | (left; simp; done) | (right; first | omega | (simp; omega) | (simp; done)))), Blk.new _ _ rfl⟩
    | some a =>
      go_enter Tryd.func54, Tryd.ntmps54
      go_wp2_with (first | (go_at_call 52; (with_reducible refine (unhide hBF _).mono ?_); rintro e w' ⟨rfl, rfl⟩) | fail)
      go_ret
      exact ⟨w.heap.size, _, _, _, rfl, Nat.le_refl _, by (repeat' (first | (with_reducible exact Mod.refl _ _) | (with_reducible assumption) | (with_reducible refine Mod.drew ?_) | (with_reducible refine Mod.drewN ?_ _) | (with_reducible refine Mod.alloc ?_ _) | (with_reducible refine Mod.setCell ?_ ?_ _) | (left; simp; done) | (right; first | omega | (simp; omega) | (simp; done)))), Blk.new _ _ rfl⟩
  · obtain ⟨S, o, rfl⟩ := hs (by omega)
    have hBF := hide (fun (W : World) => bfb_i W ((f : Int) % 8) (f % 8) (by omega) (by omega))
    have hBF0 := hide (fun (W : World) => bfb_i W 0 0 rfl (by omega))
    have q1 : f / 8 + (f % 8 + 7) / 8 ≤ c := by omega
    have q2 : (f : Int) / 8 + ((f : Int) % 8 + 7) / 8 ≤ (c : Int) := by omega
    have q3 : (0 : Int) ≤ ((f : Int) % 8 + 7) / 8 := by omega
    clear hz hs
    by_cases hcz : c - f / 8 = 0
    · go_enter Tryd.func54, Tryd.ntmps54
      go_wp2_with (first | (go_at_call 52; (with_reducible refine (unhide hBF _).mono ?_); rintro e w' ⟨rfl, rfl⟩) | (go_at_call 52; (with_reducible refine (unhide hBF0 _).mono ?_); rintro e w' ⟨rfl, rfl⟩) | fail)
      go_ret
      exact ⟨w.heap.size, _, _, _, rfl, Nat.le_refl _, by (repeat' (first | (with_reducible exact Mod.refl _ _) | (with_reducible assumption) | (with_reducible refine Mod.drew ?_) | (with_reducible refine Mod.drewN ?_ _) | (with_reducible refine Mod.alloc ?_ _) | (with_reducible refine Mod.setCell ?_ ?_ _) | (left; simp; done) | (right; first | omega | (simp; omega) | (simp; done)))), Blk.new _ _ rfl⟩
    · go_enter Tryd.func54, Tryd.ntmps54
      go_wp2_with (first | (go_at_call 52; (with_reducible refine (unhide hBF _).mono ?_); rintro e w' ⟨rfl, rfl⟩) | (go_at_call 52; (with_reducible refine (unhide hBF0 _).mono ?_); rintro e w' ⟨rfl, rfl⟩) | fail)
      go_ret
      exact ⟨w.heap.size, _, _, _, rfl, Nat.le_refl _, by (repeat' (first | (with_reducible exact Mod.refl _ _) | (with_reducible assumption) | (with_reducible refine Mod.drew ?_) | (with_reducible refine Mod.drewN ?_ _) | (with_reducible refine Mod.alloc ?_ _) | (with_reducible refine Mod.setCell ?_ ?_ _) | (left; simp; done) | (right; first | omega | (simp; omega) | (simp; done)))), Blk.new _ _ rfl⟩
set_option maxRecDepth 100000 in
set_option maxHeartbeats 2000000 in
theorem newWW_z (w : World) (A : Option Addr) (n c f : Nat) (hA : SlF A n c) (hn : n ≤ 4096) (hf : f ≤ 8 * n) :
    Calls Tryd.prog 55 #[.slice A n c, .int .i64 f, .int .i64 0] w fun e w' => ∃ (P : Nat), e = .returned (.pointer (some ⟨P, 0, none⟩)) ∧ Mod [] w w' := by
  obtain ⟨hc, hz, hs⟩ := hA
  by_cases h0 : n = 0
  · subst h0
    obtain rfl : f = 0 := by omega
    cases A with
    | none =>
      obtain rfl : c = 0 := hz rfl
      go_enter Tryd.func55, Tryd.ntmps55
      go_wp2_with fail
      go_ret
      first | exact ⟨w.heap.size, rfl, by (repeat' (first | (with_reducible exact Mod.refl _ _) | (with_reducible assumption) | (with_reducible refine Mod.drew ?_) | (with_reducible refine Mod.drewN ?_ _) | (with_reducible refine Mod.alloc ?_ _) | (with_reducible refine Mod.setCell ?_ ?_ _) | (left; simp; done) | (right; first | omega | (simp; omega) | (simp; done))))⟩ | exact ⟨⟨w.heap.size, rfl⟩, by (repeat' (first | (with_reducible exact Mod.refl _ _) | (with_reducible assumption) | (with_reducible refine Mod.drew ?_) | (with_reducible refine Mod.drewN ?_ _) | (with_reducible refine Mod.alloc ?_ _) | (with_reducible refine Mod.setCell ?_ ?_ _) | (left; simp; done) | (right; first | omega | (simp; omega) | (simp; done))))⟩
    | some a =>
      go_enter Tryd.func55, Tryd.ntmps55
      go_wp2_with fail
      go_ret
      first | exact ⟨w.heap.size, rfl, by (repeat' (first | (with_reducible exact Mod.refl _ _) | (with_reducible assumption) | (with_reducible refine Mod.drew ?_) | (with_reducible refine Mod.drewN ?_ _) | (with_reducible refine Mod.alloc ?_ _) | (with_reducible refine Mod.setCell ?_ ?_ _) | (left; simp; done) | (right; first | omega | (simp; omega) | (simp; done))))⟩ | exact ⟨⟨w.heap.size, rfl⟩, by (repeat' (first | (with_reducible exact Mod.refl _ _) | (with_reducible assumption) | (with_reducible refine Mod.drew ?_) | (with_reducible refine Mod.drewN ?_ _) | (with_reducible refine Mod.alloc ?_ _) | (with_reducible refine Mod.setCell ?_ ?_ _) | (left; simp; done) | (right; first | omega | (simp; omega) | (simp; done))))⟩
  · obtain ⟨S, o, rfl⟩ := hs (by omega)
    clear hz hs
    by_cases hz8 : f % 8 = 0
    · have e0 : (f : Int) % 8 = 0 := by omega
      by_cases hcz : c - f / 8 = 0
      · go_enter Tryd.func55, Tryd.ntmps55
        go_wp2_with fail
        go_ret
        first | exact ⟨w.heap.size, rfl, by (repeat' (first | (with_reducible exact Mod.refl _ _) | (with_reducible assumption) | (with_reducible refine Mod.drew ?_) | (with_reducible refine Mod.drewN ?_ _) | (with_reducible refine Mod.alloc ?_ _) | (with_reducible refine Mod.setCell ?_ ?_ _) | (left; simp; done) | (right; first | omega | (simp; omega) | (simp; done))))⟩ | exact ⟨⟨w.heap.size, rfl⟩, by (repeat' (first | (with_reducible exact Mod.refl _ _) | (with_reducible assumption) | (with_reducible refine Mod.drew ?_) | (with_reducible refine Mod.drewN ?_ _) | (with_reducible refine Mod.alloc ?_ _) | (with_reducible refine Mod.setCell ?_ ?_ _) | (left; simp; done) | (right; first | omega | (simp; omega) | (simp; done))))⟩
      · go_enter Tryd.func55, Tryd.ntmps55
        go_wp2_with fail
        go_ret
        first | exact ⟨w.heap.size, rfl, by (repeat' (first | (with_reducible exact Mod.refl _ _) | (with_reducible assumption) | (with_reducible refine Mod.drew ?_) | (with_reducible refine Mod.drewN ?_ _) | (with_reducible refine Mod.alloc ?_ _) | (with_reducible refine Mod.setCell ?_ ?_ _) | (left; simp; done) | (right; first | omega | (simp; omega) | (simp; done))))⟩ | exact ⟨⟨w.heap.size, rfl⟩, by (repeat' (first | (with_reducible exact Mod.refl _ _) | (with_reducible assumption) | (with_reducible refine Mod.drew ?_) | (with_reducible refine Mod.drewN ?_ _) | (with_reducible refine Mod.alloc ?_ _) | (with_reducible refine Mod.setCell ?_ ?_ _) | (left; simp; done) | (right; first | omega | (simp; omega) | (simp; done))))⟩
    · have e0 : ((f : Int) % 8 != 0) = true := by simp; omega
      have hcz : ¬ c - f / 8 = 0 := by omega
      go_enter Tryd.func55, Tryd.ntmps55
      go_wp2_with fail
      go_ret
      first | exact ⟨w.heap.size, rfl, by (repeat' (first | (with_reducible exact Mod.refl _ _) | (with_reducible assumption) | (with_reducible refine Mod.drew ?_) | (with_reducible refine Mod.drewN ?_ _) | (with_reducible refine Mod.alloc ?_ _) | (with_reducible refine Mod.setCell ?_ ?_ _) | (left; simp; done) | (right; first | omega | (simp; omega) | (simp; done))))⟩ | exact ⟨⟨w.heap.size, rfl⟩, by (repeat' (first | (with_reducible exact Mod.refl _ _) | (with_reducible assumption) | (with_reducible refine Mod.drew ?_) | (with_reducible refine Mod.drewN ?_ _) | (with_reducible refine Mod.alloc ?_ _) | (with_reducible refine Mod.setCell ?_ ?_ _) | (left; simp; done) | (right; first | omega | (simp; omega) | (simp; done))))⟩
set_option maxRecDepth 100000 in
set_option maxHeartbeats 2000000 in
theorem unalZ_any (w : World) (A1 A2 A3 : Option Addr) (n1 c1 n2 c2 n3 c3 f1 f2 f3 k1 k2 k3 : Nat) (h1 : SlF A1 n1 c1) (h2 : SlF A2 n2 c2) (h3 : SlF A3 n3 c3) (hn1 : n1 ≤ 4096) (hn2 : n2 ≤ 4096) (hn3 : n3 ≤ 4096) (hf1 : f1 ≤ 8 * n1) (hf2 : f2 ≤ 8 * n2) (hf3 : f3 ≤ 8 * n3) :
    Calls Tryd.prog 34 #[.agg #[fnV k1, fnV k2, fnV k3], .slice A1 n1 c1, .slice A2 n2 c2, .int .i64 f1, .int .i64 f2, .slice A3 n3 c3, .int .i64 f3, .int .i64 0] w fun e w' => e = .returned (.tuple #[]) ∧ Mod [] w w' := by
  have hBox := (Mod.refl [] w).alloc (.cells #[fnV k1, fnV k2, fnV k3] 47)
  have hR1 := hide (fun W => newWR_z W A1 n1 c1 f1 h1 hn1 hf1)
  have hR2 := hide (fun W => newWR_z W A2 n2 c2 f2 h2 hn2 hf2)
  have hWw := hide (fun W => newWW_z W A3 n3 c3 f3 h3 hn3 hf3)
  clear h1 h2 h3
  have tok1 : True := trivial
  go_enter Tryd.func34, Tryd.ntmps34
  go_wp2_with (first
    | (go_at_call 54; have _t := tok1; with_reducible refine (unhide hR1 _).mono ?_; rintro e w1 ⟨P1, x0, x1, x5, rfl, hP1, hm1, hb1⟩; have hm01 := hBox.trans hm1 (by simp); clear tok1)
    | (go_at_call 54; with_reducible refine (unhide hR2 _).mono ?_; rintro e w2 ⟨P2, y0, y1, y5, rfl, hP2, hm2, hb2⟩; have hm02 := hm01.trans hm2 (by simp); have hb12 := hb1.mod hm2 (by simp))
    | (go_at_call 55; with_reducible refine (unhide hWw _).mono ?_; rintro e w3 ⟨P3, rfl, hm3⟩; have hm03 := hm02.trans hm3 (by simp); have hb13 := hb12.mod hm3 (by simp); have hWd := hide (words_any w3 P1 _ _ _ _ _ _ hb13); have hTy := hide (tbytes_any w3 P1 _ _ _ _ _ _ hb13); have HM3 := hide hm03; clear hb1 hb12 hb13 hm1 hm2 hm3 hm01 hm02 hm03)
    | (go_at_call 56; (with_reducible refine (unhide hWd).mono ?_); rintro e w4 ⟨rfl, rfl⟩)
    | fail)
  go_loopw [19] (fun v wr => v = .int .i64 0 ∧ wr = w3) (fun _ _ => 0)
  case atStart => exact ⟨rfl, rfl⟩
  case round =>
    obtain ⟨rfl, hw⟩ := hrel
    subst wr
    go_wp2_with (first | (go_at_call 59; (with_reducible refine (unhide hTy).mono ?_); rintro e w4 ⟨rfl, rfl⟩) | fail)
    go_loopw [20, 21, 22, 23, 24] (fun v _ _ _ _ wr => v = .int .i64 0 ∧ wr = w3) (fun _ _ _ _ _ _ => 0)
    case atStart => exact ⟨rfl, rfl⟩
    case round =>
      obtain ⟨rfl, hw⟩ := hrel
      subst wr
      go_wp2_with fail
      go_returns
      exact ⟨rfl, unhide HM3⟩
end
section
open Go.ChangeShapes Go.WideShapes Go.ChangeAt Go.RowKit
/-- bytes that came in: their block lies below Bd. -/
structure In (w : World) (Bd : Nat) (A : Option Addr) (n c : Nat) (ds : List Nat) : Prop where
  sl : Sl w Bd A n (bv ds)
  small : Small ds
  len : ds.length = n
  form : SlF A n c
  most : n ≤ 4096
theorem In.mod {w w' : World} {Bd : Nat} {A : Option Addr} {n c : Nat} {ds : List Nat} {S : List Nat} (h : In w Bd A n c ds) (hm : Mod S w w') (hS : ∀ x ∈ S, Bd ≤ x) : In w' Bd A n c ds :=
  ⟨h.sl.mod hm hS, h.small, h.len, h.form, h.most⟩
def pre (o : Nat) (ds : List Nat) : List Nat := List.replicate o 0 ++ ds
theorem pre_length (o : Nat) (ds : List Nat) : (pre o ds).length = o + ds.length := by simp [pre]
theorem pre_small (o : Nat) {ds : List Nat} (h : Small ds) : Small (pre o ds) := by
  intro x hx
  rcases List.mem_append.1 hx with h1 | h1
  · rw [List.eq_of_mem_replicate h1]; decide
  · exact h x h1
theorem pre_get (o : Nat) (ds : List Nat) (i : Nat) : (pre o ds).getD (o + i) 0 = ds.getD i 0 := by
  unfold pre
  rw [List.getD_eq_getElem?_getD, List.getD_eq_getElem?_getD, List.getElem?_append_right (by simp)]
  simp
theorem pre_bit (o : Nat) (ds : List Nat) (i : Nat) : bitAt (pre o ds) (8 * o + i) = bitAt ds i := by
  unfold bitAt
  have e1 : (8 * o + i) / 8 = o + i / 8 := by omega
  have e2 : (8 * o + i) % 8 = i % 8 := by omega
  rw [e1, e2, pre_get]
theorem In.open_ {w : World} {Bd : Nat} {A : Option Addr} {n c : Nat} {ds : List Nat} (h : In w Bd A n c ds) (hn : 0 < n) : ∃ S o, A = some ⟨S, o, none⟩ ∧ S < Bd ∧ Rdb w S (pre o ds) o := by
  obtain ⟨S, o, e, hS, hc⟩ := h.sl.2 hn
  refine ⟨S, o, e, hS, fun i hlo hi => ?_⟩
  rw [pre_length] at hi
  have hj : i - o < ds.length := by omega
  have h2 := bv_get ds (i - o) hj
  rw [List.getElem?_toArray] at h2
  have := hc (i - o) _ h2
  have e1 : o + (i - o) = i := by omega
  rw [e1] at this
  have e2 := pre_get o ds (i - o)
  rw [e1] at e2
  rw [this, e2]
theorem lb_pre (o : Nat) (ds : List Nat) (f n j : Nat) (hj : j < n) : (lb ds f n).getD j false = bitAt (pre o ds) (8 * (o + f / 8) + f % 8 + j) := by
  have e : 8 * (o + f / 8) + f % 8 + j = 8 * o + (f + j) := by omega
  rw [lb_get _ _ _ _ hj, e, pre_bit]
set_option maxRecDepth 100000 in
set_option maxHeartbeats 2000000 in
theorem aligZ_any (w : World) (A1 A2 A3 : Option Addr) (n1 c1 n2 c2 n3 c3 f1 f2 f3 k1 k2 k3 : Nat) (h1 : SlF A1 n1 c1) (h2 : SlF A2 n2 c2) (h3 : SlF A3 n3 c3) (hn1 : n1 ≤ 4096) (hn2 : n2 ≤ 4096) (hn3 : n3 ≤ 4096) (hf1 : f1 ≤ 8 * n1) (hf2 : f2 ≤ 8 * n2) (hf3 : f3 ≤ 8 * n3) (h8 : f1 % 8 = 0) :
    Calls Tryd.prog 33 #[.agg #[fnV k1, fnV k2, fnV k3], .slice A1 n1 c1, .slice A2 n2 c2, .int .i64 f1, .int .i64 f2, .slice A3 n3 c3, .int .i64 f3, .int .i64 0] w fun e w' => e = .returned (.tuple #[]) ∧ Mod [] w w' := by
  have hBF0 := hide (fun (W : World) => show Calls Tryd.prog 52 #[.int .i64 0] W fun e w' => e = .returned (.int .i64 0) ∧ W = w' from bfb_i W 0 0 rfl (by omega))
  have e0 : (f1 : Int) % 8 = 0 := by omega
  obtain ⟨hc1, hz1, hs1⟩ := h1
  obtain ⟨hc2, hz2, hs2⟩ := h2
  obtain ⟨hc3, hz3, hs3⟩ := h3
  have hb1 : (f1 : Int) / 8 ≤ (n1 : Int) := by omega
  have hb2 : (f2 : Int) / 8 ≤ (n2 : Int) := by omega
  have hb3 : (f3 : Int) / 8 ≤ (n3 : Int) := by omega
  go_enter Tryd.func33, Tryd.ntmps33
  go_wp2_with (first | (go_at_call 52; (with_reducible refine (unhide hBF0 _).mono ?_); rintro e w' ⟨rfl, rfl⟩) | (go_at_call 53; with_reducible refine (assert_any _ _ _).mono ?_; rintro e w6 ⟨rfl, rfl⟩) | fail)
  all_goals (go_returns; exact ⟨rfl, by (repeat' (first | (with_reducible exact Mod.refl _ _) | (with_reducible assumption) | (with_reducible refine Mod.drew ?_) | (with_reducible refine Mod.drewN ?_ _) | (with_reducible refine Mod.alloc ?_ _) | (with_reducible refine Mod.setCell ?_ ?_ _) | (left; simp; done) | (right; first | omega | (simp; omega) | (simp; done))))⟩)
set_option maxRecDepth 100000 in
set_option maxHeartbeats 2000000 in
theorem bopZ_any (w : World) (A1 A2 A3 : Option Addr) (n1 c1 n2 c2 n3 c3 f1 f2 f3 k1 k2 k3 : Nat) (h1 : SlF A1 n1 c1) (h2 : SlF A2 n2 c2) (h3 : SlF A3 n3 c3) (hn1 : n1 ≤ 4096) (hn2 : n2 ≤ 4096) (hn3 : n3 ≤ 4096) (hf1 : f1 ≤ 8 * n1) (hf2 : f2 ≤ 8 * n2) (hf3 : f3 ≤ 8 * n3) (h8 : f3 % 8 = 0) :
    Calls Tryd.prog 26 #[.agg #[fnV k1, fnV k2, fnV k3], .slice A1 n1 c1, .slice A2 n2 c2, .int .i64 f1, .int .i64 f2, .slice A3 n3 c3, .int .i64 f3, .int .i64 0] w fun e w' => e = .returned (.tuple #[]) ∧ Mod [] w w' := by
  have hBox := (Mod.refl [] w).alloc (.cells #[fnV k1, fnV k2, fnV k3] 47)
  have hU := hide (fun W => unalZ_any W A1 A2 A3 n1 c1 n2 c2 n3 c3 f1 f2 f3 k1 k2 k3 h1 h2 h3 hn1 hn2 hn3 hf1 hf2 hf3)
  have e0 : (f3 : Int) % 8 = 0 := by omega
  by_cases h9 : f1 % 8 = 0
  · have e1 : (f1 : Int) % 8 = 0 := by omega
    have hA := hide (fun W => aligZ_any W A1 A2 A3 n1 c1 n2 c2 n3 c3 f1 f2 f3 k1 k2 k3 h1 h2 h3 hn1 hn2 hn3 hf1 hf2 hf3 h9)
    clear h1 h2 h3
    by_cases h10 : f2 % 8 = 0
    · have e2 : (f2 : Int) % 8 = 0 := by omega
      go_enter Tryd.func26, Tryd.ntmps26
      go_wp2_with (first | (go_at_call 33; with_reducible refine (unhide hA _).mono ?_; rintro e w1 ⟨rfl, hm1⟩) | fail)
      go_returns
      exact ⟨rfl, hBox.trans hm1 (by simp)⟩
    · have e2 : ((0 : Int) == (f2 : Int) % 8) = false := by rw [beq_eq_false_iff_ne]; omega
      go_enter Tryd.func26, Tryd.ntmps26
      go_wp2_with (first | (go_at_call 34; with_reducible refine (unhide hU _).mono ?_; rintro e w1 ⟨rfl, hm1⟩) | fail)
      go_returns
      exact ⟨rfl, hBox.trans hm1 (by simp)⟩
  · have e1 : ((0 : Int) == (f1 : Int) % 8) = false := by rw [beq_eq_false_iff_ne]; omega
    clear h1 h2 h3
    go_enter Tryd.func26, Tryd.ntmps26
    go_wp2_with (first | (go_at_call 34; with_reducible refine (unhide hU _).mono ?_; rintro e w1 ⟨rfl, hm1⟩) | fail)
    go_returns
    exact ⟨rfl, hBox.trans hm1 (by simp)⟩
end
section
open Go.ChangeShapes Go.WideShapes Go.ChangeAt Go.RowKit
def OutB (w : World) (B P m : Nat) (cr : List Nat) : Prop :=
  (m = 0 ∧ cr = [] ∧ Bf w P (.slice none 0 0) 0) ∨ (0 < m ∧ ∃ G, Bf w P (.slice (some ⟨G, 0, none⟩) (r64 m) (r64 m)) m ∧ w.ownsRow B 5 1 (.slice (some ⟨G, 0, none⟩) m (r64 m)) m (bv cr))
theorem own_blk {w : World} {B G m R : Nat} (h : Blk w G 5 (bv (List.replicate R 0)).toArray) (hB : B ≤ G) (hm : m ≤ R) (hR : R ≤ 1048576) : w.ownsRow B 5 1 (.slice (some ⟨G, 0, none⟩) m R) m (bv (List.replicate m 0)) := by
  refine ⟨by simp [bv], .inr ⟨G, R, _, rfl, hB, h, hm, ?_, by simp [bv], ?_⟩⟩
  · have : maxLen = 9223372036854775807 := by decide
    omega
  · simp [bv, List.take_replicate]
    omega
theorem r64_le (m : Nat) (hm : m ≤ 4096) : m ≤ r64 m ∧ r64 m ≤ 1048576 := by unfold r64; omega
theorem bf_new {w : World} {g P : Nat} (h : Blk w g 57 #[.int .i64 1, .slice none 0 0, .int .i64 0, .bool true, plainV, .pointer none]) (e : g = P) : Bf w P (.slice none 0 0) 0 := by subst e; exact h
theorem copied_n (w : World) (A : Option Addr) (c : Nat) (d : List Nat) (n : Nat) (hl : d.length = n) {B : Nat} (hB : B ≤ w.heap.size) (hd : Sl w B A n (bv d)) (hn : n ≤ 4096) :
    Calls Tryd.prog 14 #[.slice A n c] w fun e w' => ∃ G cap, e = .returned (.slice (some ⟨G, 0, none⟩) n cap) ∧ w'.ownsRow w.heap.size 5 1 (.slice (some ⟨G, 0, none⟩) n cap) n (bv d) ∧ Mod [] w w' ∧ w.heap.size ≤ G ∧ n ≤ cap := by
  subst hl; exact copied_any w A c d hB hd hn
theorem out_bytes {w : World} {B P m : Nat} {cr : List Nat} (h : OutB w B P m cr) : ∃ A R, (Calls Tryd.prog 25 #[.pointer (some ⟨P, 0, none⟩)] w fun e w' => e = .returned (.slice A m R) ∧ Mod [] w w') ∧ Sl w w.heap.size A m (bv cr) := by
  rcases h with ⟨rfl, rfl, h⟩ | ⟨h0, G, h, ho⟩
  · exact ⟨none, 0, bytes_any w P 0 0 0 none (Nat.le_refl _) h, rfl, fun h => absurd h (by omega)⟩
  · exact ⟨some ⟨G, 0, none⟩, r64 m, bytes_any w P m (r64 m) (r64 m) _ (by unfold r64; omega) h, own_sl ho (own_lt' ho)⟩
theorem own_ge {w : World} {B G n cap : Nat} {xs : List Value} (h : w.ownsRow B 5 1 (.slice (some ⟨G, 0, none⟩) n cap) n xs) : B ≤ G := (h.lt G rfl).1
end
end Go.Proofs.YtjfbojmeccdchaaDoor
