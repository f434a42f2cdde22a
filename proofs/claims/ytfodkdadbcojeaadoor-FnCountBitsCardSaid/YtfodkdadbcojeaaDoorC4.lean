/- Bits counted: the list of bits. -/
import Derived.Test.YtfodkdadbcojeaaDoorC3
set_option linter.unusedVariables false
set_option linter.unusedSimpArgs false
namespace Go.Proofs.YtfodkdadbcojeaaDoor
open Go.ChangeShapes Go.WideShapes Go.ChangeAt Go.RowKit
def lb (d : List Nat) (f n : Nat) : List Bool := (List.range n).map fun i => bitAt d (f + i)
theorem lb_length (d : List Nat) (f n : Nat) : (lb d f n).length = n := by simp [lb]
theorem lb_succ (d : List Nat) (f n : Nat) : lb d f (n + 1) = lb d f n ++ [bitAt d (f + n)] := by simp [lb, List.range_succ]
theorem lb_get (d : List Nat) (f n i : Nat) (h : i < n) : (lb d f n).getD i false = bitAt d (f + i) := by
  simp [lb, List.getD_eq_getElem?_getD, List.getElem?_range h]
/-- a made row: k of them are written. -/
def part (l : List Bool) (N : Nat) : Array Value := (bools l ++ List.replicate (N - l.length) (Value.bool false)).toArray
theorem part_set (l : List Bool) (N : Nat) (b : Bool) (h : l.length < N) : (part l N).setIfInBounds l.length (.bool b) = part (l ++ [b]) N := by
  unfold part
  rw [List.setIfInBounds_toArray]
  congr 1
  have hb : (bools l).length = l.length := by simp [bools]
  rw [List.set_append_right _ _ (by omega), hb, Nat.sub_self]
  obtain ⟨m, hm⟩ : ∃ m, N - l.length = m + 1 := ⟨N - l.length - 1, by omega⟩
  have hm2 : N - (l ++ [b]).length = m := by simp; omega
  rw [hm, hm2, List.replicate_succ, List.set_cons_zero]
  simp [bools]
theorem part_size (l : List Bool) (N : Nat) (h : l.length ≤ N) : (part l N).size = N := by simp [part, bools]; omega
theorem part_full (l : List Bool) (N : Nat) (h : l.length = N) : part l N = (bools l).toArray := by simp [part, h]
theorem info4 : (Tryd.prog.info? 4).map (fun i => (i.zero, i.size, i.bytes)) = some (some (.bool false), 1, 1) := by kernel_rfl
theorem made_part (N : Nat) : madeCells (Value.cells (.bool false)) (N * 1) = part [] N := by
  simp [part, bools, madeCells, Value.cells]
  apply Array.ext
  · simp
  · intro i h1 h2
    simp [Nat.mod_one]
theorem make23 (N : Nat) (hN : N ≤ 281474976710656) (w : World) : (Instr.makeSlice 23 (.int .i64 (N : Int)) (.int .i64 (N : Int))).run Tryd.prog w = .ok (.slice (some ⟨w.heap.size, 0, none⟩) N N) (w.alloc (.cells (part [] N) 4)) := by
  obtain ⟨i0, hi, hz0, hz1, hz2⟩ := info_parts info4
  have := run_make_rowN (P := Tryd.prog) 23 4 i0 _ Tryd.underlying23 hi hz0 .i64 .i64 N N (Nat.le_refl _) (by rw [hz2]; omega) (by omega) w
  rw [this, hz1, made_part]
def BlRel (w : World) (d : List Nat) (f N G : Nat) (v29 : Value) (wr : World) : Prop :=
  ∃ k : Nat, k ≤ N ∧ v29 = .int .i64 k ∧ Blk wr G 4 (part (lb d f k) N) ∧ Mod [] w wr
set_option maxRecDepth 100000 in
set_option maxHeartbeats 4000000 in
theorem blist_any (w : World) (A : Option Addr) (n c f N : Nat) (d : List Nat) (hs : Small d) (hd : Sl w w.heap.size A n (bv d)) (hn : n ≤ 4096) (hfl : f + N ≤ 8 * n) :
    Calls Tryd.prog 12 #[.slice A n c, .int .i64 (f : Int), .int .i64 (N : Int)] w fun e w' => ∃ G, e = .returned (.tuple #[.slice (some ⟨G, 0, none⟩) N N, .bool true]) ∧ Blk w' G 4 (bools (lb d f N)).toArray ∧ Mod [] w w' ∧ w.heap.size ≤ G := by
  have hmk := make23 N (by omega) w
  go_enter Tryd.func12, Tryd.ntmps12
  go_wp2_with fail
  clear hmk
  have hm0 : Mod [] w (w.alloc (.cells (part [] N) 4)) := by (repeat' (first | exact Mod.refl _ _ | assumption | apply Mod.drew | apply Mod.drewN | apply Mod.alloc | (refine Mod.setCell ?_ (by first | (left; simp; done) | (right; first | omega | (simp; omega) | (simp; done))) _)))
  have hb0 : Blk (w.alloc (.cells (part [] N) 4)) w.heap.size 4 (part [] N) := by (repeat' (first | assumption | apply Blk.drew | apply Blk.drewN | (exact Blk.new _ _ (by simp)) | apply Blk.alloc | (refine Blk.other ?_ (by first | assumption | omega | (simp; omega)) _)))
  generalize w.alloc (.cells (part [] N) 4) = w1 at hm0 hb0 ⊢
  go_loopw [29] (BlRel w d f N w.heap.size) (fun v _ => N - (intOf v).toNat)
  case atStart => exact ⟨0, Nat.zero_le _, rfl, hb0, hm0⟩
  case round =>
    obtain ⟨k, hk, rfl, hb, hmr⟩ := hrel
    by_cases hlt : k < N
    · obtain ⟨b, off, u, rfl, hbl, hu, hcell⟩ := (hd.mod hmr (by simp)).at_ (k := (f + k) / 8) (by omega)
      have hcu : wr.cell? ⟨b, off + (f + k) / 8, none⟩ = some (.int .u8 ((d.getD ((f + k) / 8) 0 : Nat) : Int)) := by
        rw [hcell]
        congr 1
        have hl := hd.1
        simp [bv] at hl
        simp [bv, List.getElem?_eq_getElem (show (f + k) / 8 < d.length by omega)] at hu
        rw [← hu, List.getD_eq_getElem?_getD, List.getElem?_eq_getElem (show (f + k) / 8 < d.length by omega)]
        rfl
      have B0 := bit_any wr b off n c d (f + k) hs (by omega) (by omega) hcu
      rw [Int.natCast_add] at B0
      have B1 := hide B0
      clear B0
      have hps : k < (part (lb d f k) N).size := by rw [part_size _ _ (by rw [lb_length]; omega)]; exact hlt
      have ck := hb.cell k
      rw [Array.getElem?_eq_getElem hps] at ck
      have fk := hb.frozen k
      have hG := hb.lt
      have hfin : BlRel w d f N w.heap.size (.int .i64 ((k : Int) + 1)) (wr.setCell ⟨w.heap.size, k, none⟩ (.bool (bitAt d (f + k)))) := by
        refine ⟨k + 1, by omega, by simp, ?_, hmr.setCell (by simp) _⟩
        have h2 := hb.set k (.bool (bitAt d (f + k)))
        have h3 := part_set (lb d f k) N (bitAt d (f + k)) (by rw [lb_length]; exact hlt)
        rw [lb_length, ← lb_succ] at h3
        rw [h3] at h2
        exact h2
      have HF := Lib.hid hfin
      generalize bitAt d (f + k) = bb at B1 HF
      generalize (part (lb d f k) N)[k] = vv at ck
      clear hfin hb hd hcell hu hcu hps hb0 hm0 hmr
      go_wp2_with (go_at_call 11; (with_reducible refine (unhide B1).mono ?_); rintro e w' ⟨rfl, rfl⟩)
      all_goals exact ⟨HF.out, by simp [intOf]; omega⟩
    · obtain rfl : k = N := by omega
      go_wp2
      go_ret2
      refine ⟨w.heap.size, rfl, ?_, hmr, Nat.le_refl _⟩
      rw [part_full _ _ (lb_length d f k)] at hb
      exact hb
end Go.Proofs.YtfodkdadbcojeaaDoor
