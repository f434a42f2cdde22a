/- Bits counted: words of bytes. -/
import Derived.Test.YtfodkdadbcojeaaDoorC4
set_option linter.unusedVariables false
set_option linter.unusedSimpArgs false
namespace Go.Proofs.YtfodkdadbcojeaaDoor
open Go.ChangeShapes Go.WideShapes Go.ChangeAt Go.RowKit
def word (d : List Nat) (j : Nat) : Nat := le ((d.drop (8 * j)).take 8)
def words (d : List Nat) (q : Nat) : List Value := (List.range q).map fun j => Value.int .u64 (word d j : Int)
theorem words_length (d : List Nat) (q : Nat) : (words d q).length = q := by simp [words]
theorem words_succ (d : List Nat) (q : Nat) : words d (q + 1) = words d q ++ [.int .u64 (word d q : Int)] := by simp [words, List.range_succ]
def wpart (xs : List Value) (N : Nat) : Array Value := (xs ++ List.replicate (N - xs.length) (Value.int .u64 0)).toArray
theorem wpart_set (l : List Value) (N : Nat) (b : Value) (h : l.length < N) : (wpart l N).setIfInBounds l.length b = wpart (l ++ [b]) N := by
  unfold wpart
  rw [List.setIfInBounds_toArray]
  congr 1
  rw [List.set_append_right _ _ (by omega), Nat.sub_self]
  obtain ⟨m, hm⟩ : ∃ m, N - l.length = m + 1 := ⟨N - l.length - 1, by omega⟩
  have hm2 : N - (l ++ [b]).length = m := by simp; omega
  rw [hm, hm2, List.replicate_succ, List.set_cons_zero]
  simp
theorem wpart_size (l : List Value) (N : Nat) (h : l.length ≤ N) : (wpart l N).size = N := by simp [wpart]; omega
theorem wpart_full (l : List Value) (N : Nat) (h : l.length = N) : wpart l N = l.toArray := by simp [wpart, h]
theorem info59 : (Tryd.prog.info? 59).map (fun i => (i.zero, i.size, i.bytes)) = some (some (.int .u64 0), 1, 8) := by kernel_rfl
theorem made_wpart (N : Nat) : madeCells (Value.cells (.int .u64 0)) (N * 1) = wpart [] N := by
  simp [wpart, madeCells, Value.cells]
  apply Array.ext
  · simp
  · intro i h1 h2
    simp [Nat.mod_one]
theorem make62 (N : Nat) (hN : N ≤ 1048576) (w : World) : (Instr.makeSlice 62 (.int .i64 (N : Int)) (.int .i64 (N : Int))).run Tryd.prog w = .ok (.slice (some ⟨w.heap.size, 0, none⟩) N N) (w.alloc (.cells (wpart [] N) 59)) := by
  obtain ⟨i0, hi, hz0, hz1, hz2⟩ := info_parts info59
  have := run_make_rowN (P := Tryd.prog) 62 59 i0 _ Tryd.underlying62 hi hz0 .i64 .i64 N N (Nat.le_refl _) (by rw [hz2]; omega) (by omega) w
  rw [this, hz1, made_wpart]
def WdRel (w : World) (d : List Nat) (q G : Nat) (v14 : Value) (wr : World) : Prop :=
  ∃ k : Nat, k ≤ q ∧ v14 = .int .i64 k ∧ Blk wr G 59 (wpart (words d k) q) ∧ Mod [] w wr
theorem eight_of {l : List Nat} (h : l.length = 8) : ∃ b0 b1 b2 b3 b4 b5 b6 b7, l = [b0, b1, b2, b3, b4, b5, b6, b7] := by
  match l, h with
  | [b0, b1, b2, b3, b4, b5, b6, b7], _ => exact ⟨b0, b1, b2, b3, b4, b5, b6, b7, rfl⟩
theorem words_cell {w : World} {B n b off : Nat} {d : List Nat} (hd : Sl w B (some ⟨b, off, none⟩) n (bv d)) (k j : Nat) (hk : 8 * k + 8 ≤ n) (hj : j < 8) :
    w.cell? ⟨b, off + k * 8 + j, none⟩ = some (.int .u8 ((((d.drop (8 * k)).take 8).getD j 0 : Nat) : Int)) := by
  obtain ⟨b', off', u, e, hbl, hu, hcell⟩ := hd.at_ (k := 8 * k + j) (by omega)
  cases e
  rw [show off + k * 8 + j = off + (8 * k + j) by omega, hcell]
  have hl := hd.1
  simp [bv] at hl
  have hlt : 8 * k + j < d.length := by omega
  simp only [bv, List.getElem?_map, List.getElem?_eq_getElem hlt, Option.map_some] at hu
  cases hu
  congr 2
  simp [List.getD_eq_getElem?_getD, List.getElem?_take, hj, List.getElem?_drop, List.getElem?_eq_getElem hlt]
set_option maxRecDepth 100000 in
set_option maxHeartbeats 4000000 in
theorem words_any (w : World) (A : Option Addr) (n c : Nat) (d : List Nat) (hs : Small d) (hd : Sl w w.heap.size A n (bv d)) (hn : n ≤ 4096) (h8 : 8 ≤ n) (hnc : n ≤ c) {q : Nat} (hq : n / 8 = q) :
    Calls Tryd.prog 46 #[.slice A n c] w fun e w' => ∃ G, e = .returned (.slice (some ⟨G, 0, none⟩) q q) ∧ Blk w' G 59 (words d q).toArray ∧ Mod [] w w' := by
  have hmk := make62 (n / 8) (by omega) w
  rw [show ((n / 8 : Nat) : Int) = (n : Int) / 8 by simp] at hmk
  go_enter Tryd.func46, Tryd.ntmps46
  go_wp2_with fail
  clear hmk
  have hqi : (n : Int) / 8 = (q : Int) := by omega
  try simp only [hqi, hq]
  have hm0 : Mod [] w (w.alloc (.cells (wpart [] q) 59)) := by (repeat' (first | exact Mod.refl _ _ | assumption | apply Mod.drew | apply Mod.drewN | apply Mod.alloc | (refine Mod.setCell ?_ (by first | (left; simp; done) | (right; first | omega | (simp; omega) | (simp; done))) _)))
  have hb0 : Blk (w.alloc (.cells (wpart [] q) 59)) w.heap.size 59 (wpart [] q) := by (repeat' (first | assumption | apply Blk.drew | apply Blk.drewN | (exact Blk.new _ _ (by simp)) | apply Blk.alloc | (refine Blk.other ?_ (by first | assumption | omega | (simp; omega)) _)))
  generalize w.alloc (.cells (wpart [] q) 59) = w1 at hm0 hb0 ⊢
  have hq8 : 8 * q ≤ n := by omega
  have hq9 : q ≤ 512 := by omega
  clear hqi hq
  go_loopw [14] (WdRel w d q w.heap.size) (fun v _ => q - (intOf v).toNat)
  case atStart => exact ⟨0, Nat.zero_le _, rfl, hb0, hm0⟩
  case round =>
    obtain ⟨k, hk, rfl, hb, hmr⟩ := hrel
    by_cases hlt : k < q
    · obtain ⟨b, off, u, rfl, hbl, hu, hcell⟩ := (hd.mod hmr (by simp)).at_ (k := 8 * k) (by omega)
      have hps : k < (wpart (words d k) q).size := by rw [wpart_size _ _ (by rw [words_length]; omega)]; exact hlt
      have ck := hb.cell k
      rw [Array.getElem?_eq_getElem hps] at ck
      have fk := hb.frozen k
      have hG := hb.lt
      have hck : 8 * k < c := by omega
      have hki : (k : Int) * 8 ≤ (n : Int) := by omega
      have hk1 : (k : Int) * 8 < (c : Int) := by omega
      have hk2 : k * 8 < c := by omega
      have hk3 : ¬ c - k * 8 = 0 := by omega
      have hk4 : ¬ c = k * 8 := by omega
      have hk5 : 0 ≤ (k : Int) * 8 := by omega
      have hk6 : k * 8 ≤ n := by omega
      have hk7 : (n : Int) ≤ (c : Int) := by omega
      have hk8 : (8 : Int) * (k : Int) < (c : Int) := by omega
      have hk9 : (c : Int) - (k : Int) * 8 ≠ 0 := by omega
      have hk10 : ¬ (c : Int) = (k : Int) * 8 := by omega
      have hU : ∀ wx : World, Mod [] wr wx → Calls Tryd.prog 72 #[.agg #[], .slice (some ⟨b, off + k * 8, none⟩) (n - k * 8) (c - k * 8)] wx fun e w' => e = .returned (.int .u64 (word d k : Int)) ∧ Mod [] wx w' := by
        intro wx hx
        have hl := hd.1
        simp [bv] at hl
        obtain ⟨b0, b1, b2, b3, b4, b5, b6, b7, e8⟩ : ∃ b0 b1 b2 b3 b4 b5 b6 b7, (d.drop (8 * k)).take 8 = [b0, b1, b2, b3, b4, b5, b6, b7] := eight_of (by simp; omega)
        have hc8 := fun j hj => words_cell (hd.mod (hmr.trans hx (by simp)) (by simp)) k j (by omega) hj
        rw [e8] at hc8
        have hs8 : Small [b0, b1, b2, b3, b4, b5, b6, b7] := by
          rw [← e8]; intro x hx; exact hs x (List.mem_of_mem_drop (List.mem_of_mem_take hx))
        have := le64_any wx b (off + k * 8) (n - k * 8) (c - k * 8) b0 b1 b2 b3 b4 b5 b6 b7 (by omega) hs8 hc8
        unfold word
        rw [e8]
        exact this
      have hF : ∀ wx : World, Mod [] wr wx → WdRel w d q w.heap.size (.int .i64 ((k : Int) + 1)) (wx.setCell ⟨w.heap.size, k, none⟩ (.int .u64 (word d k : Int))) := by
        intro wx hx
        refine ⟨k + 1, by omega, by simp, ?_, (hmr.trans hx (by simp)).setCell (by simp) _⟩
        have h2 := (hb.mod hx (by simp)).set k (.int .u64 (word d k : Int))
        have h3 := wpart_set (words d k) q (.int .u64 (word d k : Int)) (by rw [words_length]; exact hlt)
        rw [words_length, ← words_succ] at h3
        rw [h3] at h2
        exact h2
      have hcf : ∀ wx : World, Mod [] wr wx → (∃ v0, wx.cell? ⟨w.heap.size, k, none⟩ = some v0) ∧ wx.frozen? ⟨w.heap.size, k, none⟩ = false := by
        intro wx hx
        have := hb.mod hx (by simp)
        refine ⟨⟨_, by rw [this.cell k, Array.getElem?_eq_getElem hps]⟩, this.frozen k⟩
      have HU := hide hU
      have HF := hide hF
      have HC := hide hcf
      generalize word d k = vv at HU HF
      clear hU hF hcf ck fk hb hd hcell hu hps hm0 hb0 hmr
      rcases Nat.eq_zero_or_pos k with rfl | hkp
      · simp only [Nat.zero_mul, Nat.add_zero, Nat.sub_zero] at HU
        have hw0 : IntKind.i64.wrap 0 = 0 := by decide
        have hw1 : ¬ c = 0 := by omega
        go_upto_region 7 with fail
        go_region_with (go_at_call 72; (with_reducible refine (unhide HU _ (by (repeat' (first | exact Mod.refl _ _ | assumption | apply Mod.drew | apply Mod.drewN | apply Mod.alloc | (refine Mod.setCell ?_ (by first | (left; simp; done) | (right; first | omega | (simp; omega) | (simp; done))) _))))).mono ?_); rintro e w' ⟨rfl, hm'⟩; obtain ⟨⟨v0, ck'⟩, fk'⟩ := unhide HC _ (show Mod [] _ w' from (by apply Mod.trans (b := wr.drew) (by (repeat' (first | exact Mod.refl _ _ | assumption | apply Mod.drew | apply Mod.drewN | apply Mod.alloc | (refine Mod.setCell ?_ (by first | (left; simp; done) | (right; first | omega | (simp; omega) | (simp; done))) _)))) hm' (by simp))))
        go_wp2
        exact ⟨unhide HF _ (Mod.trans (b := wr.drew) (by (repeat' (first | exact Mod.refl _ _ | assumption | apply Mod.drew | apply Mod.drewN | apply Mod.alloc | (refine Mod.setCell ?_ (by first | (left; simp; done) | (right; first | omega | (simp; omega) | (simp; done))) _)))) hm' (by simp)), by simp [intOf]; omega⟩
      · have hkn : ¬ k * 8 = 0 := by omega
        have hkn2 : ¬ k = 0 := by omega
        have hw0 : IntKind.i64.wrap ((k : Int) * 8) = (k : Int) * 8 := (IntWalk.i64_left _).trans (IntWalk.wrap64_in _ (by omega))
        have hw1 : ((k : Int) * 8).toNat = k * 8 := by omega
        go_upto_region 7 with fail
        go_region_with (go_at_call 72; (with_reducible refine (unhide HU _ (by (repeat' (first | exact Mod.refl _ _ | assumption | apply Mod.drew | apply Mod.drewN | apply Mod.alloc | (refine Mod.setCell ?_ (by first | (left; simp; done) | (right; first | omega | (simp; omega) | (simp; done))) _))))).mono ?_); rintro e w' ⟨rfl, hm'⟩; obtain ⟨⟨v0, ck'⟩, fk'⟩ := unhide HC _ (show Mod [] _ w' from (by apply Mod.trans (b := wr.drew) (by (repeat' (first | exact Mod.refl _ _ | assumption | apply Mod.drew | apply Mod.drewN | apply Mod.alloc | (refine Mod.setCell ?_ (by first | (left; simp; done) | (right; first | omega | (simp; omega) | (simp; done))) _)))) hm' (by simp))))
        go_wp2
        exact ⟨unhide HF _ (Mod.trans (b := wr.drew) (by (repeat' (first | exact Mod.refl _ _ | assumption | apply Mod.drew | apply Mod.drewN | apply Mod.alloc | (refine Mod.setCell ?_ (by first | (left; simp; done) | (right; first | omega | (simp; omega) | (simp; done))) _)))) hm' (by simp)), by simp [intOf]; omega⟩
    · obtain rfl : k = q := by omega
      go_wp2
      go_ret
      refine ⟨w.heap.size, rfl, ?_, hmr⟩
      rw [wpart_full _ _ (words_length d k)] at hb
      exact hb
end Go.Proofs.YtfodkdadbcojeaaDoor
