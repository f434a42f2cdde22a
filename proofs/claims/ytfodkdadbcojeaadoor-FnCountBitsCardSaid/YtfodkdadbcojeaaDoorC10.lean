/- FnCountBits: the thin package's function and the law's walk. -/
import Derived.Test.YtfodkdadbcojeaaDoorC9
import Derived.Test.YtfodkdadbcojeaaDoorG9
import Derived.Test.YtfodkdadbcojeaaDoorG10
set_option linter.unusedVariables false
set_option linter.unusedSimpArgs false
namespace Go.Proofs.YtfodkdadbcojeaaDoor
open Go.ChangeShapes Go.WideShapes Go.ChangeAt Go.RowKit
theorem idle26 (p : Addr) (w : World) : CallsD Tryd.prog 26 #[.pointer (some p)] .returning w fun e u' w' => e = .returned (.tuple #[]) ∧ u' = .returning ∧ w = w' := by
  refine callsD_of_wpS Tryd.func26 rfl fun c₀ cs hu => ?_
  apply wpS_seq
  apply wpS_region
  simp [wpOpsS, go_sem, recoverD, hu, Tryd.ntmps26, Exit.thenS]
  refine wpS_cond (t := false) (by simp [Act.eval, Array.replicate]) ?_
  simp only [Bool.false_eq_true, if_false]
  refine wpS_of_wp (wp_skip ?_)
  cases c₀
  simp_all [bodyPostS, results, Tryd.results26]
set_option maxRecDepth 100000 in
set_option maxHeartbeats 4000000 in
theorem icount_any (w : World) (A : Option Addr) (n c f N : Nat) (d : List Nat) (hs : Small d) (hd : Sl w w.heap.size A n (bv d)) (hn : n ≤ 4096) (hnc : n ≤ c) (hN : f + N ≤ 8 * n) (hM : Msk w) :
    Calls Tryd.prog 13 #[.slice A n c, .int .i64 (f : Int), .int .i64 (N : Int)] w fun e w' => e = .returned (.int .i64 (cnt d f N : Nat)) ∧ Mod [] w w' := by
  have hm1 : Mod [] w (w.alloc (.cells #[.int .i64 0] 3)) := by (repeat' (first | exact Mod.refl _ _ | assumption | apply Mod.drew | apply Mod.drewN | apply Mod.alloc | (refine Mod.setCell ?_ (by first | (left; simp; done) | (right; first | omega | (simp; omega) | (simp; done))) _)))
  have hO : Blk (w.alloc (.cells #[.int .i64 0] 3)) w.heap.size 3 #[.int .i64 0] := by (repeat' (first | assumption | apply Blk.drew | apply Blk.drewN | (exact Blk.new _ _ (by simp)) | apply Blk.alloc | (refine Blk.other ?_ (by first | assumption | omega | (simp; omega)) _)))
  have hsz : (w.alloc (.cells #[.int .i64 0] 3)).heap.size = w.heap.size + 1 := by simp
  have H := hide (countBits_any (w.alloc (.cells #[.int .i64 0] 3)) A n c f N d hs ((hd.mod hm1 (by simp)).mono (by omega)) hn hnc hN (fun i hi => hm1.cell (hM i hi) (by simp)))
  generalize cnt d f N = x at H ⊢
  clear hd hM hsz
  have hmf : ∀ (fn : Fn) (first cap : Array Value) (w : World), (Instr.makeFunc fn first cap).run Tryd.prog w = .ok (.func fn first cap) w := fun _ _ _ _ => rfl
  go_enter_defers Tryd.func13, Tryd.ntmps13
  go_wp2_with (go_at_call 27; (with_reducible refine (unhide H).mono ?_); rintro e w1 ⟨rfl, hmx⟩; (have hO1 := hO.mod hmx (by simp)); (have cO := hO1.cell 0); (have fO := hO1.frozen 0); (have lO := hO1.lt); simp at cO)
  refine leaves_cons (f := 26) (args := #[.pointer (some ⟨w.heap.size, 0, none⟩)]) (by simp) (by simp [go_sem]) ?_
  refine (idle26 ⟨w.heap.size, 0, none⟩ _).mono ?_
  rintro e u' w'' ⟨rfl, rfl, rfl⟩
  have c8 := (hO1.set 0 (.int .i64 (x : Int))).cell 0
  simp at c8
  refine ⟨.int .i64 (x : Int), ?_, rfl, (hm1.trans hmx (by simp)).setCell (by simp) _⟩
  simp [settle, results, Tryd.results13, go_sem, c8]
def L4Rel (w : World) (d : List Nat) (f N : Nat) (v9 v29 : Value) (wr : World) : Prop :=
  ∃ k : Nat, k ≤ N ∧ v29 = .int .i64 (k : Int) ∧ v9 = .int .i64 (cnt d f k : Nat) ∧ wr = w
theorem bools_get (l : List Bool) (k : Nat) (h : k < l.length) : (bools l).toArray[k]? = some (.bool (l.getD k false)) := by
  simp [bools, List.getD_eq_getElem?_getD, List.getElem?_eq_getElem h]
set_option maxRecDepth 100000 in
set_option maxHeartbeats 4000000 in
theorem law4_in (w : World) (A : Option Addr) (n c f N : Nat) (d : List Nat) (hs : Small d) (hd : Sl w w.heap.size A n (bv d)) (hn : n ≤ 4096) (hnc : n ≤ c) (hN : f + N ≤ 8 * n) (hM : Msk w) :
    Calls Tryd.prog 4 #[.slice A n c, .int .i64 (f : Int), .int .i64 (N : Int)] w fun e w' => e = .returned (.bool true) ∧ Mod [] w w' := by
  have hwi : withinB n f N = true := by simp [withinB]; omega
  have HW := Lib.hid hwi
  have HB := hide (blist_any w A n c f N d hs hd hn hN)
  have HC := hide (fun wx (hm : Mod [] w wx) => icount_any wx A n c f N d hs ((hd.mod hm (by simp)).mono hm.size) hn hnc hN (fun i hi => hm.cell (hM i hi) (by simp)))
  clear hwi hd hM
  go_enter Tryd.func4, Tryd.ntmps4
  go_wp2_with (first | ((go_at_call 8; (with_reducible refine (within_any _ _ _ _ _ _ (by omega)).mono ?_); rintro e w' ⟨rfl, rfl⟩); rw [HW.out]) | (go_at_call 12; (with_reducible refine (unhide HB).mono ?_); rintro e w1 ⟨G, rfl, hb, hm1, hG⟩))
  go_loopw [9, 29] (L4Rel w1 d f N) (fun _ v _ => N - (intOf v).toNat)
  case atStart => exact ⟨0, Nat.zero_le _, rfl, rfl, rfl⟩
  case round =>
    obtain ⟨k, hk, rfl, rfl, rfl⟩ := hrel
    by_cases hlt : k < N
    · have ck := hb.cell k
      rw [bools_get _ _ (by rw [lb_length]; exact hlt), lb_get d f N k hlt] at ck
      have hF : L4Rel wr d f N (.int .i64 ((cnt d f k : Int) + ((bitAt d (f + k)).toNat : Int))) (.int .i64 ((k : Int) + 1)) wr := by
        refine ⟨k + 1, by omega, by simp, ?_, rfl⟩
        rw [cnt]
        simp
      have HF := Lib.hid hF
      have n1 := cnt_le d f k
      generalize cnt d f k = x1 at HF n1
      generalize bitAt d (f + k) = bb at HF ck
      clear hF hb
      cases bb
      all_goals
        simp only [Bool.toNat_false, Bool.toNat_true, Int.natCast_zero, Int.add_zero] at HF
        go_wp2_with fail
        exact ⟨HF.out, by simp [intOf]; omega⟩
    · obtain rfl : k = N := by omega
      have H1 := hide (unhide HC wr hm1)
      have n1 := cnt_le d f k
      clear HC HB
      generalize cnt d f k = x1 at H1 n1 ⊢
      go_wp2_with (go_at_call 13; (with_reducible refine (unhide H1).mono ?_); rintro e w' ⟨rfl, hmx⟩)
      go_ret
      exact ⟨by simp, hm1.trans hmx (by simp)⟩
set_option maxRecDepth 100000 in
theorem law4_big (w : World) (A : Option Addr) (n c : Nat) (f N : Int) (hn : n ≤ maxLen) (h : 2147483647 < n) :
    Calls Tryd.prog 4 #[.slice A n c, .int .i64 f, .int .i64 N] w fun e w' => e = .returned (.bool true) ∧ Mod [] w w' := by
  have hm : maxLen = 9223372036854775807 := by decide
  go_enter Tryd.func4, Tryd.ntmps4
  go_wp2_with fail
  all_goals first | (go_ret; exact ⟨rfl, Mod.refl _ _⟩) | (exfalso; simp at *; omega)
set_option maxRecDepth 100000 in
theorem law4_out (w : World) (A : Option Addr) (n c : Nat) (f N : Int) (hn : n ≤ 2147483647) (h : withinB n f N = false) :
    Calls Tryd.prog 4 #[.slice A n c, .int .i64 f, .int .i64 N] w fun e w' => e = .returned (.bool true) ∧ Mod [] w w' := by
  have HW := Lib.hid h
  clear h
  go_enter Tryd.func4, Tryd.ntmps4
  go_wp2_with (first | ((go_at_call 8; (with_reducible refine (within_any _ _ _ _ _ _ (by omega)).mono ?_); rintro e w' ⟨rfl, rfl⟩); rw [HW.out]) | fail)
  go_ret
  exact ⟨rfl, Mod.refl _ _⟩
theorem law4_any (w : World) (A : Option Addr) (c : Nat) (f N : Int) (d : List Nat) (hs : Small d) (hd : Sl w w.heap.size A d.length (bv d)) (hn : d.length ≤ maxLen) (hnc : d.length ≤ c) (hM : Msk w) :
    Calls Tryd.prog 4 #[.slice A d.length c, .int .i64 f, .int .i64 N] w fun e w' => e = .returned (.bool true) ∧ Mod [] w w' := by
  by_cases hb : 2147483647 < d.length
  · exact law4_big w A _ c f N hn hb
  by_cases hw : withinB d.length f N = true
  · obtain ⟨h1, h2, h3, h4, h5⟩ := withinB_true hw
    obtain ⟨f, rfl⟩ := Int.eq_ofNat_of_zero_le h2
    obtain ⟨N, rfl⟩ := Int.eq_ofNat_of_zero_le h3
    exact law4_in w A _ c f N d hs hd h1 hnc (by omega) hM
  · exact law4_out w A _ c f N (by omega) (by simpa using hw)
end Go.Proofs.YtfodkdadbcojeaaDoor
