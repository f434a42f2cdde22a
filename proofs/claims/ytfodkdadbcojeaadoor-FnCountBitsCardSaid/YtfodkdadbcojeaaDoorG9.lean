/- Bits that a function gives: the thin package's function. -/
import Derived.Test.YtfodkdadbcojeaaDoorG3
import Derived.Test.YtfodkdadbcojeaaDoorG5
import Derived.Test.YtfodkdadbcojeaaDoorG6
import Derived.Deep.CutRange
set_option linter.unusedVariables false
set_option linter.unusedSimpArgs false
namespace Go.Proofs.YtfodkdadbcojeaaDoor
open Go.ChangeShapes Go.WideShapes Go.ChangeAt Go.RowKit
set_option maxRecDepth 100000 in
theorem copied_any (w : World) (A : Option Addr) (c : Nat) (d : List Nat) {B : Nat} (hB : B ≤ w.heap.size) (hd : Sl w B A d.length (bv d)) (hn : d.length ≤ 4096) :
    Calls Tryd.prog 22 #[.slice A d.length c] w fun e w' => ∃ G cap, e = .returned (.slice (some ⟨G, 0, none⟩) d.length cap) ∧ w'.ownsRow w.heap.size 5 1 (.slice (some ⟨G, 0, none⟩) d.length cap) d.length (bv d) ∧ Mod [] w w' ∧ w.heap.size ≤ G ∧ d.length ≤ cap := by
  obtain ⟨i0, hi, hz0, hz1, hz2⟩ := info_parts info5
  have hb0 := build0
  obtain ⟨G, cap, w1, hrun, hown, hm, hG, hG1, hcap⟩ := copy_run w 22 22 5 i0 _ Tryd.underlying22 hi hz0 hz1 hz2 rfl A c d hB hd (by omega)
  have HR := Lib.hid hrun
  clear hi hz0 hz1 hz2 hd hrun
  go_enter Tryd.func22, Tryd.ntmps22
  go_wp2_with (at_builtin; refine wpList_append_run rfl _ _ 22 22 rfl _ _ _ _ rfl rfl HR.out ?_)
  go_ret
  exact ⟨G, cap, rfl, hown, hm, hG, hcap⟩
theorem own_base {w : World} {b b' : Nat} {e : TypeId} {size n : Nat} {v : Value} {xs : List Value} (h : w.ownsRow b e size v n xs) (hb : b' ≤ b) : w.ownsRow b' e size v n xs := by
  refine ⟨h.1, ?_⟩
  rcases h.2 with h2 | ⟨g, cap, cur, rfl, h1, r⟩
  · exact .inl h2
  · exact .inr ⟨g, cap, cur, rfl, by omega, r⟩
theorem idle21 (p : Addr) (w : World) : CallsD Tryd.prog 21 #[.pointer (some p)] .returning w fun e u' w' => e = .returned (.tuple #[]) ∧ u' = .returning ∧ w = w' := by
  refine callsD_of_wpS Tryd.func21 rfl fun c₀ cs hu => ?_
  apply wpS_seq
  apply wpS_region
  simp [wpOpsS, go_sem, recoverD, hu, Tryd.ntmps21, Exit.thenS]
  refine wpS_cond (t := false) (by simp [Act.eval, Array.replicate]) ?_
  simp only [Bool.false_eq_true, if_false]
  refine wpS_of_wp (wp_skip ?_)
  cases c₀
  simp_all [bodyPostS, results, Tryd.results21]
theorem gen_zero (w : World) (v g : Value) (f : Int) : Calls Tryd.prog 25 #[v, .int .i64 f, .int .i64 0, g] w fun e w' => e = .returned (.tuple #[]) ∧ w = w' := by
  go_enter Tryd.func25, Tryd.ntmps25
  go_wp2
  go_returns
  exact ⟨rfl, rfl⟩
set_option maxRecDepth 100000 in
theorem unr_zero (w : World) (v g : Value) (f : Int) : Calls Tryd.prog 24 #[v, .int .i64 f, .int .i64 0, g] w fun e w' => e = .returned (.tuple #[]) ∧ w = w' := by
  go_enter Tryd.func24, Tryd.ntmps24
  go_wp2
  go_returns
  exact ⟨rfl, rfl⟩
def genR (d : List Nat) (f : Nat) (l : List Bool) : List Nat := if l = [] then d else gfin d f l
def GenPost (w : World) (G cap : Nat) (d : List Nat) (f : Nat) (l : List Bool) (wf : World) : Prop :=
  Blk wf (w.heap.size + 1) 22 #[.slice none 0 0] ∧ wf.ownsRow (w.heap.size + 2) 5 1 (.slice (some ⟨G, 0, none⟩) d.length cap) d.length (bv (genR d f l)) ∧ Mod [] w wf
set_option maxRecDepth 100000 in
set_option maxHeartbeats 4000000 in
theorem generated_any (w : World) (A A2 : Option Addr) (c c2 f : Nat) (u : Bool) (d : List Nat) (l : List Bool) (hd : Sl w w.heap.size A d.length (bv d)) (hs : Small d) (hl : Sl w w.heap.size A2 l.length (bools l)) (hn : d.length ≤ 4096) (hfl : f + l.length ≤ 8 * d.length) (hM : Msk w) (hP : Pre w) (hB2 : 2 ≤ w.heap.size) {N : Nat} (hN : l.length = N) :
    Calls Tryd.prog 9 #[.slice A d.length c, .int .i64 (f : Int), .slice A2 N c2, .bool u] w fun e w' => ∃ G cap, e = .returned (.slice (some ⟨G, 0, none⟩) d.length cap) ∧ w'.ownsRow w.heap.size 5 1 (.slice (some ⟨G, 0, none⟩) d.length cap) d.length (bv (genR d f l)) ∧ Mod [] w w' := by
  have hmf : ∀ (fn : Fn) (first cap : Array Value) (w : World), (Instr.makeFunc fn first cap).run Tryd.prog w = .ok (.func fn first cap) w := fun _ _ _ _ => rfl
  go_enter_defers Tryd.func9, Tryd.ntmps9
  go_wp2_with fail
  have hm1 : Mod [] w ((w.alloc (.cells #[.slice A2 N c2] 23)).alloc (.cells #[.slice none 0 0] 22)) := by (repeat' (first | exact Mod.refl _ _ | assumption | apply Mod.drew | apply Mod.drewN | apply Mod.alloc | (refine Mod.setCell ?_ (by first | (left; simp; done) | (right; first | omega | (simp; omega) | (simp; done))) _)))
  have hLB : Blk ((w.alloc (.cells #[.slice A2 N c2] 23)).alloc (.cells #[.slice none 0 0] 22)) w.heap.size 23 #[.slice A2 N c2] := by (repeat' (first | assumption | apply Blk.drew | apply Blk.drewN | (exact Blk.new _ _ (by simp)) | apply Blk.alloc | (refine Blk.other ?_ (by first | assumption | omega | (simp; omega)) _)))
  have hOut : Blk ((w.alloc (.cells #[.slice A2 N c2] 23)).alloc (.cells #[.slice none 0 0] 22)) (w.heap.size + 1) 22 #[.slice none 0 0] := by (repeat' (first | assumption | apply Blk.drew | apply Blk.drewN | (exact Blk.new _ _ (by simp)) | apply Blk.alloc | (refine Blk.other ?_ (by first | assumption | omega | (simp; omega)) _)))
  have hsz : ((w.alloc (.cells #[.slice A2 N c2] 23)).alloc (.cells #[.slice none 0 0] 22)).heap.size = w.heap.size + 2 := by simp
  refine (copied_any _ A c d (B := w.heap.size) (by omega) (hd.mod hm1 (by simp)) hn).mono ?_
  rintro e w2 ⟨G, cap, rfl, ho, hm, hG, hcap⟩
  have hm2 := hm1.trans hm (by simp)
  have hLB2 := hLB.mod hm (by simp)
  have hOut2 := hOut.mod hm (by simp)
  rw [hsz] at ho hG
  have hs2 := hm.size
  rw [hsz] at hs2
  clear hm1 hLB hOut hm
  have HSZ := Lib.hid hsz
  clear hsz
  go_upto_if 16 with fail
  have hm3 : Mod [] w (w2.alloc (.cells #[.int .i64 (-1)] 3)) := by (repeat' (first | exact Mod.refl _ _ | assumption | apply Mod.drew | apply Mod.drewN | apply Mod.alloc | (refine Mod.setCell ?_ (by first | (left; simp; done) | (right; first | omega | (simp; omega) | (simp; done))) _)))
  have hI3 : Blk (w2.alloc (.cells #[.int .i64 (-1)] 3)) w2.heap.size 3 #[.int .i64 (-1)] := by (repeat' (first | assumption | apply Blk.drew | apply Blk.drewN | (exact Blk.new _ _ (by simp)) | apply Blk.alloc | (refine Blk.other ?_ (by first | assumption | omega | (simp; omega)) _)))
  have hL3 := hLB2.alloc (.cells #[.int .i64 (-1)] 3)
  have hO3 := hOut2.alloc (.cells #[.int .i64 (-1)] 3)
  have ho3 := own_mod ho (Mod.alloc (Mod.refl [] w2) (.cells #[.int .i64 (-1)] 3)) (by simp)
  have gg := own_lt' ho
  have hG2 : G ≠ w2.heap.size := by omega
  have hGL : w.heap.size ≠ G := by omega
  have hGO : w.heap.size + 1 ≠ G := by omega
  have hl3 := hl.mod hm3 (by simp)
  have hM3 : Msk (w2.alloc (.cells #[.int .i64 (-1)] 3)) := fun i hi => hm3.cell (hM i hi) (by simp)
  have hP3 : Pre (w2.alloc (.cells #[.int .i64 (-1)] 3)) := fun i hi => hm3.cell (hP i hi) (by simp)
  generalize hW3 : w2.alloc (.cells #[.int .i64 (-1)] 3) = w3 at hm3 hI3 hL3 hO3 ho3 hl3 hM3 hP3 ⊢
  generalize hI : w2.heap.size = I at hI3 hG2 hs2 gg ⊢
  clear hW3 hI hLB2 hOut2 ho hm2
  have c6 := hL3.cell 0
  simp at c6
  have hCut : ∀ (wf : World), wf.ownsRow (w.heap.size + 2) 5 1 (.slice (some ⟨G, 0, none⟩) d.length cap) d.length (bv (genR d f l)) → Mod [G, I] w3 wf → GenPost w G cap d f l wf := by
    intro wf h1 h2
    refine ⟨hO3.mod h2 (by simp; omega), h1, hm3.trans h2 (by simp; omega)⟩
  have HCut := Lib.hid hCut
  clear hCut
  go_cut [] from 17 to 28 (fun wx => GenPost w G cap d f l wx)
  case first =>
    by_cases hz : l = []
    · have hN0 : N = 0 := by rw [← hN, hz]; rfl
      subst hN0
      have hP := HCut.out w3 (by unfold genR; rw [if_pos hz]; exact ho3) (Mod.refl _ _)
      cases u
      all_goals go_wp2_with (first | ((go_at_call 25; (with_reducible refine (gen_zero _ _ _ _).mono ?_); rintro e w' ⟨rfl, rfl⟩)) | ((go_at_call 24; (with_reducible refine (unr_zero _ _ _ _).mono ?_); rintro e w' ⟨rfl, rfl⟩)))
      all_goals (go_meet; exact hP)
    · have hpos : 0 < l.length := List.length_pos_iff.2 hz
      subst hN
      have hgen := hide (gen_any w3 (w.heap.size + 2) G I w.heap.size d.length cap c2 f A2 d l rfl hs ho3 hI3 hL3 (hl3.mono (by omega)) (by omega) (by omega) hG2 hGL hcap hn hfl hM3 hP3 (by omega) hpos)
      have hunr := hide (unr_any w3 (w.heap.size + 2) G I w.heap.size d.length cap c2 f A2 d l rfl hs ho3 hI3 hL3 (hl3.mono (by omega)) (by omega) (by omega) hG2 hGL hcap hn hfl hM3 hP3 (by omega) hpos)
      have HP : Hid (∀ wf : World, wf.ownsRow (w.heap.size + 2) 5 1 (.slice (some ⟨G, 0, none⟩) d.length cap) d.length (bv (gfin d f l)) → Mod [G, I] w3 wf → GenPost w G cap d f l wf) := fun wf h1 h2 => HCut.out wf (by unfold genR; rw [if_neg hz]; exact h1) h2
      clear hz hpos
      cases u
      all_goals go_wp2_with (first | (go_at_call 25; (with_reducible refine (unhide hgen).mono ?_); rintro e w' ⟨rfl, h1, h2⟩) | (go_at_call 24; (with_reducible refine (unhide hunr).mono ?_); rintro e w' ⟨rfl, h1, h2⟩))
      all_goals (go_meet; exact HP.out _ h1 h2)
  case rest =>
    obtain ⟨hO, ho, hm⟩ := hcut
    clear HCut hm3 hI3 hL3 hO3 ho3 hl3 hM3 hP3 c6
    have cO := hO.cell 0
    have fO := hO.frozen 0
    have lO := hO.lt
    simp at cO
    go_wp2_with fail
    refine leaves_cons (f := 21) (args := #[.pointer (some ⟨w.heap.size + 1, 0, none⟩)]) (by simp) (by simp [go_sem]) ?_
    refine (idle21 ⟨w.heap.size + 1, 0, none⟩ _).mono ?_
    rintro e u' w'' ⟨rfl, rfl, rfl⟩
    refine ⟨.slice (some ⟨G, 0, none⟩) d.length cap, ?_, ?_⟩
    · have c8 := (hO.set 0 (.slice (some ⟨G, 0, none⟩) d.length cap)).cell 0
      simp at c8
      simp [settle, results, Tryd.results9, go_sem, c8]
    · refine ⟨G, cap, rfl, own_base (own_mod ho ((Mod.refl [w.heap.size + 1] wc).setCell (by simp) _) ?_) (by omega), hm.setCell (by simp) _⟩
      intro g hg
      have : G = g := by simpa [Value.ownBlock] using hg
      simp; omega
end Go.Proofs.YtfodkdadbcojeaaDoor
