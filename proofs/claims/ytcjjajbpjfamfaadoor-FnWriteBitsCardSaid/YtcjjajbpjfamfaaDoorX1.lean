/- The reference's side of the bit statements: 'within', 'Bit', 'changed'. -/
import Derived.Test.YtcjjajbpjfamfaaDoorRows
import Derived.Test.YtcjjajbpjfamfaaDoorL3
import Derived.RegionTactic
import Derived.BigRegion
set_option linter.unusedVariables false
set_option linter.unusedSimpArgs false
namespace Go.Proofs.YtcjjajbpjfamfaaDoor
open Go.ChangeShapes Go.WideShapes Go.ChangeAt Go.RowKit
theorem info5 : (Tryd.prog.info? 5).map (fun i => (i.zero, i.size, i.bytes)) = some (some (.int .u8 0), 1, 1) := by kernel_rfl
def bools (l : List Bool) : List Value := l.map fun b => Value.bool b
theorem build0 (w : World) : (Instr.buildSlice 22 0 #[]).run Tryd.prog w = .ok (.slice (some ⟨w.heap.size, 0, none⟩) 0 0) (w.alloc (.cells #[] 5)) := by kernel_rfl
def ChgRel (w : World) (W0 : Nat) (d : List Nat) (at_ : Nat) (l : List Bool) (G cap : Nat) (v16 : Value) (wr : World) : Prop :=
  ∃ k : Nat, k ≤ l.length ∧ v16 = .int .i64 k ∧ wr.ownsRow W0 5 1 (.slice (some ⟨G, 0, none⟩) d.length cap) d.length (bv (chgN d at_ l k)) ∧ Mod [G] w wr
theorem bools_at {w : World} {B : Nat} {A : Option Addr} {l : List Bool} (h : Sl w B A l.length (bools l)) {k : Nat} (hk : k < l.length) :
    ∃ b off, A = some ⟨b, off, none⟩ ∧ b < B ∧ w.cell? ⟨b, off + k, none⟩ = some (.bool (l.getD k false)) := by
  obtain ⟨b, off, u, e, hb, hu, hc⟩ := h.at_ hk
  refine ⟨b, off, e, hb, hc.trans ?_⟩
  rw [← hu]; simp [bools, List.getElem?_eq_getElem hk]
theorem chg_false {w1 wr : World} {W0 : Nat} {d : List Nat} {at_ : Nat} {l : List Bool} {G cap k x : Nat} (ho : wr.ownsRow W0 5 1 (.slice (some ⟨G, 0, none⟩) d.length cap) d.length (bv (chgN d at_ l k))) (hmr : Mod [G] w1 wr)
    (hlt : k < l.length) (hdv : (at_ + k) / 8 < d.length) (hx : x < 256) (HX : (chgN d at_ l k).getD ((at_ + k) / 8) 0 = x) (HB : l.getD k false = false) :
    ChgRel w1 W0 d at_ l G cap (.int .i64 ((k : Int) + 1)) (wr.setCell ⟨G, (at_ + k) / 8, none⟩ (.int .u8 (bits .andNot .u8 (x : Int) (2 ^ ((at_ + k) % 8) % 256)))).drew := by
  rw [andNot_pow x _ hx (by omega)]
  have h1 := own_set ho ((at_ + k) / 8) (x &&& (255 - 2 ^ ((at_ + k) % 8))) hdv
  have e : chgN d at_ l (k + 1) = (chgN d at_ l k).set ((at_ + k) / 8) (x &&& (255 - 2 ^ ((at_ + k) % 8))) := by
    rw [chgN, setBit, HB, HX]; rfl
  rw [← e] at h1
  exact ⟨k + 1, by omega, by simp, own_mod h1 (Mod.drew (Mod.refl [] _)) (by simp), (hmr.setCell (by simp) _).drew⟩
theorem chg_true {w1 wr : World} {W0 : Nat} {d : List Nat} {at_ : Nat} {l : List Bool} {G cap k x : Nat} (ho : wr.ownsRow W0 5 1 (.slice (some ⟨G, 0, none⟩) d.length cap) d.length (bv (chgN d at_ l k))) (hmr : Mod [G] w1 wr)
    (hlt : k < l.length) (hdv : (at_ + k) / 8 < d.length) (hx : x < 256) (HX : (chgN d at_ l k).getD ((at_ + k) / 8) 0 = x) (HB : l.getD k false = true) :
    ChgRel w1 W0 d at_ l G cap (.int .i64 ((k : Int) + 1)) ((wr.setCell ⟨G, (at_ + k) / 8, none⟩ (.int .u8 (bits .andNot .u8 (x : Int) (2 ^ ((at_ + k) % 8) % 256)))).setCell ⟨G, (at_ + k) / 8, none⟩
      (.int .u8 (bits .or .u8 (bits .andNot .u8 (x : Int) (2 ^ ((at_ + k) % 8) % 256)) (2 ^ ((at_ + k) % 8) % 256)))).drew.drew := by
  rw [andNot_pow x _ hx (by omega), or_pow _ _ (and_lt8 hx _) (by omega)]
  have h1 := own_set (own_set ho ((at_ + k) / 8) (x &&& (255 - 2 ^ ((at_ + k) % 8))) hdv) ((at_ + k) / 8) (x &&& (255 - 2 ^ ((at_ + k) % 8)) ||| 2 ^ ((at_ + k) % 8)) hdv
  have e : chgN d at_ l (k + 1) = ((chgN d at_ l k).set ((at_ + k) / 8) (x &&& (255 - 2 ^ ((at_ + k) % 8)))).set ((at_ + k) / 8) (x &&& (255 - 2 ^ ((at_ + k) % 8)) ||| 2 ^ ((at_ + k) % 8)) := by
    rw [List.set_set, chgN, setBit, HB, HX]; rfl
  rw [← e] at h1
  exact ⟨k + 1, by omega, by simp, own_mod h1 (Mod.drew (Mod.drew (Mod.refl [] _))) (by simp), ((hmr.setCell (by simp) _).setCell (by simp) _).drew.drew⟩
set_option maxRecDepth 100000 in
set_option maxHeartbeats 4000000 in
theorem changed_any (w : World) (A A2 : Option Addr) (c c2 : Nat) (d : List Nat) (l : List Bool) (at_ : Nat) (hd : Sl w w.heap.size A d.length (bv d)) (hl : Sl w w.heap.size A2 l.length (bools l)) (hs : Small d)
    (hn : d.length ≤ 4096) (ha : at_ + l.length ≤ 8 * d.length) :
    Calls Tryd.prog 7 #[.slice A d.length c, .int .i64 (at_ : Int), .slice A2 l.length c2] w fun e w' => ∃ G cap, e = .returned (.slice (some ⟨G, 0, none⟩) d.length cap) ∧ w'.ownsRow w.heap.size 5 1 (.slice (some ⟨G, 0, none⟩) d.length cap) d.length (bv (chgN d at_ l l.length)) ∧ Mod [] w w' := by
  obtain ⟨i0, hi, hz0, hz1, hz2⟩ := info_parts info5
  have hb0 := build0
  obtain ⟨G, cap, w1, hrun, hown, hm, hG, hG1, hcap⟩ := copy_run w 22 22 5 i0 _ Tryd.underlying22 hi hz0 hz1 hz2 rfl A c d (Nat.le_refl _) hd (by omega)
  clear hi hz0 hz1 hz2
  clear hd
  have HR := Lib.hid hrun
  clear hrun
  go_enter Tryd.func7, Tryd.ntmps7
  go_wp2_with (at_builtin; refine wpList_append_run rfl _ _ 22 22 rfl _ _ _ _ rfl rfl HR.out ?_)
  clear HR hb0
  go_loopw [16] (ChgRel w1 w.heap.size d at_ l G cap) (fun v _ => l.length - (intOf v).toNat)
  case atStart => exact ⟨0, Nat.zero_le _, rfl, hown, Mod.refl _ _⟩
  case round =>
    obtain ⟨k, hk, rfl, ho, hmr⟩ := hrel
    by_cases hlt : k < l.length
    · have hl' : Sl wr w.heap.size A2 l.length (bools l) := (hl.mod hm (by simp)).mod hmr (by simp; omega)
      obtain ⟨b, off, rfl, hb, hcell⟩ := bools_at hl' hlt
      have hdv : (at_ + k) / 8 < d.length := by omega
      have hx := (chgN_small hs at_ l k).get ((at_ + k) / 8)
      have c1 := own_cell ho ((at_ + k) / 8) hdv
      have f1 := own_frozen ho ((at_ + k) / 8)
      have g1 := own_lt' ho
      have HE := Lib.hid (show chgN d at_ l (k + 1) = setBit (chgN d at_ l k) (at_ + k) (l.getD k false) from rfl)
      generalize hxx : (chgN d at_ l k).getD ((at_ + k) / 8) 0 = x at c1 hx
      have HX := Lib.hid hxx
      clear hl hl' hxx
      cases hbb : l.getD k false
      all_goals
        rw [hbb] at hcell
        have HB := Lib.hid hbb
        clear hbb
        go_upto_region 6 with fail
        go_region
        go_wp2
      · exact ⟨chg_false ho hmr hlt hdv hx HX.out HB.out, by simp [intOf]; omega⟩
      · go_region
        go_wp2
        exact ⟨chg_true ho hmr hlt hdv hx HX.out HB.out, by simp [intOf]; omega⟩
    · obtain rfl : k = l.length := by omega
      go_wp2
      go_ret
      exact ⟨G, cap, rfl, ho, hm.trans hmr (by simp; omega)⟩

def withinB (n : Nat) (i m : Int) : Bool := decide ((n : Int) ≤ 4096) && decide (0 ≤ i) && decide (0 ≤ m) && decide (i ≤ 8 * n) && decide (m ≤ 8 * n - i)
theorem within_any (w : World) (A : Option Addr) (n c : Nat) (i m : Int) (hn : n ≤ 140737488351232) :
    Calls Tryd.prog 4 #[.slice A n c, .int .i64 i, .int .i64 m] w fun e w' => e = .returned (.bool (withinB n i m)) ∧ w = w' := by
  go_enter Tryd.func4, Tryd.ntmps4
  go_wp2
  all_goals (go_ret; refine ⟨ret_bool ?_, rfl⟩; simp only [withinB])
  all_goals first | (simp only [*, decide_true, Bool.true_and]; done) | (symm; simp; omega) | (simp; omega)
set_option maxRecDepth 100000 in
theorem copied_any (w : World) (A : Option Addr) (c : Nat) (d : List Nat) {B : Nat} (hB : B ≤ w.heap.size) (hd : Sl w B A d.length (bv d)) (hn : d.length ≤ 4096) :
    Calls Tryd.prog 9 #[.slice A d.length c] w fun e w' => ∃ G cap, e = .returned (.slice (some ⟨G, 0, none⟩) d.length cap) ∧ w'.ownsRow w.heap.size 5 1 (.slice (some ⟨G, 0, none⟩) d.length cap) d.length (bv d) ∧ Mod [] w w' ∧ w.heap.size ≤ G ∧ d.length ≤ cap := by
  obtain ⟨i0, hi, hz0, hz1, hz2⟩ := info_parts info5
  have hb0 := build0
  obtain ⟨G, cap, w1, hrun, hown, hm, hG, hG1, hcap⟩ := copy_run w 22 22 5 i0 _ Tryd.underlying22 hi hz0 hz1 hz2 rfl A c d hB hd (by omega)
  have HR := Lib.hid hrun
  clear hi hz0 hz1 hz2 hd hrun
  go_enter Tryd.func9, Tryd.ntmps9
  go_wp2_with (at_builtin; refine wpList_append_run rfl _ _ 22 22 rfl _ _ _ _ rfl rfl HR.out ?_)
  go_ret
  exact ⟨G, cap, rfl, hown, hm, hG, hcap⟩
theorem own_base {w : World} {b b' : Nat} {e : TypeId} {size n : Nat} {v : Value} {xs : List Value} (h : w.ownsRow b e size v n xs) (hb : b' ≤ b) : w.ownsRow b' e size v n xs := by
  refine ⟨h.1, ?_⟩
  rcases h.2 with h2 | ⟨g, cap, cur, rfl, h1, r⟩
  · exact .inl h2
  · exact .inr ⟨g, cap, cur, rfl, by omega, r⟩
theorem idle (p : Addr) (w : World) : CallsD Tryd.prog 8 #[.pointer (some p)] .returning w fun e u' w' => e = .returned (.tuple #[]) ∧ u' = .returning ∧ w = w' := by
  refine callsD_of_wpS Tryd.func8 rfl fun c₀ cs hu => ?_
  apply wpS_seq
  apply wpS_region
  simp [wpOpsS, go_sem, recoverD, hu, Tryd.ntmps8, Exit.thenS]
  refine wpS_cond (t := false) (by simp [Act.eval, Array.replicate]) ?_
  simp only [Bool.false_eq_true, if_false]
  refine wpS_of_wp (wp_skip ?_)
  cases c₀
  simp_all [bodyPostS, results, Tryd.results8]
theorem withinB_true {n : Nat} {i m : Int} (h : withinB n i m = true) : n ≤ 4096 ∧ 0 ≤ i ∧ 0 ≤ m ∧ i ≤ 8 * n ∧ m ≤ 8 * n - i := by
  simp [withinB] at h; omega
end Go.Proofs.YtcjjajbpjfamfaaDoor
