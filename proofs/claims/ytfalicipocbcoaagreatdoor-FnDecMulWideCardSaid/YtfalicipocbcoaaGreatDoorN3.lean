/- The law's own integers: words, wrapped, least; their product. (YtfalicipocbcoaaGreatDoor) -/
import Derived.Test.YtfalicipocbcoaaGreatDoorW11
import Derived.Test.YtfalicipocbcoaaGreatDoorPwordsOfx1
import Derived.Test.YtfalicipocbcoaaGreatDoorPsameWordsx1
import Derived.Test.YtfalicipocbcoaaGreatDoorW15
import Derived.BigRegion
import Derived.Test.YtfalicipocbcoaaGreatDoorW10
import Derived.IntWalk
import Derived.Test.YtfalicipocbcoaaGreatDoorN1
set_option linter.unusedVariables false
set_option linter.unusedSimpArgs false
namespace Go.Proofs.YtfalicipocbcoaaGreatDoor
section
open Go.RowKit Go.ChangeShapes Go.WideShapes Go.ChangeAt Go.Proofs.YtfalicipocbcoaaGreatDoorW.PrintWords Go.Proofs.YtfalicipocbcoaaGreatDoorW.PrintLast Go.Proofs.YtfalicipocbcoaaGreatDoorW.PrintMore
attribute [local go_sem ↓] Go.wp_at_zero Go.wp_at_succ
def wN (width : Int) : Nat := if width = 32 ∨ width = 64 then 1 else if width = 128 then 2 else if width = 256 then 4 else 0
def wIs (width : Int) : Bool := decide (width = 32 ∨ width = 64 ∨ width = 128 ∨ width = 256)
theorem wordsOf_any (w : World) (width : Int) : Calls Tryz.prog 14 #[.int .i64 width] w fun e w' => e = .returned (.tuple #[.int .i64 (wN width : Nat), .bool (wIs width)]) ∧ Below w.heap.size w w' := by
  have hf : PwordsOf.laws_wordsOf.f 1 width = some ((wN width : Int), wIs width) := by
    unfold PwordsOf.laws_wordsOf.f
    by_cases h1 : width = 32
    · subst h1; rfl
    · by_cases h2 : width = 64
      · subst h2; rfl
      · by_cases h3 : width = 128
        · subst h3
          rw [if_neg (by decide)]
          simp only [PwordsOf.laws_wordsOf.j0]
          rw [if_neg (by decide), if_pos trivial, show wrap64 (Int.tdiv 128 64) = 2 by unfold wrap64; simp]
          rfl
        · by_cases h4 : width = 256
          · subst h4
            rw [if_neg (by decide)]
            simp only [PwordsOf.laws_wordsOf.j0]
            rw [if_neg (by decide), if_neg (by decide), if_pos trivial, show wrap64 (Int.tdiv 256 64) = 4 by unfold wrap64; simp]
            rfl
          · rw [if_neg h1]
            simp only [PwordsOf.laws_wordsOf.j0]
            rw [if_neg (by simp [h2]), if_neg h3, if_neg h4]
            simp [wN, wIs, h1, h2, h3, h4]
  refine (PwordsOf.laws_wordsOf.calls 1 width _ _ w hf).mono ?_
  rintro e w' ⟨rfl, hD⟩
  exact ⟨rfl, below_drawn hD⟩
theorem same_loop (a b : List Int) (hl : a.length = b.length) (hm : a.length ≤ 1000000) (d : Nat) : ∀ i : Nat, i + d = a.length → ∃ k, PsameWords.laws_sameWords.l0 k a b a.length i = some (decide (a.drop i = b.drop i)) := by
  induction d with
  | zero =>
    intro i hi
    refine ⟨1, ?_⟩
    simp only [PsameWords.laws_sameWords.l0]
    rw [if_neg (by omega), List.drop_eq_nil_iff.2 (by omega), List.drop_eq_nil_iff.2 (by omega)]; simp
  | succ d ih =>
    intro i hi
    obtain ⟨k, hk⟩ := ih (i + 1) (by omega)
    refine ⟨k + 1, ?_⟩
    simp only [PsameWords.laws_sameWords.l0]
    rw [if_pos (by omega), if_pos (by omega), if_pos (by omega), if_pos (by omega), rdd, rdd, drop_get (show i < a.length by omega), drop_get (show i < b.length by omega)]
    by_cases h : a.getD i 0 = b.getD i 0
    · rw [if_pos h, wr_succ i (by omega), hk, h]; simp
    · rw [if_neg h]; simp only [List.cons.injEq, h, false_and, decide_false]
theorem sameWords_any (w : World) (u v : Value) (a b : List Int) (hu : Rd .u64 w u a) (hv : Rd .u64 w v b) :
    Calls Tryz.prog 5 #[u, v] w fun e w' => e = .returned (.bool (decide (a = b))) ∧ Below w.heap.size w w' := by
  have hm : a.length ≤ 1000000 := by obtain ⟨_, _, _, _, _, h⟩ := hu; exact h
  obtain ⟨A, c, rfl, h1, h2⟩ := hu.toC
  obtain ⟨A', c', rfl, h3, h4⟩ := hv.toC
  have hf : ∃ k, PsameWords.laws_sameWords.f k a b = some (decide (a = b)) := by
    unfold PsameWords.laws_sameWords.f
    by_cases hl : a.length = b.length
    · obtain ⟨k, hk⟩ := same_loop a b hl hm a.length 0 (by omega)
      refine ⟨k, ?_⟩
      rw [if_pos (by omega)]
      simpa using hk
    · refine ⟨0, ?_⟩
      rw [if_neg (by omega)]
      have : a ≠ b := fun e => hl (by rw [e])
      simp [this]
  obtain ⟨k, hk⟩ := hf
  refine (PsameWords.laws_sameWords.calls k A c a A' c' b _ w h2 h1 h4 h3 hk).mono ?_
  rintro e w' ⟨rfl, hD⟩
  exact ⟨rfl, below_drawn hD⟩
theorem cmpI_zero (a b : Int) : (cmpI a b == 0) = decide (a = b) := by
  unfold cmpI
  by_cases h : a < b
  · rw [if_pos h]; simp; omega
  · rw [if_neg h]
    by_cases h2 : b < a
    · rw [if_pos h2]; simp; omega
    · rw [if_neg h2]; simp; omega
set_option maxRecDepth 100000 in
set_option maxHeartbeats 4000000 in
theorem least_any (w : World) (v : Value) (z : Int) (width q : Nat) (h : Wd w v z) (hw : width = 32 * q + 32) (hq : q < 50) :
    Calls Tryz.prog 9 #[.int .i64 (width : Int), v] w fun e w' => e = .returned (.bool (decide (z = -(2 ^ (width - 1))))) ∧ Below w.heap.size w w' := by
  have hst := hide (fun (W : World) (hb : Below w.heap.size w W) => h.below hb)
  obtain ⟨s, A, n, c, rfl⟩ := h.form
  have hT1 := hide (fun (W : World) => (by
    have h := Two_any W (width - 1) q 31 (by omega) (by omega) (by omega)
    rw [show ((width - 1 : Nat) : Int) = (width : Int) - 1 by omega] at h
    exact h : Calls Tryz.prog 20 #[.int .i64 ((width : Int) - 1)] W (PWide W (2 ^ (width - 1)))))
  have hw2 : width ≤ 3000 := by omega
  have hw3 : 32 ≤ width := by omega
  clear h hw
  have hwr : IntKind.i64.wrap ((width : Int) - 1) = (width : Int) - 1 := IntWalk.i64_in _ (by omega)
  go_enter Tryz.func9, Tryz.ntmps9
  go_upto_region 1 with (fail)
  have k0 := Blk.new (w := w) (g := w.heap.size) 29 #[.bool s, .slice A n c] rfl
  have hbw : Below w.heap.size w (w.alloc (.cells #[.bool s, .slice A n c] 29)) := (Below.refl _ _).alloc (Nat.le_refl _) _
  generalize (w.alloc (.cells #[.bool s, .slice A n c] 29)) = w2 at k0 hbw ⊢
  have hL := hide (fun (W : World) (h : Below w2.heap.size w2 W) => (show W.cell? ⟨w.heap.size, 0, none⟩ = some (.bool s) ∧ W.cell? ⟨w.heap.size, 1, none⟩ = some (.slice A n c) ∧ Below w2.heap.size w2 W from
      ⟨by have := (k0.below h).cell 0; simpa using this, by have := (k0.below h).cell 1; simpa using this, h⟩))
  have hC2 := hide (fun (W : World) (u : Value) (h : Below w2.heap.size w2 W) (hu : Wd W u (-(2 ^ (width - 1)))) => WideCmp_any W _ u z (-(2 ^ (width - 1))) ((unhide hst) W (below_tr hbw h hbw.size)) hu)
  have hB0 : Below w2.heap.size w2 w2 := Below.refl _ _
  obtain ⟨e1, e2, _⟩ := (unhide hL) w2 hB0
  have hFin := hide (fun (W : World) (h : Below w2.heap.size w2 W) => below_tr hbw h hbw.size)
  have HZ := hide (cmpI_zero z (-(2 ^ (width - 1))))
  clear k0 hbw
  go_region_held3 (fun W => W.cell? ⟨w.heap.size, 0, none⟩ = some (.bool s) ∧ W.cell? ⟨w.heap.size, 1, none⟩ = some (.slice A n c) ∧ Below w2.heap.size w2 W)
    (first | ((try go_split_ands); (try dsimp only); refine (unhide hL) _ ?_; first | exact bdrew (by assumption) | exact below_tr (by assumption) hb3 (Below.size (by assumption)) | exact below_tr (by assumption) hb4 (Below.size (by assumption)) | exact below_tr (by assumption) hb5 (Below.size (by assumption))))
    (first
      | (go_at_call 20; (with_reducible refine ((unhide hT1) _).mono ?_); rintro e w3 ⟨x3, rfl, hx3, hb3⟩)
      | (go_at_call 21; (with_reducible refine (Negated_any _ _ _ (by assumption)).mono ?_); rintro e w4 ⟨x4, rfl, hx4, hb4⟩)
      | (go_at_call 19; (with_reducible refine ((unhide hC2) _ _ (by go_split_ands; assumption) (by assumption)).mono ?_); rintro e w5 ⟨rfl, hb5⟩))
  have HB5 := hide (show Below w2.heap.size w2 w5 by go_split_ands; assumption)
  go_wp2
  go_ret
  exact ⟨by rw [unhide HZ]; rfl, (unhide hFin) _ (unhide HB5)⟩
end
section
open Go.RowKit Go.ChangeShapes Go.WideShapes Go.ChangeAt
attribute [local go_sem ↓] Go.wp_at_zero Go.wp_at_succ
def good (width : Int) (l : List Int) : Bool := wIs width && decide (l.length = wN width) && !(decide (width = 32) && decide (IntKind.u64.wrap (wrap64 (wrap32 (l.getD 0 0))) ≠ l.getD 0 0))
def PDc (w : World) (width : Int) (l : List Int) (e : Ending) (w' : World) : Prop := ∃ s A n c, e = .returned (.tuple #[.agg #[.bool s, .slice A n c], .bool (good width l)]) ∧ (good width l = true → Wd w' (.agg #[.bool s, .slice A n c]) (sv l)) ∧ Below w.heap.size w w'
theorem pdc_bad {w W : World} {width : Int} {l : List Int} (hg : good width l = false) (h : Below w.heap.size w W) : PDc w width l (.returned (.tuple #[.agg #[.bool false, .slice none 0 0], .bool false])) W := by
  refine ⟨false, none, 0, 0, ?_, fun hh => ?_, h⟩
  · rw [hg]
  · rw [hg] at hh; cases hh
theorem blk_twoN {w : World} {g : Nat} {t : TypeId} {u v : Value} (k : Blk w g t #[u, v]) (n : Nat) (x y : Value) :
    (((w.drewN n).setCell ⟨g, 0, none⟩ x).setCell ⟨g, 1, none⟩ y).cell? ⟨g, 0, none⟩ = some x ∧ (((w.drewN n).setCell ⟨g, 0, none⟩ x).setCell ⟨g, 1, none⟩ y).cell? ⟨g, 1, none⟩ = some y ∧ ((w.drewN n).setCell ⟨g, 0, none⟩ x).cell? ⟨g, 0, none⟩ = some x := by
  have h : Blk (w.drewN n) g t #[u, v] := k.below (bdrewN (Below.refl _ _) n)
  have h1 := (h.set 0 x)
  have h2 := h1.set 1 y
  exact ⟨by have := h2.cell 0; simpa using this, by have := h2.cell 1; simpa using this, by have := h1.cell 0; simpa using this⟩
set_option maxRecDepth 100000 in
set_option maxHeartbeats 4000000 in
theorem decimal_bad1 (w : World) (A : Option Addr) (n c : Nat) (width : Int) (l : List Int) (hI : wIs width = false) :
    Calls Tryz.prog 6 #[.int .i64 width, .slice A n c] w (PDc w width l) := by
  have hg : good width l = false := by unfold good; simp [hI]
  have hP := hide (fun (W : World) (h : Below w.heap.size w W) => pdc_bad hg h)
  have hW := hide (fun (W : World) => wordsOf_any W width)
  rw [hI] at hW
  generalize wN width = m at hW
  clear hg hI
  go_enter Tryz.func6, Tryz.ntmps6
  go_wp2_with (go_at_call 14; (with_reducible refine ((unhide hW) _).mono ?_); rintro e w1 ⟨rfl, hb1⟩; have k0 := (Blk.new (w := w) (g := w.heap.size) 29 #[.bool false, .slice none 0 0] rfl).below hb1; have hB := below_tr ((Below.refl w.heap.size w).alloc (Nat.le_refl _) (.cells #[.bool false, .slice none 0 0] 29)) hb1 (by simp); obtain ⟨q0, q1, q2, q3, _⟩ := blk_facts k0; have z0 := fun n x y => (blk_twoN k0 n x y).1; have z1 := fun n x y => (blk_twoN k0 n x y).2.1; have z2 := fun n x y => (blk_twoN k0 n x y).2.2)
  go_quiet (fail)
  go_wp2_with fail
  (try simp only [Exit.inBlock, Exit.then])
  refine bodyPost_ret (by simp [results, Tryz.results6, go_sem, z0, z1, z2]; try rfl) rfl ?_
  with_reducible refine (unhide hP) _ ?_
  with_reducible exact ((bdrewN hB _).setCell (Nat.le_refl _) _).setCell (Nat.le_refl _) _
set_option maxRecDepth 100000 in
set_option maxHeartbeats 4000000 in
theorem decimal_bad2 (w : World) (A : Option Addr) (c : Nat) (width : Int) (l : List Int) (hI : wIs width = true) (hn : l.length ≠ wN width) :
    Calls Tryz.prog 6 #[.int .i64 width, .slice A l.length c] w (PDc w width l) := by
  have hg : good width l = false := by unfold good; simp [hn]
  have hP := hide (fun (W : World) (h : Below w.heap.size w W) => pdc_bad hg h)
  have hW := hide (fun (W : World) => wordsOf_any W width)
  rw [hI] at hW
  have hni : ¬ (l.length : Int) = (wN width : Int) := by omega
  have hnb : ((l.length : Int) != (wN width : Int)) = true := by simp; omega
  generalize wN width = m at hW hn hni hnb
  generalize l.length = n at hn hni hnb ⊢
  clear hg hI
  go_enter Tryz.func6, Tryz.ntmps6
  go_wp2_with (go_at_call 14; (with_reducible refine ((unhide hW) _).mono ?_); rintro e w1 ⟨rfl, hb1⟩; have k0 := (Blk.new (w := w) (g := w.heap.size) 29 #[.bool false, .slice none 0 0] rfl).below hb1; have hB := below_tr ((Below.refl w.heap.size w).alloc (Nat.le_refl _) (.cells #[.bool false, .slice none 0 0] 29)) hb1 (by simp); obtain ⟨q0, q1, q2, q3, _⟩ := blk_facts k0; have z0 := fun n x y => (blk_twoN k0 n x y).1; have z1 := fun n x y => (blk_twoN k0 n x y).2.1; have z2 := fun n x y => (blk_twoN k0 n x y).2.2)
  go_quiet (fail)
  go_wp2_with fail
  (try simp only [Exit.inBlock, Exit.then])
  refine bodyPost_ret (by simp [results, Tryz.results6, go_sem, z0, z1, z2]; try rfl) rfl ?_
  with_reducible refine (unhide hP) _ ?_
  with_reducible exact ((bdrewN hB _).setCell (Nat.le_refl _) _).setCell (Nat.le_refl _) _
set_option maxRecDepth 100000 in
set_option maxHeartbeats 4000000 in
theorem decimal_bad3 (w : World) (b off : Nat) (c : Nat) (x : Int) (hc : w.cell? ⟨b, off, none⟩ = some (.int .u64 x)) (hx : IntKind.u64.wrap (wrap64 (wrap32 x)) ≠ x) :
    Calls Tryz.prog 6 #[.int .i64 32, .slice (some ⟨b, off, none⟩) 1 c] w (PDc w 32 [x]) := by
  have hg : good 32 [x] = false := by unfold good; simp [hx]
  have hP := hide (fun (W : World) (h : Below w.heap.size w W) => pdc_bad hg h)
  have hW := hide (fun (W : World) => wordsOf_any W 32)
  have hxb : (IntKind.u64.wrap (wrap64 (wrap32 x)) != x) = true := by simp [hx]
  have hlt := World.block_lt_of_cell? w _ hc
  have hst := hide (fun (W : World) (hb : Below w.heap.size w W) => (hb.cell (by exact hlt)).trans hc)
  rw [show wIs 32 = true by decide, show wN 32 = 1 by decide] at hW
  clear hg
  go_enter Tryz.func6, Tryz.ntmps6
  go_wp2_with (go_at_call 14; (with_reducible refine ((unhide hW) _).mono ?_); rintro e w1 ⟨rfl, hb1⟩; have k0 := (Blk.new (w := w) (g := w.heap.size) 29 #[.bool false, .slice none 0 0] rfl).below hb1; have hB := below_tr ((Below.refl w.heap.size w).alloc (Nat.le_refl _) (.cells #[.bool false, .slice none 0 0] 29)) hb1 (by simp); obtain ⟨q0, q1, q2, q3, _⟩ := blk_facts k0; have z0 := fun n x y => (blk_twoN k0 n x y).1; have z1 := fun n x y => (blk_twoN k0 n x y).2.1; have z2 := fun n x y => (blk_twoN k0 n x y).2.2; have hc1 := (unhide hst) _ hB)
  go_quiet (fail)
  go_wp2_with fail
  (try simp only [Exit.inBlock, Exit.then])
  refine bodyPost_ret (by simp [results, Tryz.results6, go_sem, z0, z1, z2]; try rfl) rfl ?_
  with_reducible refine (unhide hP) _ ?_
  with_reducible exact ((bdrewN hB _).setCell (Nat.le_refl _) _).setCell (Nat.le_refl _) _
theorem blk_twoM {w : World} {g : Nat} {t : TypeId} {u v : Value} (k : Blk w g t #[u, v]) (x y : Value) :
    ((w.setCell ⟨g, 0, none⟩ x).setCell ⟨g, 1, none⟩ y).cell? ⟨g, 0, none⟩ = some x ∧ ((w.setCell ⟨g, 0, none⟩ x).setCell ⟨g, 1, none⟩ y).cell? ⟨g, 1, none⟩ = some y ∧ (w.setCell ⟨g, 0, none⟩ x).cell? ⟨g, 0, none⟩ = some x := by
  have h1 := (k.set 0 x)
  have h2 := h1.set 1 y
  exact ⟨by have := h2.cell 0; simpa using this, by have := h2.cell 1; simpa using this, by have := h1.cell 0; simpa using this⟩
theorem pdc_good {w W : World} {width : Int} {l : List Int} {s : Bool} {A : Option Addr} {n c : Nat} {u v a b : Value} (hg : good width l = true) (h : Wd W (.agg #[.bool s, .slice A n c]) (sv l)) (k : Blk W w.heap.size 29 #[u, v]) (hb : Below w.heap.size w W) :
    PDc w width l (.returned (.tuple #[.agg #[.bool s, .slice A n c], .bool true])) ((W.setCell ⟨w.heap.size, 0, none⟩ a).setCell ⟨w.heap.size, 1, none⟩ b) := by
  refine ⟨s, A, n, c, ?_, fun _ => ?_, (hb.setCell (Nat.le_refl _) _).setCell (Nat.le_refl _) _⟩
  · rw [hg]
  · exact (h.far k.tyb (by decide) 0 a).far (k.tyb.set _ _ _) (by decide) 1 b
set_option maxRecDepth 100000 in
set_option maxHeartbeats 4000000 in
theorem decimal_good (w : World) (A : Option Addr) (c : Nat) (width : Int) (l : List Int) (h : Rd .u64 w (.slice A l.length c) l) (h64 : Sm64 l) (hI : wIs width = true) (hn : l.length = wN width) (h32 : width ≠ 32) :
    Calls Tryz.prog 6 #[.int .i64 width, .slice A l.length c] w (PDc w width l) := by
  have hg : good width l = true := by unfold good; simp [hn, hI, h32]
  have hln : 0 < l.length ∧ l.length ≤ 20 := by
    rw [hn]; unfold wIs at hI; unfold wN; simp at hI
    rcases hI with rfl | rfl | rfl | rfl <;> simp
  have hP := hide (fun (W : World) (s : Bool) (A : Option Addr) (n c : Nat) (h : Wd W (.agg #[.bool s, .slice A n c]) (sv l)) (k : Blk W w.heap.size 29 #[.bool false, .slice none 0 0]) (hb : Below w.heap.size w W) => pdc_good (a := .bool s) (b := .slice A n c) hg h k hb)
  have hW := hide (fun (W : World) => wordsOf_any W width)
  have hF := hide (fun (W : World) (hb : Below w.heap.size w W) => FromWords_any W _ l (h.below hb) h64 hln.1 hln.2)
  rw [hI] at hW
  have hnb : ((l.length : Int) != (wN width : Int)) = false := by simp; omega
  have hwb : (width == 32) = false := by simp [h32]
  clear h hg hI hln h64 hn
  generalize wN width = m at hW hnb
  generalize hll : l.length = n at hnb hF ⊢
  clear hll
  go_enter Tryz.func6, Tryz.ntmps6
  go_wp2_with (go_at_call 14; (with_reducible refine ((unhide hW) _).mono ?_); rintro e w1 ⟨rfl, hb1⟩; have k0 := (Blk.new (w := w) (g := w.heap.size) 29 #[.bool false, .slice none 0 0] rfl).below hb1; have hB := below_tr ((Below.refl w.heap.size w).alloc (Nat.le_refl _) (.cells #[.bool false, .slice none 0 0] 29)) hb1 (by simp); obtain ⟨q0, q1, q2, q3, _⟩ := blk_facts k0)
  go_quiet (fail)
  go_wp2_with (go_at_call 15; (with_reducible refine ((unhide hF) _ (bdrewN hB _)).mono ?_); rintro e w3 ⟨y, rfl, hy, hb3⟩; have k1 : Blk w3 w.heap.size 29 #[.bool false, .slice none 0 0] := (Blk.below (w := w1.drewN nq) (by exact k0.below (bdrewN (Below.refl _ _) _)) hb3); have hB3 := below_tr (bdrewN hB nq) hb3 (by have := hB.size; simpa using this); obtain ⟨q4, q5, q6, q7, _⟩ := blk_facts k1; obtain ⟨s, A', n', c', rfl⟩ := hy.form; have z0 := fun x y => (blk_twoM k1 x y).1; have z1 := fun x y => (blk_twoM k1 x y).2.1; have z2 := fun x y => (blk_twoM k1 x y).2.2)
  (try simp only [Exit.inBlock, Exit.then])
  refine bodyPost_ret (by simp [results, Tryz.results6, go_sem, z0, z1, z2]; try rfl) rfl ?_
  with_reducible exact (unhide hP) _ _ _ _ _ hy k1 hB3
set_option maxRecDepth 100000 in
set_option maxHeartbeats 4000000 in
theorem decimal_good32 (w : World) (b off : Nat) (c : Nat) (x : Int) (h : Rd .u64 w (.slice (some ⟨b, off, none⟩) 1 c) [x]) (h64 : Sm64 [x]) (hc : w.cell? ⟨b, off, none⟩ = some (.int .u64 x)) (hx : IntKind.u64.wrap (wrap64 (wrap32 x)) = x) :
    Calls Tryz.prog 6 #[.int .i64 32, .slice (some ⟨b, off, none⟩) 1 c] w (PDc w 32 [x]) := by
  have hg : good 32 [x] = true := by unfold good; simp [hx]; decide
  have hP := hide (fun (W : World) (s : Bool) (A : Option Addr) (n c : Nat) (h : Wd W (.agg #[.bool s, .slice A n c]) (sv [x])) (k : Blk W w.heap.size 29 #[.bool false, .slice none 0 0]) (hb : Below w.heap.size w W) => pdc_good (a := .bool s) (b := .slice A n c) hg h k hb)
  have hW := hide (fun (W : World) => wordsOf_any W 32)
  have hF := hide (fun (W : World) (hb : Below w.heap.size w W) => FromWords_any W _ [x] (h.below hb) h64 (by simp) (by simp))
  rw [show wIs 32 = true by decide, show wN 32 = 1 by decide] at hW
  have hxb : (IntKind.u64.wrap (wrap64 (wrap32 x)) != x) = false := by simp [hx]
  have hlt := World.block_lt_of_cell? w _ hc
  have hst := hide (fun (W : World) (hb : Below w.heap.size w W) => (hb.cell (by exact hlt)).trans hc)
  clear h h64 hg
  go_enter Tryz.func6, Tryz.ntmps6
  go_wp2_with (go_at_call 14; (with_reducible refine ((unhide hW) _).mono ?_); rintro e w1 ⟨rfl, hb1⟩; have k0 := (Blk.new (w := w) (g := w.heap.size) 29 #[.bool false, .slice none 0 0] rfl).below hb1; have hB := below_tr ((Below.refl w.heap.size w).alloc (Nat.le_refl _) (.cells #[.bool false, .slice none 0 0] 29)) hb1 (by simp); obtain ⟨q0, q1, q2, q3, _⟩ := blk_facts k0; have hc1 := (unhide hst) _ hB)
  go_quiet (fail)
  go_wp2_with (go_at_call 15; (with_reducible refine ((unhide hF) _ (bdrewN hB _)).mono ?_); rintro e w3 ⟨y, rfl, hy, hb3⟩; have k1 : Blk w3 w.heap.size 29 #[.bool false, .slice none 0 0] := (Blk.below (w := w1.drewN nq) (by exact k0.below (bdrewN (Below.refl _ _) _)) hb3); have hB3 := below_tr (bdrewN hB nq) hb3 (by have := hB.size; simpa using this); obtain ⟨q4, q5, q6, q7, _⟩ := blk_facts k1; obtain ⟨s, A', n', c', rfl⟩ := hy.form; have z0 := fun x y => (blk_twoM k1 x y).1; have z1 := fun x y => (blk_twoM k1 x y).2.1; have z2 := fun x y => (blk_twoM k1 x y).2.2)
  (try simp only [Exit.inBlock, Exit.then])
  refine bodyPost_ret (by simp [results, Tryz.results6, go_sem, z0, z1, z2]; try rfl) rfl ?_
  with_reducible exact (unhide hP) _ _ _ _ _ hy k1 hB3
theorem decimal_any (w : World) (v : Value) (width : Int) (l : List Int) (h : Rd .u64 w v l) (h64 : Sm64 l) :
    Calls Tryz.prog 6 #[.int .i64 width, v] w (PDc w width l) := by
  by_cases hI : wIs width = true
  · by_cases hn : l.length = wN width
    · by_cases h32 : width = 32
      · subst h32
        rw [show wN 32 = 1 by decide] at hn
        obtain ⟨x, rfl⟩ := List.length_eq_one_iff.1 hn
        obtain ⟨b, off, c, rfl, _, _, hc⟩ := h.one (i := 0) (by simp)
        have hc0 := hc 0 (by simp)
        simp at hc0
        by_cases hx : IntKind.u64.wrap (wrap64 (wrap32 x)) = x
        · exact decimal_good32 w b off c x h h64 hc0 hx
        · exact decimal_bad3 w b off c x hc0 hx
      · obtain ⟨A, c, rfl, _⟩ := id h
        exact decimal_good w A c width l h h64 hI hn h32
    · obtain ⟨A, c, rfl, _⟩ := id h
      exact decimal_bad2 w A c width l hI hn
  · obtain ⟨A, c, rfl, _⟩ := id h
    exact decimal_bad1 w A l.length c width l (by simpa using hI)
end
section
open Go.RowKit Go.ChangeShapes Go.WideShapes Go.ChangeAt
attribute [local go_sem ↓] Go.wp_at_zero Go.wp_at_succ
def x32 (x : Int) : Int := IntKind.u64.wrap (wrap64 (wrap32 x))
def wrl (width z : Int) : List Int := if width = 32 then [x32 ((twos z 1).getD 0 0)] else twos z (wN width)
def wrb (width z : Int) : Bool := fitB z (wN width) && (decide (width ≠ 32) || decide (x32 ((twos z 1).getD 0 0) = (twos z 1).getD 0 0))
def PWr (w : World) (width z : Int) (e : Ending) (w' : World) : Prop := ∃ x, e = .returned (.tuple #[x, .bool (wrb width z)]) ∧ Rd .u64 w' x (wrl width z) ∧ Below w.heap.size w w'
set_option maxRecDepth 100000 in
set_option maxHeartbeats 4000000 in
theorem wrapped_64 (w : World) (v : Value) (z width : Int) (h : Wd w v z) (hI : wIs width = true) (h32 : width ≠ 32) :
    Calls Tryz.prog 8 #[.int .i64 width, v] w (PWr w width z) := by
  have hm : 1 ≤ wN width ∧ wN width ≤ 4 := by
    unfold wIs at hI; unfold wN; simp at hI
    rcases hI with rfl | rfl | rfl | rfl <;> simp
  have hP := hide (fun (W : World) (x : Value) (h : Rd .u64 W x (twos z (wN width))) (hb : Below w.heap.size w W) => (show PWr w width z (.returned (.tuple #[x, .bool (fitB z (wN width))])) W from ⟨x, by unfold wrb; simp [h32], by unfold wrl; rw [if_neg h32]; exact h, hb⟩))
  have hW := hide (fun (W : World) => wordsOf_any W width)
  have hT := hide (fun (W : World) (hb : Below w.heap.size w W) => ToWords_any W v z (wN width) (h.below hb) hm.1 hm.2)
  obtain ⟨s, A, n, c, rfl⟩ := h.form
  rw [hI] at hW
  have hwb : (width == 32) = false := by simp [h32]
  clear h hI hm
  generalize wN width = m at *
  go_enter Tryz.func8, Tryz.ntmps8
  go_wp2_with (first
    | (go_at_call 14; (with_reducible refine ((unhide hW) _).mono ?_); rintro e w1 ⟨rfl, hb1⟩; have k0 := (Blk.new (w := w) (g := w.heap.size) 29 #[.bool s, .slice A n c] rfl).below hb1; have hB := below_tr ((Below.refl w.heap.size w).alloc (Nat.le_refl _) (.cells #[.bool s, .slice A n c] 29)) hb1 (by simp); obtain ⟨q0, q1, q2, q3, _⟩ := blk_facts k0)
    | (go_at_call 18; (with_reducible refine ((unhide hT) _ hB).mono ?_); rintro e w2 ⟨x, rfl, hx, hy, hb2⟩))
  (try simp only [Exit.inBlock, Exit.then])
  go_returns
  exact (unhide hP) _ _ hx (below_tr hB hb2 hB.size)
theorem fin32 {w w2 : World} (hB : Below w.heap.size w w2) (x : Int) : Blk ((w2.alloc (.cells #[.int .u64 x] 23)).drew) w2.heap.size 23 (ivs .u64 [x]).toArray ∧ Below w.heap.size w ((w2.alloc (.cells #[.int .u64 x] 23)).drew) :=
  ⟨Blk.below (w := w2.alloc (.cells #[.int .u64 x] 23)) (Blk.new (w := w2) (g := w2.heap.size) 23 #[.int .u64 x] rfl) (bdrew (Below.refl _ _)), bdrew (hB.alloc hB.size _)⟩
set_option maxRecDepth 100000 in
set_option maxHeartbeats 4000000 in
theorem wrapped_32 (w : World) (v : Value) (z : Int) (h : Wd w v z) :
    Calls Tryz.prog 8 #[.int .i64 32, v] w (PWr w 32 z) := by
  have hW := hide (fun (W : World) => wordsOf_any W 32)
  have hT := hide (fun (W : World) (hb : Below w.heap.size w W) => (show Calls Tryz.prog 18 #[v, .int .i64 1] W (PTw W z 1) from ToWords_any W v z 1 (h.below hb) (by omega) (by omega)))
  obtain ⟨s, A, n, c, rfl⟩ := h.form
  rw [show wIs 32 = true by decide, show wN 32 = 1 by decide] at hW
  obtain ⟨y, hy1⟩ : ∃ y, twos z 1 = [y] := List.length_eq_one_iff.1 (by simp [twos])
  have hP := hide (fun (W : World) (G : Nat) (hk : Blk W G 23 (ivs .u64 [x32 y]).toArray) (hb : Below w.heap.size w W) => (show PWr w 32 z (.returned (.tuple #[.slice (some ⟨G, 0, none⟩) 1 1, .bool (fitB z 1 && decide (x32 y = y))])) W from
    ⟨.slice (some ⟨G, 0, none⟩) 1 1, by unfold wrb; rw [show wN 32 = 1 by decide, hy1]; simp, by unfold wrl; rw [if_pos rfl, hy1]; exact (blk_rd hk (by simp)).1, hb⟩))
  have hrd := hide (fun (W : World) (x : Value) (hr : Rd .u64 W x (twos z 1)) => (show ∃ b off c, x = .slice (some ⟨b, off, none⟩) 1 c ∧ W.cell? ⟨b, off, none⟩ = some (.int .u64 y) from by
    rw [hy1] at hr
    obtain ⟨b, off, c, rfl, _, _, hc⟩ := hr.one (i := 0) (by simp)
    exact ⟨b, off, c, rfl, by have := hc 0 (by simp); simpa using this⟩))
  clear h
  cases hf : fitB z 1
  case false =>
    rw [hf] at hP
    go_enter Tryz.func8, Tryz.ntmps8
    go_upto_region 5 with (first
      | (go_at_call 14; (with_reducible refine ((unhide hW) _).mono ?_); rintro e w1 ⟨rfl, hb1⟩; have k0 := (Blk.new (w := w) (g := w.heap.size) 29 #[.bool s, .slice A n c] rfl).below hb1; have hB := below_tr ((Below.refl w.heap.size w).alloc (Nat.le_refl _) (.cells #[.bool s, .slice A n c] 29)) hb1 (by simp); obtain ⟨q0, q1, q2, q3, _⟩ := blk_facts k0)
      | (go_at_call 18; (with_reducible refine ((unhide hT) _ hB).mono ?_); rintro e w2 ⟨x, rfl, hx, hy, hb2⟩; obtain ⟨bx, ox, cx, rfl, hcx⟩ := (unhide hrd) _ _ hx; rw [hf]))
    have ht : ∀ b' : Bool, (b' && decide (x32 y = y)) = (b' && (IntKind.u64.wrap (wrap64 (wrap32 y)) == y)) := fun b2 => by unfold x32; by_cases hq : IntKind.u64.wrap (wrap64 (wrap32 y)) = y <;> simp [hq]
    rw [ht] at hP
    have hB2 := below_tr hB hb2 hB.size
    go_big_region
    all_goals
      go_wp2_with fail
      (try simp only [Exit.inBlock, Exit.then])
      go_returns
      exact (unhide hP) _ _ (fin32 hB2 _).1 (fin32 hB2 _).2
  case true =>
    rw [hf] at hP
    go_enter Tryz.func8, Tryz.ntmps8
    go_upto_region 5 with (first
      | (go_at_call 14; (with_reducible refine ((unhide hW) _).mono ?_); rintro e w1 ⟨rfl, hb1⟩; have k0 := (Blk.new (w := w) (g := w.heap.size) 29 #[.bool s, .slice A n c] rfl).below hb1; have hB := below_tr ((Below.refl w.heap.size w).alloc (Nat.le_refl _) (.cells #[.bool s, .slice A n c] 29)) hb1 (by simp); obtain ⟨q0, q1, q2, q3, _⟩ := blk_facts k0)
      | (go_at_call 18; (with_reducible refine ((unhide hT) _ hB).mono ?_); rintro e w2 ⟨x, rfl, hx, hy, hb2⟩; obtain ⟨bx, ox, cx, rfl, hcx⟩ := (unhide hrd) _ _ hx; rw [hf]))
    have ht : ∀ b' : Bool, (b' && decide (x32 y = y)) = (b' && (IntKind.u64.wrap (wrap64 (wrap32 y)) == y)) := fun b2 => by unfold x32; by_cases hq : IntKind.u64.wrap (wrap64 (wrap32 y)) = y <;> simp [hq]
    rw [ht] at hP
    have hB2 := below_tr hB hb2 hB.size
    go_region_held3 (fun W => W.cell? ⟨bx, ox, none⟩ = some (.int .u64 y) ∧ True) (go_keep) (fail)
    all_goals
      go_wp2_with fail
      (try simp only [Exit.inBlock, Exit.then])
      go_returns
      exact (unhide hP) _ _ (fin32 hB2 _).1 (fin32 hB2 _).2
theorem wrapped_any (w : World) (v : Value) (z width : Int) (h : Wd w v z) (hI : wIs width = true) :
    Calls Tryz.prog 8 #[.int .i64 width, v] w (PWr w width z) := by
  by_cases h32 : width = 32
  · subst h32; exact wrapped_32 w v z h
  · exact wrapped_64 w v z width h hI h32
end
section
open Go.RowKit Go.ChangeShapes Go.WideShapes Go.ChangeAt
attribute [local go_sem ↓] Go.wp_at_zero Go.wp_at_succ
theorem mul_step (D c P x A B k T : Int) (hT : T = c + (P + x)) : D + k * (T % 4294967296 - x) + T / 4294967296 * (4294967296 * k) = D + c * k + k * P := by
  have h := Int.emod_add_mul_ediv T 4294967296
  have e : D + k * (T % 4294967296 - x) + T / 4294967296 * (4294967296 * k) = D + k * (T % 4294967296 + 4294967296 * (T / 4294967296)) - k * x := by
    rw [Int.mul_sub, Int.mul_add]
    have : T / 4294967296 * (4294967296 * k) = k * (4294967296 * (T / 4294967296)) := by
      rw [← Int.mul_assoc, Int.mul_comm (T / 4294967296) 4294967296, Int.mul_comm]
    omega
  rw [e, h, hT, Int.mul_add, Int.mul_add, Int.mul_comm k c]
  omega
def OMul (w : World) (a b : List Int) (v17 : Value) (wr : World) : Prop :=
  ∃ i : Nat, i ≤ a.length ∧ v17 = .int .i64 (i : Int) ∧ ∃ o : List Int, o.length = a.length + b.length ∧ Sm o ∧ Blk wr w.heap.size 69 (ivs .u32 o).toArray ∧ Below w.heap.size w wr ∧ dv o = dv (a.take i) * dv b ∧ (∀ j, i + b.length ≤ j → o.getD j 0 = 0)
def IMul (w : World) (a b : List Int) (i : Nat) (v7 v22 : Value) (wr : World) : Prop :=
  ∃ k : Nat, k ≤ b.length ∧ v22 = .int .i64 (k : Int) ∧ ∃ (c : Int) (o : List Int), v7 = .int .u64 c ∧ 0 ≤ c ∧ c < 4294967296 ∧ o.length = a.length + b.length ∧ Sm o ∧ Blk wr w.heap.size 69 (ivs .u32 o).toArray ∧ Below w.heap.size w wr ∧
    dv o + c * bp (i + k) = dv (a.take i) * dv b + bp i * a.getD i 0 * dv (b.take k) ∧ (∀ j, i + b.length ≤ j → o.getD j 0 = 0)
theorem blk_iset' {w : World} {k : IntKind} {G : Nat} {t : TypeId} {q : List Int} (h : Blk w G t (ivs k q).toArray) (j : Nat) (x : Int) : Blk (w.setCell ⟨G, j, none⟩ (.int k x)) G t (ivs k (q.set j x)).toArray := by
  have := h.set j (.int k x)
  rwa [List.setIfInBounds_toArray, show (ivs k q).set j (.int k x) = ivs k (q.set j x) by simp [ivs, List.map_set]] at this
theorem imul_next {w wr : World} {a b o : List Int} {i k : Nat} {c T : Int} (hi : i < a.length) (hk : k < b.length) (h0 : 0 ≤ c) (h1 : c < 4294967296) (hl : o.length = a.length + b.length) (hs : Sm o) (ha : Sm a) (hb' : Sm b)
    (hb : Blk wr w.heap.size 69 (ivs .u32 o).toArray) (hB : Below w.heap.size w wr) (hz : ∀ j, i + b.length ≤ j → o.getD j 0 = 0)
    (he : dv o + c * bp (i + k) = dv (a.take i) * dv b + bp i * a.getD i 0 * dv (b.take k)) (hT : T = c + (a.getD i 0 * b.getD k 0 + o.getD (i + k) 0)) (hT0 : 0 ≤ T) (hT1 : T < 18446744073709551616) (n : Nat) :
    IMul w a b i (.int .u64 (T / 4294967296)) (.int .i64 ((k : Int) + 1)) ((wr.drewN n).setCell ⟨w.heap.size, i + k, none⟩ (.int .u32 (T % 4294967296))) := by
  refine ⟨k + 1, by omega, by simp, T / 4294967296, o.set (i + k) (T % 4294967296), rfl, by omega, by omega, by simpa using hl, sm_set hs _ (by omega) (by omega), blk_iset' (hb.drewN n) _ _, (show Below w.heap.size w (wr.drewN n) from ⟨hB.os, hB.tape, hB.output, hB.size, hB.block⟩).setCell (Nat.le_refl _) _, ?_, fun j hj => ?_⟩
  · rw [dv_set _ _ _ (by omega), show i + (k + 1) = (i + k) + 1 by omega, bp_succ, mul_step (dv o) c (a.getD i 0 * b.getD k 0) (o.getD (i + k) 0) 0 0 (bp (i + k)) T hT, he, dv_take_succ b k hk, bp_add]
    rw [Int.mul_add]
    have : bp i * bp k * (a.getD i 0 * b.getD k 0) = bp i * a.getD i 0 * (bp k * b.getD k 0) := by
      rw [Int.mul_assoc, Int.mul_assoc]
      congr 1
      rw [← Int.mul_assoc, ← Int.mul_assoc, Int.mul_comm (bp k)]
    omega
  · rw [set_getD _ _ _ _ (by omega), if_neg (by omega)]; exact hz j hj
theorem omul_next {w wr : World} {a b o : List Int} {i : Nat} {c : Int} (hi : i < a.length) (h0 : 0 ≤ c) (h1 : c < 4294967296) (hl : o.length = a.length + b.length) (hs : Sm o)
    (hb : Blk wr w.heap.size 69 (ivs .u32 o).toArray) (hB : Below w.heap.size w wr) (hz : ∀ j, i + b.length ≤ j → o.getD j 0 = 0)
    (he : dv o + c * bp (i + b.length) = dv (a.take i) * dv b + bp i * a.getD i 0 * dv b) :
    OMul w a b (.int .i64 ((i : Int) + 1)) (wr.setCell ⟨w.heap.size, i + b.length, none⟩ (.int .u32 c)) := by
  refine ⟨i + 1, by omega, by simp, o.set (i + b.length) c, by simpa using hl, sm_set hs _ h0 h1, blk_iset' hb _ _, hB.setCell (Nat.le_refl _) _, ?_, fun j hj => ?_⟩
  · rw [dv_set _ _ _ (by omega), hz _ (Nat.le_refl _), dv_take_succ a i hi, Int.add_mul, ← he, Int.sub_zero, Int.mul_comm c]
  · rw [set_getD _ _ _ _ (by omega), if_neg (by omega)]; exact hz j (by omega)
theorem omul_end {w wr : World} {a b o : List Int} (hs : Sm o) (hl : o.length = a.length + b.length) (hla : a.length ≤ 100) (hlb : b.length ≤ 100) (hb : Blk wr w.heap.size 69 (ivs .u32 o).toArray) (hB : Below w.heap.size w wr) (he : dv o = dv a * dv b)
    {e : Ending} {w' : World} (h : PTrim (some ⟨w.heap.size, 0, none⟩) o.length wr o e w') : PMag w (dv a * dv b) e w' := by
  obtain ⟨n, rfl, hn, ht, hd, rfl⟩ := h
  obtain ⟨h1, h2⟩ := blk_rd hb (by omega)
  exact ⟨_, o.take n, rfl, mg_take ⟨h1, h2⟩ hn, sm_take hs n, ht, by rw [hd, he], hB, fun b off n c e hp => by injection e with e1 _ _; injection e1 with e1; injection e1 with e1; omega⟩
set_option maxRecDepth 100000 in
set_option maxHeartbeats 4000000 in
theorem magMul_any (w : World) (u v : Value) (a b : List Int) (hu : Mg w u a) (hv : Mg w v b) (ha : Sm a) (hb : Sm b) (hla : a.length ≤ 100) (hlb : b.length ≤ 100) :
    Calls Tryz.prog 17 #[u, v] w (PMag w (dv a * dv b)) := by
  obtain ⟨⟨A, c, rfl, hc, hsa, _⟩, _⟩ := hu
  obtain ⟨⟨A', c', rfl, hc', hsb, _⟩, _⟩ := hv
  have hmk : ∀ W : World, (Instr.makeSlice 27 (.int .i64 ((a.length : Int) + (b.length : Int))) (.int .i64 ((a.length : Int) + (b.length : Int)))).run Tryz.prog W = .ok (.slice (some ⟨W.heap.size, 0, none⟩) (a.length + b.length) (a.length + b.length)) (W.alloc (.cells (ivs .u32 (List.replicate (a.length + b.length) 0)).toArray 69)) := fun W => by
    have := make_u32 (a.length + b.length) (by omega) W
    rwa [Int.natCast_add] at this
  have h00 := hide (show OMul w a b (.int .i64 0) (w.alloc (.cells (ivs .u32 (List.replicate (a.length + b.length) 0)).toArray 69)) from
    ⟨0, by omega, rfl, List.replicate (a.length + b.length) 0, by simp, sm_zeros _, Blk.new _ _ rfl, (Below.refl _ _).alloc (Nat.le_refl _) _, by rw [dv_zeros]; simp [dv], fun j _ => by rw [List.getD_eq_getElem?_getD]; by_cases hj : j < a.length + b.length <;> simp [hj]⟩)
  have HA := hide hsa
  have HB := hide hsb
  have HSA := hide ha
  have HSB := hide hb
  clear hsa hsb ha hb
  go_enter Tryz.func17, Tryz.ntmps17
  go_wp2_with fail
  generalize hw1 : (w.alloc (.cells (ivs .u32 (List.replicate (a.length + b.length) 0)).toArray 69)) = w1 at *
  clear hw1 hmk
  go_loopw [17] (OMul w a b) (fun v _ => a.length - (intOf v).toNat)
  case atStart => exact unhide h00
  case round =>
    obtain ⟨i, hi, rfl, o, hol, hos, hob, hoB, hoe, hoz⟩ := hrel
    by_cases hlt : i < a.length
    · have hI0 := hide (show IMul w a b i (.int .u64 0) (.int .i64 0) wr from ⟨0, by omega, rfl, 0, o, rfl, by omega, by omega, hol, hos, hob, hoB, by rw [hoe]; simp [dv], hoz⟩)
      obtain ⟨ba, oa, rfl, hba, hca⟩ := (unhide HA).2 (by omega)
      clear hol hos hob hoB hoe hoz
      obtain ⟨wo, rfl⟩ : ∃ wo : World, wo = wr := ⟨_, rfl⟩
      go_wp2_with fail
      go_loopw [7, 22] (IMul w a b i) (fun _ v _ => b.length - (intOf v).toNat)
      case atStart => exact unhide hI0
      case round =>
        obtain ⟨k, hk, rfl, c1, o1, rfl, hc0, hc1, hol, hos, hob, hoB, hoe, hoz⟩ := hrel
        by_cases hlk : k < b.length
        · obtain ⟨bb, ob, rfl, hbb, hcb⟩ := (unhide HB).2 (by omega)
          have y0 := (hoB.cell (p := ⟨ba, oa + i, none⟩) hba).trans (hca i (.int .u32 (a.getD i 0)) (by simp [List.getElem?_map, List.getElem?_eq_getElem hlt, List.getD_eq_getElem?_getD]))
          have y1 := (hoB.cell (p := ⟨bb, ob + k, none⟩) hbb).trans (hcb k (.int .u32 (b.getD k 0)) (by simp [List.getElem?_map, List.getElem?_eq_getElem hlk, List.getD_eq_getElem?_getD]))
          have y2 := hob.cell (i + k)
          rw [ivs_get _ _ _ (by omega)] at y2
          have f2 := hob.frozen (i + k)
          obtain ⟨x0, x1⟩ := sm_get (unhide HSA) i
          obtain ⟨x2, x3⟩ := sm_get (unhide HSB) k
          obtain ⟨x4, x5⟩ := sm_get hos (i + k)
          have hnx := hide (fun T hT hT0 hT1 n => imul_next (T := T) (w := w) (wr := wr) (a := a) (b := b) (o := o1) (i := i) (k := k) (c := c1) hlt hlk hc0 hc1 hol hos (unhide HSA) (unhide HSB) hob hoB hoz hoe hT hT0 hT1 n)
          have hG : w.heap.size < wr.heap.size := hob.lt
          clear hol hos hob hoB hoe hoz hcb
          generalize a.getD i 0 = xa at *
          generalize b.getD k 0 = xb at *
          generalize o1.getD (i + k) 0 = xo at *
          have hp0 : 0 ≤ xa * xb := Int.mul_nonneg x0 x2
          have hp1 : xa * xb ≤ 4294967295 * 4294967295 := Int.mul_le_mul (by omega) (by omega) x2 (by omega)
          generalize hP : xa * xb = P at *
          have e1 : IntKind.u64.wrap (xa * xb) = P := by rw [hP, IntKind.wrap_u64]; omega
          have e2 : IntKind.u64.wrap (P + xo) = P + xo := by rw [IntKind.wrap_u64]; omega
          have e3 : IntKind.u64.wrap (c1 + (P + xo)) = c1 + (P + xo) := by rw [IntKind.wrap_u64]; omega
          have e4 : IntKind.u32.wrap (c1 + (P + xo)) = (c1 + (P + xo)) % 4294967296 := by rw [IntKind.wrap_u32']
          have s1 : IntKind.i64.wrap ((i : Int) + (k : Int)) = (i : Int) + (k : Int) := IntWalk.i64_in _ (by omega)
          have s2 : ((i : Int) + (k : Int)).toNat = i + k := by omega
          have s3 : (0 : Int) ≤ (i : Int) := by omega
          have s4 : (i : Int) < (a.length : Int) := by omega
          have s5 : (0 : Int) ≤ (k : Int) := by omega
          have s6 : (k : Int) < (b.length : Int) := by omega
          have s7 : (0 : Int) ≤ (i : Int) + (k : Int) := by omega
          have s8 : (i : Int) + (k : Int) < ((a.length + b.length : Nat) : Int) := by omega
          have hN := hide ((unhide hnx) _ rfl (by omega) (by omega))
          have hpb := hide (And.intro hp0 hp1)
          clear hnx hP hp0 hp1
          go_upto_region 9 with (fail)
          go_quiet (fail)
          go_wp2_with fail
          exact ⟨(unhide hN) _, by simp [intOf]; omega⟩
        · obtain rfl : k = b.length := by omega
          rw [List.take_length] at hoe
          have y2 := hob.cell (i + b.length)
          rw [ivs_get _ _ _ (by omega)] at y2
          have f2 := hob.frozen (i + b.length)
          have hN := hide (omul_next (w := w) (wr := wr) (a := a) (b := b) (o := o1) (i := i) (c := c1) hlt hc0 hc1 hol hos hob hoB hoz hoe)
          have hG : w.heap.size < wr.heap.size := hob.lt
          clear hol hos hob hoB hoe hoz
          have e4 : IntKind.u32.wrap c1 = c1 := by rw [IntKind.wrap_u32']; omega
          have s1 : IntKind.i64.wrap ((i : Int) + (b.length : Int)) = (i : Int) + (b.length : Int) := IntWalk.i64_in _ (by omega)
          go_wp2_with fail
          exact ⟨unhide hN, by simp [intOf]; omega⟩
    · obtain rfl : i = a.length := by omega
      rw [List.take_length] at hoe
      have hT := hide (trim_any wr (some ⟨w.heap.size, 0, none⟩) (a.length + b.length) o (by have := (blk_rd hob (by omega)).1; rwa [hol] at this ⊢))
      have hE := hide (fun e w' h => omul_end (e := e) (w' := w') hos hol hla hlb hob hoB hoe h)
      rw [hol] at hT hE
      clear hol hos hob hoB hoe hoz
      go_wp2_with fail
      refine (unhide hT).mono ?_
      intro e w' hp
      have hEE := (unhide hE) e w' hp
      obtain ⟨n', rfl, _, _, _, rfl⟩ := hp
      have HE := hide hEE
      clear hEE
      go_wp2_with fail
      go_ret
      exact unhide HE
end
section
open Go.RowKit Go.ChangeShapes Go.WideShapes Go.ChangeAt
attribute [local go_sem ↓] Go.wp_at_zero Go.wp_at_succ
theorem wv_mul (s s' : Bool) (p q : Int) (r : List Int) (hr : dv r = p * q) : wv (s != s') r = (if s then -p else p) * (if s' then -q else q) := by
  cases s <;> cases s' <;> simp [wv, hr, Int.neg_mul, Int.mul_neg]
theorem mag_mul_bd {s s' : Bool} {p q B : Int} (hp : 0 ≤ p) (hq : 0 ≤ q) (h1 : -B < (if s then -p else p) * (if s' then -q else q)) (h2 : (if s then -p else p) * (if s' then -q else q) < B) : p * q < B := by
  cases s <;> cases s' <;> simp [Int.neg_mul, Int.mul_neg] at h1 h2 <;> omega
set_option maxRecDepth 100000 in
set_option maxHeartbeats 4000000 in
theorem WideMul_any (w : World) (u v : Value) (x y : Int) (hu : Wd w u x) (hv : Wd w v y) (h1 : -bp 100 < x * y) (h2 : x * y < bp 100) :
    Calls Tryz.prog 7 #[u, v] w (PWide w (x * y)) := by
  obtain ⟨s, a, u, rfl, hu, hsa, hta, hna, rfl, hla⟩ := hu
  obtain ⟨s', b, v, rfl, hv, hsb, htb, hnb, rfl, hlb⟩ := hv
  have hMu := hide (fun (W : World) (h : Below w.heap.size w W) => (magMul_any W u v a b (hu.below h) (hv.below h) hsa hsb (by omega) (by omega)).mono (fun e w' hh => pmag_add hh))
  have hWd := hide (fun (W : World) (t : Bool) (x : Value) (r : List Int) (h : Mg W x r) (hr : Sm r) (hz : dv r < bp 100) => wide_any W t x r h hr hz)
  obtain ⟨⟨A, c, rfl, hc, _⟩, _⟩ := hu
  obtain ⟨⟨A', c', rfl, hc', _⟩, _⟩ := hv
  have n1 := dv_nn hsa
  have n2 := dv_nn hsb
  have hS1 : wv s a = if s then -dv a else dv a := rfl
  have hS2 : wv s' b = if s' then -dv b else dv b := rfl
  rw [hS1, hS2] at h1 h2 ⊢
  have hWV := hide (fun (t t' : Bool) (r : List Int) (hr : dv r = dv a * dv b) => wv_mul t t' (dv a) (dv b) r hr)
  have HBD := hide (mag_mul_bd n1 n2 h1 h2)
  generalize dv a = za at *
  generalize dv b = zb at *
  clear hS1 hS2 hsa hsb hta htb hna hnb h1 h2 hla hlb hc hc' n1 n2
  have hb0 := hide (two2_of w undef undef s s' A A' a.length b.length c c')
  cases s <;> cases s'
  · have h2r := unhide hb0
    clear hb0
    go_enter Tryz.func7, Tryz.ntmps7
    go_upto_region 1 with (fail)
    have h2 := h2r
    clear h2r
    generalize (((w.alloc (.cells #[.bool false, .slice A a.length c] 29)).alloc (.cells #[.bool false, .slice A' b.length c'] 29)).alloc (.cells #[.bool false, .slice none 0 0] 29)) = w0 at h2 ⊢
    have hS := hide (fun (W : World) (h : Held w0 (w.heap.size + 2) (w.heap.size + 2) W) => s2_of h2 W h)
    have hF := hide (fun (W : World) (x9 a9 : Value) (z : Int) (hx : Wd W (.agg #[x9, a9]) z) (h : Held w0 (w.heap.size + 2) (w.heap.size + 2) W) => pwide_held hx h2 h)
    have hh0 := held0 h2
    obtain ⟨e1, e2, e3, e4, _⟩ := s2_of h2 w0 hh0
    go_region_held3 (fun W => W.cell? ⟨w.heap.size, 0, none⟩ = some (.bool false) ∧ W.cell? ⟨w.heap.size, 1, none⟩ = some (.slice A a.length c) ∧ W.cell? ⟨w.heap.size + 1, 0, none⟩ = some (.bool false) ∧ W.cell? ⟨w.heap.size + 1, 1, none⟩ = some (.slice A' b.length c') ∧ Held w0 (w.heap.size + 2) (w.heap.size + 2) W)
      (first | ((try go_split_ands); (try dsimp only); refine (unhide hS) _ ?_; first | exact Held.drew (by assumption) | exact Held.below (by assumption) hb1 | exact Held.below (by assumption) hb2 | exact Held.store (by assumption) _ _))
      (first
        | (go_at_call 17; (with_reducible refine ((unhide hMu) _ (held_w h2 (by go_split_ands; assumption))).mono ?_); rintro e w1 ⟨x1, r1, rfl, hg1, hs1, hz1, hb1⟩; have HZ1 := Lib.hid hz1; clear hz1)
        | (go_at_call 16; (with_reducible refine ((unhide hWd) _ _ _ _ hg1 hs1 (by rw [HZ1.out]; exact unhide HBD)).mono ?_); rintro e w2 ⟨x2, rfl, hx2, hb2⟩; obtain ⟨s2, A2, n2, c2, rfl⟩ := hx2.form; have hh2 := Held.below (by go_split_ands; assumption) hb2; obtain ⟨a7, b7, c7, c8, f7, f8⟩ := Held.facts hh2))
    go_wp2
    refine bodyPost_ret (v := .agg #[.bool s2, .slice A2 n2 c2]) (by simp [results, Tryz.results7, go_sem, c7, c8]) rfl ?_
    have HE := (unhide hF) w2 _ _ _ hx2 hh2
    rw [show wv false r1 = za * zb from by have := (unhide hWV) false false _ (HZ1.out); simpa using this] at HE
    exact HE
  · have h2r := unhide hb0
    clear hb0
    go_enter Tryz.func7, Tryz.ntmps7
    go_upto_region 1 with (fail)
    have h2 := h2r
    clear h2r
    generalize (((w.alloc (.cells #[.bool false, .slice A a.length c] 29)).alloc (.cells #[.bool true, .slice A' b.length c'] 29)).alloc (.cells #[.bool false, .slice none 0 0] 29)) = w0 at h2 ⊢
    have hS := hide (fun (W : World) (h : Held w0 (w.heap.size + 2) (w.heap.size + 2) W) => s2_of h2 W h)
    have hF := hide (fun (W : World) (x9 a9 : Value) (z : Int) (hx : Wd W (.agg #[x9, a9]) z) (h : Held w0 (w.heap.size + 2) (w.heap.size + 2) W) => pwide_held hx h2 h)
    have hh0 := held0 h2
    obtain ⟨e1, e2, e3, e4, _⟩ := s2_of h2 w0 hh0
    go_region_held3 (fun W => W.cell? ⟨w.heap.size, 0, none⟩ = some (.bool false) ∧ W.cell? ⟨w.heap.size, 1, none⟩ = some (.slice A a.length c) ∧ W.cell? ⟨w.heap.size + 1, 0, none⟩ = some (.bool true) ∧ W.cell? ⟨w.heap.size + 1, 1, none⟩ = some (.slice A' b.length c') ∧ Held w0 (w.heap.size + 2) (w.heap.size + 2) W)
      (first | ((try go_split_ands); (try dsimp only); refine (unhide hS) _ ?_; first | exact Held.drew (by assumption) | exact Held.below (by assumption) hb1 | exact Held.below (by assumption) hb2 | exact Held.store (by assumption) _ _))
      (first
        | (go_at_call 17; (with_reducible refine ((unhide hMu) _ (held_w h2 (by go_split_ands; assumption))).mono ?_); rintro e w1 ⟨x1, r1, rfl, hg1, hs1, hz1, hb1⟩; have HZ1 := Lib.hid hz1; clear hz1)
        | (go_at_call 16; (with_reducible refine ((unhide hWd) _ _ _ _ hg1 hs1 (by rw [HZ1.out]; exact unhide HBD)).mono ?_); rintro e w2 ⟨x2, rfl, hx2, hb2⟩; obtain ⟨s2, A2, n2, c2, rfl⟩ := hx2.form; have hh2 := Held.below (by go_split_ands; assumption) hb2; obtain ⟨a7, b7, c7, c8, f7, f8⟩ := Held.facts hh2))
    go_wp2
    refine bodyPost_ret (v := .agg #[.bool s2, .slice A2 n2 c2]) (by simp [results, Tryz.results7, go_sem, c7, c8]) rfl ?_
    have HE := (unhide hF) w2 _ _ _ hx2 hh2
    rw [show wv true r1 = za * -zb from by have := (unhide hWV) false true _ (HZ1.out); simpa using this] at HE
    exact HE
  · have h2r := unhide hb0
    clear hb0
    go_enter Tryz.func7, Tryz.ntmps7
    go_upto_region 1 with (fail)
    have h2 := h2r
    clear h2r
    generalize (((w.alloc (.cells #[.bool true, .slice A a.length c] 29)).alloc (.cells #[.bool false, .slice A' b.length c'] 29)).alloc (.cells #[.bool false, .slice none 0 0] 29)) = w0 at h2 ⊢
    have hS := hide (fun (W : World) (h : Held w0 (w.heap.size + 2) (w.heap.size + 2) W) => s2_of h2 W h)
    have hF := hide (fun (W : World) (x9 a9 : Value) (z : Int) (hx : Wd W (.agg #[x9, a9]) z) (h : Held w0 (w.heap.size + 2) (w.heap.size + 2) W) => pwide_held hx h2 h)
    have hh0 := held0 h2
    obtain ⟨e1, e2, e3, e4, _⟩ := s2_of h2 w0 hh0
    go_region_held3 (fun W => W.cell? ⟨w.heap.size, 0, none⟩ = some (.bool true) ∧ W.cell? ⟨w.heap.size, 1, none⟩ = some (.slice A a.length c) ∧ W.cell? ⟨w.heap.size + 1, 0, none⟩ = some (.bool false) ∧ W.cell? ⟨w.heap.size + 1, 1, none⟩ = some (.slice A' b.length c') ∧ Held w0 (w.heap.size + 2) (w.heap.size + 2) W)
      (first | ((try go_split_ands); (try dsimp only); refine (unhide hS) _ ?_; first | exact Held.drew (by assumption) | exact Held.below (by assumption) hb1 | exact Held.below (by assumption) hb2 | exact Held.store (by assumption) _ _))
      (first
        | (go_at_call 17; (with_reducible refine ((unhide hMu) _ (held_w h2 (by go_split_ands; assumption))).mono ?_); rintro e w1 ⟨x1, r1, rfl, hg1, hs1, hz1, hb1⟩; have HZ1 := Lib.hid hz1; clear hz1)
        | (go_at_call 16; (with_reducible refine ((unhide hWd) _ _ _ _ hg1 hs1 (by rw [HZ1.out]; exact unhide HBD)).mono ?_); rintro e w2 ⟨x2, rfl, hx2, hb2⟩; obtain ⟨s2, A2, n2, c2, rfl⟩ := hx2.form; have hh2 := Held.below (by go_split_ands; assumption) hb2; obtain ⟨a7, b7, c7, c8, f7, f8⟩ := Held.facts hh2))
    go_wp2
    refine bodyPost_ret (v := .agg #[.bool s2, .slice A2 n2 c2]) (by simp [results, Tryz.results7, go_sem, c7, c8]) rfl ?_
    have HE := (unhide hF) w2 _ _ _ hx2 hh2
    rw [show wv true r1 = -za * zb from by have := (unhide hWV) true false _ (HZ1.out); simpa using this] at HE
    exact HE
  · have h2r := unhide hb0
    clear hb0
    go_enter Tryz.func7, Tryz.ntmps7
    go_upto_region 1 with (fail)
    have h2 := h2r
    clear h2r
    generalize (((w.alloc (.cells #[.bool true, .slice A a.length c] 29)).alloc (.cells #[.bool true, .slice A' b.length c'] 29)).alloc (.cells #[.bool false, .slice none 0 0] 29)) = w0 at h2 ⊢
    have hS := hide (fun (W : World) (h : Held w0 (w.heap.size + 2) (w.heap.size + 2) W) => s2_of h2 W h)
    have hF := hide (fun (W : World) (x9 a9 : Value) (z : Int) (hx : Wd W (.agg #[x9, a9]) z) (h : Held w0 (w.heap.size + 2) (w.heap.size + 2) W) => pwide_held hx h2 h)
    have hh0 := held0 h2
    obtain ⟨e1, e2, e3, e4, _⟩ := s2_of h2 w0 hh0
    go_region_held3 (fun W => W.cell? ⟨w.heap.size, 0, none⟩ = some (.bool true) ∧ W.cell? ⟨w.heap.size, 1, none⟩ = some (.slice A a.length c) ∧ W.cell? ⟨w.heap.size + 1, 0, none⟩ = some (.bool true) ∧ W.cell? ⟨w.heap.size + 1, 1, none⟩ = some (.slice A' b.length c') ∧ Held w0 (w.heap.size + 2) (w.heap.size + 2) W)
      (first | ((try go_split_ands); (try dsimp only); refine (unhide hS) _ ?_; first | exact Held.drew (by assumption) | exact Held.below (by assumption) hb1 | exact Held.below (by assumption) hb2 | exact Held.store (by assumption) _ _))
      (first
        | (go_at_call 17; (with_reducible refine ((unhide hMu) _ (held_w h2 (by go_split_ands; assumption))).mono ?_); rintro e w1 ⟨x1, r1, rfl, hg1, hs1, hz1, hb1⟩; have HZ1 := Lib.hid hz1; clear hz1)
        | (go_at_call 16; (with_reducible refine ((unhide hWd) _ _ _ _ hg1 hs1 (by rw [HZ1.out]; exact unhide HBD)).mono ?_); rintro e w2 ⟨x2, rfl, hx2, hb2⟩; obtain ⟨s2, A2, n2, c2, rfl⟩ := hx2.form; have hh2 := Held.below (by go_split_ands; assumption) hb2; obtain ⟨a7, b7, c7, c8, f7, f8⟩ := Held.facts hh2))
    go_wp2
    refine bodyPost_ret (v := .agg #[.bool s2, .slice A2 n2 c2]) (by simp [results, Tryz.results7, go_sem, c7, c8]) rfl ?_
    have HE := (unhide hF) w2 _ _ _ hx2 hh2
    rw [show wv false r1 = -za * -zb from by have := (unhide hWV) true true _ (HZ1.out); simpa using this] at HE
    exact HE
end
end Go.Proofs.YtfalicipocbcoaaGreatDoor
