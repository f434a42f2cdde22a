/- FnDecUnary: the laws' small functions, the thin package's function, the law's walk, the row. (Ytajjnlneacoooaa) -/
import Derived.Test.YtajjnlneacoooaaW12
import Derived.Test.YtajjnlneacoooaaW15
import Derived.BigRegion
import Derived.Test.YtajjnlneacoooaaW17
import Derived.Test.YtajjnlneacoooaaW13
import Derived.Test.YtajjnlneacoooaaL4
import Derived.Test.YtajjnlneacoooaaRows
set_option linter.unusedVariables false
set_option linter.unusedSimpArgs false
namespace Go.Proofs.Ytajjnlneacoooaa
open Go.RowKit Go.ChangeShapes Go.WideShapes Go.ChangeAt
attribute [local go_sem ↓] Go.wp_at_zero Go.wp_at_succ
def good (width : Int) (l : List Int) : Bool := wIs width && decide (l.length = wN width) && !(decide (width = 32) && decide (IntKind.u64.wrap (wrap64 (wrap32 (l.getD 0 0))) ≠ l.getD 0 0))
def PDc (w : World) (width : Int) (l : List Int) (e : Ending) (w' : World) : Prop := ∃ s A n c, e = .returned (.tuple #[.agg #[.bool s, .slice A n c], .bool (good width l)]) ∧ (good width l = true → Wd w' (.agg #[.bool s, .slice A n c]) (sv l)) ∧ Below w.heap.size w w'
theorem pdc_bad {w W : World} {width : Int} {l : List Int} (hg : good width l = false) (h : Below w.heap.size w W) : PDc w width l (.returned (.tuple #[.agg #[.bool false, .slice none 0 0], .bool false])) W := by
  refine ⟨false, none, 0, 0, ?_, fun hh => ?_, h⟩
  · rw [hg]
  · rw [hg] at hh; cases hh
theorem blk_twoN {w : World} {g : Nat} {t : TypeId} {u v : Value} (k : Blk w g t #[u, v]) (n : Nat) (x y : Value) :
    (((w.drewN n).setCell ⟨g, 0, none⟩ x).setCell ⟨g, 1, none⟩ y).cell? ⟨g, 0, none⟩ = some x ∧ (((w.drewN n).setCell ⟨g, 0, none⟩ x).setCell ⟨g, 1, none⟩ y).cell? ⟨g, 1, none⟩ = some y ∧ ((w.drewN n).setCell ⟨g, 0, none⟩ x).cell? ⟨g, 0, none⟩ = some x := by
  have h : Blk (w.drewN n) g t #[u, v] := k.below (bdrewN (Below.refl _ _) n)
  have h1 := (h.set 0 x)
  have h2 := h1.set 1 y
  exact ⟨by have := h2.cell 0; simpa using this, by have := h2.cell 1; simpa using this, by have := h1.cell 0; simpa using this⟩
set_option maxRecDepth 100000 in
set_option maxHeartbeats 4000000 in
theorem decimal_bad1 (w : World) (A : Option Addr) (n c : Nat) (width : Int) (l : List Int) (hI : wIs width = false) :
    Calls Try.prog 9 #[.int .i64 width, .slice A n c] w (PDc w width l) := by
  have hg : good width l = false := by unfold good; simp [hI]
  have hP := hide (fun (W : World) (h : Below w.heap.size w W) => pdc_bad hg h)
  have hW := hide (fun (W : World) => wordsOf_any W width)
  rw [hI] at hW
  generalize wN width = m at hW
  clear hg hI
  go_enter Try.func9, Try.ntmps9
  go_wp2_with (go_at_call 34; (with_reducible refine ((unhide hW) _).mono ?_); rintro e w1 ⟨rfl, hb1⟩; have k0 := (Blk.new (w := w) (g := w.heap.size) 30 #[.bool false, .slice none 0 0] rfl).below hb1; have hB := below_tr ((Below.refl w.heap.size w).alloc (Nat.le_refl _) (.cells #[.bool false, .slice none 0 0] 30)) hb1 (by simp); obtain ⟨q0, q1, q2, q3, _⟩ := blk_facts k0; have z0 := fun n x y => (blk_twoN k0 n x y).1; have z1 := fun n x y => (blk_twoN k0 n x y).2.1; have z2 := fun n x y => (blk_twoN k0 n x y).2.2)
  go_quiet (fail)
  go_wp2_with fail
  (try simp only [Exit.inBlock, Exit.then])
  refine bodyPost_ret (by simp [results, Try.results9, go_sem, z0, z1, z2]; try rfl) rfl ?_
  with_reducible refine (unhide hP) _ ?_
  with_reducible exact ((bdrewN hB _).setCell (Nat.le_refl _) _).setCell (Nat.le_refl _) _
set_option maxRecDepth 100000 in
set_option maxHeartbeats 4000000 in
theorem decimal_bad2 (w : World) (A : Option Addr) (c : Nat) (width : Int) (l : List Int) (hI : wIs width = true) (hn : l.length ≠ wN width) :
    Calls Try.prog 9 #[.int .i64 width, .slice A l.length c] w (PDc w width l) := by
  have hg : good width l = false := by unfold good; simp [hn]
  have hP := hide (fun (W : World) (h : Below w.heap.size w W) => pdc_bad hg h)
  have hW := hide (fun (W : World) => wordsOf_any W width)
  rw [hI] at hW
  have hni : ¬ (l.length : Int) = (wN width : Int) := by omega
  have hnb : ((l.length : Int) != (wN width : Int)) = true := by simp; omega
  generalize wN width = m at hW hn hni hnb
  generalize l.length = n at hn hni hnb ⊢
  clear hg hI
  go_enter Try.func9, Try.ntmps9
  go_wp2_with (go_at_call 34; (with_reducible refine ((unhide hW) _).mono ?_); rintro e w1 ⟨rfl, hb1⟩; have k0 := (Blk.new (w := w) (g := w.heap.size) 30 #[.bool false, .slice none 0 0] rfl).below hb1; have hB := below_tr ((Below.refl w.heap.size w).alloc (Nat.le_refl _) (.cells #[.bool false, .slice none 0 0] 30)) hb1 (by simp); obtain ⟨q0, q1, q2, q3, _⟩ := blk_facts k0; have z0 := fun n x y => (blk_twoN k0 n x y).1; have z1 := fun n x y => (blk_twoN k0 n x y).2.1; have z2 := fun n x y => (blk_twoN k0 n x y).2.2)
  go_quiet (fail)
  go_wp2_with fail
  (try simp only [Exit.inBlock, Exit.then])
  refine bodyPost_ret (by simp [results, Try.results9, go_sem, z0, z1, z2]; try rfl) rfl ?_
  with_reducible refine (unhide hP) _ ?_
  with_reducible exact ((bdrewN hB _).setCell (Nat.le_refl _) _).setCell (Nat.le_refl _) _
set_option maxRecDepth 100000 in
set_option maxHeartbeats 4000000 in
theorem decimal_bad3 (w : World) (b off : Nat) (c : Nat) (x : Int) (hc : w.cell? ⟨b, off, none⟩ = some (.int .u64 x)) (hx : IntKind.u64.wrap (wrap64 (wrap32 x)) ≠ x) :
    Calls Try.prog 9 #[.int .i64 32, .slice (some ⟨b, off, none⟩) 1 c] w (PDc w 32 [x]) := by
  have hg : good 32 [x] = false := by unfold good; simp [hx]
  have hP := hide (fun (W : World) (h : Below w.heap.size w W) => pdc_bad hg h)
  have hW := hide (fun (W : World) => wordsOf_any W 32)
  have hxb : (IntKind.u64.wrap (wrap64 (wrap32 x)) != x) = true := by simp [hx]
  have hlt := World.block_lt_of_cell? w _ hc
  have hst := hide (fun (W : World) (hb : Below w.heap.size w W) => (hb.cell (by exact hlt)).trans hc)
  rw [show wIs 32 = true by decide, show wN 32 = 1 by decide] at hW
  clear hg
  go_enter Try.func9, Try.ntmps9
  go_wp2_with (go_at_call 34; (with_reducible refine ((unhide hW) _).mono ?_); rintro e w1 ⟨rfl, hb1⟩; have k0 := (Blk.new (w := w) (g := w.heap.size) 30 #[.bool false, .slice none 0 0] rfl).below hb1; have hB := below_tr ((Below.refl w.heap.size w).alloc (Nat.le_refl _) (.cells #[.bool false, .slice none 0 0] 30)) hb1 (by simp); obtain ⟨q0, q1, q2, q3, _⟩ := blk_facts k0; have z0 := fun n x y => (blk_twoN k0 n x y).1; have z1 := fun n x y => (blk_twoN k0 n x y).2.1; have z2 := fun n x y => (blk_twoN k0 n x y).2.2; have hc1 := (unhide hst) _ hB)
  go_quiet (fail)
  go_wp2_with fail
  (try simp only [Exit.inBlock, Exit.then])
  refine bodyPost_ret (by simp [results, Try.results9, go_sem, z0, z1, z2]; try rfl) rfl ?_
  with_reducible refine (unhide hP) _ ?_
  with_reducible exact ((bdrewN hB _).setCell (Nat.le_refl _) _).setCell (Nat.le_refl _) _
theorem blk_twoM {w : World} {g : Nat} {t : TypeId} {u v : Value} (k : Blk w g t #[u, v]) (x y : Value) :
    ((w.setCell ⟨g, 0, none⟩ x).setCell ⟨g, 1, none⟩ y).cell? ⟨g, 0, none⟩ = some x ∧ ((w.setCell ⟨g, 0, none⟩ x).setCell ⟨g, 1, none⟩ y).cell? ⟨g, 1, none⟩ = some y ∧ (w.setCell ⟨g, 0, none⟩ x).cell? ⟨g, 0, none⟩ = some x := by
  have h1 := (k.set 0 x)
  have h2 := h1.set 1 y
  exact ⟨by have := h2.cell 0; simpa using this, by have := h2.cell 1; simpa using this, by have := h1.cell 0; simpa using this⟩
theorem pdc_good {w W : World} {width : Int} {l : List Int} {s : Bool} {A : Option Addr} {n c : Nat} {u v a b : Value} (hg : good width l = true) (h : Wd W (.agg #[.bool s, .slice A n c]) (sv l)) (k : Blk W w.heap.size 30 #[u, v]) (hb : Below w.heap.size w W) :
    PDc w width l (.returned (.tuple #[.agg #[.bool s, .slice A n c], .bool true])) ((W.setCell ⟨w.heap.size, 0, none⟩ a).setCell ⟨w.heap.size, 1, none⟩ b) := by
  refine ⟨s, A, n, c, ?_, fun _ => ?_, (hb.setCell (Nat.le_refl _) _).setCell (Nat.le_refl _) _⟩
  · rw [hg]
  · exact (h.far k.tyb (by decide) 0 a).far (k.tyb.set _ _ _) (by decide) 1 b
set_option maxRecDepth 100000 in
set_option maxHeartbeats 4000000 in
theorem decimal_good (w : World) (A : Option Addr) (c : Nat) (width : Int) (l : List Int) (h : Rd .u64 w (.slice A l.length c) l) (h64 : Sm64 l) (hI : wIs width = true) (hn : l.length = wN width) (h32 : width ≠ 32) :
    Calls Try.prog 9 #[.int .i64 width, .slice A l.length c] w (PDc w width l) := by
  have hg : good width l = true := by unfold good; simp [hn, hI, h32]
  have hln : 0 < l.length ∧ l.length ≤ 20 := by
    rw [hn]; unfold wIs at hI; unfold wN; simp at hI
    rcases hI with rfl | rfl | rfl | rfl <;> simp
  have hP := hide (fun (W : World) (s : Bool) (A : Option Addr) (n c : Nat) (h : Wd W (.agg #[.bool s, .slice A n c]) (sv l)) (k : Blk W w.heap.size 30 #[.bool false, .slice none 0 0]) (hb : Below w.heap.size w W) => pdc_good (a := .bool s) (b := .slice A n c) hg h k hb)
  have hW := hide (fun (W : World) => wordsOf_any W width)
  have hF := hide (fun (W : World) (hb : Below w.heap.size w W) => FromWords_any W _ l (h.below hb) h64 hln.1 hln.2)
  rw [hI] at hW
  have hnb : ((l.length : Int) != (wN width : Int)) = false := by simp; omega
  have hwb : (width == 32) = false := by simp [h32]
  clear h hg hI hln h64 hn
  generalize wN width = m at hW hnb
  generalize hll : l.length = n at hnb hF ⊢
  clear hll
  go_enter Try.func9, Try.ntmps9
  go_wp2_with (go_at_call 34; (with_reducible refine ((unhide hW) _).mono ?_); rintro e w1 ⟨rfl, hb1⟩; have k0 := (Blk.new (w := w) (g := w.heap.size) 30 #[.bool false, .slice none 0 0] rfl).below hb1; have hB := below_tr ((Below.refl w.heap.size w).alloc (Nat.le_refl _) (.cells #[.bool false, .slice none 0 0] 30)) hb1 (by simp); obtain ⟨q0, q1, q2, q3, _⟩ := blk_facts k0)
  go_quiet (fail)
  go_wp2_with (go_at_call 35; (with_reducible refine ((unhide hF) _ (bdrewN hB _)).mono ?_); rintro e w3 ⟨y, rfl, hy, hb3⟩; have k1 : Blk w3 w.heap.size 30 #[.bool false, .slice none 0 0] := (Blk.below (w := w1.drewN nq) (by exact k0.below (bdrewN (Below.refl _ _) _)) hb3); have hB3 := below_tr (bdrewN hB nq) hb3 (by have := hB.size; simpa using this); obtain ⟨q4, q5, q6, q7, _⟩ := blk_facts k1; obtain ⟨s, A', n', c', rfl⟩ := hy.form; have z0 := fun x y => (blk_twoM k1 x y).1; have z1 := fun x y => (blk_twoM k1 x y).2.1; have z2 := fun x y => (blk_twoM k1 x y).2.2)
  (try simp only [Exit.inBlock, Exit.then])
  refine bodyPost_ret (by simp [results, Try.results9, go_sem, z0, z1, z2]; try rfl) rfl ?_
  with_reducible exact (unhide hP) _ _ _ _ _ hy k1 hB3
set_option maxRecDepth 100000 in
set_option maxHeartbeats 4000000 in
theorem decimal_good32 (w : World) (b off : Nat) (c : Nat) (x : Int) (h : Rd .u64 w (.slice (some ⟨b, off, none⟩) 1 c) [x]) (h64 : Sm64 [x]) (hc : w.cell? ⟨b, off, none⟩ = some (.int .u64 x)) (hx : IntKind.u64.wrap (wrap64 (wrap32 x)) = x) :
    Calls Try.prog 9 #[.int .i64 32, .slice (some ⟨b, off, none⟩) 1 c] w (PDc w 32 [x]) := by
  have hg : good 32 [x] = true := by unfold good; simp [hx]; decide
  have hP := hide (fun (W : World) (s : Bool) (A : Option Addr) (n c : Nat) (h : Wd W (.agg #[.bool s, .slice A n c]) (sv [x])) (k : Blk W w.heap.size 30 #[.bool false, .slice none 0 0]) (hb : Below w.heap.size w W) => pdc_good (a := .bool s) (b := .slice A n c) hg h k hb)
  have hW := hide (fun (W : World) => wordsOf_any W 32)
  have hF := hide (fun (W : World) (hb : Below w.heap.size w W) => FromWords_any W _ [x] (h.below hb) h64 (by simp) (by simp))
  rw [show wIs 32 = true by decide, show wN 32 = 1 by decide] at hW
  have hxb : (IntKind.u64.wrap (wrap64 (wrap32 x)) != x) = false := by simp [hx]
  have hlt := World.block_lt_of_cell? w _ hc
  have hst := hide (fun (W : World) (hb : Below w.heap.size w W) => (hb.cell (by exact hlt)).trans hc)
  clear h h64 hg
  go_enter Try.func9, Try.ntmps9
  go_wp2_with (go_at_call 34; (with_reducible refine ((unhide hW) _).mono ?_); rintro e w1 ⟨rfl, hb1⟩; have k0 := (Blk.new (w := w) (g := w.heap.size) 30 #[.bool false, .slice none 0 0] rfl).below hb1; have hB := below_tr ((Below.refl w.heap.size w).alloc (Nat.le_refl _) (.cells #[.bool false, .slice none 0 0] 30)) hb1 (by simp); obtain ⟨q0, q1, q2, q3, _⟩ := blk_facts k0; have hc1 := (unhide hst) _ hB)
  go_quiet (fail)
  go_wp2_with (go_at_call 35; (with_reducible refine ((unhide hF) _ (bdrewN hB _)).mono ?_); rintro e w3 ⟨y, rfl, hy, hb3⟩; have k1 : Blk w3 w.heap.size 30 #[.bool false, .slice none 0 0] := (Blk.below (w := w1.drewN nq) (by exact k0.below (bdrewN (Below.refl _ _) _)) hb3); have hB3 := below_tr (bdrewN hB nq) hb3 (by have := hB.size; simpa using this); obtain ⟨q4, q5, q6, q7, _⟩ := blk_facts k1; obtain ⟨s, A', n', c', rfl⟩ := hy.form; have z0 := fun x y => (blk_twoM k1 x y).1; have z1 := fun x y => (blk_twoM k1 x y).2.1; have z2 := fun x y => (blk_twoM k1 x y).2.2)
  (try simp only [Exit.inBlock, Exit.then])
  refine bodyPost_ret (by simp [results, Try.results9, go_sem, z0, z1, z2]; try rfl) rfl ?_
  with_reducible exact (unhide hP) _ _ _ _ _ hy k1 hB3
theorem decimal_any (w : World) (v : Value) (width : Int) (l : List Int) (h : Rd .u64 w v l) (h64 : Sm64 l) :
    Calls Try.prog 9 #[.int .i64 width, v] w (PDc w width l) := by
  by_cases hI : wIs width = true
  · by_cases hn : l.length = wN width
    · by_cases h32 : width = 32
      · subst h32
        rw [show wN 32 = 1 by decide] at hn
        obtain ⟨x, rfl⟩ := List.length_eq_one_iff.1 hn
        obtain ⟨b, off, c, rfl, _, _, hc⟩ := h.one (i := 0) (by simp)
        have hc0 := hc 0 (by simp)
        simp at hc0
        by_cases hx : IntKind.u64.wrap (wrap64 (wrap32 x)) = x
        · exact decimal_good32 w b off c x h h64 hc0 hx
        · exact decimal_bad3 w b off c x hc0 hx
      · obtain ⟨A, c, rfl, _⟩ := id h
        exact decimal_good w A c width l h h64 hI hn h32
    · obtain ⟨A, c, rfl, _⟩ := id h
      exact decimal_bad2 w A c width l hI hn
  · obtain ⟨A, c, rfl, _⟩ := id h
    exact decimal_bad1 w A l.length c width l (by simpa using hI)
end Go.Proofs.Ytajjnlneacoooaa
namespace Go.Proofs.Ytajjnlneacoooaa
open Go.RowKit Go.ChangeShapes Go.WideShapes Go.ChangeAt
attribute [local go_sem ↓] Go.wp_at_zero Go.wp_at_succ
def x32 (x : Int) : Int := IntKind.u64.wrap (wrap64 (wrap32 x))
def wrl (width z : Int) : List Int := if width = 32 then [x32 ((twos z 1).getD 0 0)] else twos z (wN width)
def wrb (width z : Int) : Bool := fitB z (wN width) && (decide (width ≠ 32) || decide (x32 ((twos z 1).getD 0 0) = (twos z 1).getD 0 0))
def PWr (w : World) (width z : Int) (e : Ending) (w' : World) : Prop := ∃ x, e = .returned (.tuple #[x, .bool (wrb width z)]) ∧ Rd .u64 w' x (wrl width z) ∧ Below w.heap.size w w'
set_option maxRecDepth 100000 in
set_option maxHeartbeats 4000000 in
theorem wrapped_64 (w : World) (v : Value) (z width : Int) (h : Wd w v z) (hI : wIs width = true) (h32 : width ≠ 32) :
    Calls Try.prog 13 #[.int .i64 width, v] w (PWr w width z) := by
  have hm : 1 ≤ wN width ∧ wN width ≤ 4 := by
    unfold wIs at hI; unfold wN; simp at hI
    rcases hI with rfl | rfl | rfl | rfl <;> simp
  have hP := hide (fun (W : World) (x : Value) (h : Rd .u64 W x (twos z (wN width))) (hb : Below w.heap.size w W) => (show PWr w width z (.returned (.tuple #[x, .bool (fitB z (wN width))])) W from ⟨x, by unfold wrb; simp [h32], by unfold wrl; rw [if_neg h32]; exact h, hb⟩))
  have hW := hide (fun (W : World) => wordsOf_any W width)
  have hT := hide (fun (W : World) (hb : Below w.heap.size w W) => ToWords_any W v z (wN width) (h.below hb) hm.1 hm.2)
  obtain ⟨s, A, n, c, rfl⟩ := h.form
  rw [hI] at hW
  have hwb : (width == 32) = false := by simp [h32]
  clear h hI hm
  generalize wN width = m at *
  go_enter Try.func13, Try.ntmps13
  go_wp2_with (first
    | (go_at_call 34; (with_reducible refine ((unhide hW) _).mono ?_); rintro e w1 ⟨rfl, hb1⟩; have k0 := (Blk.new (w := w) (g := w.heap.size) 30 #[.bool s, .slice A n c] rfl).below hb1; have hB := below_tr ((Below.refl w.heap.size w).alloc (Nat.le_refl _) (.cells #[.bool s, .slice A n c] 30)) hb1 (by simp); obtain ⟨q0, q1, q2, q3, _⟩ := blk_facts k0)
    | (go_at_call 38; (with_reducible refine ((unhide hT) _ hB).mono ?_); rintro e w2 ⟨x, rfl, hx, hy, hb2⟩))
  (try simp only [Exit.inBlock, Exit.then])
  go_returns
  exact (unhide hP) _ _ hx (below_tr hB hb2 hB.size)
theorem fin32 {w w2 : World} (hB : Below w.heap.size w w2) (x : Int) : Blk ((w2.alloc (.cells #[.int .u64 x] 27)).drew) w2.heap.size 27 (ivs .u64 [x]).toArray ∧ Below w.heap.size w ((w2.alloc (.cells #[.int .u64 x] 27)).drew) :=
  ⟨Blk.below (w := w2.alloc (.cells #[.int .u64 x] 27)) (Blk.new (w := w2) (g := w2.heap.size) 27 #[.int .u64 x] rfl) (bdrew (Below.refl _ _)), bdrew (hB.alloc hB.size _)⟩
set_option maxRecDepth 100000 in
set_option maxHeartbeats 4000000 in
theorem wrapped_32 (w : World) (v : Value) (z : Int) (h : Wd w v z) :
    Calls Try.prog 13 #[.int .i64 32, v] w (PWr w 32 z) := by
  have hW := hide (fun (W : World) => wordsOf_any W 32)
  have hT := hide (fun (W : World) (hb : Below w.heap.size w W) => (show Calls Try.prog 38 #[v, .int .i64 1] W (PTw W z 1) from ToWords_any W v z 1 (h.below hb) (by omega) (by omega)))
  obtain ⟨s, A, n, c, rfl⟩ := h.form
  rw [show wIs 32 = true by decide, show wN 32 = 1 by decide] at hW
  obtain ⟨y, hy1⟩ : ∃ y, twos z 1 = [y] := List.length_eq_one_iff.1 (by simp [twos])
  have hP := hide (fun (W : World) (G : Nat) (hk : Blk W G 27 (ivs .u64 [x32 y]).toArray) (hb : Below w.heap.size w W) => (show PWr w 32 z (.returned (.tuple #[.slice (some ⟨G, 0, none⟩) 1 1, .bool (fitB z 1 && decide (x32 y = y))])) W from
    ⟨.slice (some ⟨G, 0, none⟩) 1 1, by unfold wrb; rw [show wN 32 = 1 by decide, hy1]; simp, by unfold wrl; rw [if_pos rfl, hy1]; exact (blk_rd hk (by simp)).1, hb⟩))
  have hrd := hide (fun (W : World) (x : Value) (hr : Rd .u64 W x (twos z 1)) => (show ∃ b off c, x = .slice (some ⟨b, off, none⟩) 1 c ∧ W.cell? ⟨b, off, none⟩ = some (.int .u64 y) from by
    rw [hy1] at hr
    obtain ⟨b, off, c, rfl, _, _, hc⟩ := hr.one (i := 0) (by simp)
    exact ⟨b, off, c, rfl, by have := hc 0 (by simp); simpa using this⟩))
  clear h
  cases hf : fitB z 1
  case false =>
    rw [hf] at hP
    go_enter Try.func13, Try.ntmps13
    go_upto_region 5 with (first
      | (go_at_call 34; (with_reducible refine ((unhide hW) _).mono ?_); rintro e w1 ⟨rfl, hb1⟩; have k0 := (Blk.new (w := w) (g := w.heap.size) 30 #[.bool s, .slice A n c] rfl).below hb1; have hB := below_tr ((Below.refl w.heap.size w).alloc (Nat.le_refl _) (.cells #[.bool s, .slice A n c] 30)) hb1 (by simp); obtain ⟨q0, q1, q2, q3, _⟩ := blk_facts k0)
      | (go_at_call 38; (with_reducible refine ((unhide hT) _ hB).mono ?_); rintro e w2 ⟨x, rfl, hx, hy, hb2⟩; obtain ⟨bx, ox, cx, rfl, hcx⟩ := (unhide hrd) _ _ hx; rw [hf]))
    have ht : ∀ b' : Bool, (b' && decide (x32 y = y)) = (b' && (IntKind.u64.wrap (wrap64 (wrap32 y)) == y)) := fun b2 => by unfold x32; by_cases hq : IntKind.u64.wrap (wrap64 (wrap32 y)) = y <;> simp [hq]
    rw [ht] at hP
    have hB2 := below_tr hB hb2 hB.size
    go_big_region
    all_goals
      go_wp2_with fail
      (try simp only [Exit.inBlock, Exit.then])
      go_returns
      exact (unhide hP) _ _ (fin32 hB2 _).1 (fin32 hB2 _).2
  case true =>
    rw [hf] at hP
    go_enter Try.func13, Try.ntmps13
    go_upto_region 5 with (first
      | (go_at_call 34; (with_reducible refine ((unhide hW) _).mono ?_); rintro e w1 ⟨rfl, hb1⟩; have k0 := (Blk.new (w := w) (g := w.heap.size) 30 #[.bool s, .slice A n c] rfl).below hb1; have hB := below_tr ((Below.refl w.heap.size w).alloc (Nat.le_refl _) (.cells #[.bool s, .slice A n c] 30)) hb1 (by simp); obtain ⟨q0, q1, q2, q3, _⟩ := blk_facts k0)
      | (go_at_call 38; (with_reducible refine ((unhide hT) _ hB).mono ?_); rintro e w2 ⟨x, rfl, hx, hy, hb2⟩; obtain ⟨bx, ox, cx, rfl, hcx⟩ := (unhide hrd) _ _ hx; rw [hf]))
    have ht : ∀ b' : Bool, (b' && decide (x32 y = y)) = (b' && (IntKind.u64.wrap (wrap64 (wrap32 y)) == y)) := fun b2 => by unfold x32; by_cases hq : IntKind.u64.wrap (wrap64 (wrap32 y)) = y <;> simp [hq]
    rw [ht] at hP
    have hB2 := below_tr hB hb2 hB.size
    go_region_held3 (fun W => W.cell? ⟨bx, ox, none⟩ = some (.int .u64 y) ∧ True) (go_keep) (fail)
    all_goals
      go_wp2_with fail
      (try simp only [Exit.inBlock, Exit.then])
      go_returns
      exact (unhide hP) _ _ (fin32 hB2 _).1 (fin32 hB2 _).2
theorem wrapped_any (w : World) (v : Value) (z width : Int) (h : Wd w v z) (hI : wIs width = true) :
    Calls Try.prog 13 #[.int .i64 width, v] w (PWr w width z) := by
  by_cases h32 : width = 32
  · subst h32; exact wrapped_32 w v z h
  · exact wrapped_64 w v z width h hI h32
end Go.Proofs.Ytajjnlneacoooaa
namespace Go.Proofs.Ytajjnlneacoooaa
open Go.RowKit Go.ChangeShapes Go.WideShapes Go.ChangeAt
theorem rd_slice {w : World} {v : Value} {l : List Int} (h : Rd .u64 w v l) (h0 : 0 < l.length) : ∃ b off c, v = .slice (some ⟨b, off, none⟩) l.length c ∧ ∀ W, Below w.heap.size w W → ∀ j, j < l.length → W.cell? ⟨b, off + j, none⟩ = some (.int .u64 (l.getD j 0)) := by
  obtain ⟨b, off, c, rfl, _, hlt, hc⟩ := h.one (i := 0) h0
  exact ⟨b, off, c, rfl, fun W hb j hj => (hb.cell (by exact hlt)).trans (hc j hj)⟩
theorem u64_wrap_eq (x : Int) : IntKind.u64.wrap x = x % 18446744073709551616 := by simp [IntKind.wrap, IntKind.signed]; rfl
theorem hd_32 (w : World) (v : Value) (x : Int) (h : Rd .u64 w v [x]) (h64 : Sm64 [x]) (hx : x32 x = x) (W : World) (hb : Below w.heap.size w W) :
    Calls Try.prog 24 #[.int .i64 32, v] W (PDec W (decV 32 (wrap32 x) 0 0 (wrap64 0) 0 0 0 0)) := by
  obtain ⟨b, off, c, rfl, hc⟩ := rd_slice h (by simp)
  have h0 := hc W hb 0 (by simp)
  simp at h0
  obtain ⟨h1, h2⟩ := h64 x (by simp)
  rw [show wrap64 0 = 0 by unfold wrap64; omega]
  refine decOf_32 W b off c x h0 ?_
  unfold x32 at hx
  rw [u64_wrap_eq] at hx
  simp only [beq_iff_eq]
  unfold wrap64 wrap32 at *
  omega
theorem hd_64 (w : World) (v : Value) (x : Int) (h : Rd .u64 w v [x]) (W : World) (hb : Below w.heap.size w W) :
    Calls Try.prog 24 #[.int .i64 64, v] W (PDec W (decV 64 0 (wrap64 x) 0 (wrap64 0) 0 0 0 0)) := by
  obtain ⟨b, off, c, rfl, hc⟩ := rd_slice h (by simp)
  have h0 := hc W hb 0 (by simp)
  simp at h0
  rw [show wrap64 0 = 0 by unfold wrap64; omega]
  exact decOf_64 W b off c x h0
theorem hd_128 (w : World) (v : Value) (x y : Int) (h : Rd .u64 w v [x, y]) (W : World) (hb : Below w.heap.size w W) :
    Calls Try.prog 24 #[.int .i64 128, v] W (PDec W (decV 128 0 0 x (wrap64 y) 0 0 0 0)) := by
  obtain ⟨b, off, c, rfl, hc⟩ := rd_slice h (by simp)
  have h0 := hc W hb 0 (by simp)
  have h1 := hc W hb 1 (by simp)
  simp at h0 h1
  exact decOf_128 W b off c x y h0 h1
theorem hd_256 (w : World) (v : Value) (x y z u : Int) (h : Rd .u64 w v [x, y, z, u]) (W : World) (hb : Below w.heap.size w W) :
    Calls Try.prog 24 #[.int .i64 256, v] W (PDec W (decV 256 0 0 0 (wrap64 0) x y z u)) := by
  obtain ⟨b, off, c, rfl, hc⟩ := rd_slice h (by simp)
  have h0 := hc W hb 0 (by simp)
  have h1 := hc W hb 1 (by simp)
  have h2 := hc W hb 2 (by simp)
  have h3 := hc W hb 3 (by simp)
  simp at h0 h1 h2 h3
  rw [show wrap64 0 = 0 by unfold wrap64; omega]
  exact decOf_256 W b off c x y z u h0 h1 h2 h3
theorem sm_zero4 : Sm64 [0, 0, 0, 0] := fun x hx => by simp at hx; subst hx; omega
theorem twos_one (z : Int) : twos z 1 = [z % 18446744073709551616] := by simp [twos]
theorem sv_one (x : Int) (h1 : 0 ≤ x) (h2 : x < 18446744073709551616) : sv [x] = wrap64 x := by
  unfold sv uv uv wrap64; simp; split <;> omega
theorem neg_of_32 (w : World) (v : Value) (x : Int) (h : Rd .u64 w v [x]) (h64 : Sm64 [x]) (hx : x32 x = x) :
    Calls Try.prog 6 #[.int .i64 32, .int .i64 0, v] w (PUn w (wrl 32 (-sv [x]))) := by
  obtain ⟨h1, h2⟩ := h64 x (by simp)
  refine decNeg_of w v 32 (wrap32 x) 0 0 0 0 0 0 0 (by omega) (by omega) (by omega) (by omega) sm_zero4 _ (hd_32 w v x h h64 hx) (fun W lo' hi' a' b' c' d' h1' h2' => ?_)
  have := words_32 W (wrap32 (-(wrap32 x))) (wrap64 (-0)) lo' hi' a' b' c' d'
  have he : wrl 32 (-sv [x]) = [IntKind.u64.wrap (wrap64 (wrap32 (-(wrap32 x))))] := by
    unfold wrl; rw [if_pos rfl, twos_one, sv_one x h1 h2]
    unfold x32
    congr 3
    simp
    unfold wrap64 wrap32; omega
  rw [he]; exact this
theorem neg_of_64 (w : World) (v : Value) (x : Int) (h : Rd .u64 w v [x]) (h64 : Sm64 [x]) :
    Calls Try.prog 6 #[.int .i64 64, .int .i64 0, v] w (PUn w (wrl 64 (-sv [x]))) := by
  obtain ⟨h1, h2⟩ := h64 x (by simp)
  refine decNeg_of w v 64 0 (wrap64 x) 0 0 0 0 0 0 (by omega) (by omega) (by omega) (by omega) sm_zero4 _ (hd_64 w v x h) (fun W lo' hi' a' b' c' d' h1' h2' => ?_)
  have := words_64 W (wrap32 (-0)) (wrap64 (-(wrap64 x))) lo' hi' a' b' c' d'
  have he : wrl 64 (-sv [x]) = [IntKind.u64.wrap (wrap64 (-(wrap64 x)))] := by
    unfold wrl; rw [if_neg (by decide), show wN 64 = 1 by decide, twos_one, sv_one x h1 h2, u64_wrap_eq]
    unfold wrap64; congr 1; omega
  rw [he]; exact this
theorem neg_of_128 (w : World) (v : Value) (x y : Int) (h : Rd .u64 w v [x, y]) (h64 : Sm64 [x, y]) :
    Calls Try.prog 6 #[.int .i64 128, .int .i64 0, v] w (PUn w (wrl 128 (-sv [x, y]))) := by
  obtain ⟨h1, h2⟩ := h64 x (by simp)
  obtain ⟨h3, h4⟩ := h64 y (by simp)
  refine decNeg_of w v 128 0 0 x y 0 0 0 0 h1 h2 h3 h4 sm_zero4 _ (hd_128 w v x y h) (fun W lo' hi' a' b' c' d' h1' h2' => ?_)
  have := words_128 W (wrap32 (-0)) (wrap64 (-0)) lo' hi' a' b' c' d'
  have he : wrl 128 (-sv [x, y]) = [lo', IntKind.u64.wrap hi'] := by
    unfold wrl; rw [if_neg (by decide), show wN 128 = 2 by decide, ← h1', negl_sv h64 rfl]; rfl
  rw [he]; exact this
theorem neg_of_256 (w : World) (v : Value) (x y z u : Int) (h : Rd .u64 w v [x, y, z, u]) (h64 : Sm64 [x, y, z, u]) :
    Calls Try.prog 6 #[.int .i64 256, .int .i64 0, v] w (PUn w (wrl 256 (-sv [x, y, z, u]))) := by
  refine decNeg_of w v 256 0 0 0 0 x y z u (by omega) (by omega) (by omega) (by omega) h64 _ (hd_256 w v x y z u h) (fun W lo' hi' a' b' c' d' h1' h2' => ?_)
  have := words_256 W (wrap32 (-0)) (wrap64 (-0)) lo' hi' a' b' c' d'
  have he : wrl 256 (-sv [x, y, z, u]) = [a', b', c', d'] := by
    unfold wrl; rw [if_neg (by decide), show wN 256 = 4 by decide, ← h2', negl_sv h64 rfl]; rfl
  rw [he]; exact this
end Go.Proofs.Ytajjnlneacoooaa
namespace Go.Proofs.Ytajjnlneacoooaa
open Go.RowKit Go.ChangeShapes Go.WideShapes Go.ChangeAt
theorem sv2_neg (x y : Int) (h1 : 0 ≤ x) (h2 : x < 18446744073709551616) (h3 : 0 ≤ y) (h4 : y < 18446744073709551616) : sv [x, y] < 0 ↔ 9223372036854775808 ≤ y := by
  unfold sv uv uv uv; simp; split <;> omega
theorem sv4_neg (x y z u : Int) (h : Sm64 [x, y, z, u]) : sv [x, y, z, u] < 0 ↔ 9223372036854775808 ≤ u := by
  have h1 := h x (by simp)
  have h2 := h y (by simp)
  have h3 := h z (by simp)
  have h4 := h u (by simp)
  unfold sv uv uv uv uv uv; simp; split <;> omega
def absI (z : Int) : Int := if z < 0 then -z else z
theorem abs_of_32 (w : World) (v : Value) (x : Int) (h : Rd .u64 w v [x]) (h64 : Sm64 [x]) (hx : x32 x = x) :
    Calls Try.prog 6 #[.int .i64 32, .int .i64 1, v] w (PUn w (wrl 32 (absI (sv [x])))) := by
  obtain ⟨h1, h2⟩ := h64 x (by simp)
  refine decAbs_of w v 32 (wrap32 x) 0 0 0 0 0 0 0 (by omega) (by omega) (by omega) (by omega) sm_zero4 _ (hd_32 w v x h h64 hx) (fun W lo' hi' a' b' c' d' h1' h2' => ?_)
  have := words_32 W (if wrap32 x < 0 then wrap32 (-(wrap32 x)) else wrap32 x) (if (0 : Int) < 0 then wrap64 (-0) else 0) lo' hi' a' b' c' d'
  have hk : wrap64 x = wrap32 x := by
    unfold x32 at hx; rw [u64_wrap_eq] at hx; unfold wrap64 wrap32 at *; omega
  have he : wrl 32 (absI (sv [x])) = [IntKind.u64.wrap (wrap64 (if wrap32 x < 0 then wrap32 (-(wrap32 x)) else wrap32 x))] := by
    unfold wrl absI; rw [if_pos rfl, twos_one, sv_one x h1 h2, hk]
    unfold x32
    congr 3
    simp
    split
    · unfold wrap32; omega
    · unfold wrap32; omega
  rw [he]; exact this
theorem abs_of_64 (w : World) (v : Value) (x : Int) (h : Rd .u64 w v [x]) (h64 : Sm64 [x]) :
    Calls Try.prog 6 #[.int .i64 64, .int .i64 1, v] w (PUn w (wrl 64 (absI (sv [x])))) := by
  obtain ⟨h1, h2⟩ := h64 x (by simp)
  refine decAbs_of w v 64 0 (wrap64 x) 0 0 0 0 0 0 (by omega) (by omega) (by omega) (by omega) sm_zero4 _ (hd_64 w v x h) (fun W lo' hi' a' b' c' d' h1' h2' => ?_)
  have := words_64 W (if (0 : Int) < 0 then wrap32 (-0) else 0) (if wrap64 x < 0 then wrap64 (-(wrap64 x)) else wrap64 x) lo' hi' a' b' c' d'
  have he : wrl 64 (absI (sv [x])) = [IntKind.u64.wrap (if wrap64 x < 0 then wrap64 (-(wrap64 x)) else wrap64 x)] := by
    unfold wrl absI; rw [if_neg (by decide), show wN 64 = 1 by decide, twos_one, sv_one x h1 h2, u64_wrap_eq]
    congr 1
    split
    · unfold wrap64; omega
    · rfl
  rw [he]; exact this
theorem abs_of_128 (w : World) (v : Value) (x y : Int) (h : Rd .u64 w v [x, y]) (h64 : Sm64 [x, y]) :
    Calls Try.prog 6 #[.int .i64 128, .int .i64 1, v] w (PUn w (wrl 128 (absI (sv [x, y])))) := by
  obtain ⟨h1, h2⟩ := h64 x (by simp)
  obtain ⟨h3, h4⟩ := h64 y (by simp)
  refine decAbs_of w v 128 0 0 x y 0 0 0 0 h1 h2 h3 h4 sm_zero4 _ (hd_128 w v x y h) (fun W lo' hi' a' b' c' d' h1' h2' => ?_)
  have := words_128 W (if (0 : Int) < 0 then wrap32 (-0) else 0) (if (0 : Int) < 0 then wrap64 (-0) else 0) lo' hi' a' b' c' d'
  have he : wrl 128 (absI (sv [x, y])) = [lo', IntKind.u64.wrap hi'] := by
    unfold wrl absI; rw [if_neg (by decide), show wN 128 = 2 by decide, ← h1']
    have hk : wrap64 y < 0 ↔ sv [x, y] < 0 := by rw [sv2_neg x y h1 h2 h3 h4]; unfold wrap64; omega
    by_cases hs : sv [x, y] < 0
    · rw [if_pos hs, if_pos (hk.2 hs), negl_sv h64 rfl]; rfl
    · rw [if_neg hs, if_neg (fun hh => hs (hk.1 hh))]; exact (twos_sv h64 rfl).symm
  rw [he]; exact this
theorem abs_of_256 (w : World) (v : Value) (x y z u : Int) (h : Rd .u64 w v [x, y, z, u]) (h64 : Sm64 [x, y, z, u]) :
    Calls Try.prog 6 #[.int .i64 256, .int .i64 1, v] w (PUn w (wrl 256 (absI (sv [x, y, z, u])))) := by
  refine decAbs_of w v 256 0 0 0 0 x y z u (by omega) (by omega) (by omega) (by omega) h64 _ (hd_256 w v x y z u h) (fun W lo' hi' a' b' c' d' h1' h2' => ?_)
  have := words_256 W (if (0 : Int) < 0 then wrap32 (-0) else 0) (if (0 : Int) < 0 then wrap64 (-0) else 0) lo' hi' a' b' c' d'
  have he : wrl 256 (absI (sv [x, y, z, u])) = [a', b', c', d'] := by
    unfold wrl absI; rw [if_neg (by decide), show wN 256 = 4 by decide, ← h2']
    have hk := sv4_neg x y z u h64
    by_cases hs : sv [x, y, z, u] < 0
    · rw [if_pos hs, if_pos (hk.1 hs), negl_sv h64 rfl]; rfl
    · rw [if_neg hs, if_neg (fun hh => hs (hk.2 hh))]; exact (twos_sv h64 rfl).symm
  rw [he]; exact this
def opI (op z : Int) : Int := if op = 0 then -z else absI z
/-- DecUnary, of words that are a decimal. -/
theorem decUnary_any (w : World) (v : Value) (width op : Int) (l : List Int) (h : Rd .u64 w v l) (h64 : Sm64 l) (hg : good width l = true) (hop : op = 0 ∨ op = 1) :
    Calls Try.prog 6 #[.int .i64 width, .int .i64 op, v] w (PUn w (wrl width (opI op (sv l)))) := by
  unfold good at hg
  simp only [Bool.and_eq_true, decide_eq_true_eq] at hg
  obtain ⟨⟨hI, hn⟩, hx⟩ := hg
  unfold wIs at hI
  simp only [decide_eq_true_eq] at hI
  have hone : ∀ {k : Nat}, l.length = k + 1 → ∃ x t, l = x :: t ∧ t.length = k := fun {k} hk => by
    cases l with
    | nil => cases hk
    | cons x t => exact ⟨x, t, rfl, by simpa using hk⟩
  rcases hI with rfl | rfl | rfl | rfl
  · obtain ⟨x, rfl⟩ := List.length_eq_one_iff.1 (by rw [hn]; decide)
    have hx' : x32 x = x := by simp at hx; exact hx
    rcases hop with rfl | rfl
    · exact neg_of_32 w v x h h64 hx'
    · exact abs_of_32 w v x h h64 hx'
  · obtain ⟨x, rfl⟩ := List.length_eq_one_iff.1 (by rw [hn]; decide)
    rcases hop with rfl | rfl
    · exact neg_of_64 w v x h h64
    · exact abs_of_64 w v x h h64
  · match l, hn, h, h64 with
    | [x, y], _, h, h64 =>
      rcases hop with rfl | rfl
      · exact neg_of_128 w v x y h h64
      · exact abs_of_128 w v x y h h64
  · match l, hn, h, h64 with
    | [x, y, z, u], _, h, h64 =>
      rcases hop with rfl | rfl
      · exact neg_of_256 w v x y z u h h64
      · exact abs_of_256 w v x y z u h h64
end Go.Proofs.Ytajjnlneacoooaa
namespace Go.Proofs.Ytajjnlneacoooaa
open Go.RowKit Go.ChangeShapes Go.WideShapes Go.ChangeAt
attribute [local go_sem ↓] Go.wp_at_zero Go.wp_at_succ
def mx : List Int := [18446744073709551615, 18446744073709551615]
def PRd (w : World) (l : List Int) (e : Ending) (w' : World) : Prop := ∃ x, e = .returned x ∧ Rd .u64 w' x l ∧ Below w.heap.size w w'
theorem unit_any (w : World) : Calls Try.prog 7 #[] w (PRd w [1, 0]) := by
  have hF := hide (fun (W : World) (hb : Below w.heap.size w W) => (show PRd w [1, 0] (.returned (.slice (some ⟨W.heap.size, 0, none⟩) 2 2)) (W.alloc (.cells #[.int .u64 1, .int .u64 0] 27)) from
    ⟨_, rfl, (blk_rd (Blk.new (w := W) (g := W.heap.size) 27 (ivs .u64 [1, 0]).toArray rfl) (by simp)).1, hb.alloc hb.size _⟩))
  go_enter Try.func7, Try.ntmps7
  go_wp2
  go_returns
  exact (unhide hF) _ (Below.refl _ _)
theorem unary_awake (w : World) (v : Value) (h : Rd .u64 w v [1, 0]) : Calls Try.prog 6 #[.int .i64 128, .int .i64 0, v] w (PUn w mx) := by
  have := decUnary_any w v 128 0 [1, 0] h (fun x hx => by simp at hx; omega) (by decide) (.inl rfl)
  have he : wrl 128 (opI 0 (sv [1, 0])) = mx := by decide
  rwa [he] at this
set_option maxRecDepth 100000 in
set_option maxHeartbeats 4000000 in
theorem law_big (w : World) (A : Option Addr) (n c : Nat) (width op : Int) (hn : n ≤ maxLen) (h : 2147483647 < n) :
    Calls Try.prog 3 #[.int .i64 width, .int .i64 op, .slice A n c] w fun e w' => e = .returned (.bool true) ∧ Below w.heap.size w w' := by
  have hm : maxLen = 9223372036854775807 := by decide
  go_enter Try.func3, Try.ntmps3
  go_wp2_with fail
  all_goals first | (go_ret; exact ⟨rfl, Below.refl _ _⟩) | (exfalso; simp at *; omega)
theorem rd_mx (w : World) : Rd .u64 (w.alloc (.cells #[.int .u64 18446744073709551615, .int .u64 18446744073709551615] 27)) (.slice (some ⟨w.heap.size, 0, none⟩) 2 2) mx :=
  (blk_rd (Blk.new (w := w) (g := w.heap.size) 27 (ivs .u64 mx).toArray rfl) (by simp [mx])).1
theorem same_mx (w : World) (m : Value) (hm : Rd .u64 w m mx) : Calls Try.prog 8 #[m, .slice (some ⟨w.heap.size, 0, none⟩) 2 2] (w.alloc (.cells #[.int .u64 18446744073709551615, .int .u64 18446744073709551615] 27)) fun e w' => e = .returned (.bool true) ∧ Below w.heap.size w w' := by
  refine (sameWords_any _ _ _ _ _ (hm.below ((Below.refl _ _).alloc (Nat.le_refl _) _)) (rd_mx w)).mono ?_
  rintro e w' ⟨rfl, hb⟩
  exact ⟨by simp, below_tr ((Below.refl w.heap.size w).alloc (Nat.le_refl _) _) hb (by simp)⟩
def POut (w : World) (e : Ending) (w' : World) : Prop := e = .returned (.bool true) ∧ Below w.heap.size w w'
theorem pout_mk {w w' : World} (h : Below w.heap.size w w') : POut w (.returned (.bool true)) w' := ⟨rfl, h⟩
theorem pout_box {w w4 : World} (h : Below w.heap.size w w4) (o : Obj) : POut w (.returned (.bool true)) (w4.alloc o) := ⟨rfl, h.alloc h.size _⟩
set_option maxRecDepth 100000 in
set_option maxHeartbeats 4000000 in
theorem law_bad (w : World) (A : Option Addr) (c : Nat) (width op : Int) (l : List Int) (h : Rd .u64 w (.slice A l.length c) l) (h64 : Sm64 l) (hg : good width l = false) :
    Calls Try.prog 3 #[.int .i64 width, .int .i64 op, .slice A l.length c] w (POut w) := by
  have hD := hide (fun (W : World) (hb : Below w.heap.size w W) => decimal_any W _ width l (h.below hb) h64)
  unfold PDc at hD
  rw [hg] at hD
  have hml : l.length ≤ 1000000 := by obtain ⟨_, _, _, _, _, h⟩ := h; exact h
  have hP := hide (fun (w4 : World) (hb : Below w.heap.size w w4) o => pout_box hb o)
  clear h h64 hg
  go_enter Try.func3, Try.ntmps3
  go_wp2_with (first
    | (go_at_call 7; (with_reducible refine (unit_any _).mono ?_); rintro e w1 ⟨u, rfl, hu, hb1⟩)
    | (go_at_call 6; (with_reducible refine (unary_awake _ _ hu).mono ?_); rintro e w2 ⟨m, rfl, hm, hb2⟩; have hB2 := below_tr hb1 hb2 hb1.size)
    | (go_at_call 8; (with_reducible refine (same_mx _ _ hm).mono ?_); rintro e w3 ⟨rfl, hb3⟩; have hB3 := below_tr hB2 hb3 hB2.size)
    | (go_at_call 9; (with_reducible refine ((unhide hD) _ hB3).mono ?_); rintro e w4 ⟨s, A4, n4, c4, rfl, hx, hb4⟩; have hB4 := below_tr hB3 hb4 hB3.size))
  all_goals first | (go_ret; exact (unhide hP) _ hB4 _) | (exfalso; simp at *; omega)
set_option maxRecDepth 100000 in
set_option maxHeartbeats 4000000 in
theorem law_op (w : World) (A : Option Addr) (c : Nat) (width op : Int) (l : List Int) (h : Rd .u64 w (.slice A l.length c) l) (h64 : Sm64 l) (hg : good width l = true) (hop : op < 0 ∨ 1 < op) :
    Calls Try.prog 3 #[.int .i64 width, .int .i64 op, .slice A l.length c] w (POut w) := by
  have hD := hide (fun (W : World) (hb : Below w.heap.size w W) => decimal_any W _ width l (h.below hb) h64)
  unfold PDc at hD
  rw [hg] at hD
  have hml : l.length ≤ 1000000 := by obtain ⟨_, _, _, _, _, h⟩ := h; exact h
  have hP := hide (fun (w4 : World) (hb : Below w.heap.size w w4) o => pout_box hb o)
  clear h h64 hg
  rcases hop with hop | hop
  all_goals
    go_enter Try.func3, Try.ntmps3
    go_wp2_with (first
      | (go_at_call 7; (with_reducible refine (unit_any _).mono ?_); rintro e w1 ⟨u, rfl, hu, hb1⟩)
      | (go_at_call 6; (with_reducible refine (unary_awake _ _ hu).mono ?_); rintro e w2 ⟨m, rfl, hm, hb2⟩; have hB2 := below_tr hb1 hb2 hb1.size)
      | (go_at_call 8; (with_reducible refine (same_mx _ _ hm).mono ?_); rintro e w3 ⟨rfl, hb3⟩; have hB3 := below_tr hB2 hb3 hB2.size)
      | (go_at_call 9; (with_reducible refine ((unhide hD) _ hB3).mono ?_); rintro e w4 ⟨s, A4, n4, c4, rfl, hx, hb4⟩; have hB4 := below_tr hB3 hb4 hB3.size))
    all_goals first | (go_ret; exact (unhide hP) _ hB4 _) | (exfalso; simp at *; omega)
set_option maxRecDepth 100000 in
set_option maxHeartbeats 4000000 in
theorem law_least (w : World) (A : Option Addr) (c : Nat) (width op : Int) (l : List Int) (h : Rd .u64 w (.slice A l.length c) l) (h64 : Sm64 l) (hg : good width l = true) (hop : op = 0 ∨ op = 1)
    (hL : ∀ (W : World) (x : Value), Wd W x (sv l) → Calls Try.prog 10 #[.int .i64 width, x] W fun e w' => e = .returned (.bool true) ∧ Below W.heap.size W w') :
    Calls Try.prog 3 #[.int .i64 width, .int .i64 op, .slice A l.length c] w (POut w) := by
  have hD := hide (fun (W : World) (hb : Below w.heap.size w W) => decimal_any W _ width l (h.below hb) h64)
  unfold PDc at hD
  rw [hg] at hD
  have hLL := hide hL
  have hml : l.length ≤ 1000000 := by obtain ⟨_, _, _, _, _, h⟩ := h; exact h
  clear h h64 hg hL
  rcases hop with rfl | rfl
  all_goals
    go_enter Try.func3, Try.ntmps3
    go_wp2_with (first
      | (go_at_call 7; (with_reducible refine (unit_any _).mono ?_); rintro e w1 ⟨u, rfl, hu, hb1⟩)
      | (go_at_call 6; (with_reducible refine (unary_awake _ _ hu).mono ?_); rintro e w2 ⟨m, rfl, hm, hb2⟩; have hB2 := below_tr hb1 hb2 hb1.size)
      | (go_at_call 8; (with_reducible refine (same_mx _ _ hm).mono ?_); rintro e w3 ⟨rfl, hb3⟩; have hB3 := below_tr hB2 hb3 hB2.size)
      | (go_at_call 9; (with_reducible refine ((unhide hD) _ hB3).mono ?_); rintro e w4 ⟨s, A4, n4, c4, rfl, hx, hb4⟩; have hB4 := below_tr hB3 hb4 hB3.size; have kb := Blk.new (w := w4) (g := w4.heap.size) 30 #[.bool s, .slice A4 n4 c4] rfl; obtain ⟨q0, q1, q2, q3, _⟩ := blk_facts kb; have hx5 := (hx (by first | rfl | trivial)).below ((Below.refl w4.heap.size w4).alloc (Nat.le_refl _) (.cells #[.bool s, .slice A4 n4 c4] 30)); have hB5 := hB4.alloc hB4.size (.cells #[.bool s, .slice A4 n4 c4] 30))
      | (go_at_call 10; (with_reducible refine ((unhide hLL) _ _ hx5).mono ?_); rintro e w6 ⟨rfl, hb6⟩; have hB6 := below_tr hB5 hb6 hB5.size))
    all_goals first | (go_ret; exact pout_mk hB6) | (exfalso; simp at *; omega)
end Go.Proofs.Ytajjnlneacoooaa
namespace Go.Proofs.Ytajjnlneacoooaa
open Go.RowKit Go.ChangeShapes Go.WideShapes Go.ChangeAt
attribute [local go_sem ↓] Go.wp_at_zero Go.wp_at_succ
def PW2 (w : World) (l : List Int) (e : Ending) (w' : World) : Prop := ∃ x b, e = .returned (.tuple #[x, .bool b]) ∧ Rd .u64 w' x l ∧ Below w.heap.size w w'
theorem same_any (w : World) (u v : Value) (a : List Int) (hu : Rd .u64 w u a) (hv : Rd .u64 w v a) : Calls Try.prog 8 #[u, v] w fun e w' => e = .returned (.bool true) ∧ Below w.heap.size w w' := by
  refine (sameWords_any w u v a a hu hv).mono ?_
  rintro e w' ⟨rfl, hb⟩
  exact ⟨by simp, hb⟩
set_option maxRecDepth 100000 in
set_option maxHeartbeats 8000000 in
theorem law_neg (w : World) (A : Option Addr) (c : Nat) (width : Int) (l R : List Int) (h : Rd .u64 w (.slice A l.length c) l) (h64 : Sm64 l) (hg : good width l = true)
    (hL : ∀ (W : World) (x : Value), Wd W x (sv l) → Calls Try.prog 10 #[.int .i64 width, x] W fun e w' => e = .returned (.bool false) ∧ Below W.heap.size W w')
    (hWr : ∀ (W : World) (x : Value), Wd W x (-sv l) → Calls Try.prog 13 #[.int .i64 width, x] W (PW2 W R))
    (hU : ∀ (W : World), Below w.heap.size w W → Calls Try.prog 6 #[.int .i64 width, .int .i64 0, .slice A l.length c] W (PUn W R)) :
    Calls Try.prog 3 #[.int .i64 width, .int .i64 0, .slice A l.length c] w (POut w) := by
  have hD := hide (fun (W : World) (hb : Below w.heap.size w W) => decimal_any W _ width l (h.below hb) h64)
  unfold PDc at hD
  rw [hg] at hD
  have hLL := hide hL
  have hWW := hide hWr
  have hUU := hide hU
  have hml : l.length ≤ 1000000 := by obtain ⟨_, _, _, _, _, h⟩ := h; exact h
  clear h h64 hg hL hWr hU
  go_enter Try.func3, Try.ntmps3
  go_wp2_with (first
    | (go_at_call 7; (with_reducible refine (unit_any _).mono ?_); rintro e w1 ⟨u, rfl, hu, hb1⟩)
    | (go_at_call 9; (with_reducible refine ((unhide hD) _ hB3).mono ?_); rintro e w4 ⟨s, A4, n4, c4, rfl, hx, hb4⟩; have hB4 := below_tr hB3 hb4 hB3.size; have kb := Blk.new (w := w4) (g := w4.heap.size) 30 #[.bool s, .slice A4 n4 c4] rfl; have hx5 := (hx (by first | rfl | trivial)).below ((Below.refl w4.heap.size w4).alloc (Nat.le_refl _) (.cells #[.bool s, .slice A4 n4 c4] 30)); have hB5 := hB4.alloc hB4.size (.cells #[.bool s, .slice A4 n4 c4] 30))
    | (go_at_call 10; (with_reducible refine ((unhide hLL) _ _ hx5).mono ?_); rintro e w6 ⟨rfl, hb6⟩; have hB6 := below_tr hB5 hb6 hB5.size; have hx6 := hx5.below hb6; have k6 := kb.below hb6; obtain ⟨q0, q1, q2, q3, _⟩ := blk_facts k6)
    | (go_at_call 12; (with_reducible refine (Negated_any _ _ _ hx6).mono ?_); rintro e w8 ⟨y, rfl, hy, hb8⟩; have hB8 := below_tr hB6 hb8 hB6.size; have k8 := k6.below hb8; obtain ⟨s8, A8, n8, c8, rfl⟩ := hy.form; obtain ⟨r0, r1, r2, r3, _⟩ := blk_facts k8; have z0 := fun x y => (blk_twoM k8 x y).1; have z1 := fun x y => (blk_twoM k8 x y).2.1; have z2 := fun x y => (blk_twoM k8 x y).2.2; have hy9 := (hy.far k8.tyb (by decide) 0 (.bool s8)).far (k8.tyb.set _ _ _) (by decide) 1 (.slice A8 n8 c8); have hB9 := (hB8.setCell (show w.heap.size ≤ (⟨w4.heap.size, 0, none⟩ : Addr).block from hB4.size) (.bool s8)).setCell (show w.heap.size ≤ (⟨w4.heap.size, 1, none⟩ : Addr).block from hB4.size) (.slice A8 n8 c8))
    | (go_at_call 13; (with_reducible refine ((unhide hWW) _ _ hy9).mono ?_); rintro e w10 ⟨du, b10, rfl, hdu, hb10⟩; have hB10 := below_tr hB9 hb10 hB9.size)
    | (go_at_call 6; (with_reducible refine ((unhide hUU) _ hB10).mono ?_); rintro e w11 ⟨gt, rfl, hgt, hb11⟩; have hB11 := below_tr hB10 hb11 hB10.size; have hdu11 := hdu.below hb11)
    | (go_at_call 6; (with_reducible refine (unary_awake _ _ hu).mono ?_); rintro e w2 ⟨m, rfl, hm, hb2⟩; have hB2 := below_tr hb1 hb2 hb1.size)
    | (go_at_call 8; (with_reducible refine (same_any _ _ _ _ hgt hdu11).mono ?_); rintro e w12 ⟨rfl, hb12⟩; have hB12 := below_tr hB11 hb12 hB11.size)
    | (go_at_call 8; (with_reducible refine (same_mx _ _ hm).mono ?_); rintro e w3 ⟨rfl, hb3⟩; have hB3 := below_tr hB2 hb3 hB2.size))
  all_goals first | (go_ret; exact pout_mk hB12) | (exfalso; simp at *; omega)
set_option maxRecDepth 100000 in
set_option maxHeartbeats 8000000 in
theorem law_abs_neg (w : World) (A : Option Addr) (c : Nat) (width : Int) (l R : List Int) (h : Rd .u64 w (.slice A l.length c) l) (h64 : Sm64 l) (hg : good width l = true)
    (hL : ∀ (W : World) (x : Value), Wd W x (sv l) → Calls Try.prog 10 #[.int .i64 width, x] W fun e w' => e = .returned (.bool false) ∧ Below W.heap.size W w')
    (k : Int) (hk : k < 0) (hS : ∀ (W : World) (x : Value), Wd W x (sv l) → Calls Try.prog 11 #[x] W fun e w' => e = .returned (.int .i64 k) ∧ Below W.heap.size W w')
    (hWr : ∀ (W : World) (x : Value), Wd W x (-sv l) → Calls Try.prog 13 #[.int .i64 width, x] W (PW2 W R))
    (hU : ∀ (W : World), Below w.heap.size w W → Calls Try.prog 6 #[.int .i64 width, .int .i64 1, .slice A l.length c] W (PUn W R)) :
    Calls Try.prog 3 #[.int .i64 width, .int .i64 1, .slice A l.length c] w (POut w) := by
  have hD := hide (fun (W : World) (hb : Below w.heap.size w W) => decimal_any W _ width l (h.below hb) h64)
  unfold PDc at hD
  rw [hg] at hD
  have hLL := hide hL
  have hWW := hide hWr
  have hUU := hide hU
  have hSS := hide hS
  have hml : l.length ≤ 1000000 := by obtain ⟨_, _, _, _, _, h⟩ := h; exact h
  clear h h64 hg hL hWr hU hS
  go_enter Try.func3, Try.ntmps3
  go_wp2_with (first
    | (go_at_call 7; (with_reducible refine (unit_any _).mono ?_); rintro e w1 ⟨u, rfl, hu, hb1⟩)
    | (go_at_call 9; (with_reducible refine ((unhide hD) _ hB3).mono ?_); rintro e w4 ⟨s, A4, n4, c4, rfl, hx, hb4⟩; have hB4 := below_tr hB3 hb4 hB3.size; have kb := Blk.new (w := w4) (g := w4.heap.size) 30 #[.bool s, .slice A4 n4 c4] rfl; have hx5 := (hx (by first | rfl | trivial)).below ((Below.refl w4.heap.size w4).alloc (Nat.le_refl _) (.cells #[.bool s, .slice A4 n4 c4] 30)); have hB5 := hB4.alloc hB4.size (.cells #[.bool s, .slice A4 n4 c4] 30))
    | (go_at_call 10; (with_reducible refine ((unhide hLL) _ _ hx5).mono ?_); rintro e w6 ⟨rfl, hb6⟩; have hB6 := below_tr hB5 hb6 hB5.size; have hx6 := hx5.below hb6; have k6 := kb.below hb6; obtain ⟨q0, q1, q2, q3, _⟩ := blk_facts k6)
    | (go_at_call 11; (with_reducible refine ((unhide hSS) _ _ hx6).mono ?_); rintro e w7 ⟨rfl, hb7⟩; have hB7 := below_tr hB6 hb7 hB6.size; have hx7 := hx6.below hb7; have k7 := k6.below hb7; obtain ⟨p0, p1, p2, p3, _⟩ := blk_facts k7)
    | (go_at_call 12; (with_reducible refine (Negated_any _ _ _ hx7).mono ?_); rintro e w8 ⟨y, rfl, hy, hb8⟩; have hB8 := below_tr hB7 hb8 hB7.size; have k8 := k7.below hb8; obtain ⟨s8, A8, n8, c8, rfl⟩ := hy.form; obtain ⟨r0, r1, r2, r3, _⟩ := blk_facts k8; have z0 := fun x y => (blk_twoM k8 x y).1; have z1 := fun x y => (blk_twoM k8 x y).2.1; have z2 := fun x y => (blk_twoM k8 x y).2.2; have hy9 := (hy.far k8.tyb (by decide) 0 (.bool s8)).far (k8.tyb.set _ _ _) (by decide) 1 (.slice A8 n8 c8); have hB9 := (hB8.setCell (show w.heap.size ≤ (⟨w4.heap.size, 0, none⟩ : Addr).block from hB4.size) (.bool s8)).setCell (show w.heap.size ≤ (⟨w4.heap.size, 1, none⟩ : Addr).block from hB4.size) (.slice A8 n8 c8))
    | (go_at_call 13; (with_reducible refine ((unhide hWW) _ _ hy9).mono ?_); rintro e w10 ⟨du, b10, rfl, hdu, hb10⟩; have hB10 := below_tr hB9 hb10 hB9.size)
    | (go_at_call 6; (with_reducible refine ((unhide hUU) _ hB10).mono ?_); rintro e w11 ⟨gt, rfl, hgt, hb11⟩; have hB11 := below_tr hB10 hb11 hB10.size; have hdu11 := hdu.below hb11)
    | (go_at_call 6; (with_reducible refine (unary_awake _ _ hu).mono ?_); rintro e w2 ⟨m, rfl, hm, hb2⟩; have hB2 := below_tr hb1 hb2 hb1.size)
    | (go_at_call 8; (with_reducible refine (same_any _ _ _ _ hgt hdu11).mono ?_); rintro e w12 ⟨rfl, hb12⟩; have hB12 := below_tr hB11 hb12 hB11.size)
    | (go_at_call 8; (with_reducible refine (same_mx _ _ hm).mono ?_); rintro e w3 ⟨rfl, hb3⟩; have hB3 := below_tr hB2 hb3 hB2.size))
  all_goals first | (go_ret; exact pout_mk hB12) | (exfalso; simp at *; omega)
set_option maxRecDepth 100000 in
set_option maxHeartbeats 8000000 in
theorem law_abs_pos (w : World) (A : Option Addr) (c : Nat) (width : Int) (l R : List Int) (h : Rd .u64 w (.slice A l.length c) l) (h64 : Sm64 l) (hg : good width l = true)
    (hL : ∀ (W : World) (x : Value), Wd W x (sv l) → Calls Try.prog 10 #[.int .i64 width, x] W fun e w' => e = .returned (.bool false) ∧ Below W.heap.size W w')
    (k : Int) (hk : ¬ k < 0) (hS : ∀ (W : World) (x : Value), Wd W x (sv l) → Calls Try.prog 11 #[x] W fun e w' => e = .returned (.int .i64 k) ∧ Below W.heap.size W w')
    (hWr : ∀ (W : World) (x : Value), Wd W x (sv l) → Calls Try.prog 13 #[.int .i64 width, x] W (PW2 W R))
    (hU : ∀ (W : World), Below w.heap.size w W → Calls Try.prog 6 #[.int .i64 width, .int .i64 1, .slice A l.length c] W (PUn W R)) :
    Calls Try.prog 3 #[.int .i64 width, .int .i64 1, .slice A l.length c] w (POut w) := by
  have hD := hide (fun (W : World) (hb : Below w.heap.size w W) => decimal_any W _ width l (h.below hb) h64)
  unfold PDc at hD
  rw [hg] at hD
  have hLL := hide hL
  have hWW := hide hWr
  have hUU := hide hU
  have hSS := hide hS
  have hml : l.length ≤ 1000000 := by obtain ⟨_, _, _, _, _, h⟩ := h; exact h
  clear h h64 hg hL hWr hU hS
  go_enter Try.func3, Try.ntmps3
  go_wp2_with (first
    | (go_at_call 7; (with_reducible refine (unit_any _).mono ?_); rintro e w1 ⟨u, rfl, hu, hb1⟩)
    | (go_at_call 9; (with_reducible refine ((unhide hD) _ hB3).mono ?_); rintro e w4 ⟨s, A4, n4, c4, rfl, hx, hb4⟩; have hB4 := below_tr hB3 hb4 hB3.size; have kb := Blk.new (w := w4) (g := w4.heap.size) 30 #[.bool s, .slice A4 n4 c4] rfl; have hx5 := (hx (by first | rfl | trivial)).below ((Below.refl w4.heap.size w4).alloc (Nat.le_refl _) (.cells #[.bool s, .slice A4 n4 c4] 30)); have hB5 := hB4.alloc hB4.size (.cells #[.bool s, .slice A4 n4 c4] 30))
    | (go_at_call 10; (with_reducible refine ((unhide hLL) _ _ hx5).mono ?_); rintro e w6 ⟨rfl, hb6⟩; have hB6 := below_tr hB5 hb6 hB5.size; have hx6 := hx5.below hb6; have k6 := kb.below hb6; obtain ⟨q0, q1, q2, q3, _⟩ := blk_facts k6)
    | (go_at_call 11; (with_reducible refine ((unhide hSS) _ _ hx6).mono ?_); rintro e w7 ⟨rfl, hb7⟩; have hB7 := below_tr hB6 hb7 hB6.size; have hx7 := hx6.below hb7; have k7 := k6.below hb7; obtain ⟨p0, p1, p2, p3, _⟩ := blk_facts k7)
    | (go_at_call 13; (with_reducible refine ((unhide hWW) _ _ hx7).mono ?_); rintro e w10 ⟨du, b10, rfl, hdu, hb10⟩; have hB10 := below_tr hB7 hb10 hB7.size)
    | (go_at_call 6; (with_reducible refine ((unhide hUU) _ hB10).mono ?_); rintro e w11 ⟨gt, rfl, hgt, hb11⟩; have hB11 := below_tr hB10 hb11 hB10.size; have hdu11 := hdu.below hb11)
    | (go_at_call 6; (with_reducible refine (unary_awake _ _ hu).mono ?_); rintro e w2 ⟨m, rfl, hm, hb2⟩; have hB2 := below_tr hb1 hb2 hb1.size)
    | (go_at_call 8; (with_reducible refine (same_any _ _ _ _ hgt hdu11).mono ?_); rintro e w12 ⟨rfl, hb12⟩; have hB12 := below_tr hB11 hb12 hB11.size)
    | (go_at_call 8; (with_reducible refine (same_mx _ _ hm).mono ?_); rintro e w3 ⟨rfl, hb3⟩; have hB3 := below_tr hB2 hb3 hB2.size))
  all_goals first | (go_ret; exact pout_mk hB12) | (exfalso; simp at *; omega)
end Go.Proofs.Ytajjnlneacoooaa
namespace Go.Proofs.Ytajjnlneacoooaa
open Go.RowKit Go.ChangeShapes Go.WideShapes Go.ChangeAt
attribute [local go_sem ↓] Go.wp_at_zero Go.wp_at_succ
set_option maxRecDepth 100000 in
set_option maxHeartbeats 4000000 in
theorem law_long (w : World) (A : Option Addr) (n c : Nat) (width op : Int) (hn : n ≤ 2147483647)
    (hD0 : ∀ W : World, Calls Try.prog 9 #[.int .i64 width, .slice A n c] W fun e w' => ∃ s A n c, e = .returned (.tuple #[.agg #[.bool s, .slice A n c], .bool false]) ∧ Below W.heap.size W w') :
    Calls Try.prog 3 #[.int .i64 width, .int .i64 op, .slice A n c] w (POut w) := by
  have hD := hide hD0
  have hP := hide (fun (w4 : World) (hb : Below w.heap.size w w4) o => pout_box hb o)
  clear hD0
  go_enter Try.func3, Try.ntmps3
  go_wp2_with (first
    | (go_at_call 7; (with_reducible refine (unit_any _).mono ?_); rintro e w1 ⟨u, rfl, hu, hb1⟩)
    | (go_at_call 6; (with_reducible refine (unary_awake _ _ hu).mono ?_); rintro e w2 ⟨m, rfl, hm, hb2⟩; have hB2 := below_tr hb1 hb2 hb1.size)
    | (go_at_call 8; (with_reducible refine (same_mx _ _ hm).mono ?_); rintro e w3 ⟨rfl, hb3⟩; have hB3 := below_tr hB2 hb3 hB2.size)
    | (go_at_call 9; (with_reducible refine ((unhide hD) _).mono ?_); rintro e w4 ⟨s, A4, n4, c4, rfl, hb4⟩; have hB4 := below_tr hB3 hb4 hB3.size))
  all_goals first | (go_ret; exact (unhide hP) _ hB4 _) | (exfalso; simp at *; omega)
theorem pw2_of {w : World} {width z : Int} {v : Value} (h : Wd w v z) (hI : wIs width = true) : Calls Try.prog 13 #[.int .i64 width, v] w (PW2 w (wrl width z)) :=
  (wrapped_any w v z width h hI).mono fun e w' ⟨x, he, hr, hb⟩ => ⟨x, _, he, hr, hb⟩
theorem least_w (width : Int) (hI : wIs width = true) : ∃ f : Int → Bool, ∀ (W : World) (x : Value) (z : Int), Wd W x z → Calls Try.prog 10 #[.int .i64 width, x] W fun e w' => e = .returned (.bool (f z)) ∧ Below W.heap.size W w' := by
  unfold wIs at hI
  simp only [decide_eq_true_eq] at hI
  rcases hI with rfl | rfl | rfl | rfl
  · exact ⟨_, fun W x z h => least_any W x z 32 0 h rfl (by omega)⟩
  · exact ⟨_, fun W x z h => least_any W x z 64 1 h rfl (by omega)⟩
  · exact ⟨_, fun W x z h => least_any W x z 128 3 h rfl (by omega)⟩
  · exact ⟨_, fun W x z h => least_any W x z 256 7 h rfl (by omega)⟩
theorem law_short (w : World) (A : Option Addr) (c : Nat) (width op : Int) (l : List Int) (h : Rd .u64 w (.slice A l.length c) l) (h64 : Sm64 l) :
    Calls Try.prog 3 #[.int .i64 width, .int .i64 op, .slice A l.length c] w (POut w) := by
  by_cases hg : good width l = true
  · have hI : wIs width = true := by
      unfold good at hg; simp only [Bool.and_eq_true] at hg; exact hg.1.1
    by_cases hop : op = 0 ∨ op = 1
    · obtain ⟨f, hf⟩ := least_w width hI
      cases hfz : f (sv l) with
      | true => exact law_least w A c width op l h h64 hg hop (fun W x hx => by have := hf W x _ hx; rwa [hfz] at this)
      | false =>
        have hL : ∀ (W : World) (x : Value), Wd W x (sv l) → Calls Try.prog 10 #[.int .i64 width, x] W fun e w' => e = .returned (.bool false) ∧ Below W.heap.size W w' := fun W x hx => by have := hf W x _ hx; rwa [hfz] at this
        have hU := fun (W : World) (hb : Below w.heap.size w W) => decUnary_any W _ width op l (h.below hb) h64 hg hop
        rcases hop with rfl | rfl
        · exact law_neg w A c width l _ h h64 hg hL (fun W x hx => pw2_of hx hI) hU
        · by_cases hz : sv l < 0
          · refine law_abs_neg w A c width l _ h h64 hg hL (sgn (sv l)) (by unfold sgn; rw [if_pos hz]; decide) (fun W x hx => Sign_any W x _ hx) (fun W x hx => pw2_of hx hI) ?_
            rw [show opI 1 (sv l) = -sv l by unfold opI absI; rw [if_neg (by decide), if_pos hz]] at hU
            exact hU
          · refine law_abs_pos w A c width l _ h h64 hg hL (sgn (sv l)) (by unfold sgn; rw [if_neg hz]; split <;> omega) (fun W x hx => Sign_any W x _ hx) (fun W x hx => pw2_of hx hI) ?_
            rw [show opI 1 (sv l) = sv l by unfold opI absI; rw [if_neg (by decide), if_neg hz]] at hU
            exact hU
    · exact law_op w A c width op l h h64 hg (by omega)
  · exact law_bad w A c width op l h h64 (by simpa using hg)
theorem law3_any (w : World) (A : Option Addr) (c : Nat) (width op : Int) (l : List Int) (hc : l.length ≤ c) (h : Sl w w.heap.size A l.length (ivs .u64 l)) (h64 : Sm64 l) (hn : l.length ≤ maxLen) :
    Calls Try.prog 3 #[.int .i64 width, .int .i64 op, .slice A l.length c] w (POut w) := by
  by_cases h1 : l.length ≤ 1000000
  · exact law_short w A c width op l ⟨A, c, rfl, hc, h, h1⟩ h64
  · by_cases h2 : l.length ≤ 2147483647
    · have hw : l.length ≠ wN width := by unfold wN; split <;> (try split) <;> (try split) <;> omega
      have hg : good width l = false := by unfold good; simp [hw]
      refine law_long w A _ c width op h2 (fun W => ?_)
      cases hI : wIs width with
      | true => exact (decimal_bad2 W A c width l hI hw).mono fun e w' ⟨s, A', n', c', he, _, hb⟩ => ⟨s, A', n', c', by rw [he, hg], hb⟩
      | false => exact (decimal_bad1 W A _ c width l hI).mono fun e w' ⟨s, A', n', c', he, _, hb⟩ => ⟨s, A', n', c', by rw [he, hg], hb⟩
    · exact law_big w A _ c width op hn (by omega)
end Go.Proofs.Ytajjnlneacoooaa
namespace Go.Proofs.Ytajjnlneacoooaa
open Go.ChangeShapes Go.WideShapes Go.ChangeAt Go.RowKit
theorem u64_of_wf {z : Int} (h : (Lit.int .u64 z).wf = true) : 0 ≤ z ∧ z < 18446744073709551616 := by
  simp [Lit.wf, IntKind.min, IntKind.max, IntKind.signed, IntKind.bits] at h
  omega
section
variable {H : Type} {enc : TypeId × Value → H} {P : Program} {w : World} {base : Nat} {held : Bool}
theorem open_u64 {t e : TypeId} {v : Value} {d : DataW H} {p : List MemPlace} (ht : P.underlying t = some (.slice e)) (he : P.underlying e = some (.int .u64)) (hc : P.cellsOf e = 1) (hv : ∃ a len cap, v = .slice a len cap)
    (h : DataW.Trod enc P w base (fun _ => true) held t v d p) : ∃ A c l, v = .slice A (List.length l) c ∧ l.length ≤ c ∧ Sm64 l ∧ Sl w w.heap.size A l.length (ivs .u64 l) ∧ l.length ≤ maxLen := by
  obtain ⟨fuel, h⟩ := h
  obtain ⟨A, n, c, rfl⟩ := hv
  rcases open_ints ht he hc h with ⟨h1, _⟩ | ⟨a, len, cap, zs, h1, _, hl, hm, hz, _, hcell, hwf⟩
  · obtain ⟨rfl, rfl, rfl⟩ : A = none ∧ n = 0 ∧ c = 0 := by simpa [Value.cells] using h1
    exact ⟨none, 0, [], rfl, by simp, (fun x hx => by simp at hx), sl_nil rfl _ _, by simp⟩
  · obtain ⟨rfl, rfl, rfl⟩ : A = some a ∧ n = len ∧ c = cap := by simpa [Value.cells] using h1
    simp only [if_true] at hz
    have hlen : (zs.take n).length = n := by simp; omega
    refine ⟨some a, c, zs.take n, by rw [hlen], by omega, fun x hx => u64_of_wf (hwf x (List.mem_of_mem_take hx)), ?_, by omega⟩
    refine sl_of (by simp [ivs]) fun i u hu => ?_
    have hi : i < n := by
      have := (List.getElem?_eq_some_iff.1 hu).1
      simp [ivs] at this; omega
    rw [hcell i (by omega), List.getD_eq_getElem?_getD, List.getElem?_eq_getElem (show i < zs.length by omega)]
    simp [ivs, List.getElem?_map, List.getElem?_take, hi, List.getElem?_eq_getElem (show i < zs.length by omega)] at hu
    rw [← hu]; rfl
end
theorem Try.own' : ownKnob Try.prog.godebug = none := by kernel_rfl
theorem Try.laidOut' : laidOutB Try.prog = true := by kernel_rfl
set_option maxRecDepth 100000 in
theorem lifted3 (os : Os) (started : os.Started) (H : Type) (enc : TypeId × Value → H) :
    ReturnsInHanded {} Try.checked os 3 .any (Rows.fnDecUnarySpec.pre6 enc Try.prog Try.f3 Rows.fnDecUnaryRow.domain false) (Rows.fnDecUnarySpec.post enc Try.prog Try.f3 false true false false) := by
  refine returnsInHanded_of_change (C := Try.checked) Try.own' started (by kernel_rfl) Try.func3
    (ChangeSpec.witness6 (enc := enc) (C := Try.checked) false ⟨#[], #[.int .i64 0, .int .i64 0, .slice none 0 0], []⟩ 8 (by kernel_rfl) (by kernel_rfl) (by kernel_rfl) (by kernel_rfl)) ?_
  intro W base args ds gs before hval0 hW hcnd _
  have hval : ∀ (j : Nat) t v, Try.f3.params[j]? = some t → args[j]? = some v → Value.okWide Try.prog W .any base t v := hval0
  have hW' := hW
  obtain ⟨p, q, hA0, hV, rfl, hfz, hnd⟩ := hW
  have hA : DataW.TrodAll enc Try.prog W 0 (fun _ => true) true Try.f3.params.toList args.toList ds p := hA0
  rw [Try.params3] at hA hval
  obtain ⟨v0, vs0, d0, ds0, p0, q0, hargs, rfl, rfl, h0, r0⟩ := trodAll_cons hA
  obtain ⟨v1, vs1, d1, ds1, p1, q1, rfl, rfl, rfl, h1, r1⟩ := trodAll_cons r0
  obtain ⟨v2, vs2, d2, ds2, p2, q2, rfl, rfl, rfl, h2, r2⟩ := trodAll_cons r1
  obtain ⟨rfl, rfl, rfl⟩ := trodAll_nil r2
  obtain rfl : args = #[v0, v1, v2] := by cases args; simp_all
  obtain ⟨rfl, rfl⟩ := trodVars_none hV
  obtain ⟨wd, rfl, _, _, _⟩ := open_int Try.underlying3 (hval 0 3 v0 rfl rfl) h0
  obtain ⟨op, rfl, _, _, _⟩ := open_int Try.underlying3 (hval 1 3 v1 rfl rfl) h1
  obtain ⟨A, c, l, rfl, hc, h64, hsl, hn⟩ := open_u64 Try.underlying22 Try.underlying27 (by kernel_rfl) (okWide_slice Try.underlying22 (hval 2 22 v2 rfl rfl)) h2
  clear hA0 hval0
  refine (law3_any W A c wd op l hc hsl h64 hn).mono fun e W' ⟨he, hb⟩ => ?_
  subst he
  exact ⟨_, rfl, law_post Try.laidOut' (by kernel_rfl) (by kernel_rfl) (by kernel_rfl) Try.underlying4 hW' hb ⟨rfl, rfl, rfl⟩⟩
theorem fnDecUnary_over : Rows.fnDecUnaryRow.holds Try.pinned (OpenSpec.ofChange Rows.fnDecUnarySpec) :=
  OpenClaim.holds_of_wide 3 Try.f3 rfl rfl rfl rfl rfl rfl rfl ⟨rfl, rfl, rfl, rfl, rfl⟩ rfl rfl rfl rfl rfl (by kernel_rfl) Try.func3 (by kernel_rfl)
    (of_decide_eq_true (by kernel_rfl)) (by unfold Func.isWrapper; first | (rw [if_pos (by decide +kernel)]; kernel_rfl) | (rw [if_neg (by decide +kernel)]; exact ⟨rfl, rfl⟩))
    (fun os started H enc _ => lifted3 os started H enc)
/-- ████ THE STATEMENT ████ -/
theorem fnDecUnary.proved : Rows.FnDecUnarySaid := fnDecUnary_over
#print axioms fnDecUnary.proved
end Go.Proofs.Ytajjnlneacoooaa
