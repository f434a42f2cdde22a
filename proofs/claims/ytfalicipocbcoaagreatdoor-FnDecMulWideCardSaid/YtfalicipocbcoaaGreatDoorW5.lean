/- Exact integers: sums and differences. (YtfalicipocbcoaaGreatDoor) -/
import Derived.Test.YtfalicipocbcoaaGreatDoorW4
import Derived.Deep.RegionHeld3
import Derived.Deep.DrawnRows
import Derived.Handy
set_option linter.unusedVariables false
set_option linter.unusedSimpArgs false
namespace Go.Proofs.YtfalicipocbcoaaGreatDoor
open Go.RowKit Go.ChangeShapes Go.WideShapes Go.ChangeAt
attribute [local go_sem ↓] Go.wp_at_zero Go.wp_at_succ
theorem bdrew {a b : World} {B : Nat} (h : Below B a b) : Below B a b.drew := ⟨h.os, h.tape, h.output, h.size, h.block⟩
theorem below_tr {a b c : World} {B : Nat} (h : Below B a b) (k : Below b.heap.size b c) (hB : B ≤ b.heap.size) : Below B a c := h.trans (k.mono hB)
/-- of a world behind w0: what lies below B is as it was; the result's box is there. -/
def Held (w0 : World) (B g : Nat) (W : World) : Prop := Below B w0 W ∧ B ≤ g ∧ ∃ a b, Blk W g 29 #[a, b]
theorem Held.drew {w0 W : World} {B g : Nat} (h : Held w0 B g W) : Held w0 B g W.drew := ⟨bdrew h.1, h.2⟩
theorem Held.below {w0 W W1 : World} {B g : Nat} (h : Held w0 B g W) (hb : Below W.heap.size W W1) : Held w0 B g W1 := by
  obtain ⟨h1, h2, a, b, h3⟩ := h
  have := h3.lt
  exact ⟨below_tr h1 hb (by omega), h2, a, b, h3.below hb⟩
theorem Held.store {w0 W : World} {B g : Nat} (h : Held w0 B g W) (x y : Value) : Held w0 B g ((W.setCell ⟨g, 0, none⟩ x).setCell ⟨g, 1, none⟩ y) := by
  obtain ⟨h1, h2, a, b, h3⟩ := h
  refine ⟨(h1.setCell h2 _).setCell h2 _, h2, x, y, ?_⟩
  have := (h3.set 0 x).set 1 y
  simpa using this
theorem Held.facts {w0 W : World} {B g : Nat} (h : Held w0 B g W) : ∃ a b, W.cell? ⟨g, 0, none⟩ = some a ∧ W.cell? ⟨g, 1, none⟩ = some b ∧ W.frozen? ⟨g, 0, none⟩ = false ∧ W.frozen? ⟨g, 1, none⟩ = false := by
  obtain ⟨h1, h2, a, b, h3⟩ := h
  have c0 := h3.cell 0
  have c1 := h3.cell 1
  exact ⟨a, b, by simpa using c0, by simpa using c1, h3.frozen 0, h3.frozen 1⟩
/-- two integers in boxes, and the result's box: as all functions of two integers begin. -/
def Two2 (w : World) (u v : Value) (s s' : Bool) (A A' : Option Addr) (n n' c c' : Nat) (w0 : World) : Prop :=
  Below w.heap.size w w0 ∧ Blk w0 w.heap.size 29 #[.bool s, .slice A n c] ∧ Blk w0 (w.heap.size + 1) 29 #[.bool s', .slice A' n' c'] ∧ Blk w0 (w.heap.size + 2) 29 #[.bool false, .slice none 0 0] ∧ w.heap.size + 3 ≤ w0.heap.size
theorem two2_of (w : World) (u v : Value) (s s' : Bool) (A A' : Option Addr) (n n' c c' : Nat) : Two2 w u v s s' A A' n n' c c' (((w.alloc (.cells #[.bool s, .slice A n c] 29)).alloc (.cells #[.bool s', .slice A' n' c'] 29)).alloc (.cells #[.bool false, .slice none 0 0] 29)) :=
  ⟨(((Below.refl _ _).alloc (Nat.le_refl _) _).alloc (by simp) _).alloc (by simp; omega) _,
   (((Blk.new (w := w) (g := w.heap.size) 29 #[.bool s, .slice A n c] rfl).alloc (.cells #[.bool s', .slice A' n' c'] 29)).alloc (.cells #[.bool false, .slice none 0 0] 29)),
   ((Blk.new (w := w.alloc (.cells #[.bool s, .slice A n c] 29)) (g := w.heap.size + 1) 29 #[.bool s', .slice A' n' c'] (by simp)).alloc (.cells #[.bool false, .slice none 0 0] 29)),
   (Blk.new (w := (w.alloc (.cells #[.bool s, .slice A n c] 29)).alloc (.cells #[.bool s', .slice A' n' c'] 29)) (g := w.heap.size + 2) 29 #[.bool false, .slice none 0 0] (by simp)), by simp⟩
/-- what a region that reads the two boxes, calls, and fills the third one knows throughout. -/
def S2 (w : World) (s s' : Bool) (A A' : Option Addr) (n n' c c' : Nat) (w0 W : World) : Prop :=
  W.cell? ⟨w.heap.size, 0, none⟩ = some (.bool s) ∧ W.cell? ⟨w.heap.size, 1, none⟩ = some (.slice A n c) ∧ W.cell? ⟨w.heap.size + 1, 0, none⟩ = some (.bool s') ∧ W.cell? ⟨w.heap.size + 1, 1, none⟩ = some (.slice A' n' c') ∧ Held w0 (w.heap.size + 2) (w.heap.size + 2) W
theorem two2_below {w w0 w1 : World} {u v : Value} {s s' : Bool} {A A' : Option Addr} {n n' c c' : Nat} (h : Two2 w u v s s' A A' n n' c c' w0) (hb : Below w0.heap.size w0 w1) : Two2 w u v s s' A A' n n' c c' w1 := by
  obtain ⟨h1, h2, h3, h4, h5⟩ := h
  exact ⟨h1.trans (hb.mono (by omega)), h2.below hb, h3.below hb, h4.below hb, Nat.le_trans h5 hb.size⟩
theorem s2_of {w w0 : World} {u v : Value} {s s' : Bool} {A A' : Option Addr} {n n' c c' : Nat} (h : Two2 w u v s s' A A' n n' c c' w0) (W : World) (hh : Held w0 (w.heap.size + 2) (w.heap.size + 2) W) : S2 w s s' A A' n n' c c' w0 W := by
  obtain ⟨h1, h2, h3, h4, h5⟩ := h
  have k2 := h2.below' hh.1 (by omega)
  have k3 := h3.below' hh.1 (by omega)
  exact ⟨by have := k2.cell 0; simpa using this, by have := k2.cell 1; simpa using this, by have := k3.cell 0; simpa using this, by have := k3.cell 1; simpa using this, hh⟩
theorem held0 {w w0 : World} {u v : Value} {s s' : Bool} {A A' : Option Addr} {n n' c c' : Nat} (h : Two2 w u v s s' A A' n n' c c' w0) : Held w0 (w.heap.size + 2) (w.heap.size + 2) w0 := ⟨Below.refl _ _, Nat.le_refl _, _, _, h.2.2.2.1⟩
theorem held_w {w w0 W : World} {u v : Value} {s s' : Bool} {A A' : Option Addr} {n n' c c' : Nat} (h : Two2 w u v s s' A A' n n' c c' w0) (hh : Held w0 (w.heap.size + 2) (w.heap.size + 2) W) : Below w.heap.size w W :=
  h.1.trans (hh.1.mono (by omega))
theorem pwide_held {w w0 W : World} {u v : Value} {s s' : Bool} {A A' : Option Addr} {n n' c c' : Nat} {x a : Value} {z : Int} (hx : Wd W (.agg #[x, a]) z) (h : Two2 w u v s s' A A' n n' c c' w0) (hh : Held w0 (w.heap.size + 2) (w.heap.size + 2) W) :
    PWide w z (.returned (.agg #[x, a])) ((W.setCell ⟨w.heap.size + 2, 0, none⟩ x).setCell ⟨w.heap.size + 2, 1, none⟩ a) := by
  obtain ⟨a0, b0, hk⟩ := hh.2.2
  exact ⟨_, rfl, (hx.far hk.tyb (by decide) 0 x).far (hk.tyb.set _ 0 x) (by decide) 1 a, ((held_w h hh).setCell (by simp) _).setCell (by simp) _⟩
set_option maxRecDepth 100000 in
set_option maxHeartbeats 4000000 in
theorem WideSub_of (hadd : ∀ (W : World) (u v : Value) (x y : Int), Wd W u x → Wd W v y → -bp 99 < x → x < bp 99 → -bp 99 < y → y < bp 99 → Calls Tryz.prog 33 #[u, v] W (PWide W (x + y)))
    (w : World) (u v : Value) (x y : Int) (hu : Wd w u x) (hv : Wd w v y) (hx1 : -bp 99 < x) (hx2 : x < bp 99) (hy1 : -bp 99 < y) (hy2 : y < bp 99) :
    Calls Tryz.prog 30 #[u, v] w (PWide w (x - y)) := by
  have hst := hide (fun (W : World) (h : Below w.heap.size w W) => And.intro (hu.below h) (hv.below h))
  have hA0 := hide (fun (W : World) (h : Below w.heap.size w W) (v : Value) (hv : Wd W v (-y)) => hadd W u v x (-y) (hu.below h) hv hx1 hx2 (by omega) (by omega))
  obtain ⟨s, A, n, c, rfl⟩ := hu.form
  obtain ⟨s', A', n', c', rfl⟩ := hv.form
  clear hadd hu hv hx1 hx2 hy1 hy2
  go_enter Tryz.func30, Tryz.ntmps30
  go_wp2_with fail
  have h2 := two2_of w undef undef s s' A A' n n' c c'
  generalize (((w.alloc (.cells #[.bool s, .slice A n c] 29)).alloc (.cells #[.bool s', .slice A' n' c'] 29)).alloc (.cells #[.bool false, .slice none 0 0] 29)) = w0 at h2 ⊢
  have hS := hide (fun (W : World) (h : Held w0 (w.heap.size + 2) (w.heap.size + 2) W) => s2_of h2 W h)
  have hN := hide (fun (W : World) (h : Held w0 (w.heap.size + 2) (w.heap.size + 2) W) => Negated_any W _ y (((unhide hst) W (held_w h2 h)).2))
  have hA := hide (fun (W : World) (h : Held w0 (w.heap.size + 2) (w.heap.size + 2) W) (v : Value) (hv : Wd W v (-y)) => (unhide hA0) W (held_w h2 h) v hv)
  have hF := hide (fun (W : World) (x9 a9 : Value) (z : Int) (hx : Wd W (.agg #[x9, a9]) z) (h : Held w0 (w.heap.size + 2) (w.heap.size + 2) W) => pwide_held hx h2 h)
  have hh0 := held0 h2
  obtain ⟨e1, e2, e3, e4, _⟩ := s2_of h2 w0 hh0
  clear hst hA0 h2
  go_region_held3 (fun W => W.cell? ⟨w.heap.size, 0, none⟩ = some (.bool s) ∧ W.cell? ⟨w.heap.size, 1, none⟩ = some (.slice A n c) ∧ W.cell? ⟨w.heap.size + 1, 0, none⟩ = some (.bool s') ∧ W.cell? ⟨w.heap.size + 1, 1, none⟩ = some (.slice A' n' c') ∧ Held w0 (w.heap.size + 2) (w.heap.size + 2) W)
    (first | ((try go_split_ands); (try dsimp only); refine (unhide hS) _ ?_; first | exact Held.drew (by assumption) | exact Held.below (by assumption) hb1 | exact Held.below (by assumption) hb2 | exact Held.store (by assumption) _ _))
    (first
      | (go_at_call 21; (with_reducible refine ((unhide hN) _ (by go_split_ands; assumption)).mono ?_); rintro e w1 ⟨x1, rfl, hx1, hb1⟩)
      | (go_at_call 33; (with_reducible refine ((unhide hA) _ (by go_split_ands; assumption) _ (by assumption)).mono ?_); rintro e w2 ⟨x2, rfl, hx2, hb2⟩; obtain ⟨s2, A2, n2, c2, rfl⟩ := hx2.form; have hh2 := Held.below (by go_split_ands; assumption) hb2; obtain ⟨a7, b7, c7, c8, f7, f8⟩ := Held.facts hh2))
  go_wp2
  refine bodyPost_ret (v := .agg #[.bool s2, .slice A2 n2 c2]) (by simp [results, Tryz.results30, go_sem, c7, c8]) rfl ?_
  rw [Int.sub_eq_add_neg]
  exact (unhide hF) w2 _ _ _ hx2 hh2
/-! ### sums -/
def PAdd (w : World) (z : Int) (e : Ending) (w' : World) : Prop := ∃ x r, e = .returned x ∧ Mg w' x r ∧ Sm r ∧ dv r = z ∧ Below w.heap.size w w'
theorem pmag_add {w w' : World} {z : Int} {e : Ending} (h : PMag w z e w') : PAdd w z e w' := by
  obtain ⟨x, r, h1, h2, h3, _, h4, h5, _⟩ := h
  exact ⟨x, r, h1, h2, h3, h4, h5⟩
theorem wv_abs {s : Bool} {l : List Int} {B : Int} (hs : Sm l) (h1 : -B < wv s l) (h2 : wv s l < B) : dv l < B := wv_bd hs h1 h2
theorem bp_99 : bp 99 + bp 99 ≤ bp 100 := by
  have : bp 100 = 4294967296 * bp 99 := bp_succ 99
  have := bp_pos 99
  omega
theorem cmpI_cases (a b : Int) : (cmpI a b = -1 ∧ a ≤ b) ∨ (cmpI a b = 0 ∧ b ≤ a) ∨ (cmpI a b = 1 ∧ b ≤ a) := by
  unfold cmpI
  by_cases h : a < b
  · rw [if_pos h]; left; exact ⟨rfl, by omega⟩
  · rw [if_neg h]
    by_cases h2 : b < a
    · rw [if_pos h2]; right; right; exact ⟨rfl, by omega⟩
    · rw [if_neg h2]; right; left; exact ⟨rfl, by omega⟩
set_option maxRecDepth 100000 in
set_option maxHeartbeats 8000000 in
theorem WideAdd_any (w : World) (u v : Value) (x y : Int) (hu : Wd w u x) (hv : Wd w v y) (hx1 : -bp 99 < x) (hx2 : x < bp 99) (hy1 : -bp 99 < y) (hy2 : y < bp 99) :
    Calls Tryz.prog 33 #[u, v] w (PWide w (x + y)) := by
  obtain ⟨s, a, u, rfl, hu, hsa, hta, hna, rfl, hla⟩ := hu
  obtain ⟨s', b, v, rfl, hv, hsb, htb, hnb, rfl, hlb⟩ := hv
  have hda := wv_abs hsa hx1 hx2
  have hdb := wv_abs hsb hy1 hy2
  have n1 := dv_nn hsa
  have n2 := dv_nn hsb
  have h99 := bp_99
  have hAd := hide (fun (W : World) (h : Below w.heap.size w W) => (magAdd_any W u v a b (hu.below h).1 (hv.below h).1 hsa hsb (by omega) (by omega)).mono (fun e w' hh => (show PAdd W (dv a + dv b) e w' by obtain ⟨x, r, h1, h2, h3, _, h5, h6⟩ := hh; exact ⟨x, r, h1, h2, h3, h5, h6.1⟩)))
  have hCm := hide (fun (W : World) (h : Below w.heap.size w W) => magCmp_any W u v a b (hu.below h).1 (hv.below h).1 hsa hsb hta htb (by omega) (by omega))
  have hSa := hide (fun (W : World) (h : Below w.heap.size w W) (hle : dv b ≤ dv a) => (magSub_any W u v a b (hu.below h) (hv.below h) hsa hsb hta htb hle (by omega)).mono (fun e w' hh => pmag_add hh))
  have hSb := hide (fun (W : World) (h : Below w.heap.size w W) (hle : dv a ≤ dv b) => (magSub_any W v u b a (hv.below h) (hu.below h) hsb hsa htb hta hle (by omega)).mono (fun e w' hh => pmag_add hh))
  have hWd := hide (fun (W : World) (t : Bool) (x : Value) (r : List Int) (h : Mg W x r) (hr : Sm r) (hz : dv r < bp 100) => wide_any W t x r h hr hz)
  have hcm := cmpI_cases (dv a) (dv b)
  obtain ⟨⟨A, c, rfl, hc, _⟩, _⟩ := hu
  obtain ⟨⟨A', c', rfl, hc', _⟩, _⟩ := hv
  generalize hza : dv a = za at *
  generalize hzb : dv b = zb at *
  have hS1 : wv s a = if s then -za else za := by unfold wv; rw [hza]
  have hS2 : wv s' b = if s' then -zb else zb := by unfold wv; rw [hzb]
  rw [hS1, hS2]
  clear hS1 hS2 hza hzb hsa hsb hta htb hna hnb hx1 hx2 hy1 hy2 hla hlb hc hc'
  have hb0 := hide (two2_of w undef undef s s' A A' a.length b.length c c')
  cases s <;> cases s' <;> simp only [if_true, if_false, reduceIte, Bool.false_eq_true]
  · have h2r := unhide hb0
    clear hb0
    go_enter Tryz.func33, Tryz.ntmps33
    go_upto_region 2 with (fail)
    have h2 := h2r
    clear h2r
    generalize (((w.alloc (.cells #[.bool false, .slice A a.length c] 29)).alloc (.cells #[.bool false, .slice A' b.length c'] 29)).alloc (.cells #[.bool false, .slice none 0 0] 29)) = w0 at h2 ⊢
    have hS := hide (fun (W : World) (h : Held w0 (w.heap.size + 2) (w.heap.size + 2) W) => s2_of h2 W h)
    have hF := hide (fun (W : World) (x9 a9 : Value) (z : Int) (hx : Wd W (.agg #[x9, a9]) z) (h : Held w0 (w.heap.size + 2) (w.heap.size + 2) W) => pwide_held hx h2 h)
    have hh0 := held0 h2
    obtain ⟨e1, e2, e3, e4, _⟩ := s2_of h2 w0 hh0
    go_region_held3 (fun W => W.cell? ⟨w.heap.size, 0, none⟩ = some (.bool false) ∧ W.cell? ⟨w.heap.size, 1, none⟩ = some (.slice A a.length c) ∧ W.cell? ⟨w.heap.size + 1, 0, none⟩ = some (.bool false) ∧ W.cell? ⟨w.heap.size + 1, 1, none⟩ = some (.slice A' b.length c') ∧ Held w0 (w.heap.size + 2) (w.heap.size + 2) W)
      (first | ((try go_split_ands); (try dsimp only); refine (unhide hS) _ ?_; first | exact Held.drew (by assumption) | exact Held.below (by assumption) hb1 | exact Held.below (by assumption) hb2 | exact Held.store (by assumption) _ _))
      (first
        | (go_at_call 44; (with_reducible refine ((unhide hAd) _ (held_w h2 (by go_split_ands; assumption))).mono ?_); rintro e w1 ⟨x1, r1, rfl, hg1, hs1, hz1, hb1⟩; have HZ1 := Lib.hid hz1; clear hz1)
        | (go_at_call 16; (with_reducible refine ((unhide hWd) _ _ _ _ hg1 hs1 (by rw [HZ1.out]; omega)).mono ?_); rintro e w2 ⟨x2, rfl, hx2, hb2⟩; obtain ⟨s2, A2, n2, c2, rfl⟩ := hx2.form; have hh2 := Held.below (by go_split_ands; assumption) hb2; obtain ⟨a7, b7, c7, c8, f7, f8⟩ := Held.facts hh2))
    go_wp2
    refine bodyPost_ret (v := .agg #[.bool s2, .slice A2 n2 c2]) (by simp [results, Tryz.results33, go_sem, c7, c8]) rfl ?_
    have HE := (unhide hF) w2 _ _ _ hx2 hh2
    rw [show wv false r1 = za + zb by simp [wv, HZ1.out]] at HE
    exact HE
  · have h2r := unhide hb0
    clear hb0
    go_enter Tryz.func33, Tryz.ntmps33
    go_upto_region 3 with (fail)
    have h2 := h2r
    clear h2r
    generalize (((w.alloc (.cells #[.bool false, .slice A a.length c] 29)).alloc (.cells #[.bool true, .slice A' b.length c'] 29)).alloc (.cells #[.bool false, .slice none 0 0] 29)) = w00 at h2 ⊢
    have hk1 := h2.2.1.cell 1
    have hk2 := h2.2.2.1.cell 1
    have hk3 := h2.2.1.cell 0
    have hk4 := h2.2.2.1.cell 0
    simp at hk1 hk2 hk3 hk4
    have hcall := (unhide hCm) w00 h2.1
    have HC0 := hide h2
    have HCall := hide (show Calls Tryz.prog 34 #[.slice A a.length c, .slice A' b.length c'] w00 _ from hcall)
    clear hcall hCm h2
    rcases hcm with ⟨hc0, hc1⟩ | ⟨hc0, hc1⟩ | ⟨hc0, hc1⟩
    all_goals rw [hc0] at HCall
    all_goals clear hc0
    · go_upto_region 5 with (go_at_call 34; (with_reducible refine (unhide HCall).mono ?_); rintro e w0 ⟨rfl, hbc⟩)
      have h2 := two2_below (unhide HC0) hbc
      clear HC0 HCall hk1 hk2 hk3 hk4 hbc
      have hS := hide (fun (W : World) (h : Held w0 (w.heap.size + 2) (w.heap.size + 2) W) => s2_of h2 W h)
      have hF := hide (fun (W : World) (x9 a9 : Value) (z : Int) (hx : Wd W (.agg #[x9, a9]) z) (h : Held w0 (w.heap.size + 2) (w.heap.size + 2) W) => pwide_held hx h2 h)
      have hh0 := held0 h2
      obtain ⟨e1, e2, e3, e4, _⟩ := s2_of h2 w0 hh0
      go_region_held3 (fun W => W.cell? ⟨w.heap.size, 0, none⟩ = some (.bool false) ∧ W.cell? ⟨w.heap.size, 1, none⟩ = some (.slice A a.length c) ∧ W.cell? ⟨w.heap.size + 1, 0, none⟩ = some (.bool true) ∧ W.cell? ⟨w.heap.size + 1, 1, none⟩ = some (.slice A' b.length c') ∧ Held w0 (w.heap.size + 2) (w.heap.size + 2) W)
        (first | ((try go_split_ands); (try dsimp only); refine (unhide hS) _ ?_; first | exact Held.drew (by assumption) | exact Held.below (by assumption) hb1 | exact Held.below (by assumption) hb2 | exact Held.store (by assumption) _ _))
        (first
          | (go_at_call 45; (with_reducible refine ((unhide hSb) _ (held_w h2 (by go_split_ands; assumption)) hc1).mono ?_); rintro e w1 ⟨x1, r1, rfl, hg1, hs1, hz1, hb1⟩; have HZ1 := Lib.hid hz1; clear hz1)
          | (go_at_call 16; (with_reducible refine ((unhide hWd) _ _ _ _ hg1 hs1 (by rw [HZ1.out]; omega)).mono ?_); rintro e w2 ⟨x2, rfl, hx2, hb2⟩; obtain ⟨s2, A2, n2, c2, rfl⟩ := hx2.form; have hh2 := Held.below (by go_split_ands; assumption) hb2; obtain ⟨a7, b7, c7, c8, f7, f8⟩ := Held.facts hh2))
      go_wp2
      refine bodyPost_ret (v := .agg #[.bool s2, .slice A2 n2 c2]) (by simp [results, Tryz.results33, go_sem, c7, c8]) rfl ?_
      have HE := (unhide hF) w2 _ _ _ hx2 hh2
      rw [show wv true r1 = za + -zb by simp [wv, HZ1.out]; omega] at HE
      exact HE
    · go_upto_region 4 with (go_at_call 34; (with_reducible refine (unhide HCall).mono ?_); rintro e w0 ⟨rfl, hbc⟩)
      have h2 := two2_below (unhide HC0) hbc
      clear HC0 HCall hk1 hk2 hk3 hk4 hbc
      have hS := hide (fun (W : World) (h : Held w0 (w.heap.size + 2) (w.heap.size + 2) W) => s2_of h2 W h)
      have hF := hide (fun (W : World) (x9 a9 : Value) (z : Int) (hx : Wd W (.agg #[x9, a9]) z) (h : Held w0 (w.heap.size + 2) (w.heap.size + 2) W) => pwide_held hx h2 h)
      have hh0 := held0 h2
      obtain ⟨e1, e2, e3, e4, _⟩ := s2_of h2 w0 hh0
      go_region_held3 (fun W => W.cell? ⟨w.heap.size, 0, none⟩ = some (.bool false) ∧ W.cell? ⟨w.heap.size, 1, none⟩ = some (.slice A a.length c) ∧ W.cell? ⟨w.heap.size + 1, 0, none⟩ = some (.bool true) ∧ W.cell? ⟨w.heap.size + 1, 1, none⟩ = some (.slice A' b.length c') ∧ Held w0 (w.heap.size + 2) (w.heap.size + 2) W)
        (first | ((try go_split_ands); (try dsimp only); refine (unhide hS) _ ?_; first | exact Held.drew (by assumption) | exact Held.below (by assumption) hb1 | exact Held.below (by assumption) hb2 | exact Held.store (by assumption) _ _))
        (first
          | (go_at_call 45; (with_reducible refine ((unhide hSa) _ (held_w h2 (by go_split_ands; assumption)) hc1).mono ?_); rintro e w1 ⟨x1, r1, rfl, hg1, hs1, hz1, hb1⟩; have HZ1 := Lib.hid hz1; clear hz1)
          | (go_at_call 16; (with_reducible refine ((unhide hWd) _ _ _ _ hg1 hs1 (by rw [HZ1.out]; omega)).mono ?_); rintro e w2 ⟨x2, rfl, hx2, hb2⟩; obtain ⟨s2, A2, n2, c2, rfl⟩ := hx2.form; have hh2 := Held.below (by go_split_ands; assumption) hb2; obtain ⟨a7, b7, c7, c8, f7, f8⟩ := Held.facts hh2))
      go_wp2
      refine bodyPost_ret (v := .agg #[.bool s2, .slice A2 n2 c2]) (by simp [results, Tryz.results33, go_sem, c7, c8]) rfl ?_
      have HE := (unhide hF) w2 _ _ _ hx2 hh2
      rw [show wv false r1 = za + -zb by simp [wv, HZ1.out]; omega] at HE
      exact HE
    · go_upto_region 4 with (go_at_call 34; (with_reducible refine (unhide HCall).mono ?_); rintro e w0 ⟨rfl, hbc⟩)
      have h2 := two2_below (unhide HC0) hbc
      clear HC0 HCall hk1 hk2 hk3 hk4 hbc
      have hS := hide (fun (W : World) (h : Held w0 (w.heap.size + 2) (w.heap.size + 2) W) => s2_of h2 W h)
      have hF := hide (fun (W : World) (x9 a9 : Value) (z : Int) (hx : Wd W (.agg #[x9, a9]) z) (h : Held w0 (w.heap.size + 2) (w.heap.size + 2) W) => pwide_held hx h2 h)
      have hh0 := held0 h2
      obtain ⟨e1, e2, e3, e4, _⟩ := s2_of h2 w0 hh0
      go_region_held3 (fun W => W.cell? ⟨w.heap.size, 0, none⟩ = some (.bool false) ∧ W.cell? ⟨w.heap.size, 1, none⟩ = some (.slice A a.length c) ∧ W.cell? ⟨w.heap.size + 1, 0, none⟩ = some (.bool true) ∧ W.cell? ⟨w.heap.size + 1, 1, none⟩ = some (.slice A' b.length c') ∧ Held w0 (w.heap.size + 2) (w.heap.size + 2) W)
        (first | ((try go_split_ands); (try dsimp only); refine (unhide hS) _ ?_; first | exact Held.drew (by assumption) | exact Held.below (by assumption) hb1 | exact Held.below (by assumption) hb2 | exact Held.store (by assumption) _ _))
        (first
          | (go_at_call 45; (with_reducible refine ((unhide hSa) _ (held_w h2 (by go_split_ands; assumption)) hc1).mono ?_); rintro e w1 ⟨x1, r1, rfl, hg1, hs1, hz1, hb1⟩; have HZ1 := Lib.hid hz1; clear hz1)
          | (go_at_call 16; (with_reducible refine ((unhide hWd) _ _ _ _ hg1 hs1 (by rw [HZ1.out]; omega)).mono ?_); rintro e w2 ⟨x2, rfl, hx2, hb2⟩; obtain ⟨s2, A2, n2, c2, rfl⟩ := hx2.form; have hh2 := Held.below (by go_split_ands; assumption) hb2; obtain ⟨a7, b7, c7, c8, f7, f8⟩ := Held.facts hh2))
      go_wp2
      refine bodyPost_ret (v := .agg #[.bool s2, .slice A2 n2 c2]) (by simp [results, Tryz.results33, go_sem, c7, c8]) rfl ?_
      have HE := (unhide hF) w2 _ _ _ hx2 hh2
      rw [show wv false r1 = za + -zb by simp [wv, HZ1.out]; omega] at HE
      exact HE
  · have h2r := unhide hb0
    clear hb0
    go_enter Tryz.func33, Tryz.ntmps33
    go_upto_region 3 with (fail)
    have h2 := h2r
    clear h2r
    generalize (((w.alloc (.cells #[.bool true, .slice A a.length c] 29)).alloc (.cells #[.bool false, .slice A' b.length c'] 29)).alloc (.cells #[.bool false, .slice none 0 0] 29)) = w00 at h2 ⊢
    have hk1 := h2.2.1.cell 1
    have hk2 := h2.2.2.1.cell 1
    have hk3 := h2.2.1.cell 0
    have hk4 := h2.2.2.1.cell 0
    simp at hk1 hk2 hk3 hk4
    have hcall := (unhide hCm) w00 h2.1
    have HC0 := hide h2
    have HCall := hide (show Calls Tryz.prog 34 #[.slice A a.length c, .slice A' b.length c'] w00 _ from hcall)
    clear hcall hCm h2
    rcases hcm with ⟨hc0, hc1⟩ | ⟨hc0, hc1⟩ | ⟨hc0, hc1⟩
    all_goals rw [hc0] at HCall
    all_goals clear hc0
    · go_upto_region 5 with (go_at_call 34; (with_reducible refine (unhide HCall).mono ?_); rintro e w0 ⟨rfl, hbc⟩)
      have h2 := two2_below (unhide HC0) hbc
      clear HC0 HCall hk1 hk2 hk3 hk4 hbc
      have hS := hide (fun (W : World) (h : Held w0 (w.heap.size + 2) (w.heap.size + 2) W) => s2_of h2 W h)
      have hF := hide (fun (W : World) (x9 a9 : Value) (z : Int) (hx : Wd W (.agg #[x9, a9]) z) (h : Held w0 (w.heap.size + 2) (w.heap.size + 2) W) => pwide_held hx h2 h)
      have hh0 := held0 h2
      obtain ⟨e1, e2, e3, e4, _⟩ := s2_of h2 w0 hh0
      go_region_held3 (fun W => W.cell? ⟨w.heap.size, 0, none⟩ = some (.bool true) ∧ W.cell? ⟨w.heap.size, 1, none⟩ = some (.slice A a.length c) ∧ W.cell? ⟨w.heap.size + 1, 0, none⟩ = some (.bool false) ∧ W.cell? ⟨w.heap.size + 1, 1, none⟩ = some (.slice A' b.length c') ∧ Held w0 (w.heap.size + 2) (w.heap.size + 2) W)
        (first | ((try go_split_ands); (try dsimp only); refine (unhide hS) _ ?_; first | exact Held.drew (by assumption) | exact Held.below (by assumption) hb1 | exact Held.below (by assumption) hb2 | exact Held.store (by assumption) _ _))
        (first
          | (go_at_call 45; (with_reducible refine ((unhide hSb) _ (held_w h2 (by go_split_ands; assumption)) hc1).mono ?_); rintro e w1 ⟨x1, r1, rfl, hg1, hs1, hz1, hb1⟩; have HZ1 := Lib.hid hz1; clear hz1)
          | (go_at_call 16; (with_reducible refine ((unhide hWd) _ _ _ _ hg1 hs1 (by rw [HZ1.out]; omega)).mono ?_); rintro e w2 ⟨x2, rfl, hx2, hb2⟩; obtain ⟨s2, A2, n2, c2, rfl⟩ := hx2.form; have hh2 := Held.below (by go_split_ands; assumption) hb2; obtain ⟨a7, b7, c7, c8, f7, f8⟩ := Held.facts hh2))
      go_wp2
      refine bodyPost_ret (v := .agg #[.bool s2, .slice A2 n2 c2]) (by simp [results, Tryz.results33, go_sem, c7, c8]) rfl ?_
      have HE := (unhide hF) w2 _ _ _ hx2 hh2
      rw [show wv false r1 = -za + zb by simp [wv, HZ1.out]; omega] at HE
      exact HE
    · go_upto_region 4 with (go_at_call 34; (with_reducible refine (unhide HCall).mono ?_); rintro e w0 ⟨rfl, hbc⟩)
      have h2 := two2_below (unhide HC0) hbc
      clear HC0 HCall hk1 hk2 hk3 hk4 hbc
      have hS := hide (fun (W : World) (h : Held w0 (w.heap.size + 2) (w.heap.size + 2) W) => s2_of h2 W h)
      have hF := hide (fun (W : World) (x9 a9 : Value) (z : Int) (hx : Wd W (.agg #[x9, a9]) z) (h : Held w0 (w.heap.size + 2) (w.heap.size + 2) W) => pwide_held hx h2 h)
      have hh0 := held0 h2
      obtain ⟨e1, e2, e3, e4, _⟩ := s2_of h2 w0 hh0
      go_region_held3 (fun W => W.cell? ⟨w.heap.size, 0, none⟩ = some (.bool true) ∧ W.cell? ⟨w.heap.size, 1, none⟩ = some (.slice A a.length c) ∧ W.cell? ⟨w.heap.size + 1, 0, none⟩ = some (.bool false) ∧ W.cell? ⟨w.heap.size + 1, 1, none⟩ = some (.slice A' b.length c') ∧ Held w0 (w.heap.size + 2) (w.heap.size + 2) W)
        (first | ((try go_split_ands); (try dsimp only); refine (unhide hS) _ ?_; first | exact Held.drew (by assumption) | exact Held.below (by assumption) hb1 | exact Held.below (by assumption) hb2 | exact Held.store (by assumption) _ _))
        (first
          | (go_at_call 45; (with_reducible refine ((unhide hSa) _ (held_w h2 (by go_split_ands; assumption)) hc1).mono ?_); rintro e w1 ⟨x1, r1, rfl, hg1, hs1, hz1, hb1⟩; have HZ1 := Lib.hid hz1; clear hz1)
          | (go_at_call 16; (with_reducible refine ((unhide hWd) _ _ _ _ hg1 hs1 (by rw [HZ1.out]; omega)).mono ?_); rintro e w2 ⟨x2, rfl, hx2, hb2⟩; obtain ⟨s2, A2, n2, c2, rfl⟩ := hx2.form; have hh2 := Held.below (by go_split_ands; assumption) hb2; obtain ⟨a7, b7, c7, c8, f7, f8⟩ := Held.facts hh2))
      go_wp2
      refine bodyPost_ret (v := .agg #[.bool s2, .slice A2 n2 c2]) (by simp [results, Tryz.results33, go_sem, c7, c8]) rfl ?_
      have HE := (unhide hF) w2 _ _ _ hx2 hh2
      rw [show wv true r1 = -za + zb by simp [wv, HZ1.out]; omega] at HE
      exact HE
    · go_upto_region 4 with (go_at_call 34; (with_reducible refine (unhide HCall).mono ?_); rintro e w0 ⟨rfl, hbc⟩)
      have h2 := two2_below (unhide HC0) hbc
      clear HC0 HCall hk1 hk2 hk3 hk4 hbc
      have hS := hide (fun (W : World) (h : Held w0 (w.heap.size + 2) (w.heap.size + 2) W) => s2_of h2 W h)
      have hF := hide (fun (W : World) (x9 a9 : Value) (z : Int) (hx : Wd W (.agg #[x9, a9]) z) (h : Held w0 (w.heap.size + 2) (w.heap.size + 2) W) => pwide_held hx h2 h)
      have hh0 := held0 h2
      obtain ⟨e1, e2, e3, e4, _⟩ := s2_of h2 w0 hh0
      go_region_held3 (fun W => W.cell? ⟨w.heap.size, 0, none⟩ = some (.bool true) ∧ W.cell? ⟨w.heap.size, 1, none⟩ = some (.slice A a.length c) ∧ W.cell? ⟨w.heap.size + 1, 0, none⟩ = some (.bool false) ∧ W.cell? ⟨w.heap.size + 1, 1, none⟩ = some (.slice A' b.length c') ∧ Held w0 (w.heap.size + 2) (w.heap.size + 2) W)
        (first | ((try go_split_ands); (try dsimp only); refine (unhide hS) _ ?_; first | exact Held.drew (by assumption) | exact Held.below (by assumption) hb1 | exact Held.below (by assumption) hb2 | exact Held.store (by assumption) _ _))
        (first
          | (go_at_call 45; (with_reducible refine ((unhide hSa) _ (held_w h2 (by go_split_ands; assumption)) hc1).mono ?_); rintro e w1 ⟨x1, r1, rfl, hg1, hs1, hz1, hb1⟩; have HZ1 := Lib.hid hz1; clear hz1)
          | (go_at_call 16; (with_reducible refine ((unhide hWd) _ _ _ _ hg1 hs1 (by rw [HZ1.out]; omega)).mono ?_); rintro e w2 ⟨x2, rfl, hx2, hb2⟩; obtain ⟨s2, A2, n2, c2, rfl⟩ := hx2.form; have hh2 := Held.below (by go_split_ands; assumption) hb2; obtain ⟨a7, b7, c7, c8, f7, f8⟩ := Held.facts hh2))
      go_wp2
      refine bodyPost_ret (v := .agg #[.bool s2, .slice A2 n2 c2]) (by simp [results, Tryz.results33, go_sem, c7, c8]) rfl ?_
      have HE := (unhide hF) w2 _ _ _ hx2 hh2
      rw [show wv true r1 = -za + zb by simp [wv, HZ1.out]; omega] at HE
      exact HE
  · have h2r := unhide hb0
    clear hb0
    go_enter Tryz.func33, Tryz.ntmps33
    go_upto_region 2 with (fail)
    have h2 := h2r
    clear h2r
    generalize (((w.alloc (.cells #[.bool true, .slice A a.length c] 29)).alloc (.cells #[.bool true, .slice A' b.length c'] 29)).alloc (.cells #[.bool false, .slice none 0 0] 29)) = w0 at h2 ⊢
    have hS := hide (fun (W : World) (h : Held w0 (w.heap.size + 2) (w.heap.size + 2) W) => s2_of h2 W h)
    have hF := hide (fun (W : World) (x9 a9 : Value) (z : Int) (hx : Wd W (.agg #[x9, a9]) z) (h : Held w0 (w.heap.size + 2) (w.heap.size + 2) W) => pwide_held hx h2 h)
    have hh0 := held0 h2
    obtain ⟨e1, e2, e3, e4, _⟩ := s2_of h2 w0 hh0
    go_region_held3 (fun W => W.cell? ⟨w.heap.size, 0, none⟩ = some (.bool true) ∧ W.cell? ⟨w.heap.size, 1, none⟩ = some (.slice A a.length c) ∧ W.cell? ⟨w.heap.size + 1, 0, none⟩ = some (.bool true) ∧ W.cell? ⟨w.heap.size + 1, 1, none⟩ = some (.slice A' b.length c') ∧ Held w0 (w.heap.size + 2) (w.heap.size + 2) W)
      (first | ((try go_split_ands); (try dsimp only); refine (unhide hS) _ ?_; first | exact Held.drew (by assumption) | exact Held.below (by assumption) hb1 | exact Held.below (by assumption) hb2 | exact Held.store (by assumption) _ _))
      (first
        | (go_at_call 44; (with_reducible refine ((unhide hAd) _ (held_w h2 (by go_split_ands; assumption))).mono ?_); rintro e w1 ⟨x1, r1, rfl, hg1, hs1, hz1, hb1⟩; have HZ1 := Lib.hid hz1; clear hz1)
        | (go_at_call 16; (with_reducible refine ((unhide hWd) _ _ _ _ hg1 hs1 (by rw [HZ1.out]; omega)).mono ?_); rintro e w2 ⟨x2, rfl, hx2, hb2⟩; obtain ⟨s2, A2, n2, c2, rfl⟩ := hx2.form; have hh2 := Held.below (by go_split_ands; assumption) hb2; obtain ⟨a7, b7, c7, c8, f7, f8⟩ := Held.facts hh2))
    go_wp2
    refine bodyPost_ret (v := .agg #[.bool s2, .slice A2 n2 c2]) (by simp [results, Tryz.results33, go_sem, c7, c8]) rfl ?_
    have HE := (unhide hF) w2 _ _ _ hx2 hh2
    rw [show wv true r1 = -za + -zb by simp [wv, HZ1.out]; omega] at HE
    exact HE
end Go.Proofs.YtfalicipocbcoaaGreatDoor
