/- Exact integers: into words of two's complement. (YtfalicipocbcoaaGreatDoor) -/
import Derived.Test.YtfalicipocbcoaaGreatDoorW11p
set_option linter.unusedVariables false
set_option linter.unusedSimpArgs false
namespace Go.Proofs.YtfalicipocbcoaaGreatDoor
open Go.RowKit Go.ChangeShapes Go.WideShapes Go.ChangeAt
attribute [local go_sem ↓] Go.wp_at_zero Go.wp_at_succ
def PTw (w : World) (z : Int) (n : Nat) (e : Ending) (w' : World) : Prop := ∃ x, e = .returned (.tuple #[x, .bool (fitB z n)]) ∧ Rd .u64 w' x (twos z n) ∧ Ty w' 23 x ∧ Below w.heap.size w w'
def FinA (w : World) (z : Int) (n : Nat) (wx : World) : Prop :=
  ∃ s' A' c' l, Blk wx w.heap.size 29 #[.bool s', .slice A' (List.length l) c'] ∧ Mg wx (.slice A' (List.length l) c') l ∧ Sm l ∧ l.length ≤ 100 ∧ dv l % 2 ^ (64 * n) = z % 2 ^ (64 * n) ∧ Below w.heap.size w wx
theorem blk_facts {w : World} {g : Nat} {t : TypeId} {a b : Value} (h : Blk w g t #[a, b]) :
    w.cell? ⟨g, 0, none⟩ = some a ∧ w.cell? ⟨g, 1, none⟩ = some b ∧ w.frozen? ⟨g, 0, none⟩ = false ∧ w.frozen? ⟨g, 1, none⟩ = false ∧
    (∀ o : Obj, (w.alloc o).cell? ⟨g, 0, none⟩ = some a) ∧ (∀ o : Obj, (w.alloc o).cell? ⟨g, 1, none⟩ = some b) ∧ (∀ o : Obj, (w.alloc o).frozen? ⟨g, 0, none⟩ = false) ∧ (∀ o : Obj, (w.alloc o).frozen? ⟨g, 1, none⟩ = false) :=
  ⟨by have := h.cell 0; simpa using this, by have := h.cell 1; simpa using this, h.frozen 0, h.frozen 1, fun o => by have := (h.alloc o).cell 0; simpa using this, fun o => by have := (h.alloc o).cell 1; simpa using this, fun o => (h.alloc o).frozen 0, fun o => (h.alloc o).frozen 1⟩
def RemBox (wc : World) (y : Int) (v9 : Value) (wx : World) : Prop :=
  ∃ g9 s3 A3 n3 c3, v9 = .pointer (some ⟨g9, 0, none⟩) ∧ wc.heap.size ≤ g9 ∧ wx.cell? ⟨g9, 0, none⟩ = some (.bool s3) ∧ wx.cell? ⟨g9, 1, none⟩ = some (.slice A3 n3 c3) ∧ Wd wx (.agg #[.bool s3, .slice A3 n3 c3]) y ∧ Below wc.heap.size wc wx
theorem bcell {W w1 : World} (hb : Below W.heap.size W w1) : (∀ b o, b < W.heap.size → w1.cell? ⟨b, o, none⟩ = W.cell? ⟨b, o, none⟩) ∧ (∀ b o, b < W.heap.size → w1.frozen? ⟨b, o, none⟩ = W.frozen? ⟨b, o, none⟩) :=
  ⟨fun b o h => hb.cell (p := ⟨b, o, none⟩) h, fun b o h => hb.frozen (p := ⟨b, o, none⟩) h⟩
def K5 (w : World) (g9 : Nat) (x a : Value) (y : Int) (W : World) : Prop :=
  W.cell? ⟨g9, 0, none⟩ = some x ∧ W.cell? ⟨g9, 1, none⟩ = some a ∧ g9 ≠ w.heap.size ∧ (∃ a b, Blk W w.heap.size 29 #[a, b]) ∧ Below w.heap.size w W ∧ Wd W (.agg #[x, a]) y
theorem K5.drew {w W : World} {g9 : Nat} {x a : Value} {y : Int} (h : K5 w g9 x a y W) : K5 w g9 x a y W.drew := by
  obtain ⟨h1, h2, h3, h4, h5, h6⟩ := h
  exact ⟨h1, h2, h3, h4, bdrew h5, h6.below (bdrew (Below.refl _ _))⟩
theorem K5.below {w W W1 : World} {g9 : Nat} {x a : Value} {y : Int} (h : K5 w g9 x a y W) (hb : Below W.heap.size W W1) : K5 w g9 x a y W1 := by
  obtain ⟨h1, h2, h3, ⟨p, q, h4⟩, h5, h6⟩ := h
  refine ⟨?_, ?_, h3, ⟨p, q, h4.below hb⟩, below_tr h5 hb h5.size, h6.below hb⟩
  · rw [hb.cell (p := ⟨g9, 0, none⟩) (World.block_lt_of_cell? W _ h1)]; exact h1
  · rw [hb.cell (p := ⟨g9, 1, none⟩) (World.block_lt_of_cell? W _ h2)]; exact h2
theorem K5.store {w W : World} {g9 : Nat} {x a : Value} {y : Int} (h : K5 w g9 x a y W) (u v : Value) : K5 w g9 x a y ((W.setCell ⟨w.heap.size, 0, none⟩ u).setCell ⟨w.heap.size, 1, none⟩ v) := by
  obtain ⟨h1, h2, h3, ⟨p, q, h4⟩, h5, h6⟩ := h
  have t1 := h4.tyb
  refine ⟨?_, ?_, h3, ⟨u, v, by have := (h4.set 0 u).set 1 v; simpa using this⟩, (h5.setCell (Nat.le_refl _) _).setCell (Nat.le_refl _) _, (h6.far t1 (by decide) 0 u).far (t1.set _ _ _) (by decide) 1 v⟩
  · rw [World.cell?_of_block (heap_set_other _ _ _ _ h3), World.cell?_of_block (heap_set_other _ _ _ _ h3)]; exact h1
  · rw [World.cell?_of_block (heap_set_other _ _ _ _ h3), World.cell?_of_block (heap_set_other _ _ _ _ h3)]; exact h2
theorem K5.facts {w W : World} {g9 : Nat} {x a : Value} {y : Int} (h : K5 w g9 x a y W) : ∃ p q, W.cell? ⟨w.heap.size, 0, none⟩ = some p ∧ W.cell? ⟨w.heap.size, 1, none⟩ = some q ∧ W.frozen? ⟨w.heap.size, 0, none⟩ = false ∧ W.frozen? ⟨w.heap.size, 1, none⟩ = false := by
  obtain ⟨h1, h2, h3, ⟨p, q, h4⟩, h5, h6⟩ := h
  exact ⟨p, q, by have := h4.cell 0; simpa using this, by have := h4.cell 1; simpa using this, h4.frozen 0, h4.frozen 1⟩
theorem fina_of {w W : World} {z : Int} {n : Nat} {x a : Value} {y : Int} (hx : Wd W (.agg #[x, a]) y) (hk : ∃ p q, Blk W w.heap.size 29 #[p, q]) (hb : Below w.heap.size w W) (hy : 0 ≤ y) (hz : y % 2 ^ (64 * n) = z % 2 ^ (64 * n)) :
    FinA w z n ((W.setCell ⟨w.heap.size, 0, none⟩ x).setCell ⟨w.heap.size, 1, none⟩ a) := by
  obtain ⟨p, q, hk⟩ := hk
  have t1 := hk.tyb
  have hx2 := (hx.far t1 (by decide) 0 x).far (t1.set _ _ _) (by decide) 1 a
  have hk2 := (hk.set 0 x).set 1 a
  obtain ⟨s, l, u, e, hm, hs, ht, hne, hz2, hl⟩ := hx2
  obtain ⟨e1, e2⟩ := wd_sign hs ht hne hz2
  injection e with e
  simp at e
  obtain ⟨e3, e4⟩ := e
  subst e3 e4
  obtain ⟨⟨A', c', rfl, hh⟩, hy'⟩ := hm
  refine ⟨s, A', c', l, by simpa using hk2, ⟨⟨A', c', rfl, hh⟩, hy'⟩, hs, hl, ?_, (hb.setCell (Nat.le_refl _) _).setCell (Nat.le_refl _) _⟩
  rw [e2, Int.natAbs_of_nonneg hy]; exact hz
theorem make_u64 (N : Nat) (hN : N ≤ 1048576) (w : World) : (Instr.makeSlice 22 (.int .i64 (N : Int)) (.int .i64 (N : Int))).run Tryz.prog w = .ok (.slice (some ⟨w.heap.size, 0, none⟩) N N) (w.alloc (.cells (ivs .u64 (List.replicate N 0)).toArray 23)) := by
  obtain ⟨i0, hi, hz0, hz1, hz2⟩ := info_parts (show (Tryz.prog.info? 23).map (fun i => (i.zero, i.size, i.bytes)) = some (some (.int .u64 0), 1, 8) by kernel_rfl)
  have := run_make_rowN (P := Tryz.prog) 22 23 i0 _ Tryz.underlying22 hi hz0 .i64 .i64 N N (Nat.le_refl _) (by rw [hz2]; omega) (by omega) w
  rw [this, hz1, made_zeros]
/-- the words so far; the digits and their box stay. -/
def TwK (w : World) (G n : Nat) (s' : Bool) (A' : Option Addr) (c' : Nat) (l : List Int) (i k : Nat) (wr : World) : Prop :=
  Blk wr G 23 (ivs .u64 (prt l n i k)).toArray ∧ Blk wr w.heap.size 29 #[.bool s', .slice A' l.length c'] ∧ Mg wr (.slice A' l.length c') l ∧ Below w.heap.size w wr ∧ w.heap.size < G
theorem TwK.store {w wr : World} {G n : Nat} {s' : Bool} {A' : Option Addr} {c' : Nat} {l : List Int} {i k : Nat} (h : TwK w G n s' A' c' l i k wr) (hi : i < n) (x : Int) (hx : x = wdd l i (k + 1)) :
    TwK w G n s' A' c' l i (k + 1) (wr.setCell ⟨G, i, none⟩ (.int .u64 x)).drew := by
  obtain ⟨h1, h2, h3, h4, h5⟩ := h
  subst hx
  refine ⟨?_, h2.other (by simp; omega) _, (h3.far h1.tyb (by decide) i _).below (bdrew (Below.refl _ _)), bdrew (h4.setCell (by simp; omega) _), h5⟩
  have := blk_iset h1 i (wdd l i (k + 1))
  rw [prt_set _ _ _ _ hi] at this
  exact this
theorem or_step {l : List Int} (hs : Sm l) (i k : Nat) (hk : k < 2) : bits .or .u64 (wdd l i k) (IntKind.u64.wrap (l.getD (2 * i + k) 0 * 2 ^ (32 * k))) = wdd l i (k + 1) := by
  rw [IntKind.wrap_u64]
  obtain ⟨g1, g2⟩ := sm_get hs (2 * i + k)
  have e : k = 0 ∨ k = 1 := by omega
  rcases e with rfl | rfl
  · simp only [Nat.mul_zero, Int.pow_zero, Int.mul_one, Nat.add_zero] at g1 g2 ⊢
    rw [Int.emod_eq_of_lt g1 (by omega)]
    exact or_low _ g1 g2
  · obtain ⟨g3, g4⟩ := sm_get hs (2 * i)
    rw [show (2 : Int) ^ (32 * 1) = 4294967296 from rfl, Int.emod_eq_of_lt (by omega) (by omega)]
    exact or_high _ _ g1 g2 g3 g4
theorem wdd_zero (l : List Int) (i k : Nat) (hk : k < 2) (h : l.getD (2 * i + k) 0 = 0) : wdd l i (k + 1) = wdd l i k := by
  have e : k = 0 ∨ k = 1 := by omega
  rcases e with rfl | rfl
  · exact h
  · show l.getD (2 * i) 0 + 4294967296 * l.getD (2 * i + 1) 0 = l.getD (2 * i) 0
    rw [h]; omega
def TwRel (w : World) (G n : Nat) (s' : Bool) (A' : Option Addr) (c' : Nat) (l : List Int) (v47 : Value) (wr : World) : Prop :=
  ∃ i : Nat, i ≤ n ∧ v47 = .int .i64 (i : Int) ∧ TwK w G n s' A' c' l i 0 wr
def TwIn (w : World) (G n : Nat) (s' : Bool) (A' : Option Addr) (c' : Nat) (l : List Int) (i : Nat) (v12 : Value) (wr : World) : Prop :=
  ∃ k : Nat, k ≤ 2 ∧ v12 = .int .i64 (k : Int) ∧ TwK w G n s' A' c' l i k wr
set_option maxRecDepth 100000 in
set_option maxHeartbeats 8000000 in
theorem ToWords_any (w : World) (v : Value) (z : Int) (n : Nat) (h : Wd w v z) (hn : 1 ≤ n) (hn4 : n ≤ 4) :
    Calls Tryz.prog 18 #[v, .int .i64 (n : Int)] w (PTw w z n) := by
  have hst := hide (fun (W : World) (hb : Below w.heap.size w W) => h.below hb)
  obtain ⟨s, l, u, rfl, ⟨⟨A, c, rfl, hc, hsl, hm⟩, hy⟩, hs, ht, hne, hz, hl⟩ := h
  have HZ := hide hz
  have HD := hide (wd_sign hs ht hne hz)
  have hMg := hide (show Mg w (.slice A l.length c) l from ⟨⟨A, c, rfl, hc, hsl, hm⟩, hy⟩)
  have HS := hide hs
  clear hsl hy hz hs ht hne hm hc
  have hT1 := hide (fun (W : World) => (by
    have h := Two_any W (64 * n - 1) (2 * n - 1) 31 (by omega) (by omega) (by omega)
    rw [show ((64 * n - 1 : Nat) : Int) = 64 * (n : Int) - 1 by omega] at h
    exact h : Calls Tryz.prog 20 #[.int .i64 (64 * (n : Int) - 1)] W (PWide W (2 ^ (64 * n - 1)))))
  have hT2 := hide (fun (W : World) => (by
    have h := Two_any W (64 * n) (2 * n) 0 (by omega) (by omega) (by omega)
    rw [show ((64 * n : Nat) : Int) = 64 * (n : Int) by omega] at h
    exact h : Calls Tryz.prog 20 #[.int .i64 (64 * (n : Int))] W (PWide W (2 ^ (64 * n)))))
  go_enter Tryz.func18, Tryz.ntmps18
  go_upto_region 2 with (go_at_call 20; (with_reducible refine ((unhide hT1) _).mono ?_); rintro e w1 ⟨x1, rfl, hx1, hb1⟩; obtain ⟨s1, A1, n1, c1, rfl⟩ := hx1.form)
  have k0 : Blk (w1.alloc (.cells #[.bool s1, .slice A1 n1 c1] 29)) w.heap.size 29 #[.bool s, .slice A l.length c] := ((Blk.new (w := w) (g := w.heap.size) 29 _ rfl).below hb1).alloc _
  have k1 : Blk (w1.alloc (.cells #[.bool s1, .slice A1 n1 c1] 29)) w1.heap.size 29 #[.bool s1, .slice A1 n1 c1] := Blk.new _ _ rfl
  have hbw1 : Below w.heap.size w w1 := below_tr ((Below.refl w.heap.size w).alloc (Nat.le_refl _) _) hb1 (by simp)
  have hbw : Below w.heap.size w (w1.alloc (.cells #[.bool s1, .slice A1 n1 c1] 29)) := hbw1.alloc hbw1.size _
  have hx2 := hx1.below ((Below.refl w1.heap.size w1).alloc (Nat.le_refl _) (.cells #[.bool s1, .slice A1 n1 c1] 29))
  have hg6 : w.heap.size < w1.heap.size := by have := hb1.size; simp at this; omega
  generalize (w1.alloc (.cells #[.bool s1, .slice A1 n1 c1] 29)) = w2 at k0 k1 hbw hx2 ⊢
  generalize w1.heap.size = g6 at k1 hg6 ⊢
  clear hb1 hbw1 hx1
  go_cut [7] (fun v7 wx => v7 = .bool (fitB z n) ∧ Below w2.heap.size w2 wx)
  case first =>
    have hL := hide (fun (W : World) (h : Below w2.heap.size w2 W) => (show W.cell? ⟨w.heap.size, 0, none⟩ = some (.bool s) ∧ W.cell? ⟨w.heap.size, 1, none⟩ = some (.slice A l.length c) ∧ W.cell? ⟨g6, 0, none⟩ = some (.bool s1) ∧ W.cell? ⟨g6, 1, none⟩ = some (.slice A1 n1 c1) ∧ Below w2.heap.size w2 W from
      ⟨by have := (k0.below h).cell 0; simpa using this, by have := (k0.below h).cell 1; simpa using this, by have := (k1.below h).cell 0; simpa using this, by have := (k1.below h).cell 1; simpa using this, h⟩))
    have hC1 := hide (fun (W : World) (h : Below w2.heap.size w2 W) => WideCmp_any W _ _ z (2 ^ (64 * n - 1)) ((unhide hst) W (below_tr hbw h hbw.size)) (hx2.below h))
    have hNg := hide (fun (W : World) (h : Below w2.heap.size w2 W) => Negated_any W _ (2 ^ (64 * n - 1)) (hx2.below h))
    have hC2 := hide (fun (W : World) (u : Value) (h : Below w2.heap.size w2 W) (hu : Wd W u (-(2 ^ (64 * n - 1)))) => WideCmp_any W _ u z (-(2 ^ (64 * n - 1))) ((unhide hst) W (below_tr hbw h hbw.size)) hu)
    have hB0 : Below w2.heap.size w2 w2 := Below.refl _ _
    obtain ⟨e1, e2, e3, e4, _⟩ := (unhide hL) w2 hB0
    have hfb : fitB z n = (decide (z < 2 ^ (64 * n - 1)) && decide (-(2 ^ (64 * n - 1)) ≤ z)) := rfl
    have cA := cmpI_cases2 z (2 ^ (64 * n - 1))
    have cB := cmpI_cases2 z (-(2 ^ (64 * n - 1)))
    have HFB := hide hfb
    clear hfb k0 k1 hbw hx2
    generalize (2 : Int) ^ (64 * n - 1) = M at *
    rcases cA with ⟨ca1, ca2⟩ | ⟨ca1, ca2⟩
    · rcases cB with ⟨cb1, cb2⟩ | ⟨cb1, cb2⟩
      · have HV := hide (show fitB z n = false by rw [unhide HFB]; simp; omega)
        rw [ca1] at hC1
        rw [cb1] at hC2
        clear ca1 ca2 cb1 cb2
        go_region_held3 (fun W => W.cell? ⟨w.heap.size, 0, none⟩ = some (.bool s) ∧ W.cell? ⟨w.heap.size, 1, none⟩ = some (.slice A l.length c) ∧ W.cell? ⟨g6, 0, none⟩ = some (.bool s1) ∧ W.cell? ⟨g6, 1, none⟩ = some (.slice A1 n1 c1) ∧ Below w2.heap.size w2 W)
          (first | ((try go_split_ands); (try dsimp only); refine (unhide hL) _ ?_; first | exact bdrew (by assumption) | exact below_tr (by assumption) hb3 (Below.size (by assumption)) | exact below_tr (by assumption) hb4 (Below.size (by assumption)) | exact below_tr (by assumption) hb5 (Below.size (by assumption))))
          (first
            | (go_at_call 19; (with_reducible refine ((unhide hC1) _ (by go_split_ands; assumption)).mono ?_); rintro e w3 ⟨rfl, hb3⟩)
            | (go_at_call 21; (with_reducible refine ((unhide hNg) _ (by go_split_ands; assumption)).mono ?_); rintro e w4 ⟨x4, rfl, hx4, hb4⟩)
            | (go_at_call 19; (with_reducible refine ((unhide hC2) _ _ (by go_split_ands; assumption) (by assumption)).mono ?_); rintro e w5 ⟨rfl, hb5⟩))
        all_goals (go_wp2_with fail; go_meet; exact ⟨by rw [unhide HV], by go_split_ands; assumption⟩)
      · have HV := hide (show fitB z n = true by rw [unhide HFB]; simp; omega)
        rw [ca1] at hC1
        have cb3 : decide (0 ≤ cmpI z (-M)) = true := by simpa using cb1
        clear ca1 ca2 cb2
        generalize cmpI z (-M) = cc at *
        go_region_held3 (fun W => W.cell? ⟨w.heap.size, 0, none⟩ = some (.bool s) ∧ W.cell? ⟨w.heap.size, 1, none⟩ = some (.slice A l.length c) ∧ W.cell? ⟨g6, 0, none⟩ = some (.bool s1) ∧ W.cell? ⟨g6, 1, none⟩ = some (.slice A1 n1 c1) ∧ Below w2.heap.size w2 W)
          (first | ((try go_split_ands); (try dsimp only); refine (unhide hL) _ ?_; first | exact bdrew (by assumption) | exact below_tr (by assumption) hb3 (Below.size (by assumption)) | exact below_tr (by assumption) hb4 (Below.size (by assumption)) | exact below_tr (by assumption) hb5 (Below.size (by assumption))))
          (first
            | (go_at_call 19; (with_reducible refine ((unhide hC1) _ (by go_split_ands; assumption)).mono ?_); rintro e w3 ⟨rfl, hb3⟩)
            | (go_at_call 21; (with_reducible refine ((unhide hNg) _ (by go_split_ands; assumption)).mono ?_); rintro e w4 ⟨x4, rfl, hx4, hb4⟩)
            | (go_at_call 19; (with_reducible refine ((unhide hC2) _ _ (by go_split_ands; assumption) (by assumption)).mono ?_); rintro e w5 ⟨rfl, hb5⟩))
        all_goals (go_wp2_with fail; go_meet; exact ⟨by rw [unhide HV], by go_split_ands; assumption⟩)
    · have HV := hide (show fitB z n = false by rw [unhide HFB]; simp; omega)
      have ca3 : decide (cmpI z M < 0) = false := by simpa using ca1
      clear ca2 cB
      generalize cmpI z M = cc at *
      go_region_with (first
        | (go_at_call 19; (with_reducible refine ((unhide hC1) _ (by repeat' (first | assumption | apply bdrew))).mono ?_); rintro e w3 ⟨rfl, hb3⟩))
      all_goals (go_wp2_with fail; go_meet; exact ⟨by rw [unhide HV], below_tr (bdrew hB0) (by exact hb3) hB0.size⟩)
  case rest =>
    obtain ⟨rfl, hbc⟩ := hcut
    have k0c := k0.below hbc
    have hbwc := below_tr hbw hbc hbw.size
    clear k0 k1 hbc hbw hx2
    have c00 := k0c.cell 0
    have c01 := k0c.cell 1
    have f00 := k0c.frozen 0
    have f01 := k0c.frozen 1
    simp at c00 c01
    go_upto_if 29 with (fail)
    go_cut [7] (fun v7 wx => v7 = .bool (fitB z n) ∧ FinA w z n wx)
    case first =>
      cases s with
      | false =>
        have hF : FinA w z n wc := by
          obtain ⟨hd1, hd2⟩ := unhide HD
          have hz1 : ¬ z < 0 := by simpa using hd1.symm
          exact ⟨false, A, c, l, k0c, (unhide hMg).below hbwc, unhide HS, hl, by rw [hd2, Int.natAbs_of_nonneg (by omega)], hbwc⟩
        go_wp2_with fail
        all_goals go_meet
        exact ⟨rfl, hF⟩
      | true =>
        go_upto_region 4 with (fail)
        have hL := hide (fun (W : World) (h : Below wc.heap.size wc W) => (show W.cell? ⟨w.heap.size, 0, none⟩ = some (.bool true) ∧ W.cell? ⟨w.heap.size, 1, none⟩ = some (.slice A l.length c) ∧ Below wc.heap.size wc W from
          ⟨by have := (k0c.below h).cell 0; simpa using this, by have := (k0c.below h).cell 1; simpa using this, h⟩))
        have hDv := hide (fun (W : World) (u : Value) (h : Below wc.heap.size wc W) (hu : Wd W u (2 ^ (64 * n))) => WideDiv_any W _ u z (2 ^ (64 * n)) ((unhide hst) W (below_tr hbwc h hbwc.size)) hu (by have := p2_pos (64 * n); omega))
        have hw64 : IntKind.i64.wrap (64 * (n : Int)) = 64 * (n : Int) := IntWalk.i64_in _ (by omega)
        have hlt0 : w.heap.size < wc.heap.size := k0c.lt
        have hB0 : Below wc.heap.size wc wc := Below.refl _ _
        obtain ⟨wa, rfl⟩ : ∃ wa : World, wa = wc := ⟨_, rfl⟩
        go_cut [8, 9] (fun v8 v9 wx => RemBox wa (z.tmod (2 ^ (64 * n))) v9 wx)
        case first =>
          go_region_held3 (fun W => W.cell? ⟨w.heap.size, 0, none⟩ = some (.bool true) ∧ W.cell? ⟨w.heap.size, 1, none⟩ = some (.slice A l.length c) ∧ Below wa.heap.size wa W)
            (first | ((try go_split_ands); (try dsimp only); refine (unhide hL) _ ?_; (repeat' (first | assumption | exact Below.refl _ _ | apply bdrew | (refine Below.alloc ?_ (by first | omega | (simp; done) | (simp; omega)) _) | (refine Below.setCell ?_ (by first | omega | (simp; done) | (simp; omega)) _) | (refine below_tr ?_ hb3 (by first | omega | (simp; done) | (simp; omega))) | (refine below_tr ?_ hb2 (by first | omega | (simp; done) | (simp; omega)))))))
            (first
              | (go_at_call 20; (with_reducible refine ((unhide hT2) _).mono ?_); rintro e w2 ⟨x2, rfl, hx2, hb2⟩; have hz2 := hb2.size; (try simp at hz2); (try (have ne20 : ¬ (wa.heap.size = w2.heap.size) := by omega)); (try (have ne21 : ¬ (wa.heap.size + 1 = w2.heap.size) := by omega)); (try (have ka1 : Blk w2 (wa.heap.size) 29 #[.bool false, .slice none 0 0] := Blk.below (w := _) (by first | (refine Blk.new _ _ ?_; first | rfl | (simp; done)) | (refine Blk.alloc (Blk.new _ _ ?_) _; first | rfl | (simp; done))) hb2; have fka1 := blk_facts ka1)); (try (have ka2 : Blk w2 (wa.heap.size + 1) 29 #[.bool false, .slice none 0 0] := Blk.below (w := _) (by first | (refine Blk.new _ _ ?_; first | rfl | (simp; done)) | (refine Blk.alloc (Blk.new _ _ ?_) _; first | rfl | (simp; done))) hb2; have fka2 := blk_facts ka2)))
              | (go_at_call 32; (with_reducible refine ((unhide hDv) _ _ (by (try go_split_ands); (repeat' (first | assumption | exact Below.refl _ _ | apply bdrew | (refine Below.alloc ?_ (by first | omega | (simp; done) | (simp; omega)) _) | (refine below_tr ?_ hb2 (by first | omega | (simp; done) | (simp; omega)))))) (by first | assumption | exact hx2.below ((Below.refl _ _).alloc (Nat.le_refl _) _) | exact hx2.below (((Below.refl _ _).alloc (Nat.le_refl _) _).alloc (by simp) _))).mono ?_); rintro e w3 ⟨x3, x4, rfl, hx3, hx4, hb3⟩; obtain ⟨s3, A3, n3, c3, rfl⟩ := hx3.form; obtain ⟨s4, A4, n4, c4, rfl⟩ := hx4.form; have hz3 := hb3.size; (try simp at hz3); (try (have ne30 : ¬ (wa.heap.size = w3.heap.size) := by omega)); (try (have ne31 : ¬ (wa.heap.size + 1 = w3.heap.size) := by omega)); (try (have ne32 : ¬ (w2.heap.size = w3.heap.size) := by omega)); (try (have ne33 : ¬ (w2.heap.size + 1 = w3.heap.size) := by omega)); (try (have kb1 : Blk w3 (wa.heap.size) 29 #[.bool false, .slice none 0 0] := Blk.below (w := _) (by first | exact ka1 | exact ka1.alloc _ | exact (ka1.alloc _).alloc _) hb3; have fkb1 := blk_facts kb1)); (try (have kb2 : Blk w3 (wa.heap.size + 1) 29 #[.bool false, .slice none 0 0] := Blk.below (w := _) (by first | exact ka2 | exact ka2.alloc _ | exact (ka2.alloc _).alloc _) hb3; have fkb2 := blk_facts kb2)); (try (have kc1 : Blk w3 (w2.heap.size) 29 #[.bool false, .slice none 0 0] := Blk.below (w := _) (by first | (refine Blk.new _ _ ?_; first | rfl | (simp; done)) | (refine Blk.alloc (Blk.new _ _ ?_) _; first | rfl | (simp; done))) hb3; have fkc1 := blk_facts kc1)); (try (have kc2 : Blk w3 (w2.heap.size + 1) 29 #[.bool false, .slice none 0 0] := Blk.below (w := _) (by first | (refine Blk.new _ _ ?_; first | rfl | (simp; done)) | (refine Blk.alloc (Blk.new _ _ ?_) _; first | rfl | (simp; done))) hb3; have fkc2 := blk_facts kc2))))
          all_goals (go_wp2_with fail; go_meet)
          all_goals
            refine ⟨_, s4, A4, n4, c4, rfl, ?_, ?_, ?_, ?_, by (try go_split_ands); assumption⟩
            · first | omega | (simp; done) | (simp; omega)
            · first | (simp [go_sem]; done) | (simp [*, go_sem]; done)
            · first | (simp [go_sem]; done) | (simp [*, go_sem]; done)
            · repeat' (first | exact hx4 | (refine Wd.far (t := 29) ?_ ?_ (by decide) _ _) | (refine Wd.below ?_ ((Below.refl _ _).alloc (Nat.le_refl _) _)) | exact kb1.tyb | exact kb2.tyb | exact kc1.tyb | exact kc2.tyb | (refine Tyb.new _ _ _ ?_; first | rfl | (simp; done)) | (refine Tyb.set ?_ _ _ _) | (refine Tyb.alloc ?_ _))
        case rest =>
          obtain ⟨g9, s4, A4, n4, c4, rfl, hg9, q90, q91, hwd9, hbl9⟩ := hcut
          have hK5 : K5 w g9 (.bool s4) (.slice A4 n4 c4) (z.tmod (2 ^ (64 * n))) wc := ⟨q90, q91, by omega, ⟨_, _, k0c.below hbl9⟩, below_tr hbwc hbl9 hbwc.size, hwd9⟩
          have hL5 := hide (fun (W : World) (h : K5 w g9 (.bool s4) (.slice A4 n4 c4) (z.tmod (2 ^ (64 * n))) W) => (show W.cell? ⟨g9, 0, none⟩ = some (.bool s4) ∧ W.cell? ⟨g9, 1, none⟩ = some (.slice A4 n4 c4) ∧ K5 w g9 (.bool s4) (.slice A4 n4 c4) (z.tmod (2 ^ (64 * n))) W from ⟨h.1, h.2.1, h⟩))
          obtain ⟨tf1, tf2, tf3, tf4⟩ := tmod_fix z n
          have hbt := pow_bp (64 * n) 99 (by omega)
          have hAd := hide (fun (W : World) (u : Value) (h : K5 w g9 (.bool s4) (.slice A4 n4 c4) (z.tmod (2 ^ (64 * n))) W) (hu : Wd W u (2 ^ (64 * n))) => WideAdd_any W _ u _ _ h.2.2.2.2.2 hu (by omega) (by omega) (by omega) (by omega))
          have hFn := hide (fun (W : World) (x a : Value) (hx : Wd W (.agg #[x, a]) (z.tmod (2 ^ (64 * n)) + 2 ^ (64 * n))) (h : K5 w g9 (.bool s4) (.slice A4 n4 c4) (z.tmod (2 ^ (64 * n))) W) => fina_of (w := w) (z := z) (n := n) hx h.2.2.2.1 h.2.2.2.2.1 tf1 tf2)
          clear tf1 tf2 tf3 tf4 hbt hL hDv k0c hbwc hbl9 hwd9 c00 c01 f00 f01
          go_upto_region 5 with (fail)
          go_region_held3 (fun W => W.cell? ⟨g9, 0, none⟩ = some (.bool s4) ∧ W.cell? ⟨g9, 1, none⟩ = some (.slice A4 n4 c4) ∧ K5 w g9 (.bool s4) (.slice A4 n4 c4) (z.tmod (2 ^ (64 * n))) W)
            (first | ((try go_split_ands); (try dsimp only); refine (unhide hL5) _ ?_; first | exact K5.drew (by assumption) | exact K5.below (by assumption) hb5 | exact K5.below (by assumption) hb6 | exact K5.store (by assumption) _ _))
            (first
              | (go_at_call 20; (with_reducible refine ((unhide hT2) _).mono ?_); rintro e w5 ⟨x5, rfl, hx5, hb5⟩)
              | (go_at_call 33; (with_reducible refine ((unhide hAd) _ _ (by go_split_ands; assumption) (by assumption)).mono ?_); rintro e w6 ⟨x6, rfl, hx6, hb6⟩; obtain ⟨s6, A6, n6, c6, rfl⟩ := hx6.form; have hk6 := K5.below (by go_split_ands; assumption) hb6; obtain ⟨a7, b7, q7, q8, p7, p8⟩ := K5.facts hk6))
          have HF := hide ((unhide hFn) _ _ _ hx6 hk6)
          go_wp2_with fail
          all_goals go_meet
          exact ⟨rfl, unhide HF⟩
    case rest =>
      obtain ⟨rfl, s', A', c', l', hbox, hmg, hs', hl', hmod, hbel⟩ := hcut
      have hmk := make_u64 n (by omega) wc
      have hend := hide (fun (wr : World) (G : Nat) (h : TwK w G n s' A' c' l' n 0 wr) => (show PTw w z n (.returned (.tuple #[.slice (some ⟨G, 0, none⟩) n n, .bool (fitB z n)])) wr by
        obtain ⟨h1, h2, h3, h4, h5⟩ := h
        rw [prt_end hs' hmod] at h1
        have h6 := blk_rd h1 (by rw [twos_length]; omega)
        rw [twos_length] at h6
        exact ⟨_, rfl, h6.1, h6.2, h4⟩))
      have hsz := hbox.lt
      have hK0 : TwK w wc.heap.size n s' A' c' l' 0 0 (wc.alloc (.cells (ivs .u64 (List.replicate n 0)).toArray 23)) := by
        refine ⟨by rw [prt_start]; exact Blk.new _ _ rfl, hbox.alloc _, hmg.below ((Below.refl _ _).alloc (Nat.le_refl _) _), hbel.alloc hbel.size _, hsz⟩
      have HS' := hide hs'
      have HK0 := hide hK0
      clear hs' hmod hK0 hmg hbox hbel
      go_upto_region 7 with (fail)
      have hK0 := unhide HK0
      clear HK0 hmk
      generalize (wc.alloc (.cells (ivs .u64 (List.replicate n 0)).toArray 23)) = w8 at hK0 ⊢
      generalize wc.heap.size = G at hK0 hsz ⊢
      go_wp2
      go_loopw [47] (TwRel w G n s' A' c' l') (fun v _ => n - (intOf v).toNat)
      case atStart => exact ⟨0, Nat.zero_le _, rfl, hK0⟩
      case round =>
        obtain ⟨i, hi, rfl, hk⟩ := hrel
        by_cases hlt : i < n
        · go_wp2
          obtain ⟨wo, rfl⟩ : ∃ wo : World, wo = wr := ⟨_, rfl⟩
          go_loopw [12] (TwIn w G n s' A' c' l' i) (fun v _ => 2 - (intOf v).toNat)
          case atStart => exact ⟨0, by omega, rfl, hk⟩
          case round =>
            obtain ⟨k, hk2, rfl, hkk⟩ := hrel
            obtain ⟨b1, b2, b3, b4, b5⟩ := hkk
            have p0 := b2.cell 0
            have p1 := b2.cell 1
            simp at p0 p1
            have hkk : TwK w G n s' A' c' l' i k wr := ⟨b1, b2, b3, b4, b5⟩
            have cg := b1.cell i
            rw [ivs_get _ _ _ (by rw [prt_length]; exact hlt), prt_get _ _ _ _ _ hlt, if_neg (by omega), if_pos rfl] at cg
            have fg := b1.frozen i
            obtain ⟨g1, g2⟩ := sm_get (unhide HS') (2 * i + k)
            have hst2 := hide (fun (x : Int) (hx : x = wdd l' i (k + 1)) => hkk.store hlt x hx)
            have hsame := hide (fun (h : wdd l' i (k + 1) = wdd l' i k) => (show TwK w G n s' A' c' l' i (k + 1) wr from ⟨by rw [prt_same _ _ _ _ h]; exact b1, b2, b3, b4, b5⟩))
            by_cases hk3 : k < 2
            · by_cases hlen : 2 * i + k < l'.length
              · obtain ⟨bb, off, cc, ee, ck⟩ := wd_get b3.1 (2 * i + k) hlen
                injection ee with ee e2 e3
                subst ee e3
                have hval := or_step (unhide HS') i k hk3
                have HVAL := hide hval
                clear e2 b1 b2 b3 b4 b5 hk hsame hkk hval
                have hx1 : IntKind.i64.wrap (2 * (i : Int)) = 2 * (i : Int) := IntWalk.i64_in _ (by omega)
                have hx2 : IntKind.i64.wrap (2 * (i : Int) + (k : Int)) = 2 * (i : Int) + (k : Int) := IntWalk.i64_in _ (by omega)
                have hx3 : (2 * (i : Int) + (k : Int)).toNat = 2 * i + k := by omega
                have hx4 : IntKind.i64.wrap (32 * (k : Int)) = 32 * (k : Int) := IntWalk.i64_in _ (by omega)
                have hx5 : (2 : Int) * (i : Int) + (k : Int) < (l'.length : Int) := by omega
                have hx6 : (0 : Int) ≤ 2 * (i : Int) + (k : Int) := by omega
                have hx7 : (i : Int) < (n : Int) := by omega
                generalize l'.getD (2 * i + k) 0 = dd at ck g1 g2 HVAL
                go_upto_region 14 with (fail)
                go_region
                have hF2 := hide ((unhide hst2) _ (unhide HVAL))
                generalize bits .or .u64 (wdd l' i k) (IntKind.u64.wrap (dd * 2 ^ (32 * k))) = zz at hF2 ⊢
                generalize ((wr.setCell ⟨G, i, none⟩ (.int .u64 zz)).drew) = w9 at hF2 ⊢
                have HF2 := hide (show TwIn w G n s' _ _ l' i (.int .i64 ((k : Int) + 1)) w9 from ⟨k + 1, by omega, by simp, unhide hF2⟩)
                clear hF2 hst2 HVAL cg fg ck
                go_wp2
                go_roundw
                case rel => exact unhide HF2
                case measure => simp [intOf]; omega
              · have hz0 : l'.getD (2 * i + k) 0 = 0 := by rw [List.getD_eq_getElem?_getD, List.getElem?_eq_none (by omega)]; rfl
                have hF := hide ((unhide hsame) (wdd_zero l' i k hk3 hz0))
                have HF2 := hide (show TwIn w G n s' A' c' l' i (.int .i64 ((k : Int) + 1)) wr from ⟨k + 1, by omega, by simp, unhide hF⟩)
                clear b1 b2 b3 b4 b5 hk hkk hz0 hsame hst2 hF
                go_wp2
                go_roundw
                case rel => exact unhide HF2
                case measure => simp [intOf]; omega
            · obtain rfl : k = 2 := by omega
              have HF := hide (show TwRel w G n s' A' c' l' (.int .i64 ((i : Int) + 1)) wr from ⟨i + 1, by omega, by simp, by rw [← prt_next]; exact b1, b2, b3, b4, b5⟩)
              clear b1 b2 b3 b4 b5 hk hkk hsame hst2
              go_wp2
              go_roundw
              case rel => exact unhide HF
              case measure => simp [intOf]; omega
        · obtain rfl : i = n := by omega
          have HF := hide ((unhide hend) wr G hk)
          clear hk hend
          go_wp2
          go_ret2
          exact unhide HF
end Go.Proofs.YtfalicipocbcoaaGreatDoor
