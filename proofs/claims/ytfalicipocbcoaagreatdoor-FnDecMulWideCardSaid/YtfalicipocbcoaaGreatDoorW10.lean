/- Exact integers: quotients cut towards zero. (YtfalicipocbcoaaGreatDoor) -/
import Derived.Test.YtfalicipocbcoaaGreatDoorW9
set_option linter.unusedVariables false
set_option linter.unusedSimpArgs false
namespace Go.Proofs.YtfalicipocbcoaaGreatDoor
open Go.RowKit Go.ChangeShapes Go.WideShapes Go.ChangeAt
attribute [local go_sem ↓] Go.wp_at_zero Go.wp_at_succ
def PQR (w : World) (x y : Int) (e : Ending) (w' : World) : Prop := ∃ u v, e = .returned (.tuple #[u, v]) ∧ Wd w' u (x.tdiv y) ∧ Wd w' v (x.tmod y) ∧ Below w.heap.size w w'
theorem wv_tdiv {s t : Bool} {a b q r : List Int} (ha : Sm a) (hb : Sm b) (h0 : 0 < dv b) (hq : dv q = dv a / dv b) (hr : dv r = dv a % dv b) : wv (s != t) q = (wv s a).tdiv (wv t b) ∧ wv s r = (wv s a).tmod (wv t b) := by
  have h1 := dv_nn ha
  have e1 : (dv a).tdiv (dv b) = dv a / dv b := Int.tdiv_eq_ediv_of_nonneg h1
  have e2 : (dv a).tmod (dv b) = dv a % dv b := Int.tmod_eq_emod_of_nonneg h1
  cases s <;> cases t <;> simp [wv, Int.neg_tdiv, Int.tdiv_neg, Int.neg_tmod, Int.tmod_neg, e1, e2, hq, hr]
def KD (w1 : World) (B : Nat) (xq xr : Value) (q r : List Int) (W : World) : Prop :=
  Below B w1 W ∧ (∃ a b, Blk W B 29 #[a, b]) ∧ (∃ a b, Blk W (B + 1) 29 #[a, b]) ∧ Mg W xq q ∧ Mg W xr r
theorem KD.drew {w1 W : World} {B : Nat} {xq xr : Value} {q r : List Int} (h : KD w1 B xq xr q r W) : KD w1 B xq xr q r W.drew := by
  obtain ⟨h1, h2, h3, h4, h5⟩ := h
  exact ⟨bdrew h1, h2, h3, h4.below (bdrew (Below.refl _ _)), h5.below (bdrew (Below.refl _ _))⟩
theorem KD.below {w1 W W1 : World} {B : Nat} {xq xr : Value} {q r : List Int} (h : KD w1 B xq xr q r W) (hb : Below W.heap.size W W1) : KD w1 B xq xr q r W1 := by
  obtain ⟨h1, ⟨a, b, h2⟩, ⟨a', b', h3⟩, h4, h5⟩ := h
  have := h2.lt
  exact ⟨below_tr h1 hb (by omega), ⟨a, b, h2.below hb⟩, ⟨a', b', h3.below hb⟩, h4.below hb, h5.below hb⟩
theorem KD.store {w1 W : World} {B : Nat} {xq xr : Value} {q r : List Int} (h : KD w1 B xq xr q r W) (g : Nat) (hg : g = B ∨ g = B + 1) (x y : Value) : KD w1 B xq xr q r ((W.setCell ⟨g, 0, none⟩ x).setCell ⟨g, 1, none⟩ y) := by
  obtain ⟨h1, ⟨a, b, h2⟩, ⟨a', b', h3⟩, h4, h5⟩ := h
  have ht : Tyb W g 29 := by rcases hg with rfl | rfl; exact h2.tyb; exact h3.tyb
  refine ⟨(h1.setCell (by simp; omega) _).setCell (by simp; omega) _, ?_, ?_, (h4.far ht (by decide) 0 x).far (ht.set g 0 x) (by decide) 1 y, (h5.far ht (by decide) 0 x).far (ht.set g 0 x) (by decide) 1 y⟩
  · rcases hg with rfl | rfl
    · exact ⟨x, y, by have := (h2.set 0 x).set 1 y; simpa using this⟩
    · exact ⟨a, b, (h2.other (a := ⟨B + 1, 0, none⟩) (by simp) x).other (a := ⟨B + 1, 1, none⟩) (by simp) y⟩
  · rcases hg with rfl | rfl
    · exact ⟨a', b', (h3.other (a := ⟨g, 0, none⟩) (by simp) x).other (a := ⟨g, 1, none⟩) (by simp) y⟩
    · exact ⟨x, y, by have := (h3.set 0 x).set 1 y; simpa using this⟩
theorem KD.facts {w1 W : World} {B : Nat} {xq xr : Value} {q r : List Int} (h : KD w1 B xq xr q r W) : ∃ a b a' b', W.cell? ⟨B, 0, none⟩ = some a ∧ W.cell? ⟨B, 1, none⟩ = some b ∧ W.cell? ⟨B + 1, 0, none⟩ = some a' ∧ W.cell? ⟨B + 1, 1, none⟩ = some b' ∧
    W.frozen? ⟨B, 0, none⟩ = false ∧ W.frozen? ⟨B, 1, none⟩ = false ∧ W.frozen? ⟨B + 1, 0, none⟩ = false ∧ W.frozen? ⟨B + 1, 1, none⟩ = false := by
  obtain ⟨h1, ⟨a, b, h2⟩, ⟨a', b', h3⟩, h4, h5⟩ := h
  exact ⟨a, b, a', b', by have := h2.cell 0; simpa using this, by have := h2.cell 1; simpa using this, by have := h3.cell 0; simpa using this, by have := h3.cell 1; simpa using this, h2.frozen 0, h2.frozen 1, h3.frozen 0, h3.frozen 1⟩
theorem pqr_fin {w W : World} {B : Nat} {x y : Int} {s1 a1 s2 a2 : Value} {z1 z2 : Int} (h1 : Wd W (.agg #[s1, a1]) z1) (h2 : Wd W (.agg #[s2, a2]) z2) (hz1 : z1 = x.tdiv y) (hz2 : z2 = x.tmod y) (hk : ∃ a b, Blk W B 29 #[a, b]) (hk' : ∃ a b, Blk W (B + 1) 29 #[a, b]) (hb : Below w.heap.size w W) (hB : w.heap.size ≤ B) :
    PQR w x y (.returned (.tuple #[.agg #[s1, a1], .agg #[s2, a2]])) ((((W.setCell ⟨B, 0, none⟩ s1).setCell ⟨B, 1, none⟩ a1).setCell ⟨B + 1, 0, none⟩ s2).setCell ⟨B + 1, 1, none⟩ a2) := by
  subst hz1 hz2
  obtain ⟨_, _, hk⟩ := hk
  obtain ⟨_, _, hk'⟩ := hk'
  have t1 := hk.tyb
  have t2 := hk'.tyb
  refine ⟨_, _, rfl, ?_, ?_, ?_⟩
  · exact (((h1.far t1 (by decide) 0 s1).far (t1.set _ _ _) (by decide) 1 a1).far ((t2.set _ _ _).set _ _ _) (by decide) 0 s2).far (((t2.set _ _ _).set _ _ _).set _ _ _) (by decide) 1 a2
  · exact (((h2.far t1 (by decide) 0 s1).far (t1.set _ _ _) (by decide) 1 a1).far ((t2.set _ _ _).set _ _ _) (by decide) 0 s2).far (((t2.set _ _ _).set _ _ _).set _ _ _) (by decide) 1 a2
  · exact (((hb.setCell (by simp; omega) _).setCell (by simp; omega) _).setCell (by simp; omega) _).setCell (by simp; omega) _
set_option maxRecDepth 100000 in
set_option maxHeartbeats 8000000 in
theorem WideDiv_any (w : World) (u v : Value) (x y : Int) (hu : Wd w u x) (hv : Wd w v y) (hy : y ≠ 0) :
    Calls Tryz.prog 32 #[u, v] w (PQR w x y) := by
  obtain ⟨s, a, u, rfl, hu, hsa, hta, hna, hxa, hla⟩ := hu
  obtain ⟨s', b, v, rfl, hv, hsb, htb, hnb, hyb, hlb⟩ := hv
  have h0 : 0 < dv b := by
    have := dv_nn hsb
    have : dv b ≠ 0 := by intro e; apply hy; rw [← hyb]; unfold wv; rw [e]; split <;> rfl
    omega
  have hD := hide (fun (W : World) (h : Below w.heap.size w W) => magDiv_any W u v a b (hu.below h) (hv.below h) hsa hsb hta htb h0 (by omega) (by omega))
  have hWV := hide (fun (q r : List Int) hq hr => wv_tdiv (s := s) (t := s') hsa hsb h0 (q := q) (r := r) hq hr)
  obtain ⟨⟨A, c, rfl, hc, _⟩, _⟩ := hu
  obtain ⟨⟨A', c', rfl, hc', _⟩, _⟩ := hv
  have HX := hide hxa
  have HY := hide hyb
  have HAB := hide (show dv a < bp 100 by have := dv_lt hsa; have := bp_le hla; omega)
  have HBB := hide (show dv b < bp 100 by have := dv_lt hsb; have := bp_le hlb; omega)
  have HN := hide (And.intro (dv_nn hsa) h0)
  clear hsa hta hna hxa hla hsb htb hnb hyb hlb hy h0 hc hc'
  go_enter Tryz.func32, Tryz.ntmps32
  go_wp2_with fail
  refine ((unhide hD) _ (by first | exact ((((Below.refl _ _).alloc (Nat.le_refl _) _).alloc (by simp) _).alloc (by simp; omega) _).alloc (by simp; omega) _)).mono ?_
  rintro e w1 ⟨xq, xr, q, r, rfl, hgq, hsq, htq, hzq, hgr, hsr, htr, hzr, hb1⟩
  have k0 : Blk w1 w.heap.size 29 #[.bool s, .slice A a.length c] := ((((Blk.new (w := w) (g := w.heap.size) 29 _ rfl).alloc _).alloc _).alloc _).below hb1
  have k1 : Blk w1 (w.heap.size + 1) 29 #[.bool s', .slice A' b.length c'] := (((Blk.new (w := w.alloc _) (g := w.heap.size + 1) 29 _ (by simp)).alloc _).alloc _).below hb1
  have k2 : Blk w1 (w.heap.size + 2) 29 #[.bool false, .slice none 0 0] := ((Blk.new (w := (w.alloc _).alloc _) (g := w.heap.size + 2) 29 _ (by simp)).alloc _).below hb1
  have k3 : Blk w1 (w.heap.size + 3) 29 #[.bool false, .slice none 0 0] := (Blk.new (w := ((w.alloc _).alloc _).alloc _) (g := w.heap.size + 3) 29 _ (by simp)).below hb1
  have hBW : Below w.heap.size w w1 := by
    refine below_tr ((((Below.refl w.heap.size w).alloc (Nat.le_refl _) _).alloc (by simp) _).alloc (by simp; omega) _ |>.alloc (by simp; omega) _) hb1 (by simp; omega)
  have hK0 : KD w1 (w.heap.size + 2) xq xr q r w1 := ⟨Below.refl _ _, ⟨_, _, k2⟩, ⟨_, _, k3⟩, hgq, hgr⟩
  have hL := hide (fun (W : World) (h : KD w1 (w.heap.size + 2) xq xr q r W) => (show W.cell? ⟨w.heap.size, 0, none⟩ = some (.bool s) ∧ W.cell? ⟨w.heap.size + 1, 0, none⟩ = some (.bool s') ∧ KD w1 (w.heap.size + 2) xq xr q r W from
    ⟨by have := (k0.below' h.1 (by omega)).cell 0; simpa using this, by have := (k1.below' h.1 (by omega)).cell 0; simpa using this, h⟩))
  have hzz := (unhide hWV) q r hzq hzr
  have hqb : dv q < bp 100 := by
    have h1 := unhide HAB
    have h2 := (unhide HN).1
    have h3 := (unhide HN).2
    rw [hzq]
    have := Int.ediv_le_self (dv b) h2
    omega
  have hrb : dv r < bp 100 := by
    have h1 := unhide HBB
    rw [hzr]
    have := Int.emod_lt_of_pos (dv a) (unhide HN).2
    omega
  have hW1 := hide (fun (W : World) (t : Bool) (h : KD w1 (w.heap.size + 2) xq xr q r W) => wide_any W t xq q h.2.2.2.1 hsq hqb)
  have hW2 := hide (fun (W : World) (t : Bool) (h : KD w1 (w.heap.size + 2) xq xr q r W) => wide_any W t xr r h.2.2.2.2 hsr hrb)
  have hF := hide (fun (W : World) (s1 a1 s2 a2 : Value) (z1 z2 : Int) (h1 : Wd W (.agg #[s1, a1]) z1) (h2 : Wd W (.agg #[s2, a2]) z2) (hz1 : z1 = x.tdiv y) (hz2 : z2 = x.tmod y) (hk : KD w1 (w.heap.size + 2) xq xr q r W) =>
    pqr_fin (B := w.heap.size + 2) h1 h2 hz1 hz2 hk.2.1 hk.2.2.1 (hBW.trans (hk.1.mono (by omega))) (by omega))
  rw [unhide HX, unhide HY] at hzz
  have HZZ := hide hzz
  obtain ⟨e1, e2, _⟩ := (unhide hL) w1 hK0
  clear k0 k1 k2 k3 hb1 hgq hsq htq hzq hgr hsr htr hzr hqb hrb hzz hBW hD HAB HBB HN hWV
  cases s <;> cases s'
  · go_upto_region 2 with (fail)
    go_region_held3 (fun W => W.cell? ⟨w.heap.size, 0, none⟩ = some (.bool false) ∧ W.cell? ⟨w.heap.size + 1, 0, none⟩ = some (.bool false) ∧ KD w1 (w.heap.size + 2) xq xr q r W)
      (first | ((try go_split_ands); (try dsimp only); refine (unhide hL) _ ?_; first | exact KD.drew (by assumption) | exact KD.below (by assumption) hb2 | exact KD.below (by assumption) hb3 | exact KD.store (by assumption) (w.heap.size + 2) (.inl rfl) _ _ | exact KD.store (by assumption) (w.heap.size + 2 + 1) (.inr rfl) _ _))
      (first
        | (go_at_call 16; (with_reducible refine ((unhide hW1) _ _ (by go_split_ands; assumption)).mono ?_); rintro e w2 ⟨x1, rfl, hx1, hb2⟩; obtain ⟨s3, A3, n3, c3, rfl⟩ := hx1.form)
        | (go_at_call 16; (with_reducible refine ((unhide hW2) _ _ (by go_split_ands; assumption)).mono ?_); rintro e w3 ⟨x2, rfl, hx2, hb3⟩; obtain ⟨s4, A4, n4, c4, rfl⟩ := hx2.form; have hk3 := KD.below (by go_split_ands; assumption) hb3; obtain ⟨a5, b5, a6, b6, c5, c6, c7, c8, f5, f6, f7, f8⟩ := KD.facts hk3))
    go_wp2
    refine bodyPost_ret (v := .tuple #[.agg #[.bool s3, .slice A3 n3 c3], .agg #[.bool s4, .slice A4 n4 c4]]) (by simp [results, Tryz.results32, go_sem, c5, c6, c7, c8]) rfl ?_
    exact (unhide hF) w3 _ _ _ _ _ _ (hx1.below hb3) hx2 (unhide HZZ).1 (unhide HZZ).2 hk3
  · go_upto_region 2 with (fail)
    go_region_held3 (fun W => W.cell? ⟨w.heap.size, 0, none⟩ = some (.bool false) ∧ W.cell? ⟨w.heap.size + 1, 0, none⟩ = some (.bool true) ∧ KD w1 (w.heap.size + 2) xq xr q r W)
      (first | ((try go_split_ands); (try dsimp only); refine (unhide hL) _ ?_; first | exact KD.drew (by assumption) | exact KD.below (by assumption) hb2 | exact KD.below (by assumption) hb3 | exact KD.store (by assumption) (w.heap.size + 2) (.inl rfl) _ _ | exact KD.store (by assumption) (w.heap.size + 2 + 1) (.inr rfl) _ _))
      (first
        | (go_at_call 16; (with_reducible refine ((unhide hW1) _ _ (by go_split_ands; assumption)).mono ?_); rintro e w2 ⟨x1, rfl, hx1, hb2⟩; obtain ⟨s3, A3, n3, c3, rfl⟩ := hx1.form)
        | (go_at_call 16; (with_reducible refine ((unhide hW2) _ _ (by go_split_ands; assumption)).mono ?_); rintro e w3 ⟨x2, rfl, hx2, hb3⟩; obtain ⟨s4, A4, n4, c4, rfl⟩ := hx2.form; have hk3 := KD.below (by go_split_ands; assumption) hb3; obtain ⟨a5, b5, a6, b6, c5, c6, c7, c8, f5, f6, f7, f8⟩ := KD.facts hk3))
    go_wp2
    refine bodyPost_ret (v := .tuple #[.agg #[.bool s3, .slice A3 n3 c3], .agg #[.bool s4, .slice A4 n4 c4]]) (by simp [results, Tryz.results32, go_sem, c5, c6, c7, c8]) rfl ?_
    exact (unhide hF) w3 _ _ _ _ _ _ (hx1.below hb3) hx2 (unhide HZZ).1 (unhide HZZ).2 hk3
  · go_upto_region 2 with (fail)
    go_region_held3 (fun W => W.cell? ⟨w.heap.size, 0, none⟩ = some (.bool true) ∧ W.cell? ⟨w.heap.size + 1, 0, none⟩ = some (.bool false) ∧ KD w1 (w.heap.size + 2) xq xr q r W)
      (first | ((try go_split_ands); (try dsimp only); refine (unhide hL) _ ?_; first | exact KD.drew (by assumption) | exact KD.below (by assumption) hb2 | exact KD.below (by assumption) hb3 | exact KD.store (by assumption) (w.heap.size + 2) (.inl rfl) _ _ | exact KD.store (by assumption) (w.heap.size + 2 + 1) (.inr rfl) _ _))
      (first
        | (go_at_call 16; (with_reducible refine ((unhide hW1) _ _ (by go_split_ands; assumption)).mono ?_); rintro e w2 ⟨x1, rfl, hx1, hb2⟩; obtain ⟨s3, A3, n3, c3, rfl⟩ := hx1.form)
        | (go_at_call 16; (with_reducible refine ((unhide hW2) _ _ (by go_split_ands; assumption)).mono ?_); rintro e w3 ⟨x2, rfl, hx2, hb3⟩; obtain ⟨s4, A4, n4, c4, rfl⟩ := hx2.form; have hk3 := KD.below (by go_split_ands; assumption) hb3; obtain ⟨a5, b5, a6, b6, c5, c6, c7, c8, f5, f6, f7, f8⟩ := KD.facts hk3))
    go_wp2
    refine bodyPost_ret (v := .tuple #[.agg #[.bool s3, .slice A3 n3 c3], .agg #[.bool s4, .slice A4 n4 c4]]) (by simp [results, Tryz.results32, go_sem, c5, c6, c7, c8]) rfl ?_
    exact (unhide hF) w3 _ _ _ _ _ _ (hx1.below hb3) hx2 (unhide HZZ).1 (unhide HZZ).2 hk3
  · go_upto_region 2 with (fail)
    go_region_held3 (fun W => W.cell? ⟨w.heap.size, 0, none⟩ = some (.bool true) ∧ W.cell? ⟨w.heap.size + 1, 0, none⟩ = some (.bool true) ∧ KD w1 (w.heap.size + 2) xq xr q r W)
      (first | ((try go_split_ands); (try dsimp only); refine (unhide hL) _ ?_; first | exact KD.drew (by assumption) | exact KD.below (by assumption) hb2 | exact KD.below (by assumption) hb3 | exact KD.store (by assumption) (w.heap.size + 2) (.inl rfl) _ _ | exact KD.store (by assumption) (w.heap.size + 2 + 1) (.inr rfl) _ _))
      (first
        | (go_at_call 16; (with_reducible refine ((unhide hW1) _ _ (by go_split_ands; assumption)).mono ?_); rintro e w2 ⟨x1, rfl, hx1, hb2⟩; obtain ⟨s3, A3, n3, c3, rfl⟩ := hx1.form)
        | (go_at_call 16; (with_reducible refine ((unhide hW2) _ _ (by go_split_ands; assumption)).mono ?_); rintro e w3 ⟨x2, rfl, hx2, hb3⟩; obtain ⟨s4, A4, n4, c4, rfl⟩ := hx2.form; have hk3 := KD.below (by go_split_ands; assumption) hb3; obtain ⟨a5, b5, a6, b6, c5, c6, c7, c8, f5, f6, f7, f8⟩ := KD.facts hk3))
    go_wp2
    refine bodyPost_ret (v := .tuple #[.agg #[.bool s3, .slice A3 n3 c3], .agg #[.bool s4, .slice A4 n4 c4]]) (by simp [results, Tryz.results32, go_sem, c5, c6, c7, c8]) rfl ?_
    exact (unhide hF) w3 _ _ _ _ _ _ (hx1.below hb3) hx2 (unhide HZZ).1 (unhide HZZ).2 hk3
end Go.Proofs.YtfalicipocbcoaaGreatDoor
