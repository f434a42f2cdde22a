/- Lists of pairs become metadata: keys and values. (YtconkcjcjdmidaaGreatDoor) -/
import Derived.Test.YtconkcjcjdmidaaGreatDoorT2
set_option linter.unusedVariables false
set_option linter.unusedSimpArgs false
namespace Go.Proofs.YtconkcjcjdmidaaGreatDoor
open Go.RowKit Go.ChangeShapes Go.WideShapes Go.ChangeAt Go
attribute [local go_sem ↓] Go.wp_at_zero Go.wp_at_succ
def ks (l : List Pr) : List Value := l.map fun p => .string p.1
def vs (l : List Pr) : List Value := l.map fun p => .string p.2
theorem ks_snoc (l : List Pr) (k : Nat) (h : k < l.length) : ks (l.take (k + 1)) = ks (l.take k) ++ [.string (l.getD k dP).1] := by
  rw [List.take_succ_eq_append_getElem h, List.getD_eq_getElem?_getD, List.getElem?_eq_getElem h]
  simp only [ks, List.map_append, List.map_cons, List.map_nil, Option.getD_some]
theorem vs_snoc (l : List Pr) (k : Nat) (h : k < l.length) : vs (l.take (k + 1)) = vs (l.take k) ++ [.string (l.getD k dP).2] := by
  rw [List.take_succ_eq_append_getElem h, List.getD_eq_getElem?_getD, List.getElem?_eq_getElem h]
  simp only [vs, List.map_append, List.map_cons, List.map_nil, Option.getD_some]
theorem own_lt {w : World} {B e s n g : Nat} {v : Value} {xs : List Value} (h : w.ownsRow B e s v n xs) (hv : v.ownBlock = some g) : B ≤ g ∧ g < w.heap.size ∧ ∃ cur fr, w.heap[g]? = some (.cells cur e fr) := by
  rcases h.2 with ⟨rfl, _⟩ | ⟨g', cap', cur', rfl, hb', hh', _⟩
  · simp [Value.ownBlock] at hv
  · have : g' = g := by simpa [Value.ownBlock] using hv
    subst this
    exact ⟨hb', (Array.getElem?_eq_some_iff.1 hh').1, _, _, hh'⟩
theorem own_below {w w' : World} {B e s n : Nat} {v : Value} {xs : List Value} (h : w.ownsRow B e s v n xs) (hb : Below w.heap.size w w') : w'.ownsRow B e s v n xs := own_mod h (Mod.of_below (S := []) hb) (by simp)
theorem own_far {w w' : World} {B e s n : Nat} {v u : Value} {xs : List Value} (h : w.ownsRow B e s v n xs) (hd : ∀ g, u.ownBlock = some g → v.ownBlock ≠ some g) (hg : w.grownBy w' u.ownBlock) : w'.ownsRow B e s v n xs := by
  refine ⟨h.1, ?_⟩
  rcases h.2 with h2 | ⟨g, cap, cur, rfl, hb, hh, r⟩
  · exact .inl h2
  · refine .inr ⟨g, cap, cur, rfl, hb, (hg.block g (Array.getElem?_eq_some_iff.1 hh).1 ?_).trans hh, r⟩
    intro he
    exact hd g he.symm (by simp [Value.ownBlock])
def RK (w : World) (g : Nat) (V : Array Value) (W : World) : Prop := Blk W g 44 V ∧ Blk W w.heap.size 49 #[.slice none 0 0, .slice none 0 0] ∧ w.heap.size < g ∧ Below w.heap.size w W
theorem RK.drew {w W : World} {g : Nat} {V : Array Value} (h : RK w g V W) : RK w g V W.drew := ⟨h.1.drew, h.2.1, h.2.2.1, bdrew h.2.2.2⟩
theorem RK.alloc {w W : World} {g : Nat} {V : Array Value} (h : RK w g V W) (o : Obj) : RK w g V (W.alloc o) := ⟨h.1.alloc o, h.2.1.alloc o, h.2.2.1, h.2.2.2.alloc h.2.2.2.size o⟩
theorem blk_far {w w' : World} {B e s n g t : Nat} {v : Value} {xs : List Value} {cs : Array Value} (hb : Blk w g t cs) (h : w.ownsRow B e s v n xs) (hne : e ≠ t) (hg : w.grownBy w' v.ownBlock) : Blk w' g t cs := by
  refine (hg.block g hb.lt ?_).trans hb
  intro he
  obtain ⟨_, _, cur, fr, hh⟩ := own_lt h he.symm
  unfold Blk at hb
  rw [hb] at hh
  injection hh with hh
  injection hh with _ ht
  exact hne ht.symm
theorem blk_farN {w0 w w' : World} {B e s n g t : Nat} {v : Value} {xs : List Value} {cs : Array Value} (hb : Blk w g t cs) (h : w0.ownsRow B e s v n xs) (hne : w0.heap.size ≤ g) (hg : w.grownBy w' v.ownBlock) : Blk w' g t cs := by
  refine (hg.block g hb.lt ?_).trans hb
  intro he
  have := (own_lt h he.symm).2.1
  omega
theorem RK.grown {w W W' : World} {g B e s n : Nat} {V : Array Value} {v : Value} {xs : List Value} (h : RK w g V W) (ho : W.ownsRow B e s v n xs) (he : e ≠ 44) (he' : e ≠ 49) (hB : w.heap.size ≤ B) (hg : W.grownBy W' v.ownBlock) : RK w g V W' := by
  obtain ⟨h1, h2, h3, h4⟩ := h
  refine ⟨blk_far h1 ho he hg, blk_far h2 ho he' hg, h3, h4.grown hg h4.size ?_⟩
  intro b hb
  have := (own_lt ho hb).1
  omega
theorem info9 : (Tryz.prog.info? 9).map (fun i => (i.zero, i.size, i.bytes)) = some (some (.string ⟨#[]⟩), 1, 16) := by kernel_rfl
def LR (w : World) (l : List Pr) (v3 v4 v9 : Value) (wr : World) : Prop :=
  ∃ k : Nat, k ≤ l.length ∧ v9 = .int .i64 (k : Int) ∧ wr.ownsRow (w.heap.size + 1) 9 1 v3 k (ks (l.take k)) ∧ wr.ownsRow (w.heap.size + 1) 9 1 v4 k (vs (l.take k)) ∧ (∀ g, v3.ownBlock = some g → v4.ownBlock ≠ some g) ∧ Blk wr w.heap.size 49 #[.slice none 0 0, .slice none 0 0] ∧ Below w.heap.size w wr
def Row (B : Nat) (w : World) (A : Option Addr) (n : Nat) (xs : List Value) : Prop := Sl w w.heap.size A n xs ∧ ∀ a, A = some a → B ≤ a.block
theorem Row.below {B : Nat} {w w' : World} {A : Option Addr} {n : Nat} {xs : List Value} (h : Row B w A n xs) (hb : Below w.heap.size w w') : Row B w' A n xs :=
  ⟨(h.1.mod (Mod.of_below (S := []) hb) (by simp)).mono hb.size, h.2⟩
theorem Row.set {B : Nat} {w : World} {A : Option Addr} {n : Nat} {xs : List Value} (h : Row B w A n xs) (p : Addr) (hp : p.block < B) (x : Value) : Row B (w.setCell p x) A n xs := by
  refine ⟨⟨h.1.1, fun hn => ?_⟩, h.2⟩
  obtain ⟨b, off, e, hb, hc⟩ := h.1.2 hn
  refine ⟨b, off, e, by simpa [World.size_setCell] using hb, fun j u hu => ?_⟩
  have hB : B ≤ b := h.2 _ e
  exact (World.cell?_of_block (heap_set_other w p x b (by omega))).trans (hc j u hu)
theorem Row.mono {B B' : Nat} {w : World} {A : Option Addr} {n : Nat} {xs : List Value} (h : Row B w A n xs) (hB : B' ≤ B) : Row B' w A n xs := ⟨h.1, fun a ha => Nat.le_trans hB (h.2 a ha)⟩
/-- What metadata says (its rows lie in blocks from B on). -/
def Md (B : Nat) (w : World) (v : Value) (l : List Pr) : Prop := ∃ A c A' c', v = .agg #[.slice A l.length c, .slice A' l.length c'] ∧ l.length ≤ c ∧ l.length ≤ c' ∧ Row B w A l.length (ks l) ∧ Row B w A' l.length (vs l)
theorem Md.below {B : Nat} {w w' : World} {v : Value} {l : List Pr} (h : Md B w v l) (hb : Below w.heap.size w w') : Md B w' v l := by
  obtain ⟨A, c, A', c', e, h1, h2, h3, h4⟩ := h
  exact ⟨A, c, A', c', e, h1, h2, h3.below hb, h4.below hb⟩
theorem Md.set {B : Nat} {w : World} {v : Value} {l : List Pr} (h : Md B w v l) (p : Addr) (hp : p.block < B) (x : Value) : Md B (w.setCell p x) v l := by
  obtain ⟨A, c, A', c', e, h1, h2, h3, h4⟩ := h
  exact ⟨A, c, A', c', e, h1, h2, h3.set p hp x, h4.set p hp x⟩
theorem Md.mono {B B' : Nat} {w : World} {v : Value} {l : List Pr} (h : Md B w v l) (hB : B' ≤ B) : Md B' w v l := by
  obtain ⟨A, c, A', c', e, h1, h2, h3, h4⟩ := h
  exact ⟨A, c, A', c', e, h1, h2, h3.mono hB, h4.mono hB⟩
def PMd (w : World) (l : List Pr) (e : Ending) (w' : World) : Prop := ∃ v, e = .returned v ∧ Md w.heap.size w' v l ∧ Below w.heap.size w w'
theorem pmd_fin {w wr w7 : World} {x a0 a1 : Value} {l : List Pr} {V : Array Value} (hx : Md wr.heap.size w7 x l) (hb : Below w.heap.size w wr) (hb7 : Below wr.heap.size wr w7) (hbx : Blk wr w.heap.size 49 V) :
    PMd w l (.returned x) ((w7.setCell ⟨w.heap.size, 0, none⟩ a0).setCell ⟨w.heap.size, 1, none⟩ a1) :=
  ⟨x, rfl, ((hx.set ⟨w.heap.size, 0, none⟩ hbx.lt a0).set ⟨w.heap.size, 1, none⟩ hbx.lt a1).mono hb.size, ((below_tr hb hb7 hb.size).setCell (Nat.le_refl _) _).setCell (Nat.le_refl _) _⟩
set_option maxRecDepth 100000 in
set_option maxHeartbeats 4000000 in
theorem arrowMeta_any (w : World) (v : Value) (l : List Pr) (h : Ps w v l) (hn : l.length ≤ 100)
    (hN : ∀ (W : World) (a b : Value), W.ownsRow (w.heap.size + 1) 9 1 a l.length (ks l) → W.ownsRow (w.heap.size + 1) 9 1 b l.length (vs l) → Calls Tryz.prog 25 #[a, b] W (PMd W l)) :
    Calls Tryz.prog 18 #[v] w (PMd w l) := by
  obtain ⟨A, c, rfl, hc, hcell⟩ := h
  have HC := hide hcell
  have HN := hide hN
  clear hcell hN
  go_enter Tryz.func18, Tryz.ntmps18
  go_wp2_with fail
  have hk0 : Blk (w.alloc (.cells #[.slice none 0 0, .slice none 0 0] 49)) w.heap.size 49 #[.slice none 0 0, .slice none 0 0] := Blk.new _ _ rfl
  have h00 := hide (show LR w l (.slice none 0 0) (.slice none 0 0) (.int .i64 0) (w.alloc (.cells #[.slice none 0 0, .slice none 0 0] 49)) from ⟨0, by omega, rfl, World.ownsRow_nil _ _ _ _, World.ownsRow_nil _ _ _ _, by simp [Value.ownBlock], hk0, (Below.refl _ _).alloc (Nat.le_refl _) _⟩)
  clear hk0
  go_loopw [3, 4, 9] (LR w l) (fun _ _ v9 _ => l.length - (intOf v9).toNat)
  case atStart => exact unhide h00
  case round =>
    obtain ⟨k, hk, rfl, o3, o4, hd, hbx, hb⟩ := hrel
    by_cases hlt : k < l.length
    · obtain ⟨b, off, rfl, hbl, hcell⟩ := (unhide HC) (by omega)
      obtain ⟨y0, y1⟩ := hcell k hlt
      have y2 := (hb.cell (p := ⟨b, off + k * 2, none⟩) hbl).trans y0
      have y3 := (hb.cell (p := ⟨b, off + k * 2 + 1, none⟩) hbl).trans y1
      have HKS := hide (ks_snoc l k hlt)
      have HVS := hide (vs_snoc l k hlt)
      clear hcell y0 y1
      generalize l.getD k dP = p at *
      obtain ⟨s1, s2⟩ := p
      dsimp only at *
      go_upto_region 5 with (fail)
      have hw4 : ∃ w4, w4 = wr.alloc (.cells #[.string s1, .string s2] 44) := ⟨_, rfl⟩
      obtain ⟨w4, hw4⟩ := hw4
      have hrk : RK w wr.heap.size #[.string s1, .string s2] w4 := by
        rw [hw4]
        exact ⟨Blk.new _ _ rfl, hbx.alloc _, hbx.lt, hb.alloc hb.size _⟩
      have o3' : w4.ownsRow (w.heap.size + 1) 9 1 u3 k (ks (l.take k)) := by rw [hw4]; exact o3.alloc _
      have o4' : w4.ownsRow (w.heap.size + 1) 9 1 u4 k (vs (l.take k)) := by rw [hw4]; exact o4.alloc _
      rw [← hw4]
      have hle4 : w.heap.size + 1 ≤ w4.heap.size := by have := hrk.1.lt; have := hrk.2.2.1; omega
      generalize wr.heap.size = g6 at hrk ⊢
      clear hw4 o3 o4 hb hbx y2 y3
      obtain ⟨i0, hi0, hz0, hz1, hz2⟩ := info_parts info9
      have tok1 : True := trivial
      have hk63 : k + 1 ≤ maxLen := by simp [maxLen]; omega
      have hS6 := hide (fun (W : World) (h : RK w g6 #[.string s1, .string s2] W) => (show W.cell? ⟨g6, 0, none⟩ = some (.string s1) ∧ W.cell? ⟨g6, 1, none⟩ = some (.string s2) ∧ RK w g6 #[.string s1, .string s2] W from ⟨by have := h.1.cell 0; simpa using this, by have := h.1.cell 1; simpa using this, h⟩))
      obtain ⟨e0, e1, hrk0⟩ := (unhide hS6) _ hrk
      go_region_held3 (fun W => W.cell? ⟨g6, 0, none⟩ = some (.string s1) ∧ W.cell? ⟨g6, 1, none⟩ = some (.string s2) ∧ RK w g6 #[.string s1, .string s2] W)
        ((refine (unhide hS6) _ ?_; (repeat' (first | (with_reducible assumption) | (with_reducible refine RK.drew ?_) | (with_reducible refine RK.alloc ?_ _)))))
        (first
          | (have _t := tok1; refine step_append_lies _ ?_ (.tmp 13) (.tmp 16) 47 ?_ (w.heap.size + 1) 9 i0 _ 1 16 Tryz.underlying47 hi0 hz0 hz1 hz2 rfl ?_ u3 k (ks (l.take k)) ?_ ?_ ⟨w4.heap.size, 0, none⟩ 1 1 [.string s1] ?_ ?_ ?_ ?_ ?_ hk63 ?_ ?_ _ rfl ?_; (focus rfl); (focus rfl); (focus omega); (focus rfl); (focus (repeat' (first | (with_reducible exact o3') | (with_reducible refine World.ownsRow.alloc ?_ _) | (with_reducible refine World.ownsRow.drew ?_)))); (focus rfl); (focus rfl); (focus (first | exact World.news_of_block nb9 | exact World.news_of_block (heap_alloc_new _ _) | (refine World.news_of_block (Blk.drew (Blk.alloc (Blk.new _ _ ?_) _)); simp; done) | (refine World.news_of_block (Blk.drew (Blk.new _ _ ?_)); simp; done) | exact World.news_of_block (Blk.drew (Blk.alloc (Blk.new _ _ rfl) _)) | exact World.news_of_block (Blk.drew (Blk.new _ _ rfl)))); (focus simp [Value.oneCell']); (focus omega); (focus omega); (focus first | omega | (simp; omega)); (intro g cap w5 hown1 hgrow1 hat1 hlt1); (have rk5 : RK w g6 #[.string s1, .string s2] w5 := by (refine RK.grown (B := w.heap.size + 1) (e := 9) (s := 1) (n := k) (xs := ks (l.take k)) ?_ ?_ (by decide) (by decide) (Nat.le_succ _) hgrow1 <;> (repeat' (first | (with_reducible exact hrk) | (with_reducible exact o3') | (with_reducible refine RK.drew ?_) | (with_reducible refine RK.alloc ?_ _) | (with_reducible refine World.ownsRow.alloc ?_ _) | (with_reducible refine World.ownsRow.drew ?_))))); (first | ((refine (have nb9 : Blk w5 (w4.heap.size + 1) 9 #[.string s2] := ?_; ?_)); (focus (refine blk_farN (w0 := w4) ?_ o3' (by simp) hgrow1; (focus (with_reducible refine Blk.drew ?_; refine Blk.new _ _ ?_; first | rfl | (simp; done)))))) | ((refine (have nb9 : Blk w5 (w4.heap.size) 9 #[.string s2] := ?_; ?_)); (focus (refine blk_farN (w0 := w4) ?_ o3' (by simp) hgrow1; (focus (with_reducible refine Blk.drew ?_; with_reducible refine Blk.alloc ?_ _; refine Blk.new _ _ ?_; first | rfl | (simp; done)))))) | skip); (have hle5 : w.heap.size + 1 ≤ w5.heap.size := by have := rk5.1.lt; have := rk5.2.2.1; omega); (have o4w : w5.ownsRow (w.heap.size + 1) 9 1 u4 k (vs (l.take k)) := by (refine own_far (u := u3) ?_ hd hgrow1; (repeat' (first | (with_reducible exact o4') | (with_reducible refine World.ownsRow.alloc ?_ _) | (with_reducible refine World.ownsRow.drew ?_))))); (have hD1 : ∀ x, u4.ownBlock = some x → x ≠ g := by (intro x hx he; subst he; rcases hat1 with hat1 | hat1; (focus exact hd _ hat1 hx); (focus (have := (own_lt o4' hx).2.1; (try simp at hat1); omega)))); (have tok2 : True := trivial); clear tok1)
          | (have _t := tok1; refine step_append_lies _ ?_ (.tmp 13) (.tmp 16) 47 ?_ (w.heap.size + 1) 9 i0 _ 1 16 Tryz.underlying47 hi0 hz0 hz1 hz2 rfl ?_ u3 k (ks (l.take k)) ?_ ?_ ⟨w4.heap.size + 1, 0, none⟩ 1 1 [.string s1] ?_ ?_ ?_ ?_ ?_ hk63 ?_ ?_ _ rfl ?_; (focus rfl); (focus rfl); (focus omega); (focus rfl); (focus (repeat' (first | (with_reducible exact o3') | (with_reducible refine World.ownsRow.alloc ?_ _) | (with_reducible refine World.ownsRow.drew ?_)))); (focus rfl); (focus rfl); (focus (first | exact World.news_of_block nb9 | exact World.news_of_block (heap_alloc_new _ _) | (refine World.news_of_block (Blk.drew (Blk.alloc (Blk.new _ _ ?_) _)); simp; done) | (refine World.news_of_block (Blk.drew (Blk.new _ _ ?_)); simp; done) | exact World.news_of_block (Blk.drew (Blk.alloc (Blk.new _ _ rfl) _)) | exact World.news_of_block (Blk.drew (Blk.new _ _ rfl)))); (focus simp [Value.oneCell']); (focus omega); (focus omega); (focus first | omega | (simp; omega)); (intro g cap w5 hown1 hgrow1 hat1 hlt1); (have rk5 : RK w g6 #[.string s1, .string s2] w5 := by (refine RK.grown (B := w.heap.size + 1) (e := 9) (s := 1) (n := k) (xs := ks (l.take k)) ?_ ?_ (by decide) (by decide) (Nat.le_succ _) hgrow1 <;> (repeat' (first | (with_reducible exact hrk) | (with_reducible exact o3') | (with_reducible refine RK.drew ?_) | (with_reducible refine RK.alloc ?_ _) | (with_reducible refine World.ownsRow.alloc ?_ _) | (with_reducible refine World.ownsRow.drew ?_))))); (first | ((refine (have nb9 : Blk w5 (w4.heap.size + 1) 9 #[.string s2] := ?_; ?_)); (focus (refine blk_farN (w0 := w4) ?_ o3' (by simp) hgrow1; (focus (with_reducible refine Blk.drew ?_; refine Blk.new _ _ ?_; first | rfl | (simp; done)))))) | ((refine (have nb9 : Blk w5 (w4.heap.size) 9 #[.string s2] := ?_; ?_)); (focus (refine blk_farN (w0 := w4) ?_ o3' (by simp) hgrow1; (focus (with_reducible refine Blk.drew ?_; with_reducible refine Blk.alloc ?_ _; refine Blk.new _ _ ?_; first | rfl | (simp; done)))))) | skip); (have hle5 : w.heap.size + 1 ≤ w5.heap.size := by have := rk5.1.lt; have := rk5.2.2.1; omega); (have o4w : w5.ownsRow (w.heap.size + 1) 9 1 u4 k (vs (l.take k)) := by (refine own_far (u := u3) ?_ hd hgrow1; (repeat' (first | (with_reducible exact o4') | (with_reducible refine World.ownsRow.alloc ?_ _) | (with_reducible refine World.ownsRow.drew ?_))))); (have hD1 : ∀ x, u4.ownBlock = some x → x ≠ g := by (intro x hx he; subst he; rcases hat1 with hat1 | hat1; (focus exact hd _ hat1 hx); (focus (have := (own_lt o4' hx).2.1; (try simp at hat1); omega)))); (have tok2 : True := trivial); clear tok1)
          | (have _t := tok2; refine step_append_lies _ ?_ (.tmp 18) (.tmp 21) 47 ?_ (w.heap.size + 1) 9 i0 _ 1 16 Tryz.underlying47 hi0 hz0 hz1 hz2 rfl ?_ u4 k (vs (l.take k)) ?_ ?_ ⟨w5.heap.size, 0, none⟩ 1 1 [.string s2] ?_ ?_ ?_ ?_ ?_ hk63 ?_ ?_ _ rfl ?_; (focus rfl); (focus rfl); (focus omega); (focus rfl); (focus (repeat' (first | (with_reducible exact o4w) | (with_reducible refine World.ownsRow.alloc ?_ _) | (with_reducible refine World.ownsRow.drew ?_)))); (focus rfl); (focus rfl); (focus (first | exact World.news_of_block nb9 | exact World.news_of_block (heap_alloc_new _ _) | (refine World.news_of_block (Blk.drew (Blk.alloc (Blk.new _ _ ?_) _)); simp; done) | (refine World.news_of_block (Blk.drew (Blk.new _ _ ?_)); simp; done) | exact World.news_of_block (Blk.drew (Blk.alloc (Blk.new _ _ rfl) _)) | exact World.news_of_block (Blk.drew (Blk.new _ _ rfl)))); (focus simp [Value.oneCell']); (focus omega); (focus omega); (focus first | omega | (simp; omega)); (intro g' cap' w6 hown2 hgrow2 hat2 hlt2); (have rk6 : RK w g6 #[.string s1, .string s2] w6 := by (refine RK.grown (B := w.heap.size + 1) (e := 9) (s := 1) (n := k) (xs := vs (l.take k)) ?_ ?_ (by decide) (by decide) (Nat.le_succ _) hgrow2 <;> (repeat' (first | (with_reducible exact rk5) | (with_reducible exact o4w) | (with_reducible refine RK.drew ?_) | (with_reducible refine RK.alloc ?_ _) | (with_reducible refine World.ownsRow.alloc ?_ _) | (with_reducible refine World.ownsRow.drew ?_))))); (have hD2 : g ≠ g' := by (intro he; subst he; rcases hat2 with hat2 | hat2; (focus exact hD1 _ hat2 rfl); (focus ((try simp at hat2); omega)))); clear tok2)
          | (have _t := tok2; refine step_append_lies _ ?_ (.tmp 18) (.tmp 21) 47 ?_ (w.heap.size + 1) 9 i0 _ 1 16 Tryz.underlying47 hi0 hz0 hz1 hz2 rfl ?_ u4 k (vs (l.take k)) ?_ ?_ ⟨w4.heap.size + 1, 0, none⟩ 1 1 [.string s2] ?_ ?_ ?_ ?_ ?_ hk63 ?_ ?_ _ rfl ?_; (focus rfl); (focus rfl); (focus omega); (focus rfl); (focus (repeat' (first | (with_reducible exact o4w) | (with_reducible refine World.ownsRow.alloc ?_ _) | (with_reducible refine World.ownsRow.drew ?_)))); (focus rfl); (focus rfl); (focus (first | exact World.news_of_block nb9 | exact World.news_of_block (heap_alloc_new _ _) | (refine World.news_of_block (Blk.drew (Blk.alloc (Blk.new _ _ ?_) _)); simp; done) | (refine World.news_of_block (Blk.drew (Blk.new _ _ ?_)); simp; done) | exact World.news_of_block (Blk.drew (Blk.alloc (Blk.new _ _ rfl) _)) | exact World.news_of_block (Blk.drew (Blk.new _ _ rfl)))); (focus simp [Value.oneCell']); (focus omega); (focus omega); (focus first | omega | (simp; omega)); (intro g' cap' w6 hown2 hgrow2 hat2 hlt2); (have rk6 : RK w g6 #[.string s1, .string s2] w6 := by (refine RK.grown (B := w.heap.size + 1) (e := 9) (s := 1) (n := k) (xs := vs (l.take k)) ?_ ?_ (by decide) (by decide) (Nat.le_succ _) hgrow2 <;> (repeat' (first | (with_reducible exact rk5) | (with_reducible exact o4w) | (with_reducible refine RK.drew ?_) | (with_reducible refine RK.alloc ?_ _) | (with_reducible refine World.ownsRow.alloc ?_ _) | (with_reducible refine World.ownsRow.drew ?_))))); (have hD2 : g ≠ g' := by (intro he; subst he; rcases hat2 with hat2 | hat2; (focus exact hD1 _ hat2 rfl); (focus ((try simp at hat2); omega)))); clear tok2)
          | (have _t := tok2; refine step_append_lies _ ?_ (.tmp 18) (.tmp 21) 47 ?_ (w.heap.size + 1) 9 i0 _ 1 16 Tryz.underlying47 hi0 hz0 hz1 hz2 rfl ?_ u4 k (vs (l.take k)) ?_ ?_ ⟨w4.heap.size, 0, none⟩ 1 1 [.string s2] ?_ ?_ ?_ ?_ ?_ hk63 ?_ ?_ _ rfl ?_; (focus rfl); (focus rfl); (focus omega); (focus rfl); (focus (repeat' (first | (with_reducible exact o4w) | (with_reducible refine World.ownsRow.alloc ?_ _) | (with_reducible refine World.ownsRow.drew ?_)))); (focus rfl); (focus rfl); (focus (first | exact World.news_of_block nb9 | exact World.news_of_block (heap_alloc_new _ _) | (refine World.news_of_block (Blk.drew (Blk.alloc (Blk.new _ _ ?_) _)); simp; done) | (refine World.news_of_block (Blk.drew (Blk.new _ _ ?_)); simp; done) | exact World.news_of_block (Blk.drew (Blk.alloc (Blk.new _ _ rfl) _)) | exact World.news_of_block (Blk.drew (Blk.new _ _ rfl)))); (focus simp [Value.oneCell']); (focus omega); (focus omega); (focus first | omega | (simp; omega)); (intro g' cap' w6 hown2 hgrow2 hat2 hlt2); (have rk6 : RK w g6 #[.string s1, .string s2] w6 := by (refine RK.grown (B := w.heap.size + 1) (e := 9) (s := 1) (n := k) (xs := vs (l.take k)) ?_ ?_ (by decide) (by decide) (Nat.le_succ _) hgrow2 <;> (repeat' (first | (with_reducible exact rk5) | (with_reducible exact o4w) | (with_reducible refine RK.drew ?_) | (with_reducible refine RK.alloc ?_ _) | (with_reducible refine World.ownsRow.alloc ?_ _) | (with_reducible refine World.ownsRow.drew ?_))))); (have hD2 : g ≠ g' := by (intro he; subst he; rcases hat2 with hat2 | hat2; (focus exact hD1 _ hat2 rfl); (focus ((try simp at hat2); omega)))); clear tok2))
      all_goals
        have hf1 : w6.ownsRow (w.heap.size + 1) 9 1 (.slice (some ⟨g, 0, none⟩) (k + 1) cap) (k + 1) (ks (l.take (k + 1))) := by
          rw [unhide HKS]
          refine own_far (u := u4) ?_ (fun x hx he => hD1 x hx (by simpa [Value.ownBlock] using he.symm)) hgrow2
          (repeat' (first | (with_reducible exact hown1) | (with_reducible refine World.ownsRow.alloc ?_ _) | (with_reducible refine World.ownsRow.drew ?_)))
        rw [← unhide HVS] at hown2
        have hr := hide (show LR w l (.slice (some ⟨g, 0, none⟩) (k + 1) cap) (.slice (some ⟨g', 0, none⟩) (k + 1) cap') (.int .i64 ((k : Int) + 1)) w6 from ⟨k + 1, by omega, by simp, hf1, hown2, fun x hx he => hD2 (by simp [Value.ownBlock] at hx he; omega), rk6.2.1, rk6.2.2.2⟩)
        clear hf1 hown2 hown1 hgrow1 hgrow2 rk5 rk6 o4w o3' o4' hS6 e0 e1
        go_wp2_with fail
        exact ⟨unhide hr, by simp [intOf]; omega⟩
    · obtain rfl : k = l.length := by omega
      rw [List.take_of_length_le (Nat.le_refl _)] at o3 o4
      have HB := hide hb
      have HBX := hide hbx
      have HO := hide (And.intro o3 o4)
      clear hb hbx o3 o4
      go_wp2_with (go_at_call 25; go_loud ((with_reducible refine ((unhide HN) _ _ _ (unhide HO).1 (unhide HO).2).mono ?_); rintro e w7 ⟨x, rfl, hx, hb7⟩; obtain ⟨A1, c1, A2, c2, rfl, z1, z2, z3, z4⟩ := id hx; have hbx7 := (unhide HBX).below hb7; have hk0 := hbx7.cell 0; have hk1 := hbx7.cell 1; have hf0 := hbx7.frozen 0; have hf1 := hbx7.frozen 1; simp at hk0 hk1; have HF := hide (pmd_fin (a0 := .slice A1 l.length c1) (a1 := .slice A2 l.length c2) hx (unhide HB) hb7 (unhide HBX)); clear hx z3 z4 hbx7))
      refine bodyPost_ret (v := .agg #[.slice A1 l.length c1, .slice A2 l.length c2]) (by simp [results, Tryz.results18, go_sem, hk0, hk1]) rfl ?_
      exact unhide HF
end Go.Proofs.YtconkcjcjdmidaaGreatDoor
