/- Exact integers: zeros are struck off, a sign and digits become a value, the other sign, the sign. (YtfalicipocbcoaaGreatDoor) -/
import Derived.Test.YtfalicipocbcoaaGreatDoorW2
set_option linter.unusedVariables false
set_option linter.unusedSimpArgs false
namespace Go.Proofs.YtfalicipocbcoaaGreatDoor
open Go.RowKit Go.ChangeShapes Go.WideShapes Go.ChangeAt
def PTrim (A : Option Addr) (c : Nat) (w : World) (l : List Int) (e : Ending) (w' : World) : Prop := ∃ n, e = .returned (.slice A n c) ∧ n ≤ l.length ∧ Trim (l.take n) ∧ dv (l.take n) = dv l ∧ w = w'
def PWide (w : World) (z : Int) (e : Ending) (w' : World) : Prop := ∃ x, e = .returned x ∧ Wd w' x z ∧ Below w.heap.size w w'
def TrimRel (l : List Int) (A : Option Addr) (c : Nat) (v : Value) : Prop := ∃ n, n ≤ l.length ∧ v = .slice A n c ∧ dv (l.take n) = dv l
def lenOf (v : Value) : Nat := match v with | .slice _ n _ => n | _ => 0
theorem take_len (l : List Int) (n : Nat) (h : n ≤ l.length) : (l.take n).length = n := by simp; omega
theorem trim_last (l : List Int) (m : Nat) (h : m < l.length) (h0 : l.getD m 0 ≠ 0) : Trim (l.take (m + 1)) := by
  intro hne
  rw [List.getLast_eq_getElem]
  simp only [List.length_take, List.getElem_take]
  have e : l.getD m 0 = l[m] := by simp [List.getD_eq_getElem?_getD, List.getElem?_eq_getElem h]
  have e2 : min (m + 1) l.length - 1 = m := by omega
  simp only [e2]
  rw [← e]; exact h0
theorem rd_take {k : IntKind} {w : World} {A : Option Addr} {c : Nat} {l : List Int} (hsl : Sl w w.heap.size A l.length (l.map (Value.int k))) (hm : l.length ≤ 1000000) {n : Nat} (hn : n ≤ l.length) (hc : n ≤ c) : Rd k w (.slice A n c) (l.take n) := by
  refine ⟨A, c, by rw [take_len l n hn], by rw [take_len l n hn]; exact hc, ?_, by rw [take_len l n hn]; omega⟩
  rw [take_len l n hn, List.map_take]
  exact hsl.take (by simpa using hn)
set_option maxRecDepth 100000 in
set_option maxHeartbeats 1000000 in
theorem trim_any (w : World) (A : Option Addr) (c : Nat) (l : List Int) (h : Rd .u32 w (.slice A l.length c) l) :
    Calls Tryz.prog 31 #[.slice A l.length c] w (PTrim A c w l) := by
  have h0 := h
  obtain ⟨A', c', e, hc, hsl, hm⟩ := h
  injection e with e1 e2 e3
  subst e1 e3
  have hP : ∀ n, n ≤ l.length → dv (l.take n) = dv l → (Trim (l.take n)) → PTrim A c w l (.returned (.slice A n c)) w := fun n hn hd ht => ⟨n, rfl, hn, ht, hd, rfl⟩
  have HP := hide hP
  clear hP e2
  go_enter Tryz.func31, Tryz.ntmps31
  go_wp2
  go_loop [0] (TrimRel l A c) (fun v => lenOf v)
  case atStart => exact ⟨l.length, Nat.le_refl _, rfl, by rw [List.take_length]⟩
  case round =>
    obtain ⟨n, hn, rfl, hd⟩ := hrel
    have HD := hide hd
    clear hd
    rcases n with _ | m
    · clear hsl
      go_wp2
      go_ret
      exact (unhide HP) 0 (Nat.zero_le _) (unhide HD) (by intro hne; simp at hne)
    · obtain ⟨b, off, cc, e, _, hb, hcell⟩ := h0.one (i := m) (by omega)
      injection e with e1 e2 e3
      subst e1
      have ck := hcell m (by omega)
      have htrim := hide (trim_last l m (by omega))
      have hsucc := hide (dv_take_succ l m (by omega))
      clear hcell hsl h0 e3
      by_cases hz : l.getD m 0 = 0
      · rw [hz] at ck
        have HS := unhide hsucc
        rw [hz, Int.mul_zero, Int.add_zero, unhide HD] at HS
        have HF := hide (show TrimRel l (some ⟨b, off, none⟩) c (.slice (some ⟨b, off, none⟩) m c) from ⟨m, by omega, rfl, HS.symm⟩)
        clear HS hz htrim hsucc HP HD
        go_wp2
        go_round
        case rel => exact unhide HF
        case measure => simp [lenOf]
      · have hz1 : (l.getD m 0 == 0) = false := by simpa using hz
        have HZ := hide hz
        clear hz
        generalize l.getD m 0 = x at ck hz1 HZ htrim
        go_wp2
        go_ret
        exact (unhide HP) (m + 1) hn (unhide HD) ((unhide htrim) (unhide HZ))
theorem wd_mk {w : World} {s : Bool} {u : Value} {l : List Int} (hr : Mg w u l) (hs : Sm l) (ht : Trim l) (hl : l.length ≤ 100) : Wd w (.agg #[.bool (s && decide (0 < l.length)), u]) (wv s l) := by
  refine ⟨_, l, u, rfl, hr, hs, ht, ?_, ?_, hl⟩
  · intro h
    simp at h
    exact List.length_pos_iff.1 h.2
  · by_cases hl : l = []
    · subst hl; cases s <;> simp [wv, dv]
    · have : 0 < l.length := List.length_pos_iff.2 hl
      simp [this]
set_option maxRecDepth 100000 in
set_option maxHeartbeats 1000000 in
theorem wide_any (w : World) (s : Bool) (v : Value) (l : List Int) (h : Mg w v l) (hs : Sm l) (hb : dv l < bp 100) :
    Calls Tryz.prog 16 #[.bool s, v] w (PWide w (wv s l)) := by
  obtain ⟨⟨A, c, rfl, hc, hsl, hm⟩, hy⟩ := h
  have hP : ∀ (W : World) n, Below w.heap.size w W → n ≤ l.length → Trim (l.take n) → dv (l.take n) = dv l → PWide w (wv s l) (.returned (.agg #[.bool (s && decide (0 < n)), .slice A n c])) W := by
    intro W n h2 h3 h4 h5
    have hr : Mg W (.slice A n c) (l.take n) := Mg.below ⟨rd_take hsl hm h3 (by omega), fun b off m c' he hn => by injection he with e1 e2 e3; subst e1 e2 e3; exact hy b off _ c rfl (by omega)⟩ h2
    have e : wv s l = wv s (l.take n) := by unfold wv; rw [h5]
    have hw := wd_mk (s := s) hr (sm_take hs n) h4 (len_le (sm_take hs n) h4 (by omega))
    rw [show decide (0 < (l.take n).length) = decide (0 < n) by rw [take_len l n h3]] at hw
    exact ⟨_, rfl, by rw [e]; exact hw, h2⟩
  have HP := hide hP
  clear hP
  have hst : ∀ W : World, Below w.heap.size w W → Rd .u32 W (.slice A l.length c) l := fun W h2 => (show Rd .u32 w (.slice A l.length c) l from ⟨A, c, rfl, hc, hsl, hm⟩).below h2
  have HST := hide hst
  clear hst hsl hy
  go_enter Tryz.func16, Tryz.ntmps16
  go_wp2_with fail
  refine (trim_any _ _ _ _ ((unhide HST) _ ((Below.refl _ _).alloc (Nat.le_refl _) _))).mono ?_
  rintro e w1 ⟨n, rfl, hn, hrt, hrd, rfl⟩
  have HQ := hide (fun W h2 => (unhide HP) W n h2 hn hrt hrd)
  clear hrt hrd HP HST
  cases s with
  | false =>
    go_wp2
    go_returns
    exact (unhide HQ) _ ((Below.refl _ _).alloc (Nat.le_refl _) _)
  | true =>
    by_cases h0 : 0 < n
    · have HE := hide (show ∀ W : World, Below w.heap.size w W → PWide w (wv true l) (.returned (.agg #[.bool true, .slice A n c])) W by
        intro W h2
        have := (unhide HQ) W h2
        rwa [show (true && decide (0 < n)) = true by simpa using h0] at this)
      clear HQ
      go_wp2
      go_returns
      exact (unhide HE) _ ((Below.refl _ _).alloc (Nat.le_refl _) _)
    · have HE := hide (show ∀ W : World, Below w.heap.size w W → PWide w (wv true l) (.returned (.agg #[.bool false, .slice A n c])) W by
        intro W h2
        have := (unhide HQ) W h2
        rwa [show (true && decide (0 < n)) = false by simpa using h0] at this)
      clear HQ
      go_wp2
      go_returns
      exact (unhide HE) _ ((Below.refl _ _).alloc (Nat.le_refl _) _)
theorem Wd.form {w : World} {v : Value} {z : Int} (h : Wd w v z) : ∃ s A n c, v = .agg #[.bool s, .slice A n c] := by
  obtain ⟨s, l, u, rfl, ⟨⟨A, c, rfl, _⟩, _⟩, _⟩ := h
  exact ⟨s, A, _, c, rfl⟩
theorem wv_not (s : Bool) (l : List Int) : wv (!s) l = - wv s l := by cases s <;> simp [wv]
theorem wv_bd {s : Bool} {l : List Int} {B : Int} (hs : Sm l) (h1 : -B < wv s l) (h2 : wv s l < B) : dv l < B := by
  have := dv_nn hs
  cases s <;> simp [wv] at h1 h2 <;> omega
theorem wd_bd {w : World} {v : Value} {z : Int} (h : Wd w v z) : -bp 100 < z ∧ z < bp 100 := by
  obtain ⟨s, l, u, rfl, hr, hs, ht, hne, rfl, hl⟩ := h
  have h1 := dv_lt hs
  have h2 := bp_le hl
  have h3 := dv_nn hs
  cases s <;> simp [wv] <;> omega
theorem Blk.tyb {w : World} {g : Nat} {t : TypeId} {cs : Array Value} (h : Blk w g t cs) : Tyb w g t := ⟨cs, _, h⟩
/-- a value is stored into the result's box, and handed back. -/
theorem pwide_box {W w0 w : World} {g : Nat} {s a a0 b0 : Value} {z : Int} (hx : Wd w (.agg #[s, a]) z) (hbk : Blk w g 29 #[a0, b0]) (h0 : Below W.heap.size W w0) (hb : Below w0.heap.size w0 w) (hg : W.heap.size ≤ g) :
    PWide W z (.returned (.agg #[s, a])) ((w.setCell ⟨g, 0, none⟩ s).setCell ⟨g, 1, none⟩ a) :=
  ⟨_, rfl, (hx.far hbk.tyb (by decide) 0 s).far (hbk.tyb.set g 0 s) (by decide) 1 a, ((h0.trans (hb.mono h0.size)).setCell hg _).setCell hg _⟩
set_option maxRecDepth 100000 in
set_option maxHeartbeats 1000000 in
theorem Negated_any (w : World) (v : Value) (z : Int) (h : Wd w v z) :
    Calls Tryz.prog 21 #[v] w (PWide w (-z)) := by
  have hz := wd_bd h
  obtain ⟨s, l, u, rfl, hr, hs, ht, hne, rfl, hl⟩ := h
  have hq : ∀ W : World, Below w.heap.size w W → Calls Tryz.prog 16 #[.bool (!s), u] W (PWide W (-wv s l)) := fun W hW => by
    rw [← wv_not]
    exact wide_any W (!s) u l (hr.below hW) hs (wv_bd hs hz.1 hz.2)
  have HQ := hide hq
  clear hq
  obtain ⟨⟨A, c, rfl, hc, hsl, hm⟩, hy⟩ := hr
  clear hs ht hne hl hz hsl hm hc hy
  go_enter Tryz.func21, Tryz.ntmps21
  go_wp2_with fail
  refine ((unhide HQ) _ (((Below.refl _ _).alloc (Nat.le_refl _) _).alloc (by simp) _)).mono ?_
  rintro e w1 ⟨x, rfl, hx, hb⟩
  have hbk : Blk w1 (w.heap.size + 1) 29 #[.bool false, .slice none 0 0] := (Blk.new _ _ (by simp)).below hb
  have c0 := hbk.cell 0
  have c1 := hbk.cell 1
  have f0 := hbk.frozen 0
  have f1 := hbk.frozen 1
  simp at c0 c1
  obtain ⟨s', A', n', c', rfl⟩ := hx.form
  have HX := hide hx
  clear hx HQ
  go_wp2
  refine bodyPost_ret (v := .agg #[.bool s', .slice A' n' c']) (by simp [results, Tryz.results21, go_sem, c0, c1]) rfl ?_
  exact pwide_box (unhide HX) hbk (((Below.refl _ _).alloc (Nat.le_refl _) _).alloc (by simp) _) hb (by omega)
end Go.Proofs.YtfalicipocbcoaaGreatDoor
