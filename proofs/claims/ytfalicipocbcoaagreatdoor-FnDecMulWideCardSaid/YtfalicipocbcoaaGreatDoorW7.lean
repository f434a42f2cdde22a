/- Exact integers: out of words in two's complement. (YtfalicipocbcoaaGreatDoor) -/
import Derived.Test.YtfalicipocbcoaaGreatDoorW6
import Derived.IntWalk
set_option linter.unusedVariables false
set_option linter.unusedSimpArgs false
namespace Go.Proofs.YtfalicipocbcoaaGreatDoor
open Go.RowKit Go.ChangeShapes Go.WideShapes Go.ChangeAt
attribute [local go_sem ↓] Go.wp_at_zero Go.wp_at_succ
def uv : List Int → Int
  | [] => 0
  | d :: ds => d + 18446744073709551616 * uv ds
def Sm64 (l : List Int) : Prop := ∀ x ∈ l, 0 ≤ x ∧ x < 18446744073709551616
def digs (l : List Int) : List Int := l.flatMap fun x => [x % 4294967296, x / 4294967296]
theorem digs_cons (x : Int) (l : List Int) : digs (x :: l) = [x % 4294967296, x / 4294967296] ++ digs l := rfl
theorem digs_append (a b : List Int) : digs (a ++ b) = digs a ++ digs b := by simp [digs]
theorem digs_length (l : List Int) : (digs l).length = 2 * l.length := by
  induction l with
  | nil => rfl
  | cons x l ih => rw [digs_cons, List.length_append, ih]; simp; omega
theorem dv_digs (l : List Int) : dv (digs l) = uv l := by
  induction l with
  | nil => rfl
  | cons x l ih => rw [digs_cons]; simp only [List.cons_append, List.nil_append, dv, uv, ih]; omega
theorem sm_digs {l : List Int} (h : Sm64 l) : Sm (digs l) := by
  induction l with
  | nil => exact sm_nil
  | cons x l ih =>
    rw [digs_cons]
    have hx := h x (by simp)
    refine sm_append (fun y hy => ?_) (ih (fun y hy => h y (by simp [hy])))
    simp at hy
    rcases hy with rfl | rfl <;> omega
theorem digs_take (l : List Int) (k : Nat) (hk : k < l.length) : digs (l.take (k + 1)) = digs (l.take k) ++ [l.getD k 0 % 4294967296, l.getD k 0 / 4294967296] := by
  rw [take_succ_get l k hk, digs_append]; rfl
theorem sm64_get {l : List Int} (h : Sm64 l) (k : Nat) : 0 ≤ l.getD k 0 ∧ l.getD k 0 < 18446744073709551616 := by
  by_cases hk : k < l.length
  · rw [List.getD_eq_getElem?_getD, List.getElem?_eq_getElem hk]; exact h _ (List.getElem_mem hk)
  · rw [List.getD_eq_getElem?_getD, List.getElem?_eq_none (by omega)]; decide
theorem uv_lt {l : List Int} (h : Sm64 l) : 0 ≤ uv l ∧ uv l < bp (2 * l.length) := by
  rw [← dv_digs, ← digs_length]
  exact ⟨dv_nn (sm_digs h), dv_lt (sm_digs h)⟩
/-- the integer of words in two's complement. -/
def sv (l : List Int) : Int := if l.getD (l.length - 1) 0 / 9223372036854775808 = 1 then uv l - 2 ^ (64 * l.length) else uv l
def FwRel (B : Nat) (l : List Int) (w : World) (v3 v9 : Value) (wr : World) : Prop :=
  ∃ k v, k ≤ l.length ∧ v = v3 ∧ v9 = .int .i64 (k : Int) ∧ wr.ownsRow B 69 1 v (digs (l.take k)).length (ivs .u32 (digs (l.take k))) ∧ Mod [] w wr ∧ Blk wr B 29 #[.bool false, .slice none 0 0]
theorem run_app {w wr : World} {B k : Nat} {l : List Int} {v3 : Value} {x y : Int} (hl : l.length ≤ 10000) (hB : w.heap.size = B)
    (ho : wr.ownsRow B 69 1 v3 (digs (l.take k)).length (ivs .u32 (digs (l.take k)))) (hm : Mod [] w wr) (hb : Blk wr B 29 #[.bool false, .slice none 0 0]) (hk : k < l.length)
    (hx : x = l.getD k 0 % 4294967296) (hy : y = l.getD k 0 / 4294967296) :
    ∃ v' w', (Builtin.append_ #[27, 27] 27 #[v3, .slice (some ⟨wr.heap.size, 0, none⟩) 2 2]).run Tryz.prog (wr.alloc (.cells #[.int .u32 x, .int .u32 y] 69)) = .ok v' w' ∧
      FwRel B l w v' (.int .i64 ((k : Int) + 1)) w' := by
  subst hx hy
  obtain ⟨i0, hi0, hz0, hz1, hz2⟩ := info_parts (show (Tryz.prog.info? 69).map (fun i => (i.zero, i.size, i.bytes)) = some (some (.int .u32 0), 1, 4) by kernel_rfl)
  have hlen : (digs (l.take k)).length = 2 * k := by rw [digs_length, take_len _ _ (by omega)]
  have hsz := hb.lt
  have hsrc := (blk_rd (k := .u32) (l := [l.getD k 0 % 4294967296, l.getD k 0 / 4294967296]) (Blk.new (w := wr) (g := wr.heap.size) 69 (ivs .u32 [l.getD k 0 % 4294967296, l.getD k 0 / 4294967296]).toArray rfl) (by simp)).1.src Tryz.underlying27
  obtain ⟨v', w', h1, h2, h3, h4⟩ := append_own B 27 27 27 69 i0 _ 4 Tryz.underlying27 hi0 hz0 hz1 hz2 (by decide) (ho.alloc _) hsrc (by simp only [List.length_cons, List.length_nil]; omega) (by simp only [List.length_cons, List.length_nil]; omega) (by simp; omega)
  refine ⟨v', w', h1, k + 1, v', by omega, rfl, by simp, ?_, ?_, ?_⟩
  · rw [digs_take l k hk]
    simpa [ivs] using h2
  · have h5 : Mod [] w (wr.alloc (.cells #[.int .u32 (l.getD k 0 % 4294967296), .int .u32 (l.getD k 0 / 4294967296)] 69)) := hm.alloc _
    rcases hv : v3.ownBlock with _ | g
    · rw [hv] at h3
      exact h5.trans (Mod.of_grown (S := []) h3 (by simp)) (by simp)
    · rw [hv] at h3
      refine h5.trans (Mod.of_grown (S := [g]) h3 (by simp)) ?_
      intro x hx
      simp at hx
      subst hx
      right
      rcases ho.2 with ⟨h6, _⟩ | ⟨g', cap, cur, h6, hb', _⟩
      · rw [h6] at hv; simp [Value.ownBlock] at hv
      · rw [h6] at hv; simp [Value.ownBlock] at hv; omega
  · refine (hb.alloc _).same (h3.block B (by simp; omega) ?_)
    intro e
    have h6 := Ty.own ho
    rcases ho.2 with ⟨h7, _⟩ | ⟨g', cap, cur, h7, hb', hh, _⟩
    · rw [h7] at e; simp [Value.ownBlock] at e
    · rw [h7] at e; simp [Value.ownBlock] at e
      subst e
      exact (Tyb.ne ⟨_, _, hh⟩ hb.tyb (by decide)) rfl
theorem wd_get {k : IntKind} {w : World} {v : Value} {l : List Int} (h : Rd k w v l) (i : Nat) (hi : i < l.length) : ∃ b off c, v = .slice (some ⟨b, off, none⟩) l.length c ∧ w.cell? ⟨b, off + i, none⟩ = some (.int k (l.getD i 0)) := by
  obtain ⟨b, off, c, e, _, _, hc⟩ := h.one hi
  exact ⟨b, off, c, e, hc i hi⟩
set_option maxRecDepth 100000 in
set_option maxHeartbeats 4000000 in
theorem FromWords_any (w : World) (v : Value) (l : List Int) (h : Rd .u64 w v l) (h64 : Sm64 l) (h0 : 0 < l.length) (h4 : l.length ≤ 20) :
    Calls Tryz.prog 15 #[v] w (PWide w (sv l)) := by
  have hrd := hide (fun (W : World) (hm : Mod [] w W) => h.of_mod hm)
  obtain ⟨bb, off, c, rfl, _⟩ := wd_get h 0 h0
  clear h
  go_enter Tryz.func15, Tryz.ntmps15
  go_wp2
  go_loopw [3, 9] (FwRel w.heap.size l w) (fun _ v _ => l.length - (intOf v).toNat)
  case atStart => exact ⟨0, _, Nat.zero_le _, rfl, rfl, by simpa [digs, ivs] using World.ownsRow_nil _ _ _ _, (Mod.refl _ _).alloc _, Blk.new _ _ rfl⟩
  case round =>
    obtain ⟨k, vs, hk, rfl, rfl, ho, hm, hb⟩ := hrel
    by_cases hlt : k < l.length
    · obtain ⟨b2, off2, c2, e2, ck⟩ := wd_get ((unhide hrd) wr hm) k hlt
      injection e2 with e2 _ _
      injection e2 with e2
      injection e2 with e21 e22
      subst e21 e22
      obtain ⟨g1, g2⟩ := sm64_get h64 k
      have hd : 0 ≤ l.getD k 0 / 4294967296 ∧ l.getD k 0 / 4294967296 < 4294967296 := by omega
      obtain ⟨v', w', hrun, hF⟩ := run_app (by omega) rfl ho hm hb hlt rfl rfl
      have HR := hide hrun
      have HF := hide hF
      clear hrun hF ho hm hb
      generalize l.getD k 0 = x at ck g1 g2 hd HR
      go_wp2_with (at_builtin; refine wpList_append_run rfl _ _ 27 27 rfl _ _ _ _ rfl rfl HR.out ?_)
      all_goals exact ⟨⟨_, _, _, HF.out, rfl, rfl, rfl⟩, by simp [intOf]; omega⟩
    · obtain rfl : k = l.length := by omega
      rw [List.take_length] at ho
      have hmg := rd_own ho (by rw [digs_length]; omega)
      have hsz := hb.lt
      have hwd := wide_any wr false vs (digs l) ⟨hmg.1, hmg.2⟩ (sm_digs h64) (by
        have := dv_lt (sm_digs h64)
        have h2 := bp_le (show (digs l).length ≤ 100 by rw [digs_length]; omega)
        omega)
      rw [show wv false (digs l) = uv l from dv_digs l] at hwd
      have HW := hide hwd
      clear hwd hmg ho
      go_upto_region 8 with (go_at_call 16; (with_reducible refine (unhide HW).mono ?_); rintro e w1 ⟨x1, rfl, hx1, hb1⟩; obtain ⟨s1, A1, n1, c1, rfl⟩ := hx1.form)
      have hm2 : Mod [] w (w1.alloc (.cells #[.bool s1, .slice A1 n1 c1] 29)) := (hm.trans (Mod.of_below (S := []) hb1) (by simp)).alloc _
      have hk6 := Blk.new (w := w1) (g := w1.heap.size) 29 #[.bool s1, .slice A1 n1 c1] rfl
      have hk2 := (hb.below hb1).alloc (.cells #[.bool s1, .slice A1 n1 c1] 29)
      have hx2 := hx1.below ((Below.refl w1.heap.size w1).alloc (Nat.le_refl _) (.cells #[.bool s1, .slice A1 n1 c1] 29))
      have hlt6 : w.heap.size < w1.heap.size := Nat.lt_of_lt_of_le hsz hb1.size
      have hne6 : w1.heap.size ≠ w.heap.size := by omega
      generalize (w1.alloc (.cells #[.bool s1, .slice A1 n1 c1] 29)) = w2 at hm2 hk6 hk2 hx2 ⊢
      generalize w1.heap.size = g6 at hk6 hlt6 hne6 ⊢
      obtain ⟨b2, off2, c2, e2, ck⟩ := wd_get ((unhide hrd) w2 hm2) (l.length - 1) (by omega)
      injection e2 with e2 _ _
      injection e2 with e2
      injection e2 with e21 e22
      subst e21 e22
      obtain ⟨g1, g2⟩ := sm64_get h64 (l.length - 1)
      have hsv : sv l = if l.getD (l.length - 1) 0 / 9223372036854775808 = 1 then uv l - 2 ^ (64 * l.length) else uv l := rfl
      have q20 := hk2.cell 0
      have q21 := hk2.cell 1
      have qf0 := hk2.frozen 0
      have qf1 := hk2.frozen 1
      have q60 := hk6.cell 0
      have q61 := hk6.cell 1
      have qg0 := hk6.frozen 0
      have qg1 := hk6.frozen 1
      simp at q20 q21 q60 q61
      have hidx : (l.length : Int) - 1 = ((l.length - 1 : Nat) : Int) := by omega
      have hidx2 : ((l.length : Int) - 1).toNat = l.length - 1 := by omega
      generalize l.getD (l.length - 1) 0 = top at ck g1 g2 hsv
      clear hm hb hb1 hx1 HW hlt hk hsz
      by_cases htop : top / 9223372036854775808 = 1
      · rw [if_pos htop] at hsv
        have HSV := hide hsv
        have ht1 : (top / 9223372036854775808 == 1) = true := by simpa using htop
        clear hsv htop
        go_upto_region 9 with (fail)
        have hTwo := hide (fun (W : World) => (by
          have h := Two_any W (64 * l.length) (2 * l.length) 0 (by omega) (by omega) (by omega)
          rw [show ((64 * l.length : Nat) : Int) = 64 * (l.length : Int) by simp] at h
          exact h : Calls Tryz.prog 20 #[.int .i64 (64 * (l.length : Int))] W (PWide W (2 ^ (64 * l.length)))))
        have hbd := uv_lt h64
        have hbq := bp_le (show 2 * l.length ≤ 98 by omega)
        have hbr : bp 98 < bp 99 := by
          have h1 := bp_pos 98
          have h2 : bp 99 = 4294967296 * bp 98 := bp_succ 98
          omega
        have hbt := pow_bp (64 * l.length) 99 (by omega)
        have hbp : (0 : Int) < 2 ^ (64 * l.length) := Int.pow_pos (by decide)
        have hSub := hide (fun (W : World) (u v : Value) (h1 : Wd W u (uv l)) (h2 : Wd W v (2 ^ (64 * l.length))) => WideSub_any W u v _ _ h1 h2 (by omega) (by omega) (by omega) (by omega))
        clear hbd hbq hbr hbt hbp
        have hw64 : IntKind.i64.wrap (64 * (l.length : Int)) = 64 * (l.length : Int) := IntWalk.i64_in _ (by omega)
        go_region_with (first
          | (go_at_call 20; (with_reducible refine ((unhide hTwo) _).mono ?_); rintro e w3 ⟨x3, rfl, hx3, hb3⟩; have k36 : Blk w3 g6 29 #[.bool s1, .slice A1 n1 c1] := Blk.below (w := _) (by exact hk6) hb3; have k32 : Blk w3 w.heap.size 29 #[.bool false, .slice none 0 0] := Blk.below (w := _) (by exact hk2) hb3; have r60 := k36.cell 0; have r61 := k36.cell 1; simp at r60 r61; have hx23 : Wd w3 (.agg #[.bool s1, .slice A1 n1 c1]) (uv l) := Wd.below (w := _) (by exact hx2) hb3)
          | (go_at_call 30; (with_reducible refine ((unhide hSub) _ _ _ (by first | exact hx23 | assumption) (by assumption)).mono ?_); rintro e w4 ⟨x4, rfl, hx4, hb4⟩; obtain ⟨s4, A4, n4, c4, rfl⟩ := hx4.form; have k46 := k36.below hb4; have r60 := k46.cell 0; have r61 := k46.cell 1; have rf0 := k46.frozen 0; have rf1 := k46.frozen 1; simp at r60 r61))
        all_goals
          have k42 := k32.below hb4
          have hb3' : Below w.heap.size w w3 := below_tr (bdrew hm2.below) (by exact hb3) hm2.size
          have hb4' : Below w.heap.size w w4 := below_tr hb3' hb4 hb3'.size
          have hm5 : Below w.heap.size w ((w4.setCell ⟨g6, 0, none⟩ (.bool s4)).setCell ⟨g6, 1, none⟩ (.slice A4 n4 c4)) := (hb4'.setCell (by simp; omega) _).setCell (by simp; omega) _
          have hx5 := (hx4.far k46.tyb (by decide) 0 (.bool s4)).far (k46.tyb.set g6 0 (.bool s4)) (by decide) 1 (.slice A4 n4 c4)
          have k52 := (k42.other (a := ⟨g6, 0, none⟩) (by simp; omega) (.bool s4)).other (a := ⟨g6, 1, none⟩) (by simp; omega) (.slice A4 n4 c4)
          have k56 := (k46.set 0 (.bool s4)).set 1 (.slice A4 n4 c4)
          generalize ((w4.setCell ⟨g6, 0, none⟩ (.bool s4)).setCell ⟨g6, 1, none⟩ (.slice A4 n4 c4)) = w5 at hm5 hx5 k52 k56 ⊢
          have z20 := k52.cell 0
          have z21 := k52.cell 1
          have zf0 := k52.frozen 0
          have zf1 := k52.frozen 1
          have z60 := k56.cell 0
          have z61 := k56.cell 1
          simp at z20 z21 z60 z61
          have hfin := hide (pwide_fin hx5 k52 hm5 (Nat.le_refl _))
          clear k52 k56 hx5 hm5 hb4' hb3' k42 k32 k36 k46 hx4 hx3 hb3 hb4 hm2 hk6 hk2 hx2 hx23 hTwo hSub r60 r61 rf0 rf1 q20 q21 q60 q61 qf0 qf1 qg0 qg1
          go_wp2
          refine bodyPost_ret (v := .agg #[.bool s4, .slice A4 n4 c4]) (by simp [results, Tryz.results15, go_sem, z20, z21]) rfl ?_
          rw [unhide HSV]
          exact unhide hfin
      · rw [if_neg htop] at hsv
        have HSV := hide hsv
        have ht1 : (top / 9223372036854775808 == 1) = false := by simpa using htop
        have hfin := hide (pwide_fin hx2 hk2 hm2.below (Nat.le_refl _))
        clear hsv htop hm2 hk6 hk2 hx2
        go_wp2
        refine bodyPost_ret (v := .agg #[.bool s1, .slice A1 n1 c1]) (by simp [results, Tryz.results15, go_sem, q20, q21]) rfl ?_
        rw [unhide HSV]
        exact unhide hfin
end Go.Proofs.YtfalicipocbcoaaGreatDoor
