/- Exact integers: digits are taken off greater ones. (YtfalicipocbcoaaGreatDoor) -/
import Derived.Test.YtfalicipocbcoaaGreatDoorW3
import Derived.Deep.CutRange
set_option linter.unusedVariables false
set_option linter.unusedSimpArgs false
namespace Go.Proofs.YtfalicipocbcoaaGreatDoor
open Go.RowKit Go.ChangeShapes Go.WideShapes Go.ChangeAt
def ivs (k : IntKind) (l : List Int) : List Value := l.map (Value.int k)
theorem ivs_length (k : IntKind) (l : List Int) : (ivs k l).length = l.length := by simp [ivs]
theorem ivs_one (k : IntKind) (l : List Int) : ∀ u ∈ ivs k l, u.oneCell' = true := by
  intro u hu
  simp only [ivs, List.mem_map] at hu
  obtain ⟨x, _, rfl⟩ := hu
  rfl
theorem own_iset {w : World} {base : Nat} {e : TypeId} {k : IntKind} {g n cap : Nat} {cur : List Int} (h : w.ownsRow base e 1 (.slice (some ⟨g, 0, none⟩) n cap) n (ivs k cur)) (j : Nat) (x : Int) (hj : j < n) :
    (w.setCell ⟨g, j, none⟩ (.int k x)).ownsRow base e 1 (.slice (some ⟨g, 0, none⟩) n cap) n (ivs k (cur.set j x)) := by
  obtain ⟨h1, h2⟩ := h
  refine ⟨by simpa [ivs] using h1, ?_⟩
  rcases h2 with ⟨h2, _⟩ | ⟨g', cap', cu, e1, hb, hh, hc, hm, hs, ht⟩
  · cases h2
  · cases e1
    have := Blk.set (w := w) (g := g) (t := e) (cs := cu) hh j (.int k x)
    refine .inr ⟨g, cap, _, rfl, hb, this, hc, hm, by simpa using hs, ?_⟩
    rw [Array.toList_setIfInBounds, List.take_set, ht]
    simp [ivs, List.map_set]
theorem own_icell {w : World} {base : Nat} {e : TypeId} {k : IntKind} {g n cap : Nat} {cur : List Int} (h : w.ownsRow base e 1 (.slice (some ⟨g, 0, none⟩) n cap) n (ivs k cur)) (j : Nat) (hj : j < n) :
    w.cell? ⟨g, j, none⟩ = some (.int k (cur.getD j 0)) := by
  have hl : j < cur.length := by have := h.1; simp [ivs] at this; omega
  have h1 : (ivs k cur)[j]? = some (.int k (cur.getD j 0)) := by simp [ivs, List.getElem?_eq_getElem hl]
  have := h.cells (g := g) rfl j _ h1
  have e : (⟨g, 0, none⟩ : Addr).add j = ⟨g, j, none⟩ := by unfold Addr.add; split <;> simp_all
  rwa [e] at this
theorem rd_own {w : World} {base : Nat} {e : TypeId} {k : IntKind} {v : Value} {n : Nat} {l : List Int} (h : w.ownsRow base e 1 v n (ivs k l)) (hm : l.length ≤ 1000000) : Rd k w v l ∧ Ty w e v := by
  refine ⟨?_, Ty.own h⟩
  have hl : l.length = n := by have := h.1; simp [ivs] at this; omega
  subst hl
  rcases h.2 with ⟨rfl, hx⟩ | ⟨g, cap, cur, rfl, hb, hh, hc, _⟩
  · have : l = [] := by simpa [ivs] using hx
    subst this
    exact Rd.nil _ _
  · exact ⟨_, _, rfl, hc, own_sl h (Array.getElem?_eq_some_iff.1 hh).1, hm⟩
theorem Rd.src {P : Program} {w : World} {k : IntKind} {v : Value} {l : List Int} {t e : TypeId} (h : Rd k w v l) (ht : P.underlying t = some (.slice e)) : Src P 1 t v l.length (ivs k l) w := by
  obtain ⟨A, c, rfl, h1, h2, h3⟩ := h
  exact Sl.src h2 ht (ivs_one k l)
/-- append([]T{}, xs...): a new row with the same numbers. -/
theorem icopy_run {P : Program} (w : World) (k : IntKind) (t ty e : TypeId) (i : TypeInfo) (z : Value) (bytes : Nat) (ht : P.underlying t = some (.slice e)) (hi : P.info? e = some i) (hz : i.zero = some z)
    (hsize : i.size = 1) (hby : i.bytes = bytes) (hbb : bytes ≤ 8) (hzs : z.cells.size = 1) {v : Value} {l : List Int} (hd : Rd k w v l) :
    ∃ G cap w1, (Builtin.append_ #[t, t] ty #[.slice (some ⟨w.heap.size, 0, none⟩) 0 0, v]).run P (w.alloc (.cells #[] e)) = .ok (.slice (some ⟨G, 0, none⟩) l.length cap) w1 ∧
      w1.ownsRow w.heap.size e 1 (.slice (some ⟨G, 0, none⟩) l.length cap) l.length (ivs k l) ∧ Mod [] w w1 ∧ w.heap.size ≤ G ∧ G < w1.heap.size ∧ l.length ≤ cap := by
  have h0 : (w.alloc (.cells #[] e)).ownsRow w.heap.size e 1 (.slice (some ⟨w.heap.size, 0, none⟩) 0 0) 0 [] := World.ownsRow_made w #[] 0 (Nat.le_refl _) (by simp [maxLen]) rfl
  have hm0 : Mod [] w (w.alloc (.cells #[] e)) := Mod.alloc (Mod.refl _ _) _
  have hsrc := (hd.of_mod hm0).src ht
  have hlen : l.length ≤ 1000000 := by obtain ⟨_, _, _, _, _, h⟩ := hd; exact h
  have hmul : (0 + l.length) * bytes ≤ 140737488355328 := by
    have := Nat.mul_le_mul (show 0 + l.length ≤ 1000000 by omega) hbb
    omega
  obtain ⟨v1, w1, hrun, hown, hg, hv⟩ := append_own w.heap.size t t ty e i z bytes ht hi hz hsize hby hzs h0 hsrc hmul (by omega) (by simp)
  have hne : v1 ≠ .slice none 0 0 := by
    intro h
    have := hv.1 h
    simp at this
  simp only [Nat.zero_add, List.nil_append] at hown
  obtain ⟨G, cap, rfl, hb, hlt, hc⟩ := own_form hown hne
  refine ⟨G, cap, w1, hrun, hown, ?_, hb, hlt, hc⟩
  refine Mod.trans hm0 (Mod.of_grown (S := [w.heap.size]) hg ?_) (by simp)
  intro k hk
  simp [Value.ownBlock] at hk
  simp [hk]
theorem sub_arith (A C D q a x y br d br' : Int) (h : C + D = A + br * q) (ha : a = x) (hd : br + d + y = a + br' * 4294967296) : C + q * d + (D + q * y) = A + q * a + br' * (4294967296 * q) := by
  have e1 : q * (br + d + y) = q * (a + br' * 4294967296) := by rw [hd]
  simp only [Int.mul_add] at e1
  have e2 : q * br = br * q := Int.mul_comm _ _
  have e3 : q * (br' * 4294967296) = br' * (4294967296 * q) := by rw [Int.mul_left_comm, Int.mul_comm q]
  omega
def SubR (B G cap : Nat) (a b : List Int) (w : World) (v6 v14 : Value) (wr : World) : Prop :=
  ∃ (k : Nat) (cur : List Int) (br : Int), k ≤ a.length ∧ v14 = .int .i64 k ∧ v6 = .int .i64 br ∧ 0 ≤ br ∧ br ≤ 1 ∧ cur.length = a.length ∧ Sm cur ∧ wr.ownsRow B 69 1 (.slice (some ⟨G, 0, none⟩) a.length cap) a.length (ivs .u32 cur) ∧
    cur.drop k = a.drop k ∧ dv (cur.take k) + dv (b.take k) = dv (a.take k) + br * bp k ∧ Mod [] w wr
theorem sub_next {B G cap k : Nat} {a b cur : List Int} {w wr : World} {br d br' : Int} (hk : k < a.length) (hl : cur.length = a.length) (hs : Sm cur) (ho : wr.ownsRow B 69 1 (.slice (some ⟨G, 0, none⟩) a.length cap) a.length (ivs .u32 cur))
    (hdr : cur.drop k = a.drop k) (he : dv (cur.take k) + dv (b.take k) = dv (a.take k) + br * bp k) (hm : Mod [] w wr) (hG : w.heap.size ≤ G) (h0 : 0 ≤ d) (h1 : d < 4294967296) (hb0 : 0 ≤ br') (hb1 : br' ≤ 1)
    (hd : br + d + b.getD k 0 = cur.getD k 0 + br' * 4294967296) : SubR B G cap a b w (.int .i64 br') (.int .i64 ((k : Int) + 1)) (wr.setCell ⟨G, k, none⟩ (.int .u32 d)) := by
  have hg : cur.getD k 0 = a.getD k 0 := by
    have h2 := congrArg (fun l : List Int => l.getD 0 0) hdr
    simp only [List.getD_eq_getElem?_getD, List.getElem?_drop, Nat.add_zero] at h2 ⊢
    exact h2
  refine ⟨k + 1, cur.set k d, br', by omega, by simp, rfl, hb0, hb1, by simp [hl], sm_set hs k h0 h1, own_iset ho k d hk, ?_, ?_, hm.setCell (Or.inr hG) _⟩
  · rw [List.drop_set_of_lt (by omega)]
    have := congrArg (List.drop 1) hdr
    simpa [List.drop_drop, Nat.add_comm] using this
  · rw [dv_take_succ' (cur.set k d) k, dv_take_succ' b k, dv_take_succ' a k, set_getD _ _ _ _ (by omega), if_pos rfl, bp_succ, List.take_set_of_le (by omega)]
    exact sub_arith _ _ _ _ _ (cur.getD k 0) _ _ _ _ he hg.symm (by rw [← hg]; exact hd)
def PMag (w : World) (z : Int) (e : Ending) (w' : World) : Prop := ∃ x r, e = .returned x ∧ Mg w' x r ∧ Sm r ∧ Trim r ∧ dv r = z ∧ Below w.heap.size w w' ∧ New w.heap.size x
theorem sub_end {B G cap : Nat} {a b : List Int} {w wr : World} {v6 : Value} (ha : Sm a) (hb : Sm b) (hta : Trim a) (htb : Trim b) (hle : dv b ≤ dv a) {cur : List Int} {br : Int} (h0 : 0 ≤ br) (h1 : br ≤ 1) (hl : cur.length = a.length) (hs : Sm cur)
    (he : dv (cur.take a.length) + dv (b.take a.length) = dv (a.take a.length) + br * bp a.length) : dv cur = dv a - dv b := by
  rw [← hl, List.take_length, hl, List.take_length] at he
  have hbl : b.length ≤ a.length := by
    rcases Nat.lt_or_ge a.length b.length with h | h
    · have := dv_len_lt ha hb htb h; omega
    · exact h
  rw [List.take_of_length_le hbl] at he
  have h2 := dv_lt hs
  rw [hl] at h2
  have h3 := bp_pos a.length
  have : br = 0 ∨ br = 1 := by omega
  rcases this with rfl | rfl
  · omega
  · omega
set_option maxRecDepth 100000 in
set_option maxHeartbeats 2000000 in
theorem magSub_any (w : World) (u v : Value) (a b : List Int) (hu : Mg w u a) (hv : Mg w v b) (ha : Sm a) (hb : Sm b) (hta : Trim a) (htb : Trim b) (hle : dv b ≤ dv a) (hla : a.length ≤ 10000) :
    Calls Tryz.prog 45 #[u, v] w (PMag w (dv a - dv b)) := by
  obtain ⟨i0, hi0, hz0, hz1, hz2⟩ := info_parts (show (Tryz.prog.info? 69).map (fun i => (i.zero, i.size, i.bytes)) = some (some (.int .u32 0), 1, 4) by kernel_rfl)
  obtain ⟨G, cap, w1, hrun, hown, hm1, hG, hG1, hcap⟩ := icopy_run (P := Tryz.prog) w .u32 27 27 69 i0 _ 4 Tryz.underlying27 hi0 hz0 hz1 hz2 (by decide) rfl hu.1
  have hv1 := hv.1
  obtain ⟨A, c, rfl, _⟩ := hu.1
  have hbn : b.length ≤ a.length := by
    rcases Nat.lt_or_ge a.length b.length with h | h
    · have := dv_len_lt ha hb htb h; omega
    · exact h
  have hbc := hide (fun (wr : World) (h : Mod [] w wr) => hv1.of_mod h)
  have hvf : ∃ A' c', v = .slice A' b.length c' := by obtain ⟨A', c', e, _⟩ := hv1; exact ⟨A', c', e⟩
  obtain ⟨A', c', rfl⟩ := hvf
  have hend := hide (fun (cur : List Int) (br : Int) (h0 : 0 ≤ br) (h1 : br ≤ 1) hl hs he => sub_end (B := 0) (G := 0) (cap := 0) (w := w) (wr := w) (v6 := undef) (cur := cur) (br := br) ha hb hta htb hle h0 h1 hl hs he)
  have hsb : 0 ≤ dv b := dv_nn hb
  have HA := hide ha
  have HB := hide hb
  clear ha hb hta htb hle hv hu hv1 hsb
  have HR := hide hrun
  have HO := hide hown
  have HM := hide hm1
  clear hrun hown hm1 hi0 hz0 hz1 hz2
  go_enter Tryz.func45, Tryz.ntmps45
  go_wp2_with (at_builtin; refine wpList_append_run rfl _ _ 27 27 rfl _ _ _ _ rfl rfl HR.out ?_)
  go_loopw [6, 14] (SubR w.heap.size G cap a b w) (fun _ v _ => a.length - (intOf v).toNat)
  case atStart => exact ⟨0, a, 0, Nat.zero_le _, rfl, rfl, by omega, by omega, rfl, unhide HA, unhide HO, rfl, by simp [dv], unhide HM⟩
  case round =>
    obtain ⟨k, cur, br, hk, rfl, rfl, h0, h1, hl, hs, ho, hdr, he, hm⟩ := hrel
    by_cases hlt : k < a.length
    · have ck := own_icell ho k hlt
      have fk := own_frozen ho k
      obtain ⟨hx0, hx1⟩ := sm_get hs k
      obtain ⟨hy0, hy1⟩ := sm_get (unhide HB) k
      have hnx := hide (fun (d br' : Int) (h0' : 0 ≤ d) (h1' : d < 4294967296) (hb0 : 0 ≤ br') (hb1 : br' ≤ 1) hd => sub_next (br := br) (b := b) hlt hl hs ho hdr he hm hG h0' h1' hb0 hb1 hd)
      by_cases hkb : k < b.length
      · obtain ⟨bb, off, cc, ee, _, _, hbcell⟩ := ((unhide hbc) wr hm).one hkb
        injection ee with e1 _ e3
        subst e1 e3
        have cb := hbcell k hkb
        clear hbcell hdr he hs hl ho hm hbc
        generalize cur.getD k 0 = x at ck hx0 hx1 hnx
        generalize b.getD k 0 = y at cb hy0 hy1 hnx
        by_cases hneg : x - br - y < 0
        · have HF := hide ((unhide hnx) (x - br - y + 4294967296) 1 (by omega) (by omega) (by omega) (by omega) (by omega))
          clear hnx
          go_wp2
          all_goals exact ⟨unhide HF, by simp [intOf]; omega⟩
        · have HF := hide ((unhide hnx) (x - br - y) 0 (by omega) (by omega) (by omega) (by omega) (by omega))
          clear hnx
          go_wp2
          all_goals exact ⟨unhide HF, by simp [intOf]; omega⟩
      · have hyz : b.getD k 0 = 0 := by rw [List.getD_eq_getElem?_getD, List.getElem?_eq_none (by omega)]; rfl
        rw [hyz] at hnx
        clear hyz hy0 hy1 hdr he hs hl ho hm hbc
        generalize cur.getD k 0 = x at ck hx0 hx1 hnx
        by_cases hneg : x - br < 0
        · have HF := hide ((unhide hnx) (x - br + 4294967296) 1 (by omega) (by omega) (by omega) (by omega) (by omega))
          clear hnx
          go_wp2
          all_goals exact ⟨unhide HF, by simp [intOf]; omega⟩
        · have HF := hide ((unhide hnx) (x - br) 0 (by omega) (by omega) (by omega) (by omega) (by omega))
          clear hnx
          go_wp2
          all_goals exact ⟨unhide HF, by simp [intOf]; omega⟩
    · obtain rfl : k = a.length := by omega
      have hfin := (unhide hend) cur br h0 h1 hl hs he
      have hr := (rd_own ho (by omega)).1
      have hy := (rd_own ho (by omega)).2
      rw [← hl] at hr hy
      have ht := trim_any wr _ cap cur (by rw [hl]; rw [hl] at hr; exact hr)
      have hF : ∀ n, n ≤ cur.length → Trim (cur.take n) → dv (cur.take n) = dv cur → PMag w (dv a - dv b) (.returned (.slice (some ⟨G, 0, none⟩) n cap)) wr := by
        intro n hn h2 h3
        refine ⟨_, cur.take n, rfl, ⟨?_, fun b' off m c' e hp => ?_⟩, sm_take hs n, h2, by rw [h3, hfin], hm.below, fun b' off m c' e hp => by injection e with e1 _ _; injection e1 with e1; injection e1 with e1; omega⟩
        · obtain ⟨A9, c9, e9, hc9, hsl9, hm9⟩ := hr
          injection e9 with e91 e92 e93
          subst e91 e93
          exact rd_take hsl9 hm9 hn (by omega)
        · injection e with e1 e2 e3
          rw [← hl] at ho
          exact hy b' off _ cap (by rw [e1]) (by omega)
      rw [hl] at ht hF
      have HF := hide hF
      have HL := hide hl
      have HT := hide (show Calls Tryz.prog 31 #[.slice (some ⟨G, 0, none⟩) a.length cap] wr _ from ht)
      clear ht hF hfin hr hy hdr he hs hl ho hm hbc hend
      go_wp2_with (go_at_call 31; (with_reducible refine (unhide HT).mono ?_); rintro e w' ⟨n, rfl, hn, h2, h3, rfl⟩)
      go_ret
      exact (unhide HF) n (by rw [← unhide HL]; exact hn) h2 h3
end Go.Proofs.YtfalicipocbcoaaGreatDoor
