/- Metadata are equal: the walk where as many pairs lie on both sides. (Ytpgonjoaeliccaa) -/
import Derived.Test.YtpgonjoaeliccaaM9
set_option linter.unusedVariables false
set_option linter.unusedSimpArgs false
namespace Go.Proofs.Ytpgonjoaeliccaa
open Go.RowKit Go.ChangeShapes Go.WideShapes Go.ChangeAt
attribute [local go_sem ↓] Go.wp_at_zero Go.wp_at_succ
def PBo (w : World) (r : Bool) (e : Ending) (w' : World) : Prop := e = .returned (.bool r) ∧ Below w.heap.size w w'
theorem pbo_mk {w w' : World} {r : Bool} (h : Below w.heap.size w w') : PBo w r (.returned (.bool r)) w' := ⟨rfl, h⟩
theorem ixs_get (xs : List Nat) (k : Nat) (h : k < xs.length) : (ixs xs)[k]? = some (.int .i64 ((xs.getD k 0 : Nat) : Int)) := by
  simp [ixs, List.getD_eq_getElem?_getD, List.getElem?_eq_getElem h]
theorem getD_mem (xs : List Nat) (k : Nat) (h : k < xs.length) : xs.getD k 0 ∈ xs := by
  rw [List.getD_eq_getElem?_getD, List.getElem?_eq_getElem h]
  exact List.getElem_mem h
theorem bdrewN {a b : World} {B : Nat} (h : Below B a b) (n : Nat) : Below B a (b.drewN n) := ⟨h.os, h.tape, h.output, h.size, h.block⟩
def PIn (w : World) (n : Nat) (xs : List Nat) (e : Ending) (w' : World) : Prop := ∃ A c, e = .returned (.slice A n c) ∧ n ≤ c ∧ Sl w' w'.heap.size A n (ixs xs) ∧ Below w.heap.size w w'
theorem sorted_n (w : World) (B n : Nat) (v : Value) (l : List Pr) (h : Md B w v l) (hn : l.length ≤ 100) (hl : l.length = n) : Calls Try.prog 12 #[v] w (PIn w n (sIdx (kb l))) :=
  (sorted_all w B v l h hn).mono fun e w' h' => by
    unfold PIx at h'
    rw [sIdx_len, kb_len, hl] at h'
    exact h'
theorem ba_inj {s t : ByteArray} (h : s.toList = t.toList) : s = t := by
  rw [ByteArray.toList_eq, ByteArray.toList_eq] at h
  exact ByteArray.ext (Array.toList_inj.1 h)
theorem ba_ne {s t : ByteArray} (h : ¬ s = t) : (s.toList != t.toList) = true ∧ (s.toList == t.toList) = false ∧ decide (s.toList = t.toList) = false ∧ ¬ s.toList = t.toList := by
  have h1 : ¬ s.toList = t.toList := fun e => h (ba_inj e)
  exact ⟨by simpa using h1, by simpa using h1, by simpa using h1, h1⟩
theorem KE.bel {w W : World} {a a' b b' : Value} (h : KE w a a' b b' W) : Below w.heap.size w W := h.2.2
def ER (w : World) (a a' b b' : Value) (la lb : List Pr) (w6 : World) (v21 : Value) (wr : World) : Prop := ∃ k : Nat, k ≤ la.length ∧ v21 = .int .i64 (k : Int) ∧ eqTo la lb k = true ∧ KE w a a' b b' wr ∧ Below w6.heap.size w6 wr
set_option maxRecDepth 100000 in
set_option maxHeartbeats 8000000 in
theorem equal_eq (w : World) (B : Nat) (va vb : Value) (la lb : List Pr) (ha : Md B w va la) (hb : Md B w vb lb) (hn : la.length ≤ 100) (he : la.length = lb.length) :
    Calls Try.prog 9 #[va, vb] w (PBo w (metaB la lb)) := by
  have ha0 := ha
  have hb0 := hb
  obtain ⟨A, c, A', c', rfl, hc, hc', r1, r2⟩ := ha
  obtain ⟨C, d, C', d', rfl, hd, hd', r3, r4⟩ := hb
  have hSA := hide (fun (W : World) (h : Below w.heap.size w W) => sorted_n W B la.length _ la (ha0.below h) hn rfl)
  have hSB := hide (fun (W : World) (h : Below w.heap.size w W) => sorted_n W B la.length _ lb (hb0.below h) (by omega) he.symm)
  have HR := hide (And.intro r1.1 (And.intro r2.1 (And.intro r3.1 r4.1)))
  have hmB : metaB la lb = eqTo la lb la.length := by unfold metaB; rw [decide_eq_true he]; rfl
  have HM := hide hmB
  clear r1 r2 r3 r4 ha0 hb0 hmB
  have HE := hide he
  have hi1 := hide (show (sIdx (kb la)).length = la.length by rw [sIdx_len, kb_len])
  have hi2 := hide (show (sIdx (kb lb)).length = la.length by rw [sIdx_len, kb_len, he])
  rw [← he]
  rw [← he] at hSB hd hd'
  clear he
  have hne : ((la.length : Int) != (la.length : Int)) = false := by simp
  have hF := hide (fun (w' : World) (h : Below w.heap.size w w') r => pbo_mk (r := r) h)
  go_enter Try.func9, Try.ntmps9
  go_upto_region 1 with (fail)
  have hk : KE w (.slice A la.length c) (.slice A' la.length c') (.slice C la.length d) (.slice C' la.length d') ((w.alloc (.cells #[.slice A la.length c, .slice A' la.length c'] 33)).alloc (.cells #[.slice C la.length d, .slice C' la.length d'] 33)) :=
    ⟨(Blk.new _ _ rfl).alloc _, Blk.new _ _ (by simp), ((Below.refl _ _).alloc (Nat.le_refl _) _).alloc (by simp) _⟩
  generalize ((w.alloc (.cells #[.slice A la.length c, .slice A' la.length c'] 33)).alloc (.cells #[.slice C la.length d, .slice C' la.length d'] 33)) = w1 at *
  have hS := hide (fun (W : World) (h : KE w (.slice A la.length c) (.slice A' la.length c') (.slice C la.length d) (.slice C' la.length d') W) => KE.facts h)
  obtain ⟨q0, q1, q2, q3, _⟩ := (unhide hS) _ hk
  go_region_held3 (fun W => W.cell? ⟨w.heap.size, 0, none⟩ = some (.slice A la.length c) ∧ W.cell? ⟨w.heap.size, 1, none⟩ = some (.slice A' la.length c') ∧ W.cell? ⟨w.heap.size + 1, 0, none⟩ = some (.slice C la.length d) ∧ W.cell? ⟨w.heap.size + 1, 1, none⟩ = some (.slice C' la.length d') ∧ KE w (.slice A la.length c) (.slice A' la.length c') (.slice C la.length d) (.slice C' la.length d') W)
    ((refine (unhide hS) _ ?_; (repeat' (first | (with_reducible assumption) | (with_reducible refine KE.drew ?_)))))
    (first
      | (go_at_call 11; (with_reducible refine (len_any _ _ _ _ _ _ _).mono ?_); rintro e wx ⟨rfl, hbx⟩; have kd := KE.below (by go_split_ands; assumption) hbx))
  clear hk q0 q1 q2 q3
  obtain ⟨q0, q1, q2, q3, _⟩ := (unhide hS) _ kd
  have tok : True := trivial
  go_upto_region 6 with (first
    | (go_at_call 12; have _t := tok; (with_reducible refine ((unhide hSA) _ (KE.bel kd)).mono ?_); rintro e w5 ⟨X1, cx1, rfl, hcx1, hx1, hb5⟩; have kd5 := KE.below kd hb5; obtain ⟨p0, p1, p2, p3, _⟩ := (unhide hS) _ kd5; clear tok)
    | (go_at_call 12; (with_reducible refine ((unhide hSB) _ (KE.bel kd5)).mono ?_); rintro e w6 ⟨X2, cx2, rfl, hcx2, hx2, hb6⟩; have kd6 := KE.below kd5 hb6; obtain ⟨t0, t1, t2, t3, _⟩ := (unhide hS) _ kd6))
  have hx15 := (hx1.mod (Mod.of_below (S := []) hb6) (by simp)).mono hb6.size
  have HX := hide (And.intro hx15 hx2)
  have HK6 := hide kd6
  obtain ⟨hx16, hx26⟩ := And.intro hx15 hx2
  have h00 := hide (show ER w (.slice A la.length c) (.slice A' la.length c') (.slice C la.length d) (.slice C' la.length d') la lb w6 (.int .i64 0) w6 from ⟨0, by omega, rfl, rfl, kd6, Below.refl _ _⟩)
  clear hx1 hx2 hx15 hx16 hx26 hb5 hb6 hbx kd kd5 kd6 p0 p1 p2 p3 t0 t1 t2 t3 q0 q1 q2 q3 hSA hSB
  go_loopw [21] (ER w (.slice A la.length c) (.slice A' la.length c') (.slice C la.length d) (.slice C' la.length d') la lb w6) (fun v _ => la.length - (intOf v).toNat)
  case atStart => exact unhide h00
  case round =>
    obtain ⟨k, hk, rfl, hq, hke, hb⟩ := hrel
    obtain ⟨q0, q1, q2, q3, _⟩ := (unhide hS) _ hke
    by_cases hlt : k < la.length
    · have hjm := getD_mem (sIdx (kb la)) k (by rw [sIdx_len, kb_len]; exact hlt)
      have hj := sIdx_lt _ _ hjm
      rw [kb_len] at hj
      have hmm := getD_mem (sIdx (kb lb)) k (by rw [sIdx_len, kb_len, ← unhide HE]; exact hlt)
      have hm := sIdx_lt _ _ hmm
      rw [kb_len, ← unhide HE] at hm
      have hm' : (sIdx (kb lb)).getD k 0 < lb.length := by rw [← unhide HE]; exact hm
      obtain ⟨⟨_, hX1⟩, ⟨_, hX2⟩⟩ := unhide HX
      obtain ⟨⟨_, hR1⟩, ⟨_, hR2⟩, ⟨_, hR3⟩, ⟨_, hR4⟩⟩ := unhide HR
      obtain ⟨x1, o1, rfl, l1, g1⟩ := hX1 (by omega)
      obtain ⟨x2, o2, rfl, l2, g2⟩ := hX2 (by omega)
      obtain ⟨b1, f1, rfl, m1, e1⟩ := hR1 (by omega)
      obtain ⟨b2, f2, rfl, m2, e2⟩ := hR2 (by omega)
      obtain ⟨b3, f3, rfl, m3, e3⟩ := hR3 (by omega)
      obtain ⟨b4, f4, rfl, m4, e4⟩ := hR4 (by omega)
      have y1 := (hb.cell (p := ⟨x1, o1 + k, none⟩) l1).trans (g1 k _ (ixs_get (sIdx (kb la)) k (by rw [sIdx_len, kb_len]; exact hlt)))
      have y2 := (hb.cell (p := ⟨x2, o2 + k, none⟩) l2).trans (g2 k _ (ixs_get (sIdx (kb lb)) k (by rw [sIdx_len, kb_len, ← unhide HE]; exact hlt)))
      have z1 := ((KE.bel hke).cell (p := ⟨b1, f1 + (sIdx (kb la)).getD k 0, none⟩) m1).trans (e1 _ _ (ks_get la _ hj))
      have z2 := ((KE.bel hke).cell (p := ⟨b2, f2 + (sIdx (kb la)).getD k 0, none⟩) m2).trans (e2 _ _ (vs_get la _ hj))
      have z3 := ((KE.bel hke).cell (p := ⟨b3, f3 + (sIdx (kb lb)).getD k 0, none⟩) m3).trans (e3 _ _ (ks_get lb _ hm'))
      have z4 := ((KE.bel hke).cell (p := ⟨b4, f4 + (sIdx (kb lb)).getD k 0, none⟩) m4).trans (e4 _ _ (vs_get lb _ hm'))
      have hsu := eqTo_succ la lb k
      rw [hq, Bool.true_and] at hsu
      have hle := hide (fun h => eqTo_le la lb (k + 1) la.length (by omega) h)
      have HKE := hide hke
      have HB := hide hb
      clear hX1 hX2 hR1 hR2 hR3 hR4 g1 g2 e1 e2 e3 e4 hjm hmm hm' hq hke hb
      generalize (sIdx (kb la)).getD k 0 = j at *
      generalize (sIdx (kb lb)).getD k 0 = m at *
      generalize la.getD j dP = pa at *
      generalize lb.getD m dP = pb at *
      obtain ⟨s1, s2⟩ := pa
      obtain ⟨t1, t2⟩ := pb
      dsimp only at z1 z2 z3 z4
      by_cases h1 : s1 = t1
      · subst h1
        by_cases h2 : s2 = t2
        · subst h2
          have hr := hide (fun (W : World) (h : Below wr.heap.size wr W) => (show ER w (.slice (some ⟨b1, f1, none⟩) la.length c) (.slice (some ⟨b2, f2, none⟩) la.length c') (.slice (some ⟨b3, f3, none⟩) la.length d) (.slice (some ⟨b4, f4, none⟩) la.length d') la lb w6 (.int .i64 ((k : Int) + 1)) W from ⟨k + 1, by omega, by simp, by rw [hsu]; simp, KE.below (unhide HKE) h, below_tr (unhide HB) h (unhide HB).size⟩))
          clear hsu hle HKE HB
          go_upto_region 10 with (fail)
          go_quiet (fail)
          go_wp2_with fail
          exact ⟨(unhide hr) _ (bdrewN (Below.refl _ _) _), by simp [intOf]; omega⟩
        · have hz : eqTo la lb la.length = false := (unhide hle) (by rw [hsu]; simp [h2])
          rw [← unhide HM] at hz
          have hr := hide (fun (W : World) (h : Below wr.heap.size wr W) => (show PBo w (metaB la lb) (.returned (.bool false)) W by rw [hz]; exact pbo_mk (below_tr (KE.bel (unhide HKE)) h (KE.bel (unhide HKE)).size)))
          clear hsu hle HKE HB hz
          obtain ⟨hd1, hd2, hd3, hd4⟩ := ba_ne h2
          go_upto_region 10 with (fail)
          go_quiet (fail)
          go_wp2_with fail
          all_goals first | (go_ret; exact (unhide hr) _ (bdrewN (Below.refl _ _) _)) | (exfalso; simp_all; done)
      · have hz : eqTo la lb la.length = false := (unhide hle) (by rw [hsu]; simp [h1])
        rw [← unhide HM] at hz
        have hr := hide (fun (W : World) (h : Below wr.heap.size wr W) => (show PBo w (metaB la lb) (.returned (.bool false)) W by rw [hz]; exact pbo_mk (below_tr (KE.bel (unhide HKE)) h (KE.bel (unhide HKE)).size)))
        clear hsu hle HKE HB hz
        obtain ⟨hd1, hd2, hd3, hd4⟩ := ba_ne h1
        go_upto_region 10 with (fail)
        go_quiet (fail)
        go_wp2_with fail
        all_goals first | (go_ret; exact (unhide hr) _ (bdrewN (Below.refl _ _) _)) | (exfalso; simp_all; done)
    · obtain rfl : k = la.length := by omega
      rw [← unhide HM] at hq
      have hr := hide (show PBo w (metaB la lb) (.returned (.bool true)) wr by rw [hq]; exact pbo_mk (KE.bel hke))
      clear hq hke hb
      go_wp2_with fail
      go_ret
      exact unhide hr
end Go.Proofs.Ytpgonjoaeliccaa
