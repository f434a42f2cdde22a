/- Exact integers: division bit by bit, walked. (YtfalicipocbcoaaGreatDoor) -/
import Derived.Test.YtfalicipocbcoaaGreatDoorW8
set_option linter.unusedVariables false
set_option linter.unusedSimpArgs false
namespace Go.Proofs.YtfalicipocbcoaaGreatDoor
open Go.RowKit Go.ChangeShapes Go.WideShapes Go.ChangeAt
attribute [local go_sem ↓] Go.wp_at_zero Go.wp_at_succ
def DivRel (w : World) (B G n : Nat) (da db : Int) (v5 v6 : Value) (wr : World) : Prop :=
  ∃ (k : Nat) (x5 : Value) (r q : List Int), x5 = v5 ∧ k ≤ 32 * n ∧ v6 = .int .i64 ((k : Int) - 1) ∧ Mg wr x5 r ∧ Sm r ∧ Trim r ∧ Blk wr G 69 (ivs .u32 q).toArray ∧ q.length = n ∧ Sm q ∧ DivInv da db k (dv r) (dv q) ∧ Mod [] w wr
def PDiv (w : World) (da db : Int) (e : Ending) (w' : World) : Prop := ∃ x y q r, e = .returned (.tuple #[x, y]) ∧ Mg w' x q ∧ Sm q ∧ Trim q ∧ dv q = da / db ∧ Mg w' y r ∧ Sm r ∧ Trim r ∧ dv r = da % db ∧ Below w.heap.size w w'
theorem ivs_get (k : IntKind) (q : List Int) (j : Nat) (h : j < q.length) : (ivs k q).toArray[j]? = some (.int k (q.getD j 0)) := by
  simp [ivs, List.getElem?_eq_getElem h, List.getD_eq_getElem?_getD]
theorem divi_start (da db : Int) (n : Nat) (h0 : 0 ≤ da) (h1 : da < bp n) (hb : 0 < db) : DivInv da db (32 * n) (dv []) (dv (List.replicate n 0)) := by
  refine ⟨0, Int.le_refl _, by rw [dv_zeros]; simp, ?_, by simp [dv], by simpa [dv] using hb⟩
  rw [← bp_two, Int.ediv_eq_zero_of_lt h0 h1]; simp [dv]
theorem cmpI_cases2 (a b : Int) : (cmpI a b = -1 ∧ a < b) ∨ (0 ≤ cmpI a b ∧ b ≤ a) := by
  unfold cmpI
  by_cases h : a < b
  · rw [if_pos h]; left; exact ⟨rfl, h⟩
  · rw [if_neg h]; right
    constructor
    · split <;> decide
    · omega
theorem mg_take {w : World} {A : Option Addr} {c : Nat} {l : List Int} (h : Mg w (.slice A l.length c) l) {n : Nat} (hn : n ≤ l.length) : Mg w (.slice A n c) (l.take n) := by
  obtain ⟨⟨A', c', e, hc, hsl, hm⟩, hy⟩ := h
  injection e with e1 e2 e3
  subst e1 e3
  exact ⟨rd_take hsl hm hn (by omega), fun b off m c' he hp => by injection he with e1 e2 e3; subst e1 e2 e3; exact hy b off _ c rfl (by omega)⟩
theorem blk_iset {w : World} {k : IntKind} {G : Nat} {t : TypeId} {q : List Int} (h : Blk w G t (ivs k q).toArray) (j : Nat) (x : Int) : Blk ((w.setCell ⟨G, j, none⟩ (.int k x)).drew) G t (ivs k (q.set j x)).toArray := by
  have := h.set j (.int k x)
  rw [List.setIfInBounds_toArray, show (ivs k q).set j (.int k x) = ivs k (q.set j x) by simp [ivs, List.map_set]] at this
  exact this
theorem mg_apart {w : World} {v : Value} {l : List Int} {G j : Nat} {x : Value} (h : Mg w v l) (hn : ∀ b off n c, v = .slice (some ⟨b, off, none⟩) n c → 0 < n → b ≠ G) : Mg ((w.setCell ⟨G, j, none⟩ x).drew) v l := by
  obtain ⟨⟨A, c, rfl, h1, h2, h3⟩, hy⟩ := h
  refine ⟨⟨A, c, rfl, h1, ⟨h2.1, fun hp => ?_⟩, h3⟩, (hy.set G j x)⟩
  obtain ⟨b, off, rfl, hb, hc⟩ := h2.2 hp
  have hne := hn b off _ c rfl hp
  refine ⟨b, off, rfl, by show b < (w.setCell ⟨G, j, none⟩ x).heap.size; rw [World.size_setCell]; exact hb, fun i u hu => ?_⟩
  show (w.setCell ⟨G, j, none⟩ x).cell? _ = _
  rw [World.cell?_of_block (heap_set_other _ _ _ _ hne)]
  exact hc i u hu
set_option maxRecDepth 100000 in
set_option maxHeartbeats 8000000 in
theorem magDiv_any (w : World) (u v : Value) (a b : List Int) (hu : Mg w u a) (hv : Mg w v b) (ha : Sm a) (hb : Sm b) (hta : Trim a) (htb : Trim b) (h0 : 0 < dv b) (hla : a.length ≤ 100) (hlb : b.length ≤ 100) :
    Calls Tryz.prog 43 #[u, v] w (PDiv w (dv a) (dv b)) := by
  have hmk := make_u32 a.length (by omega) w
  have ha0 := dv_nn ha
  have ha0' : 0 ≤ dv a := ha0
  have ha1 := dv_lt ha
  have hrdu := hide (fun (W : World) (hm : Mod [] w W) => hu.below hm.below)
  have hrdv := hide (fun (W : World) (hm : Mod [] w W) => hv.below hm.below)
  have hst := hide (divi_start (dv a) (dv b) a.length ha0 ha1 h0)
  have hbb : dv b < bp 100 := by have := dv_lt hb; have := bp_le hlb; omega
  obtain ⟨⟨A, c, rfl, hc, _⟩, _⟩ := hu
  obtain ⟨⟨A', c', rfl, hc', _⟩, _⟩ := hv
  have HA := hide ha
  have HB := hide hb
  have HTB := hide htb
  clear ha hb hta htb ha0 ha1 hc hc'
  go_enter Tryz.func43, Tryz.ntmps43
  go_upto_region 2 with (fail)
  clear hmk
  have hm0 : Mod [] w (w.alloc (.cells (ivs .u32 (List.replicate a.length 0)).toArray 69)) := (Mod.refl _ _).alloc _
  have hb0 : Blk (w.alloc (.cells (ivs .u32 (List.replicate a.length 0)).toArray 69)) w.heap.size 69 (ivs .u32 (List.replicate a.length 0)).toArray := Blk.new _ _ rfl
  generalize (w.alloc (.cells (ivs .u32 (List.replicate a.length 0)).toArray 69)) = w1 at hm0 hb0 ⊢
  go_wp2
  go_loopw [5, 6] (DivRel w w.heap.size w.heap.size a.length (dv a) (dv b)) (fun _ v _ => (intOf v + 1).toNat)
  case atStart => exact ⟨32 * a.length, _, [], _, rfl, Nat.le_refl _, by simp, Mg.nil _, sm_nil, trim_nil, hb0, by simp, sm_zeros _, unhide hst, hm0⟩
  case round =>
    obtain ⟨k, x5, r, q, rfl, hk, rfl, hgr, hsr, htr, hbq, hql, hsq, hinv, hm⟩ := hrel
    rcases k with _ | m
    · obtain ⟨d1, d2⟩ := div_end hinv ha0'
      have hq := blk_rd hbq (by omega)
      rw [hql] at hq
      have ht := trim_any wr _ a.length q (by rw [hql]; exact hq.1)
      rw [hql] at ht
      have hF := hide (fun (n : Nat) (hn : n ≤ a.length) (h2 : Trim (q.take n)) (h3 : dv (q.take n) = dv q) =>
        (show PDiv w (dv a) (dv b) (.returned (.tuple #[.slice (some ⟨w.heap.size, 0, none⟩) n a.length, x5])) wr from
          ⟨_, _, q.take n, r, rfl, mg_take (c := a.length) (l := q) (by rw [hql]; exact hq) (by omega), sm_take hsq n, h2, h3.trans d1, hgr, hsr, htr, d2, hm.below⟩))
      have HT := hide ht
      have HQL := hide hql
      clear ht hq d1 d2 hinv hbq hql hsq hgr hsr htr hm
      go_wp2_with (go_at_call 31; (with_reducible refine (unhide HT).mono ?_); rintro e w8 ⟨n8, rfl, hn8, ht8, hd8, rfl⟩)
      go_ret2
      exact (unhide hF) n8 (by have := unhide HQL; omega) ht8 hd8
    · rw [show ((m + 1 : Nat) : Int) - 1 = (m : Int) by omega]
      have hdr : dv r < dv b := by obtain ⟨t, _, _, _, _, h5⟩ := hinv; exact h5
      have hlr := len_le hsr htr (n := 100) (by omega)
      obtain ⟨j, s, hj, hs⟩ : ∃ j s : Nat, m = 32 * j + s ∧ s < 32 := ⟨m / 32, m % 32, by omega, by omega⟩
      have hja : j < a.length := by omega
      have hx1 : (m : Int) / 32 = (j : Int) := by omega
      have hx2 : (m : Int) % 32 = (s : Int) := by omega
      have hGw : w.heap.size < wr.heap.size := hbq.lt
      have hdr0 := dv_nn hsr
      -- the first sum
      have HADD := hide (magAdd_any wr x5 x5 r r hgr.1 hgr.1 hsr hsr (by omega) (by omega))
      have HINV := hide hinv
      have HJ := hide hj
      have HK := hide hk
      clear hinv hj hk
      go_wp2_with fail
      refine (unhide HADD).mono ?_
      rintro e w2 ⟨x1, r1, rfl, hg1, hs1, hl1, hz1, hb1, hn1⟩
      clear HADD
      have hm2 := hm.trans (Mod.of_below (S := []) hb1) (by simp)
      have hbq2 := hbq.below hb1
      obtain ⟨bb, off, cc, ee, ck⟩ := wd_get ((unhide hrdu) w2 hm2).1 j hja
      injection ee with ee e2 e3
      subst ee e3
      clear e2
      obtain ⟨g1, g2⟩ := sm_get (unhide HA) j
      have hbit := and1_u32 (a.getD j 0) s g1 g2
      rw [← bit_of a (unhide HA) j s hs hja, ← (unhide HJ)] at hbit
      have hr1a : r1.length ≤ 102 := by omega
      generalize a.getD j 0 = aj at ck g1 g2 hbit
      have HZ1 := hide hz1
      clear hz1 hgr hbq
      by_cases hbt : dv a / 2 ^ m % 2 = 1
      · have hbit2 : (bits .and .u32 (aj / 2 ^ s) 1 == 1) = true := by rw [hbit]; simpa using hbt
        have HBT := hide hbt
        clear hbit hbt
        have hone := blk_rd (k := .u32) (l := [1]) (Blk.new (w := w2) (g := w2.heap.size) 69 (ivs .u32 [1]).toArray rfl) (by simp)
        have hg1' : Mg (w2.alloc (.cells (ivs .u32 [1]).toArray 69)) x1 r1 := hg1.below ((Below.refl _ _).alloc (Nat.le_refl _) _)
        have HADD := hide (magAdd_any _ x1 _ r1 [1] hg1'.1 hone.1 hs1 (sm_one (by decide) (by decide)) (by omega) (by simp))
        have hbq2' := hbq2.alloc (.cells (ivs .u32 [1]).toArray 69)
        have hm2' := hm2.alloc (.cells (ivs .u32 [1]).toArray 69)
        have hszw : wr.heap.size ≤ (w2.alloc (.cells (ivs .u32 [1]).toArray 69)).heap.size := by have := hb1.size; simp; omega
        clear hbq2 hm2 hone hg1' hg1
        go_wp2_with fail
        refine (unhide HADD).mono ?_
        rintro e w3 ⟨x2, r2, rfl, hg2, hs2, hl2', hz2, hb2, hn2'⟩
        have hm3 := hm2'.trans (Mod.of_below (S := []) hb2) (by simp)
        have hbq3 := hbq2'.below hb2
        have hn2 : New wr.heap.size x2 := fun b' off' n' c' e' hp => Nat.le_trans hszw (hn2' b' off' n' c' e' hp)
        have HZ2 := hide (show dv r2 = dv r + dv r + dv a / 2 ^ m % 2 by rw [hz2, unhide HZ1, unhide HBT]; simp [dv])
        have hl2 : r2.length ≤ 103 := by simp at hl2'; omega
        clear HADD hbq2' hm2' hl2' hz2 hn2'
        obtain ⟨A2, c2, rfl⟩ : ∃ A2 c2, x2 = .slice A2 r2.length c2 := by obtain ⟨A, c, e, _⟩ := hg2.1; exact ⟨A, c, e⟩
        go_wp2_with fail
        refine (trim_any w3 A2 c2 r2 hg2.1).mono ?_
        rintro e w4 ⟨n3, rfl, hn3, ht3, hd3, rfl⟩
        have hg3 := mg_take hg2 hn3
        have hs3 := sm_take hs2 n3
        have HZ3 := hide (hd3.trans (unhide HZ2))
        have hl3 : (r2.take n3).length ≤ 103 := by rw [take_len _ _ hn3]; omega
        have hn3' : New wr.heap.size (.slice A2 n3 c2) := fun b' off' n' c' e' hp => by injection e' with e1 e2 e3; subst e1 e3; exact hn2 b' off' _ _ rfl (by omega)
        have HN3 := hide hn3'
        generalize r2.take n3 = r3 at hg3 hs3 ht3 HZ3 hl3
        clear hg2 hs2 hn2 HZ2 hd3 hl2 hn3 hn3'
        go_wp2_with fail
        refine (magCmp_any w3 _ _ r3 b hg3.1 ((unhide hrdv) w3 hm3).1 hs3 (unhide HB) ht3 (unhide HTB) (by omega) (by omega)).mono ?_
        rintro e w5 ⟨rfl, hb5⟩
        have hm5 := hm3.trans (Mod.of_below (S := []) hb5) (by simp)
        have hg5 := hg3.below hb5
        have hbq5 := hbq3.below hb5
        rcases cmpI_cases2 (dv r3) (dv b) with ⟨hc0, hc1⟩ | ⟨hc0, hc1⟩
        · rw [hc0]
          have hF := hide (show DivRel w w.heap.size w.heap.size a.length (dv a) (dv b) (.slice A2 n3 c2) (.int .i64 ((m : Int) - 1)) w5 from
            ⟨m, _, r3, q, rfl, by have := unhide HK; omega, rfl, hg5, hs3, ht3, hbq5, hql, hsq, div_no (unhide HINV) (unhide HZ3) hc1, hm5⟩)
          clear hc0 hc1 hg5 hg3 hs3 ht3 hbq5 hbq3 hm5 hm3 hb5
          go_wp2
          go_roundw
          case rel => exact unhide hF
          case measure => simp [intOf]
        · have hc3 : (decide (0 ≤ cmpI (dv r3) (dv b))) = true := by simpa using hc0
          have hsub := magSub_any w5 _ _ r3 b hg5 ((unhide hrdv) w5 hm5) hs3 (unhide HB) ht3 (unhide HTB) hc1 (by omega)
          generalize cmpI (dv r3) (dv b) = cc9 at hc0 hc3 ⊢
          have HSUB := hide hsub
          clear hsub hg5 hg3 hs3 ht3 hbq3 hm3
          go_wp2_with fail
          refine (unhide HSUB).mono ?_
          rintro e w6 ⟨x4, r4, rfl, hg4, hs4, ht4, hz4, hb6, hn4⟩
          have hm6 := hm5.trans (Mod.of_below (S := []) hb6) (by simp)
          have hbq6 := hbq5.below hb6
          have cq := hbq6.cell j
          have fq := hbq6.frozen j
          rw [ivs_get _ _ _ (by omega)] at cq
          obtain ⟨hd1, hd2⟩ := digit_set hsq (unhide HINV) (unhide HJ) hs (show j < q.length by omega)
          have hor := or_bit (q.getD j 0) s (sm_get hsq j).1 (sm_get hsq j).2 hs (digit_clear hsq (unhide HINV) (unhide HJ) hs (by omega))
          have hpm : (2 : Int) ^ s % 4294967296 = 2 ^ s := by
            have h1 := p2_pos s
            have h2 : (2 : Int) ^ s < 2 ^ 32 := p2_lt hs
            have h3 : (2 : Int) ^ 32 = 4294967296 := rfl
            omega
          have hnb : ∀ b' off' n' c', x4 = .slice (some ⟨b', off', none⟩) n' c' → 0 < n' → b' ≠ w.heap.size := fun b' off' n' c' e' hp => by have h9 := hn4 b' off' n' c' e' hp; have h8 := hm5.size; have h7 := hbq5.lt; omega
          have hF := hide (fun (z : Int) (hz : z = bits .or .u32 (q.getD j 0) (2 ^ s % 4294967296)) => (show DivRel w w.heap.size w.heap.size a.length (dv a) (dv b) x4 (.int .i64 ((m : Int) - 1)) ((w6.setCell ⟨w.heap.size, j, none⟩ (.int .u32 z)).drew) from
            ⟨m, _, r4, q.set j (q.getD j 0 + 2 ^ s), rfl, by have := unhide HK; omega, rfl, mg_apart hg4 hnb, hs4, ht4, by rw [hz, hpm, hor]; exact blk_iset hbq6 j _, by simpa using hql, hd1, by rw [hd2, hz4]; exact div_yes (unhide HINV) (unhide HZ3) hc1, (hm6.setCell (by simp) _).drew⟩))
          generalize q.getD j 0 = qj at cq hF
          have hj1 : (j : Int) < (a.length : Int) := by omega
          clear hd1 hd2 hor hpm hnb hz4 hc1 hc0 hc3 hm6 hm5 hbq6 hbq5 hg4 hs4 ht4 hb6 hn4 HSUB hb5 HZ3
          go_upto_region 11 with (fail)
          go_region
          have HF := hide ((unhide hF) _ rfl)
          clear hF cq fq
          generalize bits BinOp.or IntKind.u32 qj (2 ^ s % 4294967296) = z at HF ⊢
          generalize ((w6.setCell ⟨w.heap.size, j, none⟩ (.int .u32 z)).drew) = w7 at HF ⊢
          go_wp2
          go_roundw
          case rel => exact unhide HF
          case measure => simp [intOf]
      · have hbit2 : (bits .and .u32 (aj / 2 ^ s) 1 == 1) = false := by rw [hbit]; simpa using hbt
        have HBT := hide (show dv a / 2 ^ m % 2 = 0 by omega)
        clear hbit hbt
        obtain ⟨w3, rfl⟩ : ∃ w3 : World, w3 = w2 := ⟨_, rfl⟩
        obtain ⟨x2, rfl⟩ : ∃ x2 : Value, x2 = x1 := ⟨_, rfl⟩
        obtain ⟨r2, rfl⟩ : ∃ r2 : List Int, r2 = r1 := ⟨_, rfl⟩
        have hm3 := hm2
        have hbq3 := hbq2
        have hg2 := hg1
        have hs2 := hs1
        have hn2 := hn1
        have hl2 : r2.length ≤ 103 := by omega
        have HZ2 := hide (show dv r2 = dv r + dv r + dv a / 2 ^ m % 2 by rw [unhide HZ1, unhide HBT]; simp)
        clear hm2 hbq2 hg1
        obtain ⟨A2, c2, rfl⟩ : ∃ A2 c2, x2 = .slice A2 r2.length c2 := by obtain ⟨A, c, e, _⟩ := hg2.1; exact ⟨A, c, e⟩
        go_wp2_with fail
        refine (trim_any w3 A2 c2 r2 hg2.1).mono ?_
        rintro e w4 ⟨n3, rfl, hn3, ht3, hd3, rfl⟩
        have hg3 := mg_take hg2 hn3
        have hs3 := sm_take hs2 n3
        have HZ3 := hide (hd3.trans (unhide HZ2))
        have hl3 : (r2.take n3).length ≤ 103 := by rw [take_len _ _ hn3]; omega
        have hn3' : New wr.heap.size (.slice A2 n3 c2) := fun b' off' n' c' e' hp => by injection e' with e1 e2 e3; subst e1 e3; exact hn2 b' off' _ _ rfl (by omega)
        have HN3 := hide hn3'
        generalize r2.take n3 = r3 at hg3 hs3 ht3 HZ3 hl3
        clear hg2 hs2 hn2 HZ2 hd3 hl2 hn3 hn3'
        go_wp2_with fail
        refine (magCmp_any w3 _ _ r3 b hg3.1 ((unhide hrdv) w3 hm3).1 hs3 (unhide HB) ht3 (unhide HTB) (by omega) (by omega)).mono ?_
        rintro e w5 ⟨rfl, hb5⟩
        have hm5 := hm3.trans (Mod.of_below (S := []) hb5) (by simp)
        have hg5 := hg3.below hb5
        have hbq5 := hbq3.below hb5
        rcases cmpI_cases2 (dv r3) (dv b) with ⟨hc0, hc1⟩ | ⟨hc0, hc1⟩
        · rw [hc0]
          have hF := hide (show DivRel w w.heap.size w.heap.size a.length (dv a) (dv b) (.slice A2 n3 c2) (.int .i64 ((m : Int) - 1)) w5 from
            ⟨m, _, r3, q, rfl, by have := unhide HK; omega, rfl, hg5, hs3, ht3, hbq5, hql, hsq, div_no (unhide HINV) (unhide HZ3) hc1, hm5⟩)
          clear hc0 hc1 hg5 hg3 hs3 ht3 hbq5 hbq3 hm5 hm3 hb5
          go_wp2
          go_roundw
          case rel => exact unhide hF
          case measure => simp [intOf]
        · have hc3 : (decide (0 ≤ cmpI (dv r3) (dv b))) = true := by simpa using hc0
          have hsub := magSub_any w5 _ _ r3 b hg5 ((unhide hrdv) w5 hm5) hs3 (unhide HB) ht3 (unhide HTB) hc1 (by omega)
          generalize cmpI (dv r3) (dv b) = cc9 at hc0 hc3 ⊢
          have HSUB := hide hsub
          clear hsub hg5 hg3 hs3 ht3 hbq3 hm3
          go_wp2_with fail
          refine (unhide HSUB).mono ?_
          rintro e w6 ⟨x4, r4, rfl, hg4, hs4, ht4, hz4, hb6, hn4⟩
          have hm6 := hm5.trans (Mod.of_below (S := []) hb6) (by simp)
          have hbq6 := hbq5.below hb6
          have cq := hbq6.cell j
          have fq := hbq6.frozen j
          rw [ivs_get _ _ _ (by omega)] at cq
          obtain ⟨hd1, hd2⟩ := digit_set hsq (unhide HINV) (unhide HJ) hs (show j < q.length by omega)
          have hor := or_bit (q.getD j 0) s (sm_get hsq j).1 (sm_get hsq j).2 hs (digit_clear hsq (unhide HINV) (unhide HJ) hs (by omega))
          have hpm : (2 : Int) ^ s % 4294967296 = 2 ^ s := by
            have h1 := p2_pos s
            have h2 : (2 : Int) ^ s < 2 ^ 32 := p2_lt hs
            have h3 : (2 : Int) ^ 32 = 4294967296 := rfl
            omega
          have hnb : ∀ b' off' n' c', x4 = .slice (some ⟨b', off', none⟩) n' c' → 0 < n' → b' ≠ w.heap.size := fun b' off' n' c' e' hp => by have h9 := hn4 b' off' n' c' e' hp; have h8 := hm5.size; have h7 := hbq5.lt; omega
          have hF := hide (fun (z : Int) (hz : z = bits .or .u32 (q.getD j 0) (2 ^ s % 4294967296)) => (show DivRel w w.heap.size w.heap.size a.length (dv a) (dv b) x4 (.int .i64 ((m : Int) - 1)) ((w6.setCell ⟨w.heap.size, j, none⟩ (.int .u32 z)).drew) from
            ⟨m, _, r4, q.set j (q.getD j 0 + 2 ^ s), rfl, by have := unhide HK; omega, rfl, mg_apart hg4 hnb, hs4, ht4, by rw [hz, hpm, hor]; exact blk_iset hbq6 j _, by simpa using hql, hd1, by rw [hd2, hz4]; exact div_yes (unhide HINV) (unhide HZ3) hc1, (hm6.setCell (by simp) _).drew⟩))
          generalize q.getD j 0 = qj at cq hF
          have hj1 : (j : Int) < (a.length : Int) := by omega
          clear hd1 hd2 hor hpm hnb hz4 hc1 hc0 hc3 hm6 hm5 hbq6 hbq5 hg4 hs4 ht4 hb6 hn4 HSUB hb5 HZ3
          go_upto_region 11 with (fail)
          go_region
          have HF := hide ((unhide hF) _ rfl)
          clear hF cq fq
          generalize bits BinOp.or IntKind.u32 qj (2 ^ s % 4294967296) = z at HF ⊢
          generalize ((w6.setCell ⟨w.heap.size, j, none⟩ (.int .u32 z)).drew) = w7 at HF ⊢
          go_wp2
          go_roundw
          case rel => exact unhide HF
          case measure => simp [intOf]
end Go.Proofs.YtfalicipocbcoaaGreatDoor
