/- Bytes combined at one and the same place within the byte: whole bytes. (YtjfbojmeccdchaaDoor) -/
import Derived.Test.YtjfbojmeccdchaaDoorF7
set_option linter.unusedVariables false
set_option linter.unusedSimpArgs false
namespace Go.Proofs.YtjfbojmeccdchaaDoor
open Go.ChangeShapes Go.WideShapes Go.ChangeAt Go.RowKit
theorem put64_i4 (w : World) (B G N cap o n c v : Nat) (x : Int) (hx : x = (v : Int)) (mem : List Nat) (hv : v < 18446744073709551616) (hn : 8 ≤ n) (hoN : o + 8 ≤ N) (hown : w.ownsRow B 5 1 (.slice (some ⟨G, 0, none⟩) N cap) N (bv mem)) :
    Calls Tryd.prog 63 #[.agg #[], .slice (some ⟨G, o, none⟩) n c, .int .u64 x] w fun e w' => e = .returned (.tuple #[]) ∧ w'.ownsRow B 5 1 (.slice (some ⟨G, 0, none⟩) N cap) N (bv (put8 mem o v)) ∧ Mod [G] w w' := by subst hx; exact put64_any w B G N cap o n c v mem hv hn hoN hown
def win4 (d : List Nat) (a m : Nat) : List Nat := (d.drop a).take m
theorem win4_len {d : List Nat} {a m : Nat} (h : a + m ≤ d.length) : (win4 d a m).length = m := by unfold win4; rw [List.length_take, List.length_drop]; omega
theorem win4_small {d : List Nat} (h : Small d) (a m : Nat) : Small (win4 d a m) := fun x hx => h x (List.mem_of_mem_drop (List.mem_of_mem_take hx))
theorem win4_get (d : List Nat) (a m k : Nat) (h : k < m) : (win4 d a m).getD k 0 = d.getD (a + k) 0 := by
  unfold win4
  rw [List.getD_eq_getElem?_getD, List.getD_eq_getElem?_getD, List.getElem?_take_of_lt h, List.getElem?_drop]
theorem win4_sl {w : World} {S a m : Nat} {d : List Nat} {lo : Nat} (hr : Rdb w S d lo) (hS : S < w.heap.size) (h : a + m ≤ d.length) (hlo : lo ≤ a := by omega) : Sl w w.heap.size (some ⟨S, a, none⟩) m (bv (win4 d a m)) := by
  refine ⟨by rw [bv_length, win4_len h], fun hm => ⟨S, a, rfl, hS, fun j u hu => ?_⟩⟩
  have hj : j < m := by
    have := (List.getElem?_eq_some_iff.1 hu).1
    rw [bv_length, win4_len h] at this; exact this
  rw [hr (a + j) (by omega) (by omega)]
  have h2 := bv_get (win4 d a m) j (by rw [win4_len h]; exact hj)
  rw [List.getElem?_toArray] at h2
  rw [h2] at hu
  rw [win4_get d a m j hj] at hu
  exact hu
theorem own_ne4 {w : World} {B G N cap GL : Nat} {xs : List Value} {cs : Array Value} (h : w.ownsRow B 5 1 (.slice (some ⟨G, 0, none⟩) N cap) N xs) (hb : Blk w GL 58 cs) : GL ≠ G := by
  rintro rfl
  rcases h.2 with h2 | ⟨g, c', cur, hv, _, hh, _⟩
  · simp at h2
  · simp only [Value.slice.injEq, Option.some.injEq, Addr.mk.injEq] at hv
    obtain ⟨⟨rfl, _⟩, _⟩ := hv
    unfold Blk at hb
    rw [hh] at hb
    simp at hb
def LA4 (w3 : World) (B G N cap o q : Nat) (mem x y : List Nat) (v : Value) (wr : World) : Prop :=
  ∃ j : Nat, j ≤ q ∧ v = .int .i64 (j : Int) ∧ wr.ownsRow B 5 1 (.slice (some ⟨G, 0, none⟩) N cap) N (bv (alB 4 mem o x y (8 * j))) ∧ Mod [G] w3 wr
def LB4 (w3 : World) (B G N cap o m : Nat) (mem x y : List Nat) (v : Value) (wr : World) : Prop :=
  ∃ k : Nat, k ≤ m ∧ v = .int .i64 (k : Int) ∧ wr.ownsRow B 5 1 (.slice (some ⟨G, 0, none⟩) N cap) N (bv (alB 4 mem o x y k)) ∧ Mod [G] w3 wr
set_option maxRecDepth 100000 in
set_option maxHeartbeats 4000000 in
theorem al_4 (w : World) (B G N cap o m c S1 a1 c1 S2 a2 c2 : Nat) (sb1 sb2 mem : List Nat) (hs1 : Small sb1) (hs2 : Small sb2) (hsm : Small mem) (hl : mem.length = N) (hN : N ≤ 4096) (ho : o + m ≤ N) (hm0 : 0 < m) (h1 : a1 + m ≤ sb1.length) (h2 : a2 + m ≤ sb2.length) (hc : m ≤ c) (hc1 : m ≤ c1) (hc2 : m ≤ c2)
    (hG1 : S1 ≠ G) (hG2 : S2 ≠ G) {lo1 lo2 : Nat} (hr1 : Rdb w S1 sb1 lo1) (hr2 : Rdb w S2 sb2 lo2) (hown : w.ownsRow B 5 1 (.slice (some ⟨G, 0, none⟩) N cap) N (bv mem)) (hlo1 : lo1 ≤ a1 := by omega) (hlo2 : lo2 ≤ a2 := by omega) :
    Calls Tryd.prog 49 #[.slice (some ⟨S1, a1, none⟩) m c1, .slice (some ⟨S2, a2, none⟩) m c2, .slice (some ⟨G, o, none⟩) m c] w fun e w' => e = .returned (.tuple #[]) ∧ w'.ownsRow B 5 1 (.slice (some ⟨G, 0, none⟩) N cap) N (bv (alB 4 mem o (win4 sb1 a1 m) (win4 sb2 a2 m) m)) ∧ Mod [G] w w' := by
  have hx := win4_small hs1 a1 m
  have hy := win4_small hs2 a2 m
  have hxl := win4_len h1
  have hyl := win4_len h2
  have hgx := fun k hk => win4_get sb1 a1 m k hk
  have hgy := fun k hk => win4_get sb2 a2 m k hk
  have hS1 : S1 < w.heap.size := World.block_lt_of_cell? w ⟨S1, a1, none⟩ (hr1 a1 (by omega) (by omega))
  have hS2 : S2 < w.heap.size := World.block_lt_of_cell? w ⟨S2, a2, none⟩ (hr2 a2 (by omega) (by omega))
  have hGl := own_lt' hown
  -- the bytes behind the words
  have hBytes : ∀ (w3 : World) (k0 : Nat), True := fun _ _ => trivial
  by_cases h8 : 8 < m
  · have hq8 : 8 * (m / 8) ≤ m := by omega
    have hb1 := hide (fun (W : World) (hm : Mod [] w W) => b2w_any W (some ⟨S1, a1, none⟩) m c1 (win4 sb1 a1 m) hx (win4_sl (hr1.mod hm (by simp)) (by have := hm.size; omega) h1) (by omega) (by omega) hc1 (q := m / 8) rfl)
    have hb2 := hide (fun (W : World) (hm : Mod [] w W) => b2w_any W (some ⟨S2, a2, none⟩) m c2 (win4 sb2 a2 m) hy (win4_sl (hr2.mod hm (by simp)) (by have := hm.size; omega) h2) (by omega) (by omega) hc2 (q := m / 8) rfl)
    have hb3 := hide (fun (W : World) (hm : Mod [] w W) => b2w_any W (some ⟨G, o, none⟩) m c (win4 mem o m) (win4_small hsm o m) (win4_sl (own_rdb (own_mod hown hm (by simp))) (by have := hm.size; omega) (by omega)) (by omega) (by omega) hc (q := m / 8) rfl)
    have KO := hide hown
    have KR1 := hide hr1
    have KR2 := hide hr2
    clear hown hr1 hr2 hBytes
    go_enter Tryd.func49, Tryd.ntmps49
    go_upto_region 6 with (first
      | (go_at_call 62; with_reducible refine (unhide hb1 _ (Mod.refl _ _)).mono ?_; rintro e w4 ⟨GL, rfl, hBL, hm4⟩)
      | (go_at_call 62; with_reducible refine (unhide hb2 _ hm4).mono ?_; rintro e w5 ⟨GR, rfl, hBR, hm5⟩; have hm05 := hm4.trans hm5 (by simp))
      | (go_at_call 62; with_reducible refine (unhide hb3 _ hm05).mono ?_; rintro e w6 ⟨GO, rfl, hBO, hm6⟩)
      | fail)
    have hm06 := hm05.trans hm6 (by simp)
    have hL6 := (hBL.mod hm5 (by simp)).mod hm6 (by simp)
    have hR6 := hBR.mod hm6 (by simp)
    have hO6 := own_mod (unhide KO) hm06 (by simp)
    have KR6a := hide (Rdb.mod (unhide KR1) hm06 (by simp))
    have KR6b := hide (Rdb.mod (unhide KR2) hm06 (by simp))
    have KM6 := hide (hm06.any [G])
    have KL6 := hide hL6
    have KRR6 := hide hR6
    have hGLG := own_ne4 hO6 hL6
    have hGRG := own_ne4 hO6 hR6
    have h0 := hide (show LA4 w6 B G N cap o (m / 8) mem (win4 sb1 a1 m) (win4 sb2 a2 m) (.int .i64 0) w6 from ⟨0, by omega, rfl, hO6, Mod.refl _ _⟩)
    clear hb1 hb2 hb3 KO hBL hBR hBO hm4 hm5 hm6 hm05 hm06 hL6 hR6 hO6
    go_wp2_with fail
    go_loopw [30] (LA4 w6 B G N cap o (m / 8) mem (win4 sb1 a1 m) (win4 sb2 a2 m)) (fun v _ => m / 8 - (intOf v).toNat)
    case atStart => exact unhide h0
    case round =>
      obtain ⟨j, hj, rfl, hO, hmr⟩ := hrel
      by_cases hlt : j < m / 8
      · have hLr := Blk.mod (unhide KL6) hmr (by simpa using hGLG)
        have hRr := Blk.mod (unhide KRR6) hmr (by simpa using hGRG)
        have cl : wr.cell? ⟨GL, j, none⟩ = some (.int .u64 (word (win4 sb1 a1 m) j : Int)) := by rw [hLr.cell]; simp [words, hlt]
        have cr : wr.cell? ⟨GR, j, none⟩ = some (.int .u64 (word (win4 sb2 a2 m) j : Int)) := by rw [hRr.cell]; simp [words, hlt]
        have lx : word (win4 sb1 a1 m) j < 18446744073709551616 := wordAt_lt hx (8 * j)
        have ly : word (win4 sb2 a2 m) j < 18446744073709551616 := wordAt_lt hy (8 * j)
        have hbo := show bits .xor .u64 IntKind.u64.max (bits .xor .u64 ((word (win4 sb1 a1 m) j : Nat) : Int) ((word (win4 sb2 a2 m) j : Nat) : Int)) = ((wOp 4 (word (win4 sb1 a1 m) j) (word (win4 sb2 a2 m) j) : Nat) : Int) from (by rw [u64_xor_nat _ _ lx ly]; exact notu64 _ (Nat.xor_lt_two_pow (n := 64) lx ly))
        have hpa := put8_alB hsm hx hy 4 o j (by omega) (by omega) (by omega)
        have hP := hide (fun (W : World) (hm : Mod [] wr W) => put64_i4 W B G N cap (o + j * 8) (m - j * 8) (c - j * 8) (wOp 4 (word (win4 sb1 a1 m) j) (word (win4 sb2 a2 m) j)) _ hbo (alB 4 mem o (win4 sb1 a1 m) (win4 sb2 a2 m) (8 * j)) (wOp_lt 4 _ _ lx ly) (by omega) (by omega) (own_mod hO hm (by simp)))
        rw [Nat.mul_comm 8 j] at hpa
        rw [Nat.mul_comm 8 j, hpa] at hP
        have hC := hide (fun (W W' : World) (g1 : W'.ownsRow B 5 1 (.slice (some ⟨G, 0, none⟩) N cap) N (bv (alB 4 mem o (win4 sb1 a1 m) (win4 sb2 a2 m) (8 * (j + 1))))) (g0 : Mod [] wr W) (g2 : Mod [G] W W') => (show LA4 w6 B G N cap o (m / 8) mem (win4 sb1 a1 m) (win4 sb2 a2 m) (.int .i64 ((j : Int) + 1)) W' from ⟨j + 1, by omega, by simp, g1, (hmr.trans g0 (by simp)).trans g2 (by simp)⟩))
        clear hO hmr h0 hbo hpa hLr hRr
        have q1 : j * 8 ≤ m := by omega
        have q2 : (j : Int) * 8 ≤ (m : Int) := by omega
        have q3 : j * 8 < c := by omega
        have q4 : (j : Int) * 8 < (c : Int) := by omega
        have q5 : ¬ c - j * 8 = 0 := by omega
        have q6 : ¬ c = j * 8 := by omega
        have q7 : 0 ≤ (j : Int) * 8 := by omega
        have q8 : (m : Int) ≤ (c : Int) := by omega
        have q9 : (8 : Int) * (j : Int) < (c : Int) := by omega
        have q10 : (c : Int) - (j : Int) * 8 ≠ 0 := by omega
        have q11 : ¬ (c : Int) = (j : Int) * 8 := by omega
        generalize word (win4 sb1 a1 m) j = x at *
        generalize word (win4 sb2 a2 m) j = y at *
        rcases Nat.eq_zero_or_pos j with rfl | hjp
        · simp only [Nat.zero_mul, Nat.add_zero, Nat.sub_zero] at hP
          have hw0 : IntKind.i64.wrap 0 = 0 := by decide
          have hw1 : ¬ c = 0 := by omega
          go_upto_region 9 with (fail)
          go_region_with (first | (go_at_call 63; with_reducible refine (unhide hP _ (by (repeat' (first | (with_reducible exact Mod.refl _ _) | (with_reducible assumption) | (with_reducible refine Mod.drew ?_) | (with_reducible refine Mod.drewN ?_ _) | (with_reducible refine Mod.alloc ?_ _) | (with_reducible refine Mod.setCell ?_ ?_ _) | (left; simp; done) | (right; first | omega | (simp; omega) | (simp; done)))))).mono ?_; rintro e w7 ⟨rfl, ho7, hm7⟩))
          all_goals (go_wp2_with fail)
          all_goals exact ⟨unhide hC _ w7 ho7 (show Mod [] wr _ from (by (repeat' (first | (with_reducible exact Mod.refl _ _) | (with_reducible assumption) | (with_reducible refine Mod.drew ?_) | (with_reducible refine Mod.drewN ?_ _) | (with_reducible refine Mod.alloc ?_ _) | (with_reducible refine Mod.setCell ?_ ?_ _) | (left; simp; done) | (right; first | omega | (simp; omega) | (simp; done)))))) hm7, by simp [intOf]; omega⟩
        · have hkn : ¬ j * 8 = 0 := by omega
          have hkn2 : ¬ j = 0 := by omega
          have hw0 : IntKind.i64.wrap ((j : Int) * 8) = (j : Int) * 8 := (IntWalk.i64_left _).trans (IntWalk.wrap64_in _ (by omega))
          have hw1 : ((j : Int) * 8).toNat = j * 8 := by omega
          go_upto_region 9 with (fail)
          go_region_with (first | (go_at_call 63; with_reducible refine (unhide hP _ (by (repeat' (first | (with_reducible exact Mod.refl _ _) | (with_reducible assumption) | (with_reducible refine Mod.drew ?_) | (with_reducible refine Mod.drewN ?_ _) | (with_reducible refine Mod.alloc ?_ _) | (with_reducible refine Mod.setCell ?_ ?_ _) | (left; simp; done) | (right; first | omega | (simp; omega) | (simp; done)))))).mono ?_; rintro e w7 ⟨rfl, ho7, hm7⟩))
          all_goals (go_wp2_with fail)
          all_goals exact ⟨unhide hC _ w7 ho7 (show Mod [] wr _ from (by (repeat' (first | (with_reducible exact Mod.refl _ _) | (with_reducible assumption) | (with_reducible refine Mod.drew ?_) | (with_reducible refine Mod.drewN ?_ _) | (with_reducible refine Mod.alloc ?_ _) | (with_reducible refine Mod.setCell ?_ ?_ _) | (left; simp; done) | (right; first | omega | (simp; omega) | (simp; done)))))) hm7, by simp [intOf]; omega⟩
      · obtain rfl : j = m / 8 := by omega
        have h9 := hide (show LB4 w6 B G N cap o m mem (win4 sb1 a1 m) (win4 sb2 a2 m) (.int .i64 ((8 * (m / 8) : Nat) : Int)) wr from ⟨8 * (m / 8), by omega, rfl, hO, hmr⟩)
        clear hO hmr h0
        go_wp2_with fail
        go_loopw [7] (LB4 w6 B G N cap o m mem (win4 sb1 a1 m) (win4 sb2 a2 m)) (fun v _ => m - (intOf v).toNat)
        case atStart =>
          refine (show ∀ z : Int, z = ((8 * (m / 8) : Nat) : Int) → LB4 w6 B G N cap o m mem (win4 sb1 a1 m) (win4 sb2 a2 m) (.int .i64 z) wr from fun z hz => by rw [hz]; exact unhide h9) _ ?_
          omega
        case round =>
          obtain ⟨k, hk, rfl, hO, hmr⟩ := hrel
          by_cases hlt : k < m
          · have cx := Rdb.mod (unhide KR6a) hmr (by simpa using hG1) (a1 + k) (by omega) (by omega)
            have cy := Rdb.mod (unhide KR6b) hmr (by simpa using hG2) (a2 + k) (by omega) (by omega)
            have hx8 := hs1.get (a1 + k)
            have hy8 := hs2.get (a2 + k)
            have cg := own_cell hO (o + k) (by omega)
            have fg := own_frozen hO (o + k)
            have hst := own_set hO (o + k) (bOp 4 (sb1.getD (a1 + k) 0) (sb2.getD (a2 + k) 0)) (by omega)
            have hal : alB 4 mem o (win4 sb1 a1 m) (win4 sb2 a2 m) (k + 1) = (alB 4 mem o (win4 sb1 a1 m) (win4 sb2 a2 m) k).set (o + k) (bOp 4 (sb1.getD (a1 + k) 0) (sb2.getD (a2 + k) 0)) := by rw [alB, hgx k hlt, hgy k hlt]
            rw [← hal] at hst
            have hbo := show bits .xor .u8 IntKind.u8.max (bits .xor .u8 ((sb1.getD (a1 + k) 0 : Nat) : Int) ((sb2.getD (a2 + k) 0 : Nat) : Int)) = ((bOp 4 (sb1.getD (a1 + k) 0) (sb2.getD (a2 + k) 0) : Nat) : Int) from (by rw [u8_xor_nat _ _ hx8 hy8]; exact notu8 _ (Nat.xor_lt_two_pow (n := 8) hx8 hy8))
            rw [← hbo] at hst
            have hC := hide (fun (W : World) (g1 : W.ownsRow B 5 1 (.slice (some ⟨G, 0, none⟩) N cap) N (bv (alB 4 mem o (win4 sb1 a1 m) (win4 sb2 a2 m) (k + 1)))) (g2 : Mod [G] wr W) => (show LB4 w6 B G N cap o m mem (win4 sb1 a1 m) (win4 sb2 a2 m) (.int .i64 ((k : Int) + 1)) W from ⟨k + 1, by omega, by simp, g1, hmr.trans g2 (by simp)⟩))
            have HST := hide hst
            clear hO hmr h9 hst hbo hal
            generalize sb1.getD (a1 + k) 0 = x at *
            generalize sb2.getD (a2 + k) 0 = y at *
            go_upto_region 14 with (fail)
            go_region
            all_goals (go_wp2_with fail)
            all_goals exact ⟨unhide hC _ (own_D (unhide HST)) (by (repeat' (first | (with_reducible exact Mod.refl _ _) | (with_reducible assumption) | (with_reducible refine Mod.drew ?_) | (with_reducible refine Mod.drewN ?_ _) | (with_reducible refine Mod.alloc ?_ _) | (with_reducible refine Mod.setCell ?_ ?_ _) | (left; simp; done) | (right; first | omega | (simp; omega) | (simp; done))))), by simp [intOf]; omega⟩
          · obtain rfl : k = m := by omega
            have KO := hide hO
            have KM := hide hmr
            clear hO hmr h9
            go_wp2_with fail
            go_returns
            exact ⟨rfl, unhide KO, (unhide KM6).trans (unhide KM) (by simp)⟩
  · have h0 := hide (show LB4 w B G N cap o m mem (win4 sb1 a1 m) (win4 sb2 a2 m) (.int .i64 0) w from ⟨0, by omega, rfl, hown, Mod.refl _ _⟩)
    have KR1 := hide hr1
    have KR2 := hide hr2
    clear hown hr1 hr2 hBytes
    go_enter Tryd.func49, Tryd.ntmps49
    go_wp2_with fail
    go_loopw [7] (LB4 w B G N cap o m mem (win4 sb1 a1 m) (win4 sb2 a2 m)) (fun v _ => m - (intOf v).toNat)
    case atStart => exact unhide h0
    case round =>
      obtain ⟨k, hk, rfl, hO, hmr⟩ := hrel
      by_cases hlt : k < m
      · have cx := Rdb.mod (unhide KR1) hmr (by simpa using hG1) (a1 + k) (by omega) (by omega)
        have cy := Rdb.mod (unhide KR2) hmr (by simpa using hG2) (a2 + k) (by omega) (by omega)
        have hx8 := hs1.get (a1 + k)
        have hy8 := hs2.get (a2 + k)
        have cg := own_cell hO (o + k) (by omega)
        have fg := own_frozen hO (o + k)
        have hst := own_set hO (o + k) (bOp 4 (sb1.getD (a1 + k) 0) (sb2.getD (a2 + k) 0)) (by omega)
        have hal : alB 4 mem o (win4 sb1 a1 m) (win4 sb2 a2 m) (k + 1) = (alB 4 mem o (win4 sb1 a1 m) (win4 sb2 a2 m) k).set (o + k) (bOp 4 (sb1.getD (a1 + k) 0) (sb2.getD (a2 + k) 0)) := by rw [alB, hgx k hlt, hgy k hlt]
        rw [← hal] at hst
        have hbo := show bits .xor .u8 IntKind.u8.max (bits .xor .u8 ((sb1.getD (a1 + k) 0 : Nat) : Int) ((sb2.getD (a2 + k) 0 : Nat) : Int)) = ((bOp 4 (sb1.getD (a1 + k) 0) (sb2.getD (a2 + k) 0) : Nat) : Int) from (by rw [u8_xor_nat _ _ hx8 hy8]; exact notu8 _ (Nat.xor_lt_two_pow (n := 8) hx8 hy8))
        rw [← hbo] at hst
        have hC := hide (fun (W : World) (g1 : W.ownsRow B 5 1 (.slice (some ⟨G, 0, none⟩) N cap) N (bv (alB 4 mem o (win4 sb1 a1 m) (win4 sb2 a2 m) (k + 1)))) (g2 : Mod [G] wr W) => (show LB4 w B G N cap o m mem (win4 sb1 a1 m) (win4 sb2 a2 m) (.int .i64 ((k : Int) + 1)) W from ⟨k + 1, by omega, by simp, g1, hmr.trans g2 (by simp)⟩))
        have HST := hide hst
        clear hO hmr h0 hst hbo hal
        generalize sb1.getD (a1 + k) 0 = x at *
        generalize sb2.getD (a2 + k) 0 = y at *
        go_upto_region 14 with (fail)
        go_region
        all_goals (go_wp2_with fail)
        all_goals exact ⟨unhide hC _ (own_D (unhide HST)) (by (repeat' (first | (with_reducible exact Mod.refl _ _) | (with_reducible assumption) | (with_reducible refine Mod.drew ?_) | (with_reducible refine Mod.drewN ?_ _) | (with_reducible refine Mod.alloc ?_ _) | (with_reducible refine Mod.setCell ?_ ?_ _) | (left; simp; done) | (right; first | omega | (simp; omega) | (simp; done))))), by simp [intOf]; omega⟩
      · obtain rfl : k = m := by omega
        have KO := hide hO
        have KM := hide hmr
        clear hO hmr h0
        go_wp2_with fail
        go_returns
        exact ⟨rfl, unhide KO, unhide KM⟩
end Go.Proofs.YtjfbojmeccdchaaDoor
