/- The word writer: some bits behind the last byte. (YtcjjajbpjfamfaaDoor) -/
import Derived.Test.YtcjjajbpjfamfaaDoorX14
set_option linter.unusedVariables false
set_option linter.unusedSimpArgs false
namespace Go.Proofs.YtcjjajbpjfamfaaDoor
open Go.ChangeShapes Go.WideShapes Go.ChangeAt Go.RowKit
theorem Msk.mod {w w' : World} {S : List Nat} (h : Msk w) (hm : Mod S w w') (hS : 0 ∉ S) : Msk w' := fun i hi => hm.cell (h i hi) hS
theorem and1_ne (x : Nat) (hx : x < 256) : (bits .and .u8 (x : Int) 1 != 0) = x.testBit 0 := by
  have h := and_pow_ne x 0 hx (by decide)
  have e : ((2 ^ 0 : Nat) : Int) = 1 := by decide
  rw [e] at h
  rw [bne, h]; simp
def LPT (w1 : World) (B G Q N cap a m c s n v : Nat) (mem : List Nat) (v1 v9 : Value) (wr : World) : Prop :=
  ∃ i : Nat, i ≤ n ∧ v9 = .int .i64 (i : Int) ∧ v1 = .int .u8 ((v / 2 ^ i : Nat) : Int) ∧ WSt B G Q N cap a m c (8 * a + s) mem (bitsOf v n) i wr ∧ Mod [Q, G] w1 wr
theorem WSt.mod {w w' : World} {B G P N cap o n c f k : Nat} {d : List Nat} {l : List Bool} {S : List Nat} (h : WSt B G P N cap o n c f d l k w) (hm : Mod S w w') (hS : P ∉ S) (hG : G ∉ S) : WSt B G P N cap o n c f d l k w' := by
  obtain ⟨h1, cur, h2, h3, h4⟩ := h
  refine ⟨own_mod h1 hm fun g hg => ?_, cur, h2, h3, h4.mod hm hS⟩
  have : G = g := by simpa [Value.ownBlock] using hg
  subst this; exact hG
set_option maxRecDepth 100000 in
set_option maxHeartbeats 4000000 in
theorem putTv_any (w : World) (B G N cap P a m c s v n cw : Nat) (a2 a3 : Value) (mem : List Nat) (hs8 : s < 8) (hs : Small mem) (hv : v < 256) (hn0 : 0 < n) (hn8 : n < 8) (hcw : cw < 18446744073709551616) (hl : mem.length = N) (hmc : m ≤ c) (ha : a + m = N) (hfit : 8 * a + s + n ≤ 8 * N) (hN : N ≤ 8192) (hne : G ≠ P) (hG0 : G ≠ 0) (hM : Msk w)
    (h : Blk w P 68 #[.slice (some ⟨G, a, none⟩) m c, .int .i64 s, a2, a3, .int .u64 cw]) (hown : w.ownsRow B 5 1 (.slice (some ⟨G, 0, none⟩) N cap) N (bv mem)) :
    Calls Tryd.prog 31 #[.pointer (some ⟨P, 0, none⟩), .int .u8 v, .int .i64 n] w fun e w' => e = .returned (.tuple #[]) ∧ w'.ownsRow B 5 1 (.slice (some ⟨G, 0, none⟩) N cap) N (bv (chgN mem (8 * a + s) (bitsOf v n) n)) ∧ Mod [G] w w' := by
  obtain ⟨c0, c1, c2, c3, c4⟩ := blk5 h
  have hGl := own_lt' hown
  have hW : ∀ Q, G ≠ Q → WOk G Q N cap a m (8 * a + s) mem (bitsOf v n) := fun Q hQ => ⟨hl, hs, by omega, by rw [bitsOf_length]; exact hfit, ha, hN, hQ⟩
  have e8 : 8 * a + s - 8 * a = s := by omega
  have hNew := hide (fun (W : World) (hm' : Mod [] w W) => by
    have := wnew_any W B G N cap a m c (8 * a + s) mem (bitsOf v n) (hM.mod hm' (by simp)) hW (own_mod hown hm' (by simp))
    rw [e8, bitsOf_length] at this
    exact this)
  have hBF := hide (fun (W : World) => bfb_i W ((s : Int) + n) (s + n) (by omega) (by omega))
  have hn1 : (n : Int) ≠ 8 := by omega
  have hn2 : ((n : Int) == 8) = false := by rw [beq_eq_false_iff_ne]; omega
  clear h hown
  go_enter Tryd.func31, Tryd.ntmps31
  go_upto_region 13 with (first | (go_at_call 40; (with_reducible refine (getLSB_any _ _ hcw).mono ?_); rintro e w' ⟨rfl, rfl⟩) | (go_at_call 36; (with_reducible refine (assert_any _ _ _).mono ?_); rintro e w' ⟨rfl, rfl⟩))
  go_cut [] (fun wx => ∃ q, wx = w.drewN q)
  case first =>
    go_quiet (first | (go_at_call 19; refine Calls.quiet_of_same ((unhide hBF _).mono fun e w' hh => ⟨hh.1, hh.2.symm⟩)) | (go_at_call 36; refine Calls.quiet_of_same ((assert_any _ _ _).mono fun e w' hh => ⟨hh.1, hh.2.symm⟩)))
    go_wp2_with fail
    go_meet
    exact ⟨_, rfl⟩
  case rest =>
    obtain ⟨q, rfl⟩ := hcut
    have hM1 := (Mod.refl [] w).drewN q
    have k0 : (w.drewN q).cell? ⟨P, 0, none⟩ = some (.slice (some ⟨G, a, none⟩) m c) := c0
    have k1 : (w.drewN q).cell? ⟨P, 1, none⟩ = some (.int .i64 s) := c1
    have hNew1 := hide (fun (W : World) (hm' : Mod [] (w.drewN q) W) => unhide hNew W (hM1.trans hm' (by simp)))
    have KM := hide hM1
    clear hNew hBF c0 c1 c2 c3 c4 hM1
    generalize w.drewN q = w1 at *
    go_upto_region 14 with (fail)
    go_cut [8] (fun v8 wx => ∃ Q : Nat, v8 = .pointer (some ⟨Q, 0, none⟩) ∧ w1.heap.size ≤ Q ∧ Mod [] w1 wx ∧ WSt B G Q N cap a m c (8 * a + s) mem (bitsOf v n) 0 wx)
    case first =>
      go_region_with (first | (go_at_call 10; (with_reducible refine (unhide hNew1 _ (by (repeat' (first | (with_reducible exact Mod.refl _ _) | (with_reducible assumption) | (with_reducible refine Mod.drew ?_) | (with_reducible refine Mod.drewN ?_ _) | (with_reducible refine Mod.alloc ?_ _) | (with_reducible refine Mod.setCell ?_ ?_ _) | (left; simp; done) | (right; first | omega | (simp; omega) | (simp; done)))))).mono ?_); rintro e w' ⟨Q, rfl, hQ, hm', hst⟩; have hm2 := Mod.trans (S := []) (T := []) (a := w1) (by (repeat' (first | (with_reducible exact Mod.refl _ _) | (with_reducible assumption) | (with_reducible refine Mod.drew ?_) | (with_reducible refine Mod.drewN ?_ _) | (with_reducible refine Mod.alloc ?_ _) | (with_reducible refine Mod.setCell ?_ ?_ _) | (left; simp; done) | (right; first | omega | (simp; omega) | (simp; done))))) hm' (by simp)))
      all_goals (go_wp2_with fail; go_meet; exact ⟨Q, rfl, by first | exact hQ | (simpa using hQ), hm2, hst⟩)
    case rest =>
      obtain ⟨Q, rfl, hQ, hm2, hst⟩ := hcut
      have hGQ : G ≠ Q := by have := (unhide KM).size; omega
      have hOk := hide (hW Q hGQ)
      have h0 := hide (show LPT wc B G Q N cap a m c s n v mem (.int .u8 v) (.int .i64 0) wc from ⟨0, by omega, rfl, by simp, hst, Mod.refl _ _⟩)
      have KM2 := hide ((unhide KM).trans hm2 (by simp))
      have hQw : w.heap.size ≤ Q := by have := (unhide KM).size; omega
      clear hst k0 k1 hNew1 hW hm2
      go_wp2_with fail
      go_loopw [1, 9] (LPT wc B G Q N cap a m c s n v mem) (fun v1 v9 _ => n - (intOf v9).toNat)
      case atStart => exact unhide h0
      case round =>
        obtain ⟨i, hi, rfl, rfl, hst, hmr⟩ := hrel
        by_cases hlt : i < n
        · have hll : i < (bitsOf v n).length := by rw [bitsOf_length]; exact hlt
          have hx : v / 2 ^ i < 256 := Nat.lt_of_le_of_lt (Nat.div_le_self _ _) hv
          have hb := and1_ne (v / 2 ^ i) hx
          have hg : (bitsOf v n).getD i false = (v / 2 ^ i).testBit 0 := by rw [bitsOf_get v n i hlt, Nat.testBit_div_two_pow, Nat.zero_add]
          have hdiv : v / 2 ^ (i + 1) = v / 2 ^ i / 2 := by rw [Nat.pow_succ, Nat.div_div_eq_div_mul]
          have hC := hide (fun (W W' : World) (x : Int) (hx : x = ((v / 2 ^ (i + 1) : Nat) : Int)) (h1 : WSt B G Q N cap a m c (8 * a + s) mem (bitsOf v n) (i + 1) W') (h2 : Mod [Q, G] wr W') =>
            (show LPT wc B G Q N cap a m c s n v mem (.int .u8 x) (.int .i64 ((i : Int) + 1)) W' from ⟨i + 1, by omega, by simp, by rw [hx], h1, hmr.trans h2 (by simp)⟩))
          rw [hdiv] at hC
          have hS := hide (fun (h : (bitsOf v n).getD i false = true) => wset_any (unhide hOk) hst hll h)
          have hCl := hide (fun (h : (bitsOf v n).getD i false = false) => wclear_any (unhide hOk) hst hll h)
          have hX := hide (fun (W : World) (h : WMd B G Q N cap a m c (8 * a + s) mem (bitsOf v n) i W) => wnext_any (unhide hOk) h hll)
          generalize v / 2 ^ (i + 1) = x' at *
          generalize v / 2 ^ i = x at *
          clear hst h0 hmr
          cases hbb : x.testBit 0
          all_goals
            rw [hbb] at hb hg
            have HB := hide hg
            clear hg
            go_wp2_with (first | (go_at_call 13; (with_reducible refine (unhide hS (unhide HB)).mono ?_); rintro e' w' ⟨rfl, hmd, hm3⟩) | (go_at_call 14; (with_reducible refine (unhide hCl (unhide HB)).mono ?_); rintro e' w' ⟨rfl, hmd, hm3⟩) | (go_at_call 15; (with_reducible refine (unhide hX _ hmd).mono ?_); rintro e' w'' ⟨rfl, hst2, hm4⟩))
            exact ⟨unhide hC w' w'' _ (by simp) hst2 ((hm3.mono (by simp)).trans hm4 (by simp)), by simp [intOf]; omega⟩
        · obtain rfl : i = n := by omega
          have hst' : WSt B G Q N cap a m c (8 * a + s) mem (bitsOf v i) (bitsOf v i).length wr := by rw [bitsOf_length]; exact hst
          have hF := hide (wfin_any (unhide hOk) hst')
          rw [bitsOf_length] at hF
          have hmr2 := hide hmr
          clear hst hst' h0 hmr
          go_wp2_with (first | (go_at_call 16; (with_reducible refine (unhide hF).mono ?_); rintro e' w' ⟨rfl, ho, hm3⟩))
          go_returns
          exact ⟨rfl, ho, ((unhide KM2).any [G]).trans ((unhide hmr2).trans hm3 (by simp)) (by simp; omega)⟩
end Go.Proofs.YtcjjajbpjfamfaaDoor
