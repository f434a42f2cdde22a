/- Bits appended: small functions. (YtcjjajbpjfamfaaDoor) -/
import Derived.Test.YtcjjajbpjfamfaaDoorX18
set_option linter.unusedVariables false
set_option linter.unusedSimpArgs false
namespace Go.Proofs.YtcjjajbpjfamfaaDoor
open Go.ChangeShapes Go.WideShapes Go.ChangeAt Go.RowKit
def Tzt (w : World) : Prop := w.cell? ⟨1, 0, none⟩ = some (.int .u8 0) ∧ w.cell? ⟨1, 1, none⟩ = some (.int .u8 1) ∧ w.cell? ⟨1, 3, none⟩ = some (.int .u8 2) ∧ w.cell? ⟨1, 7, none⟩ = some (.int .u8 3) ∧ w.cell? ⟨1, 14, none⟩ = some (.int .u8 4) ∧ w.cell? ⟨1, 29, none⟩ = some (.int .u8 5) ∧ w.cell? ⟨1, 27, none⟩ = some (.int .u8 6) ∧ w.cell? ⟨1, 23, none⟩ = some (.int .u8 7)
theorem Tzt.mod {w w' : World} {S : List Nat} (h : Tzt w) (hm : Mod S w w') (hS : 1 ∉ S) : Tzt w' := by
  obtain ⟨h0, h1, h2, h3, h4, h5, h6, h7⟩ := h
  exact ⟨hm.cell h0 hS, hm.cell h1 hS, hm.cell h2 hS, hm.cell h3 hS, hm.cell h4 hS, hm.cell h5 hS, hm.cell h6 hS, hm.cell h7 hS⟩
theorem Flp.mod {w w' : World} {S : List Nat} (h : Flp w) (hm : Mod S w w') (hS : 2 ∉ S) : Flp w' := fun i hi => hm.cell (h i hi) hS
theorem tz_any (w : World) (j : Nat) (hj : j < 8) (h : Tzt w) : Calls Tryd.prog 18 #[.int .u32 ((2 ^ j : Nat) : Int)] w fun e w' => e = .returned (.int .i64 j) ∧ w = w' := by
  obtain ⟨h0, h1, h2, h3, h4, h5, h6, h7⟩ := h
  rcases (by omega : j = 0 ∨ j = 1 ∨ j = 2 ∨ j = 3 ∨ j = 4 ∨ j = 5 ∨ j = 6 ∨ j = 7) with rfl | rfl | rfl | rfl | rfl | rfl | rfl | rfl
  · change Calls Tryd.prog 18 #[.int .u32 1] w _
    have hb : bits .and .u32 1 4294967295 = 1 := by decide
    go_enter Tryd.func18, Tryd.ntmps18
    go_wp2_with fail
    go_ret
    exact ⟨rfl, rfl⟩
  · change Calls Tryd.prog 18 #[.int .u32 2] w _
    have hb : bits .and .u32 2 4294967294 = 2 := by decide
    go_enter Tryd.func18, Tryd.ntmps18
    go_wp2_with fail
    go_ret
    exact ⟨rfl, rfl⟩
  · change Calls Tryd.prog 18 #[.int .u32 4] w _
    have hb : bits .and .u32 4 4294967292 = 4 := by decide
    go_enter Tryd.func18, Tryd.ntmps18
    go_wp2_with fail
    go_ret
    exact ⟨rfl, rfl⟩
  · change Calls Tryd.prog 18 #[.int .u32 8] w _
    have hb : bits .and .u32 8 4294967288 = 8 := by decide
    go_enter Tryd.func18, Tryd.ntmps18
    go_wp2_with fail
    go_ret
    exact ⟨rfl, rfl⟩
  · change Calls Tryd.prog 18 #[.int .u32 16] w _
    have hb : bits .and .u32 16 4294967280 = 16 := by decide
    go_enter Tryd.func18, Tryd.ntmps18
    go_wp2_with fail
    go_ret
    exact ⟨rfl, rfl⟩
  · change Calls Tryd.prog 18 #[.int .u32 32] w _
    have hb : bits .and .u32 32 4294967264 = 32 := by decide
    go_enter Tryd.func18, Tryd.ntmps18
    go_wp2_with fail
    go_ret
    exact ⟨rfl, rfl⟩
  · change Calls Tryd.prog 18 #[.int .u32 64] w _
    have hb : bits .and .u32 64 4294967232 = 64 := by decide
    go_enter Tryd.func18, Tryd.ntmps18
    go_wp2_with fail
    go_ret
    exact ⟨rfl, rfl⟩
  · change Calls Tryd.prog 18 #[.int .u32 128] w _
    have hb : bits .and .u32 128 4294967168 = 128 := by decide
    go_enter Tryd.func18, Tryd.ntmps18
    go_wp2_with fail
    go_ret
    exact ⟨rfl, rfl⟩
theorem min_same (w : World) (x : Int) : Calls Tryd.prog 17 #[.int .i64 x, .int .i64 x] w fun e w' => e = .returned (.int .i64 x) ∧ w = w' := by
  go_enter Tryd.func17, Tryd.ntmps17
  go_wp2
  all_goals (go_ret; exact ⟨rfl, rfl⟩)
theorem setb_any (w : World) (B G N cap o n c i : Nat) (mem : List Nat) (hs : Small mem) (hM : Msk w) (hi : i / 8 < n) (hb : i < 65536) (ho : o + i / 8 < N) (hown : w.ownsRow B 5 1 (.slice (some ⟨G, 0, none⟩) N cap) N (bv mem)) :
    Calls Tryd.prog 20 #[.slice (some ⟨G, o, none⟩) n c, .int .i64 i] w fun e w' => e = .returned (.tuple #[]) ∧ w'.ownsRow B 5 1 (.slice (some ⟨G, 0, none⟩) N cap) N (bv (mem.set (o + i / 8) (mem.getD (o + i / 8) 0 ||| 2 ^ (i % 8)))) ∧ Mod [G] w w' := by
  have hm := hM (i % 8) (by omega)
  have g0 := own_cell hown (o + i / 8) ho
  have gf := own_frozen hown (o + i / 8)
  have hx := hs.get (o + i / 8)
  have hp := pow_lt8 (show i % 8 < 8 by omega)
  have hmod : i % 256 % 8 = i % 8 := by omega
  have hor := u8_or_nat (mem.getD (o + i / 8) 0) (2 ^ (i % 8)) hx hp
  generalize hxx : mem.getD (o + i / 8) 0 = x at *
  generalize 2 ^ (i % 8) = m at *
  have hR := own_D (own_set hown (o + i / 8) (x ||| m) ho)
  rw [← hor] at hR
  have hR := hide hR
  clear hown hM hor
  go_enter Tryd.func20, Tryd.ntmps20
  go_region
  go_wp2
  go_returns
  exact ⟨rfl, unhide hR, by (repeat' (first | (with_reducible exact Mod.refl _ _) | (with_reducible assumption) | (with_reducible refine Mod.drew ?_) | (with_reducible refine Mod.drewN ?_ _) | (with_reducible refine Mod.alloc ?_ _) | (with_reducible refine Mod.setCell ?_ ?_ _) | (left; simp; done) | (right; first | omega | (simp; omega) | (simp; done))))⟩
theorem clrb_any (w : World) (B G N cap o n c i : Nat) (mem : List Nat) (hs : Small mem) (hM : Flp w) (hi : i / 8 < n) (hb : i < 65536) (ho : o + i / 8 < N) (hown : w.ownsRow B 5 1 (.slice (some ⟨G, 0, none⟩) N cap) N (bv mem)) :
    Calls Tryd.prog 21 #[.slice (some ⟨G, o, none⟩) n c, .int .i64 i] w fun e w' => e = .returned (.tuple #[]) ∧ w'.ownsRow B 5 1 (.slice (some ⟨G, 0, none⟩) N cap) N (bv (mem.set (o + i / 8) (mem.getD (o + i / 8) 0 &&& (255 - 2 ^ (i % 8))))) ∧ Mod [G] w w' := by
  have hm := hM (i % 8) (by omega)
  have g0 := own_cell hown (o + i / 8) ho
  have gf := own_frozen hown (o + i / 8)
  have hx := hs.get (o + i / 8)
  have hp := pow_lt8 (show i % 8 < 8 by omega)
  have hmod : i % 256 % 8 = i % 8 := by omega
  have hor := u8_and_nat (mem.getD (o + i / 8) 0) (255 - 2 ^ (i % 8)) hx (Nat.lt_of_le_of_lt (Nat.sub_le _ _) (by decide))
  generalize hxx : mem.getD (o + i / 8) 0 = x at *
  generalize 255 - 2 ^ (i % 8) = m at *
  have hR := own_D (own_set hown (o + i / 8) (x &&& m) ho)
  rw [← hor] at hR
  have hR := hide hR
  clear hown hM hor
  go_enter Tryd.func21, Tryd.ntmps21
  go_region
  go_wp2
  go_returns
  exact ⟨rfl, unhide hR, by (repeat' (first | (with_reducible exact Mod.refl _ _) | (with_reducible assumption) | (with_reducible refine Mod.drew ?_) | (with_reducible refine Mod.drewN ?_ _) | (with_reducible refine Mod.alloc ?_ _) | (with_reducible refine Mod.setCell ?_ ?_ _) | (left; simp; done) | (right; first | omega | (simp; omega) | (simp; done))))⟩
def Wfd (B G P N cap f n : Nat) (mem : List Nat) (w : World) : Prop :=
  w.ownsRow B 5 1 (.slice (some ⟨G, 0, none⟩) N cap) N (bv mem) ∧ ∃ cur : Nat, cur < 256 ∧ (0 < n → (f + n) % 8 ≠ 0 → cur = mem.getD ((f + n) / 8) 0) ∧
    Blk w P 36 #[.slice (some ⟨G, 0, none⟩) N cap, .int .i64 (n : Int), .int .i64 (n : Int), .int .u8 (cur : Int), .int .u8 ((2 ^ ((f + n) % 8) : Nat) : Int), .int .i64 (((f + n) / 8 : Nat) : Int)]
theorem set_same (m : List Nat) (i : Nat) : m.set i (m.getD i 0) = m := by
  apply nat_ext (by simp)
  intro j hj
  by_cases h : i < m.length
  · rw [getD_set _ _ _ _ h]
    split
    · rename_i e; rw [e]
    · rfl
  · rw [List.set_eq_of_length_le (by omega)]
theorem wfd_fin {w : World} {B G P N cap f n : Nat} {mem : List Nat} (h : Wfd B G P N cap f n mem w) (hl : mem.length = N) (hfn : f + n ≤ 8 * N) (hN : N ≤ 8192) (hne : G ≠ P) :
    Calls Tryd.prog 16 #[.pointer (some ⟨P, 0, none⟩)] w fun e w' => e = .returned (.tuple #[]) ∧ w'.ownsRow B 5 1 (.slice (some ⟨G, 0, none⟩) N cap) N (bv mem) ∧ Mod [P, G] w w' := by
  obtain ⟨ho, cur, hc, he, hblk⟩ := h
  have hpw := pow_lt8 (show (f + n) % 8 < 8 by omega)
  by_cases h0 : n = 0 ∨ (f + n) % 8 = 0
  · refine (bwFin_idle w P _ _ _ n n _ hpw ?_ hblk).mono fun e w' hh => ?_
    · rcases h0 with h0 | h0
      · exact Or.inl h0
      · right; rw [h0]; exact ⟨rfl, Nat.le_refl _⟩
    · obtain ⟨rfl, r⟩ := hh
      exact ⟨rfl, own_mod ho r (by simp), r.any _⟩
  · have hne0 : (f + n) % 8 ≠ 0 := fun e => h0 (Or.inr e)
    have hl0 : n ≠ 0 := fun e => h0 (Or.inl e)
    have hm1 : 2 ^ ((f + n) % 8) ≠ 1 := by
      intro e
      have := Nat.one_lt_two_pow hne0
      omega
    refine (bwFin_store w B G N cap 0 N cap P mem (.int .i64 (n : Int)) n n cur _ ((f + n) / 8) (Or.inl hm1) hpw (by omega) (by omega) (by omega) hne hblk ho).mono fun e w' hh => ?_
    obtain ⟨rfl, r1, r2⟩ := hh
    rw [Nat.zero_add, he (by omega) hne0, set_same] at r1
    exact ⟨rfl, r1, r2.mono (by simp)⟩
theorem copyBm_any (w : World) (B S G N cap so sn sc sf f n : Nat) (sb d : List Nat) (l : List Bool) (H : TOk S G N cap (sc - sf / 8) (so + sf / 8) (sf % 8) f n sb d l) (hsf : sf < 65536) (hu : sf % 8 ≠ 0) (hsn : sf / 8 + (sf % 8 + n + 7) / 8 ≤ sn) (hsc : sn ≤ sc) (hM : Msk w) (hr : Rdb w S sb)
    (hown : w.ownsRow B 5 1 (.slice (some ⟨G, 0, none⟩) N cap) N (bv d)) :
    Calls Tryd.prog 22 #[.slice (some ⟨S, so, none⟩) sn sc, .int .i64 sf, .int .i64 n, .slice (some ⟨G, 0, none⟩) N cap, .int .i64 f] w fun e w' => e = .returned (.tuple #[]) ∧ w'.ownsRow B 5 1 (.slice (some ⟨G, 0, none⟩) N cap) N (bv (chgN d f l n)) ∧ Mod [G] w w' := by
  have hT := hide (transfer_any w B S G N cap so sn sc sf f n sb d l H hsf hu hsn hsc hM hr hown)
  clear H hM hr hown
  go_enter Tryd.func22, Tryd.ntmps22
  go_wp2_with (first | (go_at_call 23; (with_reducible refine (unhide hT).mono ?_); rintro e w1 ⟨rfl, ho, hm⟩) | fail)
  go_returns
  exact ⟨rfl, ho, hm⟩
end Go.Proofs.YtcjjajbpjfamfaaDoor
