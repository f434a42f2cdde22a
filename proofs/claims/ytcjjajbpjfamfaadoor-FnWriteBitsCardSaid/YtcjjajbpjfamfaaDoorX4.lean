/- The bit writer over a row of bytes: bit after bit. (YtcjjajbpjfamfaaDoor) -/
import Derived.Test.YtcjjajbpjfamfaaDoorX2
import Derived.Test.YtcjjajbpjfamfaaDoorX3
set_option linter.unusedVariables false
set_option linter.unusedSimpArgs false
namespace Go.Proofs.YtcjjajbpjfamfaaDoor
open Go.ChangeShapes Go.WideShapes Go.ChangeAt Go.RowKit
theorem bwFin_idle (w : World) (P : Nat) (a0 a3 a5 : Value) (pos len m : Nat) (hm8 : m < 256) (hm : len = 0 ∨ (m = 1 ∧ len ≤ pos))
    (h : Blk w P 36 #[a0, .int .i64 pos, .int .i64 len, a3, .int .u8 m, a5]) :
    Calls Tryd.prog 16 #[.pointer (some ⟨P, 0, none⟩)] w fun e w' => e = .returned (.tuple #[]) ∧ Mod [] w w' := by
  obtain ⟨c0, c1, c2, c3, c4, c5⟩ := blk6 h
  clear h
  by_cases h0 : len = 0
  · subst h0
    change w.cell? ⟨P, 2, none⟩ = some (.int .i64 0) at c2
    go_enter Tryd.func16, Tryd.ntmps16
    go_upto_region 0 with (fail)
    go_quiet (fail)
    go_wp2_with fail
    go_returns
    exact ⟨rfl, by (repeat' (first | exact Mod.refl _ _ | assumption | apply Mod.drew | apply Mod.drewN | apply Mod.alloc | (refine Mod.setCell ?_ (by first | (left; simp; done) | (right; first | omega | (simp; omega) | (simp; done))) _)))⟩
  · obtain ⟨rfl, h1⟩ : m = 1 ∧ len ≤ pos := by omega
    have hlen : 0 < len := by omega
    have hpl : ¬ pos < len := by omega
    go_enter Tryd.func16, Tryd.ntmps16
    go_upto_region 0 with (fail)
    go_quiet (fail)
    go_wp2_with fail
    go_returns
    exact ⟨rfl, by (repeat' (first | exact Mod.refl _ _ | assumption | apply Mod.drew | apply Mod.drewN | apply Mod.alloc | (refine Mod.setCell ?_ (by first | (left; simp; done) | (right; first | omega | (simp; omega) | (simp; done))) _)))⟩
/-- what stays as it is while bits are written. -/
structure WOk (G P N cap o n f : Nat) (d : List Nat) (l : List Bool) : Prop where
  hd : d.length = N
  hs : Small d
  ho : 8 * o ≤ f
  hfl : f + l.length ≤ 8 * N
  hn : o + n = N
  hN : N ≤ 8192
  hne : G ≠ P
def WSt (B G P N cap o n c f : Nat) (d : List Nat) (l : List Bool) (k : Nat) (w : World) : Prop :=
  w.ownsRow B 5 1 (.slice (some ⟨G, 0, none⟩) N cap) N (bv (gmem d f l k)) ∧ ∃ cur : Nat, cur < 256 ∧ (k < l.length ∨ (0 < k ∧ (f + k) % 8 ≠ 0) → cur = (chgN d f l k).getD ((f + k) / 8) 0) ∧
    Blk w P 36 #[.slice (some ⟨G, o, none⟩) n c, .int .i64 (k : Int), .int .i64 (l.length : Int), .int .u8 (cur : Int), .int .u8 ((2 ^ ((f + k) % 8) : Nat) : Int), .int .i64 (((f + k) / 8 - o : Nat) : Int)]
def WMd (B G P N cap o n c f : Nat) (d : List Nat) (l : List Bool) (k : Nat) (w : World) : Prop :=
  w.ownsRow B 5 1 (.slice (some ⟨G, 0, none⟩) N cap) N (bv (gmem d f l k)) ∧
    Blk w P 36 #[.slice (some ⟨G, o, none⟩) n c, .int .i64 (k : Int), .int .i64 (l.length : Int), .int .u8 (((chgN d f l (k + 1)).getD ((f + k) / 8) 0 : Nat) : Int), .int .u8 ((2 ^ ((f + k) % 8) : Nat) : Int), .int .i64 (((f + k) / 8 - o : Nat) : Int)]
section
variable {w : World} {B G P N cap o n c f k : Nat} {d : List Nat} {l : List Bool}
theorem wset_any (H : WOk G P N cap o n f d l) (h : WSt B G P N cap o n c f d l k w) (hk : k < l.length) (hb : l.getD k false = true) :
    Calls Tryd.prog 13 #[.pointer (some ⟨P, 0, none⟩)] w fun e w' => e = .returned (.tuple #[]) ∧ WMd B G P N cap o n c f d l k w' ∧ Mod [P] w w' := by
  obtain ⟨ho, cur, hc, he, hblk⟩ := h
  refine (bwSet_any w P _ _ _ _ cur _ hc (pow_lt8 (by omega)) hblk).mono fun e w' hh => ?_
  obtain ⟨rfl, h1, h2⟩ := hh
  refine ⟨rfl, ⟨own_P ho h2 H.hne, ?_⟩, h2⟩
  have e := chg_byte H.hs f l k (by rw [H.hd]; have := H.hfl; omega)
  rw [hb, if_pos rfl, ← he (Or.inl hk)] at e
  rw [e]; exact h1
theorem wclear_any (H : WOk G P N cap o n f d l) (h : WSt B G P N cap o n c f d l k w) (hk : k < l.length) (hb : l.getD k false = false) :
    Calls Tryd.prog 14 #[.pointer (some ⟨P, 0, none⟩)] w fun e w' => e = .returned (.tuple #[]) ∧ WMd B G P N cap o n c f d l k w' ∧ Mod [P] w w' := by
  obtain ⟨ho, cur, hc, he, hblk⟩ := h
  refine (bwClear_any w P _ _ _ _ cur _ hc (pow_lt8 (by omega)) hblk).mono fun e w' hh => ?_
  obtain ⟨rfl, h1, h2⟩ := hh
  refine ⟨rfl, ⟨own_P ho h2 H.hne, ?_⟩, h2⟩
  have e := chg_byte H.hs f l k (by rw [H.hd]; have := H.hfl; omega)
  rw [hb, if_neg (by simp), ← he (Or.inl hk)] at e
  rw [e]; exact h1
theorem wnext_any (H : WOk G P N cap o n f d l) (h : WMd B G P N cap o n c f d l k w) (hk : k < l.length) :
    Calls Tryd.prog 15 #[.pointer (some ⟨P, 0, none⟩)] w fun e w' => e = .returned (.tuple #[]) ∧ WSt B G P N cap o n c f d l (k + 1) w' ∧ Mod [P, G] w w' := by
  obtain ⟨ho, hblk⟩ := h
  have h1 := H.hfl
  have h2 := H.hN
  have h3 := H.ho
  have h4 := H.hn
  have h5 := H.hd
  have hsm := chgN_small H.hs f l (k + 1)
  by_cases hm : (f + k) % 8 = 7
  · rw [hm] at hblk
    have e1 : (f + (k + 1)) / 8 = (f + k) / 8 + 1 := by omega
    have e0 : (f + (k + 1)) % 8 = 0 := by omega
    refine (bwNext_out w B G N cap o n c P (gmem d f l k) l.length k _ ((f + k) / 8 - o) (d.getD ((f + k) / 8 + 1) 0) (by omega) (by omega) (by omega) (by omega) (by omega) H.hne ?_ hblk ho).mono fun e w' hh => ?_
    · intro hlt
      refine ⟨by omega, by omega, ?_⟩
      have e5 : o + ((f + k) / 8 - o) + 1 = (f + k) / 8 + 1 := by omega
      rw [e5]
      unfold gmem
      rw [getD_take_drop _ _ _ _ (by rw [chgN_length]; omega), if_neg (by omega)]
    · obtain ⟨rfl, r1, r2, r3⟩ := hh
      have e3 : o + ((f + k) / 8 - o) = (f + k) / 8 := by omega
      have e4 : (f + k) / 8 - o + 1 = (f + (k + 1)) / 8 - o := by omega
      rw [e3, ← gmem_out d f l k (by omega) hm] at r2
      rw [e4] at r1
      refine ⟨rfl, ⟨r2, _, ?_, ?_, by rw [e0]; exact r1⟩, r3⟩
      · split
        · exact H.hs.get _
        · exact hsm.get _
      · intro hh
        have hlt : k + 1 < l.length := by omega
        rw [if_pos hlt, e1, chg_above d f l (k + 1) _ (by omega) (by omega)]
  · have e1 : (f + (k + 1)) / 8 = (f + k) / 8 := by omega
    have e0 : (f + (k + 1)) % 8 = (f + k) % 8 + 1 := by omega
    have hp : 2 ^ ((f + k) % 8 + 1) = 2 * 2 ^ ((f + k) % 8) := by rw [Nat.pow_succ, Nat.mul_comm]
    have hlt : 2 ^ ((f + k) % 8 + 1) < 256 := pow_lt8 (by omega)
    refine (bwNext_in w P _ _ _ k _ _ (by omega) (Nat.two_pow_pos _) (by omega) hblk).mono fun e w' hh => ?_
    obtain ⟨rfl, r1, r2⟩ := hh
    refine ⟨rfl, ⟨?_, _, hsm.get _, fun _ => by rw [e1], ?_⟩, r2.mono (by simp)⟩
    · rw [gmem_in d f l k (by omega) hm]; exact own_P ho r2 H.hne
    · rw [e0, hp, e1]; exact r1
theorem wfin_any (H : WOk G P N cap o n f d l) (h : WSt B G P N cap o n c f d l l.length w) :
    Calls Tryd.prog 16 #[.pointer (some ⟨P, 0, none⟩)] w fun e w' => e = .returned (.tuple #[]) ∧ w'.ownsRow B 5 1 (.slice (some ⟨G, 0, none⟩) N cap) N (bv (chgN d f l l.length)) ∧ Mod [P, G] w w' := by
  obtain ⟨ho, cur, hc, he, hblk⟩ := h
  have h1 := H.hfl
  have h2 := H.hN
  have h3 := H.ho
  have h4 := H.hn
  have h5 := H.hd
  have hpw := pow_lt8 (show (f + l.length) % 8 < 8 by omega)
  by_cases h0 : l.length = 0 ∨ (f + l.length) % 8 = 0
  · have hg : gmem d f l l.length = chgN d f l l.length := by
      rcases h0 with h0 | h0
      · rw [h0, gmem_zero]; rfl
      · exact gmem_full d f l l.length (by omega) h0
    refine (bwFin_idle w P _ _ _ l.length l.length _ hpw ?_ hblk).mono fun e w' hh => ?_
    · rcases h0 with h0 | h0
      · exact Or.inl h0
      · right; rw [h0]; exact ⟨rfl, Nat.le_refl _⟩
    · obtain ⟨rfl, r⟩ := hh
      rw [← hg]
      exact ⟨rfl, own_mod ho r (by simp), r.any _⟩
  · have hne0 : (f + l.length) % 8 ≠ 0 := fun e => h0 (Or.inr e)
    have hl0 : l.length ≠ 0 := fun e => h0 (Or.inl e)
    have hm1 : 2 ^ ((f + l.length) % 8) ≠ 1 := by
      intro e
      have := Nat.one_lt_two_pow hne0
      omega
    refine (bwFin_store w B G N cap o n c P (gmem d f l l.length) (.int .i64 (l.length : Int)) l.length l.length cur _ ((f + l.length) / 8 - o) (Or.inl hm1) hpw (by omega) (by omega) (by omega) H.hne hblk ho).mono fun e w' hh => ?_
    obtain ⟨rfl, r1, r2⟩ := hh
    have e3 : o + ((f + l.length) / 8 - o) = (f + l.length) / 8 := by omega
    rw [e3, he (Or.inr ⟨by omega, hne0⟩), gmem_part d f l l.length (by omega) hne0] at r1
    exact ⟨rfl, r1, r2.mono (by simp)⟩
end
/-- a writer is made: no bit is written yet. -/
theorem wnew_any (w : World) (B G N cap o n c f : Nat) (d : List Nat) (l : List Bool) (hM : Msk w) (H : ∀ P, G ≠ P → WOk G P N cap o n f d l) (hown : w.ownsRow B 5 1 (.slice (some ⟨G, 0, none⟩) N cap) N (bv d)) :
    Calls Tryd.prog 10 #[.slice (some ⟨G, o, none⟩) n c, .int .i64 ((f - 8 * o : Nat) : Int), .int .i64 (l.length : Int)] w fun e w' => ∃ P, e = .returned (.pointer (some ⟨P, 0, none⟩)) ∧ w.heap.size ≤ P ∧ Mod [] w w' ∧ WSt B G P N cap o n c f d l 0 w' := by
  have hgl := own_lt' hown
  have H0 := H w.heap.size (by omega)
  have h1 := H0.hfl
  have h2 := H0.hN
  have h3 := H0.ho
  have h4 := H0.hn
  have h5 := H0.hd
  have hs := H0.hs
  refine (newBW_any w B G N cap o n c (f - 8 * o) l.length d hM (by omega) (by omega) (fun h0 => ⟨by omega, by omega⟩) hown).mono fun e w' hh => ?_
  obtain ⟨P, rfl, hP, hm, hb⟩ := hh
  have e1 : (f - 8 * o) % 8 = f % 8 := by omega
  have e2 : (f - 8 * o) / 8 = f / 8 - o := by omega
  have e3 : o + (f / 8 - o) = f / 8 := by omega
  rw [e1, e2, e3] at hb
  refine ⟨P, rfl, hP, hm, ?_, _, ?_, ?_, hb⟩
  · rw [gmem_zero]; exact own_mod hown hm (by simp)
  · split
    · exact hs.get _
    · decide
  · intro hh
    rw [if_pos (by omega)]
    rfl
end Go.Proofs.YtcjjajbpjfamfaaDoor
