/- The word writer: both kinds of place in one. (YtcjjajbpjfamfaaDoor) -/
import Derived.Test.YtcjjajbpjfamfaaDoorX15
import Derived.Test.YtcjjajbpjfamfaaDoorX11
set_option linter.unusedVariables false
set_option linter.unusedSimpArgs false
namespace Go.Proofs.YtcjjajbpjfamfaaDoor
open Go.ChangeShapes Go.WideShapes Go.ChangeAt Go.RowKit
theorem putw_chg {m : List Nat} (h : Small m) (a s v : Nat) (hs : s < 8) (hv : v < 18446744073709551616) (ha : a + 8 ≤ m.length) (ha2 : s ≠ 0 → a + 16 ≤ m.length) : putw m a s v = chgN m (8 * a + s) (bitsOf v 64) 64 := by
  have hk : 8 * a + s + 64 ≤ 8 * m.length := by
    by_cases h0 : s = 0
    · omega
    · have := ha2 h0; omega
  apply bytes_ext (by rw [putw_length, chgN_length]) (putw_small h _ _ _ hv) (chgN_small h _ _ _)
  intro i hi
  rw [bitAt_putw h a s v i hs hv ha ha2, bitAt_chgN h _ _ _ hk]
  by_cases c : 8 * a + s ≤ i ∧ i < 8 * a + s + 64
  · rw [if_pos c, if_pos c, bitsOf_get _ _ _ (by omega)]
  · rw [if_neg c, if_neg c]
theorem msk_zero : ((2 ^ 0 - 1 : Nat) : Int) = 0 := by decide
theorem putW_any (w : World) (B G N cap P a m c s v cw : Nat) (a2 : Value) (mem : List Nat) (hs8 : s < 8) (hs : Small mem) (hv : v < 18446744073709551616) (hcw : cw < 18446744073709551616) (hce : s ≠ 0 → cw = wordAt mem a) (hl : mem.length = N) (hm : 16 ≤ m) (hmc : m ≤ c) (ha : a + m ≤ N) (hne : G ≠ P)
    (h : Blk w P 68 #[.slice (some ⟨G, a, none⟩) m c, .int .i64 s, a2, .int .u64 ((2 ^ s - 1 : Nat) : Int), .int .u64 cw]) (hown : w.ownsRow B 5 1 (.slice (some ⟨G, 0, none⟩) N cap) N (bv mem)) :
    Calls Tryd.prog 27 #[.pointer (some ⟨P, 0, none⟩), .int .u64 v] w fun e w' => e = .returned (.tuple #[]) ∧ w'.ownsRow B 5 1 (.slice (some ⟨G, 0, none⟩) N cap) N (bv (chgN mem (8 * a + s) (bitsOf v 64) 64)) ∧ Mod [P, G] w w' ∧
      ∃ cw' : Nat, cw' < 18446744073709551616 ∧ (s ≠ 0 → cw' = wordAt (chgN mem (8 * a + s) (bitsOf v 64) 64) (a + 8)) ∧ Blk w' P 68 #[.slice (some ⟨G, a + 8, none⟩) (m - 8) (c - 8), .int .i64 s, a2, .int .u64 ((2 ^ s - 1 : Nat) : Int), .int .u64 cw'] := by
  rw [← putw_chg hs a s v hs8 hv (by omega) (fun _ => by omega)]
  by_cases h0 : s = 0
  · subst h0
    have e : putw mem a 0 v = put8 mem a v := by unfold putw; rw [if_pos rfl]
    rw [e]
    refine (putW0_any w B G N cap P a m c v _ _ _ mem hv hl (by omega) hmc ha (by omega) hne h hown).mono fun e w' hh => ?_
    obtain ⟨rfl, r1, r2, r3⟩ := hh
    exact ⟨rfl, r2, r3, cw, hcw, fun h => absurd rfl h, r1⟩
  · rw [hce h0] at h
    refine (putWs_any w B G N cap P a m c s v a2 mem hs8 h0 hs hv hl hm hmc ha hne h hown).mono fun e w' hh => ?_
    obtain ⟨rfl, r1, r2, r3⟩ := hh
    exact ⟨rfl, r2, r3, _, wordAt_lt (putw_small hs _ _ _ hv) _, fun _ => rfl, r1⟩
theorem putT8_any (w : World) (B G N cap P a m c s v cw : Nat) (a2 : Value) (mem : List Nat) (hs8 : s < 8) (hs : Small mem) (hv : v < 256) (hcw : cw < 18446744073709551616) (hce : s ≠ 0 → cw % 256 = mem.getD a 0) (hl : mem.length = N) (hmc : m ≤ c) (ha : a + m = N) (hfit : 8 * a + s + 8 ≤ 8 * N) (hne : G ≠ P)
    (h : Blk w P 68 #[.slice (some ⟨G, a, none⟩) m c, .int .i64 s, a2, .int .u64 ((2 ^ s - 1 : Nat) : Int), .int .u64 cw]) (hown : w.ownsRow B 5 1 (.slice (some ⟨G, 0, none⟩) N cap) N (bv mem)) :
    Calls Tryd.prog 31 #[.pointer (some ⟨P, 0, none⟩), .int .u8 v, .int .i64 8] w fun e w' => e = .returned (.tuple #[]) ∧ w'.ownsRow B 5 1 (.slice (some ⟨G, 0, none⟩) N cap) N (bv (chgN mem (8 * a + s) (bitsOf v 8) 8)) ∧ Mod [P, G] w w' ∧
      (1 < c → ∃ cw' : Nat, cw' < 18446744073709551616 ∧ (s ≠ 0 → cw' % 256 = (chgN mem (8 * a + s) (bitsOf v 8) 8).getD (a + 1) 0) ∧ Blk w' P 68 #[.slice (some ⟨G, a + 1, none⟩) (m - 1) (c - 1), .int .i64 s, a2, .int .u64 ((2 ^ s - 1 : Nat) : Int), .int .u64 cw']) := by
  rw [← putb_chg hs a s v hs8 hv (by omega) (fun _ => by omega)]
  by_cases h0 : s = 0
  · subst h0
    have e : putb mem a 0 v = mem.set a v := by unfold putb; rw [if_pos rfl]
    rw [e]
    refine (putT0_any w B G N cap P a m c v cw _ _ mem hv hcw (by omega) hmc (by omega) hne h hown).mono fun e w' hh => ?_
    obtain ⟨rfl, r1, r2, r3⟩ := hh
    exact ⟨rfl, r2, r3, fun hc => ⟨cw, hcw, fun h => absurd rfl h, r1 hc⟩⟩
  · refine (putTs_any w B G N cap P a m c s v cw a2 mem hs8 h0 hs hv hcw (hce h0) (by omega) hmc (by omega) hne h hown).mono fun e w' hh => ?_
    obtain ⟨rfl, r1, r2, r3⟩ := hh
    have hlt := mixb_lt (2 ^ s - 1) (rotb s v) (mem.getD (a + 1) 0) (rotb_lt s v hv) (hs.get _)
    exact ⟨rfl, r2, r3, fun _ => ⟨_, by omega, fun _ => by rw [putb_next a s v h0 (by omega)]; omega, r1⟩⟩
theorem chg_prefix {d : List Nat} (h : Small d) (f : Nat) (l r : List Bool) (n : Nat) (hn : f + n ≤ 8 * d.length) (hr : ∀ j, j < n → r.getD j false = l.getD j false) : chgN d f r n = chgN d f l n := by
  apply bytes_ext (by simp [chgN_length]) (chgN_small h _ _ _) (chgN_small h _ _ _)
  intro i hi
  rw [bitAt_chgN h _ _ _ hn, bitAt_chgN h _ _ _ hn]
  by_cases c : f ≤ i ∧ i < f + n
  · rw [if_pos c, if_pos c, hr _ (by omega)]
  · rw [if_neg c, if_neg c]
end Go.Proofs.YtcjjajbpjfamfaaDoor
