/- A bitmap is copied bit by bit to another place: words. (YtcjjajbpjfamfaaDoor) -/
import Derived.Test.YtcjjajbpjfamfaaDoorX16
set_option linter.unusedVariables false
set_option linter.unusedSimpArgs false
namespace Go.Proofs.YtcjjajbpjfamfaaDoor
open Go.ChangeShapes Go.WideShapes Go.ChangeAt Go.RowKit
structure TOk (S G N cap rc sa s1 f n : Nat) (sb d : List Nat) (l : List Bool) : Prop where
  hs1 : s1 < 8
  hS : Small sb
  hD : Small d
  hd : d.length = N
  hN : N ≤ 4096
  hfn : f + n ≤ 8 * N
  h0 : 0 < n
  hSG : S ≠ G
  hG0 : G ≠ 0
  hsb : sa + (s1 + n + 7) / 8 ≤ sb.length
  hrc : (s1 + n + 7) / 8 ≤ rc
  hcap : N ≤ cap
  hl : ∀ j, j < n → l.getD j false = bitAt sb (8 * sa + s1 + j)
def TRd (w : World) (PR S rc sa s1 n q tb tby : Nat) (sb : List Nat) : Prop :=
  ∃ cr : Nat, cr < 18446744073709551616 ∧ (0 < n / 64 - 1 → q % 8 = 0 → q ≤ 8 * (n / 64 - 1) → cr = wordAt sb (sa + q)) ∧ cr % 256 = sb.getD (sa + q) 0 ∧
    Blk w PR 60 #[.slice (some ⟨S, sa + q, none⟩) ((s1 + n + 7) / 8 - q) (rc - q), .int .i64 (s1 : Int), .int .i64 ((n / 64 - 1 : Nat) : Int), .int .i64 (tb : Int), .int .i64 (tby : Int), .int .u64 (cr : Int)]
def TWr (w : World) (PW G N cap f n q : Nat) (mem : List Nat) : Prop :=
  ∃ cw : Nat, cw < 18446744073709551616 ∧ (f % 8 ≠ 0 → 0 < n / 64 - 1 → q % 8 = 0 → q ≤ 8 * (n / 64 - 1) → cw = wordAt mem (f / 8 + q)) ∧ (f % 8 ≠ 0 → cw % 256 = mem.getD (f / 8 + q) 0) ∧
    Blk w PW 68 #[.slice (some ⟨G, f / 8 + q, none⟩) (N - (f / 8 + q)) (cap - (f / 8 + q)), .int .i64 ((f % 8 : Nat) : Int), .int .i64 (n : Int), .int .u64 ((2 ^ (f % 8) - 1 : Nat) : Int), .int .u64 (cw : Int)]
theorem TRd.mod {w w' : World} {PR S rc sa s1 n q tb tby : Nat} {sb : List Nat} {T : List Nat} (h : TRd w PR S rc sa s1 n q tb tby sb) (hm : Mod T w w') (hT : PR ∉ T) : TRd w' PR S rc sa s1 n q tb tby sb := by
  obtain ⟨cr, h1, h2, h3, h4⟩ := h
  exact ⟨cr, h1, h2, h3, h4.mod hm hT⟩
theorem TWr.mod {w w' : World} {PW G N cap f n q : Nat} {mem : List Nat} {T : List Nat} (h : TWr w PW G N cap f n q mem) (hm : Mod T w w') (hT : PW ∉ T) : TWr w' PW G N cap f n q mem := by
  obtain ⟨cr, h1, h2, h3, h4⟩ := h
  exact ⟨cr, h1, h2, h3, h4.mod hm hT⟩
theorem own_M {w w' : World} {B G N cap : Nat} {xs : List Value} {S : List Nat} (h : w.ownsRow B 5 1 (.slice (some ⟨G, 0, none⟩) N cap) N xs) (hm : Mod S w w') (hS : G ∉ S) : w'.ownsRow B 5 1 (.slice (some ⟨G, 0, none⟩) N cap) N xs :=
  own_mod h hm fun g hg => by
    have : G = g := by simpa [Value.ownBlock] using hg
    subst this; exact hS
section
variable {w : World} {B S G PR PW N cap rc sa s1 f n k b : Nat} {sb d : List Nat} {l : List Bool}
/-- the next word is read. -/
theorem t_next (H : TOk S G N cap rc sa s1 f n sb d l) (hne : S ≠ PR) (hr : Rdb w S sb) (h : TRd w PR S rc sa s1 n (8 * k) (n - 64 * (n / 64 - 1)) ((n - 64 * (n / 64 - 1) + 7) / 8) sb) (hk : k < n / 64 - 1) :
    Calls Tryd.prog 28 #[.pointer (some ⟨PR, 0, none⟩)] w fun e w' => ∃ v : Nat, e = .returned (.int .u64 v) ∧ v < 18446744073709551616 ∧ (∀ j, j < 64 → v.testBit j = l.getD (64 * k + j) false) ∧
      TRd w' PR S rc sa s1 n (8 * (k + 1)) (n - 64 * (n / 64 - 1)) ((n - 64 * (n / 64 - 1) + 7) / 8) sb ∧ Mod [PR] w w' := by
  obtain ⟨cr, h1, h2, h3, h4⟩ := h
  have g1 := H.hsb
  have g2 := H.hrc
  have g3 := H.hs1
  rw [h2 (by omega) (by omega) (by omega)] at h4
  refine (nextW_any w S PR (sa + 8 * k) ((s1 + n + 7) / 8 - 8 * k) (rc - 8 * k) s1 _ _ _ sb H.hs1 H.hS (by omega) (by omega) (by omega) hne hr h4).mono fun e w' hh => ?_
  obtain ⟨rfl, r1, r2⟩ := hh
  refine ⟨_, rfl, shw_lt _ _ _ (wordAt_lt H.hS _), fun j hj => ?_, ⟨wordAt sb (sa + 8 * (k + 1)), wordAt_lt H.hS _, fun _ _ _ => rfl, wordAt_mod H.hS _ (by omega), ?_⟩, r2⟩
  · rw [shw_word H.hS s1 (sa + 8 * k) j H.hs1 (by omega) hj, H.hl _ (by omega)]
    congr 1; omega
  · have e1 : sa + 8 * k + 8 = sa + 8 * (k + 1) := by omega
    have e2 : (s1 + n + 7) / 8 - 8 * k - 8 = (s1 + n + 7) / 8 - 8 * (k + 1) := by omega
    have e3 : rc - 8 * k - 8 = rc - 8 * (k + 1) := by omega
    rw [e1, e2, e3] at r1
    exact r1
/-- the next word is written. -/
theorem t_put (H : TOk S G N cap rc sa s1 f n sb d l) (hne : G ≠ PW) (hown : w.ownsRow B 5 1 (.slice (some ⟨G, 0, none⟩) N cap) N (bv (chgN d f l (64 * k)))) (h : TWr w PW G N cap f n (8 * k) (chgN d f l (64 * k))) (hk : k < n / 64 - 1)
    (v : Nat) (hv : v < 18446744073709551616) (hb : ∀ j, j < 64 → v.testBit j = l.getD (64 * k + j) false) :
    Calls Tryd.prog 27 #[.pointer (some ⟨PW, 0, none⟩), .int .u64 v] w fun e w' => e = .returned (.tuple #[]) ∧ w'.ownsRow B 5 1 (.slice (some ⟨G, 0, none⟩) N cap) N (bv (chgN d f l (64 * (k + 1)))) ∧
      TWr w' PW G N cap f n (8 * (k + 1)) (chgN d f l (64 * (k + 1))) ∧ Mod [PW, G] w w' := by
  obtain ⟨cw, h1, h2, h3, h4⟩ := h
  have g1 := H.hfn
  have g2 := H.hd
  have g3 := H.hcap
  have hsm := chgN_small H.hD f l (64 * k)
  have hlen := chgN_length d f l (64 * k)
  have ek : chgN (chgN d f l (64 * k)) (8 * (f / 8 + 8 * k) + f % 8) (bitsOf v 64) 64 = chgN d f l (64 * (k + 1)) := by
    have e1 : 8 * (f / 8 + 8 * k) + f % 8 = f + 64 * k := by omega
    rw [e1, chg_append H.hD f l (bitsOf v 64) (64 * k) 64 (by omega) (fun j hj => by rw [bitsOf_get _ _ _ hj]; exact hb j hj)]
    congr 1
  refine (putW_any w B G N cap PW (f / 8 + 8 * k) (N - (f / 8 + 8 * k)) (cap - (f / 8 + 8 * k)) (f % 8) v cw _ _ (by omega) hsm hv h1 (fun h => h2 h (by omega) (by omega) (by omega)) (by omega) (by omega) (by omega) (by omega) hne h4 hown).mono fun e w' hh => ?_
  obtain ⟨rfl, r1, r2, cw', r3, r4, r5⟩ := hh
  rw [ek] at r1 r4
  have e1 : f / 8 + 8 * k + 8 = f / 8 + 8 * (k + 1) := by omega
  have e2 : N - (f / 8 + 8 * k) - 8 = N - (f / 8 + 8 * (k + 1)) := by omega
  have e3 : cap - (f / 8 + 8 * k) - 8 = cap - (f / 8 + 8 * (k + 1)) := by omega
  rw [e1, e2, e3] at r5
  rw [e1] at r4
  have hsm' := chgN_small H.hD f l (64 * (k + 1))
  have hlen' := chgN_length d f l (64 * (k + 1))
  exact ⟨rfl, r1, ⟨cw', r3, fun h _ _ _ => r4 h, fun h => by rw [r4 h]; exact wordAt_mod hsm' _ (by omega), r5⟩, r2⟩
/-- a whole byte behind the last word. -/
theorem t_nextb (H : TOk S G N cap rc sa s1 f n sb d l) (hne : S ≠ PR) (hr : Rdb w S sb) (hb : 8 * (b + 1) < n - 64 * (n / 64 - 1))
    (h : TRd w PR S rc sa s1 n (8 * (n / 64 - 1) + b) (n - 64 * (n / 64 - 1) - 8 * b) ((n - 64 * (n / 64 - 1) + 7) / 8 - b) sb) :
    Calls Tryd.prog 30 #[.pointer (some ⟨PR, 0, none⟩)] w fun e w' => ∃ v : Nat, e = .returned (.tuple #[.int .u8 v, .int .i64 8]) ∧ v < 256 ∧ (∀ j, j < 8 → v.testBit j = l.getD (64 * (n / 64 - 1) + 8 * b + j) false) ∧
      TRd w' PR S rc sa s1 n (8 * (n / 64 - 1) + (b + 1)) (n - 64 * (n / 64 - 1) - 8 * (b + 1)) ((n - 64 * (n / 64 - 1) + 7) / 8 - (b + 1)) sb ∧ Mod [PR] w w' := by
  obtain ⟨cr, h1, h2, h3, h4⟩ := h
  have g1 := H.hsb
  have g2 := H.hrc
  have g3 := H.hs1
  have g4 := H.hfn
  have g5 := H.hN
  refine (nextTB_mid w S PR (sa + (8 * (n / 64 - 1) + b)) ((s1 + n + 7) / 8 - (8 * (n / 64 - 1) + b)) (rc - (8 * (n / 64 - 1) + b)) s1 (n - 64 * (n / 64 - 1) - 8 * b) ((n - 64 * (n / 64 - 1) + 7) / 8 - b) cr _ sb H.hs1 H.hS (by omega) (by omega) (by omega) (by omega) (by omega) (by omega) (by omega) hne h1 h3 hr h4).mono fun e w' hh => ?_
  obtain ⟨rfl, r1, r2⟩ := hh
  have hy := H.hS.get (sa + (8 * (n / 64 - 1) + b) + 1)
  have e1 : sa + (8 * (n / 64 - 1) + b) + 1 = sa + (8 * (n / 64 - 1) + (b + 1)) := by omega
  have e2 : (s1 + n + 7) / 8 - (8 * (n / 64 - 1) + b) - 1 = (s1 + n + 7) / 8 - (8 * (n / 64 - 1) + (b + 1)) := by omega
  have e3 : rc - (8 * (n / 64 - 1) + b) - 1 = rc - (8 * (n / 64 - 1) + (b + 1)) := by omega
  have e4 : n - 64 * (n / 64 - 1) - 8 * b - 8 = n - 64 * (n / 64 - 1) - 8 * (b + 1) := by omega
  have e5 : (n - 64 * (n / 64 - 1) + 7) / 8 - b - 1 = (n - 64 * (n / 64 - 1) + 7) / 8 - (b + 1) := by omega
  refine ⟨_, rfl, shb_lt _ _ _ (H.hS.get _), fun j hj => ?_, ⟨lsb cr (sb.getD (sa + (8 * (n / 64 - 1) + b) + 1) 0), by unfold lsb; omega, fun hp hq => by omega, by rw [← e1]; unfold lsb; omega, ?_⟩, r2⟩
  · rw [shb_tb H.hS s1 _ j H.hs1 hj, H.hl _ (by omega)]
    congr 1; omega
  · rw [e1, e2, e3, e4, e5] at r1
    rw [e1]
    exact r1
end
end Go.Proofs.YtcjjajbpjfamfaaDoor
