/- The word writer: both kinds of place in one. A bitmap is copied bit by bit to another place: words. A bitmap is copied bit by bit to another place: the bytes behind the words. Two bits combined, two bytes, two words: plain facts. The word reader's and the word writer's laws, each by itself. Two bitmaps combined at any places: the walk. (YtjfbojmeccdchaaDoor) -/
import Derived.Test.YtjfbojmeccdchaaDoorF5
import Derived.Test.YtjfbojmeccdchaaDoorF4
set_option linter.unusedVariables false
set_option linter.unusedSimpArgs false
namespace Go.Proofs.YtjfbojmeccdchaaDoor
section
open Go.ChangeShapes Go.WideShapes Go.ChangeAt Go.RowKit
theorem putw_chg {m : List Nat} (h : Small m) (a s v : Nat) (hs : s < 8) (hv : v < 18446744073709551616) (ha : a + 8 ≤ m.length) (ha2 : s ≠ 0 → a + 16 ≤ m.length) : putw m a s v = chgN m (8 * a + s) (bitsOf v 64) 64 := by
  have hk : 8 * a + s + 64 ≤ 8 * m.length := by
    by_cases h0 : s = 0
    · omega
    · have := ha2 h0; omega
  apply bytes_ext (by rw [putw_length, chgN_length]) (putw_small h _ _ _ hv) (chgN_small h _ _ _)
  intro i hi
  rw [bitAt_putw h a s v i hs hv ha ha2, bitAt_chgN h _ _ _ hk]
  by_cases c : 8 * a + s ≤ i ∧ i < 8 * a + s + 64
  · rw [if_pos c, if_pos c, bitsOf_get _ _ _ (by omega)]
  · rw [if_neg c, if_neg c]
theorem msk_zero : ((2 ^ 0 - 1 : Nat) : Int) = 0 := by decide
theorem putW_any (w : World) (B G N cap P a m c s v cw : Nat) (a2 : Value) (mem : List Nat) (hs8 : s < 8) (hs : Small mem) (hv : v < 18446744073709551616) (hcw : cw < 18446744073709551616) (hce : s ≠ 0 → cw = wordAt mem a) (hl : mem.length = N) (hm : 16 ≤ m) (hmc : m ≤ c) (ha : a + m ≤ N) (hne : G ≠ P)
    (h : Blk w P 87 #[.slice (some ⟨G, a, none⟩) m c, .int .i64 s, a2, .int .u64 ((2 ^ s - 1 : Nat) : Int), .int .u64 cw]) (hown : w.ownsRow B 5 1 (.slice (some ⟨G, 0, none⟩) N cap) N (bv mem)) :
    Calls Tryd.prog 57 #[.pointer (some ⟨P, 0, none⟩), .int .u64 v] w fun e w' => e = .returned (.tuple #[]) ∧ w'.ownsRow B 5 1 (.slice (some ⟨G, 0, none⟩) N cap) N (bv (chgN mem (8 * a + s) (bitsOf v 64) 64)) ∧ Mod [P, G] w w' ∧
      ∃ cw' : Nat, cw' < 18446744073709551616 ∧ (s ≠ 0 → cw' = wordAt (chgN mem (8 * a + s) (bitsOf v 64) 64) (a + 8)) ∧ Blk w' P 87 #[.slice (some ⟨G, a + 8, none⟩) (m - 8) (c - 8), .int .i64 s, a2, .int .u64 ((2 ^ s - 1 : Nat) : Int), .int .u64 cw'] := by
  rw [← putw_chg hs a s v hs8 hv (by omega) (fun _ => by omega)]
  by_cases h0 : s = 0
  · subst h0
    have e : putw mem a 0 v = put8 mem a v := by unfold putw; rw [if_pos rfl]
    rw [e]
    refine (putW0_any w B G N cap P a m c v _ _ _ mem hv hl (by omega) hmc ha (by omega) hne h hown).mono fun e w' hh => ?_
    obtain ⟨rfl, r1, r2, r3⟩ := hh
    exact ⟨rfl, r2, r3, cw, hcw, fun h => absurd rfl h, r1⟩
  · rw [hce h0] at h
    refine (putWs_any w B G N cap P a m c s v a2 mem hs8 h0 hs hv hl hm hmc ha hne h hown).mono fun e w' hh => ?_
    obtain ⟨rfl, r1, r2, r3⟩ := hh
    exact ⟨rfl, r2, r3, _, wordAt_lt (putw_small hs _ _ _ hv) _, fun _ => rfl, r1⟩
theorem putT8_any (w : World) (B G N cap P a m c s v cw : Nat) (a2 : Value) (mem : List Nat) (hs8 : s < 8) (hs : Small mem) (hv : v < 256) (hcw : cw < 18446744073709551616) (hce : s ≠ 0 → cw % 256 = mem.getD a 0) (hl : mem.length = N) (hmc : m ≤ c) (ha : a + m = N) (hfit : 8 * a + s + 8 ≤ 8 * N) (hne : G ≠ P)
    (h : Blk w P 87 #[.slice (some ⟨G, a, none⟩) m c, .int .i64 s, a2, .int .u64 ((2 ^ s - 1 : Nat) : Int), .int .u64 cw]) (hown : w.ownsRow B 5 1 (.slice (some ⟨G, 0, none⟩) N cap) N (bv mem)) :
    Calls Tryd.prog 61 #[.pointer (some ⟨P, 0, none⟩), .int .u8 v, .int .i64 8] w fun e w' => e = .returned (.tuple #[]) ∧ w'.ownsRow B 5 1 (.slice (some ⟨G, 0, none⟩) N cap) N (bv (chgN mem (8 * a + s) (bitsOf v 8) 8)) ∧ Mod [P, G] w w' ∧
      (1 < c → ∃ cw' : Nat, cw' < 18446744073709551616 ∧ (s ≠ 0 → cw' % 256 = (chgN mem (8 * a + s) (bitsOf v 8) 8).getD (a + 1) 0) ∧ Blk w' P 87 #[.slice (some ⟨G, a + 1, none⟩) (m - 1) (c - 1), .int .i64 s, a2, .int .u64 ((2 ^ s - 1 : Nat) : Int), .int .u64 cw']) := by
  rw [← putb_chg hs a s v hs8 hv (by omega) (fun _ => by omega)]
  by_cases h0 : s = 0
  · subst h0
    have e : putb mem a 0 v = mem.set a v := by unfold putb; rw [if_pos rfl]
    rw [e]
    refine (putT0_any w B G N cap P a m c v cw _ _ mem hv hcw (by omega) hmc (by omega) hne h hown).mono fun e w' hh => ?_
    obtain ⟨rfl, r1, r2, r3⟩ := hh
    exact ⟨rfl, r2, r3, fun hc => ⟨cw, hcw, fun h => absurd rfl h, r1 hc⟩⟩
  · refine (putTs_any w B G N cap P a m c s v cw a2 mem hs8 h0 hs hv hcw (hce h0) (by omega) hmc (by omega) hne h hown).mono fun e w' hh => ?_
    obtain ⟨rfl, r1, r2, r3⟩ := hh
    have hlt := mixb_lt (2 ^ s - 1) (rotb s v) (mem.getD (a + 1) 0) (rotb_lt s v hv) (hs.get _)
    exact ⟨rfl, r2, r3, fun _ => ⟨_, by omega, fun _ => by rw [putb_next a s v h0 (by omega)]; omega, r1⟩⟩
theorem chg_prefix {d : List Nat} (h : Small d) (f : Nat) (l r : List Bool) (n : Nat) (hn : f + n ≤ 8 * d.length) (hr : ∀ j, j < n → r.getD j false = l.getD j false) : chgN d f r n = chgN d f l n := by
  apply bytes_ext (by simp [chgN_length]) (chgN_small h _ _ _) (chgN_small h _ _ _)
  intro i hi
  rw [bitAt_chgN h _ _ _ hn, bitAt_chgN h _ _ _ hn]
  by_cases c : f ≤ i ∧ i < f + n
  · rw [if_pos c, if_pos c, hr _ (by omega)]
  · rw [if_neg c, if_neg c]
end
section
open Go.ChangeShapes Go.WideShapes Go.ChangeAt Go.RowKit
structure TOk (S G N cap rc sa s1 f n : Nat) (sb d : List Nat) (l : List Bool) : Prop where
  hs1 : s1 < 8
  hS : Small sb
  hD : Small d
  hd : d.length = N
  hN : N ≤ 4096
  hfn : f + n ≤ 8 * N
  h0 : 0 < n
  hSG : S ≠ G
  hG0 : G ≠ 3
  hsb : sa + (s1 + n + 7) / 8 ≤ sb.length
  hrc : (s1 + n + 7) / 8 ≤ rc
  hcap : N ≤ cap
  hl : ∀ j, j < n → l.getD j false = bitAt sb (8 * sa + s1 + j)
def TRd (w : World) (PR S rc sa s1 n q tb tby : Nat) (sb : List Nat) : Prop :=
  ∃ cr : Nat, cr < 18446744073709551616 ∧ (0 < n / 64 - 1 → q % 8 = 0 → q ≤ 8 * (n / 64 - 1) → cr = wordAt sb (sa + q)) ∧ cr % 256 = sb.getD (sa + q) 0 ∧
    Blk w PR 81 #[.slice (some ⟨S, sa + q, none⟩) ((s1 + n + 7) / 8 - q) (rc - q), .int .i64 (s1 : Int), .int .i64 ((n / 64 - 1 : Nat) : Int), .int .i64 (tb : Int), .int .i64 (tby : Int), .int .u64 (cr : Int)]
def TWr (w : World) (PW G N cap f n q : Nat) (mem : List Nat) : Prop :=
  ∃ cw : Nat, cw < 18446744073709551616 ∧ (f % 8 ≠ 0 → 0 < n / 64 - 1 → q % 8 = 0 → q ≤ 8 * (n / 64 - 1) → cw = wordAt mem (f / 8 + q)) ∧ (f % 8 ≠ 0 → cw % 256 = mem.getD (f / 8 + q) 0) ∧
    Blk w PW 87 #[.slice (some ⟨G, f / 8 + q, none⟩) (N - (f / 8 + q)) (cap - (f / 8 + q)), .int .i64 ((f % 8 : Nat) : Int), .int .i64 (n : Int), .int .u64 ((2 ^ (f % 8) - 1 : Nat) : Int), .int .u64 (cw : Int)]
theorem TRd.mod {w w' : World} {PR S rc sa s1 n q tb tby : Nat} {sb : List Nat} {T : List Nat} (h : TRd w PR S rc sa s1 n q tb tby sb) (hm : Mod T w w') (hT : PR ∉ T) : TRd w' PR S rc sa s1 n q tb tby sb := by
  obtain ⟨cr, h1, h2, h3, h4⟩ := h
  exact ⟨cr, h1, h2, h3, h4.mod hm hT⟩
theorem TWr.mod {w w' : World} {PW G N cap f n q : Nat} {mem : List Nat} {T : List Nat} (h : TWr w PW G N cap f n q mem) (hm : Mod T w w') (hT : PW ∉ T) : TWr w' PW G N cap f n q mem := by
  obtain ⟨cr, h1, h2, h3, h4⟩ := h
  exact ⟨cr, h1, h2, h3, h4.mod hm hT⟩
theorem own_M {w w' : World} {B G N cap : Nat} {xs : List Value} {S : List Nat} (h : w.ownsRow B 5 1 (.slice (some ⟨G, 0, none⟩) N cap) N xs) (hm : Mod S w w') (hS : G ∉ S) : w'.ownsRow B 5 1 (.slice (some ⟨G, 0, none⟩) N cap) N xs :=
  own_mod h hm fun g hg => by
    have : G = g := by simpa [Value.ownBlock] using hg
    subst this; exact hS
section
variable {w : World} {B S G PR PW N cap rc sa s1 f n k b : Nat} {sb d : List Nat} {l : List Bool}
/-- the next word is read. -/
theorem t_next (H : TOk S G N cap rc sa s1 f n sb d l) (hne : S ≠ PR) {lo : Nat} (hr : Rdb w S sb lo) (h : TRd w PR S rc sa s1 n (8 * k) (n - 64 * (n / 64 - 1)) ((n - 64 * (n / 64 - 1) + 7) / 8) sb) (hk : k < n / 64 - 1) (hlo : lo ≤ sa := by omega) :
    Calls Tryd.prog 58 #[.pointer (some ⟨PR, 0, none⟩)] w fun e w' => ∃ v : Nat, e = .returned (.int .u64 v) ∧ v < 18446744073709551616 ∧ (∀ j, j < 64 → v.testBit j = l.getD (64 * k + j) false) ∧
      TRd w' PR S rc sa s1 n (8 * (k + 1)) (n - 64 * (n / 64 - 1)) ((n - 64 * (n / 64 - 1) + 7) / 8) sb ∧ Mod [PR] w w' := by
  obtain ⟨cr, h1, h2, h3, h4⟩ := h
  have g1 := H.hsb
  have g2 := H.hrc
  have g3 := H.hs1
  rw [h2 (by omega) (by omega) (by omega)] at h4
  refine (nextW_any w S PR (sa + 8 * k) ((s1 + n + 7) / 8 - 8 * k) (rc - 8 * k) s1 _ _ _ sb H.hs1 H.hS (by omega) (by omega) (by omega) hne hr h4).mono fun e w' hh => ?_
  obtain ⟨rfl, r1, r2⟩ := hh
  refine ⟨_, rfl, shw_lt _ _ _ (wordAt_lt H.hS _), fun j hj => ?_, ⟨wordAt sb (sa + 8 * (k + 1)), wordAt_lt H.hS _, fun _ _ _ => rfl, wordAt_mod H.hS _ (by omega), ?_⟩, r2⟩
  · rw [shw_word H.hS s1 (sa + 8 * k) j H.hs1 (by omega) hj, H.hl _ (by omega)]
    congr 1; omega
  · have e1 : sa + 8 * k + 8 = sa + 8 * (k + 1) := by omega
    have e2 : (s1 + n + 7) / 8 - 8 * k - 8 = (s1 + n + 7) / 8 - 8 * (k + 1) := by omega
    have e3 : rc - 8 * k - 8 = rc - 8 * (k + 1) := by omega
    rw [e1, e2, e3] at r1
    exact r1
/-- the next word is written. -/
theorem t_put (H : TOk S G N cap rc sa s1 f n sb d l) (hne : G ≠ PW) (hown : w.ownsRow B 5 1 (.slice (some ⟨G, 0, none⟩) N cap) N (bv (chgN d f l (64 * k)))) (h : TWr w PW G N cap f n (8 * k) (chgN d f l (64 * k))) (hk : k < n / 64 - 1)
    (v : Nat) (hv : v < 18446744073709551616) (hb : ∀ j, j < 64 → v.testBit j = l.getD (64 * k + j) false) :
    Calls Tryd.prog 57 #[.pointer (some ⟨PW, 0, none⟩), .int .u64 v] w fun e w' => e = .returned (.tuple #[]) ∧ w'.ownsRow B 5 1 (.slice (some ⟨G, 0, none⟩) N cap) N (bv (chgN d f l (64 * (k + 1)))) ∧
      TWr w' PW G N cap f n (8 * (k + 1)) (chgN d f l (64 * (k + 1))) ∧ Mod [PW, G] w w' := by
  obtain ⟨cw, h1, h2, h3, h4⟩ := h
  have g1 := H.hfn
  have g2 := H.hd
  have g3 := H.hcap
  have hsm := chgN_small H.hD f l (64 * k)
  have hlen := chgN_length d f l (64 * k)
  have ek : chgN (chgN d f l (64 * k)) (8 * (f / 8 + 8 * k) + f % 8) (bitsOf v 64) 64 = chgN d f l (64 * (k + 1)) := by
    have e1 : 8 * (f / 8 + 8 * k) + f % 8 = f + 64 * k := by omega
    rw [e1, chg_append H.hD f l (bitsOf v 64) (64 * k) 64 (by omega) (fun j hj => by rw [bitsOf_get _ _ _ hj]; exact hb j hj)]
    congr 1
  refine (putW_any w B G N cap PW (f / 8 + 8 * k) (N - (f / 8 + 8 * k)) (cap - (f / 8 + 8 * k)) (f % 8) v cw _ _ (by omega) hsm hv h1 (fun h => h2 h (by omega) (by omega) (by omega)) (by omega) (by omega) (by omega) (by omega) hne h4 hown).mono fun e w' hh => ?_
  obtain ⟨rfl, r1, r2, cw', r3, r4, r5⟩ := hh
  rw [ek] at r1 r4
  have e1 : f / 8 + 8 * k + 8 = f / 8 + 8 * (k + 1) := by omega
  have e2 : N - (f / 8 + 8 * k) - 8 = N - (f / 8 + 8 * (k + 1)) := by omega
  have e3 : cap - (f / 8 + 8 * k) - 8 = cap - (f / 8 + 8 * (k + 1)) := by omega
  rw [e1, e2, e3] at r5
  rw [e1] at r4
  have hsm' := chgN_small H.hD f l (64 * (k + 1))
  have hlen' := chgN_length d f l (64 * (k + 1))
  exact ⟨rfl, r1, ⟨cw', r3, fun h _ _ _ => r4 h, fun h => by rw [r4 h]; exact wordAt_mod hsm' _ (by omega), r5⟩, r2⟩
/-- a whole byte behind the last word. -/
theorem t_nextb (H : TOk S G N cap rc sa s1 f n sb d l) (hne : S ≠ PR) {lo : Nat} (hr : Rdb w S sb lo) (hb : 8 * (b + 1) < n - 64 * (n / 64 - 1))
    (h : TRd w PR S rc sa s1 n (8 * (n / 64 - 1) + b) (n - 64 * (n / 64 - 1) - 8 * b) ((n - 64 * (n / 64 - 1) + 7) / 8 - b) sb) (hlo : lo ≤ sa := by omega) :
    Calls Tryd.prog 60 #[.pointer (some ⟨PR, 0, none⟩)] w fun e w' => ∃ v : Nat, e = .returned (.tuple #[.int .u8 v, .int .i64 8]) ∧ v < 256 ∧ (∀ j, j < 8 → v.testBit j = l.getD (64 * (n / 64 - 1) + 8 * b + j) false) ∧
      TRd w' PR S rc sa s1 n (8 * (n / 64 - 1) + (b + 1)) (n - 64 * (n / 64 - 1) - 8 * (b + 1)) ((n - 64 * (n / 64 - 1) + 7) / 8 - (b + 1)) sb ∧ Mod [PR] w w' := by
  obtain ⟨cr, h1, h2, h3, h4⟩ := h
  have g1 := H.hsb
  have g2 := H.hrc
  have g3 := H.hs1
  have g4 := H.hfn
  have g5 := H.hN
  refine (nextTB_mid w S PR (sa + (8 * (n / 64 - 1) + b)) ((s1 + n + 7) / 8 - (8 * (n / 64 - 1) + b)) (rc - (8 * (n / 64 - 1) + b)) s1 (n - 64 * (n / 64 - 1) - 8 * b) ((n - 64 * (n / 64 - 1) + 7) / 8 - b) cr _ sb H.hs1 H.hS (by omega) (by omega) (by omega) (by omega) (by omega) (by omega) (by omega) hne h1 h3 hr h4).mono fun e w' hh => ?_
  obtain ⟨rfl, r1, r2⟩ := hh
  have hy := H.hS.get (sa + (8 * (n / 64 - 1) + b) + 1)
  have e1 : sa + (8 * (n / 64 - 1) + b) + 1 = sa + (8 * (n / 64 - 1) + (b + 1)) := by omega
  have e2 : (s1 + n + 7) / 8 - (8 * (n / 64 - 1) + b) - 1 = (s1 + n + 7) / 8 - (8 * (n / 64 - 1) + (b + 1)) := by omega
  have e3 : rc - (8 * (n / 64 - 1) + b) - 1 = rc - (8 * (n / 64 - 1) + (b + 1)) := by omega
  have e4 : n - 64 * (n / 64 - 1) - 8 * b - 8 = n - 64 * (n / 64 - 1) - 8 * (b + 1) := by omega
  have e5 : (n - 64 * (n / 64 - 1) + 7) / 8 - b - 1 = (n - 64 * (n / 64 - 1) + 7) / 8 - (b + 1) := by omega
  refine ⟨_, rfl, shb_lt _ _ _ (H.hS.get _), fun j hj => ?_, ⟨lsb cr (sb.getD (sa + (8 * (n / 64 - 1) + b) + 1) 0), by unfold lsb; omega, fun hp hq => by omega, by rw [← e1]; unfold lsb; omega, ?_⟩, r2⟩
  · rw [shb_tb H.hS s1 _ j H.hs1 hj, H.hl _ (by omega)]
    congr 1; omega
  · rw [e1, e2, e3, e4, e5] at r1
    rw [e1]
    exact r1
end
end
section
open Go.ChangeShapes Go.WideShapes Go.ChangeAt Go.RowKit
section
variable {w : World} {B S G PR PW N cap rc sa s1 f n k b : Nat} {sb d : List Nat} {l : List Bool}
theorem t_readb (H : TOk S G N cap rc sa s1 f n sb d l) (hne : S ≠ PR) {lo : Nat} (hr : Rdb w S sb lo) (hb : b < (n - 64 * (n / 64 - 1) + 7) / 8)
    (h : TRd w PR S rc sa s1 n (8 * (n / 64 - 1) + b) (n - 64 * (n / 64 - 1) - 8 * b) ((n - 64 * (n / 64 - 1) + 7) / 8 - b) sb) (hlo : lo ≤ sa := by omega) :
    Calls Tryd.prog 60 #[.pointer (some ⟨PR, 0, none⟩)] w fun e w' => ∃ v vv : Nat, e = .returned (.tuple #[.int .u8 v, .int .i64 vv]) ∧ vv = min 8 (n - 64 * (n / 64 - 1) - 8 * b) ∧ v < 256 ∧ (∀ j, j < vv → v.testBit j = l.getD (64 * (n / 64 - 1) + 8 * b + j) false) ∧
      (b + 1 < (n - 64 * (n / 64 - 1) + 7) / 8 → TRd w' PR S rc sa s1 n (8 * (n / 64 - 1) + (b + 1)) (n - 64 * (n / 64 - 1) - 8 * (b + 1)) ((n - 64 * (n / 64 - 1) + 7) / 8 - (b + 1)) sb) ∧ Mod [PR] w w' := by
  by_cases c : 8 * (b + 1) < n - 64 * (n / 64 - 1)
  · refine (t_nextb H hne hr c h).mono fun e w' hh => ?_
    obtain ⟨v, rfl, r1, r2, r3, r4⟩ := hh
    exact ⟨v, 8, rfl, by omega, r1, r2, fun _ => r3, r4⟩
  · obtain ⟨cr, h1, h2, h3, h4⟩ := h
    have g1 := H.hsb
    have g2 := H.hrc
    have g3 := H.hs1
    have g4 := H.hfn
    have g5 := H.hN
    have hSl : S < w.heap.size := (by
      have := hr (sa + (8 * (n / 64 - 1) + b)) (by omega) (by omega)
      exact World.block_lt_of_cell? w ⟨S, sa + (8 * (n / 64 - 1) + b), none⟩ this)
    refine (nextTB_last w S PR (sa + (8 * (n / 64 - 1) + b)) ((s1 + n + 7) / 8 - (8 * (n / 64 - 1) + b)) (rc - (8 * (n / 64 - 1) + b)) s1 (n - 64 * (n / 64 - 1) - 8 * b) _ _ _ sb H.hs1 H.hS (by omega) (by omega) (by omega) (by omega) hne hr hSl h4).mono fun e w' hh => ?_
    obtain ⟨rfl, r1⟩ := hh
    refine ⟨_, _, rfl, by omega, tbv_lt _ _, fun j hj => ?_, fun h => by omega, r1⟩
    rw [tbv_tb _ _ j (by omega) hj, H.hl _ (by omega)]
    congr 1; omega
theorem t_writeb (H : TOk S G N cap rc sa s1 f n sb d l) (hne : G ≠ PW) (hM : Msk w) (hb : b < (n - 64 * (n / 64 - 1) + 7) / 8) (hown : w.ownsRow B 5 1 (.slice (some ⟨G, 0, none⟩) N cap) N (bv (chgN d f l (min (64 * (n / 64 - 1) + 8 * b) n))))
    (h : TWr w PW G N cap f n (8 * (n / 64 - 1) + b) (chgN d f l (min (64 * (n / 64 - 1) + 8 * b) n))) (v vv : Nat) (hvv : vv = min 8 (n - 64 * (n / 64 - 1) - 8 * b)) (hv : v < 256) (hbits : ∀ j, j < vv → v.testBit j = l.getD (64 * (n / 64 - 1) + 8 * b + j) false) :
    Calls Tryd.prog 61 #[.pointer (some ⟨PW, 0, none⟩), .int .u8 v, .int .i64 vv] w fun e w' => e = .returned (.tuple #[]) ∧ w'.ownsRow B 5 1 (.slice (some ⟨G, 0, none⟩) N cap) N (bv (chgN d f l (min (64 * (n / 64 - 1) + 8 * (b + 1)) n))) ∧
      (b + 1 < (n - 64 * (n / 64 - 1) + 7) / 8 → TWr w' PW G N cap f n (8 * (n / 64 - 1) + (b + 1)) (chgN d f l (min (64 * (n / 64 - 1) + 8 * (b + 1)) n))) ∧ Mod [PW, G] w w' := by
  obtain ⟨cw, h1, h2, h3, h4⟩ := h
  have g1 := H.hfn
  have g2 := H.hd
  have g3 := H.hcap
  have g4 := H.hN
  have em : min (64 * (n / 64 - 1) + 8 * b) n = 64 * (n / 64 - 1) + 8 * b := by omega
  rw [em] at hown h3 h2
  have hsm := chgN_small H.hD f l (64 * (n / 64 - 1) + 8 * b)
  have hlen := chgN_length d f l (64 * (n / 64 - 1) + 8 * b)
  have e1 : 8 * (f / 8 + (8 * (n / 64 - 1) + b)) + f % 8 = f + (64 * (n / 64 - 1) + 8 * b) := by omega
  have ek : chgN (chgN d f l (64 * (n / 64 - 1) + 8 * b)) (8 * (f / 8 + (8 * (n / 64 - 1) + b)) + f % 8) (bitsOf v vv) vv = chgN d f l (min (64 * (n / 64 - 1) + 8 * (b + 1)) n) := by
    rw [e1, chg_append H.hD f l (bitsOf v vv) (64 * (n / 64 - 1) + 8 * b) vv (by omega) (fun j hj => by rw [bitsOf_get _ _ _ hj]; exact hbits j hj)]
    congr 1; omega
  by_cases c8 : vv = 8
  · subst c8
    have hc1 : b + 1 < (n - 64 * (n / 64 - 1) + 7) / 8 → 1 < cap - (f / 8 + (8 * (n / 64 - 1) + b)) := fun hlt => by omega
    refine (putT8_any w B G N cap PW (f / 8 + (8 * (n / 64 - 1) + b)) (N - (f / 8 + (8 * (n / 64 - 1) + b))) (cap - (f / 8 + (8 * (n / 64 - 1) + b))) (f % 8) v cw _ _ (by omega) hsm hv h1 h3 (hlen.trans g2) (by omega) (by omega) (by omega) hne h4 hown).mono fun e w' hh => ?_
    obtain ⟨rfl, r1, r2, r3⟩ := hh
    rw [ek] at r1 r3
    refine ⟨rfl, r1, fun hlt => ?_, r2⟩
    obtain ⟨cw', r4, r5, r6⟩ := r3 (hc1 hlt)
    have e2 : f / 8 + (8 * (n / 64 - 1) + b) + 1 = f / 8 + (8 * (n / 64 - 1) + (b + 1)) := by omega
    have e3 : N - (f / 8 + (8 * (n / 64 - 1) + b)) - 1 = N - (f / 8 + (8 * (n / 64 - 1) + (b + 1))) := by omega
    have e4 : cap - (f / 8 + (8 * (n / 64 - 1) + b)) - 1 = cap - (f / 8 + (8 * (n / 64 - 1) + (b + 1))) := by omega
    rw [e2, e3, e4] at r6
    rw [e2] at r5
    exact ⟨cw', r4, fun _ hp hq hr => by omega, r5, r6⟩
  · refine (putTv_any w B G N cap PW (f / 8 + (8 * (n / 64 - 1) + b)) (N - (f / 8 + (8 * (n / 64 - 1) + b))) (cap - (f / 8 + (8 * (n / 64 - 1) + b))) (f % 8) v vv cw _ _ _ (by omega) hsm hv (by omega) (by omega) h1 (hlen.trans g2) (by omega) (by omega) (by omega) (by omega) hne H.hG0 hM h4 hown).mono fun e w' hh => ?_
    obtain ⟨rfl, r1, r2⟩ := hh
    rw [ek] at r1
    exact ⟨rfl, r1, fun hlt => by omega, r2.mono (by simp)⟩
end
end
section
open Go.RowKit
def cmb (op : Nat) (a b : Bool) : Bool := if op = 0 then a && b else if op = 1 then a || b else if op = 2 then a != b else if op = 3 then a && !b else a == b
def wOp (op x y : Nat) : Nat := if op = 0 then x &&& y else if op = 1 then x ||| y else if op = 2 then x ^^^ y else if op = 3 then x &&& (18446744073709551615 - y) else 18446744073709551615 - (x ^^^ y)
def bOp (op x y : Nat) : Nat := if op = 0 then x &&& y else if op = 1 then x ||| y else if op = 2 then x ^^^ y else if op = 3 then x &&& (255 - y) else 255 - (x ^^^ y)
theorem tb_not64 (z j : Nat) (hz : z < 18446744073709551616) (hj : j < 64) : (18446744073709551615 - z).testBit j = !z.testBit j := by
  have h := Nat.testBit_two_pow_sub_succ (n := 64) (x := z) hz j
  have e : 2 ^ 64 - (z + 1) = 18446744073709551615 - z := by
    have : (2 : Nat) ^ 64 = 18446744073709551616 := by decide
    omega
  rw [e] at h
  rw [h]; simp [hj]
theorem wOp_lt (op x y : Nat) (hx : x < 18446744073709551616) (hy : y < 18446744073709551616) : wOp op x y < 18446744073709551616 := by
  unfold wOp
  split
  · exact Nat.lt_of_le_of_lt Nat.and_le_left hx
  split
  · exact Nat.or_lt_two_pow (n := 64) hx hy
  split
  · exact Nat.xor_lt_two_pow (n := 64) hx hy
  split
  · exact Nat.lt_of_le_of_lt Nat.and_le_left hx
  · exact Nat.lt_of_le_of_lt (Nat.sub_le _ _) (by decide)
theorem bOp_lt (op x y : Nat) (hx : x < 256) (hy : y < 256) : bOp op x y < 256 := by
  unfold bOp
  split
  · exact Nat.lt_of_le_of_lt Nat.and_le_left hx
  split
  · exact Nat.or_lt_two_pow (n := 8) hx hy
  split
  · exact Nat.xor_lt_two_pow (n := 8) hx hy
  split
  · exact Nat.lt_of_le_of_lt Nat.and_le_left hx
  · exact Nat.lt_of_le_of_lt (Nat.sub_le _ _) (by decide)
theorem wOp_tb (op x y j : Nat) (hx : x < 18446744073709551616) (hy : y < 18446744073709551616) (hj : j < 64) : (wOp op x y).testBit j = cmb op (x.testBit j) (y.testBit j) := by
  have hxy : x ^^^ y < 18446744073709551616 := Nat.xor_lt_two_pow (n := 64) hx hy
  unfold wOp cmb
  by_cases h0 : op = 0
  · rw [if_pos h0, if_pos h0, Nat.testBit_and]
  rw [if_neg h0, if_neg h0]
  by_cases h1 : op = 1
  · rw [if_pos h1, if_pos h1, Nat.testBit_or]
  rw [if_neg h1, if_neg h1]
  by_cases h2 : op = 2
  · rw [if_pos h2, if_pos h2, Nat.testBit_xor]
  rw [if_neg h2, if_neg h2]
  by_cases h3 : op = 3
  · rw [if_pos h3, if_pos h3, Nat.testBit_and, tb_not64 y j hy hj]
  rw [if_neg h3, if_neg h3, tb_not64 _ j hxy hj, Nat.testBit_xor]
  cases x.testBit j <;> cases y.testBit j <;> rfl
theorem bOp_tb (op x y j : Nat) (hx : x < 256) (hy : y < 256) (hj : j < 8) : (bOp op x y).testBit j = cmb op (x.testBit j) (y.testBit j) := by
  have hxy : x ^^^ y < 256 := Nat.xor_lt_two_pow (n := 8) hx hy
  unfold bOp cmb
  by_cases h0 : op = 0
  · rw [if_pos h0, if_pos h0, Nat.testBit_and]
  rw [if_neg h0, if_neg h0]
  by_cases h1 : op = 1
  · rw [if_pos h1, if_pos h1, Nat.testBit_or]
  rw [if_neg h1, if_neg h1]
  by_cases h2 : op = 2
  · rw [if_pos h2, if_pos h2, Nat.testBit_xor]
  rw [if_neg h2, if_neg h2]
  by_cases h3 : op = 3
  · rw [if_pos h3, if_pos h3, Nat.testBit_and, tb_not8 y j hy hj]
  rw [if_neg h3, if_neg h3, tb_not8 _ j hxy hj, Nat.testBit_xor]
  cases x.testBit j <;> cases y.testBit j <;> rfl
/-- two lists of bits combined. -/
def cmbL (op : Nat) (l m : List Bool) (n : Nat) : List Bool := (List.range n).map fun j => cmb op (l.getD j false) (m.getD j false)
theorem cmbL_length (op : Nat) (l m : List Bool) (n : Nat) : (cmbL op l m n).length = n := by simp [cmbL]
theorem cmbL_get (op : Nat) (l m : List Bool) (n j : Nat) (h : j < n) : (cmbL op l m n).getD j false = cmb op (l.getD j false) (m.getD j false) := by simp [cmbL, List.getD_eq_getElem?_getD, h]
end
section
open Go.RowKit
theorem rep_small (n : Nat) : Small (List.replicate n 0) := fun x hx => by rw [List.eq_of_mem_replicate hx]; decide
/-- a reader alone: the writer's side is filled with anything. -/
theorem tok_r (S rc sa s1 n : Nat) (sb : List Nat) (l : List Bool) (hs1 : s1 < 8) (hS : Small sb) (h0 : 0 < n) (hn : n ≤ 32768) (hsb : sa + (s1 + n + 7) / 8 ≤ sb.length) (hrc : (s1 + n + 7) / 8 ≤ rc) (hl : ∀ j, j < n → l.getD j false = bitAt sb (8 * sa + s1 + j)) :
    TOk S (S + 4) 4096 4096 rc sa s1 0 n sb (List.replicate 4096 0) l :=
  ⟨hs1, hS, rep_small _, List.length_replicate, by omega, by omega, h0, by omega, by omega, hsb, hrc, by omega, hl⟩
/-- a writer alone. -/
theorem tok_w (G N cap f n : Nat) (d : List Nat) (l : List Bool) (hD : Small d) (hd : d.length = N) (hN : N ≤ 4096) (hfn : f + n ≤ 8 * N) (h0 : 0 < n) (hG0 : G ≠ 3) (hcap : N ≤ cap) :
    TOk (G + 1) G N cap 4096 0 0 f n (chgN (List.replicate 4096 0) 0 l n) d l :=
  ⟨by omega, chgN_small (rep_small _) _ _ _, hD, hd, hN, hfn, h0, by omega, hG0, by rw [chgN_length, List.length_replicate]; omega, by omega, hcap, fun j hj => by
    rw [bitAt_chgN (rep_small _) _ _ _ (by rw [List.length_replicate]; omega), if_pos (by omega)]
    congr 1; omega⟩
end
section
open Go.ChangeShapes Go.WideShapes Go.ChangeAt Go.RowKit
abbrev fnV (k : Nat) : Value := .func (.func k) #[] #[]
def OpW (op kw : Nat) : Prop := ∀ (W : World) (x y : Nat), x < 18446744073709551616 → y < 18446744073709551616 → Calls Tryd.prog kw #[.int .u64 x, .int .u64 y] W fun e w' => e = .returned (.int .u64 (wOp op x y : Int)) ∧ W = w'
def OpB (op kb : Nat) : Prop := ∀ (W : World) (x y : Nat), x < 256 → y < 256 → Calls Tryd.prog kb #[.int .u8 x, .int .u8 y] W fun e w' => e = .returned (.int .u8 (bOp op x y : Int)) ∧ W = w'
def WL2 (w1 : World) (B S1 S2 G PL PR PW N cap rc1 rc2 sa1 sa2 s1 s2 f n : Nat) (sb1 sb2 d : List Nat) (l : List Bool) (v : Value) (wr : World) : Prop :=
  ∃ k : Nat, k ≤ n / 64 - 1 ∧ v = .int .i64 ((n / 64 - 1 - k : Nat) : Int) ∧ wr.ownsRow B 5 1 (.slice (some ⟨G, 0, none⟩) N cap) N (bv (chgN d f l (64 * k))) ∧ Mod [PL, PR, PW, G] w1 wr ∧
    TRd wr PL S1 rc1 sa1 s1 n (8 * k) (n - 64 * (n / 64 - 1)) ((n - 64 * (n / 64 - 1) + 7) / 8) sb1 ∧ TRd wr PR S2 rc2 sa2 s2 n (8 * k) (n - 64 * (n / 64 - 1)) ((n - 64 * (n / 64 - 1) + 7) / 8) sb2 ∧ TWr wr PW G N cap f n (8 * k) (chgN d f l (64 * k))
def BL2 (w1 : World) (B S1 S2 G PL PR PW N cap rc1 rc2 sa1 sa2 s1 s2 f n : Nat) (sb1 sb2 d : List Nat) (l : List Bool) (v : Value) (wr : World) : Prop :=
  ∃ b : Nat, b ≤ (n - 64 * (n / 64 - 1) + 7) / 8 ∧ v = .int .i64 (((n - 64 * (n / 64 - 1) + 7) / 8 - b : Nat) : Int) ∧ wr.ownsRow B 5 1 (.slice (some ⟨G, 0, none⟩) N cap) N (bv (chgN d f l (min (64 * (n / 64 - 1) + 8 * b) n))) ∧ Mod [PL, PR, PW, G] w1 wr ∧
    (b < (n - 64 * (n / 64 - 1) + 7) / 8 → TRd wr PL S1 rc1 sa1 s1 n (8 * (n / 64 - 1) + b) (n - 64 * (n / 64 - 1) - 8 * b) ((n - 64 * (n / 64 - 1) + 7) / 8 - b) sb1 ∧ TRd wr PR S2 rc2 sa2 s2 n (8 * (n / 64 - 1) + b) (n - 64 * (n / 64 - 1) - 8 * b) ((n - 64 * (n / 64 - 1) + 7) / 8 - b) sb2 ∧ TWr wr PW G N cap f n (8 * (n / 64 - 1) + b) (chgN d f l (min (64 * (n / 64 - 1) + 8 * b) n)))
theorem trd_zero {w : World} {P S c so sf n cr : Nat} {sb : List Nat} (hcr : cr < 18446744073709551616) (h1 : 0 < n / 64 - 1 → cr = wordAt sb (so + sf / 8)) (h2 : cr % 256 = sb.getD (so + sf / 8) 0)
    (h : Blk w P 81 #[.slice (some ⟨S, so + sf / 8, none⟩) ((sf % 8 + n + 7) / 8) (c - sf / 8), .int .i64 ((sf % 8 : Nat) : Int), .int .i64 ((n / 64 - 1 : Nat) : Int), .int .i64 ((n - 64 * (n / 64 - 1) : Nat) : Int), .int .i64 (((n - 64 * (n / 64 - 1) + 7) / 8 : Nat) : Int), .int .u64 cr]) :
    TRd w P S (c - sf / 8) (so + sf / 8) (sf % 8) n 0 (n - 64 * (n / 64 - 1)) ((n - 64 * (n / 64 - 1) + 7) / 8) sb := ⟨cr, hcr, fun h _ _ => h1 h, h2, h⟩
theorem twr_zero {w : World} {P G N cap f n cw : Nat} {d : List Nat} (hcw : cw < 18446744073709551616) (h1 : f % 8 ≠ 0 → 64 ≤ n → cw = wordAt d (0 + f / 8)) (h2 : f % 8 ≠ 0 → cw % 256 = d.getD (0 + f / 8) 0)
    (h : Blk w P 87 #[.slice (some ⟨G, 0 + f / 8, none⟩) (N - f / 8) (cap - f / 8), .int .i64 ((f % 8 : Nat) : Int), .int .i64 n, .int .u64 ((2 ^ (f % 8) - 1 : Nat) : Int), .int .u64 cw]) : TWr w P G N cap f n 0 d :=
  ⟨cw, hcw, fun h _ _ _ => by have := h1 h (by omega); rw [Nat.zero_add] at this; rw [Nat.add_zero]; exact this, fun h => by have := h2 h; rw [Nat.zero_add] at this; rw [Nat.add_zero]; exact this, by rw [Nat.zero_add] at h; rw [Nat.add_zero]; exact h⟩
theorem nin4 {a b c d e : Nat} (h1 : a ≠ b) (h2 : a ≠ c) (h3 : a ≠ d) (h4 : a ≠ e) : a ∉ [b, c, d, e] := by simp [h1, h2, h3, h4]
end
end Go.Proofs.YtjfbojmeccdchaaDoor
