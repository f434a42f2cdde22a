/- The word writer: made; a whole word. (YtcjjajbpjfamfaaDoor) -/
import Derived.Test.YtcjjajbpjfamfaaDoorX8
set_option linter.unusedVariables false
set_option linter.unusedSimpArgs false
namespace Go.Proofs.YtcjjajbpjfamfaaDoor
open Go.ChangeShapes Go.WideShapes Go.ChangeAt Go.RowKit
theorem blk5 {w : World} {P : Nat} {t : TypeId} {a0 a1 a2 a3 a4 : Value} (h : Blk w P t #[a0, a1, a2, a3, a4]) :
    w.cell? ⟨P, 0, none⟩ = some a0 ∧ w.cell? ⟨P, 1, none⟩ = some a1 ∧ w.cell? ⟨P, 2, none⟩ = some a2 ∧ w.cell? ⟨P, 3, none⟩ = some a3 ∧ w.cell? ⟨P, 4, none⟩ = some a4 :=
  ⟨h.cell 0, h.cell 1, h.cell 2, h.cell 3, h.cell 4⟩
section
variable {w : World} {P : Nat} {t : TypeId} {a0 a1 a2 a3 a4 : Value}
theorem b5s0 (h : Blk w P t #[a0, a1, a2, a3, a4]) (v : Value) : Blk (w.setCell ⟨P, 0, none⟩ v) P t #[v, a1, a2, a3, a4] := h.set 0 v
theorem b5s4 (h : Blk w P t #[a0, a1, a2, a3, a4]) (v : Value) : Blk (w.setCell ⟨P, 4, none⟩ v) P t #[a0, a1, a2, a3, v] := h.set 4 v
end
def M64 : Nat := 18446744073709551615
def rot (s v : Nat) : Nat := v * 2 ^ s % 18446744073709551616 ||| v / 2 ^ (64 - s)
def mixw (mk x y : Nat) : Nat := (x &&& mk) ||| (y &&& (18446744073709551615 - mk))
theorem two64 : (18446744073709551616 : Nat) = 2 ^ 64 := by decide
theorem rot_lt (s v : Nat) (hv : v < 18446744073709551616) : rot s v < 18446744073709551616 := Nat.or_lt_two_pow (n := 64) (Nat.mod_lt _ (by decide)) (Nat.lt_of_le_of_lt (Nat.div_le_self _ _) hv)
theorem mixw_lt (mk x y : Nat) (hx : x < 18446744073709551616) (hy : y < 18446744073709551616) : mixw mk x y < 18446744073709551616 :=
  Nat.or_lt_two_pow (n := 64) (Nat.lt_of_le_of_lt Nat.and_le_left hx) (Nat.lt_of_le_of_lt Nat.and_le_left hy)
theorem rot_tb (s v j : Nat) (hs : s < 8) (h0 : s ≠ 0) (hv : v < 18446744073709551616) (hj : j < 64) : (rot s v).testBit j = if j < s then v.testBit (64 - s + j) else v.testBit (j - s) := by
  unfold rot
  rw [Nat.testBit_or, two64, Nat.testBit_mod_two_pow, decide_eq_true hj, Bool.true_and, Nat.testBit_mul_two_pow, Nat.testBit_div_two_pow]
  have big : ∀ k, 64 ≤ k → v.testBit k = false := fun k hk => Nat.testBit_lt_two_pow (Nat.lt_of_lt_of_le (show v < 2 ^ 64 from hv) (Nat.pow_le_pow_right (by decide) hk))
  by_cases c : j < s
  · rw [if_pos c]
    have : ¬ s ≤ j := by omega
    have e : j + (64 - s) = 64 - s + j := by omega
    simp [this, e]
  · rw [if_neg c, big (j + (64 - s)) (by omega)]
    have : s ≤ j := by omega
    simp [this]
theorem mixw_tb (s x y j : Nat) (hs : s < 8) (hj : j < 64) : (mixw (2 ^ s - 1) x y).testBit j = if j < s then x.testBit j else y.testBit j := by
  unfold mixw
  have hm : 2 ^ s - 1 < 2 ^ 64 := Nat.lt_of_lt_of_le (Nat.sub_lt (Nat.two_pow_pos s) (by decide)) (Nat.pow_le_pow_right (by decide) (by omega))
  have e : 18446744073709551615 - (2 ^ s - 1) = 2 ^ 64 - ((2 ^ s - 1) + 1) := by
    have : (2 : Nat) ^ 64 = 18446744073709551616 := by decide
    omega
  rw [Nat.testBit_or, Nat.testBit_and, Nat.testBit_and, e, Nat.testBit_two_pow_sub_succ hm, Nat.testBit_two_pow_sub_one, decide_eq_true hj, Bool.true_and]
  by_cases c : j < s <;> simp [c]
/-- what stands there when a word is written across two. -/
def putw (m : List Nat) (a s v : Nat) : List Nat := if s = 0 then put8 m a v else put8 (put8 m a (mixw (2 ^ s - 1) (wordAt m a) (rot s v))) (a + 8) (mixw (2 ^ s - 1) (rot s v) (wordAt m (a + 8)))
theorem putw_length (m : List Nat) (a s v : Nat) : (putw m a s v).length = m.length := by unfold putw; split <;> simp [put8_length]
theorem putw_small {m : List Nat} (h : Small m) (a s v : Nat) (hv : v < 18446744073709551616) : Small (putw m a s v) := by
  unfold putw
  split
  · exact put8_small h _ _ hv
  · exact put8_small (put8_small h _ _ (mixw_lt _ _ _ (wordAt_lt h _) (rot_lt _ _ hv))) _ _ (mixw_lt _ _ _ (rot_lt _ _ hv) (wordAt_lt h _))
theorem bitAt_putw {m : List Nat} (h : Small m) (a s v i : Nat) (hs : s < 8) (hv : v < 18446744073709551616) (ha : a + 8 ≤ m.length) (ha2 : s ≠ 0 → a + 16 ≤ m.length) :
    bitAt (putw m a s v) i = if 8 * a + s ≤ i ∧ i < 8 * a + s + 64 then v.testBit (i - (8 * a + s)) else bitAt m i := by
  unfold putw
  by_cases h0 : s = 0
  · subst h0
    rw [if_pos rfl, bitAt_put8 _ _ _ _ hv ha]
    rfl
  · have h16 := ha2 h0
    have l1 := mixw_lt (2 ^ s - 1) (wordAt m a) (rot s v) (wordAt_lt h _) (rot_lt _ _ hv)
    have l2 := mixw_lt (2 ^ s - 1) (rot s v) (wordAt m (a + 8)) (rot_lt _ _ hv) (wordAt_lt h _)
    rw [if_neg h0, bitAt_put8 _ _ _ _ l2 (by rw [put8_length]; omega), bitAt_put8 _ _ _ _ l1 ha]
    by_cases c1 : 8 * (a + 8) ≤ i ∧ i < 8 * (a + 8) + 64
    · rw [if_pos c1, mixw_tb s _ _ _ hs (by omega)]
      by_cases c2 : i - 8 * (a + 8) < s
      · rw [if_pos c2, rot_tb s v _ hs h0 hv (by omega), if_pos c2, if_pos (by omega)]
        congr 1; omega
      · rw [if_neg c2, wordAt_tb h (a + 8) _ (by omega) (by omega), if_neg (by omega)]
        congr 1; omega
    · rw [if_neg c1]
      by_cases c2 : 8 * a ≤ i ∧ i < 8 * a + 64
      · rw [if_pos c2, mixw_tb s _ _ _ hs (by omega)]
        by_cases c3 : i - 8 * a < s
        · rw [if_pos c3, wordAt_tb h a _ (by omega) ha, if_neg (by omega)]
          congr 1; omega
        · rw [if_neg c3, rot_tb s v _ hs h0 hv (by omega), if_neg c3, if_pos (by omega)]
          congr 1; omega
      · rw [if_neg c2, if_neg (by omega)]
/-- the word that is remembered is the one that stands there next. -/
theorem putw_next {m : List Nat} (h : Small m) (a s v : Nat) (h0 : s ≠ 0) (hv : v < 18446744073709551616) (ha : a + 16 ≤ m.length) : wordAt (putw m a s v) (a + 8) = mixw (2 ^ s - 1) (rot s v) (wordAt m (a + 8)) := by
  have l2 := mixw_lt (2 ^ s - 1) (rot s v) (wordAt m (a + 8)) (rot_lt _ _ hv) (wordAt_lt h _)
  have hsm := putw_small h a s v hv
  apply Nat.eq_of_testBit_eq
  intro j
  by_cases hj : j < 64
  · rw [wordAt_tb hsm _ _ hj (by rw [putw_length]; omega)]
    unfold putw
    rw [if_neg h0, bitAt_put8 _ _ _ _ l2 (by rw [put8_length]; omega), if_pos (by omega)]
    congr 1; omega
  · have big : ∀ x, x < 18446744073709551616 → x.testBit j = false := fun x hx => Nat.testBit_lt_two_pow (Nat.lt_of_lt_of_le (show x < 2 ^ 64 from hx) (Nat.pow_le_pow_right (by decide) (by omega)))
    rw [big _ (wordAt_lt hsm _), big _ l2]
theorem rot_bits (s v : Nat) (hv : v < 18446744073709551616) : bits .or .u64 (IntKind.u64.wrap ((v : Int) * 2 ^ s)) ((v : Int) / 2 ^ (64 - s)) = ((rot s v : Nat) : Int) := by
  have e1 : (v : Int) / 2 ^ (64 - s) = ((v / 2 ^ (64 - s) : Nat) : Int) := by simp
  have e2 : (v : Int) * 2 ^ s = ((v * 2 ^ s : Nat) : Int) := by simp
  have h1 : v / 2 ^ (64 - s) < 18446744073709551616 := Nat.lt_of_le_of_lt (Nat.div_le_self _ _) hv
  rw [e1, e2, wrap64, u64_or_nat _ _ (Nat.mod_lt _ (by decide)) h1]
  rfl
theorem mix_bits (mk x y : Nat) (hm : mk < 18446744073709551616) (hx : x < 18446744073709551616) (hy : y < 18446744073709551616) : bits .or .u64 (bits .and .u64 (x : Int) (mk : Int)) (bits .andNot .u64 (y : Int) (mk : Int)) = ((mixw mk x y : Nat) : Int) := by
  rw [u64_and_nat x mk hx hm, u64_andNot_nat y mk hy hm, u64_or_nat _ _ (Nat.lt_of_le_of_lt Nat.and_le_left hx) (Nat.lt_of_le_of_lt Nat.and_le_left hy)]
  rfl
theorem mix_bits' (mk x y : Nat) (hm : mk < 18446744073709551616) (hx : x < 18446744073709551616) (hy : y < 18446744073709551616) : bits .or .u64 (bits .andNot .u64 (y : Int) (mk : Int)) (bits .and .u64 (x : Int) (mk : Int)) = ((mixw mk x y : Nat) : Int) := by
  rw [u64_and_nat x mk hx hm, u64_andNot_nat y mk hy hm, u64_or_nat _ _ (Nat.lt_of_le_of_lt Nat.and_le_left hy) (Nat.lt_of_le_of_lt Nat.and_le_left hx)]
  unfold mixw
  rw [Nat.or_comm]
end Go.Proofs.YtcjjajbpjfamfaaDoor
