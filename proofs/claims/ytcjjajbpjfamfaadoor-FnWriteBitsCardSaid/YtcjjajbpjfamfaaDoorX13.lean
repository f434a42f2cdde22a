/- The word writer: a byte behind the last word: plain facts. (YtcjjajbpjfamfaaDoor) -/
import Derived.Test.YtcjjajbpjfamfaaDoorX12
set_option linter.unusedVariables false
set_option linter.unusedSimpArgs false
namespace Go.Proofs.YtcjjajbpjfamfaaDoor
open Go.ChangeShapes Go.WideShapes Go.ChangeAt Go.RowKit
def rotb (s v : Nat) : Nat := v * 2 ^ s % 256 ||| v / 2 ^ (8 - s)
def mixb (mk x y : Nat) : Nat := (x &&& mk) ||| (y &&& (255 - mk))
theorem rotb_lt (s v : Nat) (hv : v < 256) : rotb s v < 256 := Nat.or_lt_two_pow (n := 8) (Nat.mod_lt _ (by decide)) (Nat.lt_of_le_of_lt (Nat.div_le_self _ _) hv)
theorem mixb_lt (mk x y : Nat) (hx : x < 256) (hy : y < 256) : mixb mk x y < 256 :=
  Nat.or_lt_two_pow (n := 8) (Nat.lt_of_le_of_lt Nat.and_le_left hx) (Nat.lt_of_le_of_lt Nat.and_le_left hy)
theorem rotb_tb (s v j : Nat) (hs : s < 8) (h0 : s ≠ 0) (hv : v < 256) (hj : j < 8) : (rotb s v).testBit j = if j < s then v.testBit (8 - s + j) else v.testBit (j - s) := by
  have h8 : (256 : Nat) = 2 ^ 8 := by decide
  unfold rotb
  rw [Nat.testBit_or, h8, Nat.testBit_mod_two_pow, decide_eq_true hj, Bool.true_and, Nat.testBit_mul_two_pow, Nat.testBit_div_two_pow]
  by_cases c : j < s
  · rw [if_pos c]
    have : ¬ s ≤ j := by omega
    have e : j + (8 - s) = 8 - s + j := by omega
    simp [this, e]
  · rw [if_neg c, testBit_big hv (show 8 ≤ j + (8 - s) by omega)]
    have : s ≤ j := by omega
    simp [this]
theorem mixb_tb (s x y j : Nat) (hs : s < 8) (hj : j < 8) : (mixb (2 ^ s - 1) x y).testBit j = if j < s then x.testBit j else y.testBit j := by
  unfold mixb
  have hp := pow_lt8 hs
  rw [Nat.testBit_or, Nat.testBit_and, Nat.testBit_and, tb_not8 _ _ (by omega) hj, Nat.testBit_two_pow_sub_one]
  by_cases c : j < s <;> simp [c]
def putb (m : List Nat) (a s v : Nat) : List Nat := if s = 0 then m.set a v else (m.set a (mixb (2 ^ s - 1) (m.getD a 0) (rotb s v))).set (a + 1) (mixb (2 ^ s - 1) (rotb s v) (m.getD (a + 1) 0))
theorem putb_chg {m : List Nat} (h : Small m) (a s v : Nat) (hs : s < 8) (hv : v < 256) (ha : a < m.length) (ha2 : s ≠ 0 → a + 2 ≤ m.length) : putb m a s v = chgN m (8 * a + s) (bitsOf v 8) 8 := by
  have hk : 8 * a + s + 8 ≤ 8 * m.length := by
    by_cases h0 : s = 0
    · omega
    · have := ha2 h0; omega
  have hsm : Small (putb m a s v) := by
    unfold putb
    split
    · exact h.set _ _ hv
    · exact (h.set _ _ (mixb_lt _ _ _ (h.get _) (rotb_lt _ _ hv))).set _ _ (mixb_lt _ _ _ (rotb_lt _ _ hv) (h.get _))
  have hlen : (putb m a s v).length = m.length := by unfold putb; split <;> simp
  apply bytes_ext (by rw [hlen, chgN_length]) hsm (chgN_small h _ _ _)
  intro i hi
  rw [bitAt_chgN h _ _ _ hk]
  unfold putb
  by_cases h0 : s = 0
  · subst h0
    rw [if_pos rfl, bitAt_set _ _ _ _ ha]
    by_cases c : i / 8 = a
    · rw [if_pos c, if_pos (by omega), bitsOf_get _ _ _ (by omega)]
      congr 1; omega
    · rw [if_neg c, if_neg (by omega)]
  · have h2 := ha2 h0
    rw [if_neg h0, bitAt_set _ _ _ _ (by simp; omega), bitAt_set _ _ _ _ ha]
    by_cases c1 : i / 8 = a + 1
    · rw [if_pos c1, mixb_tb s _ _ _ hs (by omega)]
      by_cases c2 : i % 8 < s
      · rw [if_pos c2, rotb_tb s v _ hs h0 hv (by omega), if_pos c2, if_pos (by omega), bitsOf_get _ _ _ (by omega)]
        congr 1; omega
      · rw [if_neg c2, if_neg (by omega)]
        unfold bitAt; rw [c1]
    · rw [if_neg c1]
      by_cases c2 : i / 8 = a
      · rw [if_pos c2, mixb_tb s _ _ _ hs (by omega)]
        by_cases c3 : i % 8 < s
        · rw [if_pos c3, if_neg (by omega)]
          unfold bitAt; rw [c2]
        · rw [if_neg c3, rotb_tb s v _ hs h0 hv (by omega), if_neg c3, if_pos (by omega), bitsOf_get _ _ _ (by omega)]
          congr 1; omega
      · rw [if_neg c2, if_neg (by omega)]
theorem putb_next {m : List Nat} (a s v : Nat) (h0 : s ≠ 0) (ha : a + 2 ≤ m.length) : (putb m a s v).getD (a + 1) 0 = mixb (2 ^ s - 1) (rotb s v) (m.getD (a + 1) 0) := by
  unfold putb
  rw [if_neg h0, getD_set _ _ _ _ (by simp; omega), if_pos rfl]
theorem rotb_bits (s v : Nat) (hv : v < 256) : bits .or .u8 (IntKind.u8.wrap ((v : Int) * 2 ^ s)) ((v : Int) / 2 ^ (8 - s)) = ((rotb s v : Nat) : Int) := by
  have e1 : (v : Int) / 2 ^ (8 - s) = ((v / 2 ^ (8 - s) : Nat) : Int) := by simp
  have e2 : (v : Int) * 2 ^ s = ((v * 2 ^ s : Nat) : Int) := by simp
  have h1 : v / 2 ^ (8 - s) < 256 := Nat.lt_of_le_of_lt (Nat.div_le_self _ _) hv
  rw [e1, e2, wrap8, u8_or_nat _ _ (Nat.mod_lt _ (by decide)) h1]
  rfl
theorem mixb_bits (mk x y : Nat) (hm : mk < 256) (hx : x < 256) (hy : y < 256) : bits .or .u8 (bits .and .u8 (x : Int) (mk : Int)) (bits .andNot .u8 (y : Int) (mk : Int)) = ((mixb mk x y : Nat) : Int) := by
  rw [u8_and_nat x mk hx hm, u8_andNot_nat y mk hy hm, u8_or_nat _ _ (Nat.lt_of_le_of_lt Nat.and_le_left hx) (Nat.lt_of_le_of_lt Nat.and_le_left hy)]
  rfl
theorem mixb_bits' (mk x y : Nat) (hm : mk < 256) (hx : x < 256) (hy : y < 256) : bits .or .u8 (bits .andNot .u8 (y : Int) (mk : Int)) (bits .and .u8 (x : Int) (mk : Int)) = ((mixb mk x y : Nat) : Int) := by
  rw [u8_and_nat x mk hx hm, u8_andNot_nat y mk hy hm, u8_or_nat _ _ (Nat.lt_of_le_of_lt Nat.and_le_left hy) (Nat.lt_of_le_of_lt Nat.and_le_left hx)]
  unfold mixb
  rw [Nat.or_comm]
end Go.Proofs.YtcjjajbpjfamfaaDoor
