/- Bits of lists of bytes: plain facts, no program in sight. -/
import Derived.Test.YtconkcjcjdmidaaGreatDoorL2
set_option linter.unusedVariables false
set_option linter.unusedSimpArgs false
namespace Go.Proofs.YtconkcjcjdmidaaGreatDoor
open Go.RowKit

def bitAt (l : List Nat) (i : Nat) : Bool := (l.getD (i / 8) 0).testBit (i % 8)
def Small (l : List Nat) : Prop := ∀ x ∈ l, x < 256
theorem Small.get {l : List Nat} (h : Small l) (i : Nat) : l.getD i 0 < 256 := by
  rcases Nat.lt_or_ge i l.length with hi | hi
  · rw [List.getD_eq_getElem?_getD, List.getElem?_eq_getElem hi]; exact h _ (List.getElem_mem hi)
  · rw [List.getD_eq_getElem?_getD, List.getElem?_eq_none hi]; decide
theorem Small.set {l : List Nat} (h : Small l) (i x : Nat) (hx : x < 256) : Small (l.set i x) := by
  intro y hy
  rcases List.mem_or_eq_of_mem_set hy with h1 | h1
  · exact h y h1
  · omega
theorem Small.append {l m : List Nat} (h : Small l) (k : Small m) : Small (l ++ m) := by
  intro y hy; rcases List.mem_append.1 hy with h1 | h1; exact h y h1; exact k y h1
theorem getD_set (l : List Nat) (i j x : Nat) (hi : i < l.length) : (l.set i x).getD j 0 = if j = i then x else l.getD j 0 := by
  simp only [List.getD_eq_getElem?_getD, List.getElem?_set]
  by_cases h : i = j
  · subst h; simp [hi]
  · rw [if_neg h, if_neg (fun e => h e.symm)]
theorem bitAt_set (l : List Nat) (j x i : Nat) (hj : j < l.length) : bitAt (l.set j x) i = if i / 8 = j then x.testBit (i % 8) else bitAt l i := by
  unfold bitAt
  rw [getD_set _ _ _ _ hj]
  split <;> rfl
theorem testBit_big {x k : Nat} (hx : x < 256) (hk : 8 ≤ k) : x.testBit k = false := by
  apply Nat.testBit_lt_two_pow
  exact Nat.lt_of_lt_of_le hx (show 256 ≤ 2 ^ k from Nat.pow_le_pow_right (n := 2) (by decide) hk)
theorem byte_ext {x y : Nat} (hx : x < 256) (hy : y < 256) (h : ∀ k, k < 8 → x.testBit k = y.testBit k) : x = y := by
  apply Nat.eq_of_testBit_eq
  intro k
  rcases Nat.lt_or_ge k 8 with hk | hk
  · exact h k hk
  · rw [testBit_big hx hk, testBit_big hy hk]
theorem bytes_ext {l m : List Nat} (hlen : l.length = m.length) (hl : Small l) (hm : Small m) (h : ∀ i, i < 8 * l.length → bitAt l i = bitAt m i) : l = m := by
  apply List.ext_getElem hlen
  intro i h1 h2
  have e1 : l[i] = l.getD i 0 := by simp [List.getD_eq_getElem?_getD, List.getElem?_eq_getElem h1]
  have e2 : m[i] = m.getD i 0 := by simp [List.getD_eq_getElem?_getD, List.getElem?_eq_getElem h2]
  rw [e1, e2]
  apply byte_ext (hl.get i) (hm.get i)
  intro k hk
  have := h (8 * i + k) (by omega)
  unfold bitAt at this
  have a1 : (8 * i + k) / 8 = i := by omega
  have a2 : (8 * i + k) % 8 = k := by omega
  rwa [a1, a2] at this

/-! ### bytes: Go's operations, in the walk's own forms -/
theorem pow_lt8 {k : Nat} (hk : k < 8) : 2 ^ k < 256 := by
  have : 2 ^ k < 2 ^ 8 := Nat.pow_lt_pow_right (by decide) hk
  simpa using this
theorem tb_pow (k j : Nat) : (2 ^ k).testBit j = decide (k = j) := Nat.testBit_two_pow
theorem and_lt8 {x : Nat} (hx : x < 256) (y : Nat) : x &&& y < 256 := Nat.lt_of_le_of_lt Nat.and_le_left hx
theorem or_lt8 {x y : Nat} (hx : x < 256) (hy : y < 256) : x ||| y < 256 := Nat.or_lt_two_pow (n := 8) hx hy
theorem xor_lt8 {x y : Nat} (hx : x < 256) (hy : y < 256) : x ^^^ y < 256 := Nat.xor_lt_two_pow (n := 8) hx hy
theorem tb_not8 (m j : Nat) (hm : m < 256) (hj : j < 8) : (255 - m).testBit j = !m.testBit j := by
  have := Nat.testBit_two_pow_sub_succ (n := 8) (x := m) hm j
  have e : 2 ^ 8 - (m + 1) = 255 - m := by omega
  rw [e] at this
  rw [this]; simp [hj]
/-- '(x >> k) & 1 == 1' asks for the bit k. -/
theorem and1_tb (x k : Nat) (hx : x < 256) : (bits .and .u8 ((x : Int) / 2 ^ k) 1 == 1) = x.testBit k := by
  have e : ((x : Int) / 2 ^ k) = ((x / 2 ^ k : Nat) : Int) := by simp
  have hlt : x / 2 ^ k < 256 := Nat.lt_of_le_of_lt (Nat.div_le_self _ _) hx
  have h := u8_and_nat (x / 2 ^ k) 1 hlt (by decide)
  rw [e]
  have h' : bits .and .u8 ((x / 2 ^ k : Nat) : Int) 1 = ((x / 2 ^ k &&& 1 : Nat) : Int) := h
  rw [h', Nat.and_one_is_mod, Nat.testBit_eq_decide_div_mod_eq]
  have := Nat.mod_two_eq_zero_or_one (x / 2 ^ k)
  rcases this with h0 | h0 <;> simp [h0]
/-- 'x &^ (1 << k)', 'x | (1 << k)' as the walk writes them. -/
theorem andNot_pow (x k : Nat) (hx : x < 256) (hk : k < 8) : bits .andNot .u8 (x : Int) (2 ^ k % 256) = ((x &&& (255 - 2 ^ k) : Nat) : Int) := by
  have e : ((2 : Int) ^ k % 256) = ((2 ^ k : Nat) : Int) := by
    have h1 := pow_lt8 hk
    have h2 : ((2 ^ k : Nat) : Int) = (2 : Int) ^ k := by simp
    rw [← h2]
    generalize 2 ^ k = m at h1
    omega
  rw [e, u8_andNot_nat x (2 ^ k) hx (pow_lt8 hk)]
theorem or_pow (x k : Nat) (hx : x < 256) (hk : k < 8) : bits .or .u8 (x : Int) (2 ^ k % 256) = ((x ||| 2 ^ k : Nat) : Int) := by
  have e : ((2 : Int) ^ k % 256) = ((2 ^ k : Nat) : Int) := by
    have h1 := pow_lt8 hk
    have h2 : ((2 ^ k : Nat) : Int) = (2 : Int) ^ k := by simp
    rw [← h2]
    generalize 2 ^ k = m at h1
    omega
  rw [e, u8_or_nat x (2 ^ k) hx (pow_lt8 hk)]
def setBit (d : List Nat) (i : Nat) (b : Bool) : List Nat :=
  d.set (i / 8) (if b then (d.getD (i / 8) 0 &&& (255 - 2 ^ (i % 8))) ||| 2 ^ (i % 8) else d.getD (i / 8) 0 &&& (255 - 2 ^ (i % 8)))
theorem setBit_length (d : List Nat) (i : Nat) (b : Bool) : (setBit d i b).length = d.length := by simp [setBit]
theorem setBit_small {d : List Nat} (h : Small d) (i : Nat) (b : Bool) : Small (setBit d i b) := by
  have h1 := and_lt8 (h.get (i / 8)) (255 - 2 ^ (i % 8))
  refine h.set _ _ ?_
  split
  · exact or_lt8 h1 (pow_lt8 (by omega))
  · exact h1
theorem bitAt_setBit {d : List Nat} (h : Small d) {i : Nat} (hi : i < 8 * d.length) (b : Bool) (j : Nat) : bitAt (setBit d i b) j = if j = i then b else bitAt d j := by
  unfold setBit
  rw [bitAt_set _ _ _ _ (by omega)]
  have hm := pow_lt8 (show i % 8 < 8 by omega)
  by_cases hj : j / 8 = i / 8
  · rw [if_pos hj]
    have tn : (255 - 2 ^ (i % 8)).testBit (j % 8) = !(2 ^ (i % 8)).testBit (j % 8) := tb_not8 _ _ hm (by omega)
    by_cases e : j = i
    · subst e
      rw [if_pos rfl]
      cases b <;> simp [Nat.testBit_and, Nat.testBit_or, tn, tb_pow]
    · rw [if_neg e]
      have hne : ¬ i % 8 = j % 8 := by omega
      unfold bitAt
      rw [hj]
      cases b <;> simp [Nat.testBit_and, Nat.testBit_or, tn, tb_pow, hne]
  · rw [if_neg hj, if_neg (by rintro rfl; exact hj rfl)]
/-- bytes in which bits from a place on are others: after k of them. -/
def chgN (d : List Nat) (at_ : Nat) (l : List Bool) : Nat → List Nat
  | 0 => d
  | k + 1 => setBit (chgN d at_ l k) (at_ + k) (l.getD k false)
theorem chgN_length (d : List Nat) (at_ : Nat) (l : List Bool) (k : Nat) : (chgN d at_ l k).length = d.length := by
  induction k with
  | zero => rfl
  | succ k ih => rw [chgN, setBit_length, ih]
theorem chgN_small {d : List Nat} (h : Small d) (at_ : Nat) (l : List Bool) (k : Nat) : Small (chgN d at_ l k) := by
  induction k with
  | zero => exact h
  | succ k ih => exact setBit_small ih _ _
theorem bitAt_chgN {d : List Nat} (h : Small d) (at_ : Nat) (l : List Bool) (k : Nat) (hk : at_ + k ≤ 8 * d.length) (j : Nat) :
    bitAt (chgN d at_ l k) j = if at_ ≤ j ∧ j < at_ + k then l.getD (j - at_) false else bitAt d j := by
  induction k with
  | zero => rw [if_neg (by omega)]; rfl
  | succ k ih =>
    rw [chgN, bitAt_setBit (chgN_small h at_ l k) (by rw [chgN_length]; omega), ih (by omega)]
    by_cases e : j = at_ + k
    · subst e
      rw [if_pos rfl, if_pos (by omega)]
      congr 1; omega
    · rw [if_neg e]
      by_cases h2 : at_ ≤ j ∧ j < at_ + k
      · rw [if_pos h2, if_pos (by omega)]
      · rw [if_neg h2, if_neg (by omega)]
end Go.Proofs.YtconkcjcjdmidaaGreatDoor
