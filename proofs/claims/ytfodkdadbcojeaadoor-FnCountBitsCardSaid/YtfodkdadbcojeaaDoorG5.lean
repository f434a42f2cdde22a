/- Bits that a function gives, eight at once: plain facts. -/
import Derived.Test.YtfodkdadbcojeaaDoorG4
set_option linter.unusedVariables false
set_option linter.unusedSimpArgs false
namespace Go.Proofs.YtfodkdadbcojeaaDoor
open Go.RowKit
/-- the first byte, while it is filled -/
def gcb (d : List Nat) (f : Nat) (l : List Bool) (k : Nat) : Nat := (chgN d f l k).getD (f / 8) 0 % 2 ^ (f % 8 + k)
theorem gcb_eq (d : List Nat) (f : Nat) (l : List Bool) (k : Nat) (h : f % 8 + k < 8) : gcb d f l k = gcur d f l k := by
  unfold gcb gcur
  have a1 : (f + k) / 8 = f / 8 := by omega
  have a2 : (f + k) % 8 = f % 8 + k := by omega
  rw [a1, a2]
theorem gcb_lt {d : List Nat} (hs : Small d) (f : Nat) (l : List Bool) (k : Nat) : gcb d f l k < 256 := Nat.lt_of_le_of_lt (Nat.mod_le _ _) ((chgN_small hs f l k).get _)
theorem gcb_next {d : List Nat} (hs : Small d) (f : Nat) (l : List Bool) (k : Nat) (h : f % 8 + k < 8) (hk : f + k < 8 * d.length) : gcb d f l (k + 1) = if l.getD k false then gcb d f l k ||| 2 ^ (f % 8 + k) else gcb d f l k := by
  have a1 : (f + k) / 8 = f / 8 := by omega
  have a2 : (f + k) % 8 = f % 8 + k := by omega
  have e : gnext d f l k = if l.getD k false then gcb d f l k ||| 2 ^ (f % 8 + k) else gcb d f l k := by
    unfold gnext; rw [gcb_eq _ _ _ _ h, a2]
  rw [← e]
  apply byte_ext (gcb_lt hs _ _ _) (gnext_lt8 _ _ _ _)
  intro j hj
  rw [tb_gnext hs f l k hk j hj]
  unfold gcb
  rw [Nat.testBit_mod_two_pow, a1, a2]
  unfold bitAt
  have e1 : (8 * (f / 8) + j) / 8 = f / 8 := by omega
  have e2 : (8 * (f / 8) + j) % 8 = j := by omega
  rw [e1, e2]
  congr 1
  rw [decide_eq_decide]; omega
theorem gmem_first {d : List Nat} (hs : Small d) (f : Nat) (l : List Bool) (k : Nat) (h : (f + k) / 8 = f / 8) (hk : f + k ≤ 8 * d.length) : gmem d f l k = d := by
  apply bytes_ext (gmem_length _ _ _ _ (by omega)) (gmem_small hs _ _ _) hs
  intro i hi
  rw [bitAt_gmem _ _ _ _ _ (by omega)]
  split
  · rw [bitAt_chgN hs f l k hk, if_neg (by omega)]
  · rfl
/-- memory when the first byte has been written -/
def gone (d : List Nat) (f : Nat) (l : List Bool) (k : Nat) : List Nat := if (f + k) % 8 = 0 then gmem d f l k else gfin d f l
theorem gone_first {d : List Nat} (hs : Small d) (f : Nat) (l : List Bool) (k : Nat) (hk0 : 0 < k) (hf : f % 8 ≠ 0) (h : f % 8 + k ≤ 8) (hk : f + k ≤ 8 * d.length) (he : f % 8 + k = 8 ∨ k = l.length) : d.set (f / 8) (gcb d f l k) = gone d f l k := by
  unfold gone
  by_cases h8 : f % 8 + k = 8
  · obtain ⟨k, rfl⟩ : ∃ m, k = m + 1 := ⟨k - 1, by omega⟩
    rw [if_pos (by omega), (gstep_out hs f l k (by omega) (by omega)).2, gmem_first hs f l k (by omega) (by omega), gcb_next hs f l k (by omega) (by omega)]
    have a1 : (f + k) / 8 = f / 8 := by omega
    have a2 : (f + k) % 8 = f % 8 + k := by omega
    unfold gnext
    rw [a1, a2, gcb_eq _ _ _ _ (by omega)]
  · have hl : k = l.length := by omega
    rw [if_neg (by omega)]
    unfold gfin
    rw [← hl, if_neg (by omega), gmem_first hs f l k (by omega) hk, gcb_eq _ _ _ _ (by omega)]
    have a1 : (f + k) / 8 = f / 8 := by omega
    rw [a1]
/-- eight bits as a byte -/
def bit01 (b : Bool) : Nat := if b then 1 else 0
def eight (o : List Nat) : Nat := ((((((o.getD 0 0 ||| o.getD 1 0 * 2) ||| o.getD 2 0 * 4) ||| o.getD 3 0 * 8) ||| o.getD 4 0 * 16) ||| o.getD 5 0 * 32) ||| o.getD 6 0 * 64) ||| o.getD 7 0 * 128
theorem tb_shift (b : Bool) (k j : Nat) : (bit01 b * 2 ^ k).testBit j = (b && decide (k = j)) := by
  cases b
  · simp [bit01]
  · simp [bit01, tb_pow]
theorem eight_bits (l : List Bool) (k : Nat) (o : List Nat) (ho : ∀ j, j < 8 → o.getD j 0 = bit01 (l.getD (k + j) false)) (j : Nat) (hj : j < 8) : (eight o).testBit j = l.getD (k + j) false := by
  unfold eight
  have h0 := tb_shift (l.getD (k + 0) false) 0 j
  have h1 := tb_shift (l.getD (k + 1) false) 1 j
  have h2 := tb_shift (l.getD (k + 2) false) 2 j
  have h3 := tb_shift (l.getD (k + 3) false) 3 j
  have h4 := tb_shift (l.getD (k + 4) false) 4 j
  have h5 := tb_shift (l.getD (k + 5) false) 5 j
  have h6 := tb_shift (l.getD (k + 6) false) 6 j
  have h7 := tb_shift (l.getD (k + 7) false) 7 j
  simp only [Nat.reducePow, Nat.mul_one] at h0 h1 h2 h3 h4 h5 h6 h7
  rw [ho 0 (by omega), ho 1 (by omega), ho 2 (by omega), ho 3 (by omega), ho 4 (by omega), ho 5 (by omega), ho 6 (by omega), ho 7 (by omega)]
  simp only [Nat.testBit_or, h0, h1, h2, h3, h4, h5, h6, h7]
  have : j = 0 ∨ j = 1 ∨ j = 2 ∨ j = 3 ∨ j = 4 ∨ j = 5 ∨ j = 6 ∨ j = 7 := by omega
  rcases this with rfl | rfl | rfl | rfl | rfl | rfl | rfl | rfl <;> simp
theorem eight_lt (l : List Bool) (k : Nat) (o : List Nat) (ho : ∀ j, j < 8 → o.getD j 0 = bit01 (l.getD (k + j) false)) : eight o < 256 := by
  have hb : ∀ b, bit01 b ≤ 1 := fun b => by cases b <;> decide
  have h : ∀ j, j < 8 → o.getD j 0 ≤ 1 := fun j hj => by rw [ho j hj]; exact hb _
  have g0 := h 0 (by omega)
  have g1 := h 1 (by omega)
  have g2 := h 2 (by omega)
  have g3 := h 3 (by omega)
  have g4 := h 4 (by omega)
  have g5 := h 5 (by omega)
  have g6 := h 6 (by omega)
  have g7 := h 7 (by omega)
  unfold eight
  exact or_lt8 (or_lt8 (or_lt8 (or_lt8 (or_lt8 (or_lt8 (or_lt8 (by omega) (by omega)) (by omega)) (by omega)) (by omega)) (by omega)) (by omega)) (by omega)
theorem gmem_eight {d : List Nat} (hs : Small d) (f : Nat) (l : List Bool) (k : Nat) (o : List Nat) (h8 : (f + k) % 8 = 0) (hk : f + k + 8 ≤ 8 * d.length) (ho : ∀ j, j < 8 → o.getD j 0 = bit01 (l.getD (k + j) false)) :
    (gmem d f l k).set ((f + k) / 8) (eight o) = gmem d f l (k + 8) := by
  have hl := gmem_length d f l k (by omega)
  have a1 : (f + (k + 8)) / 8 = (f + k) / 8 + 1 := by omega
  apply bytes_ext (by rw [List.length_set, hl, gmem_length _ _ _ _ (by omega)]) ((gmem_small hs _ _ _).set _ _ (eight_lt l k o ho)) (gmem_small hs _ _ _)
  intro i hi
  rw [bitAt_set _ _ _ _ (by rw [hl]; omega), bitAt_gmem _ _ _ _ _ (by omega), bitAt_gmem _ _ _ _ _ (by omega), a1]
  by_cases c : i / 8 = (f + k) / 8
  · rw [if_pos c, if_pos (by omega), eight_bits l k o ho _ (by omega), bitAt_chgN hs f l (k + 8) (by omega), if_pos (by omega)]
    congr 1; omega
  · rw [if_neg c]
    by_cases c1 : i / 8 < (f + k) / 8
    · rw [if_pos c1, if_pos (by omega), bitAt_chgN hs f l (k + 8) (by omega), bitAt_chgN hs f l k (by omega)]
      by_cases c2 : f ≤ i ∧ i < f + k
      · rw [if_pos c2, if_pos (by omega)]
      · rw [if_neg c2, if_neg (by omega)]
    · rw [if_neg c1, if_neg (by omega)]
theorem gcur_zero (d : List Nat) (f : Nat) (l : List Bool) (k : Nat) (h : (f + k) % 8 = 0) : gcur d f l k = 0 := by
  unfold gcur; rw [h]; simp [Nat.mod_one]
end Go.Proofs.YtfodkdadbcojeaaDoor
