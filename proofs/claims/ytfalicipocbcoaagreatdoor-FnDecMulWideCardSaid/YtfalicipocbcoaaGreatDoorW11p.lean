/- Exact integers: words of two's complement, the plain law. (YtfalicipocbcoaaGreatDoor) -/
import Derived.Test.YtfalicipocbcoaaGreatDoorW10
set_option linter.unusedVariables false
set_option linter.unusedSimpArgs false
namespace Go.Proofs.YtfalicipocbcoaaGreatDoor
open Go.RowKit Go.ChangeShapes Go.WideShapes Go.ChangeAt
def fitB (z : Int) (n : Nat) : Bool := decide (z < 2 ^ (64 * n - 1)) && decide (-(2 ^ (64 * n - 1)) ≤ z)
/-- the words of an integer in two's complement. -/
def twos (z : Int) (n : Nat) : List Int := (List.range n).map fun i => z / 2 ^ (64 * i) % 18446744073709551616
def wdd (l : List Int) (j : Nat) : Nat → Int
  | 0 => 0
  | 1 => l.getD (2 * j) 0
  | _ => l.getD (2 * j) 0 + 4294967296 * l.getD (2 * j + 1) 0
def prt (l : List Int) (n i k : Nat) : List Int := (List.range n).map fun j => if j < i then wdd l j 2 else if j = i then wdd l i k else 0
theorem prt_length (l : List Int) (n i k : Nat) : (prt l n i k).length = n := by simp [prt]
theorem prt_get (l : List Int) (n i k j : Nat) (h : j < n) : (prt l n i k).getD j 0 = if j < i then wdd l j 2 else if j = i then wdd l i k else 0 := by
  simp [prt, List.getD_eq_getElem?_getD, h]
theorem getD_ext {a b : List Int} (hl : a.length = b.length) (h : ∀ j, j < a.length → a.getD j 0 = b.getD j 0) : a = b := by
  apply List.ext_getElem hl
  intro i h1 h2
  have := h i h1
  simpa [List.getD_eq_getElem?_getD, List.getElem?_eq_getElem h1, List.getElem?_eq_getElem h2] using this
theorem prt_set (l : List Int) (n i k : Nat) (h : i < n) : (prt l n i k).set i (wdd l i (k + 1)) = prt l n i (k + 1) := by
  apply getD_ext (by simp [prt_length])
  intro j hj
  simp [prt_length] at hj
  rw [set_getD _ _ _ _ (by rw [prt_length]; exact h), prt_get _ _ _ _ _ hj, prt_get _ _ _ _ _ hj]
  by_cases e : j = i
  · subst e; simp
  · rw [if_neg e, if_neg e, if_neg e]
theorem prt_same (l : List Int) (n i k : Nat) (h : wdd l i (k + 1) = wdd l i k) : prt l n i (k + 1) = prt l n i k := by
  unfold prt; rw [h]
theorem prt_next (l : List Int) (n i : Nat) : prt l n i 2 = prt l n (i + 1) 0 := by
  unfold prt
  apply List.map_congr_left
  intro j hj
  by_cases h1 : j < i
  · rw [if_pos h1, if_pos (by omega)]
  · rw [if_neg h1]
    by_cases h2 : j = i
    · subst h2; simp
    · rw [if_neg h2, if_neg (by omega)]
      split <;> rfl
theorem prt_start (l : List Int) (n : Nat) : prt l n 0 0 = List.replicate n 0 := by
  apply getD_ext (by simp [prt_length])
  intro j hj
  simp [prt_length] at hj
  rw [prt_get _ _ _ _ _ hj]
  simp [List.getD_eq_getElem?_getD, hj]
  intro _; rfl
theorem wdd_val {l : List Int} (h : Sm l) (j : Nat) : wdd l j 2 = dv l / 2 ^ (64 * j) % 18446744073709551616 := by
  show l.getD (2 * j) 0 + 4294967296 * l.getD (2 * j + 1) 0 = _
  have e1 : ∀ k (m : List Int), dv (m.drop k) = m.getD k 0 + 4294967296 * dv (m.drop (k + 1)) := by
    intro k m
    by_cases h2 : k < m.length
    · rw [drop_get h2]; rfl
    · rw [List.drop_eq_nil_iff.2 (by omega), List.drop_eq_nil_iff.2 (by omega), List.getD_eq_getElem?_getD, List.getElem?_eq_none (by omega)]; rfl
  have e2 : dv l / bp (2 * j) = dv (l.drop (2 * j)) := by
    have h4 := bp_pos (2 * j)
    by_cases hl : 2 * j ≤ l.length
    · have h1 := dv_take_drop l (2 * j) hl
      have h2 := dv_lt (sm_take h (2 * j))
      have h3 := dv_nn (sm_take h (2 * j))
      rw [take_len l _ hl] at h2
      rw [h1, Int.add_mul_ediv_left _ _ (by omega), Int.ediv_eq_zero_of_lt h3 h2, Int.zero_add]
    · rw [List.drop_eq_nil_iff.2 (by omega)]
      have h2 := dv_lt h
      have h3 := dv_nn h
      have h5 := bp_le (show l.length ≤ 2 * j by omega)
      rw [Int.ediv_eq_zero_of_lt h3 (by omega)]; rfl
  rw [show 64 * j = 32 * (2 * j) by omega, ← bp_two, e2, e1 (2 * j) l, e1 (2 * j + 1) l]
  have g1 := sm_get h (2 * j)
  have g2 := sm_get h (2 * j + 1)
  omega
theorem twos_congr {x z : Int} {n : Nat} (h : x % 2 ^ (64 * n) = z % 2 ^ (64 * n)) : twos x n = twos z n := by
  unfold twos
  apply List.map_congr_left
  intro i hi
  have hi : i < n := by simpa using hi
  have e : (2 : Int) ^ (64 * n) = 2 ^ (64 * i) * (18446744073709551616 * 2 ^ (64 * (n - 1 - i))) := by
    rw [show (18446744073709551616 : Int) = 2 ^ 64 from rfl, ← p2_add, ← p2_add]
    congr 1; omega
  have h2 := Int.emod_emod_of_dvd
  have key : ∀ y : Int, y / 2 ^ (64 * i) % 18446744073709551616 = (y % 2 ^ (64 * n)) / 2 ^ (64 * i) % 18446744073709551616 := by
    intro y
    have hy := Int.mul_ediv_add_emod y (2 ^ (64 * n))
    have hp := p2_pos (64 * i)
    generalize y / 2 ^ (64 * n) = q at hy
    generalize y % 2 ^ (64 * n) = r at hy ⊢
    rw [← hy, e, Int.mul_assoc, Int.mul_add_ediv_left _ _ (by omega), Int.mul_assoc]
    generalize 2 ^ (64 * (n - 1 - i)) * q = y
    generalize r / 2 ^ (64 * i) = u
    omega
  rw [key x, key z, h]
theorem prt_end {l : List Int} (hs : Sm l) {z : Int} {n : Nat} (h : dv l % 2 ^ (64 * n) = z % 2 ^ (64 * n)) : prt l n n 0 = twos z n := by
  rw [← twos_congr h]
  unfold prt twos
  apply List.map_congr_left
  intro j hj
  have hj : j < n := by simpa using hj
  rw [if_pos hj, wdd_val hs j]
theorem twos_length (z : Int) (n : Nat) : (twos z n).length = n := by simp [twos]
theorem or_low (d : Int) (h0 : 0 ≤ d) (h1 : d < 4294967296) : bits .or .u64 0 d = d := by
  obtain ⟨n, rfl⟩ := Int.eq_ofNat_of_zero_le h0
  have h := u64_or_nat 0 n (by decide) (by omega)
  have e : bits .or .u64 0 (n : Int) = ((0 ||| n : Nat) : Int) := h
  rw [e]; simp
theorem or_high (a d : Int) (h0 : 0 ≤ d) (h1 : d < 4294967296) (g0 : 0 ≤ a) (g1 : a < 4294967296) : bits .or .u64 a (d * 4294967296) = a + 4294967296 * d := by
  obtain ⟨n, rfl⟩ := Int.eq_ofNat_of_zero_le h0
  obtain ⟨m, rfl⟩ := Int.eq_ofNat_of_zero_le g0
  have h := u64_or_nat m (n * 4294967296) (by omega) (by omega)
  have e : bits .or .u64 (m : Int) ((n : Int) * 4294967296) = ((m ||| n * 4294967296 : Nat) : Int) := by
    rw [← h]; simp
  rw [e]
  have e2 : m ||| n * 4294967296 = m + n * 4294967296 := by
    have := Nat.two_pow_add_eq_or_of_lt (show m < 2 ^ 32 by simpa using (by omega : m < 4294967296)) n
    rw [Nat.or_comm, Nat.mul_comm]
    have e3 : (2 : Nat) ^ 32 = 4294967296 := rfl
    rw [e3] at this
    rw [← this]; omega
  rw [e2]
  omega
theorem tmod_fix (z : Int) (n : Nat) : 0 ≤ z.tmod (2 ^ (64 * n)) + 2 ^ (64 * n) ∧ (z.tmod (2 ^ (64 * n)) + 2 ^ (64 * n)) % 2 ^ (64 * n) = z % 2 ^ (64 * n) ∧ z.tmod (2 ^ (64 * n)) < 2 ^ (64 * n) ∧ -(2 ^ (64 * n)) < z.tmod (2 ^ (64 * n)) := by
  have hp := p2_pos (64 * n)
  generalize (2 : Int) ^ (64 * n) = M at *
  have h1 := Int.lt_tmod_of_pos z hp
  have h2 := Int.tmod_lt_of_pos z hp
  refine ⟨by omega, ?_, h2, h1⟩
  rw [Int.add_emod_right]
  have h3 := Int.mul_tdiv_add_tmod z M
  have e : z % M = (M * z.tdiv M + z.tmod M) % M := by rw [h3]
  rw [e, Int.mul_add_emod_self_left]
end Go.Proofs.YtfalicipocbcoaaGreatDoor
