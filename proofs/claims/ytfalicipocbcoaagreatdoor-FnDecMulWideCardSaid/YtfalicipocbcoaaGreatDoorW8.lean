/- Exact integers: division bit by bit: the plain law. (YtfalicipocbcoaaGreatDoor) -/
import Derived.Test.YtfalicipocbcoaaGreatDoorW7
import Derived.Laws.BitsAllLaws
set_option linter.unusedVariables false
set_option linter.unusedSimpArgs false
namespace Go.Proofs.YtfalicipocbcoaaGreatDoor
open Go.RowKit Go.ChangeShapes Go.WideShapes Go.ChangeAt
theorem bp_two (j : Nat) : bp j = 2 ^ (32 * j) := by unfold bp; rw [Int.pow_mul]; rfl
theorem p2_pos (n : Nat) : (0 : Int) < 2 ^ n := Int.pow_pos (by decide)
theorem p2_add (m n : Nat) : (2 : Int) ^ (m + n) = 2 ^ m * 2 ^ n := Int.pow_add _ _ _
theorem p2_lt {m n : Nat} (h : m < n) : (2 : Int) ^ m < 2 ^ n := Int.pow_lt_pow_of_lt (by decide) h
theorem p2_le {m n : Nat} (h : m ≤ n) : (2 : Int) ^ m ≤ 2 ^ n := by
  rcases Nat.lt_or_eq_of_le h with h | h
  · exact Int.le_of_lt (p2_lt h)
  · subst h; exact Int.le_refl _
theorem p2_cast (n : Nat) : ((2 ^ n : Nat) : Int) = 2 ^ n := by simp
/-- a digit's bit is the number's bit. -/
theorem bit_of (a : List Int) (ha : Sm a) (j s : Nat) (hs : s < 32) (hj : j < a.length) : dv a / 2 ^ (32 * j + s) % 2 = a.getD j 0 / 2 ^ s % 2 := by
  have h1 := dv_take_drop a j (by omega)
  have h2 := dv_lt (sm_take ha j)
  have h3 := dv_nn (sm_take ha j)
  rw [take_len a j (by omega)] at h2
  have h4 := bp_pos j
  rw [drop_get hj] at h1
  simp only [dv] at h1
  have e1 : dv a / bp j = a.getD j 0 + 4294967296 * dv (a.drop (j + 1)) := by
    rw [h1, Int.add_mul_ediv_left _ _ (by omega), Int.ediv_eq_zero_of_lt h3 h2, Int.zero_add]
  rw [p2_add, ← bp_two, ← Int.ediv_ediv_of_nonneg (by omega), e1]
  generalize dv (a.drop (j + 1)) = y
  generalize a.getD j 0 = x
  have h5 : (4294967296 : Int) = 2 ^ s * (2 * 2 ^ (31 - s)) := by
    rw [Int.mul_left_comm, ← p2_add, show s + (31 - s) = 31 by omega]; rfl
  rw [h5, Int.mul_assoc, Int.add_mul_ediv_left _ _ (by have := p2_pos s; omega), Int.mul_assoc]
  generalize 2 ^ (31 - s) * y = z
  omega
theorem and1_u32 (x : Int) (s : Nat) (h0 : 0 ≤ x) (h1 : x < 4294967296) : (bits .and .u32 (x / 2 ^ s) 1 == 1) = decide (x / 2 ^ s % 2 = 1) := by
  obtain ⟨n, rfl⟩ := Int.eq_ofNat_of_zero_le h0
  have e : ((n : Int) / 2 ^ s) = ((n / 2 ^ s : Nat) : Int) := by simp
  have hlt : n / 2 ^ s < 4294967296 := Nat.lt_of_le_of_lt (Nat.div_le_self _ _) (by omega)
  rw [e]
  have h := u32_and_nat (n / 2 ^ s) 1 hlt (by decide)
  have h' : bits .and .u32 ((n / 2 ^ s : Nat) : Int) 1 = ((n / 2 ^ s &&& 1 : Nat) : Int) := h
  rw [h', Nat.and_one_is_mod]
  have := Nat.mod_two_eq_zero_or_one (n / 2 ^ s)
  generalize n / 2 ^ s = q at *
  rcases this with h0 | h0 <;> simp [h0] <;> omega
theorem or_bit (d : Int) (s : Nat) (h0 : 0 ≤ d) (h1 : d < 4294967296) (hs : s < 32) (hd : d % 2 ^ (s + 1) = 0) : bits .or .u32 d (2 ^ s) = d + 2 ^ s := by
  obtain ⟨n, rfl⟩ := Int.eq_ofNat_of_zero_le h0
  have hn : n % 2 ^ (s + 1) = 0 := by
    have : ((n % 2 ^ (s + 1) : Nat) : Int) = 0 := by rw [Int.natCast_emod, p2_cast]; exact hd
    omega
  have hlt : 2 ^ s < 4294967296 := by
    have : 2 ^ s < 2 ^ 32 := Nat.pow_lt_pow_right (by decide) hs
    simpa using this
  have h := u32_or_nat n (2 ^ s) (by omega) hlt
  rw [p2_cast] at h
  have e2 : bits .or .u32 (n : Int) (2 ^ s) = ((n ||| 2 ^ s : Nat) : Int) := h
  rw [e2]
  have e3 : n ||| 2 ^ s = n + 2 ^ s := by
    obtain ⟨m, rfl⟩ := Nat.dvd_of_mod_eq_zero hn
    exact (Nat.two_pow_add_eq_or_of_lt (show 2 ^ s < 2 ^ (s + 1) from Nat.pow_lt_pow_right (by decide) (by omega)) m).symm
  rw [e3, Int.natCast_add, p2_cast]
/-- what the loop knows ahead of the round for bit k - 1. -/
def DivInv (A b : Int) (k : Nat) (r : Int) (Q : Int) : Prop := ∃ t : Int, 0 ≤ t ∧ Q = 2 ^ k * t ∧ A / 2 ^ k = t * b + r ∧ 0 ≤ r ∧ r < b
theorem div_half (A : Int) (m : Nat) : A / 2 ^ m = 2 * (A / 2 ^ (m + 1)) + A / 2 ^ m % 2 := by
  have : A / 2 ^ (m + 1) = A / 2 ^ m / 2 := by
    rw [p2_add]
    rw [← Int.ediv_ediv_of_nonneg (by have := p2_pos m; omega)]
    rfl
  rw [this]; omega
theorem div_no {A b r Q r1 : Int} {m : Nat} (h : DivInv A b (m + 1) r Q) (hr : r1 = r + r + A / 2 ^ m % 2) (hlt : r1 < b) : DivInv A b m r1 Q := by
  obtain ⟨t, h0, h1, h2, h3, h4⟩ := h
  refine ⟨2 * t, by omega, ?_, ?_, ?_, hlt⟩
  · rw [h1, p2_add, Int.mul_assoc]; rfl
  · rw [div_half, h2, hr, Int.mul_add, Int.mul_assoc]; omega
  · have : A / 2 ^ m % 2 = 0 ∨ A / 2 ^ m % 2 = 1 := by omega
    omega
theorem div_yes {A b r Q r1 : Int} {m : Nat} (h : DivInv A b (m + 1) r Q) (hr : r1 = r + r + A / 2 ^ m % 2) (hge : b ≤ r1) : DivInv A b m (r1 - b) (Q + 2 ^ m) := by
  obtain ⟨t, h0, h1, h2, h3, h4⟩ := h
  have hb : A / 2 ^ m % 2 = 0 ∨ A / 2 ^ m % 2 = 1 := by omega
  refine ⟨2 * t + 1, by omega, ?_, ?_, by omega, by omega⟩
  · rw [h1, p2_add, Int.mul_assoc, Int.mul_add, Int.mul_one]; rfl
  · rw [div_half, h2, hr, Int.mul_add, Int.add_mul, Int.mul_assoc]; omega
/-- the digit in which the bit is set has nothing at or below it. -/
theorem digit_clear {q : List Int} (hq : Sm q) {A b r : Int} {m j s : Nat} (h : DivInv A b (m + 1) r (dv q)) (hm : m = 32 * j + s) (hs : s < 32) (hj : j < q.length) : q.getD j 0 % 2 ^ (s + 1) = 0 := by
  obtain ⟨t, h0, h1, _⟩ := h
  have h2 := dv_take_drop q j (by omega)
  have h3 := dv_lt (sm_take hq j)
  have h4 := dv_nn (sm_take hq j)
  rw [take_len q j (by omega)] at h3
  rw [drop_get hj] at h2
  simp only [dv] at h2
  have e1 : (2 : Int) ^ (m + 1) = bp j * 2 ^ (s + 1) := by rw [hm, bp_two, ← p2_add]; rfl
  rw [e1, Int.mul_assoc] at h1
  have h5 := bp_pos j
  have e2 : dv (q.take j) = 0 := by
    have := congrArg (· % bp j) (h1.symm.trans h2)
    simp only [Int.mul_emod_right] at this
    rw [Int.add_mul_emod_self_left, Int.emod_eq_of_lt h4 h3] at this
    exact this.symm
  rw [e2, Int.zero_add] at h2
  have e3 : 2 ^ (s + 1) * t = q.getD j 0 + 4294967296 * dv (q.drop (j + 1)) := Int.eq_of_mul_eq_mul_left (by omega) (h1.symm.trans h2)
  have e4 : (4294967296 : Int) = 2 ^ (s + 1) * 2 ^ (31 - s) := by rw [← p2_add, show s + 1 + (31 - s) = 32 by omega]; rfl
  rw [e4, Int.mul_assoc] at e3
  have e5 : q.getD j 0 = 2 ^ (s + 1) * (t - 2 ^ (31 - s) * dv (q.drop (j + 1))) := by rw [Int.mul_sub]; omega
  rw [e5, Int.mul_emod_right]
theorem digit_set {q : List Int} (hq : Sm q) {A b r : Int} {m j s : Nat} (h : DivInv A b (m + 1) r (dv q)) (hm : m = 32 * j + s) (hs : s < 32) (hj : j < q.length) :
    Sm (q.set j (q.getD j 0 + 2 ^ s)) ∧ dv (q.set j (q.getD j 0 + 2 ^ s)) = dv q + 2 ^ m := by
  have h1 := digit_clear hq h hm hs hj
  obtain ⟨g1, g2⟩ := sm_get hq j
  refine ⟨sm_set hq j (by have := p2_pos s; omega) ?_, ?_⟩
  · have e4 : (4294967296 : Int) = 2 ^ (s + 1) * 2 ^ (31 - s) := by rw [← p2_add, show s + 1 + (31 - s) = 32 by omega]; rfl
    have h2 : (2 : Int) ^ s < 2 ^ (s + 1) := p2_lt (by omega)
    have h3 := p2_pos (s + 1)
    obtain ⟨u, hu⟩ := Int.dvd_of_emod_eq_zero h1
    rw [hu] at g2 ⊢
    rw [e4] at g2 ⊢
    have h4 : u < 2 ^ (31 - s) := Int.lt_of_mul_lt_mul_left g2 (by omega)
    have h5 : 2 ^ (s + 1) * (u + 1) ≤ 2 ^ (s + 1) * (2 ^ (31 - s)) := Int.mul_le_mul_of_nonneg_left (by omega) (by omega)
    rw [Int.mul_add, Int.mul_one] at h5
    omega
  · rw [dv_set _ _ _ hj, bp_two]
    rw [show q.getD j 0 + 2 ^ s - q.getD j 0 = 2 ^ s by omega, ← p2_add, ← hm]
theorem div_end {A b r Q : Int} (h : DivInv A b 0 r Q) (hA : 0 ≤ A) : Q = A / b ∧ r = A % b := by
  obtain ⟨t, h0, h1, h2, h3, h4⟩ := h
  simp at h1 h2
  subst h1
  have hb : 0 < b := by omega
  constructor
  · rw [h2, Int.add_comm, Int.add_mul_ediv_right _ _ (by omega), Int.ediv_eq_zero_of_lt h3 h4]; omega
  · rw [h2, Int.add_comm, Int.add_mul_emod_self_right, Int.emod_eq_of_lt h3 h4]
end Go.Proofs.YtfalicipocbcoaaGreatDoor
