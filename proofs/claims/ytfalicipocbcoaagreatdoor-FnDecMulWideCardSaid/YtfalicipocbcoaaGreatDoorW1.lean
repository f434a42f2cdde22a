/- Exact integers as digits of base 2^32: the plain law. (YtfalicipocbcoaaGreatDoor) -/
import Derived.Test.YtfalicipocbcoaaGreatDoorL2
set_option linter.unusedVariables false
set_option linter.unusedSimpArgs false
namespace Go.Proofs.YtfalicipocbcoaaGreatDoor
/-- digits, the lowest first. -/
def dv : List Int → Int
  | [] => 0
  | d :: ds => d + 4294967296 * dv ds
def Sm (l : List Int) : Prop := ∀ x ∈ l, 0 ≤ x ∧ x < 4294967296
/-- no zero at the end. -/
def Trim (l : List Int) : Prop := ∀ h : l ≠ [], l.getLast h ≠ 0
def bp (n : Nat) : Int := 4294967296 ^ n
theorem bp_zero : bp 0 = 1 := rfl
theorem bp_succ (n : Nat) : bp (n + 1) = 4294967296 * bp n := by unfold bp; rw [Int.pow_succ, Int.mul_comm]
theorem bp_pos (n : Nat) : 0 < bp n := by unfold bp; exact Int.pow_pos (by decide)
theorem bp_add (m n : Nat) : bp (m + n) = bp m * bp n := by unfold bp; exact Int.pow_add _ _ _
theorem bp_le {m n : Nat} (h : m ≤ n) : bp m ≤ bp n := by
  obtain ⟨k, rfl⟩ := Nat.exists_eq_add_of_le h
  rw [bp_add]
  have h1 := bp_pos m
  have h2 := bp_pos k
  calc bp m = bp m * 1 := by rw [Int.mul_one]
    _ ≤ bp m * bp k := Int.mul_le_mul_of_nonneg_left (by omega) (by omega)
theorem dv_append (a b : List Int) : dv (a ++ b) = dv a + bp a.length * dv b := by
  induction a with
  | nil => simp [dv, bp]
  | cons d ds ih => simp only [List.cons_append, dv, ih, List.length_cons, bp_succ]; rw [Int.mul_add, Int.mul_assoc]; omega
theorem sm_cons {d : Int} {ds : List Int} (h : Sm (d :: ds)) : (0 ≤ d ∧ d < 4294967296) ∧ Sm ds := ⟨h d (by simp), fun x hx => h x (by simp [hx])⟩
theorem sm_nil : Sm [] := fun x hx => by simp at hx
theorem sm_append {a b : List Int} (h : Sm a) (k : Sm b) : Sm (a ++ b) := fun x hx => by
  rcases List.mem_append.1 hx with h1 | h1
  · exact h x h1
  · exact k x h1
theorem sm_one {d : Int} (h : 0 ≤ d) (h2 : d < 4294967296) : Sm [d] := fun x hx => by simp at hx; subst hx; exact ⟨h, h2⟩
theorem dv_nn {l : List Int} (h : Sm l) : 0 ≤ dv l := by
  induction l with
  | nil => simp [dv]
  | cons d ds ih => obtain ⟨h1, h2⟩ := sm_cons h; have := ih h2; simp only [dv]; omega
theorem dv_lt {l : List Int} (h : Sm l) : dv l < bp l.length := by
  induction l with
  | nil => simp [dv, bp]
  | cons d ds ih =>
    obtain ⟨h2, h3⟩ := sm_cons h
    have h1 := ih h3
    simp only [dv, List.length_cons, bp_succ]
    omega
theorem dv_ge {l : List Int} (hs : Sm l) (ht : Trim l) (h : l ≠ []) : bp (l.length - 1) ≤ dv l := by
  have e := List.dropLast_concat_getLast h
  have h1 := ht h
  have h2 := hs _ (List.getLast_mem h)
  have h3 : Sm l.dropLast := fun x hx => hs x (List.dropLast_subset l hx)
  have h4 := dv_nn h3
  rw [← e, dv_append]
  simp only [List.length_append, List.length_dropLast, List.length_cons, List.length_nil, dv]
  rw [show l.length - 1 + (0 + 1) - 1 = l.length - 1 by omega]
  have h5 := bp_pos (l.length - 1)
  have h6 : bp (l.length - 1) * 1 ≤ bp (l.length - 1) * (l.getLast h + 4294967296 * 0) := Int.mul_le_mul_of_nonneg_left (by omega) (by omega)
  rw [Int.mul_one] at h6
  omega
theorem dv_pos {l : List Int} (hs : Sm l) (ht : Trim l) (h : l ≠ []) : 0 < dv l := by
  have := dv_ge hs ht h
  have := bp_pos (l.length - 1)
  omega
theorem dv_zero {l : List Int} (hs : Sm l) (ht : Trim l) (h : dv l = 0) : l = [] := by
  by_cases hl : l = []
  · exact hl
  · have := dv_pos hs ht hl; omega
/-- a bound of the number bounds the digits. -/
theorem len_le {l : List Int} (hs : Sm l) (ht : Trim l) {n : Nat} (h : dv l < bp n) : l.length ≤ n := by
  by_cases hl : l = []
  · subst hl; simp
  · have h1 := dv_ge hs ht hl
    rcases Nat.lt_or_ge n l.length with h2 | h2
    · have := bp_le (show n ≤ l.length - 1 by omega)
      omega
    · exact h2
/-- more digits, a greater number. -/
theorem dv_len_lt {a b : List Int} (ha : Sm a) (hb : Sm b) (ht : Trim b) (h : a.length < b.length) : dv a < dv b := by
  have hb0 : b ≠ [] := by intro e; subst e; simp at h
  have h1 := dv_lt ha
  have h2 := dv_ge hb ht hb0
  have h3 := bp_le (show a.length ≤ b.length - 1 by omega)
  omega
theorem dv_take_drop (l : List Int) (k : Nat) (hk : k ≤ l.length) : dv l = dv (l.take k) + bp k * dv (l.drop k) := by
  have := dv_append (l.take k) (l.drop k)
  rw [List.take_append_drop] at this
  rw [this, List.length_take, Nat.min_eq_left hk]
theorem take_succ_get (l : List Int) (k : Nat) (hk : k < l.length) : l.take (k + 1) = l.take k ++ [l.getD k 0] := by
  rw [List.take_add_one]
  simp [List.getD_eq_getElem?_getD, List.getElem?_eq_getElem hk]
theorem dv_take_succ (l : List Int) (k : Nat) (hk : k < l.length) : dv (l.take (k + 1)) = dv (l.take k) + bp k * l.getD k 0 := by
  rw [take_succ_get l k hk, dv_append, List.length_take, Nat.min_eq_left (by omega)]
  simp [dv]
/-- beyond the end there are zeros. -/
theorem dv_take_succ' (l : List Int) (k : Nat) : dv (l.take (k + 1)) = dv (l.take k) + bp k * l.getD k 0 := by
  by_cases hk : k < l.length
  · exact dv_take_succ l k hk
  · rw [List.take_of_length_le (by omega), List.take_of_length_le (by omega), List.getD_eq_getElem?_getD, List.getElem?_eq_none (by omega)]; simp
theorem sm_take {l : List Int} (h : Sm l) (k : Nat) : Sm (l.take k) := fun x hx => h x (List.mem_of_mem_take hx)
theorem sm_drop {l : List Int} (h : Sm l) (k : Nat) : Sm (l.drop k) := fun x hx => h x (List.mem_of_mem_drop hx)
theorem sm_get {l : List Int} (h : Sm l) (k : Nat) : 0 ≤ l.getD k 0 ∧ l.getD k 0 < 4294967296 := by
  by_cases hk : k < l.length
  · rw [List.getD_eq_getElem?_getD, List.getElem?_eq_getElem hk]; exact h _ (List.getElem_mem hk)
  · rw [List.getD_eq_getElem?_getD, List.getElem?_eq_none (by omega)]; decide
theorem drop_get {l : List Int} {k : Nat} (hk : k < l.length) : l.drop k = l.getD k 0 :: l.drop (k + 1) := by
  rw [List.drop_eq_getElem_cons hk]
  simp [List.getD_eq_getElem?_getD, List.getElem?_eq_getElem hk]
/-- the highest digit that is not the same decides. -/
theorem dv_cmp {a b : List Int} {i : Nat} (ha : Sm a) (hb : Sm b) (hl : a.length = b.length) (hi : i < a.length) (he : a.drop (i + 1) = b.drop (i + 1)) (hlt : a.getD i 0 < b.getD i 0) : dv a < dv b := by
  rw [dv_take_drop a i (by omega), dv_take_drop b i (by omega), drop_get hi, drop_get (l := b) (by omega), he]
  simp only [dv]
  have h1 := dv_lt (sm_take ha i)
  have h2 := dv_nn (sm_take hb i)
  rw [List.length_take, Nat.min_eq_left (by omega)] at h1
  have h5 := bp_pos i
  generalize bp i = q at *
  generalize dv (b.drop (i + 1)) = r at *
  generalize a.getD i 0 = x at *
  generalize b.getD i 0 = y at *
  have h3 : q * (x + 4294967296 * r) + q ≤ q * (y + 4294967296 * r) := by
    have e : q * (x + 4294967296 * r) + q = q * (x + 4294967296 * r + 1) := by rw [Int.mul_add q (x + 4294967296 * r) 1, Int.mul_one]
    rw [e]
    exact Int.mul_le_mul_of_nonneg_left (by omega) (by omega)
  generalize q * (x + 4294967296 * r) = p1 at *
  generalize q * (y + 4294967296 * r) = p2 at *
  omega
def cmpI (a b : Int) : Int := if a < b then -1 else if b < a then 1 else 0
def sgn (z : Int) : Int := if z < 0 then -1 else if z = 0 then 0 else 1
/-- a number of digits and a sign. -/
def wv (s : Bool) (l : List Int) : Int := if s then -dv l else dv l
theorem trim_take {l : List Int} (h : Trim l) : Trim l := h
theorem trim_nil : Trim [] := fun h => absurd rfl h
theorem dv_zeros (n : Nat) : dv (List.replicate n 0) = 0 := by
  induction n with
  | zero => rfl
  | succ n ih => simp [List.replicate_succ, dv, ih]
theorem sm_zeros (n : Nat) : Sm (List.replicate n 0) := fun x hx => by have := List.eq_of_mem_replicate hx; subst this; decide
theorem set_getD (l : List Int) (i j : Nat) (x : Int) (hi : i < l.length) : (l.set i x).getD j 0 = if j = i then x else l.getD j 0 := by
  simp only [List.getD_eq_getElem?_getD, List.getElem?_set]
  by_cases h : i = j
  · subst h; simp [hi]
  · rw [if_neg h, if_neg (fun e => h e.symm)]
theorem dv_set (l : List Int) (i : Nat) (x : Int) (hi : i < l.length) : dv (l.set i x) = dv l + bp i * (x - l.getD i 0) := by
  have e : l.set i x = l.take i ++ x :: l.drop (i + 1) := by rw [List.set_eq_take_append_cons_drop, if_pos hi]
  rw [e, dv_append, dv_take_drop l i (by omega), drop_get hi, List.length_take, Nat.min_eq_left (by omega)]
  simp only [dv]
  rw [Int.mul_add, Int.mul_add, Int.mul_sub]
  omega
theorem sm_set {l : List Int} (h : Sm l) (i : Nat) {x : Int} (h0 : 0 ≤ x) (h1 : x < 4294967296) : Sm (l.set i x) := fun y hy => by
  rcases List.mem_or_eq_of_mem_set hy with h2 | h2
  · exact h y h2
  · subst h2; exact ⟨h0, h1⟩
end Go.Proofs.YtfalicipocbcoaaGreatDoor
