/- Doubles and singles by their bits: conversions, comparisons and products that are exact. Plain facts. -/
import Derived.Laws.FloatArith
import Derived.Laws.BitsAllLaws
set_option linter.unusedVariables false
set_option linter.unusedSimpArgs false
namespace Go.Proofs.Ytocpkfaoapbjgaa
open Ieee
def B52 : Nat := 4503599627370496
theorem dbl_binade : Ieee.double.binade = 4503599627370496 := by decide
theorem dbl_sign : Ieee.double.signWeight = 9223372036854775808 := by decide
theorem dbl_inf : Ieee.double.infRung = 9218868437227405312 := by decide
theorem dbl_least : Ieee.double.leastPlace = -1074 := by decide
theorem dbl_frac : (Ieee.double.fractionBits : Int) = 52 := rfl
theorem sgl_binade : Ieee.single.binade = 8388608 := by decide
theorem sgl_sign : Ieee.single.signWeight = 2147483648 := by decide
theorem sgl_inf : Ieee.single.infRung = 2139095040 := by decide
theorem sgl_least : Ieee.single.leastPlace = -149 := by decide
/-- how great a rung is, in the least units. -/
def rv (r : Nat) : Nat := if r < 4503599627370496 then r else (4503599627370496 + r % 4503599627370496) * 2 ^ (r / 4503599627370496 - 1)
theorem rv_step (r : Nat) : rv r < rv (r + 1) := by
  unfold rv
  by_cases h1 : r + 1 < 4503599627370496
  · rw [if_pos (by omega), if_pos h1]; omega
  · by_cases h2 : r + 1 = 4503599627370496
    · rw [if_pos (by omega), h2]
      simp
      omega
    · rw [if_neg (by omega), if_neg (by omega)]
      have hp : 0 < 2 ^ (r / 4503599627370496 - 1) := Nat.two_pow_pos _
      by_cases h3 : r % 4503599627370496 + 1 < 4503599627370496
      · rw [show (r + 1) / 4503599627370496 = r / 4503599627370496 by omega, show (r + 1) % 4503599627370496 = r % 4503599627370496 + 1 by omega]
        exact Nat.mul_lt_mul_of_pos_right (by omega) hp
      · rw [show (r + 1) / 4503599627370496 - 1 = (r / 4503599627370496 - 1) + 1 by omega, show (r + 1) % 4503599627370496 = 0 by omega, Nat.pow_succ, show ∀ x : Nat, (4503599627370496 + 0) * (x * 2) = 9007199254740992 * x by intro x; omega]
        exact Nat.mul_lt_mul_of_pos_right (by omega) hp
theorem rv_mono (x d : Nat) : rv x < rv (x + d + 1) := by
  induction d with
  | zero => exact rv_step x
  | succ d ih => exact Nat.lt_trans ih (rv_step (x + d + 1))
theorem rv_cmp (x y : Nat) : compare (rv x) (rv y) = compare x y := by
  rcases Nat.lt_trichotomy x y with h | h | h
  · have := rv_mono x (y - x - 1)
    rw [show x + (y - x - 1) + 1 = y by omega] at this
    rw [Nat.compare_eq_lt.2 this, Nat.compare_eq_lt.2 h]
  · subst h; simp
  · have := rv_mono y (x - y - 1)
    rw [show y + (x - y - 1) + 1 = x by omega] at this
    rw [Nat.compare_eq_gt.2 this, Nat.compare_eq_gt.2 h]
theorem cmp_cast (a b : Nat) : compare (a : Int) (b : Int) = compare a b := by
  rcases Nat.lt_trichotomy a b with h | h | h
  · rw [Nat.compare_eq_lt.2 h]; exact Int.compare_eq_lt.2 (by omega)
  · subst h; simp
  · rw [Nat.compare_eq_gt.2 h]; exact Int.compare_eq_gt.2 (by omega)
theorem cmp_mul (a b p : Nat) (hp : 0 < p) : compare (a * p) (b * p) = compare a b := by
  rcases Nat.lt_trichotomy a b with h | h | h
  · rw [Nat.compare_eq_lt.2 h]; exact Nat.compare_eq_lt.2 (Nat.mul_lt_mul_of_pos_right h hp)
  · subst h; simp
  · rw [Nat.compare_eq_gt.2 h]; exact Nat.compare_eq_gt.2 (Nat.mul_lt_mul_of_pos_right h hp)
theorem sh_cmp (m n a b : Nat) (base : Int) (hb : base = min (-1074 + (a : Int)) (-1074 + (b : Int))) :
    compare (signed false m (-1074 + (a : Int) - base).toNat) (signed false n (-1074 + (b : Int) - base).toNat) = compare (m * 2 ^ a) (n * 2 ^ b) := by
  unfold signed
  simp only [Bool.false_eq_true, if_false, cmp_cast, Nat.shiftLeft_eq]
  have ha : (-1074 + (a : Int) - base).toNat = a - min a b := by omega
  have hb' : (-1074 + (b : Int) - base).toNat = b - min a b := by omega
  rw [ha, hb', ← cmp_mul _ _ (2 ^ min a b) (Nat.two_pow_pos _), Nat.mul_assoc, Nat.mul_assoc, ← Nat.pow_add, ← Nat.pow_add, Nat.sub_add_cancel (Nat.min_le_left _ _), Nat.sub_add_cancel (Nat.min_le_right _ _)]
theorem read_pos (x : Nat) (h : x < 9223372036854775808) : Ieee.double.read x =
    if x < 4503599627370496 then .number false x (-1074) else if x < 9218868437227405312 then .number false (4503599627370496 + x % 4503599627370496) (-1074 + (x / 4503599627370496 - 1 : Nat))
    else if x = 9218868437227405312 then .infinity false else .nan false (x - 9218868437227405312) := by
  unfold Ieee.Format.read
  rw [dbl_sign, dbl_binade, dbl_inf, dbl_least]
  have h1 : x / 9223372036854775808 = 0 := Nat.div_eq_of_lt h
  have h2 : x % 9223372036854775808 = x := Nat.mod_eq_of_lt h
  simp only [h1, h2]
  rfl
theorem order_pos (x y : Nat) (hx : x ≤ 9218868437227405312) (hy : y ≤ 9218868437227405312) : Ieee.double.order x y = some (compare x y) := by
  unfold Ieee.Format.order
  rw [read_pos x (by omega), read_pos y (by omega)]
  have key : ∀ z, rv z = (if z < 4503599627370496 then z else (4503599627370496 + z % 4503599627370496)) * 2 ^ (if z < 4503599627370496 then 0 else z / 4503599627370496 - 1) := by
    intro z; unfold rv; split <;> simp
  by_cases hx1 : x = 9218868437227405312
  · subst hx1
    rw [if_neg (by decide), if_neg (by decide), if_pos rfl]
    by_cases hy1 : y = 9218868437227405312
    · subst hy1; simp [Datum.order]
    · have h : y < 9218868437227405312 := by omega
      rw [Nat.compare_eq_gt.2 h, if_pos h]
      split <;> simp [Datum.order]
  · have hx2 : x < 9218868437227405312 := by omega
    rw [if_pos hx2]
    by_cases hy1 : y = 9218868437227405312
    · subst hy1
      rw [Nat.compare_eq_lt.2 hx2, if_neg (show ¬ (9218868437227405312 : Nat) < 4503599627370496 by decide), if_neg (show ¬ (9218868437227405312 : Nat) < 9218868437227405312 by decide), if_pos rfl]
      split <;> simp [Datum.order]
    · have hy2 : y < 9218868437227405312 := by omega
      rw [if_pos hy2, ← rv_cmp x y, key x, key y]
      by_cases ha : x < 4503599627370496 <;> by_cases hb : y < 4503599627370496
      · rw [if_pos ha, if_pos hb, if_pos ha, if_pos hb, if_pos ha, if_pos hb]
        have := sh_cmp x y 0 0 _ rfl
        simp only [Datum.order]
        simpa using this
      · rw [if_pos ha, if_neg hb, if_pos ha, if_neg hb, if_pos ha, if_neg hb]
        have := sh_cmp x (4503599627370496 + y % 4503599627370496) 0 (y / 4503599627370496 - 1) _ rfl
        simp only [Datum.order]
        simpa using this
      · rw [if_neg ha, if_pos hb, if_neg ha, if_pos hb, if_neg ha, if_pos hb]
        have := sh_cmp (4503599627370496 + x % 4503599627370496) y (x / 4503599627370496 - 1) 0 _ rfl
        simp only [Datum.order]
        simpa using this
      · rw [if_neg ha, if_neg hb, if_neg ha, if_neg hb, if_neg ha, if_neg hb]
        have := sh_cmp (4503599627370496 + x % 4503599627370496) (4503599627370496 + y % 4503599627370496) (x / 4503599627370496 - 1) (y / 4503599627370496 - 1) _ rfl
        simp only [Datum.order]
        simpa using this
theorem cut_none (neg : Bool) (n : Nat) : Toward.even.cut neg n 0 = n := by
  unfold Toward.cut
  simp
  omega
/-- a number that the double format has: the nearest word is itself. -/
theorem nearest_exact (neg : Bool) (mag k E : Nat) (p : Int) (hm : mag ≠ 0) (hk : mag.log2 = k) (h52 : k ≤ 52) (hE : p + k - 52 = (E : Int) - 1074) (hlt : E * 4503599627370496 + mag * 2 ^ (52 - k) ≤ 9218868437227405312) :
    Ieee.double.nearest neg mag p = Ieee.double.word neg (E * 4503599627370496 + mag * 2 ^ (52 - k)) := by
  unfold Ieee.Format.nearest
  rw [if_neg hm, hk, dbl_frac, dbl_least, dbl_binade, dbl_inf]
  have hlast : max (p + (k : Int) - 52) (-1074) = (E : Int) - 1074 := by omega
  simp only [hlast]
  have h1 : (p - ((E : Int) - 1074)).toNat = 52 - k := by omega
  have h2 : ((E : Int) - 1074 - p).toNat = 0 := by omega
  have h3 : ((E : Int) - 1074 - -1074).toNat = E := by omega
  rw [h1, h2, h3, cut_none, Nat.shiftLeft_eq, Nat.min_eq_left hlt]
theorem nearest_exact' (neg : Bool) (mag k E c : Nat) (p : Int) (hc : 2 ^ (52 - k) = c) (hm : mag ≠ 0) (hk : mag.log2 = k) (h52 : k ≤ 52) (hE : p + k - 52 = (E : Int) - 1074) (hlt : E * 4503599627370496 + mag * c ≤ 9218868437227405312) :
    Ieee.double.nearest neg mag p = Ieee.double.word neg (E * 4503599627370496 + mag * c) := by
  subst hc; exact nearest_exact neg mag k E p hm hk h52 hE hlt
theorem word_dbl (neg : Bool) (r : Nat) : Ieee.double.word neg r = if neg then 9223372036854775808 + r else r := by
  unfold Ieee.Format.word; rw [dbl_sign]

/-! ### a single made a double -/
theorem read_sgl (b : Nat) : Ieee.single.read b =
    if b % 2147483648 < 8388608 then .number (b / 2147483648 % 2 == 1) (b % 2147483648) (-149)
    else if b % 2147483648 < 2139095040 then .number (b / 2147483648 % 2 == 1) (8388608 + b % 2147483648 % 8388608) (-149 + (b % 2147483648 / 8388608 - 1 : Nat))
    else if b % 2147483648 = 2139095040 then .infinity (b / 2147483648 % 2 == 1) else .nan (b / 2147483648 % 2 == 1) (b % 2147483648 - 2139095040) := by
  unfold Ieee.Format.read
  rw [sgl_sign, sgl_binade, sgl_inf, sgl_least]
theorem order_self (d : Datum) (h : d.isNaN = false) : d.order d = some .eq := by
  cases d with
  | number s m i => simp [Datum.order, Int.compare_eq_eq]
  | infinity s => simp [Datum.order]
  | nan s f => cases h
theorem sgl_self (b : Nat) (h : b % 2147483648 ≤ 2139095040) : Ieee.single.order b b = some .eq := by
  unfold Ieee.Format.order
  refine order_self _ ?_
  rw [read_sgl]
  by_cases h1 : b % 2147483648 < 8388608
  · rw [if_pos h1]; rfl
  · rw [if_neg h1]
    by_cases h2 : b % 2147483648 < 2139095040
    · rw [if_pos h2]; rfl
    · rw [if_neg h2, if_pos (by omega)]; rfl
theorem sgl_nan (b : Nat) (h : 2139095040 < b % 2147483648) : Ieee.single.order b b = none := by
  unfold Ieee.Format.order
  rw [read_sgl, if_neg (by omega), if_neg (by omega), if_neg (by omega)]
  rfl
def sg (b : Nat) : Nat := if b / 2147483648 % 2 == 1 then 9223372036854775808 else 0
theorem word_sg (b r : Nat) : Ieee.double.word (b / 2147483648 % 2 == 1) r = sg b + r := by
  rw [word_dbl]; unfold sg; split <;> simp
theorem sg_01 (b : Nat) : sg b = 0 ∨ sg b = 9223372036854775808 := by unfold sg; split <;> simp
theorem read_sg (b r : Nat) (h : r < 9218868437227405312) : (Ieee.double.read (sg b + r)).isInfinity = false := by
  unfold Ieee.Format.read
  rw [dbl_sign, dbl_binade, dbl_inf, dbl_least]
  have h2 : (sg b + r) % 9223372036854775808 = r := by rcases sg_01 b with e | e <;> rw [e] <;> omega
  simp only [h2]
  split
  · rfl
  · first | rfl | (rw [if_pos h]; rfl)
theorem write_num (a : Bool) (m : Nat) (p : Int) : Ieee.double.write (.number a m p) = Ieee.double.nearest a m p := rfl
theorem log2_23 (x : Nat) (h1 : 8388608 ≤ x) (h2 : x < 16777216) : x.log2 = 23 := by
  rw [Nat.log2_eq_iff (by omega)]; constructor <;> simp <;> omega
/-- a normal single. -/
theorem conv_norm (b : Nat) (h1 : 8388608 ≤ b % 2147483648) (h2 : b % 2147483648 < 2139095040) :
    floatToFloatBits .f32 b .f64 = some (sg b + (b % 2147483648 * 536870912 + 4035225266123964416)) := by
  unfold floatToFloatBits FloatKind.decode FloatKind.encode FloatKind.format
  rw [if_neg (by decide)]
  simp only [read_sgl, if_neg (show ¬ b % 2147483648 < 8388608 by omega), if_pos h2]
  have hw : Ieee.double.write (.number (b / 2147483648 % 2 == 1) (8388608 + b % 2147483648 % 8388608) (-149 + ((b % 2147483648 / 8388608 - 1 : Nat) : Int))) = sg b + (b % 2147483648 * 536870912 + 4035225266123964416) := by
    have h5 : (b % 2147483648 / 8388608 + 895) * 4503599627370496 + (8388608 + b % 2147483648 % 8388608) * 536870912 = b % 2147483648 * 536870912 + 4035225266123964416 := by omega
    have h6 := nearest_exact' (b / 2147483648 % 2 == 1) (8388608 + b % 2147483648 % 8388608) 23 (b % 2147483648 / 8388608 + 895) 536870912 (-149 + ((b % 2147483648 / 8388608 - 1 : Nat) : Int)) (by decide) (by omega) (log2_23 _ (by omega) (by omega)) (by omega) (by omega) (by omega)
    exact h6.trans ((word_sg b _).trans (congrArg (fun x => sg b + x) h5))
  rw [hw, read_sg _ _ (by omega)]
  rfl
theorem conv_zero (b : Nat) (h1 : b % 2147483648 = 0) : floatToFloatBits .f32 b .f64 = some (sg b) := by
  unfold floatToFloatBits FloatKind.decode FloatKind.encode FloatKind.format
  rw [if_neg (by decide)]
  simp only [read_sgl, h1, if_pos (show (0 : Nat) < 8388608 by decide)]
  have hw : Ieee.double.write (.number (b / 2147483648 % 2 == 1) 0 (-149)) = sg b := by
    rw [write_num]
    unfold Ieee.Format.nearest
    rw [if_pos rfl, word_sg]; rfl
  rw [hw]
  have := read_sg b 0 (by omega)
  rw [Nat.add_zero] at this
  rw [this]; rfl
theorem conv_inf (b : Nat) (h1 : b % 2147483648 = 2139095040) : floatToFloatBits .f32 b .f64 = some (sg b + 9218868437227405312) := by
  unfold floatToFloatBits FloatKind.decode FloatKind.encode FloatKind.format
  rw [if_neg (by decide)]
  simp only [read_sgl, h1]
  show some (Ieee.double.word _ Ieee.double.infRung) = _
  rw [word_sg, dbl_inf]
/-- a subnormal single. -/
theorem conv_sub (b : Nat) (h1 : 0 < b % 2147483648) (h2 : b % 2147483648 < 8388608) : ∃ R, floatToFloatBits .f32 b .f64 = some (sg b + R) ∧ 0 < R ∧ R < 4039728865751334912 := by
  have hk : (b % 2147483648).log2 < 23 := (Nat.log2_lt (by omega)).2 (by simpa using h2)
  have hk1 := Nat.log2_self_le (n := b % 2147483648) (by omega)
  have hk2 := @Nat.lt_log2_self (b % 2147483648)
  generalize hkk : (b % 2147483648).log2 = k at hk hk1 hk2
  generalize hrr : b % 2147483648 = r at *
  have hlo : 4503599627370496 ≤ r * 2 ^ (52 - k) := by
    have := Nat.mul_le_mul_right (2 ^ (52 - k)) hk1
    rw [← Nat.pow_add, show k + (52 - k) = 52 by omega] at this
    simpa using this
  have hhi : r * 2 ^ (52 - k) < 9007199254740992 := by
    have := Nat.mul_lt_mul_of_pos_right hk2 (Nat.two_pow_pos (52 - k))
    rw [← Nat.pow_add, show k + 1 + (52 - k) = 53 by omega] at this
    simpa using this
  refine ⟨(k + 873) * 4503599627370496 + r * 2 ^ (52 - k), ?_, by omega, by omega⟩
  unfold floatToFloatBits FloatKind.decode FloatKind.encode FloatKind.format
  rw [if_neg (by decide)]
  simp only [read_sgl, hrr, if_pos h2]
  have hw : Ieee.double.write (.number (b / 2147483648 % 2 == 1) r (-149)) = sg b + ((k + 873) * 4503599627370496 + r * 2 ^ (52 - k)) := by
    rw [write_num, nearest_exact _ _ k (k + 873) _ (by omega) hkk (by omega) (by omega) (by omega), word_sg]
  rw [hw, read_sg _ _ (by omega)]
  rfl
theorem read_nan (b : Nat) (h : 2139095040 < b % 2147483648) : ∃ s f, FloatKind.decode .f32 b = .nan s f := by
  unfold FloatKind.decode FloatKind.format
  simp only [read_sgl]
  rw [if_neg (by omega), if_neg (by omega), if_neg (by omega)]
  exact ⟨_, _, rfl⟩
/-- 1 times a double between 1024 and 2048, and its whole part. -/
theorem mul_one (M : Nat) (h : M < 4503599627370496) : floatBits .mul .f64 4607182418800017408 (4652218415073722368 + M) = some (4652218415073722368 + M) := by
  show Ieee.double.mul _ _ = _
  unfold Ieee.Format.mul
  rw [read_pos 4607182418800017408 (by decide), read_pos (4652218415073722368 + M) (by omega)]
  rw [if_neg (by decide), if_pos (by decide), if_neg (by omega), if_pos (by omega)]
  have e1 : (4652218415073722368 + M) % 4503599627370496 = M := by omega
  have e2 : (4652218415073722368 + M) / 4503599627370496 = 1033 := by omega
  rw [e1, e2]
  simp only [Datum.product, Option.map_some, Option.some.injEq]
  show Ieee.double.nearest _ _ _ = _
  unfold Ieee.Format.nearest
  have e3 : (4503599627370496 + 4607182418800017408 % 4503599627370496) * (4503599627370496 + M) = 20282409603651670423947251286016 + M * 4503599627370496 := by omega
  rw [e3, if_neg (by omega)]
  have hl : (20282409603651670423947251286016 + M * 4503599627370496).log2 = 104 := by
    rw [Nat.log2_eq_iff (by omega)]; constructor <;> simp <;> omega
  rw [hl, dbl_frac, dbl_least, dbl_binade, dbl_inf]
  have hlast : max (-1074 + ((4607182418800017408 / 4503599627370496 - 1 : Nat) : Int) + (-1074 + ((1033 - 1 : Nat) : Int)) + ((104 : Nat) : Int) - 52) (-1074) = -42 := by decide
  simp only [hlast]
  have hc : Toward.even.cut (false ^^ false) ((20282409603651670423947251286016 + M * 4503599627370496) <<< (-1074 + ((4607182418800017408 / 4503599627370496 - 1 : Nat) : Int) + (-1074 + ((1033 - 1 : Nat) : Int)) - -42).toNat) (-42 - (-1074 + ((4607182418800017408 / 4503599627370496 - 1 : Nat) : Int) + (-1074 + ((1033 - 1 : Nat) : Int)))).toNat = 4503599627370496 + M := by
    have a1 : (-1074 + ((4607182418800017408 / 4503599627370496 - 1 : Nat) : Int) + (-1074 + ((1033 - 1 : Nat) : Int)) - -42).toNat = 0 := by decide
    have a2 : (-42 - (-1074 + ((4607182418800017408 / 4503599627370496 - 1 : Nat) : Int) + (-1074 + ((1033 - 1 : Nat) : Int)))).toNat = 52 := by decide
    rw [a1, a2, Nat.shiftLeft_zero]
    unfold Toward.cut
    rw [hl]
    have g : (1 <<< min 52 (104 + 2) : Nat) = 4503599627370496 := by decide
    simp only [g]
    have q1 : (20282409603651670423947251286016 + M * 4503599627370496) / 4503599627370496 = 4503599627370496 + M := by omega
    have q2 : (20282409603651670423947251286016 + M * 4503599627370496) % 4503599627370496 = 0 := by omega
    rw [q1, q2]
    simp
  rw [hc, word_dbl]
  have e5 : (-42 - -1074 : Int).toNat = 1032 := by decide
  rw [e5, Nat.min_eq_left (by omega)]
  simp
  omega
theorem int_of (M : Nat) (h : M < 4503599627370496) : floatToIntVal .f64 (4652218415073722368 + M) .i64 = some (((1024 + M / 4398046511104 : Nat)) : Int) := by
  unfold floatToIntVal FloatKind.decode FloatKind.format
  simp only [read_pos (4652218415073722368 + M) (by omega)]
  rw [if_neg (by omega), if_pos (by omega)]
  have e1 : (4652218415073722368 + M) % 4503599627370496 = M := by omega
  have e2 : (4652218415073722368 + M) / 4503599627370496 = 1033 := by omega
  rw [e1, e2]
  have hl : (4503599627370496 + M).log2 = 52 := by
    rw [Nat.log2_eq_iff (by omega)]; constructor <;> simp <;> omega
  have hi : Datum.toInt .zero (.number false (4503599627370496 + M) (-1074 + ((1033 - 1 : Nat) : Int))) = some ((1024 + M / 4398046511104 : Nat) : Int) := by
    unfold Datum.toInt Datum.integral
    have a1 : (-1074 + ((1033 - 1 : Nat) : Int)).toNat = 0 := by decide
    have a2 : (-(-1074 + ((1033 - 1 : Nat) : Int))).toNat = 42 := by decide
    simp only [a1, a2, Nat.shiftLeft_zero]
    unfold Toward.cut
    rw [hl]
    have g : (1 <<< min 42 (52 + 2) : Nat) = 4398046511104 := by decide
    simp only [g, signed]
    simp
    omega
  rw [hi]
  have : IntKind.i64.min ≤ ((1024 + M / 4398046511104 : Nat) : Int) ∧ ((1024 + M / 4398046511104 : Nat) : Int) ≤ IntKind.i64.max := by
    have q1 : IntKind.i64.min = -9223372036854775808 := by decide
    have q2 : IntKind.i64.max = 9223372036854775807 := by decide
    rw [q1, q2]; omega
  simp only [if_pos this]
end Go.Proofs.Ytocpkfaoapbjgaa
