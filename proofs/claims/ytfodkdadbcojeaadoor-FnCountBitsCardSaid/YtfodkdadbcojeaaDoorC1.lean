/- Bits counted: the plain law. -/
import Derived.Test.YtfodkdadbcojeaaDoorL3
set_option linter.unusedVariables false
set_option linter.unusedSimpArgs false
namespace Go.Proofs.YtfodkdadbcojeaaDoor
open Go.ChangeShapes Go.WideShapes Go.ChangeAt Go.RowKit
def pc8 (x : Nat) : Nat := x % 2 + x / 2 % 2 + x / 4 % 2 + x / 8 % 2 + x / 16 % 2 + x / 32 % 2 + x / 64 % 2 + x / 128 % 2
theorem pc8_le (x : Nat) : pc8 x ≤ 8 := by unfold pc8; omega
theorem and_digits (n a b c d : Nat) (ha : a < 2 ^ n) (hc : c < 2 ^ n) : (a + 2 ^ n * b) &&& (c + 2 ^ n * d) = (a &&& c) + 2 ^ n * (b &&& d) := by
  have hlt : a &&& c < 2 ^ n := Nat.lt_of_le_of_lt Nat.and_le_left ha
  apply Nat.eq_of_testBit_eq
  intro i
  rw [Nat.testBit_and]
  rw [Nat.add_comm a, Nat.add_comm c, Nat.add_comm (a &&& c)]
  rw [Nat.testBit_two_pow_mul_add _ ha, Nat.testBit_two_pow_mul_add _ hc, Nat.testBit_two_pow_mul_add _ hlt]
  split
  · rw [Nat.testBit_and]
  · rw [Nat.testBit_and]
def rep : Nat → Nat → Nat
  | _, 0 => 0
  | u, n + 1 => u + 256 * rep u n
def s1 (m x : Nat) : Nat := (x / 2 &&& m) + (x &&& m)
def s2 (m x : Nat) : Nat := (x / 4 &&& m) + (x &&& m)
def s3 (m x : Nat) : Nat := (x / 16 + x) &&& m
theorem and256 (a b c d : Nat) (ha : a < 256) (hc : c < 256) : (a + 256 * b) &&& (c + 256 * d) = (a &&& c) + 256 * (b &&& d) := and_digits 8 a b c d ha hc
theorem low1 : ∀ b : Fin 256, ∀ r : Fin 2, ((b.val / 2 + 128 * r.val) &&& 85) = (b.val / 2 &&& 85) := by decide +kernel
theorem low2 : ∀ b : Fin 256, ∀ r : Fin 4, ((b.val / 4 + 64 * r.val) &&& 51) = (b.val / 4 &&& 51) := by decide +kernel
theorem s1_step (b R n : Nat) (hb : b < 256) : s1 (rep 85 (n + 1)) (b + 256 * R) = s1 85 b + 256 * s1 (rep 85 n) R := by
  unfold s1
  have e : (b + 256 * R) / 2 = (b / 2 + 128 * (R % 2)) + 256 * (R / 2) := by omega
  rw [e]
  show (b / 2 + 128 * (R % 2) + 256 * (R / 2) &&& 85 + 256 * rep 85 n) + (b + 256 * R &&& 85 + 256 * rep 85 n) = _
  rw [and256 _ _ _ _ (by omega) (by decide), and256 _ _ _ _ hb (by decide), low1 ⟨b, hb⟩ ⟨R % 2, by omega⟩]
  simp only []
  omega
theorem s2_step (b R n : Nat) (hb : b < 256) : s2 (rep 51 (n + 1)) (b + 256 * R) = s2 51 b + 256 * s2 (rep 51 n) R := by
  unfold s2
  have e : (b + 256 * R) / 4 = (b / 4 + 64 * (R % 4)) + 256 * (R / 4) := by omega
  rw [e]
  show (b / 4 + 64 * (R % 4) + 256 * (R / 4) &&& 51 + 256 * rep 51 n) + (b + 256 * R &&& 51 + 256 * rep 51 n) = _
  rw [and256 _ _ _ _ (by omega) (by decide), and256 _ _ _ _ hb (by decide), low2 ⟨b, hb⟩ ⟨R % 4, by omega⟩]
  simp only []
  omega
theorem low3 : ∀ b : Fin 69, ∀ r : Fin 5, b.val % 16 ≤ 4 → ((b.val / 16 + 16 * r.val + b.val) &&& 15) = (b.val / 16 + b.val) &&& 15 := by decide +kernel
theorem s3_step (b R n : Nat) (hb : b < 69) (hb1 : b % 16 ≤ 4) (hR : R % 16 ≤ 4) : s3 (rep 15 (n + 1)) (b + 256 * R) = s3 15 b + 256 * s3 (rep 15 n) R := by
  unfold s3
  have e : (b + 256 * R) / 16 + (b + 256 * R) = (b / 16 + 16 * (R % 16) + b) + 256 * (R / 16 + R) := by omega
  rw [e]
  show (b / 16 + 16 * (R % 16) + b + 256 * (R / 16 + R) &&& 15 + 256 * rep 15 n) = _
  rw [and256 _ _ _ _ (by omega) (by decide), low3 ⟨b, hb⟩ ⟨R % 16, by omega⟩ hb1]
theorem b1 : ∀ b : Fin 256, s1 85 b.val < 256 := by decide +kernel
theorem b2 : ∀ b : Fin 256, s2 51 (s1 85 b.val) < 69 ∧ s2 51 (s1 85 b.val) % 16 ≤ 4 := by decide +kernel
theorem b3 : ∀ b : Fin 256, s3 15 (s2 51 (s1 85 b.val)) = pc8 b.val := by decide +kernel
def le : List Nat → Nat
  | [] => 0
  | b :: bs => b + 256 * le bs
theorem s1_le : ∀ d : List Nat, Small d → s1 (rep 85 d.length) (le d) = le (d.map fun b => s1 85 b)
  | [], _ => by simp [s1, rep, le]
  | b :: bs, h => by
    simp only [List.length_cons, le, List.map_cons]
    rw [s1_step _ _ _ (h b (by simp)), s1_le bs (fun x hx => h x (by simp [hx]))]
theorem s2_le : ∀ d : List Nat, Small d → s2 (rep 51 d.length) (le d) = le (d.map fun b => s2 51 b)
  | [], _ => by simp [s2, rep, le]
  | b :: bs, h => by
    simp only [List.length_cons, le, List.map_cons]
    rw [s2_step _ _ _ (h b (by simp)), s2_le bs (fun x hx => h x (by simp [hx]))]
theorem s3_le : ∀ d : List Nat, (∀ b ∈ d, b < 69 ∧ b % 16 ≤ 4) → s3 (rep 15 d.length) (le d) = le (d.map fun b => s3 15 b)
  | [], _ => by simp [s3, rep, le]
  | b :: bs, h => by
    simp only [List.length_cons, le, List.map_cons]
    have h1 := h b (by simp)
    rw [s3_step _ _ _ h1.1 h1.2 ?_, s3_le bs (fun x hx => h x (by simp [hx]))]
    cases bs with
    | nil => simp [le]
    | cons c cs => have := h c (by simp); simp only [le]; omega
theorem swar (d : List Nat) (hs : Small d) : s3 (rep 15 d.length) (s2 (rep 51 d.length) (s1 (rep 85 d.length) (le d))) = le (d.map pc8) := by
  rw [s1_le d hs]
  have h1 : Small (d.map fun b => s1 85 b) := by
    intro x hx
    obtain ⟨b, hb, rfl⟩ := List.mem_map.1 hx
    exact b1 ⟨b, hs b hb⟩
  have l1 : (d.map fun b => s1 85 b).length = d.length := by simp
  rw [← l1, s2_le _ h1]
  have l2 : ((d.map fun b => s1 85 b).map fun b => s2 51 b).length = d.length := by simp
  rw [l1, ← l2, s3_le]
  · congr 1
    rw [List.map_map, List.map_map]
    apply List.map_congr_left
    intro b hb
    exact b3 ⟨b, hs b hb⟩
  · intro x hx
    obtain ⟨y, hy, rfl⟩ := List.mem_map.1 hx
    obtain ⟨b, hb, rfl⟩ := List.mem_map.1 hy
    exact b2 ⟨b, hs b hb⟩
theorem le_lt : ∀ d : List Nat, Small d → le d < 256 ^ d.length
  | [], _ => by simp [le]
  | b :: bs, h => by
    have h1 := le_lt bs (fun x hx => h x (by simp [hx]))
    have h2 := h b (by simp)
    simp only [le, List.length_cons, Nat.pow_succ]
    omega
theorem hop (p t a : Nat) (hp : p < 256) (h : a = p + 256 * t) : a / 256 = t := by omega
theorem fold8 (p0 p1 p2 p3 p4 p5 p6 p7 : Nat) (h0 : p0 ≤ 8) (h1 : p1 ≤ 8) (h2 : p2 ≤ 8) (h3 : p3 ≤ 8) (h4 : p4 ≤ 8) (h5 : p5 ≤ 8) (h6 : p6 ≤ 8) (h7 : p7 ≤ 8) (y a b c : Nat) (hy : y = le [p0, p1, p2, p3, p4, p5, p6, p7]) (ha : a = y + y / 256) (hb : b = a + a / 65536) (hc : c = b + b / 4294967296) :
    c < 9223372036854775808 ∧ b < 18446744073709551616 ∧ a < 18446744073709551616 ∧ c % 128 = p0 + p1 + p2 + p3 + p4 + p5 + p6 + p7 := by
  simp only [le] at hy
  obtain ⟨t7, e7⟩ : ∃ t, t = p7 := ⟨_, rfl⟩
  obtain ⟨t6, e6⟩ : ∃ t, t = p6 + 256 * t7 := ⟨_, rfl⟩
  obtain ⟨t5, e5⟩ : ∃ t, t = p5 + 256 * t6 := ⟨_, rfl⟩
  obtain ⟨t4, e4⟩ : ∃ t, t = p4 + 256 * t5 := ⟨_, rfl⟩
  obtain ⟨t3, e3⟩ : ∃ t, t = p3 + 256 * t4 := ⟨_, rfl⟩
  obtain ⟨t2, e2⟩ : ∃ t, t = p2 + 256 * t3 := ⟨_, rfl⟩
  obtain ⟨t1, e1⟩ : ∃ t, t = p1 + 256 * t2 := ⟨_, rfl⟩
  have hy' : y = p0 + 256 * t1 := by rw [hy, e1, e2, e3, e4, e5, e6, e7]; simp only [Nat.mul_zero, Nat.add_zero]
  have by0 : y ≤ 578721382704613384 := by
    have b7 : t7 ≤ 8 := by omega
    have b6 : t6 ≤ 2056 := by omega
    have b5 : t5 ≤ 526344 := by omega
    have b4 : t4 ≤ 134744072 := by omega
    have b3 : t3 ≤ 34494482440 := by omega
    have b2 : t2 ≤ 8830587504648 := by omega
    have b1 : t1 ≤ 2260630401189896 := by omega
    omega
  have ba : a ≤ 1157442765409226768 := by have := Nat.div_le_self y 256; omega
  have bb : b ≤ 2314885530818453536 := by have := Nat.div_le_self a 65536; omega
  have bc : c ≤ 4629771061636907072 := by have := Nat.div_le_self b 4294967296; omega
  refine ⟨by omega, by omega, by omega, ?_⟩
  clear by0 ba bb bc hy
  rw [hop p0 t1 y (by omega) hy'] at ha
  have f0 : a = (p0 + p1) + 256 * (t1 + t2) := by clear hb hc; omega
  have f1 : t1 + t2 = (p1 + p2) + 256 * (t2 + t3) := by clear hb hc ha f0; omega
  have f2 : t2 + t3 = (p2 + p3) + 256 * (t3 + t4) := by clear hb hc ha f0 f1; omega
  have f3 : t3 + t4 = (p3 + p4) + 256 * (t4 + t5) := by clear hb hc ha f0 f1 f2; omega
  have f4 : t4 + t5 = (p4 + p5) + 256 * (t5 + t6) := by clear hb hc ha f0 f1 f2 f3; omega
  have f5 : t5 + t6 = (p5 + p6) + 256 * (t6 + t7) := by clear hb hc ha f0 f1 f2 f3 f4; omega
  have f6 : t6 + t7 = (p6 + p7) + 256 * t7 := by clear hb hc ha f0 f1 f2 f3 f4 f5; omega
  clear ha hy' e1 e2 e3 e4 e5 e6
  generalize t1 + t2 = T1 at *
  generalize t2 + t3 = T2 at *
  generalize t3 + t4 = T3 at *
  generalize t4 + t5 = T4 at *
  generalize t5 + t6 = T5 at *
  generalize t6 + t7 = T6 at *
  have q1 : a / 256 = T1 := hop _ _ _ (by clear f0 f1 f2 f3 f4 f5 f6 hb hc; omega) f0
  have q2 : T1 / 256 = T2 := hop _ _ _ (by clear f0 f1 f2 f3 f4 f5 f6 hb hc; omega) f1
  have eb : a / 65536 = T2 := by rw [show 65536 = 256 * 256 from rfl, ← Nat.div_div_eq_div_mul, q1, q2]
  rw [eb] at hb
  clear eb q1 q2
  have g0 : b = (p0 + p1 + p2 + p3) + 256 * (T1 + T3) := by rw [hb, f0, f2]; clear f0 f1 f2 f3 f4 f5 f6 hb hc; omega
  have g1 : T1 + T3 = (p1 + p2 + p3 + p4) + 256 * (T2 + T4) := by rw [f1, f3]; clear f0 f1 f2 f3 f4 f5 f6 hb hc g0; omega
  have g2 : T2 + T4 = (p2 + p3 + p4 + p5) + 256 * (T3 + T5) := by rw [f2, f4]; clear f0 f1 f2 f3 f4 f5 f6 hb hc g0 g1; omega
  have g3 : T3 + T5 = (p3 + p4 + p5 + p6) + 256 * (T4 + T6) := by rw [f3, f5]; clear f0 f1 f2 f3 f4 f5 f6 hb hc g0 g1 g2; omega
  have g4 : T4 + T6 = (p4 + p5 + p6 + p7) + 256 * (T5 + t7) := by rw [f4, f6]; clear f0 f1 f2 f3 f4 f5 f6 hb hc g0 g1 g2 g3; omega
  clear f0 f1 f2 f3 f4 f5 f6 hb
  generalize T1 + T3 = U1 at *
  generalize T2 + T4 = U2 at *
  generalize T3 + T5 = U3 at *
  generalize T4 + T6 = U4 at *
  have q1 : b / 256 = U1 := hop _ _ _ (by clear g0 g1 g2 g3 g4 hc; omega) g0
  have q2 : U1 / 256 = U2 := hop _ _ _ (by clear g0 g1 g2 g3 g4 hc; omega) g1
  have q3 : U2 / 256 = U3 := hop _ _ _ (by clear g0 g1 g2 g3 g4 hc; omega) g2
  have q4 : U3 / 256 = U4 := hop _ _ _ (by clear g0 g1 g2 g3 g4 hc; omega) g3
  have ec : b / 4294967296 = U4 := by rw [show 4294967296 = 256 * 256 * 256 * 256 from rfl, ← Nat.div_div_eq_div_mul, ← Nat.div_div_eq_div_mul, ← Nat.div_div_eq_div_mul, q1, q2, q3, q4]
  rw [ec, g0, g4] at hc
  clear ec q1 q2 q3 q4 g0 g1 g2 g3 g4
  omega
/-- how many bits are set, from a place on. -/
def cnt (d : List Nat) (a : Nat) : Nat → Nat
  | 0 => 0
  | n + 1 => cnt d a n + (bitAt d (a + n)).toNat
theorem cnt_add (d : List Nat) (a m n : Nat) : cnt d a (m + n) = cnt d a m + cnt d (a + m) n := by
  induction n with
  | zero => rfl
  | succ n ih => rw [← Nat.add_assoc, cnt, cnt, ih]; simp only [Nat.add_assoc]
theorem cnt_le (d : List Nat) (a n : Nat) : cnt d a n ≤ n := by
  induction n with
  | zero => exact Nat.le_refl _
  | succ n ih => rw [cnt]; have := Bool.toNat_le (bitAt d (a + n)); omega
theorem tbn (x k : Nat) : (x.testBit k).toNat = x / 2 ^ k % 2 := by
  rw [Nat.testBit_eq_decide_div_mod_eq]
  have := Nat.mod_two_eq_zero_or_one (x / 2 ^ k)
  rcases this with h | h <;> rw [h] <;> rfl
theorem cnt8 (d : List Nat) (k : Nat) : cnt d (8 * k) 8 = pc8 (d.getD k 0) := by
  have h : ∀ j, j < 8 → (bitAt d (8 * k + j)).toNat = d.getD k 0 / 2 ^ j % 2 := fun j hj => by
    unfold bitAt
    rw [show (8 * k + j) / 8 = k by omega, show (8 * k + j) % 8 = j by omega, tbn]
  simp only [cnt]
  rw [h 0 (by omega), h 1 (by omega), h 2 (by omega), h 3 (by omega), h 4 (by omega), h 5 (by omega), h 6 (by omega), h 7 (by omega)]
  unfold pc8
  simp
theorem cnt_drop (d : List Nat) (s a n : Nat) : cnt (d.drop s) a n = cnt d (8 * s + a) n := by
  induction n with
  | zero => rfl
  | succ n ih =>
    rw [cnt, cnt, ih]
    congr 2
    unfold bitAt
    rw [show (8 * s + a + n) / 8 = s + (a + n) / 8 by omega, show (8 * s + a + n) % 8 = (a + n) % 8 by omega]
    simp [List.getD_eq_getElem?_getD]
end Go.Proofs.YtfodkdadbcojeaaDoor
