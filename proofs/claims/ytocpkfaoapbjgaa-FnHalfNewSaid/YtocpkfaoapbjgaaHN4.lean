/- float16.New: what it gives, by the bits of its argument. -/
import Derived.Test.YtocpkfaoapbjgaaHN3
set_option linter.unusedVariables false
set_option linter.unusedSimpArgs false
namespace Go.Proofs.Ytocpkfaoapbjgaa
open Go.ChangeShapes Go.WideShapes Go.ChangeAt Go.RowKit
theorem b_facts (b : Nat) (h : b < 4294967296) : bits .and .u32 ((b : Int) / 2147483648) 1 = ((b / 2147483648 : Nat) : Int) ∧ bits .and .u32 ((b : Int) / 8388608) 255 = ((b / 8388608 % 256 : Nat) : Int) ∧ bits .and .u16 (IntKind.u16.wrap ((b : Int) / 8192)) 1023 = ((b / 8192 % 1024 : Nat) : Int) := by
  refine ⟨?_, ?_, ?_⟩
  · have h0 : ((b : Int) / 2147483648) = ((b / 2147483648 : Nat) : Int) := by omega
    rw [h0]
    have := u32_and_nat (b / 2147483648) 1 (by omega) (by decide)
    rw [show ((1 : Nat) : Int) = 1 from rfl] at this
    rw [this, nat_mask1, Nat.mod_eq_of_lt (by omega)]
  · have h0 : ((b : Int) / 8388608) = ((b / 8388608 : Nat) : Int) := by omega
    rw [h0]
    have := u32_and_nat (b / 8388608) 255 (by omega) (by decide)
    rw [show ((255 : Nat) : Int) = 255 from rfl] at this
    rw [this, nat_mask8]
  · have h0 : IntKind.u16.wrap ((b : Int) / 8192) = ((b / 8192 % 65536 : Nat) : Int) := by rw [IntKind.wrap_u16]; omega
    rw [h0]
    have := u16_and_nat (b / 8192 % 65536) 1023 (by omega) (by decide)
    rw [show ((1023 : Nat) : Int) = 1023 from rfl] at this
    rw [this, nat_mask10]
    congr 1; omega
theorem or_facts (s r f : Nat) (hs : s < 2) (hr : r < 32) (hf : f < 1024) : bits .or .u16 ((s : Int) * 32768) ((r : Int) * 1024) = ((s * 32768 + r * 1024 : Nat) : Int) ∧ bits .or .u16 ((s * 32768 + r * 1024 : Nat) : Int) (f : Int) = ((s * 32768 + r * 1024 + f : Nat) : Int) := by
  constructor
  · have := u16_or_nat (s * 32768) (r * 1024) (by omega) (by omega)
    rw [nat_join 15 (s * 32768) (r * 1024) (by simp) (by simp; omega)] at this
    rw [← this]; congr 1
  · rw [u16_or_nat _ _ (by omega) (by omega), nat_join 10 (s * 32768 + r * 1024) f (by simp; omega) (by simpa using hf)]
def hnew (b : Nat) : Nat :=
  b / 2147483648 * 32768 + (if b / 8388608 % 256 = 0 then b / 8192 % 1024 else if b / 8388608 % 256 = 255 then 31744 + b / 8192 % 1024 else if 142 < b / 8388608 % 256 then 31744 else if b / 8388608 % 256 < 113 then 0 else (b / 8388608 % 256 - 112) * 1024 + b / 8192 % 1024)
set_option maxRecDepth 100000 in
set_option maxHeartbeats 1000000 in
theorem new_mid (b s e f : Nat) (hs : s < 2) (hf : f < 1024) (h1 : 113 ≤ e) (h2 : e ≤ 142)
  (f1 : bits .and .u32 ((b : Int) / 2147483648) 1 = (s : Int)) (f2 : bits .and .u32 ((b : Int) / 8388608) 255 = (e : Int)) (f3 : bits .and .u16 (IntKind.u16.wrap ((b : Int) / 8192)) 1023 = (f : Int)) (w : World) :
    Calls Try.prog 27 #[.float .f32 b] w fun e' w' => e' = .returned (.agg #[.int .u16 ((s * 32768 + (e - 112) * 1024 + f : Nat) : Int)]) ∧ Grown w w' := by
  have h40 := f32bits
  obtain ⟨o1, o2⟩ := or_facts s (e - 112) f hs (by omega) hf
  rw [show ((e - 112 : Nat) : Int) = (e : Int) - 127 + 15 by omega] at o1
  have t1 : ((e : Int) == 0) = false := by simp; omega
  have t2 : ((e : Int) == 255) = false := by simp; omega
  generalize s * 32768 + (e - 112) * 1024 = X at o1 o2 ⊢
  generalize X + f = Y at o2 ⊢
  have hE := Lib.hid (And.intro hs hf)
  go_enter Try.func27, Try.ntmps27
  go_wp2
  all_goals go_returns
  all_goals exact ⟨rfl, by go_grown⟩
set_option maxRecDepth 100000 in
set_option maxHeartbeats 1000000 in
theorem new_zero (b s e f : Nat) (hs : s < 2) (hf : f < 1024) (h1 : e = 0)
  (f1 : bits .and .u32 ((b : Int) / 2147483648) 1 = (s : Int)) (f2 : bits .and .u32 ((b : Int) / 8388608) 255 = (e : Int)) (f3 : bits .and .u16 (IntKind.u16.wrap ((b : Int) / 8192)) 1023 = (f : Int)) (w : World) :
    Calls Try.prog 27 #[.float .f32 b] w fun e' w' => e' = .returned (.agg #[.int .u16 ((s * 32768 + f : Nat) : Int)]) ∧ Grown w w' := by
  have h40 := f32bits
  obtain ⟨o1, o2⟩ := or_facts s 0 f hs (by omega) hf
  simp only [Nat.zero_mul, Nat.add_zero, Int.ofNat_zero, Int.zero_mul, Int.natCast_zero] at o1 o2
  subst h1
  generalize s * 32768 = X at o1 o2 ⊢
  generalize X + f = Y at o2 ⊢
  have hE := Lib.hid (And.intro hs hf)
  go_enter Try.func27, Try.ntmps27
  go_wp2
  all_goals go_returns
  all_goals exact ⟨rfl, by go_grown⟩
set_option maxRecDepth 100000 in
set_option maxHeartbeats 1000000 in
theorem new_inf (b s e f : Nat) (hs : s < 2) (hf : f < 1024) (h1 : e = 255)
  (f1 : bits .and .u32 ((b : Int) / 2147483648) 1 = (s : Int)) (f2 : bits .and .u32 ((b : Int) / 8388608) 255 = (e : Int)) (f3 : bits .and .u16 (IntKind.u16.wrap ((b : Int) / 8192)) 1023 = (f : Int)) (w : World) :
    Calls Try.prog 27 #[.float .f32 b] w fun e' w' => e' = .returned (.agg #[.int .u16 ((s * 32768 + 31744 + f : Nat) : Int)]) ∧ Grown w w' := by
  have h40 := f32bits
  obtain ⟨o1, o2⟩ := or_facts s 31 f hs (by omega) hf
  rw [show ((31 : Nat) : Int) * 1024 = 31744 from rfl] at o1
  simp only [show 31 * 1024 = 31744 from rfl] at o1 o2
  subst h1
  generalize s * 32768 + 31744 = X at o1 o2 ⊢
  generalize X + f = Y at o2 ⊢
  have hE := Lib.hid (And.intro hs hf)
  go_enter Try.func27, Try.ntmps27
  go_wp2
  all_goals go_returns
  all_goals exact ⟨rfl, by go_grown⟩
set_option maxRecDepth 100000 in
set_option maxHeartbeats 1000000 in
theorem new_big (b s e f : Nat) (hs : s < 2) (hf : f < 1024) (h1 : 142 < e) (h2 : e < 255)
  (f1 : bits .and .u32 ((b : Int) / 2147483648) 1 = (s : Int)) (f2 : bits .and .u32 ((b : Int) / 8388608) 255 = (e : Int)) (f3 : bits .and .u16 (IntKind.u16.wrap ((b : Int) / 8192)) 1023 = (f : Int)) (w : World) :
    Calls Try.prog 27 #[.float .f32 b] w fun e' w' => e' = .returned (.agg #[.int .u16 ((s * 32768 + 31744 : Nat) : Int)]) ∧ Grown w w' := by
  have h40 := f32bits
  obtain ⟨o1, o2⟩ := or_facts s 31 0 hs (by omega) (by omega)
  rw [show ((31 : Nat) : Int) * 1024 = 31744 from rfl] at o1
  simp only [show 31 * 1024 = 31744 from rfl, Nat.add_zero, Int.natCast_zero] at o1 o2
  have t1 : ((e : Int) == 0) = false := by simp; omega
  have t2 : ((e : Int) == 255) = false := by simp; omega
  generalize s * 32768 + 31744 = X at o1 o2 ⊢
  have hE := Lib.hid (And.intro hs hf)
  go_enter Try.func27, Try.ntmps27
  go_wp2
  all_goals go_returns
  all_goals exact ⟨rfl, by go_grown⟩
set_option maxRecDepth 100000 in
set_option maxHeartbeats 1000000 in
theorem new_small (b s e f : Nat) (hs : s < 2) (hf : f < 1024) (h1 : 0 < e) (h2 : e < 113)
  (f1 : bits .and .u32 ((b : Int) / 2147483648) 1 = (s : Int)) (f2 : bits .and .u32 ((b : Int) / 8388608) 255 = (e : Int)) (f3 : bits .and .u16 (IntKind.u16.wrap ((b : Int) / 8192)) 1023 = (f : Int)) (w : World) :
    Calls Try.prog 27 #[.float .f32 b] w fun e' w' => e' = .returned (.agg #[.int .u16 ((s * 32768 : Nat) : Int)]) ∧ Grown w w' := by
  have h40 := f32bits
  obtain ⟨o1, o2⟩ := or_facts s 0 0 hs (by omega) (by omega)
  simp only [Nat.zero_mul, Nat.add_zero, Int.natCast_zero, Int.zero_mul] at o1 o2
  have t1 : ((e : Int) == 0) = false := by simp; omega
  have t2 : ((e : Int) == 255) = false := by simp; omega
  generalize s * 32768 = X at o1 o2 ⊢
  have hE := Lib.hid (And.intro hs hf)
  go_enter Try.func27, Try.ntmps27
  go_wp2
  all_goals go_returns
  all_goals exact ⟨rfl, by go_grown⟩
theorem new_any (b : Nat) (h : b < 4294967296) (w : World) : Calls Try.prog 27 #[.float .f32 b] w fun e' w' => e' = .returned (.agg #[.int .u16 ((hnew b : Nat) : Int)]) ∧ Grown w w' := by
  obtain ⟨f1, f2, f3⟩ := b_facts b h
  have hs : b / 2147483648 < 2 := by omega
  have hf : b / 8192 % 1024 < 1024 := by omega
  have he : b / 8388608 % 256 < 256 := by omega
  unfold hnew
  generalize b / 2147483648 = s at *
  generalize b / 8388608 % 256 = e at *
  generalize b / 8192 % 1024 = f at *
  by_cases c1 : e = 0
  · rw [if_pos c1]; exact new_zero b s e f hs hf c1 f1 f2 f3 w
  · rw [if_neg c1]
    by_cases c2 : e = 255
    · rw [if_pos c2, ← Nat.add_assoc]; exact new_inf b s e f hs hf c2 f1 f2 f3 w
    · rw [if_neg c2]
      by_cases c3 : 142 < e
      · rw [if_pos c3]; exact new_big b s e f hs hf c3 (by omega) f1 f2 f3 w
      · rw [if_neg c3]
        by_cases c4 : e < 113
        · rw [if_pos c4, Nat.add_zero]; exact new_small b s e f hs hf (by omega) c4 f1 f2 f3 w
        · rw [if_neg c4, ← Nat.add_assoc]; exact new_mid b s e f hs hf (by omega) (by omega) f1 f2 f3 w
theorem halfNew_any (b : Nat) (h : b < 4294967296) (w : World) : Calls Try.prog 12 #[.float .f32 b] w fun e' w' => e' = .returned (.int .u16 ((hnew b : Nat) : Int)) ∧ Grown w w' := by
  have hA := Lib.hid (fun W => new_any b h W)
  generalize hnew b = n at *
  clear h
  go_enter Try.func12, Try.ntmps12
  go_wp2_with (first | (go_at_call 27; (with_reducible refine (hA.out _).mono ?_); rintro e w' ⟨rfl, hg⟩) | go_in)
  go_ret
  exact ⟨rfl, by go_grown⟩
theorem same_any (n : Int) (w : World) : Calls Try.prog 11 #[.int .u16 n, .int .u16 n] w fun e' w' => e' = .returned (.bool true) ∧ Grown w w' := by
  go_enter Try.func11, Try.ntmps11
  go_wp2
  go_ret
  exact ⟨rfl, by go_grown⟩
end Go.Proofs.Ytocpkfaoapbjgaa
