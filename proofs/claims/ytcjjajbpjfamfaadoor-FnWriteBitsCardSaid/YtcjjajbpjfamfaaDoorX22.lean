/- Bits written: the thin package's function. (YtcjjajbpjfamfaaDoor) -/
import Derived.Test.YtcjjajbpjfamfaaDoorX20
import Derived.Test.YtcjjajbpjfamfaaDoorX21
import Derived.Deep.CutRange
set_option linter.unusedVariables false
set_option linter.unusedSimpArgs false
namespace Go.Proofs.YtcjjajbpjfamfaaDoor
open Go.ChangeShapes Go.WideShapes Go.ChangeAt Go.RowKit
def RDY (B G P N cap : Nat) (mem : List Nat) (w3 wx : World) : Prop :=
  Calls Tryd.prog 16 #[.pointer (some ⟨P, 0, none⟩)] wx (fun e w' => e = .returned (.tuple #[]) ∧ w'.ownsRow B 5 1 (.slice (some ⟨G, 0, none⟩) N cap) N (bv mem) ∧ Mod [P, G] wx w') ∧ Mod [P, G] w3 wx
def LW0 (w3 : World) (B G P N cap f : Nat) (d : List Nat) (l : List Bool) (v27 : Value) (wr : World) : Prop :=
  ∃ k : Nat, k ≤ l.length ∧ v27 = .int .i64 (k : Int) ∧ WSt B G P N cap 0 N cap f d l k wr ∧ Mod [P, G] w3 wr
/-- the source that is built: its bits from the third on. -/
def srcN (l : List Bool) (n : Nat) : Nat → List Nat
  | 0 => List.replicate ((n + 10) / 8) 0
  | k + 1 => if l.getD k false then (srcN l n k).set ((k + 3) / 8) ((srcN l n k).getD ((k + 3) / 8) 0 ||| 2 ^ ((k + 3) % 8)) else srcN l n k
theorem srcN_length (l : List Bool) (n : Nat) : ∀ k, (srcN l n k).length = (n + 10) / 8
  | 0 => by simp [srcN]
  | k + 1 => by
    have := srcN_length l n k
    simp only [srcN]
    split
    · rw [List.length_set, this]
    · exact this
theorem srcN_small (l : List Bool) (n : Nat) : ∀ k, Small (srcN l n k)
  | 0 => by
    intro x hx
    simp only [srcN] at hx
    rw [List.eq_of_mem_replicate hx]; decide
  | k + 1 => by
    have := srcN_small l n k
    simp only [srcN]
    split
    · exact this.set _ _ (or_lt8 (this.get _) (pow_lt8 (by omega)))
    · exact this
theorem bitAt_srcN (l : List Bool) (n : Nat) : ∀ k, k ≤ n → ∀ i, bitAt (srcN l n k) i = if 3 ≤ i ∧ i < 3 + k then l.getD (i - 3) false else false
  | 0, _, i => by
    rw [if_neg (by omega)]
    unfold bitAt
    simp only [srcN]
    have : (List.replicate ((n + 10) / 8) 0).getD (i / 8) 0 = 0 := by
      rw [List.getD_eq_getElem?_getD, List.getElem?_replicate]
      split <;> rfl
    rw [this]; simp
  | k + 1, hk, i => by
    have ih := bitAt_srcN l n k (by omega)
    have hlen := srcN_length l n k
    simp only [srcN]
    cases hb : l.getD k false
    · rw [if_neg (by simp), ih i]
      by_cases c : 3 ≤ i ∧ i < 3 + k
      · rw [if_pos c, if_pos (by omega)]
      · rw [if_neg c]
        by_cases c2 : 3 ≤ i ∧ i < 3 + (k + 1)
        · rw [if_pos c2]
          have : i - 3 = k := by omega
          rw [this, hb]
        · rw [if_neg c2]
    · rw [if_pos rfl, bitAt_set _ _ _ _ (by omega)]
      by_cases c0 : i / 8 = (k + 3) / 8
      · rw [if_pos c0, Nat.testBit_or, tb_pow]
        have e : (srcN l n k).getD ((k + 3) / 8) 0 = (srcN l n k).getD (i / 8) 0 := by rw [c0]
        have e2 : ((srcN l n k).getD ((k + 3) / 8) 0).testBit (i % 8) = bitAt (srcN l n k) i := by rw [e]; rfl
        rw [e2, ih i]
        by_cases c1 : i = k + 3
        · subst c1
          rw [if_pos (show 3 ≤ k + 3 ∧ k + 3 < 3 + (k + 1) by omega)]
          have e3 : k + 3 - 3 = k := by omega
          rw [e3, hb]; simp
        · have c2 : ¬ (k + 3) % 8 = i % 8 := by omega
          simp only [c2, decide_false, Bool.or_false]
          by_cases c : 3 ≤ i ∧ i < 3 + k
          · rw [if_pos c, if_pos (by omega)]
          · rw [if_neg c, if_neg (by omega)]
      · rw [if_neg c0, ih i]
        by_cases c : 3 ≤ i ∧ i < 3 + k
        · rw [if_pos c, if_pos (by omega)]
        · rw [if_neg c, if_neg (by omega)]
end Go.Proofs.YtcjjajbpjfamfaaDoor
