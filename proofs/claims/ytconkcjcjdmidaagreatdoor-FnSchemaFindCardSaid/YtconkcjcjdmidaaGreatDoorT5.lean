/- Numbers among others; how many fields a kind has; which of a type's numbers are used. (YtconkcjcjdmidaaGreatDoor) -/
import Derived.Test.YtconkcjcjdmidaaGreatDoorT1
set_option linter.unusedVariables false
set_option linter.unusedSimpArgs false
namespace Go.Proofs.YtconkcjcjdmidaaGreatDoor
open Go.RowKit Go.ChangeShapes Go.WideShapes Go.ChangeAt Go
def PInN (w : World) (b : Bool) (e : Ending) (w' : World) : Prop := e = .returned (.bool b) ∧ w' = w
theorem in_any (w : World) (n : Int) (b o c : Nat) (zs : List Int) (hz : zs.length ≤ maxLen) (h : ∀ j, j < zs.length → w.cell? ⟨b, o + j, none⟩ = some (.int .i64 (zs.getD j 0))) :
    Calls Tryz.prog 31 #[.int .i64 n, .slice (some ⟨b, o, none⟩) zs.length c] w (PInN w (decide (n ∈ zs))) := by
  have hm : maxLen = 9223372036854775807 := by decide
  have hF := hide (fun (h : ∀ j, j < zs.length → zs.getD j 0 ≠ n) => (show PInN w (decide (n ∈ zs)) (.returned (.bool false)) w from ⟨by
    have : ¬ n ∈ zs := fun hn => by
      obtain ⟨j, hj, e⟩ := List.getElem_of_mem hn
      exact h j hj (by rw [List.getD_eq_getElem?_getD, List.getElem?_eq_getElem hj]; exact e)
    simp [this], rfl⟩))
  have hT := hide (fun (j : Nat) (hj : j < zs.length) (e : n = zs.getD j 0) => (show PInN w (decide (n ∈ zs)) (.returned (.bool true)) w from ⟨by
    have : n ∈ zs := by rw [e, List.getD_eq_getElem?_getD, List.getElem?_eq_getElem hj]; exact List.getElem_mem hj
    simp [this], rfl⟩))
  have HC := hide h
  clear h
  go_enter Tryz.func31, Tryz.ntmps31
  go_wp2_with fail
  go_loopw [9] (fun v wr => ∃ k : Nat, k ≤ zs.length ∧ v = .int .i64 (k : Int) ∧ wr = w ∧ Hid (∀ j, j < k → zs.getD j 0 ≠ n)) (fun v _ => zs.length - (intOf v).toNat)
  case atStart => exact ⟨0, by omega, rfl, rfl, fun j hj => absurd hj (by omega)⟩
  case round =>
    obtain ⟨k, hk, rfl, rfl, hno⟩ := hrel
    by_cases hlt : k < zs.length
    · have hc := (unhide HC) k hlt
      have hlt' : (k : Int) < (zs.length : Int) := by omega
      have hw1 : IntKind.i64.wrap ((k : Int) + 1) = (k : Int) + 1 := (IntWalk.i64_left _).trans (IntWalk.wrap64_in _ (by omega))
      have hTk := hide ((unhide hT) k hlt)
      have hN := hide (fun (h : ¬ n = zs.getD k 0) => (show ∀ j, j < k + 1 → zs.getD j 0 ≠ n from fun j hj => by
        rcases Nat.lt_or_ge j k with h1 | h1
        · exact (unhide hno) j h1
        · obtain rfl : j = k := by omega
          exact fun e => h e.symm))
      generalize zs.getD k 0 = z at *
      by_cases he : n = z
      · have hb : (n == z) = true := by simp [he]
        have hT2 := hide ((unhide hTk) he)
        clear he hTk hN hT hF
        go_wp2_with fail
        go_ret
        exact unhide hT2
      · have hb : (n == z) = false := by simp [he]
        have hN2 := hide ((unhide hN) he)
        clear he hTk hN hT hF
        go_wp2_with fail
        exact ⟨⟨k + 1, by omega, by simp, by first | rfl | trivial, unhide hN2⟩, by show zs.length - (intOf (Value.int IntKind.i64 ((k : Int) + 1))).toNat < zs.length - (intOf (Value.int IntKind.i64 (k : Int))).toNat; simp only [intOf]; omega⟩
    · obtain rfl : k = zs.length := by omega
      have hlt' : ¬ (zs.length : Int) < (zs.length : Int) := by omega
      go_wp2_with fail
      go_ret
      exact (unhide hF) (unhide hno)
theorem in_nil (w : World) (n : Int) (A : Option Addr) (c : Nat) : Calls Tryz.prog 31 #[.int .i64 n, .slice A 0 c] w (PInN w false) := by
  go_enter Tryz.func31, Tryz.ntmps31
  go_wp2_with fail
  refine wp_loop_rounds 1 ?_
  rw [rounds_succ]
  go_wp2_with fail
  go_ret
  exact ⟨rfl, rfl⟩
def leastP (k : Int) : Int := if k = 12 ∨ k = 21 ∨ k = 25 ∨ k = 26 ∨ k = 16 ∨ k = 17 then 1 else if k = 22 ∨ k = 27 then 2 else 0
def mostP (k : Int) : Int := if k = 12 ∨ k = 21 ∨ k = 25 ∨ k = 26 ∨ k = 16 ∨ k = 17 then 1 else if k = 22 ∨ k = 27 then 2 else if k = 13 ∨ k = 14 then 100 else 0
def PParts (w : World) (k : Int) (e : Ending) (w' : World) : Prop := e = .returned (.tuple #[.int .i64 (leastP k), .int .i64 (mostP k)]) ∧ w' = w
theorem parts_any (w : World) (k : Int) : Calls Tryz.prog 28 #[.int .i64 k] w (PParts w k) := by
  have hF := hide (fun (a b : Int) (h1 : leastP k = a) (h2 : mostP k = b) => (show PParts w k (.returned (.tuple #[.int .i64 a, .int .i64 b])) w from ⟨by rw [h1, h2], rfl⟩))
  have hv : (k = 12 ∨ k = 21 ∨ k = 25 ∨ k = 26 ∨ k = 16 ∨ k = 17 ∨ k = 22 ∨ k = 27 ∨ k = 13 ∨ k = 14) ∨ (k ≠ 12 ∧ k ≠ 21 ∧ k ≠ 25 ∧ k ≠ 26 ∧ k ≠ 16 ∧ k ≠ 17 ∧ k ≠ 22 ∧ k ≠ 27 ∧ k ≠ 13 ∧ k ≠ 14) := by omega
  rcases hv with h | ⟨h1, h2, h3, h4, h5, h6, h7, h8, h9, h10⟩
  · rcases h with rfl | rfl | rfl | rfl | rfl | rfl | rfl | rfl | rfl | rfl
    all_goals
      go_enter Tryz.func28, Tryz.ntmps28
      go_wp2_with fail
      go_returns
      exact unhide hF _ _ (by decide) (by decide)
  · have e1 := hide (show leastP k = 0 by simp [leastP, h1, h2, h3, h4, h5, h6, h7, h8])
    have e2 := hide (show mostP k = 0 by simp [mostP, h1, h2, h3, h4, h5, h6, h7, h8, h9, h10])
    have z1 : (k == 12) = false := by simp [h1]
    have z2 : (k == 21) = false := by simp [h2]
    have z3 : (k == 25) = false := by simp [h3]
    have z4 : (k == 26) = false := by simp [h4]
    have z5 : (k == 16) = false := by simp [h5]
    have z6 : (k == 17) = false := by simp [h6]
    have z7 : (k == 22) = false := by simp [h7]
    have z8 : (k == 27) = false := by simp [h8]
    have z9 : (k == 13) = false := by simp [h9]
    have z10 : (k == 14) = false := by simp [h10]
    clear h1 h2 h3 h4 h5 h6 h7 h8 h9 h10
    go_enter Tryz.func28, Tryz.ntmps28
    go_wp2_with fail
    go_returns
    exact unhide hF _ _ (unhide e1) (unhide e2)
theorem precisions_any (w : World) (k : Int) : Calls Tryz.prog 32 #[.int .i64 k] w fun e w' => ∃ m : Int, e = .returned (.int .i64 m) ∧ i64in m ∧ w' = w := by
  go_enter Tryz.func32, Tryz.ntmps32
  go_wp2_with fail
  all_goals (go_ret; exact ⟨_, rfl, ⟨by decide, by decide⟩, rfl⟩)
end Go.Proofs.YtconkcjcjdmidaaGreatDoor
