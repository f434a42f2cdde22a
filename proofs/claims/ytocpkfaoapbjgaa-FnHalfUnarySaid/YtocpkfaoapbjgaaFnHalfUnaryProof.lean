/- For every 16 bits: a half that is normal, zero or infinite, and not zero, has with the other sign the other sign bit, and without one no sign bit. All inputs. -/
import Derived.Test.YtocpkfaoapbjgaaRows
import Derived.WalkKit
import Derived.ProofKit
import Derived.OpenShut
import Derived.WalkLawsBesides
import Derived.Handy
import Derived.Test.YtocpkfaoapbjgaaA
set_option linter.unusedVariables false
set_option linter.unusedSimpArgs false
namespace Go.Proofs.Ytocpkfaoapbjgaa.fnHalfUnary
open Go.ChangeShapes Go.WideShapes Go.ChangeAt Go.RowKit
theorem own : ownKnob Try.prog.godebug = none := by kernel_rfl

def usualB (a : Int) : Bool := !((bits .and .u16 (a / 1024) 31 == 31) && !(bits .and .u16 a 1023 == 0)) && (!(bits .and .u16 (a / 1024) 31 == 0) || (bits .and .u16 a 1023 == 0))
theorem usual_any (a : Int) (w : World) : Calls Try.prog 6 #[.int .u16 a] w fun e w' => e = .returned (.bool (usualB a)) ∧ w = w' := by
  go_enter Try.func6, Try.ntmps6
  go_wp2
  all_goals (go_ret; refine ⟨?_, rfl⟩; simp_all [usualB])
theorem neg_any (a : Int) (w : World) : Calls Try.prog 8 #[.int .i64 0, .int .u16 a] w fun e w' => e = .returned (.int .u16 (bits .xor .u16 a 32768)) ∧ Grown w w' := by
  go_enter Try.func8, Try.ntmps8
  go_wp2
  go_returns
  exact ⟨rfl, by go_grown⟩
def absB (a : Int) : Int := if (bits .and .u16 a 32767 == 0) then a else if (bits .and .u16 a 32768 == 0) then a else bits .xor .u16 a 32768
theorem abs_any (a : Int) (w : World) : Calls Try.prog 8 #[.int .i64 1, .int .u16 a] w fun e w' => e = .returned (.int .u16 (absB a)) ∧ Grown w w' := by
  go_enter Try.func8, Try.ntmps8
  go_wp2
  all_goals (go_returns; refine ⟨?_, by go_grown⟩; simp_all [absB])
theorem and_bit15 (a : Nat) (h : a < 65536) : (a < 32768 ∧ a &&& 32768 = 0) ∨ (32768 ≤ a ∧ a &&& 32768 = 32768) := by
  have := nat_bit 15 a
  simp only [Nat.reducePow] at this
  omega
theorem xor_of_or (m p : Nat) (h : m &&& p = 0) : (m ||| p) ^^^ p = m := by
  apply Nat.eq_of_testBit_eq
  intro i
  have hi : (m &&& p).testBit i = false := by rw [h]; simp
  rw [Nat.testBit_and] at hi
  rw [Nat.testBit_xor, Nat.testBit_or]
  cases h1 : m.testBit i <;> cases h2 : p.testBit i <;> simp_all
theorem abs_is (a : Int) (h0 : 0 ≤ a) (h1 : a < 65536) (hz : (bits .and .u16 a 32767 == 0) = false) : absB a = bits .andNot .u16 a 32768 := by
  obtain ⟨n, rfl⟩ := Int.eq_ofNat_of_zero_le h0
  have hn : n < 65536 := by omega
  unfold absB
  rw [hz]
  simp only [Bool.false_eq_true, if_false]
  have e1 : bits .and .u16 (n : Int) 32768 = ((n &&& 32768 : Nat) : Int) := u16_and_nat n 32768 hn (by decide)
  have e2 : bits .xor .u16 (n : Int) 32768 = ((n ^^^ 32768 : Nat) : Int) := u16_xor_nat n 32768 hn (by decide)
  have e3 : bits .andNot .u16 (n : Int) 32768 = ((n &&& 32767 : Nat) : Int) := u16_andNot_nat n 32768 hn (by decide)
  rw [e1, e2, e3, nat_mask15]
  rcases and_bit15 n hn with ⟨h, e⟩ | ⟨h, e⟩
  · rw [e, Nat.mod_eq_of_lt h]
    rfl
  · rw [e]
    have hx : (n - 32768) ||| 32768 = n := by
      rw [Nat.or_comm, nat_join 15 32768 (n - 32768) (by decide) (by simp only [Nat.reducePow]; omega)]
      omega
    have hand : (n - 32768) &&& 32768 = 0 := by
      have := nat_bit 15 (n - 32768)
      simp only [Nat.reducePow] at this
      omega
    have hr : n ^^^ 32768 = n - 32768 := by
      have := xor_of_or (n - 32768) 32768 hand
      rwa [hx] at this
    rw [hr, if_neg (by decide)]
    have : n % 32768 = n - 32768 := by omega
    rw [this]
set_option maxRecDepth 100000 in
theorem walk (a0 : Int) (w0 : (Lit.int .u16 a0).wf = true) (w : World) :
    Calls Try.prog 3 #[.int .u16 a0] w fun e w' => e = .returned (.bool true) ∧ Grown w w' := by
  have hb : 0 ≤ a0 ∧ a0 < 65536 := by
    have := bounds_u16 w0
    omega
  cases hu : usualB a0 <;> cases hz : (bits .and .u16 a0 32767 == 0)
  case true.false =>
    have ha := abs_is a0 hb.1 hb.2 hz
    clear hb
    go_enter Try.func3, Try.ntmps3
    go_wp2_with (first | (go_at_call 6; (with_reducible refine (usual_any _ _).mono ?_); rintro e w' ⟨rfl, rfl⟩) | (go_at_call 7; (with_reducible refine (halves_any _).mono ?_); rintro e w' ⟨rfl, hg⟩) | (go_at_call 8; (with_reducible refine (neg_any _ _).mono ?_); rintro e w' ⟨rfl, hg1⟩) | (go_at_call 8; (with_reducible refine (abs_any _ _).mono ?_); rintro e w' ⟨rfl, hg2⟩))
    go_ret
    exact ⟨rfl, grown_trans (grown_trans hg hg1) hg2⟩
  all_goals
    clear hb
    go_enter Try.func3, Try.ntmps3
    go_wp2_with (first | (go_at_call 6; (with_reducible refine (usual_any _ _).mono ?_); rintro e w' ⟨rfl, rfl⟩) | (go_at_call 7; (with_reducible refine (halves_any _).mono ?_); rintro e w' ⟨rfl, hg⟩))
    go_ret
    exact ⟨rfl, hg⟩

/-! ### THE ROW's STEP: WRITTEN OUT: LEAVE IT -/
set_option maxRecDepth 100000 in
theorem lifted (os : Os) (started : os.Started) (H : Type) (enc : TypeId × Value → H) :
    ReturnsInHanded {} Try.checked os 3 .any (Rows.fnHalfUnarySpec.pre6 enc Try.prog Try.f3 Rows.fnHalfUnaryRow.domain false) (Rows.fnHalfUnarySpec.post enc Try.prog Try.f3 false true false false) := by
  refine returnsInHanded_of_change (C := Try.checked) own started (by kernel_rfl) Try.func3
    (ChangeSpec.witness6 (enc := enc) (C := Try.checked) false ⟨#[], #[.int .u16 0], []⟩ 8 (by kernel_rfl) (by kernel_rfl) (by kernel_rfl) (by kernel_rfl)) ?_
  intro W base args ds gs before hval0 hW hcnd _
  have hval : ∀ (j : Nat) t v, Try.f3.params[j]? = some t → args[j]? = some v → Value.okWide Try.prog W .any base t v := hval0
  have hW' := hW
  obtain ⟨p, q, hA0, hV, rfl, hfz, hnd⟩ := hW
  have hA : DataW.TrodAll enc Try.prog W 0 (fun _ => true) true Try.f3.params.toList args.toList ds p := hA0
  rw [Try.params3] at hA hval
  obtain ⟨v0, vs0, d0, ds0, p0, q0, hargs, rfl, rfl, h0, r0⟩ := trodAll_cons hA
  obtain ⟨rfl, rfl, rfl⟩ := trodAll_nil r0
  obtain rfl : args = #[v0] := by cases args; simp_all
  obtain ⟨rfl, rfl⟩ := trodVars_none hV
  obtain ⟨a0, rfl, rfl, rfl, w0⟩ := open_int Try.underlying22 (hval 0 22 v0 rfl rfl) h0
  clear hA0 hval0
  simp only [List.append_nil] at hW'
  refine (walk a0 w0 W).mono fun e W' ⟨he, hg⟩ => ?_
  subst he
  exact ⟨_, rfl, post_of_same (pa := []) (pv := []) hW' (fun _ _ _ => (trodAll_cons_mk (shut_bool Try.underlying4 _) trodAll_mk0)) (fun sp _ => (trodAll_cons_mk (shut_int Try.underlying22 w0) trodAll_mk0)) (fun _ _ => rfl) rfl
    (hg.frame _) hg.2.1 (ok_one (by kernel_rfl) rfl (okWide_bool_mk Try.underlying4 _))⟩

theorem over : Rows.fnHalfUnaryRow.holds Try.pinned (OpenSpec.ofChange Rows.fnHalfUnarySpec) :=
  OpenClaim.holds_of_wide 3 Try.f3 rfl rfl rfl rfl rfl rfl rfl ⟨rfl, rfl, rfl, rfl, rfl⟩ rfl rfl rfl rfl rfl (by kernel_rfl) Try.func3 (by kernel_rfl)
    (of_decide_eq_true (by kernel_rfl)) (by unfold Func.isWrapper; first | (rw [if_pos (by decide +kernel)]; kernel_rfl) | (rw [if_neg (by decide +kernel)]; exact ⟨rfl, rfl⟩))
    (fun os started H enc _ => lifted os started H enc)

/-- ████ THE STATEMENT ████ -/
theorem proved : Rows.FnHalfUnarySaid :=
  over
#print axioms proved
end Go.Proofs.Ytocpkfaoapbjgaa.fnHalfUnary
