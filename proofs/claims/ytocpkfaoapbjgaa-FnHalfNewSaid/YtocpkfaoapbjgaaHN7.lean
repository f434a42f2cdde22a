/- For every float32: where something is claimed, the half that New makes is the one that is due: cut towards zero, infinite from 2^16 on, zero below 2^-14. All inputs. -/
import Derived.Test.YtocpkfaoapbjgaaHN6
set_option linter.unusedVariables false
set_option linter.unusedSimpArgs false
namespace Go.Proofs.Ytocpkfaoapbjgaa.fnHalfNew
open Go.ChangeShapes Go.WideShapes Go.ChangeAt Go.RowKit
theorem own : ownKnob Try.prog.godebug = none := by kernel_rfl
set_option maxRecDepth 100000 in
set_option maxHeartbeats 1000000 in
theorem walk_b (b : Nat) (hb : b < 4294967296) (w : World) :
    Calls Try.prog 5 #[.float .f32 b] w fun e w' => e = .returned (.bool true) ∧ Grown w w' := by
  have HC := Lib.hid (fun W => cut_any b hb W)
  have HN := Lib.hid (fun W => halfNew_any b hb W)
  clear hb
  unfold PC2 at HC
  generalize ((hnew b : Nat) : Int) = m at *
  go_enter Try.func5, Try.ntmps5
  go_wp2_with fail
  refine (HC.out _).mono ?_
  rintro e w1 ⟨n, k, rfl, hk, hg1⟩
  cases k
  case false =>
    clear hk
    go_wp2_with (first
      | (go_at_call 7; (with_reducible refine (halves_any _).mono ?_); rintro e w' ⟨rfl, hg2⟩))
    go_ret
    exact ⟨rfl, grown_trans hg1 hg2⟩
  case true =>
    have hk' := hk rfl
    clear hk
    subst hk'
    go_wp2_with (first
      | (go_at_call 7; (with_reducible refine (halves_any _).mono ?_); rintro e w' ⟨rfl, hg2⟩)
      | (go_at_call 12; (with_reducible refine (HN.out _).mono ?_); rintro e w' ⟨rfl, hg3⟩)
      | (go_at_call 11; (with_reducible refine (same_any _ _).mono ?_); rintro e w' ⟨rfl, hg4⟩))
    go_ret
    exact ⟨rfl, grown_trans (grown_trans (grown_trans hg1 hg2) hg3) hg4⟩
theorem walk (a0 : Nat) (w0 : (Lit.float .f32 a0).wf = true) (w : World) :
    Calls Try.prog 5 #[.float .f32 a0] w fun e w' => e = .returned (.bool true) ∧ Grown w w' :=
  walk_b a0 (by simpa [Lit.wf] using w0) w
/-! ### THE ROW's STEP: WRITTEN OUT: LEAVE IT -/
set_option maxRecDepth 100000 in
theorem lifted (os : Os) (started : os.Started) (H : Type) (enc : TypeId × Value → H) :
    ReturnsInHanded {} Try.checked os 5 .any (Rows.fnHalfNewSpec.pre6 enc Try.prog Try.f5 Rows.fnHalfNewRow.domain false) (Rows.fnHalfNewSpec.post enc Try.prog Try.f5 false true false false) := by
  refine returnsInHanded_of_change (C := Try.checked) own started (by kernel_rfl) Try.func5
    (ChangeSpec.witness6 (enc := enc) (C := Try.checked) false ⟨#[], #[.float .f32 0], []⟩ 8 (by kernel_rfl) (by kernel_rfl) (by kernel_rfl) (by kernel_rfl)) ?_
  intro W base args ds gs before hval0 hW hcnd _
  have hval : ∀ (j : Nat) t v, Try.f5.params[j]? = some t → args[j]? = some v → Value.okWide Try.prog W .any base t v := hval0
  have hW' := hW
  obtain ⟨p, q, hA0, hV, rfl, hfz, hnd⟩ := hW
  have hA : DataW.TrodAll enc Try.prog W 0 (fun _ => true) true Try.f5.params.toList args.toList ds p := hA0
  rw [Try.params5] at hA hval
  obtain ⟨v0, vs0, d0, ds0, p0, q0, hargs, rfl, rfl, h0, r0⟩ := trodAll_cons hA
  obtain ⟨rfl, rfl, rfl⟩ := trodAll_nil r0
  obtain rfl : args = #[v0] := by cases args; simp_all
  obtain ⟨rfl, rfl⟩ := trodVars_none hV
  obtain ⟨a0, rfl, rfl, rfl, w0⟩ := open_float Try.underlying30 (hval 0 30 v0 rfl rfl) h0
  clear hA0 hval0
  simp only [List.append_nil] at hW'
  refine (walk a0 w0 W).mono fun e W' ⟨he, hg⟩ => ?_
  subst he
  exact ⟨_, rfl, post_of_same (pa := []) (pv := []) hW' (fun _ _ _ => (trodAll_cons_mk (shut_bool Try.underlying4 _) trodAll_mk0)) (fun sp _ => (trodAll_cons_mk (shut_float Try.underlying30 w0) trodAll_mk0)) (fun _ _ => rfl) rfl
    (hg.frame _) hg.2.1 (ok_one (by kernel_rfl) rfl (okWide_bool_mk Try.underlying4 _))⟩

theorem over : Rows.fnHalfNewRow.holds Try.pinned (OpenSpec.ofChange Rows.fnHalfNewSpec) :=
  OpenClaim.holds_of_wide 5 Try.f5 rfl rfl rfl rfl rfl rfl rfl ⟨rfl, rfl, rfl, rfl, rfl⟩ rfl rfl rfl rfl rfl (by kernel_rfl) Try.func5 (by kernel_rfl)
    (of_decide_eq_true (by kernel_rfl)) (by unfold Func.isWrapper; first | (rw [if_pos (by decide +kernel)]; kernel_rfl) | (rw [if_neg (by decide +kernel)]; exact ⟨rfl, rfl⟩))
    (fun os started H enc _ => lifted os started H enc)

/-- ████ THE STATEMENT ████ -/
theorem proved : Rows.FnHalfNewSaid :=
  over
#print axioms proved
end Go.Proofs.Ytocpkfaoapbjgaa.fnHalfNew
