/- FnCountBits: the row and its tied card. -/
import Derived.Test.YtfodkdadbcojeaaDoorC10
import Derived.Test.YtfodkdadbcojeaaDoorG11
import Derived.Test.YtfodkdadbcojeaaDoorL4
import Derived.Test.YtfodkdadbcojeaaDoorCards
import Derived.Test.YtfodkdadbcojeaaDoorTie
import Derived.ProofKit
import Derived.LaidMore
import Derived.OpenShut
import Derived.ChangeVars
import Derived.Stop.LaidErr
import Derived.Lib.LaidTab
import Derived.MakeChecks
import Derived.SevenTiedAt
set_option linter.unusedVariables false
set_option linter.unusedSimpArgs false
namespace Go.Proofs.YtfodkdadbcojeaaDoor
open Go.ChangeShapes Go.WideShapes Go.ChangeAt Go.RowKit
theorem cap_ge {H : Type} {enc : TypeId × Value → H} {P : Program} {w : World} {base : Nat} {held : Bool} {t e : TypeId} {A : Option Addr} {n c : Nat} {d : DataW H} {p : List MemPlace} (ht : P.underlying t = some (.slice e)) (he : P.underlying e = some (.int .u8)) (hc : P.cellsOf e = 1)
    (h : DataW.Trod enc P w base (fun _ => true) held t (.slice A n c) d p) : n ≤ c := by
  obtain ⟨fuel, h⟩ := h
  rcases open_ints ht he hc h with ⟨h1, _⟩ | ⟨a, len, cap, zs, h1, _, hl, _⟩
  · obtain ⟨_, rfl, rfl⟩ : A = none ∧ n = 0 ∧ c = 0 := by simpa [Value.cells] using h1
    exact Nat.le_refl _
  · obtain ⟨_, rfl, rfl⟩ : A = some a ∧ n = len ∧ c = cap := by simpa [Value.cells] using h1
    exact hl
theorem door_met4 (os : Os) (args : Array Value) : laidMetH Tryd.prog Rows.fnCountBitsRow.laid ((World.doorLaid Tryd.prog 65 os).forCall (fun _ _ => 0) ⟨#[], args, []⟩).memory :=
  laidMetH_of_parts3 (fuel := 8) (laidMet_of_run' 8 (by kernel_rfl) (by kernel_rfl)) (by kernel_rfl) (by kernel_rfl)
set_option maxRecDepth 100000 in
theorem lifted4 (os : Os) (started : os.Started) (H : Type) (enc : TypeId × Value → H) :
    ReturnsInHanded {} Tryd.checked os 4 .any (fun w args => (Rows.fnCountBitsSpec.pre enc Tryd.prog Tryd.f4 [] false w args ∧ laidMetH Tryd.prog Rows.fnCountBitsRow.laid w) ∧ sizedMet enc Tryd.prog Tryd.f4 (OpenSpec.ofChange Rows.fnCountBitsSpec) false w args)
      (Rows.fnCountBitsSpec.post enc Tryd.prog Tryd.f4 false true false false) := by
  refine returnsInHanded_of_change_and (C := Tryd.checked) (X := fun w _ => laidMetH Tryd.prog Rows.fnCountBitsRow.laid w) (fun _ _ _ hh h => h.of_heap hh) Tryd.own' started (by kernel_rfl) Tryd.func4
    (ChangeSpec.witness_shaped (enc := enc) (C := Tryd.checked) (os := os) (X := fun w _ => laidMetH Tryd.prog Rows.fnCountBitsRow.laid w) false (World.doorLaid Tryd.prog 65 os) #[.slice none 0 0, .int .i64 0, .int .i64 0] 8 rfl (World.shaped_of_RefB (by kernel_rfl) (by kernel_rfl)) (by kernel_rfl) (by kernel_rfl) (by kernel_rfl) (door_met4 os _)) ?_
  intro W base args ds gs before hval0 hW _ _ hL _
  have hval : ∀ (j : Nat) t v, Tryd.f4.params[j]? = some t → args[j]? = some v → Value.okWide Tryd.prog W .any base t v := hval0
  have hW' := hW
  obtain ⟨p, q, hA0, hV, rfl, hfz, hnd⟩ := hW
  have hA : DataW.TrodAll enc Tryd.prog W 0 (fun _ => true) true Tryd.f4.params.toList args.toList ds p := hA0
  rw [Tryd.params4] at hA hval
  obtain ⟨v0, v1, v2, d0, d1, d2, p0, p1, p2, rfl, rfl, rfl, h0, h1, h2⟩ := trodAll_three hA
  obtain ⟨g0, t0, cs0, f0, e0, q0, rfl, _⟩ := trodVars_one hV
  obtain ⟨A, c, d, rfl, hs, hd, hn⟩ := open_by Tryd.underlying22 Tryd.underlying5 (by kernel_rfl) (okWide_slice Tryd.underlying22 (hval 0 22 v0 rfl rfl)) h0
  have hnc := cap_ge Tryd.underlying22 Tryd.underlying5 (by kernel_rfl) h0
  obtain ⟨f, rfl, _, _, _⟩ := open_int Tryd.underlying3 (hval 1 3 v1 rfl rfl) h1
  obtain ⟨N, rfl, _, _, _⟩ := open_int Tryd.underlying3 (hval 2 3 v2 rfl rfl) h2
  rw [MakeChecks.laidMetH_plain _ _ _ (by kernel_rfl)] at hL
  have hM := tabB hL
  refine (law4_any W A c f N d hs hd hn hnc hM).mono fun e W' ⟨he, hm⟩ => ?_
  subst he
  exact ⟨_, rfl, law_post Tryd.laidOut' (by kernel_rfl) (by kernel_rfl) (by kernel_rfl) Tryd.underlying4 hW' hm.below ⟨rfl, rfl, rfl⟩⟩
theorem fnCountBits_holds : Rows.FnCountBitsSaid :=
  OpenClaim.holds_of_wide 4 Tryd.f4 rfl rfl rfl rfl rfl rfl rfl ⟨rfl, rfl, rfl, rfl, rfl⟩ rfl rfl rfl rfl rfl (by kernel_rfl) Tryd.func4 (by kernel_rfl)
    (of_decide_eq_true (by kernel_rfl)) (by unfold Func.isWrapper; first | (rw [if_pos (by decide +kernel)]; kernel_rfl) | (rw [if_neg (by decide +kernel)]; exact ⟨rfl, rfl⟩))
    (fun os started H enc _ => lifted4 os started H enc)
theorem fnCountBits.proved : Rows.FnCountBitsCardSaid :=
  Claim7.holds_tied_plain_at .later [] [.data] true (true, "c0ecebb477edcdbdf3219625a60b7f4ce5b553139fe4e5691cc8c761707e13aa") false
    fnCountBits_holds (fun _ h => by cases h) (by kernel_rfl) (fun _ h => by cases h) fnCountBits_row_tie rfl ⟨rfl, rfl⟩ (by kernel_rfl) rfl
    (fun f fn hf hfn => by
      obtain rfl : f = 4 := Option.some.inj ((show Tryd.prog.funcNamed "given.example/pub-fletching/laws.FnCountBits" = some 4 by kernel_rfl).symm.trans hf) |>.symm
      obtain rfl : fn = Tryd.f4 := (Option.some.inj (Tryd.func4.symm.trans hfn)).symm
      exact ⟨by kernel_rfl, fun j t ht => by
        rw [Tryd.params4] at ht
        have hm : t ∈ [22, 3, 3] := by simpa using Array.mem_of_getElem? ht
        have hall : ([22, 3, 3].all fun u => !Tryd.prog.wantsStandIn u) = true := by kernel_rfl
        exact (show Tryd.prog.wantsStandIn t = false by simpa using List.all_eq_true.1 hall t hm)⟩)
    (by kernel_rfl)
#print axioms fnCountBits.proved
end Go.Proofs.YtfodkdadbcojeaaDoor
