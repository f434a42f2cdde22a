/- FnGenerated: the row and its tied card. -/
import Derived.Test.YtfodkdadbcojeaaDoorG10
import Derived.Test.YtfodkdadbcojeaaDoorL4
import Derived.Test.YtfodkdadbcojeaaDoorCards
import Derived.Test.YtfodkdadbcojeaaDoorTie
import Derived.ProofKit
import Derived.LaidMore
import Derived.OpenShut
import Derived.Stop.LaidErr
import Derived.Lib.LaidTab
import Derived.MakeChecks
import Derived.SevenTiedAt
set_option linter.unusedVariables false
set_option linter.unusedSimpArgs false
namespace Go.Proofs.YtfodkdadbcojeaaDoor
open Go.ChangeShapes Go.WideShapes Go.ChangeAt Go.RowKit
theorem Tryd.own' : ownKnob Tryd.prog.godebug = none := by kernel_rfl
theorem Tryd.laidOut' : laidOutB Tryd.prog = true := by kernel_rfl
abbrev nBit : String := "given.example/pub-fletching/pub/arrow/arrow/bitutil.BitMask"
abbrev nPre : String := "given.example/pub-fletching/pub/arrow/arrow/bitutil.PrecedingBitmask"
theorem tabB {W : World} {rest : List (String × DataW Unit)} (h : laidMet Tryd.prog ((nBit, Rows.laid_given_example_pub_fletching_pub_arrow_arrow_bitutil_BitMask) :: rest) W) : Msk W := by
  have h1 : laidMet Tryd.prog ((nBit, Lib.tabData .u8 [1, 2, 4, 8, 16, 32, 64, 128]) :: rest) W := h
  have ht := Lib.tabIs_of_head (g := 0) (t := 60) (e := 5) (n := 8) (by kernel_rfl) (by kernel_rfl) (by kernel_rfl) (by kernel_rfl) (by kernel_rfl) (by kernel_rfl) h1
  intro i hi
  have := ht.cell (g := 0) (by kernel_rfl) i hi
  rw [this]
  rcases i with _ | _ | _ | _ | _ | _ | _ | _ | i <;> first | rfl | omega
theorem tabP {W : World} {rest : List (String × DataW Unit)} (h : laidMet Tryd.prog ((nPre, Rows.laid_given_example_pub_fletching_pub_arrow_arrow_bitutil_PrecedingBitmask) :: rest) W) : Pre W := by
  have h1 : laidMet Tryd.prog ((nPre, Lib.tabData .u8 [0, 1, 3, 7, 15, 31, 63, 127]) :: rest) W := h
  have ht := Lib.tabIs_of_head (g := 1) (t := 60) (e := 5) (n := 8) (by kernel_rfl) (by kernel_rfl) (by kernel_rfl) (by kernel_rfl) (by kernel_rfl) (by kernel_rfl) h1
  intro i hi
  have := ht.cell (g := 1) (by kernel_rfl) i hi
  rw [this]
  rcases i with _ | _ | _ | _ | _ | _ | _ | _ | i <;> first | rfl | omega
set_option maxRecDepth 100000 in
set_option maxHeartbeats 4000000 in
theorem law3_big (w : World) (A A2 : Option Addr) (n c c2 N : Nat) (f : Int) (u : Bool) (hn : n ≤ maxLen) (hN : N ≤ maxLen) (h : 2147483647 < n ∨ 2147483647 < N) :
    Calls Tryd.prog 3 #[.slice A n c, .int .i64 f, .slice A2 N c2, .bool u] w fun e w' => e = .returned (.bool true) ∧ Mod [] w w' := by
  have hm : maxLen = 9223372036854775807 := by decide
  go_enter Tryd.func3, Tryd.ntmps3
  go_wp2_with fail
  all_goals first | (go_ret; exact ⟨rfl, Mod.refl _ _⟩) | (exfalso; simp at *; omega)
set_option maxRecDepth 100000 in
set_option maxHeartbeats 4000000 in
theorem law3_out (w : World) (A A2 : Option Addr) (n c c2 N : Nat) (f : Int) (u : Bool) (hn : n ≤ 2147483647) (hN : N ≤ 2147483647) (h : withinB n f N = false) :
    Calls Tryd.prog 3 #[.slice A n c, .int .i64 f, .slice A2 N c2, .bool u] w fun e w' => e = .returned (.bool true) ∧ Mod [] w w' := by
  have HW := Lib.hid h
  clear h
  go_enter Tryd.func3, Tryd.ntmps3
  go_wp2_with (first | ((go_at_call 8; (with_reducible refine (within_any _ _ _ _ _ _ (by omega)).mono ?_); rintro e w' ⟨rfl, rfl⟩); rw [HW.out]) | fail)
  go_ret
  exact ⟨rfl, Mod.refl _ _⟩
theorem law3_any (w : World) (A A2 : Option Addr) (c c2 : Nat) (f : Int) (u : Bool) (d : List Nat) (l : List Bool) (hd : Sl w w.heap.size A d.length (bv d)) (hs : Small d) (hl : Sl w w.heap.size A2 l.length (bools l)) (hn : d.length ≤ maxLen) (hN : l.length ≤ maxLen) (hM : Msk w) (hP : Pre w) :
    Calls Tryd.prog 3 #[.slice A d.length c, .int .i64 f, .slice A2 l.length c2, .bool u] w fun e w' => e = .returned (.bool true) ∧ Mod [] w w' := by
  by_cases hb : 2147483647 < d.length ∨ 2147483647 < l.length
  · exact law3_big w A A2 _ c c2 _ f u hn hN hb
  by_cases hw : withinB d.length f l.length = true
  · obtain ⟨h1, h2, h3, h4, h5⟩ := withinB_true hw
    obtain ⟨f, rfl⟩ := Int.eq_ofNat_of_zero_le h2
    have hsz : 2 ≤ w.heap.size := (cell_lt (hP 0 (by omega))).2
    exact law3_in w A A2 _ c c2 f _ u d l rfl rfl hd hs hl h1 (by omega) hM hP hsz
  · exact law3_out w A A2 _ c c2 _ f u (by omega) (by omega) (by simpa using hw)
theorem door_met3 (os : Os) (args : Array Value) : laidMetH Tryd.prog Rows.fnGeneratedRow.laid ((World.doorLaid Tryd.prog 65 os).forCall (fun _ _ => 0) ⟨#[], args, []⟩).memory :=
  laidMetH_of_parts3 (fuel := 8) (laidMet_of_run' 8 (by kernel_rfl) (by kernel_rfl)) (by kernel_rfl) (by kernel_rfl)
set_option maxRecDepth 100000 in
theorem lifted3 (os : Os) (started : os.Started) (H : Type) (enc : TypeId × Value → H) :
    ReturnsInHanded {} Tryd.checked os 3 .any (fun w args => (Rows.fnGeneratedSpec.pre enc Tryd.prog Tryd.f3 [] false w args ∧ laidMetH Tryd.prog Rows.fnGeneratedRow.laid w) ∧ sizedMet enc Tryd.prog Tryd.f3 (OpenSpec.ofChange Rows.fnGeneratedSpec) false w args)
      (Rows.fnGeneratedSpec.post enc Tryd.prog Tryd.f3 false true false false) := by
  refine returnsInHanded_of_change_and (C := Tryd.checked) (X := fun w _ => laidMetH Tryd.prog Rows.fnGeneratedRow.laid w) (fun _ _ _ hh h => h.of_heap hh) Tryd.own' started (by kernel_rfl) Tryd.func3
    (ChangeSpec.witness_shaped (enc := enc) (C := Tryd.checked) (os := os) (X := fun w _ => laidMetH Tryd.prog Rows.fnGeneratedRow.laid w) false (World.doorLaid Tryd.prog 65 os) #[.slice none 0 0, .int .i64 0, .slice none 0 0, .bool false] 8 rfl (World.shaped_of_RefB (by kernel_rfl) (by kernel_rfl)) (by kernel_rfl) (by kernel_rfl) (by kernel_rfl) (door_met3 os _)) ?_
  intro W base args ds gs before hval0 hW _ _ hL _
  have hval : ∀ (j : Nat) t v, Tryd.f3.params[j]? = some t → args[j]? = some v → Value.okWide Tryd.prog W .any base t v := hval0
  have hW' := hW
  obtain ⟨p, q, hA0, hV, rfl, hfz, hnd⟩ := hW
  have hA : DataW.TrodAll enc Tryd.prog W 0 (fun _ => true) true Tryd.f3.params.toList args.toList ds p := hA0
  rw [Tryd.params3] at hA hval
  obtain ⟨v0, v1, v2, v3, d0, d1, d2, d3, p0, p1, p2, p3, rfl, rfl, rfl, h0, h1, h2, h3⟩ := trodAll_four hA
  obtain ⟨g0, t0, cs0, f0, e0, q0, g1, t1, cs1, f1, e1, q1, rfl, _⟩ := trodVars_two hV
  obtain ⟨A, c, d, rfl, hs, hd, hn⟩ := open_by Tryd.underlying22 Tryd.underlying5 (by kernel_rfl) (okWide_slice Tryd.underlying22 (hval 0 22 v0 rfl rfl)) h0
  obtain ⟨f, rfl, _, _, _⟩ := open_int Tryd.underlying3 (hval 1 3 v1 rfl rfl) h1
  obtain ⟨A2, c2, l, rfl, hl, hN⟩ := open_bl Tryd.underlying23 Tryd.underlying4 (by kernel_rfl) (okWide_slice Tryd.underlying23 (hval 2 23 v2 rfl rfl)) h2
  obtain ⟨u, rfl, _, _⟩ := open_bool Tryd.underlying4 (hval 3 4 v3 rfl rfl) h3
  rw [MakeChecks.laidMetH_plain _ _ _ (by kernel_rfl)] at hL
  have hM := tabB hL
  have hP := tabP hL.tail
  refine (law3_any W A A2 c c2 f u d l hd hs hl hn hN hM hP).mono fun e W' ⟨he, hm⟩ => ?_
  subst he
  exact ⟨_, rfl, law_post Tryd.laidOut' (by kernel_rfl) (by kernel_rfl) (by kernel_rfl) Tryd.underlying4 hW' hm.below ⟨rfl, rfl, rfl⟩⟩
theorem fnGenerated_holds : Rows.FnGeneratedSaid :=
  OpenClaim.holds_of_wide 3 Tryd.f3 rfl rfl rfl rfl rfl rfl rfl ⟨rfl, rfl, rfl, rfl, rfl⟩ rfl rfl rfl rfl rfl (by kernel_rfl) Tryd.func3 (by kernel_rfl)
    (of_decide_eq_true (by kernel_rfl)) (by unfold Func.isWrapper; first | (rw [if_pos (by decide +kernel)]; kernel_rfl) | (rw [if_neg (by decide +kernel)]; exact ⟨rfl, rfl⟩))
    (fun os started H enc _ => lifted3 os started H enc)
theorem fnGenerated.proved : Rows.FnGeneratedCardSaid :=
  Claim7.holds_tied_plain_at .later [] [.data, .data] true (true, "c0ecebb477edcdbdf3219625a60b7f4ce5b553139fe4e5691cc8c761707e13aa") false
    fnGenerated_holds (fun _ h => by cases h) (by kernel_rfl) (fun _ h => by cases h) fnGenerated_row_tie rfl ⟨rfl, rfl⟩ (by kernel_rfl) rfl
    (fun f fn hf hfn => by
      obtain rfl : f = 3 := Option.some.inj ((show Tryd.prog.funcNamed "given.example/pub-fletching/laws.FnGenerated" = some 3 by kernel_rfl).symm.trans hf) |>.symm
      obtain rfl : fn = Tryd.f3 := (Option.some.inj (Tryd.func3.symm.trans hfn)).symm
      exact ⟨by kernel_rfl, fun j t ht => by
        rw [Tryd.params3] at ht
        have hm : t ∈ [22, 3, 23, 4] := by simpa using Array.mem_of_getElem? ht
        have hall : ([22, 3, 23, 4].all fun u => !Tryd.prog.wantsStandIn u) = true := by kernel_rfl
        exact (show Tryd.prog.wantsStandIn t = false by simpa using List.all_eq_true.1 hall t hm)⟩)
    (by kernel_rfl)
#print axioms fnGenerated.proved
end Go.Proofs.YtfodkdadbcojeaaDoor
