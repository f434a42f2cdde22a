/- For every list of bytes, every place, every list of bits and each way of writing, WriteBits writes the bits there and leaves all others: FnWriteBits gives true. All inputs; the package's tables as the program's text lays them (tied). (YtcjjajbpjfamfaaDoor) -/
import Derived.Test.YtcjjajbpjfamfaaDoorX24
import Derived.Test.YtcjjajbpjfamfaaDoorL4
import Derived.Test.YtcjjajbpjfamfaaDoorCards
import Derived.Test.YtcjjajbpjfamfaaDoorTie
import Derived.ProofKit
import Derived.LaidMore
import Derived.OpenShut
import Derived.Stop.LaidErr
import Derived.Lib.LaidTab
import Derived.MakeChecks
import Derived.SevenTiedAt
set_option linter.unusedVariables false
set_option linter.unusedSimpArgs false
namespace Go.Proofs.YtcjjajbpjfamfaaDoor
open Go.ChangeShapes Go.WideShapes Go.ChangeAt Go.RowKit Go.Deep
theorem Tryd.own' : ownKnob Tryd.prog.godebug = none := by kernel_rfl
theorem Tryd.laidOut' : laidOutB Tryd.prog = true := by kernel_rfl
abbrev nBit : String := "given.example/pub-fletching/pub/arrow/arrow/bitutil.BitMask"
abbrev nFlp : String := "given.example/pub-fletching/pub/arrow/arrow/bitutil.FlippedBitMask"
abbrev nTz : String := "math/bits.deBruijn32tab"
theorem tabB {W : World} {rest : List (String × DataW Unit)} (h : laidMet Tryd.prog ((nBit, Rows.laid_given_example_pub_fletching_pub_arrow_arrow_bitutil_BitMask) :: rest) W) : Msk W := by
  have h1 : laidMet Tryd.prog ((nBit, Lib.tabData .u8 [1, 2, 4, 8, 16, 32, 64, 128]) :: rest) W := h
  have ht := Lib.tabIs_of_head (g := 0) (t := 34) (e := 5) (n := 8) (by kernel_rfl) (by kernel_rfl) (by kernel_rfl) (by kernel_rfl) (by kernel_rfl) (by kernel_rfl) h1
  intro i hi
  have := ht.cell (g := 0) (by kernel_rfl) i hi
  rw [this]
  rcases i with _ | _ | _ | _ | _ | _ | _ | _ | i <;> first | rfl | omega
theorem tabF {W : World} {rest : List (String × DataW Unit)} (h : laidMet Tryd.prog ((nFlp, Rows.laid_given_example_pub_fletching_pub_arrow_arrow_bitutil_FlippedBitMask) :: rest) W) : Flp W := by
  have h1 : laidMet Tryd.prog ((nFlp, Lib.tabData .u8 [254, 253, 251, 247, 239, 223, 191, 127]) :: rest) W := h
  have ht := Lib.tabIs_of_head (g := 2) (t := 34) (e := 5) (n := 8) (by kernel_rfl) (by kernel_rfl) (by kernel_rfl) (by kernel_rfl) (by kernel_rfl) (by kernel_rfl) h1
  intro i hi
  have := ht.cell (g := 2) (by kernel_rfl) i hi
  rw [this]
  rcases i with _ | _ | _ | _ | _ | _ | _ | _ | i <;> first | rfl | omega
theorem tabT {W : World} {rest : List (String × DataW Unit)} (h : laidMet Tryd.prog ((nTz, Rows.laid_math_bits_deBruijn32tab) :: rest) W) : Tzt W := by
  have h1 : laidMet Tryd.prog ((nTz, Lib.tabData .u8 [0, 1, 28, 2, 29, 14, 24, 3, 30, 22, 20, 15, 25, 17, 4, 8, 31, 27, 13, 23, 21, 19, 16, 7, 26, 12, 18, 6, 11, 5, 10, 9]) :: rest) W := h
  have ht := Lib.tabIs_of_head (g := 1) (t := 44) (e := 5) (n := 32) (by kernel_rfl) (by kernel_rfl) (by kernel_rfl) (by kernel_rfl) (by kernel_rfl) (by kernel_rfl) h1
  have hc := fun i hi => ht.cell (g := 1) (by kernel_rfl) i hi
  exact ⟨(hc 0 (by decide)).trans rfl, (hc 1 (by decide)).trans rfl, (hc 3 (by decide)).trans rfl, (hc 7 (by decide)).trans rfl, (hc 14 (by decide)).trans rfl, (hc 29 (by decide)).trans rfl, (hc 27 (by decide)).trans rfl, (hc 23 (by decide)).trans rfl⟩
section
variable {H : Type} {enc : TypeId × Value → H} {P : Program} {w : World} {base : Nat} {held : Bool}
theorem open_blc {t e : TypeId} {v : Value} {d : DataW H} {p : List MemPlace} (ht : P.underlying t = some (.slice e)) (he : P.underlying e = some .bool) (hc : P.cellsOf e = 1) (hv : ∃ a len cap, v = .slice a len cap)
    (h : DataW.Trod enc P w base (fun _ => true) held t v d p) : ∃ A c ls, v = .slice A (List.length ls) c ∧ ls.length ≤ c ∧ Sl w w.heap.size A ls.length (ls.map Value.bool) ∧ ls.length ≤ maxLen := by
  obtain ⟨fuel, h⟩ := h
  obtain ⟨A, n, c, rfl⟩ := hv
  rcases open_bools ht he hc h with ⟨h1, _⟩ | ⟨a, len, cap, B, h1, _, hl, hm, _, hcell⟩
  · obtain ⟨rfl, rfl, rfl⟩ : A = none ∧ n = 0 ∧ c = 0 := by simpa [Value.cells] using h1
    exact ⟨none, 0, [], rfl, by simp, sl_nil rfl _ _, by simp⟩
  · obtain ⟨rfl, rfl, rfl⟩ : A = some a ∧ n = len ∧ c = cap := by simpa [Value.cells] using h1
    have hlen : ((List.range n).map B).length = n := by simp
    refine ⟨some a, c, (List.range n).map B, by rw [hlen], by rw [hlen]; omega, ?_, by rw [hlen]; omega⟩
    rw [hlen]
    refine sl_of (by simp) fun i u hu => ?_
    have hi : i < n := by
      have := (List.getElem?_eq_some_iff.1 hu).1
      simpa using this
    rw [hcell i (by omega)]
    simp [List.getElem?_map, List.getElem?_range hi] at hu
    rw [hu]
end
theorem door_met3 (os : Os) (args : Array Value) : laidMetH Tryd.prog Rows.fnWriteBitsRow.laid ((World.doorLaid Tryd.prog 65 os).forCall (fun _ _ => 0) ⟨#[], args, []⟩).memory :=
  laidMetH_of_parts3 (fuel := 8) (laidMet_of_run' 8 (by kernel_rfl) (by kernel_rfl)) (by kernel_rfl) (by kernel_rfl)
set_option maxRecDepth 100000 in
theorem lifted3 (os : Os) (started : os.Started) (H : Type) (enc : TypeId × Value → H) :
    ReturnsInHanded {} Tryd.checked os 3 .any (fun w args => (Rows.fnWriteBitsSpec.pre enc Tryd.prog Tryd.f3 [] false w args ∧ laidMetH Tryd.prog Rows.fnWriteBitsRow.laid w) ∧ sizedMet enc Tryd.prog Tryd.f3 (OpenSpec.ofChange Rows.fnWriteBitsSpec) false w args)
      (Rows.fnWriteBitsSpec.post enc Tryd.prog Tryd.f3 false true false false) := by
  refine returnsInHanded_of_change_and (C := Tryd.checked) (X := fun w _ => laidMetH Tryd.prog Rows.fnWriteBitsRow.laid w) (fun _ _ _ hh h => h.of_heap hh) Tryd.own' started (by kernel_rfl) Tryd.func3
    (ChangeSpec.witness_shaped (enc := enc) (C := Tryd.checked) (os := os) (X := fun w _ => laidMetH Tryd.prog Rows.fnWriteBitsRow.laid w) false (World.doorLaid Tryd.prog 65 os) #[.slice none 0 0, .int .i64 0, .slice none 0 0, .int .i64 0] 8 rfl (World.shaped_of_RefB (by kernel_rfl) (by kernel_rfl)) (by kernel_rfl) (by kernel_rfl) (by kernel_rfl) (door_met3 os _)) ?_
  intro W base args ds gs before hval0 hW _ _ hL _
  have hval : ∀ (j : Nat) t v, Tryd.f3.params[j]? = some t → args[j]? = some v → Value.okWide Tryd.prog W .any base t v := hval0
  have hW' := hW
  obtain ⟨p, q, hA0, hV, rfl, hfz, hnd⟩ := hW
  have hA : DataW.TrodAll enc Tryd.prog W 0 (fun _ => true) true Tryd.f3.params.toList args.toList ds p := hA0
  rw [Tryd.params3] at hA hval
  obtain ⟨v0, v1, v2, v3, d0, d1, d2, d3, p0, p1, p2, p3, rfl, rfl, rfl, h0, h1, h2, h3⟩ := trodAll_four hA
  obtain ⟨g0, t0, cs0, f0, e0, q0, g1, t1, cs1, f1, e1, q1, rfl, _⟩ := trodVars_two hV
  obtain ⟨A, c, d, rfl, hs, hd, hn⟩ := open_by Tryd.underlying22 Tryd.underlying5 (by kernel_rfl) (okWide_slice Tryd.underlying22 (hval 0 22 v0 rfl rfl)) h0
  obtain ⟨f, rfl, _, _, _⟩ := open_int Tryd.underlying3 (hval 1 3 v1 rfl rfl) h1
  obtain ⟨A2, c2, l, rfl, hc2, hl, hN⟩ := open_blc Tryd.underlying23 Tryd.underlying4 (by kernel_rfl) (okWide_slice Tryd.underlying23 (hval 2 23 v2 rfl rfl)) h2
  obtain ⟨how, rfl, _, _, _⟩ := open_int Tryd.underlying3 (hval 3 3 v3 rfl rfl) h3
  rw [MakeChecks.laidMetH_plain _ _ _ (by kernel_rfl)] at hL
  have hT := tabT hL
  have hM := tabB hL.tail
  have hF := tabF hL.tail.tail
  have hB3 : 3 ≤ W.heap.size := (cell_lt (hF 0 (by omega))).2
  refine (law_any W A A2 c c2 f how d l hd hs hl hn hN hc2 hM hF hT hB3).mono fun e W' ⟨he, hm⟩ => ?_
  subst he
  exact ⟨_, rfl, law_post Tryd.laidOut' (by kernel_rfl) (by kernel_rfl) (by kernel_rfl) Tryd.underlying4 hW' hm.below ⟨rfl, rfl, rfl⟩⟩
theorem fnWriteBits_holds : Rows.FnWriteBitsSaid :=
  OpenClaim.holds_of_wide 3 Tryd.f3 rfl rfl rfl rfl rfl rfl rfl ⟨rfl, rfl, rfl, rfl, rfl⟩ rfl rfl rfl rfl rfl (by kernel_rfl) Tryd.func3 (by kernel_rfl)
    (of_decide_eq_true (by kernel_rfl)) (by unfold Func.isWrapper; first | (rw [if_pos (by decide +kernel)]; kernel_rfl) | (rw [if_neg (by decide +kernel)]; exact ⟨rfl, rfl⟩))
    (fun os started H enc _ => lifted3 os started H enc)
theorem fnWriteBits.proved : Rows.FnWriteBitsCardSaid :=
  Claim7.holds_tied_plain_at .later [] [.data, .data, .data] true (true, "0adf7b6059ecca1560fff091c7cd170450a612d22e433df417e69b8089583f35") false
    fnWriteBits_holds (fun _ h => by cases h) (by kernel_rfl) (fun _ h => by cases h) fnWriteBits_row_tie rfl ⟨rfl, rfl⟩ (by kernel_rfl) rfl
    (fun f fn hf hfn => by
      obtain rfl : f = 3 := Option.some.inj ((show Tryd.prog.funcNamed "given.example/pub-fletching/laws.FnWriteBits" = some 3 by kernel_rfl).symm.trans hf) |>.symm
      obtain rfl : fn = Tryd.f3 := (Option.some.inj (Tryd.func3.symm.trans hfn)).symm
      exact ⟨by kernel_rfl, fun j t ht => by
        rw [Tryd.params3] at ht
        have hm : t ∈ [22, 3, 23, 3] := by simpa using Array.mem_of_getElem? ht
        have hall : ([22, 3, 23, 3].all fun u => !Tryd.prog.wantsStandIn u) = true := by kernel_rfl
        exact (show Tryd.prog.wantsStandIn t = false by simpa using List.all_eq_true.1 hall t hm)⟩)
    (by kernel_rfl)
#print axioms fnWriteBits.proved
end Go.Proofs.YtcjjajbpjfamfaaDoor
