/- For every operation, every two lists of bytes and every places in them, and every list of bytes to be written into and place in it: Combined combines the bits there and leaves all others, and combines them into a new list: FnCombined gives true. All inputs; the package's tables as the program's text lays them (tied). (YtjfbojmeccdchaaDoor) -/
import Derived.Test.YtjfbojmeccdchaaDoorFE
import Derived.Test.YtjfbojmeccdchaaDoorL4
import Derived.Test.YtjfbojmeccdchaaDoorCards
import Derived.Test.YtjfbojmeccdchaaDoorTie
import Derived.ProofKit
import Derived.LaidMore
import Derived.OpenShut
import Derived.Stop.LaidErr
import Derived.Lib.LaidTab
import Derived.MakeChecks
import Derived.SevenTiedAt
set_option linter.unusedVariables false
set_option linter.unusedSimpArgs false
namespace Go.Proofs.YtjfbojmeccdchaaDoor
open Go.ChangeShapes Go.WideShapes Go.ChangeAt Go.RowKit Go.Deep
theorem Tryd.own' : ownKnob Tryd.prog.godebug = none := by kernel_rfl
theorem Tryd.laidOut' : laidOutB Tryd.prog = true := by kernel_rfl
abbrev nBit : String := "given.example/pub-fletching/pub/arrow/arrow/bitutil.BitMask"
abbrev nPrc : String := "given.example/pub-fletching/pub/arrow/arrow/bitutil.PrecedingBitmask"
abbrev nTrl : String := "given.example/pub-fletching/pub/arrow/arrow/bitutil.TrailingBitmask"
theorem tabB {W : World} {rest : List (String × DataW Unit)} (h : laidMet Tryd.prog ((nBit, Rows.laid_given_example_pub_fletching_pub_arrow_arrow_bitutil_BitMask) :: rest) W) : Msk W := by
  have h1 : laidMet Tryd.prog ((nBit, Lib.tabData .u8 [1, 2, 4, 8, 16, 32, 64, 128]) :: rest) W := h
  have ht := Lib.tabIs_of_head (g := 3) (t := 63) (e := 5) (n := 8) (by kernel_rfl) (by kernel_rfl) (by kernel_rfl) (by kernel_rfl) (by kernel_rfl) (by kernel_rfl) h1
  intro i hi
  have := ht.cell (g := 3) (by kernel_rfl) i hi
  rw [this]
  rcases i with _ | _ | _ | _ | _ | _ | _ | _ | i <;> first | rfl | omega
theorem tabP {W : World} {rest : List (String × DataW Unit)} (h : laidMet Tryd.prog ((nPrc, Rows.laid_given_example_pub_fletching_pub_arrow_arrow_bitutil_PrecedingBitmask) :: rest) W) : Prc W := by
  have h1 : laidMet Tryd.prog ((nPrc, Lib.tabData .u8 [0, 1, 3, 7, 15, 31, 63, 127]) :: rest) W := h
  have ht := Lib.tabIs_of_head (g := 0) (t := 63) (e := 5) (n := 8) (by kernel_rfl) (by kernel_rfl) (by kernel_rfl) (by kernel_rfl) (by kernel_rfl) (by kernel_rfl) h1
  intro i hi
  have := ht.cell (g := 0) (by kernel_rfl) i hi
  rw [this]
  rcases i with _ | _ | _ | _ | _ | _ | _ | _ | i <;> first | rfl | omega
theorem tabT {W : World} {rest : List (String × DataW Unit)} (h : laidMet Tryd.prog ((nTrl, Rows.laid_given_example_pub_fletching_pub_arrow_arrow_bitutil_TrailingBitmask) :: rest) W) : Trl W := by
  have h1 : laidMet Tryd.prog ((nTrl, Lib.tabData .u8 [255, 254, 252, 248, 240, 224, 192, 128]) :: rest) W := h
  have ht := Lib.tabIs_of_head (g := 1) (t := 63) (e := 5) (n := 8) (by kernel_rfl) (by kernel_rfl) (by kernel_rfl) (by kernel_rfl) (by kernel_rfl) (by kernel_rfl) h1
  intro i hi
  have := ht.cell (g := 1) (by kernel_rfl) i hi
  rw [this]
  rcases i with _ | _ | _ | _ | _ | _ | _ | _ | i <;> first | rfl | omega
section
variable {H : Type} {enc : TypeId × Value → H} {P : Program} {w : World} {base : Nat} {held : Bool}
theorem open_byc {t e : TypeId} {v : Value} {d : DataW H} {p : List MemPlace} (ht : P.underlying t = some (.slice e)) (he : P.underlying e = some (.int .u8)) (hc : P.cellsOf e = 1) (hv : ∃ a len cap, v = .slice a len cap)
    (h : DataW.Trod enc P w base (fun _ => true) held t v d p) : ∃ A c ds, v = .slice A (List.length ds) c ∧ ds.length ≤ c ∧ (A = none → c = 0) ∧ Small ds ∧ Sl w w.heap.size A ds.length (bv ds) ∧ ds.length ≤ maxLen := by
  obtain ⟨A, c, ds, rfl, h1, h2, h3⟩ := open_by ht he hc hv h
  obtain ⟨fuel, h⟩ := h
  rcases open_ints ht he hc h with ⟨h4, _⟩ | ⟨a, len, cap, zs, h4, _, hl, hm, hz, _⟩
  · obtain ⟨rfl, h5, rfl⟩ : A = none ∧ ds.length = 0 ∧ c = 0 := by simpa [Value.cells] using h4
    exact ⟨none, 0, ds, rfl, by omega, fun _ => rfl, h1, h2, h3⟩
  · obtain ⟨rfl, h5, rfl⟩ : A = some a ∧ ds.length = len ∧ c = cap := by simpa [Value.cells] using h4
    exact ⟨some a, c, ds, rfl, by omega, fun h => by simp at h, h1, h2, h3⟩
end
section
variable {H : Type} {enc : TypeId × Value → H} {P : Program} {w : World} {spare : Nat → Bool} {base : Nat} {held : Bool}
theorem vars_three {n0 n1 n2 : String} {gs : List (DataW H)} {ps : List MemPlace} (h : DataW.TrodVars enc P w spare [n0, n1, n2] gs ps) : ∃ d0 d1 d2, gs = [d0, d1, d2] := by
  cases gs with
  | nil => simp [DataW.TrodVars] at h
  | cons d ds =>
    obtain ⟨g0, t0, cs0, f0, p0, q0, h1, h2, h3, h4, hs, e⟩ := h
    obtain ⟨_, _, _, _, d1, _, _, _, _, _, d2, _, rfl, _⟩ := trodVars_two hs
    exact ⟨d, d1, d2, rfl⟩
theorem trodAll_eight {t0 t1 t2 t3 t4 t5 t6 t7 : TypeId} {args : Array Value} {ds : List (DataW H)} {ps : List MemPlace} (h : DataW.TrodAll enc P w base spare held [t0, t1, t2, t3, t4, t5, t6, t7] args.toList ds ps) :
    ∃ v0 v1 v2 v3 v4 v5 v6 v7 d0 d1 d2 d3 d4 d5 d6 d7 p0 p1 p2 p3 p4 p5 p6 p7, args = #[v0, v1, v2, v3, v4, v5, v6, v7] ∧ ds = [d0, d1, d2, d3, d4, d5, d6, d7] ∧ DataW.Trod enc P w base spare held t0 v0 d0 p0 ∧ DataW.Trod enc P w base spare held t1 v1 d1 p1 ∧ DataW.Trod enc P w base spare held t2 v2 d2 p2 ∧ DataW.Trod enc P w base spare held t3 v3 d3 p3 ∧ DataW.Trod enc P w base spare held t4 v4 d4 p4 ∧ DataW.Trod enc P w base spare held t5 v5 d5 p5 ∧ DataW.Trod enc P w base spare held t6 v6 d6 p6 ∧ DataW.Trod enc P w base spare held t7 v7 d7 p7 := by
  obtain ⟨v0, x0, d0, y0, p0, q0, hargs, rfl, rfl, hd0, r0⟩ := trodAll_cons h
  obtain ⟨v1, x1, d1, y1, p1, q1, rfl, rfl, rfl, hd1, r1⟩ := trodAll_cons r0
  obtain ⟨v2, x2, d2, y2, p2, q2, rfl, rfl, rfl, hd2, r2⟩ := trodAll_cons r1
  obtain ⟨v3, x3, d3, y3, p3, q3, rfl, rfl, rfl, hd3, r3⟩ := trodAll_cons r2
  obtain ⟨v4, x4, d4, y4, p4, q4, rfl, rfl, rfl, hd4, r4⟩ := trodAll_cons r3
  obtain ⟨v5, x5, d5, y5, p5, q5, rfl, rfl, rfl, hd5, r5⟩ := trodAll_cons r4
  obtain ⟨v6, x6, d6, y6, p6, q6, rfl, rfl, rfl, hd6, r6⟩ := trodAll_cons r5
  obtain ⟨v7, x7, d7, y7, p7, q7, rfl, rfl, rfl, hd7, r7⟩ := trodAll_cons r6
  obtain ⟨rfl, rfl, rfl⟩ := trodAll_nil r7
  exact ⟨v0, v1, v2, v3, v4, v5, v6, v7, d0, d1, d2, d3, d4, d5, d6, d7, p0, p1, p2, p3, p4, p5, p6, p7, by cases args; simp_all, rfl, hd0, hd1, hd2, hd3, hd4, hd5, hd6, hd7⟩
end
theorem door_met3 (os : Os) (args : Array Value) : laidMetH Tryd.prog Rows.fnCombinedRow.laid ((World.doorLaid Tryd.prog 65 os).forCall (fun _ _ => 0) ⟨#[], args, []⟩).memory :=
  laidMetH_of_parts3 (fuel := 8) (laidMet_of_run' 8 (by kernel_rfl) (by kernel_rfl)) (by kernel_rfl) (by kernel_rfl)
set_option maxRecDepth 100000 in
theorem lifted3 (os : Os) (started : os.Started) (H : Type) (enc : TypeId × Value → H) :
    ReturnsInHanded {} Tryd.checked os 3 .any (fun w args => (Rows.fnCombinedSpec.pre enc Tryd.prog Tryd.f3 [] false w args ∧ laidMetH Tryd.prog Rows.fnCombinedRow.laid w) ∧ sizedMet enc Tryd.prog Tryd.f3 (OpenSpec.ofChange Rows.fnCombinedSpec) false w args)
      (Rows.fnCombinedSpec.post enc Tryd.prog Tryd.f3 false true false false) := by
  refine returnsInHanded_of_change_and (C := Tryd.checked) (X := fun w _ => laidMetH Tryd.prog Rows.fnCombinedRow.laid w) (fun _ _ _ hh h => h.of_heap hh) Tryd.own' started (by kernel_rfl) Tryd.func3
    (ChangeSpec.witness_shaped (enc := enc) (C := Tryd.checked) (os := os) (X := fun w _ => laidMetH Tryd.prog Rows.fnCombinedRow.laid w) false (World.doorLaid Tryd.prog 65 os) #[.int .i64 0, .slice none 0 0, .slice none 0 0, .int .i64 0, .int .i64 0, .slice none 0 0, .int .i64 0, .int .i64 0] 8 rfl (World.shaped_of_RefB (by kernel_rfl) (by kernel_rfl)) (by kernel_rfl) (by kernel_rfl) (by kernel_rfl) (door_met3 os _)) ?_
  intro W base args ds gs before hval0 hW _ _ hL _
  have hval : ∀ (j : Nat) t v, Tryd.f3.params[j]? = some t → args[j]? = some v → Value.okWide Tryd.prog W .any base t v := hval0
  have hW' := hW
  obtain ⟨p, q, hA0, hV, rfl, hfz, hnd⟩ := hW
  have hA : DataW.TrodAll enc Tryd.prog W 0 (fun _ => true) true Tryd.f3.params.toList args.toList ds p := hA0
  rw [Tryd.params3] at hA hval
  obtain ⟨v0, v1, v2, v3, v4, v5, v6, v7, e0, e1, e2, e3, e4, e5, e6, e7, _, _, _, _, _, _, _, _, rfl, rfl, h0, h1, h2, h3, h4, h5, h6, h7⟩ := trodAll_eight hA
  obtain ⟨x0, x1, x2, rfl⟩ := vars_three hV
  obtain ⟨op, rfl, _, _, _⟩ := open_int Tryd.underlying3 (hval 0 3 v0 rfl rfl) h0
  obtain ⟨A1, c1, ds1, rfl, hc1, hA1, hs1, hd1, hn1⟩ := open_byc Tryd.underlying22 Tryd.underlying5 (by kernel_rfl) (okWide_slice Tryd.underlying22 (hval 1 22 v1 rfl rfl)) h1
  obtain ⟨A2, c2, ds2, rfl, hc2, hA2, hs2, hd2, hn2⟩ := open_byc Tryd.underlying22 Tryd.underlying5 (by kernel_rfl) (okWide_slice Tryd.underlying22 (hval 2 22 v2 rfl rfl)) h2
  obtain ⟨f1, rfl, _, _, _⟩ := open_int Tryd.underlying3 (hval 3 3 v3 rfl rfl) h3
  obtain ⟨f2, rfl, _, _, _⟩ := open_int Tryd.underlying3 (hval 4 3 v4 rfl rfl) h4
  obtain ⟨A3, c3, d, rfl, hc3, hA3, hs3, hd3, hn3⟩ := open_byc Tryd.underlying22 Tryd.underlying5 (by kernel_rfl) (okWide_slice Tryd.underlying22 (hval 5 22 v5 rfl rfl)) h5
  obtain ⟨f, rfl, _, _, _⟩ := open_int Tryd.underlying3 (hval 6 3 v6 rfl rfl) h6
  obtain ⟨n, rfl, _, _, _⟩ := open_int Tryd.underlying3 (hval 7 3 v7 rfl rfl) h7
  rw [MakeChecks.laidMetH_plain _ _ _ (by kernel_rfl)] at hL
  have hM := tabB hL
  have hP := tabP hL.tail
  have hT := tabT hL.tail.tail
  have hB4 : 4 ≤ W.heap.size := (cell_lt (hM 0 (by omega))).2
  refine (law_any W A1 A2 A3 c1 c2 c3 op f1 f2 f n ds1 ds2 d hs1 hs2 hs3 hd1 hd2 hd3 hc1 hc2 hc3 hA1 hA2 hA3 hn1 hn2 hn3 hB4 hM hP hT).mono fun e W' ⟨he, hm⟩ => ?_
  subst he
  exact ⟨_, rfl, law_post Tryd.laidOut' (by kernel_rfl) (by kernel_rfl) (by kernel_rfl) Tryd.underlying4 hW' hm.below ⟨rfl, rfl, rfl⟩⟩
theorem fnCombined_holds : Rows.FnCombinedSaid :=
  OpenClaim.holds_of_wide 3 Tryd.f3 rfl rfl rfl rfl rfl rfl rfl ⟨rfl, rfl, rfl, rfl, rfl⟩ rfl rfl rfl rfl rfl (by kernel_rfl) Tryd.func3 (by kernel_rfl)
    (of_decide_eq_true (by kernel_rfl)) (by unfold Func.isWrapper; first | (rw [if_pos (by decide +kernel)]; kernel_rfl) | (rw [if_neg (by decide +kernel)]; exact ⟨rfl, rfl⟩))
    (fun os started H enc _ => lifted3 os started H enc)
theorem fnCombined.proved : Rows.FnCombinedCardSaid :=
  Claim7.holds_tied_plain_at .later [] [.data, .data, .data] true (true, "b38e9b9a9ee20018ad76785954faea5c161d19d662fe654048a91fdfccdf458e") false
    fnCombined_holds (fun _ h => by cases h) (by kernel_rfl) (fun _ h => by cases h) fnCombined_row_tie rfl ⟨rfl, rfl⟩ (by kernel_rfl) rfl
    (fun f fn hf hfn => by
      obtain rfl : f = 3 := Option.some.inj ((show Tryd.prog.funcNamed "given.example/pub-fletching/laws.FnCombined" = some 3 by kernel_rfl).symm.trans hf) |>.symm
      obtain rfl : fn = Tryd.f3 := (Option.some.inj (Tryd.func3.symm.trans hfn)).symm
      exact ⟨by kernel_rfl, fun j t ht => by
        rw [Tryd.params3] at ht
        have hm : t ∈ [3, 22, 22, 3, 3, 22, 3, 3] := by simpa using Array.mem_of_getElem? ht
        have hall : ([3, 22, 22, 3, 3, 22, 3, 3].all fun u => !Tryd.prog.wantsStandIn u) = true := by kernel_rfl
        exact (show Tryd.prog.wantsStandIn t = false by simpa using List.all_eq_true.1 hall t hm)⟩)
    (by kernel_rfl)
#print axioms fnCombined.proved
end Go.Proofs.YtjfbojmeccdchaaDoor
