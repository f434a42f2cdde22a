/- For every schema and every name: the places of the fields of that name are all of them, ascending, and HasField and NumFields fit: FnSchemaFind gives true. All inputs; unicode/utf8's tables as the library's text lays them (tied). (YtconkcjcjdmidaaGreatDoor) -/
import Derived.Test.YtconkcjcjdmidaaGreatDoorZF
import Derived.Test.YtconkcjcjdmidaaGreatDoorL4
import Derived.Test.YtconkcjcjdmidaaGreatDoorCards
import Derived.Test.YtconkcjcjdmidaaGreatDoorTie
import Derived.ProofKit
import Derived.LaidMore
import Derived.OpenShut
import Derived.Stop.LaidErr
import Derived.Lib.LaidU8T
import Derived.PinnedBridge
import Derived.Lay
import Derived.LaidOnce
import Derived.MakeChecks
import Derived.SevenTiedAt
set_option linter.unusedVariables false
set_option linter.unusedSimpArgs false
namespace Go.Proofs.YtconkcjcjdmidaaGreatDoor
open Go.ChangeShapes Go.WideShapes Go.ChangeAt Go.RowKit Go.Deep
open Go.ChangeMaps (open_string)
theorem lawAll (w : World) (hTb : Tabs w) (a : Option Addr) (n c : Nat) (A : Option Addr) (cm : Nat) (lm : List Pr) (hfs : Fs w a n c) (ht : ∀ k, k < n → ∀ j, TyAt w j (fAt w a k).ty) (hps : Ps w (.slice A lm.length cm) lm) (hsz : Sz lm) (s : ByteArray) (hs : s.size ≤ maxLen) :
    Calls Tryz.prog 3 #[.agg #[.slice a n c, .slice A lm.length cm], .string s] w (PBl w true) := by
  by_cases h : (2147483647 : Int) < (s.size : Int)
  · exact law_long w a n c A cm lm hfs.2.1 hps hsz s hs h
  · exact law_any w hTb a n c A cm lm hfs ht hps hsz s hs h
theorem Tryz.own' : ownKnob Tryz.prog.godebug = none := by kernel_rfl
theorem Tryz.laidOut' : laidOutB Tryz.prog = true := by kernel_rfl
theorem acc_eq : (Rows.laid_unicode_utf8_acceptRanges : DataW Unit) = Lib.acceptData := by kernel_rfl
theorem tabs_of {W : World} (h : laidMet Tryz.prog Rows.fnSchemaFindRow.laid W) : Tabs W :=
  utf8Tabs_of_readsT (ρ := Tryz.validL_ren) (U8Types.of196 Tryz.validL) ⟨by kernel_rfl, by kernel_rfl, by kernel_rfl, by kernel_rfl, by kernel_rfl, by kernel_rfl, by kernel_rfl⟩
    (Pinned.utf8First_eq ▸ Lib.laidMet.reads h (.tail _ (.head _))) (acc_eq ▸ Lib.laidMet.reads h (.head _))
theorem okWide_struct {P : Program} {W : World} {base : Nat} {t : TypeId} {v : Value} {fs : Array Field} (ht : P.underlying t = some (.struct fs)) (h : Value.okWide P W .any base t v) : ∃ cs, v = .agg cs := by
  unfold Value.okWide at h
  rw [ht] at h
  obtain ⟨cs, e, _⟩ := h
  exact ⟨cs, e⟩
set_option maxRecDepth 100000 in
theorem lifted3 (os : Os) (started : os.Started) (H : Type) (enc : TypeId × Value → H) :
    ReturnsInHanded {} Tryz.checked os 3 .any (fun w args => (Rows.fnSchemaFindSpec.pre enc Tryz.prog Tryz.f3 [] false w args ∧ laidMetH Tryz.prog Rows.fnSchemaFindRow.laid w) ∧ sizedMet enc Tryz.prog Tryz.f3 (OpenSpec.ofChange Rows.fnSchemaFindSpec) false w args)
      (Rows.fnSchemaFindSpec.post enc Tryz.prog Tryz.f3 false true false false) := by
  refine returnsInHanded_of_change_and (C := Tryz.checked) (X := fun w _ => laidMetH Tryz.prog Rows.fnSchemaFindRow.laid w) (fun _ _ _ hh h => h.of_heap hh) Tryz.own' started (by kernel_rfl) Tryz.func3
    (ChangeSpec.witness_shaped (enc := enc) (C := Tryz.checked) (os := os) (X := fun w _ => laidMetH Tryz.prog Rows.fnSchemaFindRow.laid w) false (World.laidAll Tryz.prog os Rows.fnSchemaFindRow.laid) #[.agg #[.slice none 0 0, .slice none 0 0], .string ⟨#[]⟩] 8 (World.laidAll_os _ _ _)
      (World.shaped_of_ZipB (by kernel_rfl) (by kernel_rfl)) (by kernel_rfl) (by kernel_rfl) (by kernel_rfl)
      (by rw [MakeChecks.laidMetH_plain _ _ _ (by kernel_rfl)]; exact laidMet_laidAll _ (by kernel_rfl) (by kernel_rfl))) ?_
  intro W base args ds gs before hval0 hW _ _ hL _
  have hval : ∀ (j : Nat) t v, Tryz.f3.params[j]? = some t → args[j]? = some v → Value.okWide Tryz.prog W .any base t v := hval0
  have hW' := hW
  obtain ⟨p, q, hA0, hV, rfl, hfz, hnd⟩ := hW
  have hA : DataW.TrodAll enc Tryz.prog W 0 (fun _ => true) true Tryz.f3.params.toList args.toList ds p := hA0
  rw [Tryz.params3] at hA hval
  obtain ⟨v0, vs0, d0, ds0, p0, q0, hargs, rfl, rfl, h0, r0⟩ := trodAll_cons hA
  obtain ⟨v1, vs1, d1, ds1, p1, q1, rfl, rfl, rfl, h1, r1⟩ := trodAll_cons r0
  obtain ⟨rfl, rfl, rfl⟩ := trodAll_nil r1
  obtain rfl : args = #[v0, v1] := by cases args; simp_all
  obtain ⟨rfl, rfl⟩ := trodVars_none hV
  obtain ⟨a, n, c, A, cm, lm, rfl, hfs, hty, hps, hsz⟩ := open_sch (okWide_struct Tryz.underlying25 (hval 0 25 v0 rfl rfl)) h0
  obtain ⟨s, rfl, _, _, ws⟩ := open_string Tryz.underlying9 (hval 1 9 v1 rfl rfl) h1
  rw [MakeChecks.laidMetH_plain _ _ _ (by kernel_rfl)] at hL
  have hT := tabs_of hL
  clear hA0 hval0
  refine (lawAll W hT a n c A cm lm hfs hty hps hsz s ws).mono fun e W' ⟨he, hb⟩ => ?_
  subst he
  exact ⟨_, rfl, law_post Tryz.laidOut' (by kernel_rfl) (by kernel_rfl) (by kernel_rfl) Tryz.underlying4 hW' hb ⟨rfl, rfl, rfl⟩⟩
theorem fnSchemaFind_holds : Rows.FnSchemaFindSaid :=
  OpenClaim.holds_of_wide 3 Tryz.f3 rfl rfl rfl rfl rfl rfl rfl ⟨rfl, rfl, rfl, rfl, rfl⟩ rfl rfl rfl rfl rfl (by kernel_rfl) Tryz.func3 (by kernel_rfl)
    (of_decide_eq_true (by kernel_rfl)) (by unfold Func.isWrapper; first | (rw [if_pos (by decide +kernel)]; kernel_rfl) | (rw [if_neg (by decide +kernel)]; exact ⟨rfl, rfl⟩))
    (fun os started H enc _ => lifted3 os started H enc)
theorem fnSchemaFind.proved : Rows.FnSchemaFindCardSaid :=
  Claim7.holds_tied_plain_at .later [] [.data, .pinned] true (true, "7a5fb4fd34dbe46690af7f7292463c7fbbf2140238cd86cc4db43a114d07c5a5") false
    fnSchemaFind_holds (fun _ h => by cases h) (by kernel_rfl) (fun _ h => by cases h) fnSchemaFind_row_tie rfl ⟨rfl, rfl⟩ (by kernel_rfl) rfl
    (fun f fn hf hfn => by
      obtain rfl : f = 3 := Option.some.inj ((show Tryz.prog.funcNamed "given.example/pub-fletching/laws.FnSchemaFind" = some 3 by kernel_rfl).symm.trans hf) |>.symm
      obtain rfl : fn = Tryz.f3 := (Option.some.inj (Tryz.func3.symm.trans hfn)).symm
      exact ⟨by kernel_rfl, fun j t ht => by
        rw [Tryz.params3] at ht
        have hm : t ∈ [25, 9] := by simpa using Array.mem_of_getElem? ht
        have hall : ([25, 9].all fun u => !Tryz.prog.wantsStandIn u) = true := by kernel_rfl
        exact (show Tryz.prog.wantsStandIn t = false by simpa using List.all_eq_true.1 hall t hm)⟩)
    (by kernel_rfl)
#print axioms fnSchemaFind.proved
end Go.Proofs.YtconkcjcjdmidaaGreatDoor
