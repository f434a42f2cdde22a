/- For every two lists of pairs FnMetaSame gives true: lists that are the same are equal, lists of unlike lengths or with unlike pairs are not. All inputs. (Ytpgonjoaeliccaa) -/
import Derived.Test.YtpgonjoaeliccaaM13
import Derived.Test.YtpgonjoaeliccaaL4
import Derived.Test.YtpgonjoaeliccaaRows
import Derived.Deep.SlicePairs
set_option linter.unusedVariables false
set_option linter.unusedSimpArgs false
namespace Go.Proofs.Ytpgonjoaeliccaa
open Go.RowKit Go.ChangeShapes Go.WideShapes Go.ChangeAt
theorem lawT_any (w : World) (va vb : Value) (la lb : List Pr) (ha : Ps w va la) (hb : Ps w vb lb) (hza : Sz la) (hzb : Sz lb) : Calls Try.prog 3 #[va, vb] w (POut w) := by
  by_cases h : 100 < la.length ∨ 100 < lb.length
  · exact lawT_long w va vb la lb ha hb hza hzb h
  · exact lawT_main w va vb la lb ha hb hza hzb (by omega) (by omega)
theorem cell_lt2 {w : World} {a : Addr} {v : Value} (h : w.cell? a = some v) : a.spot = none ∧ a.block < w.heap.size := by
  unfold World.cell? at h
  split at h
  · next hc =>
    split at h
    · cases h
    · next h2 => exact ⟨by simpa using h2, (Array.getElem?_eq_some_iff.1 hc).1⟩
  · cases h
theorem addr_lit (b off j : Nat) : (⟨b, off, none⟩ : Addr).add j = ⟨b, off + j, none⟩ := by unfold Addr.add; split <;> simp_all
theorem addr_of {w : World} {a : Addr} {v : Value} (h : w.cell? (a.add 0) = some v) : ∃ b off, a = ⟨b, off, none⟩ ∧ b < w.heap.size := by
  have h0 : a.add 0 = a := by unfold Addr.add; simp
  rw [h0] at h
  obtain ⟨h1, h2⟩ := cell_lt2 h
  obtain ⟨b, off, sp⟩ := a
  have h1' : sp = none := h1
  subst h1'
  exact ⟨b, off, rfl, h2⟩
theorem ps_nil (w : World) : Ps w (.slice none 0 0) [] := ⟨none, 0, rfl, Nat.le_refl _, fun h => by simp at h⟩
section
variable {H : Type} {enc : TypeId × Value → H} {P : Program} {w : World} {base : Nat} {held : Bool}
theorem open_ps {t e : TypeId} {f0 f1 : Field} {v : Value} {d : DataW H} {p : List MemPlace} (ht : P.underlying t = some (.slice e)) (he : P.underlying e = some (.struct #[f0, f1])) (ce : P.cellsOf e = 2) (o0 : f0.offset = 0) (o1 : f1.offset = 1) (c0 : P.cellsOf f0.type = 1) (c1 : P.cellsOf f1.type = 1)
    (s0 : P.underlying f0.type = some .string) (s1 : P.underlying f1.type = some .string) (hv : ∃ a len cap, v = .slice a len cap) (h : DataW.Trod enc P w base (fun _ => true) held t v d p) : ∃ l, Ps w v l ∧ Sz l := by
  obtain ⟨fuel, h⟩ := h
  obtain ⟨A, n, c, rfl⟩ := hv
  rcases Go.Deep.open_slice_pairs ht he ce o0 o1 c0 c1 h with ⟨h1, _⟩ | ⟨a, len, cap, m, k, V0, V1, D0, D1, P0, P1, h1, _, hl, hm, hmm, _, hx⟩
  · obtain ⟨rfl, rfl, rfl⟩ : A = none ∧ n = 0 ∧ c = 0 := by simpa [Value.cells] using h1
    exact ⟨[], ps_nil w, by simp, by simp⟩
  · obtain ⟨rfl, rfl, rfl⟩ : A = some a ∧ n = len ∧ c = cap := by simpa [Value.cells] using h1
    simp only [if_true] at hmm
    have each : ∀ i, i < n → ∃ q : Pr, w.cell? (a.add (i * 2)) = some (.string q.1) ∧ w.cell? (a.add (i * 2 + 1)) = some (.string q.2) ∧ q.1.size ≤ maxLen ∧ q.2.size ≤ maxLen := fun i hi => by
      obtain ⟨g0, g1, t0, t1⟩ := hx i (by omega)
      obtain ⟨x, ex, _, hx1⟩ := DataW.trod_string s0 t0
      obtain ⟨y, ey, _, hy1⟩ := DataW.trod_string s1 t1
      simp only [List.cons.injEq, and_true] at ex ey
      exact ⟨(x, y), by rw [g0, ex], by rw [g1, ey], hx1, hy1⟩
    obtain ⟨q, hq⟩ := Go.Deep.choose_lt each
    refine ⟨(List.range n).map q, ⟨some a, c, by simp, by simpa using hl, fun hp => ?_⟩, by simp; unfold maxLen at *; omega, fun x hx' => ?_⟩
    · have hp' : 0 < n := by simpa using hp
      obtain ⟨b, off, rfl, hb⟩ := addr_of (hq 0 hp').1
      refine ⟨b, off, rfl, hb, fun j hj => ?_⟩
      have hj' : j < n := by simpa using hj
      have e : ((List.range n).map q).getD j dP = q j := by rw [List.getD_eq_getElem?_getD]; simp [hj']
      obtain ⟨h2, h3, _⟩ := hq j hj'
      rw [addr_lit] at h2 h3
      rw [e]
      exact ⟨h2, by rw [Nat.add_assoc]; exact h3⟩
    · obtain ⟨j, hj, rfl⟩ := List.mem_map.1 hx'
      have hj' : j < n := by simpa using hj
      obtain ⟨_, _, h2, h3⟩ := hq j hj'
      unfold maxLen at h2 h3
      exact ⟨by omega, by omega⟩
end
theorem Try.own' : ownKnob Try.prog.godebug = none := by kernel_rfl
theorem Try.laidOut' : laidOutB Try.prog = true := by kernel_rfl
set_option maxRecDepth 100000 in
theorem lifted3 (os : Os) (started : os.Started) (H : Type) (enc : TypeId × Value → H) :
    ReturnsInHanded {} Try.checked os 3 .any (Rows.fnMetaSameSpec.pre6 enc Try.prog Try.f3 Rows.fnMetaSameRow.domain false) (Rows.fnMetaSameSpec.post enc Try.prog Try.f3 false true false false) := by
  refine returnsInHanded_of_change (C := Try.checked) Try.own' started (by kernel_rfl) Try.func3
    (ChangeSpec.witness6 (enc := enc) (C := Try.checked) false ⟨#[], #[.slice none 0 0, .slice none 0 0], []⟩ 8 (by kernel_rfl) (by kernel_rfl) (by kernel_rfl) (by kernel_rfl)) ?_
  intro W base args ds gs before hval0 hW hcnd _
  have hval : ∀ (j : Nat) t v, Try.f3.params[j]? = some t → args[j]? = some v → Value.okWide Try.prog W .any base t v := hval0
  have hW' := hW
  obtain ⟨p, q, hA0, hV, rfl, hfz, hnd⟩ := hW
  have hA : DataW.TrodAll enc Try.prog W 0 (fun _ => true) true Try.f3.params.toList args.toList ds p := hA0
  rw [Try.params3] at hA hval
  obtain ⟨v0, vs0, d0, ds0, p0, q0, hargs, rfl, rfl, h0, r0⟩ := trodAll_cons hA
  obtain ⟨v1, vs1, d1, ds1, p1, q1, rfl, rfl, rfl, h1, r1⟩ := trodAll_cons r0
  obtain ⟨rfl, rfl, rfl⟩ := trodAll_nil r1
  obtain rfl : args = #[v0, v1] := by cases args; simp_all
  obtain ⟨rfl, rfl⟩ := trodVars_none hV
  obtain ⟨la, hpa, hza⟩ := open_ps Try.underlying22 Try.underlying25 (by kernel_rfl) rfl rfl (by kernel_rfl) (by kernel_rfl) Try.underlying9 Try.underlying9 (okWide_slice Try.underlying22 (hval 0 22 v0 rfl rfl)) h0
  obtain ⟨lb, hpb, hzb⟩ := open_ps Try.underlying22 Try.underlying25 (by kernel_rfl) rfl rfl (by kernel_rfl) (by kernel_rfl) Try.underlying9 Try.underlying9 (okWide_slice Try.underlying22 (hval 1 22 v1 rfl rfl)) h1
  clear hA0 hval0
  refine (lawT_any W v0 v1 la lb hpa hpb hza hzb).mono fun e W' ⟨he, hb⟩ => ?_
  subst he
  exact ⟨_, rfl, law_post Try.laidOut' (by kernel_rfl) (by kernel_rfl) (by kernel_rfl) Try.underlying4 hW' hb ⟨rfl, rfl, rfl⟩⟩
theorem fnMetaSame_over : Rows.fnMetaSameRow.holds Try.pinned (OpenSpec.ofChange Rows.fnMetaSameSpec) :=
  OpenClaim.holds_of_wide 3 Try.f3 rfl rfl rfl rfl rfl rfl rfl ⟨rfl, rfl, rfl, rfl, rfl⟩ rfl rfl rfl rfl rfl (by kernel_rfl) Try.func3 (by kernel_rfl)
    (of_decide_eq_true (by kernel_rfl)) (by unfold Func.isWrapper; first | (rw [if_pos (by decide +kernel)]; kernel_rfl) | (rw [if_neg (by decide +kernel)]; exact ⟨rfl, rfl⟩))
    (fun os started H enc _ => lifted3 os started H enc)
/-- ████ THE STATEMENT ████ -/
theorem fnMetaSame.proved : Rows.FnMetaSameSaid := fnMetaSame_over
#print axioms fnMetaSame.proved
end Go.Proofs.Ytpgonjoaeliccaa
