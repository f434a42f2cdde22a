/- A drawn region with a store into what the loads read, and with operations that may come behind it. (YtconkcjcjdmidaaGreatDoor) -/
import Derived.Deep.RegionHeld3
import Derived.Test.YtconkcjcjdmidaaGreatDoorLK
namespace Go.Proofs.YtconkcjcjdmidaaGreatDoor
open Go
section
variable {P : Program} {ops : Array Oper} {Q : Exit → Act → World → Prop} {md : Region.Mode} {S : World → Prop} {k : Nat}
theorem getD_setF {l : Array Bool} {j k : Nat} (h : j ≠ k) : (l.setIfInBounds j true).getD k false = l.getD k false := by
  rw [Array.getD_eq_getD_getElem?, Array.getD_eq_getD_getElem?, Array.getElem?_setIfInBounds_ne h]
/-- As 'wpAnyK', but S is no more asked once operation k is done. -/
def wpAnyJ (P : Program) (md : Region.Mode) (ops : Array Oper) (Q : Exit → Act → World → Prop) (S : World → Prop) (k : Nat) : Nat → Array Bool → Act → World → Prop
  | 0, listed, a, w => Region.ready md ops listed = [] ∧ Q .normal a w
  | fuel + 1, listed, a, w =>
    (Region.ready md ops listed = [] → Q .normal a w) ∧
    ∀ i ∈ Region.ready md ops listed, wpOp P ops Q i (fun a' w' => ((listed.setIfInBounds i true).getD k false = true ∨ S w') ∧ wpAnyJ P md ops Q S k fuel (listed.setIfInBounds i true) a' w') a w
theorem wpAny_of_J : ∀ (fuel : Nat) (listed : Array Bool) (a : Act) (w : World), wpAnyJ P md ops Q S k fuel listed a w → wpAny P md ops Q fuel listed a w
  | 0, _, _, _, h => h
  | fuel + 1, _, _, _, h => ⟨h.1, fun i hi => wpOp_mono (fun a' w' h' => wpAny_of_J fuel _ a' w' h'.2) (h.2 i hi)⟩
theorem wpAnyJ_first {i : Nat} {oi : Oper} {v : Value} (hi : ops[i]? = some oi) (hsel : ∀ (j : Nat) (o : Oper) cs b, ops[j]? = some o → o.op ≠ .select cs b)
    (hQ : ∀ c a w, Q (.panic c) (a.put oi.dst v) w → Q (.panic c) a w) (hwt : waitsOn md ops k i = true) :
    ∀ (fuel : Nat) (listed : Array Bool) (a : Act) (w : World),
      (∀ j oj, ops[j]? = some oj → j ≠ i → listed.getD j true = false → (∀ e ∈ oj.after, Region.binds md e = true → e.on ≠ i) → oi.apart ops oj = true) → listed.getD k false = false →
      i ∈ Region.ready md ops listed → YieldsIf P ops S oi v a → S w →
      wpAnyJ P md ops Q S k fuel (listed.setIfInBounds i true) (a.put oi.dst v) w → wpAnyJ P md ops Q S k (fuel + 1) listed a w := by
  intro fuel
  induction fuel with
  | zero =>
    intro listed a w _ hkl hr hy hS H
    refine ⟨fun h => (by rw [h] at hr; cases hr), fun j hj => ?_⟩
    by_cases hji : j = i
    · subst hji; exact hy.wpOp hi hS ⟨.inr hS, H⟩
    · have := ready_mono hj hji
      rw [H.1] at this
      cases this
  | succ fuel ih =>
    intro listed a w hfree hkl hr hy hS H
    refine ⟨fun h => (by rw [h] at hr; cases hr), fun j hj => ?_⟩
    by_cases hji : j = i
    · subst hji; exact hy.wpOp hi hS ⟨.inr hS, H⟩
    · have hjk : j ≠ k := fun he => not_ready_of_waits hwt hr (he ▸ hj)
      have h1 := H.2 j (ready_mono hj hji)
      obtain ⟨hjun, oj, hoj, hall⟩ := mem_ready.1 hj
      have hnot : ∀ e ∈ oj.after, Region.binds md e = true → e.on ≠ i := fun e he hb heq => by
        have h1 := hall e he hb
        have h0 := (mem_ready.1 hr).1
        rw [heq] at h1
        rcases Nat.lt_or_ge i listed.size with h' | h'
        · simp [h'] at h0 h1; rw [h0] at h1; cases h1
        · simp [Array.getElem?_eq_none h'] at h1
      have h2 := wpOp_putIf hoj (hfree j oj hoj hji hjun hnot) (fun cs b => hsel i oi cs b hi) (fun cs b => hsel j oj cs b hoj) hQ hy h1
      have hfree' : ∀ m om, ops[m]? = some om → m ≠ i → (listed.setIfInBounds j true).getD m true = false →
          (∀ e ∈ om.after, Region.binds md e = true → e.on ≠ i) → oi.apart ops om = true := fun m om hom hmi hun hno => by
        refine hfree m om hom hmi ?_ hno
        by_cases hjm : j = m
        · subst hjm; exact hjun
        · rw [getD_set_ne true hjm] at hun; exact hun
      have hik : i ≠ k := fun he => not_ready_of_waits hwt hr (he ▸ hr)
      have hj0 : (listed.setIfInBounds j true).getD k false = false := by rw [getD_setF hjk]; exact hkl
      have hij0 : ¬ ((listed.setIfInBounds i true).setIfInBounds j true).getD k false = true := by rw [getD_setF hjk, getD_setF hik, hkl]; simp
      refine wpOp_mono (fun a' w' h3 => ⟨.inr (h3.2.1.resolve_left hij0), ih (listed.setIfInBounds j true) a' w' hfree' hj0 (ready_mono hr (Ne.symm hji)) h3.1 (h3.2.1.resolve_left hij0) ?_⟩) h2
      rw [Array.setIfInBounds_comm _ _ hji]
      exact h3.2.2
theorem wpAnyJ_take {i : Nat} {oi : Oper} {v : Value} {fuel : Nat} {listed : Array Bool} {a : Act} {w : World} (hi : ops[i]? = some oi)
    (hs : Region.noSelect ops = true) (hf : Region.free md ops listed i = true) (hr : (Region.ready md ops listed).contains i = true) (hwt : waitsOn md ops k i = true) (hkl : listed.getD k false = false)
    (hQ : ∀ c a w, Q (.panic c) (a.put oi.dst v) w → Q (.panic c) a w) (hy : YieldsIf P ops S oi v a) (hS : S w)
    (h : wpAnyJ P md ops Q S k fuel (listed.setIfInBounds i true) (a.put oi.dst v) w) : wpAnyJ P md ops Q S k (fuel + 1) listed a w :=
  wpAnyJ_first hi (Region.noSelect_spec hs) hQ hwt fuel listed a w (Region.free_spec hi hf) hkl (by simpa using hr) hy hS h
theorem wpAnyJ_free {i : Nat} {oi : Oper} {v : Value} (hi : ops[i]? = some oi) (hsel : ∀ (j : Nat) (o : Oper) cs b, ops[j]? = some o → o.op ≠ .select cs b)
    (hQ : ∀ c a w, Q (.panic c) (a.put oi.dst v) w → Q (.panic c) a w) (hik : i ≠ k) :
    ∀ (fuel : Nat) (listed : Array Bool) (a : Act) (w : World),
      (∀ j oj, ops[j]? = some oj → j ≠ i → listed.getD j true = false → (∀ e ∈ oj.after, Region.binds md e = true → e.on ≠ i) → oi.apart ops oj = true) →
      i ∈ Region.ready md ops listed → YieldsIf P ops (fun _ => True) oi v a → (listed.getD k false = true ∨ S w) →
      wpAnyJ P md ops Q S k fuel (listed.setIfInBounds i true) (a.put oi.dst v) w → wpAnyJ P md ops Q S k (fuel + 1) listed a w := by
  intro fuel
  induction fuel with
  | zero =>
    intro listed a w _ hr hy hS H
    refine ⟨fun h => (by rw [h] at hr; cases hr), fun j hj => ?_⟩
    by_cases hji : j = i
    · subst hji; exact hy.wpOp hi trivial ⟨by rw [getD_setF hik]; exact hS, H⟩
    · have := ready_mono hj hji
      rw [H.1] at this
      cases this
  | succ fuel ih =>
    intro listed a w hfree hr hy hS H
    refine ⟨fun h => (by rw [h] at hr; cases hr), fun j hj => ?_⟩
    by_cases hji : j = i
    · subst hji; exact hy.wpOp hi trivial ⟨by rw [getD_setF hik]; exact hS, H⟩
    · have h1 := H.2 j (ready_mono hj hji)
      obtain ⟨hjun, oj, hoj, hall⟩ := mem_ready.1 hj
      have hnot : ∀ e ∈ oj.after, Region.binds md e = true → e.on ≠ i := fun e he hb heq => by
        have h1 := hall e he hb
        have h0 := (mem_ready.1 hr).1
        rw [heq] at h1
        rcases Nat.lt_or_ge i listed.size with h' | h'
        · simp [h'] at h0 h1; rw [h0] at h1; cases h1
        · simp [Array.getElem?_eq_none h'] at h1
      have h2 := wpOp_putIf hoj (hfree j oj hoj hji hjun hnot) (fun cs b => hsel i oi cs b hi) (fun cs b => hsel j oj cs b hoj) hQ hy h1
      have hfree' : ∀ m om, ops[m]? = some om → m ≠ i → (listed.setIfInBounds j true).getD m true = false →
          (∀ e ∈ om.after, Region.binds md e = true → e.on ≠ i) → oi.apart ops om = true := fun m om hom hmi hun hno => by
        refine hfree m om hom hmi ?_ hno
        by_cases hjm : j = m
        · subst hjm; exact hjun
        · rw [getD_set_ne true hjm] at hun; exact hun
      refine wpOp_mono (fun a' w' h3 => ?_) h2
      have h4 : (listed.setIfInBounds j true).getD k false = true ∨ S w' := by
        have h5 := h3.2.1
        rw [Array.setIfInBounds_comm _ _ (Ne.symm hji), getD_setF hik] at h5
        exact h5
      refine ⟨h4, ih (listed.setIfInBounds j true) a' w' hfree' (ready_mono hr (Ne.symm hji)) h3.1 h4 ?_⟩
      rw [Array.setIfInBounds_comm _ _ hji]
      exact h3.2.2
theorem wpAnyJ_loose {i : Nat} {oi : Oper} {v : Value} {fuel : Nat} {listed : Array Bool} {a : Act} {w : World} (hi : ops[i]? = some oi)
    (hs : Region.noSelect ops = true) (hf : Region.free md ops listed i = true) (hr : (Region.ready md ops listed).contains i = true) (hik : i ≠ k)
    (hQ : ∀ c a w, Q (.panic c) (a.put oi.dst v) w → Q (.panic c) a w) (hy : YieldsIf P ops (fun _ => True) oi v a) (hS : S w)
    (h : wpAnyJ P md ops Q S k fuel (listed.setIfInBounds i true) (a.put oi.dst v) w) : wpAnyJ P md ops Q S k (fuel + 1) listed a w :=
  wpAnyJ_free hi (Region.noSelect_spec hs) hQ hik fuel listed a w (Region.free_spec hi hf) (by simpa using hr) hy (.inr hS) h
/-- One alone may come up. -/
theorem wpAnyJ_one {i : Nat} {o : Oper} {fuel : Nat} {listed : Array Bool} {a : Act} {w : World} (hr : Region.ready md ops listed = [i]) (ho : ops[i]? = some o)
    (h : ∀ K' : Act → World → Prop, Shut (∀ a w, S w → (S w → wpAnyJ P md ops Q S k fuel (listed.setIfInBounds i true) a w) → K' a w) → if Region.wanted o (yielded ops a.tmps) = true then Oper.wp P o a w K' Q else K' (a.put o.dst undef) w) :
    wpAnyJ P md ops Q S k (fuel + 1) listed a w :=
  ⟨fun h0 => by rw [h0] at hr; (cases hr), fun j hj => by
    rw [hr] at hj
    rcases List.mem_singleton.1 hj with rfl
    exact wpOp_step ho (fun K' hK => h K' (fun a w hS hW => hK a w ⟨.inr hS, hW hS⟩))⟩
/-- The last one. -/
theorem wpAnyJ_end {o : Oper} {fuel : Nat} {listed : Array Bool} {a : Act} {w : World} (hr : Region.ready md ops listed = [k]) (hke : (listed.setIfInBounds k true).getD k false = true) (ho : ops[k]? = some o)
    (h : ∀ K' : Act → World → Prop, Shut (∀ a w, wpAnyJ P md ops Q S k fuel (listed.setIfInBounds k true) a w → K' a w) → if Region.wanted o (yielded ops a.tmps) = true then Oper.wp P o a w K' Q else K' (a.put o.dst undef) w) :
    wpAnyJ P md ops Q S k (fuel + 1) listed a w :=
  ⟨fun h0 => by rw [h0] at hr; (cases hr), fun j hj => by
    rw [hr] at hj
    rcases List.mem_singleton.1 hj with rfl
    exact wpOp_step ho (fun K' hK => h K' (fun a w hW => hK a w ⟨.inl hke, hW⟩))⟩
theorem wpAnyJ_done {listed : Array Bool} {a : Act} {w : World} (hr : Region.ready md ops listed = []) (h : Q .normal a w) :
    ∀ fuel, wpAnyJ P md ops Q S k fuel listed a w
  | 0 => ⟨hr, h⟩
  | _ + 1 => ⟨fun _ => h, by rw [hr]; simp⟩
theorem wp_region_J {id : Nat} {a : Act} {w : World} (hm : P.follows .mixedOrders = true) (hS : S w.drew)
    (h : S w.drew → wpAnyJ P .any ops Q S k ops.size (Array.replicate ops.size false) a w.drew) : (Code.region id ops true).wp P Q a w :=
  wp_region_any hm (wpAny_of_J _ _ _ _ (h hS))
end
end Go.Proofs.YtconkcjcjdmidaaGreatDoor
