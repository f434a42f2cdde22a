/- Types of arrow, by levels. (YtconkcjcjdmidaaGreatDoor) -/
import Derived.Test.YtconkcjcjdmidaaGreatDoorTO
set_option linter.unusedVariables false
set_option linter.unusedSimpArgs false
namespace Go.Proofs.YtconkcjcjdmidaaGreatDoor
open Go.RowKit Go.ChangeShapes Go.WideShapes Go.ChangeAt Go
theorem fsp_of {w0 W : World} {a : Option Addr} {n : Nat} {e : Ending} {w' : World} (hn : 0 < n) (h : ∃ v l, e = .returned v ∧ l.length = n ∧ Like w0 a l ∧ Below W.heap.size W w' ∧ ((n = 0 ∧ ∃ A c', v = .slice A 0 c') ∨ ∃ b c, v = .slice (some ⟨b, 0, none⟩) l.length c ∧ W.heap.size ≤ b ∧ l.length ≤ c ∧ ArL w' b l)) : FsP w0 W a n e w' := by
  obtain ⟨v, l, rfl, hl, hlk, hb, h⟩ := h
  rcases h with ⟨h0, _⟩ | ⟨b, c, rfl, _, hc, ha⟩
  · omega
  · exact ⟨l, b, c, by rw [hl], hl, hlk, hb, by omega, ha⟩
/-- what is said of types at a level. -/
def AT (w0 : World) (n : Nat) : Prop := ∀ (W : World) (t : Ty), Ok w0 n t → Nm w0 n t → (∀ m, TyAt w0 m t) → Below w0.heap.size w0 W → Calls Tryz.prog 40 #[t.val] W (PIf W)
theorem nested_all (w0 : World) (n : Nat) (ih : ∀ m, m ≤ n → AT w0 m) (w : World) (t : Ty) (hok : Ok w0 (n + 1) t) (hnm : Nm w0 (n + 1) t) (ht : ∀ m, TyAt w0 m t) (hb : Below w0.heap.size w0 w)
    (hk : t.kd = 12 ∨ t.kd = 13 ∨ t.kd = 14 ∨ t.kd = 16 ∨ t.kd = 17 ∨ t.kd = 21 ∨ t.kd = 22 ∨ t.kd = 25 ∨ t.kd = 26 ∨ t.kd = 27) : Calls Tryz.prog 44 #[t.val] w (PIf w) := by
  obtain ⟨h1, h2, h3, h4, h5, k2, k3, k7, k11, k16, k14, k17⟩ := hok
  obtain ⟨_, _, _, _, _, _, his, hfs, _⟩ := ht 1
  have hsub : ∀ k, k < t.nf → Ok w0 n (fAt w0 t.af k).ty ∧ (fAt w0 t.af k).nm' = 0 ∧ Nm w0 n (fAt w0 t.af k).ty ∧ ∀ m, TyAt w0 m (fAt w0 t.af k).ty := fun k hk => ⟨h5 k hk, (hnm k hk).1, (hnm k hk).2, fun m => ((ht (m + 1)).2.2.2.2.2.2.2.2 k hk).1⟩
  have h100 : t.nf ≤ 100 := by
    have : mostP t.kd ≤ 100 := by unfold mostP; split <;> (try split) <;> (try split) <;> omega
    omega
  have hF : ∀ W, Below w.heap.size w W → Calls Tryz.prog 20 #[.slice t.af t.nf t.cf] W _ := fun W hW => fields_of w0 n t.af t.nf t.cf hfs (by omega) hsub (ih n (Nat.le_refl _)) W (below_tr hb hW hb.size)
  have hNC : 0 < t.nf → NC w0 w t := fun h0 => ⟨h0, h100, fun W hW => (hF W hW).mono fun e w' h => fsp_of h0 h⟩
  have e1 : t.kd = 12 ∨ t.kd = 21 ∨ t.kd = 25 ∨ t.kd = 26 ∨ t.kd = 16 ∨ t.kd = 17 → t.nf = 1 := fun h => by
    have a1 : leastP t.kd = 1 := by unfold leastP; rw [if_pos h]
    have a2 : mostP t.kd = 1 := by unfold mostP; rw [if_pos h]
    omega
  have e2 : t.kd = 22 ∨ t.kd = 27 → t.nf = 2 := fun h => by
    have a1 : leastP t.kd = 2 := by unfold leastP; rw [if_neg (by omega), if_pos h]
    have a2 : mostP t.kd = 2 := by unfold mostP; rw [if_neg (by omega), if_pos h]
    omega
  rcases hk with h | h | h | h | h | h | h | h | h | h
  · have := e1 (by omega); exact nested_12 w0 w t h (hNC (by omega)) this
  · rcases Nat.eq_zero_or_pos t.nf with h0 | h0
    · refine nested_13z w t h h0 (fun W hW => (hF W hW).mono ?_)
      rintro e w' ⟨v, l, rfl, hl, hlk, hbw, hv⟩
      rcases hv with ⟨_, A, c', rfl⟩ | ⟨b, c, rfl, _, _, _⟩
      · exact ⟨A, c', rfl, hbw⟩
      · exact ⟨_, c, by rw [hl, h0], hbw⟩
    · exact nested_13 w0 w t h (hNC h0)
  · obtain ⟨⟨hni, hids⟩, h0⟩ := k14 h
    have hb0 : ∃ bi oi, t.ai = some ⟨bi, oi, none⟩ := by
      obtain ⟨bi, oi, e, _⟩ := his.at_ (Below.refl _ _) (k := 0) (by omega)
      exact ⟨bi, oi, e⟩
    obtain ⟨bi, oi, hai⟩ := hb0
    refine nested_14 w0 w t h (hNC h0) hni bi oi hai (by have := his.1; omega) (fun W hW k hk => ?_) (fun k hk => hids k (by omega))
    obtain ⟨b', o', e', hc, _⟩ := his.at_ (below_tr hb hW hb.size) (k := k) (by omega)
    rw [hai] at e'
    injection e' with e'
    injection e' with e1 e2 _
    subst e1 e2
    exact hc
  · have := e1 (by omega); exact nested_16 w0 w t h (hNC (by omega)) this (k16 h).1 (k16 h).2
  · have hone := e1 (by omega)
    obtain ⟨q1, q2, q3⟩ := k17 h
    have h0 : 0 < t.nf := by omega
    obtain ⟨b0, o0, haf, hcs⟩ := hfs.base h0
    obtain ⟨s1, s2, s3, s4⟩ := hsub 0 h0
    obtain ⟨_, _, _, _, _, _, _, hfe, _⟩ := s4 1
    match n, ih, s1, s3 with
    | 0, _, s1, _ => exact absurd s1 (by unfold Ok; exact fun h => h)
    | n + 1, ih, s1, s3 =>
      obtain ⟨g1, g2, g3, g4, g5, _⟩ := s1
      have hM : ∀ W, Below w.heap.size w W → Calls Tryz.prog 20 #[.slice (fAt w0 t.af 0).ty.af 2 (fAt w0 t.af 0).ty.cf] W (FsP w0 W (fAt w0 t.af 0).ty.af 2) := fun W hW => by
        have := fields_of w0 n (fAt w0 t.af 0).ty.af (fAt w0 t.af 0).ty.nf (fAt w0 t.af 0).ty.cf hfe (by omega) (fun k hk => ⟨g5 k hk, (s3 k hk).1, (s3 k hk).2, fun m => ((s4 (m + 1)).2.2.2.2.2.2.2.2 k hk).1⟩) (ih n (by omega)) W (below_tr hb hW hb.size)
        rw [q2] at this
        exact this.mono fun e w' h => fsp_of (by omega) h
      refine nested_17 w0 w t h (hNC h0) hone b0 o0 haf _ (fAt w0 t.af 0).ty.cf (by have := hfe.1; omega) (fun W hW => ?_) hM q3
      have := (hcs W (below_tr hb hW hb.size) 0 h0).1.2.2.2.2.2.2.2.2.2.2.2.1
      rw [q2] at this
      simpa using this
  · have := e1 (by omega); exact nested_21 w0 w t h (hNC (by omega)) this
  · have := e2 (by omega); exact nested_22 w0 w t h (hNC (by omega)) this
  · have := e1 (by omega); exact nested_25 w0 w t h (hNC (by omega)) this
  · have := e1 (by omega); exact nested_26 w0 w t h (hNC (by omega)) this
  · have := e2 (by omega); exact nested_27 w0 w t h (hNC (by omega)) this
theorem arrowType_all (w0 : World) : ∀ n, AT w0 n := by
  intro n
  induction n using Nat.strongRecOn with
  | ind n ih =>
    intro w t hok hnm ht hb
    match n, ih, hok, hnm with
    | 0, _, hok, _ => exact absurd hok (by unfold Ok; exact fun h => h)
    | n + 1, ih, hok, hnm =>
      have hN := fun (W : World) (hW : Below w.heap.size w W) => nested_all w0 n (fun m hm => ih m (by omega)) W t hok hnm ht (below_tr hb hW hb.size)
      obtain ⟨h1, h2, h3, h4, h5, k2, k3, k7, k11, k16, k14, k17⟩ := hok
      have hc : t.kd = 1 ∨ t.kd = 2 ∨ t.kd = 3 ∨ t.kd = 4 ∨ t.kd = 5 ∨ t.kd = 6 ∨ t.kd = 7 ∨ t.kd = 8 ∨ t.kd = 9 ∨ t.kd = 10 ∨ t.kd = 11 ∨ t.kd = 15 ∨ t.kd = 18 ∨ t.kd = 19 ∨ t.kd = 20 ∨ t.kd = 23 ∨ t.kd = 24 ∨ t.kd = 12 ∨ t.kd = 13 ∨ t.kd = 14 ∨ t.kd = 16 ∨ t.kd = 17 ∨ t.kd = 21 ∨ t.kd = 22 ∨ t.kd = 25 ∨ t.kd = 26 ∨ t.kd = 27 := by omega
      rcases hc with h | h | h | h | h | h | h | h | h | h | h | h | h | h | h | h | h | h | h | h | h | h | h | h | h | h | h
      · exact type_1 w t h
      · exact type_2 w t h (k2 h)
      · rcases k3 h with e | e | e
        · exact type_3a w t h e
        · exact type_3b w t h e
        · exact type_3c w t h e
      · exact type_4 w t h
      · exact type_5 w t h
      · exact type_6 w t h
      · exact type_7 w t h (k7 h)
      · by_cases e : t.un = 0
        · exact type_8a w t h e
        · exact type_8b w t h e
      · by_cases e : t.un < 2
        · exact type_9a w t h e
        · exact type_9b w t h e
      · exact type_10 w t h
      · rcases k11 h with e | e | e
        · exact type_11a w t h e
        · exact type_11b w t h e
        · exact type_11c w t h e
      · exact type_15 w t h
      · exact type_18 w t h
      · exact type_19 w t h
      · exact type_20 w t h
      · exact type_23 w t h
      · exact type_24 w t h
      · exact type_n12 w t h (fun W hW => hN W hW (by omega))
      · exact type_n13 w t h (fun W hW => hN W hW (by omega))
      · exact type_n14 w t h (fun W hW => hN W hW (by omega))
      · exact type_n16 w t h (fun W hW => hN W hW (by omega))
      · exact type_n17 w t h (fun W hW => hN W hW (by omega))
      · exact type_n21 w t h (fun W hW => hN W hW (by omega))
      · exact type_n22 w t h (fun W hW => hN W hW (by omega))
      · exact type_n25 w t h (fun W hW => hN W hW (by omega))
      · exact type_n26 w t h (fun W hW => hN W hW (by omega))
      · exact type_n27 w t h (fun W hW => hN W hW (by omega))
end Go.Proofs.YtconkcjcjdmidaaGreatDoor
