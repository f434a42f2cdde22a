/- Lists of pairs of texts, as the given law reads them. (YtconkcjcjdmidaaGreatDoor) -/
import Derived.Test.YtconkcjcjdmidaaGreatDoorT1
import Derived.Test.YtconkcjcjdmidaaGreatDoorChecked
import Derived.Deep.DrawnRows
import Derived.Deep.AppendLies
import Derived.Deep.RegionHeld3
import Derived.BigRegion
set_option linter.unusedVariables false
set_option linter.unusedSimpArgs false
namespace Go.Proofs.YtconkcjcjdmidaaGreatDoor
open Go.RowKit Go.ChangeShapes Go.WideShapes Go.ChangeAt Go
attribute [local go_sem ↓] Go.wp_at_zero Go.wp_at_succ
abbrev Pr := ByteArray × ByteArray
def dP : Pr := (⟨#[]⟩, ⟨#[]⟩)
def Ps (w : World) (v : Value) (l : List Pr) : Prop := ∃ A c, v = .slice A l.length c ∧ l.length ≤ c ∧ (0 < l.length → ∃ b off, A = some ⟨b, off, none⟩ ∧ b < w.heap.size ∧ ∀ k, k < l.length → w.cell? ⟨b, off + k * 2, none⟩ = some (.string (l.getD k dP).1) ∧ w.cell? ⟨b, off + k * 2 + 1, none⟩ = some (.string (l.getD k dP).2))
theorem Ps.below {w w' : World} {v : Value} {l : List Pr} (h : Ps w v l) (hb : Below w.heap.size w w') : Ps w' v l := by
  obtain ⟨A, c, e, h1, h2⟩ := h
  refine ⟨A, c, e, h1, fun hp => ?_⟩
  obtain ⟨b, off, e2, h3, h4⟩ := h2 hp
  have := hb.size
  exact ⟨b, off, e2, by omega, fun k hk => ⟨(hb.cell (p := ⟨b, off + k * 2, none⟩) h3).trans (h4 k hk).1, (hb.cell (p := ⟨b, off + k * 2 + 1, none⟩) h3).trans (h4 k hk).2⟩⟩
def Sz (l : List Pr) : Prop := l.length ≤ 9223372036854775807 ∧ ∀ p ∈ l, p.1.size ≤ 9223372036854775807 ∧ p.2.size ≤ 9223372036854775807
theorem Sz.at_ {l : List Pr} (h : Sz l) {k : Nat} (hk : k < l.length) : (l.getD k dP).1.size ≤ 9223372036854775807 ∧ (l.getD k dP).2.size ≤ 9223372036854775807 := by
  rw [List.getD_eq_getElem?_getD, List.getElem?_eq_getElem hk]
  exact h.2 _ (List.getElem_mem hk)
def PBb (w : World) (e : Ending) (w' : World) : Prop := ∃ b, e = .returned (.bool b) ∧ Below w.heap.size w w'
theorem pbb_mk {w w' : World} (h : Below w.heap.size w w') (b : Bool) : PBb w (.returned (.bool b)) w' := ⟨b, rfl, h⟩
set_option maxRecDepth 100000 in
set_option maxHeartbeats 1000000 in
theorem zz5_any (w : World) (a b : ByteArray) (ha : a.size ≤ 9223372036854775807) (hb : b.size ≤ 9223372036854775807) : Calls Tryz.prog 15 #[.agg #[.string a, .string b]] w (PBb w) := by
  have hP := hide (fun b' => pbb_mk ((Below.refl w.heap.size w).alloc (Nat.le_refl _) (.cells #[.string a, .string b] 44)) b')
  go_enter Tryz.func15, Tryz.ntmps15
  go_wp2_with fail
  all_goals first | (go_ret; exact (unhide hP) _)
set_option maxRecDepth 100000 in
set_option maxHeartbeats 2000000 in
theorem zz4_any (w : World) (v : Value) (l : List Pr) (h : Ps w v l) (hz : Sz l) : Calls Tryz.prog 8 #[v] w (PBb w) := by
  obtain ⟨A, c, rfl, hc, hcell⟩ := h
  have HC := hide hcell
  have hP := hide (fun (w' : World) (h : Below w.heap.size w w') b' => pbb_mk h b')
  have HZ := hide (fun k hk => Sz.at_ hz (k := k) hk)
  have hml := hz.1
  clear hcell hz
  have hG := hide (fun k => (rfl : l.getD k dP = l.getD k dP))
  clear hG
  by_cases h1 : 2147483647 < l.length
  · go_enter Tryz.func8, Tryz.ntmps8
    go_wp2_with fail
    all_goals first | (go_ret; exact (unhide hP) _ (Below.refl _ _) _) | (exfalso; simp at *; omega)
  · go_enter Tryz.func8, Tryz.ntmps8
    go_wp2_with fail
    go_loopw [10] (fun v wr => ∃ k : Nat, k ≤ l.length ∧ v = .int .i64 (k : Int) ∧ Below w.heap.size w wr) (fun v _ => l.length - (intOf v).toNat)
    case atStart => exact ⟨0, by omega, rfl, Below.refl _ _⟩
    case round =>
      obtain ⟨k, hk, rfl, hb⟩ := hrel
      by_cases hlt : k < l.length
      · obtain ⟨b, off, rfl, hbl, hcell⟩ := (unhide HC) (by omega)
        obtain ⟨z1, z2⟩ := (unhide HZ) k hlt
        obtain ⟨y0, y1⟩ := hcell k hlt
        have y2 := (hb.cell (p := ⟨b, off + k * 2, none⟩) hbl).trans y0
        have y3 := (hb.cell (p := ⟨b, off + k * 2 + 1, none⟩) hbl).trans y1
        clear hcell y0 y1
        generalize l.getD k dP = p at *
        obtain ⟨s1, s2⟩ := p
        dsimp only at *
        have HB := hide hb
        clear hb
        go_wp2_with (go_at_call 15; (with_reducible refine (zz5_any _ s1 s2 z1 z2).mono ?_); rintro e w3 ⟨b3, rfl, hb3⟩; have HBa := (unhide HB).alloc (unhide HB).size (.cells #[.string s1, .string s2] 44); have HB3 := below_tr HBa hb3 HBa.size)
        all_goals first | (go_ret; exact (unhide hP) _ HB3 _) | exact ⟨⟨k + 1, by omega, by simp, HB3⟩, by simp [intOf]; omega⟩ | (exfalso; simp at *; omega)
      · go_wp2_with fail
        go_ret
        exact (unhide hP) _ hb _
end Go.Proofs.YtconkcjcjdmidaaGreatDoor
