/- Arguments opened: a slice of bytes, a slice of booleans, as readable rows. (YtconkcjcjdmidaaGreatDoor) -/
import Derived.Test.YtconkcjcjdmidaaGreatDoorL2
import Derived.Test.YtconkcjcjdmidaaGreatDoorL3
import Derived.Deep.Grids
import Derived.ChangeSlices
import Derived.Carry
set_option linter.unusedVariables false
set_option linter.unusedSimpArgs false
namespace Go.Proofs.YtconkcjcjdmidaaGreatDoor
open Go.ChangeShapes Go.WideShapes Go.ChangeAt Go.RowKit Go.Deep
theorem cell_lt {w : World} {a : Addr} {v : Value} (h : w.cell? a = some v) : a.spot = none ∧ a.block < w.heap.size := by
  unfold World.cell? at h
  split at h
  · next hc =>
    split at h
    · cases h
    · next h2 => exact ⟨by simpa using h2, (Array.getElem?_eq_some_iff.1 hc).1⟩
  · cases h
theorem sl_of {w : World} {a : Addr} {n : Nat} {xs : List Value} (hl : xs.length = n) (h : ∀ i u, xs[i]? = some u → w.cell? (a.add i) = some u) : Sl w w.heap.size (some a) n xs := by
  refine ⟨hl, fun hn => ?_⟩
  obtain ⟨u, hu⟩ : ∃ u, xs[0]? = some u := ⟨xs[0]'(by omega), List.getElem?_eq_getElem _⟩
  have h0 := cell_lt (h 0 u hu)
  have e0 : ∀ i, (a.add i).block = a.block := fun i => by unfold Addr.add; split <;> rfl
  rw [e0] at h0
  obtain ⟨b, off, sp⟩ := a
  have hsp : sp = none := by
    have := h0.1
    cases sp with
    | none => rfl
    | some s => simp [Addr.add] at this
  subst hsp
  refine ⟨b, off, rfl, h0.2, fun j u hj => ?_⟩
  have := h j u hj
  rw [show (⟨b, off, none⟩ : Addr).add j = ⟨b, off + j, none⟩ by unfold Addr.add; split <;> simp_all] at this
  exact this
theorem sl_nil {w : World} {xs : List Value} (hl : xs.length = 0) (B : Nat) (A : Option Addr) : Sl w B A 0 xs := ⟨hl, fun h => absurd h (by omega)⟩
theorem u8_of_wf {z : Int} (h : (Lit.int .u8 z).wf = true) : 0 ≤ z ∧ z < 256 := by
  simp [Lit.wf, IntKind.min, IntKind.max, IntKind.signed, IntKind.bits] at h
  omega
variable {H : Type} {enc : TypeId × Value → H} {P : Program} {w : World} {base : Nat} {held : Bool}
theorem open_by {t e : TypeId} {v : Value} {d : DataW H} {p : List MemPlace} (ht : P.underlying t = some (.slice e)) (he : P.underlying e = some (.int .u8)) (hc : P.cellsOf e = 1) (hv : ∃ a len cap, v = .slice a len cap)
    (h : DataW.Trod enc P w base (fun _ => true) held t v d p) : ∃ A c ds, v = .slice A (List.length ds) c ∧ Small ds ∧ Sl w w.heap.size A ds.length (bv ds) ∧ ds.length ≤ maxLen := by
  obtain ⟨fuel, h⟩ := h
  obtain ⟨A, n, c, rfl⟩ := hv
  rcases open_ints ht he hc h with ⟨h1, _⟩ | ⟨a, len, cap, zs, h1, _, hl, hm, hz, _, hcell, hwf⟩
  · obtain ⟨rfl, rfl, rfl⟩ : A = none ∧ n = 0 ∧ c = 0 := by simpa [Value.cells] using h1
    exact ⟨none, 0, [], rfl, by intro x hx; simp at hx, sl_nil rfl _ _, by simp⟩
  · obtain ⟨rfl, rfl, rfl⟩ : A = some a ∧ n = len ∧ c = cap := by simpa [Value.cells] using h1
    simp only [if_true] at hz
    have hgd : ∀ i (h : i < zs.length), zs.getD i 0 = zs[i] := fun i h => by rw [List.getD_eq_getElem?_getD, List.getElem?_eq_getElem h]; rfl
    have hnn : ∀ i, i < c → 0 ≤ zs.getD i 0 ∧ zs.getD i 0 < 256 := fun i hi => by
      have := hwf (zs.getD i 0) (by rw [hgd i (by omega)]; exact List.getElem_mem _)
      exact u8_of_wf this
    have hlen : ((zs.take n).map Int.toNat).length = n := by simp; omega
    refine ⟨some a, c, (zs.take n).map Int.toNat, by rw [hlen], ?_, ?_, by rw [hlen]; omega⟩
    · intro x hx
      obtain ⟨z, hz1, rfl⟩ := List.mem_map.1 hx
      obtain ⟨i, hi, rfl⟩ := List.getElem_of_mem hz1
      simp at hi
      have := hnn i (by omega)
      rw [hgd i (by omega)] at this
      simp; omega
    · refine sl_of (by simp [bv]) fun i u hu => ?_
      have hi : i < n := by
        have := (List.getElem?_eq_some_iff.1 hu).1
        simp [bv] at this; omega
      have h2 := hcell i (by omega)
      have h3 := hnn i (by omega)
      rw [h2]
      rw [hgd i (by omega)] at h3 ⊢
      simp [bv, List.getElem?_map, List.getElem?_take, hi, List.getElem?_eq_getElem (show i < zs.length by omega)] at hu
      rw [← hu]
      congr 2
      have := h3.1
      omega
theorem open_bl {t e : TypeId} {v : Value} {d : DataW H} {p : List MemPlace} (ht : P.underlying t = some (.slice e)) (he : P.underlying e = some .bool) (hc : P.cellsOf e = 1) (hv : ∃ a len cap, v = .slice a len cap)
    (h : DataW.Trod enc P w base (fun _ => true) held t v d p) : ∃ A c ls, v = .slice A (List.length ls) c ∧ Sl w w.heap.size A ls.length (ls.map Value.bool) ∧ ls.length ≤ maxLen := by
  obtain ⟨fuel, h⟩ := h
  obtain ⟨A, n, c, rfl⟩ := hv
  rcases open_bools ht he hc h with ⟨h1, _⟩ | ⟨a, len, cap, B, h1, _, hl, hm, _, hcell⟩
  · obtain ⟨rfl, rfl, rfl⟩ : A = none ∧ n = 0 ∧ c = 0 := by simpa [Value.cells] using h1
    exact ⟨none, 0, [], rfl, sl_nil rfl _ _, by simp⟩
  · obtain ⟨rfl, rfl, rfl⟩ : A = some a ∧ n = len ∧ c = cap := by simpa [Value.cells] using h1
    have hlen : ((List.range n).map B).length = n := by simp
    refine ⟨some a, c, (List.range n).map B, by rw [hlen], ?_, by rw [hlen]; omega⟩
    rw [hlen]
    refine sl_of (by simp) fun i u hu => ?_
    have hi : i < n := by
      have := (List.getElem?_eq_some_iff.1 hu).1
      simpa using this
    rw [hcell i (by omega)]
    simp [List.getElem?_map, List.getElem?_range hi] at hu
    rw [hu]
end Go.Proofs.YtconkcjcjdmidaaGreatDoor
