/- For every two lists of words that are decimals of 256 bits and whose product fits, where neither they nor it is the least number, Mul gives the product: FnDecMulWide gives true. All inputs; math/big's variables as the program's text lays them (tied). (YtfalicipocbcoaaGreatDoor) -/
import Derived.Test.YtfalicipocbcoaaGreatDoorL2
import Derived.Deep.Grids
import Derived.ChangeSlices
import Derived.Carry
import Derived.Test.YtfalicipocbcoaaGreatDoorN2
import Derived.Test.YtfalicipocbcoaaGreatDoorW13
import Derived.Defers
import Derived.Test.YtfalicipocbcoaaGreatDoorN3
import Derived.Test.YtfalicipocbcoaaGreatDoorCards
import Derived.Test.YtfalicipocbcoaaGreatDoorTie
import Derived.ProofKit
import Derived.LaidMore
import Derived.OpenShut
import Derived.Stop.LaidErr
import Derived.Lib.LaidTab
import Derived.MakeChecks
import Derived.SevenTiedAt
set_option linter.unusedVariables false
set_option linter.unusedSimpArgs false
namespace Go.Proofs.YtfalicipocbcoaaGreatDoor
section
open Go.RowKit

def bitAt (l : List Nat) (i : Nat) : Bool := (l.getD (i / 8) 0).testBit (i % 8)
def Small (l : List Nat) : Prop := ∀ x ∈ l, x < 256
theorem Small.get {l : List Nat} (h : Small l) (i : Nat) : l.getD i 0 < 256 := by
  rcases Nat.lt_or_ge i l.length with hi | hi
  · rw [List.getD_eq_getElem?_getD, List.getElem?_eq_getElem hi]; exact h _ (List.getElem_mem hi)
  · rw [List.getD_eq_getElem?_getD, List.getElem?_eq_none hi]; decide
theorem Small.set {l : List Nat} (h : Small l) (i x : Nat) (hx : x < 256) : Small (l.set i x) := by
  intro y hy
  rcases List.mem_or_eq_of_mem_set hy with h1 | h1
  · exact h y h1
  · omega
theorem Small.append {l m : List Nat} (h : Small l) (k : Small m) : Small (l ++ m) := by
  intro y hy; rcases List.mem_append.1 hy with h1 | h1; exact h y h1; exact k y h1
theorem getD_set (l : List Nat) (i j x : Nat) (hi : i < l.length) : (l.set i x).getD j 0 = if j = i then x else l.getD j 0 := by
  simp only [List.getD_eq_getElem?_getD, List.getElem?_set]
  by_cases h : i = j
  · subst h; simp [hi]
  · rw [if_neg h, if_neg (fun e => h e.symm)]
theorem bitAt_set (l : List Nat) (j x i : Nat) (hj : j < l.length) : bitAt (l.set j x) i = if i / 8 = j then x.testBit (i % 8) else bitAt l i := by
  unfold bitAt
  rw [getD_set _ _ _ _ hj]
  split <;> rfl
theorem testBit_big {x k : Nat} (hx : x < 256) (hk : 8 ≤ k) : x.testBit k = false := by
  apply Nat.testBit_lt_two_pow
  exact Nat.lt_of_lt_of_le hx (show 256 ≤ 2 ^ k from Nat.pow_le_pow_right (n := 2) (by decide) hk)
theorem byte_ext {x y : Nat} (hx : x < 256) (hy : y < 256) (h : ∀ k, k < 8 → x.testBit k = y.testBit k) : x = y := by
  apply Nat.eq_of_testBit_eq
  intro k
  rcases Nat.lt_or_ge k 8 with hk | hk
  · exact h k hk
  · rw [testBit_big hx hk, testBit_big hy hk]
theorem bytes_ext {l m : List Nat} (hlen : l.length = m.length) (hl : Small l) (hm : Small m) (h : ∀ i, i < 8 * l.length → bitAt l i = bitAt m i) : l = m := by
  apply List.ext_getElem hlen
  intro i h1 h2
  have e1 : l[i] = l.getD i 0 := by simp [List.getD_eq_getElem?_getD, List.getElem?_eq_getElem h1]
  have e2 : m[i] = m.getD i 0 := by simp [List.getD_eq_getElem?_getD, List.getElem?_eq_getElem h2]
  rw [e1, e2]
  apply byte_ext (hl.get i) (hm.get i)
  intro k hk
  have := h (8 * i + k) (by omega)
  unfold bitAt at this
  have a1 : (8 * i + k) / 8 = i := by omega
  have a2 : (8 * i + k) % 8 = k := by omega
  rwa [a1, a2] at this

/-! ### bytes: Go's operations, in the walk's own forms -/
theorem pow_lt8 {k : Nat} (hk : k < 8) : 2 ^ k < 256 := by
  have : 2 ^ k < 2 ^ 8 := Nat.pow_lt_pow_right (by decide) hk
  simpa using this
theorem tb_pow (k j : Nat) : (2 ^ k).testBit j = decide (k = j) := Nat.testBit_two_pow
theorem and_lt8 {x : Nat} (hx : x < 256) (y : Nat) : x &&& y < 256 := Nat.lt_of_le_of_lt Nat.and_le_left hx
theorem or_lt8 {x y : Nat} (hx : x < 256) (hy : y < 256) : x ||| y < 256 := Nat.or_lt_two_pow (n := 8) hx hy
theorem xor_lt8 {x y : Nat} (hx : x < 256) (hy : y < 256) : x ^^^ y < 256 := Nat.xor_lt_two_pow (n := 8) hx hy
theorem tb_not8 (m j : Nat) (hm : m < 256) (hj : j < 8) : (255 - m).testBit j = !m.testBit j := by
  have := Nat.testBit_two_pow_sub_succ (n := 8) (x := m) hm j
  have e : 2 ^ 8 - (m + 1) = 255 - m := by omega
  rw [e] at this
  rw [this]; simp [hj]
/-- '(x >> k) & 1 == 1' asks for the bit k. -/
theorem and1_tb (x k : Nat) (hx : x < 256) : (bits .and .u8 ((x : Int) / 2 ^ k) 1 == 1) = x.testBit k := by
  have e : ((x : Int) / 2 ^ k) = ((x / 2 ^ k : Nat) : Int) := by simp
  have hlt : x / 2 ^ k < 256 := Nat.lt_of_le_of_lt (Nat.div_le_self _ _) hx
  have h := u8_and_nat (x / 2 ^ k) 1 hlt (by decide)
  rw [e]
  have h' : bits .and .u8 ((x / 2 ^ k : Nat) : Int) 1 = ((x / 2 ^ k &&& 1 : Nat) : Int) := h
  rw [h', Nat.and_one_is_mod, Nat.testBit_eq_decide_div_mod_eq]
  have := Nat.mod_two_eq_zero_or_one (x / 2 ^ k)
  rcases this with h0 | h0 <;> simp [h0]
/-- 'x &^ (1 << k)', 'x | (1 << k)' as the walk writes them. -/
theorem andNot_pow (x k : Nat) (hx : x < 256) (hk : k < 8) : bits .andNot .u8 (x : Int) (2 ^ k % 256) = ((x &&& (255 - 2 ^ k) : Nat) : Int) := by
  have e : ((2 : Int) ^ k % 256) = ((2 ^ k : Nat) : Int) := by
    have h1 := pow_lt8 hk
    have h2 : ((2 ^ k : Nat) : Int) = (2 : Int) ^ k := by simp
    rw [← h2]
    generalize 2 ^ k = m at h1
    omega
  rw [e, u8_andNot_nat x (2 ^ k) hx (pow_lt8 hk)]
theorem or_pow (x k : Nat) (hx : x < 256) (hk : k < 8) : bits .or .u8 (x : Int) (2 ^ k % 256) = ((x ||| 2 ^ k : Nat) : Int) := by
  have e : ((2 : Int) ^ k % 256) = ((2 ^ k : Nat) : Int) := by
    have h1 := pow_lt8 hk
    have h2 : ((2 ^ k : Nat) : Int) = (2 : Int) ^ k := by simp
    rw [← h2]
    generalize 2 ^ k = m at h1
    omega
  rw [e, u8_or_nat x (2 ^ k) hx (pow_lt8 hk)]
def setBit (d : List Nat) (i : Nat) (b : Bool) : List Nat :=
  d.set (i / 8) (if b then (d.getD (i / 8) 0 &&& (255 - 2 ^ (i % 8))) ||| 2 ^ (i % 8) else d.getD (i / 8) 0 &&& (255 - 2 ^ (i % 8)))
theorem setBit_length (d : List Nat) (i : Nat) (b : Bool) : (setBit d i b).length = d.length := by simp [setBit]
theorem setBit_small {d : List Nat} (h : Small d) (i : Nat) (b : Bool) : Small (setBit d i b) := by
  have h1 := and_lt8 (h.get (i / 8)) (255 - 2 ^ (i % 8))
  refine h.set _ _ ?_
  split
  · exact or_lt8 h1 (pow_lt8 (by omega))
  · exact h1
theorem bitAt_setBit {d : List Nat} (h : Small d) {i : Nat} (hi : i < 8 * d.length) (b : Bool) (j : Nat) : bitAt (setBit d i b) j = if j = i then b else bitAt d j := by
  unfold setBit
  rw [bitAt_set _ _ _ _ (by omega)]
  have hm := pow_lt8 (show i % 8 < 8 by omega)
  by_cases hj : j / 8 = i / 8
  · rw [if_pos hj]
    have tn : (255 - 2 ^ (i % 8)).testBit (j % 8) = !(2 ^ (i % 8)).testBit (j % 8) := tb_not8 _ _ hm (by omega)
    by_cases e : j = i
    · subst e
      rw [if_pos rfl]
      cases b <;> simp [Nat.testBit_and, Nat.testBit_or, tn, tb_pow]
    · rw [if_neg e]
      have hne : ¬ i % 8 = j % 8 := by omega
      unfold bitAt
      rw [hj]
      cases b <;> simp [Nat.testBit_and, Nat.testBit_or, tn, tb_pow, hne]
  · rw [if_neg hj, if_neg (by rintro rfl; exact hj rfl)]
/-- bytes in which bits from a place on are others: after k of them. -/
def chgN (d : List Nat) (at_ : Nat) (l : List Bool) : Nat → List Nat
  | 0 => d
  | k + 1 => setBit (chgN d at_ l k) (at_ + k) (l.getD k false)
theorem chgN_length (d : List Nat) (at_ : Nat) (l : List Bool) (k : Nat) : (chgN d at_ l k).length = d.length := by
  induction k with
  | zero => rfl
  | succ k ih => rw [chgN, setBit_length, ih]
theorem chgN_small {d : List Nat} (h : Small d) (at_ : Nat) (l : List Bool) (k : Nat) : Small (chgN d at_ l k) := by
  induction k with
  | zero => exact h
  | succ k ih => exact setBit_small ih _ _
theorem bitAt_chgN {d : List Nat} (h : Small d) (at_ : Nat) (l : List Bool) (k : Nat) (hk : at_ + k ≤ 8 * d.length) (j : Nat) :
    bitAt (chgN d at_ l k) j = if at_ ≤ j ∧ j < at_ + k then l.getD (j - at_) false else bitAt d j := by
  induction k with
  | zero => rw [if_neg (by omega)]; rfl
  | succ k ih =>
    rw [chgN, bitAt_setBit (chgN_small h at_ l k) (by rw [chgN_length]; omega), ih (by omega)]
    by_cases e : j = at_ + k
    · subst e
      rw [if_pos rfl, if_pos (by omega)]
      congr 1; omega
    · rw [if_neg e]
      by_cases h2 : at_ ≤ j ∧ j < at_ + k
      · rw [if_pos h2, if_pos (by omega)]
      · rw [if_neg h2, if_neg (by omega)]
end
section
open Go.ChangeShapes Go.WideShapes Go.ChangeAt Go.RowKit Go.Deep
theorem cell_lt {w : World} {a : Addr} {v : Value} (h : w.cell? a = some v) : a.spot = none ∧ a.block < w.heap.size := by
  unfold World.cell? at h
  split at h
  · next hc =>
    split at h
    · cases h
    · next h2 => exact ⟨by simpa using h2, (Array.getElem?_eq_some_iff.1 hc).1⟩
  · cases h
theorem sl_of {w : World} {a : Addr} {n : Nat} {xs : List Value} (hl : xs.length = n) (h : ∀ i u, xs[i]? = some u → w.cell? (a.add i) = some u) : Sl w w.heap.size (some a) n xs := by
  refine ⟨hl, fun hn => ?_⟩
  obtain ⟨u, hu⟩ : ∃ u, xs[0]? = some u := ⟨xs[0]'(by omega), List.getElem?_eq_getElem _⟩
  have h0 := cell_lt (h 0 u hu)
  have e0 : ∀ i, (a.add i).block = a.block := fun i => by unfold Addr.add; split <;> rfl
  rw [e0] at h0
  obtain ⟨b, off, sp⟩ := a
  have hsp : sp = none := by
    have := h0.1
    cases sp with
    | none => rfl
    | some s => simp [Addr.add] at this
  subst hsp
  refine ⟨b, off, rfl, h0.2, fun j u hj => ?_⟩
  have := h j u hj
  rw [show (⟨b, off, none⟩ : Addr).add j = ⟨b, off + j, none⟩ by unfold Addr.add; split <;> simp_all] at this
  exact this
theorem sl_nil {w : World} {xs : List Value} (hl : xs.length = 0) (B : Nat) (A : Option Addr) : Sl w B A 0 xs := ⟨hl, fun h => absurd h (by omega)⟩
theorem u8_of_wf {z : Int} (h : (Lit.int .u8 z).wf = true) : 0 ≤ z ∧ z < 256 := by
  simp [Lit.wf, IntKind.min, IntKind.max, IntKind.signed, IntKind.bits] at h
  omega
variable {H : Type} {enc : TypeId × Value → H} {P : Program} {w : World} {base : Nat} {held : Bool}
theorem open_by {t e : TypeId} {v : Value} {d : DataW H} {p : List MemPlace} (ht : P.underlying t = some (.slice e)) (he : P.underlying e = some (.int .u8)) (hc : P.cellsOf e = 1) (hv : ∃ a len cap, v = .slice a len cap)
    (h : DataW.Trod enc P w base (fun _ => true) held t v d p) : ∃ A c ds, v = .slice A (List.length ds) c ∧ Small ds ∧ Sl w w.heap.size A ds.length (bv ds) ∧ ds.length ≤ maxLen := by
  obtain ⟨fuel, h⟩ := h
  obtain ⟨A, n, c, rfl⟩ := hv
  rcases open_ints ht he hc h with ⟨h1, _⟩ | ⟨a, len, cap, zs, h1, _, hl, hm, hz, _, hcell, hwf⟩
  · obtain ⟨rfl, rfl, rfl⟩ : A = none ∧ n = 0 ∧ c = 0 := by simpa [Value.cells] using h1
    exact ⟨none, 0, [], rfl, by intro x hx; simp at hx, sl_nil rfl _ _, by simp⟩
  · obtain ⟨rfl, rfl, rfl⟩ : A = some a ∧ n = len ∧ c = cap := by simpa [Value.cells] using h1
    simp only [if_true] at hz
    have hgd : ∀ i (h : i < zs.length), zs.getD i 0 = zs[i] := fun i h => by rw [List.getD_eq_getElem?_getD, List.getElem?_eq_getElem h]; rfl
    have hnn : ∀ i, i < c → 0 ≤ zs.getD i 0 ∧ zs.getD i 0 < 256 := fun i hi => by
      have := hwf (zs.getD i 0) (by rw [hgd i (by omega)]; exact List.getElem_mem _)
      exact u8_of_wf this
    have hlen : ((zs.take n).map Int.toNat).length = n := by simp; omega
    refine ⟨some a, c, (zs.take n).map Int.toNat, by rw [hlen], ?_, ?_, by rw [hlen]; omega⟩
    · intro x hx
      obtain ⟨z, hz1, rfl⟩ := List.mem_map.1 hx
      obtain ⟨i, hi, rfl⟩ := List.getElem_of_mem hz1
      simp at hi
      have := hnn i (by omega)
      rw [hgd i (by omega)] at this
      simp; omega
    · refine sl_of (by simp [bv]) fun i u hu => ?_
      have hi : i < n := by
        have := (List.getElem?_eq_some_iff.1 hu).1
        simp [bv] at this; omega
      have h2 := hcell i (by omega)
      have h3 := hnn i (by omega)
      rw [h2]
      rw [hgd i (by omega)] at h3 ⊢
      simp [bv, List.getElem?_map, List.getElem?_take, hi, List.getElem?_eq_getElem (show i < zs.length by omega)] at hu
      rw [← hu]
      congr 2
      have := h3.1
      omega
theorem open_bl {t e : TypeId} {v : Value} {d : DataW H} {p : List MemPlace} (ht : P.underlying t = some (.slice e)) (he : P.underlying e = some .bool) (hc : P.cellsOf e = 1) (hv : ∃ a len cap, v = .slice a len cap)
    (h : DataW.Trod enc P w base (fun _ => true) held t v d p) : ∃ A c ls, v = .slice A (List.length ls) c ∧ Sl w w.heap.size A ls.length (ls.map Value.bool) ∧ ls.length ≤ maxLen := by
  obtain ⟨fuel, h⟩ := h
  obtain ⟨A, n, c, rfl⟩ := hv
  rcases open_bools ht he hc h with ⟨h1, _⟩ | ⟨a, len, cap, B, h1, _, hl, hm, _, hcell⟩
  · obtain ⟨rfl, rfl, rfl⟩ : A = none ∧ n = 0 ∧ c = 0 := by simpa [Value.cells] using h1
    exact ⟨none, 0, [], rfl, sl_nil rfl _ _, by simp⟩
  · obtain ⟨rfl, rfl, rfl⟩ : A = some a ∧ n = len ∧ c = cap := by simpa [Value.cells] using h1
    have hlen : ((List.range n).map B).length = n := by simp
    refine ⟨some a, c, (List.range n).map B, by rw [hlen], ?_, by rw [hlen]; omega⟩
    rw [hlen]
    refine sl_of (by simp) fun i u hu => ?_
    have hi : i < n := by
      have := (List.getElem?_eq_some_iff.1 hu).1
      simpa using this
    rw [hcell i (by omega)]
    simp [List.getElem?_map, List.getElem?_range hi] at hu
    rw [hu]
end
section
open Go.RowKit Go.ChangeShapes Go.WideShapes Go.ChangeAt Go
attribute [local go_sem ↓] Go.wp_at_zero Go.wp_at_succ
theorem idleT (p q : Addr) (w : World) : CallsD Tryz.prog 10 #[.pointer (some p), .pointer (some q)] .returning w fun e u' w' => e = .returned (.tuple #[]) ∧ u' = .returning ∧ w = w' := by
  refine callsD_of_wpS Tryz.func10 rfl fun c₀ cs hu => ?_
  apply wpS_seq
  apply wpS_region
  simp [wpOpsS, go_sem, recoverD, hu, Tryz.ntmps10, Exit.thenS]
  refine wpS_cond (t := false) (by simp [Act.eval, Array.replicate]) ?_
  simp only [Bool.false_eq_true, if_false]
  refine wpS_of_wp (wp_skip ?_)
  cases c₀
  simp_all [bodyPostS, results, Tryz.results10]
theorem blk_nine {w : World} {g : Nat} {t : TypeId} {v0 v1 v2 v3 v4 v5 v6 v7 v8 : Value} (h : Blk w g t #[v0, v1, v2, v3, v4, v5, v6, v7, v8]) :
    w.cell? ⟨g, 5, none⟩ = some v5 ∧ w.cell? ⟨g, 6, none⟩ = some v6 ∧ w.cell? ⟨g, 7, none⟩ = some v7 ∧ w.cell? ⟨g, 8, none⟩ = some v8 :=
  ⟨by have := h.cell 5; simpa using this, by have := h.cell 6; simpa using this, by have := h.cell 7; simpa using this, by have := h.cell 8; simpa using this⟩
def PUn (w : World) (l : List Int) (e : Ending) (w' : World) : Prop := ∃ x, e = .returned (.tuple #[x, .bool true]) ∧ Rd .u64 w' x l ∧ Below w.heap.size w w'
theorem pun_fin {w w5 : World} {x : Value} {l : List Int} {u v : Value} (hx : Rd .u64 w5 x l) (k0 : Blk w5 w.heap.size 22 #[u]) (k1 : Blk w5 (w.heap.size + 1) 4 #[v]) (hb : Below w.heap.size w w5) {N : Nat} (hn : New N x) (hN : w.heap.size + 1 < N) :
    PUn w l (.returned (.tuple #[x, .bool true])) ((w5.setCell ⟨w.heap.size, 0, none⟩ x).setCell ⟨w.heap.size + 1, 0, none⟩ (.bool true)) := by
  refine ⟨x, rfl, ?_, (hb.setCell (Nat.le_refl _) _).setCell (by simp) _⟩
  obtain ⟨A, c, rfl, h1, h2, h3⟩ := hx
  refine ⟨A, c, rfl, h1, ⟨h2.1, fun hp => ?_⟩, h3⟩
  obtain ⟨b, off, rfl, hb', hc⟩ := h2.2 hp
  have hge := hn b off _ c rfl hp
  refine ⟨b, off, rfl, by rw [World.size_setCell, World.size_setCell]; exact hb', fun i u hu => ?_⟩
  rw [World.cell?_of_block (heap_set_other _ _ _ _ (by simp; omega)), World.cell?_of_block (heap_set_other _ _ _ _ (by simp; omega))]
  exact hc i u hu
theorem blk_one0 {w w5 : World} {u v : Value} (k0 : Blk w5 w.heap.size 22 #[u]) (k1 : Blk w5 (w.heap.size + 1) 4 #[v]) (x y : Value) :
    ((w5.setCell ⟨w.heap.size, 0, none⟩ x).setCell ⟨w.heap.size + 1, 0, none⟩ y).cell? ⟨w.heap.size, 0, none⟩ = some x ∧ ((w5.setCell ⟨w.heap.size, 0, none⟩ x).setCell ⟨w.heap.size + 1, 0, none⟩ y).cell? ⟨w.heap.size + 1, 0, none⟩ = some y := by
  have h0 := ((k0.set 0 x).other (a := ⟨w.heap.size + 1, 0, none⟩) (by simp) y).cell 0
  have h1 := ((k1.other (a := ⟨w.heap.size, 0, none⟩) (by simp) x).set 0 y).cell 0
  exact ⟨by simpa using h0, by simpa using h1⟩
theorem rd_slice {w : World} {v : Value} {l : List Int} (h : Rd .u64 w v l) (h0 : 0 < l.length) : ∃ b off c, v = .slice (some ⟨b, off, none⟩) l.length c ∧ ∀ W, Below w.heap.size w W → ∀ j, j < l.length → W.cell? ⟨b, off + j, none⟩ = some (.int .u64 (l.getD j 0)) := by
  obtain ⟨b, off, c, rfl, _, hlt, hc⟩ := h.one (i := 0) h0
  exact ⟨b, off, c, rfl, fun W hb j hj => (hb.cell (by exact hlt)).trans (hc j hj)⟩
theorem hd_256 (w : World) (v : Value) (x y z u : Int) (h : Rd .u64 w v [x, y, z, u]) (W : World) (hb : Below w.heap.size w W) :
    Calls Tryz.prog 11 #[.int .i64 256, v] W (PDec W (decV 256 0 0 0 0 x y z u)) := by
  obtain ⟨b, off, c, rfl, hc⟩ := rd_slice h (by simp)
  have h0 := hc W hb 0 (by simp)
  have h1 := hc W hb 1 (by simp)
  have h2 := hc W hb 2 (by simp)
  have h3 := hc W hb 3 (by simp)
  simp at h0 h1 h2 h3
  exact decOf_256 W b off c x y z u h0 h1 h2 h3
theorem dm_blocks {w w1 w2 w3 w4 : World} {B1 B2 : Obj} (hb1 : Below (w.heap.size + 2) ((w.alloc (.cells #[.slice none 0 0] 22)).alloc (.cells #[.bool false] 4)) w1) (hb2 : Below (w1.heap.size + 1) (w1.alloc B1) w2) (hb3 : Below (w2.heap.size + 1) (w2.alloc B2) w3) (hb4 : Below w3.heap.size w3 w4) :
    Blk w4 w.heap.size 22 #[.slice none 0 0] ∧ Blk w4 (w.heap.size + 1) 4 #[.bool false] ∧ Below w.heap.size w w4 ∧ w.heap.size + 1 < w3.heap.size := by
  have k0 := ((Blk.new (w := w) (g := w.heap.size) 22 #[.slice none 0 0] rfl).alloc (.cells #[.bool false] 4)).below' hb1 (by omega)
  have k1 := (Blk.new (w := w.alloc (.cells #[.slice none 0 0] 22)) (g := w.heap.size + 1) 4 #[.bool false] (by simp)).below' hb1 (by omega)
  have s1 := hb1.size
  have s2 := hb2.size
  have s3 := hb3.size
  simp at s1 s2 s3
  have hB : Below w.heap.size w w1 := (((Below.refl w.heap.size w).alloc (Nat.le_refl _) _).alloc (by simp) _).trans (hb1.mono (by omega))
  have hB2 := (hB.alloc (by omega) B1).trans (hb2.mono (by omega))
  have hB3 := (hB2.alloc (by omega) B2).trans (hb3.mono (by omega))
  exact ⟨(((k0.alloc _).below' hb2 (by omega)).alloc _ |>.below' hb3 (by omega)).below hb4, (((k1.alloc _).below' hb2 (by omega)).alloc _ |>.below' hb3 (by omega)).below hb4, hB3.trans (hb4.mono (by omega)), by omega⟩
set_option maxRecDepth 100000 in
set_option maxHeartbeats 4000000 in
theorem decMul_any (w : World) (u1 u2 : Value) (a b c d a' b' c' d' : Int) (h1 : Rd .u64 w u1 [a, b, c, d]) (h2 : Rd .u64 w u2 [a', b', c', d']) (hs : Sm64 [a, b, c, d]) (hs' : Sm64 [a', b', c', d']) (hK : w.cell? ⟨2, 0, none⟩ = some (.int .i64 40)) (hk2 : 2 < w.heap.size)
    (hx0 : -2 ^ 255 < sv [a, b, c, d] * sv [a', b', c', d']) (hx1 : sv [a, b, c, d] * sv [a', b', c', d'] < 2 ^ 255) :
    Calls Tryz.prog 4 #[u1, u2] w (PUn w (twos (sv [a, b, c, d] * sv [a', b', c', d']) 4)) := by
  have hD1 := hide (hd_256 w u1 a b c d h1)
  have hD2 := hide (hd_256 w u2 a' b' c' d' h2)
  have hM := hide (fun (W : World) (hb : Below w.heap.size w W) => mul256_any W a b c d a' b' c' d' hs hs' (by rw [← hK]; exact cell_mod (Mod.of_below (S := []) hb) ⟨2, 0, none⟩ hk2 (by simp)) (Nat.lt_of_lt_of_le hk2 hb.size) hx0 hx1)
  have hW := hide (fun (W : World) (a b c d : Int) => words_256 W 0 0 0 0 a b c d)
  generalize sv [a, b, c, d] * sv [a', b', c', d'] = X at *
  unfold decV at hD1 hD2 hW
  clear h1 h2 hs hs' hK hx0 hx1
  have hB0 := hide (show Below w.heap.size w ((w.alloc (.cells #[.slice none 0 0] 22)).alloc (.cells #[.bool false] 4)) from ((Below.refl _ _).alloc (Nat.le_refl _) _).alloc (by simp) _)
  have hV1 := hide (fun (w1 : World) (o : Obj) (hb : Below ((w.alloc (.cells #[.slice none 0 0] 22)).alloc (.cells #[.bool false] 4)).heap.size ((w.alloc (.cells #[.slice none 0 0] 22)).alloc (.cells #[.bool false] 4)) w1) =>
    (show Below w.heap.size w (w1.alloc o) from (below_tr (unhide hB0) hb (by simp; omega)).alloc (by have := hb.size; simp at this; omega) o))
  have hV2 := hide (fun (V w2 : World) (o : Obj) (hV : Below w.heap.size w V) (hb : Below V.heap.size V w2) =>
    (show Below w.heap.size w (w2.alloc o) from (below_tr hV hb hV.size).alloc (by have := hb.size; have := hV.size; omega) o))
  have hF := hide (fun (w1 w2 w3 w4 : World) (o1 o2 : Obj) (x : Value) (hb1 : Below ((w.alloc (.cells #[.slice none 0 0] 22)).alloc (.cells #[.bool false] 4)).heap.size ((w.alloc (.cells #[.slice none 0 0] 22)).alloc (.cells #[.bool false] 4)) w1) (hb2 : Below (w1.alloc o1).heap.size (w1.alloc o1) w2) (hb3 : Below (w2.alloc o2).heap.size (w2.alloc o2) w3) (hb4 : Below w3.heap.size w3 w4) (hx : Rd .u64 w4 x (twos X 4)) (hn : New w3.heap.size x) =>
    (show (w4.cell? ⟨w.heap.size, 0, none⟩ = some (.slice none 0 0) ∧ w4.cell? ⟨w.heap.size + 1, 0, none⟩ = some (.bool false) ∧ w4.frozen? ⟨w.heap.size, 0, none⟩ = false ∧ w4.frozen? ⟨w.heap.size + 1, 0, none⟩ = false) ∧
        PUn w (twos X 4) (.returned (.tuple #[x, .bool true])) ((w4.setCell ⟨w.heap.size, 0, none⟩ x).setCell ⟨w.heap.size + 1, 0, none⟩ (.bool true)) ∧
        (((w4.setCell ⟨w.heap.size, 0, none⟩ x).setCell ⟨w.heap.size + 1, 0, none⟩ (.bool true)).cell? ⟨w.heap.size, 0, none⟩ = some x ∧ ((w4.setCell ⟨w.heap.size, 0, none⟩ x).setCell ⟨w.heap.size + 1, 0, none⟩ (.bool true)).cell? ⟨w.heap.size + 1, 0, none⟩ = some (.bool true)) from by
      obtain ⟨k0, k1, kB, kn⟩ := dm_blocks (hb1.mono (by simp)) (hb2.mono (by simp)) (hb3.mono (by simp)) hb4
      exact ⟨⟨by have := k0.cell 0; simpa using this, by have := k1.cell 0; simpa using this, k0.frozen 0, k1.frozen 0⟩, pun_fin hx k0 k1 kB hn kn, blk_one0 k0 k1 _ _⟩))
  have tokA : True := trivial
  go_enter_defers Tryz.func4, Tryz.ntmps4
  go_wp2_with (first
    | (go_at_call 11; have _t := tokA; (with_reducible refine (unhide hD1 _ (unhide hB0)).mono ?_); rintro e w1 ⟨rfl, hb1⟩; clear tokA; have hv1 := hide (unhide hV1 w1 (.cells #[.int .i64 256, .int .i32 0, .int .i64 0, .int .u64 0, .int .i64 0, .int .u64 a, .int .u64 b, .int .u64 c, .int .u64 d] 46) hb1))
    | (go_at_call 11; (with_reducible refine (unhide hD2 _ (unhide hv1)).mono ?_); rintro e w2 ⟨rfl, hb2⟩; obtain ⟨c5, c6, c7, c8⟩ := blk_nine ((Blk.new (w := w1) (g := w1.heap.size) 46 #[.int .i64 256, .int .i32 0, .int .i64 0, .int .u64 0, .int .i64 0, .int .u64 a, .int .u64 b, .int .u64 c, .int .u64 d] rfl).below hb2 |>.alloc (.cells #[.int .i64 256, .int .i32 0, .int .i64 0, .int .u64 0, .int .i64 0, .int .u64 a', .int .u64 b', .int .u64 c', .int .u64 d'] 46)); have hv2 := hide (unhide hV2 _ w2 (.cells #[.int .i64 256, .int .i32 0, .int .i64 0, .int .u64 0, .int .i64 0, .int .u64 a', .int .u64 b', .int .u64 c', .int .u64 d'] 46) (unhide hv1) hb2))
    | (go_at_call 12; (with_reducible refine (unhide hM _ (unhide hv2)).mono ?_); rintro e w3 ⟨za, zb, zc, zd, rfl, hl, hb3⟩)
    | (go_at_call 13; (with_reducible refine (unhide hW w3 za zb zc zd).mono ?_); rintro e w4 ⟨x, rfl, hx, hb4, hn⟩; rw [← hl] at hx; obtain ⟨A5, m5, rfl, _⟩ := id hx; obtain ⟨⟨k0, k1, f0, f1⟩, hfin, z0⟩ := unhide hF w1 w2 w3 w4 _ _ _ hb1 hb2 hb3 hb4 hx hn; rw [twos_length] at hfin z0; replace hfin := hide hfin; replace z0 := hide z0; clear hx hn)
    | fail)
  have HF := hide (unhide hfin)
  refine leaves_cons (f := 10) (args := #[.pointer (some ⟨w.heap.size, 0, none⟩), .pointer (some ⟨w.heap.size + 1, 0, none⟩)]) (by simp) (by simp [go_sem]) ?_
  refine (idleT ⟨w.heap.size, 0, none⟩ ⟨w.heap.size + 1, 0, none⟩ _).mono ?_
  rintro e u' w'' ⟨rfl, rfl, rfl⟩
  refine ⟨.tuple #[.slice A5 4 m5, .bool true], ?_, unhide HF⟩
  obtain ⟨z1, z2⟩ := unhide z0
  simp [settle, results, Tryz.results4, go_sem, z1, z2]
end
section
open Go.RowKit Go.ChangeShapes Go.WideShapes Go.ChangeAt Go
attribute [local go_sem ↓] Go.wp_at_zero Go.wp_at_succ
def POut (w : World) (e : Ending) (w' : World) : Prop := e = .returned (.bool true) ∧ Below w.heap.size w w'
theorem pout_mk {w w' : World} (h : Below w.heap.size w w') : POut w (.returned (.bool true)) w' := ⟨rfl, h⟩
theorem same_any (w : World) (u v : Value) (a : List Int) (hu : Rd .u64 w u a) (hv : Rd .u64 w v a) : Calls Tryz.prog 5 #[u, v] w fun e w' => e = .returned (.bool true) ∧ Below w.heap.size w w' := by
  refine (sameWords_any w u v a a hu hv).mono ?_
  rintro e w' ⟨rfl, hb⟩
  exact ⟨by simp, hb⟩
/-- an integer in its box. -/
def LB (g : Nat) (v : Value) (z : Int) (W : World) : Prop := ∃ s A n c, v = .agg #[.bool s, .slice A n c] ∧ Blk W g 29 #[.bool s, .slice A n c] ∧ Wd W v z
theorem LB.below {g : Nat} {v : Value} {z : Int} {W W' : World} (h : LB g v z W) (hb : Below W.heap.size W W') : LB g v z W' := by
  obtain ⟨s, A, n, c, h1, h2, h3⟩ := h
  exact ⟨s, A, n, c, h1, h2.below hb, h3.below hb⟩
theorem LB.alloc {g : Nat} {v : Value} {z : Int} {W : World} (h : LB g v z W) (o : Obj) : LB g v z (W.alloc o) := h.below ((Below.refl _ _).alloc (Nat.le_refl _) o)
theorem LB.new {s : Bool} {A : Option Addr} {n c : Nat} {z : Int} {W : World} (h : Wd W (.agg #[.bool s, .slice A n c]) z) : LB W.heap.size (.agg #[.bool s, .slice A n c]) z (W.alloc (.cells #[.bool s, .slice A n c] 29)) :=
  ⟨s, A, n, c, rfl, Blk.new _ _ rfl, h.below ((Below.refl _ _).alloc (Nat.le_refl _) _)⟩
theorem LB.cells {g : Nat} {s : Bool} {A : Option Addr} {n c : Nat} {z : Int} {W : World} (h : LB g (.agg #[.bool s, .slice A n c]) z W) : W.cell? ⟨g, 0, none⟩ = some (.bool s) ∧ W.cell? ⟨g, 1, none⟩ = some (.slice A n c) := by
  obtain ⟨s', A', n', c', h1, h2, h3⟩ := h
  simp at h1
  obtain ⟨rfl, rfl, rfl, rfl⟩ := h1
  exact ⟨(blk_facts h2).1, (blk_facts h2).2.1⟩
theorem LB.wd {g : Nat} {v : Value} {z : Int} {W : World} (h : LB g v z W) : Wd W v z := by obtain ⟨s, A, n, c, h1, h2, h3⟩ := h; exact h3
/-- what 'decimal' gives: an integer, or nothing. -/
def PDg (w : World) (g : Bool) (x : Int) (e : Ending) (w' : World) : Prop := ∃ s A n c, e = .returned (.tuple #[.agg #[.bool s, .slice A n c], .bool g]) ∧ (g = true → Wd w' (.agg #[.bool s, .slice A n c]) x) ∧ Below w.heap.size w w'
def PWg (w : World) (f : Bool) (R : List Int) (e : Ending) (w' : World) : Prop := ∃ A n c, e = .returned (.tuple #[.slice A n c, .bool f]) ∧ Rd .u64 w' (.slice A n c) R ∧ Below w.heap.size w w'
theorem one_rd (w : World) : Rd .u64 (w.alloc (.cells #[.int .u64 1, .int .u64 0, .int .u64 0, .int .u64 0] 23)) (.slice (some ⟨w.heap.size, 0, none⟩) 4 4) [1, 0, 0, 0] :=
  (blk_rd (Blk.new (w := w) (g := w.heap.size) 23 (ivs .u64 [1, 0, 0, 0]).toArray rfl) (by simp)).1
theorem mul_one_any (w : World) (hK : w.cell? ⟨2, 0, none⟩ = some (.int .i64 40)) (hk2 : 2 < w.heap.size) :
    Calls Tryz.prog 4 #[.slice (some ⟨w.heap.size, 0, none⟩) 4 4, .slice (some ⟨w.heap.size, 0, none⟩) 4 4] (w.alloc (.cells #[.int .u64 1, .int .u64 0, .int .u64 0, .int .u64 0] 23)) (PUn (w.alloc (.cells #[.int .u64 1, .int .u64 0, .int .u64 0, .int .u64 0] 23)) [1, 0, 0, 0]) := by
  have hs : Sm64 [1, 0, 0, 0] := fun x hx => by simp at hx; omega
  have e1 : sv [1, 0, 0, 0] = 1 := by decide
  have := decMul_any _ _ _ 1 0 0 0 1 0 0 0 (one_rd w) (one_rd w) hs hs (by rw [← hK]; exact cell_mod (Mod.of_below (S := []) ((Below.refl w.heap.size w).alloc (Nat.le_refl _) _)) ⟨2, 0, none⟩ hk2 (by simp)) (by simp; omega) (by rw [e1]; decide) (by rw [e1]; decide)
  rw [e1, show twos (1 * 1) 4 = [1, 0, 0, 0] by decide] at this
  exact this
set_option maxRecDepth 100000 in
set_option maxHeartbeats 4000000 in
theorem law_core (w : World) (A1 A2 : Option Addr) (n1 c1 n2 c2 : Nat) (g1 g2 f m1 m2 m3 : Bool) (x y z : Int) (R : List Int) (hn1 : n1 ≤ 2147483647) (hn2 : n2 ≤ 2147483647)
    (hK : w.cell? ⟨2, 0, none⟩ = some (.int .i64 40)) (hk2 : 2 < w.heap.size)
    (hA : ∀ W : World, Below w.heap.size w W → Calls Tryz.prog 6 #[.int .i64 256, .slice A1 n1 c1] W (PDg W g1 x))
    (hB : ∀ W : World, Below w.heap.size w W → Calls Tryz.prog 6 #[.int .i64 256, .slice A2 n2 c2] W (PDg W g2 y))
    (hM : ∀ (W : World) (u v : Value), g1 = true → g2 = true → Wd W u x → Wd W v y → Calls Tryz.prog 7 #[u, v] W (PWide W z))
    (hW : ∀ (W : World) (u : Value), g1 = true → g2 = true → Wd W u z → Calls Tryz.prog 8 #[.int .i64 256, u] W (PWg W f R))
    (hL1 : ∀ (W : World) (u : Value), Wd W u x → Calls Tryz.prog 9 #[.int .i64 256, u] W fun e w' => e = .returned (.bool m1) ∧ Below W.heap.size W w')
    (hL2 : ∀ (W : World) (u : Value), Wd W u y → Calls Tryz.prog 9 #[.int .i64 256, u] W fun e w' => e = .returned (.bool m2) ∧ Below W.heap.size W w')
    (hL3 : ∀ (W : World) (u : Value), Wd W u z → Calls Tryz.prog 9 #[.int .i64 256, u] W fun e w' => e = .returned (.bool m3) ∧ Below W.heap.size W w')
    (hU : ∀ W : World, g1 = true → g2 = true → f = true → m1 = false → m2 = false → m3 = false → Below w.heap.size w W → Calls Tryz.prog 4 #[.slice A1 n1 c1, .slice A2 n2 c2] W (PUn W R)) :
    Calls Tryz.prog 3 #[.slice A1 n1 c1, .slice A2 n2 c2] w (POut w) := by
  have z1 : ¬ (2147483647 : Int) < (n1 : Int) := by omega
  have z2 : ¬ (2147483647 : Int) < (n2 : Int) := by omega
  have hO := hide (mul_one_any w hK hk2)
  have hR1 := hide (one_rd w)
  have hB1 := hide (show Below w.heap.size w (w.alloc (.cells #[.int .u64 1, .int .u64 0, .int .u64 0, .int .u64 0] 23)) from (Below.refl _ _).alloc (Nat.le_refl _) _)
  replace hA := hide hA
  replace hB := hide hB
  replace hM := hide hM
  replace hW := hide hW
  replace hL1 := hide hL1
  replace hL2 := hide hL2
  replace hL3 := hide hL3
  replace hU := hide hU
  clear hK hk2
  have tok1 : True := trivial
  have tok2 : True := trivial
  have tok7 : True := trivial
  have tok8 : True := trivial
  have tok9 : True := trivial
  by_cases e1 : g1 = false
  · subst e1
    go_enter Tryz.func3, Tryz.ntmps3
    go_wp2_with (first
      | (go_at_call 4; have _t := tok1; (with_reducible refine (unhide hO).mono ?_); rintro e w1 ⟨gt, rfl, hgt, hb1⟩; clear tok1; have hC1 := hide (below_tr (unhide hB1) hb1 (unhide hB1).size); have hr1 := hide ((unhide hR1).below hb1); replace hgt := hide hgt)
      | (go_at_call 5; have _t := tok2; (with_reducible refine (same_any _ _ _ _ (unhide hgt) (unhide hr1)).mono ?_); rintro e w2 ⟨rfl, hb2⟩; clear tok2; have hC2 := hide (below_tr (unhide hC1) hb2 (unhide hC1).size))
      | (go_at_call 6; (with_reducible refine (unhide hA _ (unhide hC2)).mono ?_); rintro e w3 ⟨s3, A3, n3, c3, rfl, hx3, hb3⟩; have hC3 := hide ((below_tr (unhide hC2) hb3 (unhide hC2).size).alloc (Nat.le_trans (unhide hC2).size (hb3).size) (.cells #[.bool s3, .slice A3 n3 c3] 29)); first | (have l33 := hide (LB.new (hx3 (by first | rfl | trivial)))) | skip)
      | (go_at_call 6; (with_reducible refine (unhide hB _ (unhide hC3)).mono ?_); rintro e w4 ⟨s4, A4, n4, c4, rfl, hx4, hb4⟩; have hC4 := hide ((below_tr (unhide hC3) hb4 (unhide hC3).size).alloc (Nat.le_trans (unhide hC3).size (hb4).size) (.cells #[.bool s4, .slice A4 n4 c4] 29)); first | (have l34 := hide (((unhide l33).below hb4).alloc (.cells #[.bool s4, .slice A4 n4 c4] 29)); have l44 := hide (LB.new (hx4 (by first | rfl | trivial))); obtain ⟨a34, b34⟩ := (unhide l34).cells; obtain ⟨a44, b44⟩ := (unhide l44).cells) | skip)
      | (go_at_call 7; (with_reducible refine (unhide hM _ _ _ (by first | rfl | trivial) (by first | rfl | trivial) (unhide l34).wd (unhide l44).wd).mono ?_); rintro e w5 ⟨u5, rfl, hz, hb5⟩; obtain ⟨s5, A5, n5, c5, rfl⟩ := hz.form; have hC5 := hide ((below_tr (unhide hC4) hb5 (unhide hC4).size).alloc (Nat.le_trans (unhide hC4).size (hb5).size) (.cells #[.bool s5, .slice A5 n5 c5] 29)); have l35 := hide (((unhide l34).below hb5).alloc (.cells #[.bool s5, .slice A5 n5 c5] 29)); have l45 := hide (((unhide l44).below hb5).alloc (.cells #[.bool s5, .slice A5 n5 c5] 29)); have l55 := hide (LB.new hz); obtain ⟨a35, b35⟩ := (unhide l35).cells; obtain ⟨a45, b45⟩ := (unhide l45).cells; obtain ⟨a55, b55⟩ := (unhide l55).cells)
      | (go_at_call 8; (with_reducible refine (unhide hW _ _ (by first | rfl | trivial) (by first | rfl | trivial) (unhide l55).wd).mono ?_); rintro e w6 ⟨A6, n6, c6, rfl, hd6, hb6⟩; have hC6 := hide (below_tr (unhide hC5) hb6 (unhide hC5).size); replace hd6 := hide hd6; have l36 := hide ((unhide l35).below hb6); obtain ⟨a36, b36⟩ := (unhide l36).cells; have l46 := hide ((unhide l45).below hb6); obtain ⟨a46, b46⟩ := (unhide l46).cells; have l56 := hide ((unhide l55).below hb6); obtain ⟨a56, b56⟩ := (unhide l56).cells)
      | (go_at_call 9; have _t := tok7; (with_reducible refine (unhide hL1 _ _ (unhide l36).wd).mono ?_); rintro e w7 ⟨rfl, hb7⟩; clear tok7; have hC7 := hide (below_tr (unhide hC6) hb7 (unhide hC6).size); have hd7 := hide ((unhide hd6).below hb7); have l37 := hide ((unhide l36).below hb7); obtain ⟨a37, b37⟩ := (unhide l37).cells; have l47 := hide ((unhide l46).below hb7); obtain ⟨a47, b47⟩ := (unhide l47).cells; have l57 := hide ((unhide l56).below hb7); obtain ⟨a57, b57⟩ := (unhide l57).cells)
      | (go_at_call 9; have _t := tok8; (with_reducible refine (unhide hL2 _ _ (unhide l47).wd).mono ?_); rintro e w8 ⟨rfl, hb8⟩; clear tok8; have hC8 := hide (below_tr (unhide hC7) hb8 (unhide hC7).size); have hd8 := hide ((unhide hd7).below hb8); have l38 := hide ((unhide l37).below hb8); obtain ⟨a38, b38⟩ := (unhide l38).cells; have l48 := hide ((unhide l47).below hb8); obtain ⟨a48, b48⟩ := (unhide l48).cells; have l58 := hide ((unhide l57).below hb8); obtain ⟨a58, b58⟩ := (unhide l58).cells)
      | (go_at_call 9; have _t := tok9; (with_reducible refine (unhide hL3 _ _ (unhide l58).wd).mono ?_); rintro e w9 ⟨rfl, hb9⟩; clear tok9; have hC9 := hide (below_tr (unhide hC8) hb9 (unhide hC8).size); have hd9 := hide ((unhide hd8).below hb9); have l39 := hide ((unhide l38).below hb9); obtain ⟨a39, b39⟩ := (unhide l39).cells; have l49 := hide ((unhide l48).below hb9); obtain ⟨a49, b49⟩ := (unhide l49).cells; have l59 := hide ((unhide l58).below hb9); obtain ⟨a59, b59⟩ := (unhide l59).cells)
      | (go_at_call 4; (with_reducible refine (unhide hU _ (by first | rfl | trivial) (by first | rfl | trivial) (by first | rfl | trivial) (by first | rfl | trivial) (by first | rfl | trivial) (by first | rfl | trivial) (unhide hC9)).mono ?_); rintro e w10 ⟨gt2, rfl, hgt2, hb10⟩; have hC10 := hide (below_tr (unhide hC9) hb10 (unhide hC9).size); have hd10 := hide ((unhide hd9).below hb10); replace hgt2 := hide hgt2)
      | (go_at_call 5; (with_reducible refine (same_any _ _ _ _ (unhide hgt2) (unhide hd10)).mono ?_); rintro e w11 ⟨rfl, hb11⟩; have hC11 := hide (below_tr (unhide hC10) hb11 (unhide hC10).size))
      | fail)
    all_goals (go_ret; exact pout_mk (unhide hC4))
  by_cases e2 : g2 = false
  · obtain rfl : g1 = true := by simpa using e1
    subst e2
    go_enter Tryz.func3, Tryz.ntmps3
    go_wp2_with (first
      | (go_at_call 4; have _t := tok1; (with_reducible refine (unhide hO).mono ?_); rintro e w1 ⟨gt, rfl, hgt, hb1⟩; clear tok1; have hC1 := hide (below_tr (unhide hB1) hb1 (unhide hB1).size); have hr1 := hide ((unhide hR1).below hb1); replace hgt := hide hgt)
      | (go_at_call 5; have _t := tok2; (with_reducible refine (same_any _ _ _ _ (unhide hgt) (unhide hr1)).mono ?_); rintro e w2 ⟨rfl, hb2⟩; clear tok2; have hC2 := hide (below_tr (unhide hC1) hb2 (unhide hC1).size))
      | (go_at_call 6; (with_reducible refine (unhide hA _ (unhide hC2)).mono ?_); rintro e w3 ⟨s3, A3, n3, c3, rfl, hx3, hb3⟩; have hC3 := hide ((below_tr (unhide hC2) hb3 (unhide hC2).size).alloc (Nat.le_trans (unhide hC2).size (hb3).size) (.cells #[.bool s3, .slice A3 n3 c3] 29)); first | (have l33 := hide (LB.new (hx3 (by first | rfl | trivial)))) | skip)
      | (go_at_call 6; (with_reducible refine (unhide hB _ (unhide hC3)).mono ?_); rintro e w4 ⟨s4, A4, n4, c4, rfl, hx4, hb4⟩; have hC4 := hide ((below_tr (unhide hC3) hb4 (unhide hC3).size).alloc (Nat.le_trans (unhide hC3).size (hb4).size) (.cells #[.bool s4, .slice A4 n4 c4] 29)); first | (have l34 := hide (((unhide l33).below hb4).alloc (.cells #[.bool s4, .slice A4 n4 c4] 29)); have l44 := hide (LB.new (hx4 (by first | rfl | trivial))); obtain ⟨a34, b34⟩ := (unhide l34).cells; obtain ⟨a44, b44⟩ := (unhide l44).cells) | skip)
      | (go_at_call 7; (with_reducible refine (unhide hM _ _ _ (by first | rfl | trivial) (by first | rfl | trivial) (unhide l34).wd (unhide l44).wd).mono ?_); rintro e w5 ⟨u5, rfl, hz, hb5⟩; obtain ⟨s5, A5, n5, c5, rfl⟩ := hz.form; have hC5 := hide ((below_tr (unhide hC4) hb5 (unhide hC4).size).alloc (Nat.le_trans (unhide hC4).size (hb5).size) (.cells #[.bool s5, .slice A5 n5 c5] 29)); have l35 := hide (((unhide l34).below hb5).alloc (.cells #[.bool s5, .slice A5 n5 c5] 29)); have l45 := hide (((unhide l44).below hb5).alloc (.cells #[.bool s5, .slice A5 n5 c5] 29)); have l55 := hide (LB.new hz); obtain ⟨a35, b35⟩ := (unhide l35).cells; obtain ⟨a45, b45⟩ := (unhide l45).cells; obtain ⟨a55, b55⟩ := (unhide l55).cells)
      | (go_at_call 8; (with_reducible refine (unhide hW _ _ (by first | rfl | trivial) (by first | rfl | trivial) (unhide l55).wd).mono ?_); rintro e w6 ⟨A6, n6, c6, rfl, hd6, hb6⟩; have hC6 := hide (below_tr (unhide hC5) hb6 (unhide hC5).size); replace hd6 := hide hd6; have l36 := hide ((unhide l35).below hb6); obtain ⟨a36, b36⟩ := (unhide l36).cells; have l46 := hide ((unhide l45).below hb6); obtain ⟨a46, b46⟩ := (unhide l46).cells; have l56 := hide ((unhide l55).below hb6); obtain ⟨a56, b56⟩ := (unhide l56).cells)
      | (go_at_call 9; have _t := tok7; (with_reducible refine (unhide hL1 _ _ (unhide l36).wd).mono ?_); rintro e w7 ⟨rfl, hb7⟩; clear tok7; have hC7 := hide (below_tr (unhide hC6) hb7 (unhide hC6).size); have hd7 := hide ((unhide hd6).below hb7); have l37 := hide ((unhide l36).below hb7); obtain ⟨a37, b37⟩ := (unhide l37).cells; have l47 := hide ((unhide l46).below hb7); obtain ⟨a47, b47⟩ := (unhide l47).cells; have l57 := hide ((unhide l56).below hb7); obtain ⟨a57, b57⟩ := (unhide l57).cells)
      | (go_at_call 9; have _t := tok8; (with_reducible refine (unhide hL2 _ _ (unhide l47).wd).mono ?_); rintro e w8 ⟨rfl, hb8⟩; clear tok8; have hC8 := hide (below_tr (unhide hC7) hb8 (unhide hC7).size); have hd8 := hide ((unhide hd7).below hb8); have l38 := hide ((unhide l37).below hb8); obtain ⟨a38, b38⟩ := (unhide l38).cells; have l48 := hide ((unhide l47).below hb8); obtain ⟨a48, b48⟩ := (unhide l48).cells; have l58 := hide ((unhide l57).below hb8); obtain ⟨a58, b58⟩ := (unhide l58).cells)
      | (go_at_call 9; have _t := tok9; (with_reducible refine (unhide hL3 _ _ (unhide l58).wd).mono ?_); rintro e w9 ⟨rfl, hb9⟩; clear tok9; have hC9 := hide (below_tr (unhide hC8) hb9 (unhide hC8).size); have hd9 := hide ((unhide hd8).below hb9); have l39 := hide ((unhide l38).below hb9); obtain ⟨a39, b39⟩ := (unhide l39).cells; have l49 := hide ((unhide l48).below hb9); obtain ⟨a49, b49⟩ := (unhide l49).cells; have l59 := hide ((unhide l58).below hb9); obtain ⟨a59, b59⟩ := (unhide l59).cells)
      | (go_at_call 4; (with_reducible refine (unhide hU _ (by first | rfl | trivial) (by first | rfl | trivial) (by first | rfl | trivial) (by first | rfl | trivial) (by first | rfl | trivial) (by first | rfl | trivial) (unhide hC9)).mono ?_); rintro e w10 ⟨gt2, rfl, hgt2, hb10⟩; have hC10 := hide (below_tr (unhide hC9) hb10 (unhide hC9).size); have hd10 := hide ((unhide hd9).below hb10); replace hgt2 := hide hgt2)
      | (go_at_call 5; (with_reducible refine (same_any _ _ _ _ (unhide hgt2) (unhide hd10)).mono ?_); rintro e w11 ⟨rfl, hb11⟩; have hC11 := hide (below_tr (unhide hC10) hb11 (unhide hC10).size))
      | fail)
    all_goals (go_ret; exact pout_mk (unhide hC4))
  obtain rfl : g1 = true := by simpa using e1
  obtain rfl : g2 = true := by simpa using e2
  clear e1 e2
  by_cases e3 : f = false
  · subst e3
    go_enter Tryz.func3, Tryz.ntmps3
    go_wp2_with (first
      | (go_at_call 4; have _t := tok1; (with_reducible refine (unhide hO).mono ?_); rintro e w1 ⟨gt, rfl, hgt, hb1⟩; clear tok1; have hC1 := hide (below_tr (unhide hB1) hb1 (unhide hB1).size); have hr1 := hide ((unhide hR1).below hb1); replace hgt := hide hgt)
      | (go_at_call 5; have _t := tok2; (with_reducible refine (same_any _ _ _ _ (unhide hgt) (unhide hr1)).mono ?_); rintro e w2 ⟨rfl, hb2⟩; clear tok2; have hC2 := hide (below_tr (unhide hC1) hb2 (unhide hC1).size))
      | (go_at_call 6; (with_reducible refine (unhide hA _ (unhide hC2)).mono ?_); rintro e w3 ⟨s3, A3, n3, c3, rfl, hx3, hb3⟩; have hC3 := hide ((below_tr (unhide hC2) hb3 (unhide hC2).size).alloc (Nat.le_trans (unhide hC2).size (hb3).size) (.cells #[.bool s3, .slice A3 n3 c3] 29)); first | (have l33 := hide (LB.new (hx3 (by first | rfl | trivial)))) | skip)
      | (go_at_call 6; (with_reducible refine (unhide hB _ (unhide hC3)).mono ?_); rintro e w4 ⟨s4, A4, n4, c4, rfl, hx4, hb4⟩; have hC4 := hide ((below_tr (unhide hC3) hb4 (unhide hC3).size).alloc (Nat.le_trans (unhide hC3).size (hb4).size) (.cells #[.bool s4, .slice A4 n4 c4] 29)); first | (have l34 := hide (((unhide l33).below hb4).alloc (.cells #[.bool s4, .slice A4 n4 c4] 29)); have l44 := hide (LB.new (hx4 (by first | rfl | trivial))); obtain ⟨a34, b34⟩ := (unhide l34).cells; obtain ⟨a44, b44⟩ := (unhide l44).cells) | skip)
      | (go_at_call 7; (with_reducible refine (unhide hM _ _ _ (by first | rfl | trivial) (by first | rfl | trivial) (unhide l34).wd (unhide l44).wd).mono ?_); rintro e w5 ⟨u5, rfl, hz, hb5⟩; obtain ⟨s5, A5, n5, c5, rfl⟩ := hz.form; have hC5 := hide ((below_tr (unhide hC4) hb5 (unhide hC4).size).alloc (Nat.le_trans (unhide hC4).size (hb5).size) (.cells #[.bool s5, .slice A5 n5 c5] 29)); have l35 := hide (((unhide l34).below hb5).alloc (.cells #[.bool s5, .slice A5 n5 c5] 29)); have l45 := hide (((unhide l44).below hb5).alloc (.cells #[.bool s5, .slice A5 n5 c5] 29)); have l55 := hide (LB.new hz); obtain ⟨a35, b35⟩ := (unhide l35).cells; obtain ⟨a45, b45⟩ := (unhide l45).cells; obtain ⟨a55, b55⟩ := (unhide l55).cells)
      | (go_at_call 8; (with_reducible refine (unhide hW _ _ (by first | rfl | trivial) (by first | rfl | trivial) (unhide l55).wd).mono ?_); rintro e w6 ⟨A6, n6, c6, rfl, hd6, hb6⟩; have hC6 := hide (below_tr (unhide hC5) hb6 (unhide hC5).size); replace hd6 := hide hd6; have l36 := hide ((unhide l35).below hb6); obtain ⟨a36, b36⟩ := (unhide l36).cells; have l46 := hide ((unhide l45).below hb6); obtain ⟨a46, b46⟩ := (unhide l46).cells; have l56 := hide ((unhide l55).below hb6); obtain ⟨a56, b56⟩ := (unhide l56).cells)
      | (go_at_call 9; have _t := tok7; (with_reducible refine (unhide hL1 _ _ (unhide l36).wd).mono ?_); rintro e w7 ⟨rfl, hb7⟩; clear tok7; have hC7 := hide (below_tr (unhide hC6) hb7 (unhide hC6).size); have hd7 := hide ((unhide hd6).below hb7); have l37 := hide ((unhide l36).below hb7); obtain ⟨a37, b37⟩ := (unhide l37).cells; have l47 := hide ((unhide l46).below hb7); obtain ⟨a47, b47⟩ := (unhide l47).cells; have l57 := hide ((unhide l56).below hb7); obtain ⟨a57, b57⟩ := (unhide l57).cells)
      | (go_at_call 9; have _t := tok8; (with_reducible refine (unhide hL2 _ _ (unhide l47).wd).mono ?_); rintro e w8 ⟨rfl, hb8⟩; clear tok8; have hC8 := hide (below_tr (unhide hC7) hb8 (unhide hC7).size); have hd8 := hide ((unhide hd7).below hb8); have l38 := hide ((unhide l37).below hb8); obtain ⟨a38, b38⟩ := (unhide l38).cells; have l48 := hide ((unhide l47).below hb8); obtain ⟨a48, b48⟩ := (unhide l48).cells; have l58 := hide ((unhide l57).below hb8); obtain ⟨a58, b58⟩ := (unhide l58).cells)
      | (go_at_call 9; have _t := tok9; (with_reducible refine (unhide hL3 _ _ (unhide l58).wd).mono ?_); rintro e w9 ⟨rfl, hb9⟩; clear tok9; have hC9 := hide (below_tr (unhide hC8) hb9 (unhide hC8).size); have hd9 := hide ((unhide hd8).below hb9); have l39 := hide ((unhide l38).below hb9); obtain ⟨a39, b39⟩ := (unhide l39).cells; have l49 := hide ((unhide l48).below hb9); obtain ⟨a49, b49⟩ := (unhide l49).cells; have l59 := hide ((unhide l58).below hb9); obtain ⟨a59, b59⟩ := (unhide l59).cells)
      | (go_at_call 4; (with_reducible refine (unhide hU _ (by first | rfl | trivial) (by first | rfl | trivial) (by first | rfl | trivial) (by first | rfl | trivial) (by first | rfl | trivial) (by first | rfl | trivial) (unhide hC9)).mono ?_); rintro e w10 ⟨gt2, rfl, hgt2, hb10⟩; have hC10 := hide (below_tr (unhide hC9) hb10 (unhide hC9).size); have hd10 := hide ((unhide hd9).below hb10); replace hgt2 := hide hgt2)
      | (go_at_call 5; (with_reducible refine (same_any _ _ _ _ (unhide hgt2) (unhide hd10)).mono ?_); rintro e w11 ⟨rfl, hb11⟩; have hC11 := hide (below_tr (unhide hC10) hb11 (unhide hC10).size))
      | fail)
    all_goals (go_ret; exact pout_mk (unhide hC6))
  obtain rfl : f = true := by simpa using e3
  clear e3
  by_cases e4 : m1 = true
  · subst e4
    go_enter Tryz.func3, Tryz.ntmps3
    go_wp2_with (first
      | (go_at_call 4; have _t := tok1; (with_reducible refine (unhide hO).mono ?_); rintro e w1 ⟨gt, rfl, hgt, hb1⟩; clear tok1; have hC1 := hide (below_tr (unhide hB1) hb1 (unhide hB1).size); have hr1 := hide ((unhide hR1).below hb1); replace hgt := hide hgt)
      | (go_at_call 5; have _t := tok2; (with_reducible refine (same_any _ _ _ _ (unhide hgt) (unhide hr1)).mono ?_); rintro e w2 ⟨rfl, hb2⟩; clear tok2; have hC2 := hide (below_tr (unhide hC1) hb2 (unhide hC1).size))
      | (go_at_call 6; (with_reducible refine (unhide hA _ (unhide hC2)).mono ?_); rintro e w3 ⟨s3, A3, n3, c3, rfl, hx3, hb3⟩; have hC3 := hide ((below_tr (unhide hC2) hb3 (unhide hC2).size).alloc (Nat.le_trans (unhide hC2).size (hb3).size) (.cells #[.bool s3, .slice A3 n3 c3] 29)); first | (have l33 := hide (LB.new (hx3 (by first | rfl | trivial)))) | skip)
      | (go_at_call 6; (with_reducible refine (unhide hB _ (unhide hC3)).mono ?_); rintro e w4 ⟨s4, A4, n4, c4, rfl, hx4, hb4⟩; have hC4 := hide ((below_tr (unhide hC3) hb4 (unhide hC3).size).alloc (Nat.le_trans (unhide hC3).size (hb4).size) (.cells #[.bool s4, .slice A4 n4 c4] 29)); first | (have l34 := hide (((unhide l33).below hb4).alloc (.cells #[.bool s4, .slice A4 n4 c4] 29)); have l44 := hide (LB.new (hx4 (by first | rfl | trivial))); obtain ⟨a34, b34⟩ := (unhide l34).cells; obtain ⟨a44, b44⟩ := (unhide l44).cells) | skip)
      | (go_at_call 7; (with_reducible refine (unhide hM _ _ _ (by first | rfl | trivial) (by first | rfl | trivial) (unhide l34).wd (unhide l44).wd).mono ?_); rintro e w5 ⟨u5, rfl, hz, hb5⟩; obtain ⟨s5, A5, n5, c5, rfl⟩ := hz.form; have hC5 := hide ((below_tr (unhide hC4) hb5 (unhide hC4).size).alloc (Nat.le_trans (unhide hC4).size (hb5).size) (.cells #[.bool s5, .slice A5 n5 c5] 29)); have l35 := hide (((unhide l34).below hb5).alloc (.cells #[.bool s5, .slice A5 n5 c5] 29)); have l45 := hide (((unhide l44).below hb5).alloc (.cells #[.bool s5, .slice A5 n5 c5] 29)); have l55 := hide (LB.new hz); obtain ⟨a35, b35⟩ := (unhide l35).cells; obtain ⟨a45, b45⟩ := (unhide l45).cells; obtain ⟨a55, b55⟩ := (unhide l55).cells)
      | (go_at_call 8; (with_reducible refine (unhide hW _ _ (by first | rfl | trivial) (by first | rfl | trivial) (unhide l55).wd).mono ?_); rintro e w6 ⟨A6, n6, c6, rfl, hd6, hb6⟩; have hC6 := hide (below_tr (unhide hC5) hb6 (unhide hC5).size); replace hd6 := hide hd6; have l36 := hide ((unhide l35).below hb6); obtain ⟨a36, b36⟩ := (unhide l36).cells; have l46 := hide ((unhide l45).below hb6); obtain ⟨a46, b46⟩ := (unhide l46).cells; have l56 := hide ((unhide l55).below hb6); obtain ⟨a56, b56⟩ := (unhide l56).cells)
      | (go_at_call 9; have _t := tok7; (with_reducible refine (unhide hL1 _ _ (unhide l36).wd).mono ?_); rintro e w7 ⟨rfl, hb7⟩; clear tok7; have hC7 := hide (below_tr (unhide hC6) hb7 (unhide hC6).size); have hd7 := hide ((unhide hd6).below hb7); have l37 := hide ((unhide l36).below hb7); obtain ⟨a37, b37⟩ := (unhide l37).cells; have l47 := hide ((unhide l46).below hb7); obtain ⟨a47, b47⟩ := (unhide l47).cells; have l57 := hide ((unhide l56).below hb7); obtain ⟨a57, b57⟩ := (unhide l57).cells)
      | (go_at_call 9; have _t := tok8; (with_reducible refine (unhide hL2 _ _ (unhide l47).wd).mono ?_); rintro e w8 ⟨rfl, hb8⟩; clear tok8; have hC8 := hide (below_tr (unhide hC7) hb8 (unhide hC7).size); have hd8 := hide ((unhide hd7).below hb8); have l38 := hide ((unhide l37).below hb8); obtain ⟨a38, b38⟩ := (unhide l38).cells; have l48 := hide ((unhide l47).below hb8); obtain ⟨a48, b48⟩ := (unhide l48).cells; have l58 := hide ((unhide l57).below hb8); obtain ⟨a58, b58⟩ := (unhide l58).cells)
      | (go_at_call 9; have _t := tok9; (with_reducible refine (unhide hL3 _ _ (unhide l58).wd).mono ?_); rintro e w9 ⟨rfl, hb9⟩; clear tok9; have hC9 := hide (below_tr (unhide hC8) hb9 (unhide hC8).size); have hd9 := hide ((unhide hd8).below hb9); have l39 := hide ((unhide l38).below hb9); obtain ⟨a39, b39⟩ := (unhide l39).cells; have l49 := hide ((unhide l48).below hb9); obtain ⟨a49, b49⟩ := (unhide l49).cells; have l59 := hide ((unhide l58).below hb9); obtain ⟨a59, b59⟩ := (unhide l59).cells)
      | (go_at_call 4; (with_reducible refine (unhide hU _ (by first | rfl | trivial) (by first | rfl | trivial) (by first | rfl | trivial) (by first | rfl | trivial) (by first | rfl | trivial) (by first | rfl | trivial) (unhide hC9)).mono ?_); rintro e w10 ⟨gt2, rfl, hgt2, hb10⟩; have hC10 := hide (below_tr (unhide hC9) hb10 (unhide hC9).size); have hd10 := hide ((unhide hd9).below hb10); replace hgt2 := hide hgt2)
      | (go_at_call 5; (with_reducible refine (same_any _ _ _ _ (unhide hgt2) (unhide hd10)).mono ?_); rintro e w11 ⟨rfl, hb11⟩; have hC11 := hide (below_tr (unhide hC10) hb11 (unhide hC10).size))
      | fail)
    all_goals (go_ret; exact pout_mk (unhide hC7))
  obtain rfl : m1 = false := by simpa using e4
  clear e4
  by_cases e5 : m2 = true
  · subst e5
    go_enter Tryz.func3, Tryz.ntmps3
    go_wp2_with (first
      | (go_at_call 4; have _t := tok1; (with_reducible refine (unhide hO).mono ?_); rintro e w1 ⟨gt, rfl, hgt, hb1⟩; clear tok1; have hC1 := hide (below_tr (unhide hB1) hb1 (unhide hB1).size); have hr1 := hide ((unhide hR1).below hb1); replace hgt := hide hgt)
      | (go_at_call 5; have _t := tok2; (with_reducible refine (same_any _ _ _ _ (unhide hgt) (unhide hr1)).mono ?_); rintro e w2 ⟨rfl, hb2⟩; clear tok2; have hC2 := hide (below_tr (unhide hC1) hb2 (unhide hC1).size))
      | (go_at_call 6; (with_reducible refine (unhide hA _ (unhide hC2)).mono ?_); rintro e w3 ⟨s3, A3, n3, c3, rfl, hx3, hb3⟩; have hC3 := hide ((below_tr (unhide hC2) hb3 (unhide hC2).size).alloc (Nat.le_trans (unhide hC2).size (hb3).size) (.cells #[.bool s3, .slice A3 n3 c3] 29)); first | (have l33 := hide (LB.new (hx3 (by first | rfl | trivial)))) | skip)
      | (go_at_call 6; (with_reducible refine (unhide hB _ (unhide hC3)).mono ?_); rintro e w4 ⟨s4, A4, n4, c4, rfl, hx4, hb4⟩; have hC4 := hide ((below_tr (unhide hC3) hb4 (unhide hC3).size).alloc (Nat.le_trans (unhide hC3).size (hb4).size) (.cells #[.bool s4, .slice A4 n4 c4] 29)); first | (have l34 := hide (((unhide l33).below hb4).alloc (.cells #[.bool s4, .slice A4 n4 c4] 29)); have l44 := hide (LB.new (hx4 (by first | rfl | trivial))); obtain ⟨a34, b34⟩ := (unhide l34).cells; obtain ⟨a44, b44⟩ := (unhide l44).cells) | skip)
      | (go_at_call 7; (with_reducible refine (unhide hM _ _ _ (by first | rfl | trivial) (by first | rfl | trivial) (unhide l34).wd (unhide l44).wd).mono ?_); rintro e w5 ⟨u5, rfl, hz, hb5⟩; obtain ⟨s5, A5, n5, c5, rfl⟩ := hz.form; have hC5 := hide ((below_tr (unhide hC4) hb5 (unhide hC4).size).alloc (Nat.le_trans (unhide hC4).size (hb5).size) (.cells #[.bool s5, .slice A5 n5 c5] 29)); have l35 := hide (((unhide l34).below hb5).alloc (.cells #[.bool s5, .slice A5 n5 c5] 29)); have l45 := hide (((unhide l44).below hb5).alloc (.cells #[.bool s5, .slice A5 n5 c5] 29)); have l55 := hide (LB.new hz); obtain ⟨a35, b35⟩ := (unhide l35).cells; obtain ⟨a45, b45⟩ := (unhide l45).cells; obtain ⟨a55, b55⟩ := (unhide l55).cells)
      | (go_at_call 8; (with_reducible refine (unhide hW _ _ (by first | rfl | trivial) (by first | rfl | trivial) (unhide l55).wd).mono ?_); rintro e w6 ⟨A6, n6, c6, rfl, hd6, hb6⟩; have hC6 := hide (below_tr (unhide hC5) hb6 (unhide hC5).size); replace hd6 := hide hd6; have l36 := hide ((unhide l35).below hb6); obtain ⟨a36, b36⟩ := (unhide l36).cells; have l46 := hide ((unhide l45).below hb6); obtain ⟨a46, b46⟩ := (unhide l46).cells; have l56 := hide ((unhide l55).below hb6); obtain ⟨a56, b56⟩ := (unhide l56).cells)
      | (go_at_call 9; have _t := tok7; (with_reducible refine (unhide hL1 _ _ (unhide l36).wd).mono ?_); rintro e w7 ⟨rfl, hb7⟩; clear tok7; have hC7 := hide (below_tr (unhide hC6) hb7 (unhide hC6).size); have hd7 := hide ((unhide hd6).below hb7); have l37 := hide ((unhide l36).below hb7); obtain ⟨a37, b37⟩ := (unhide l37).cells; have l47 := hide ((unhide l46).below hb7); obtain ⟨a47, b47⟩ := (unhide l47).cells; have l57 := hide ((unhide l56).below hb7); obtain ⟨a57, b57⟩ := (unhide l57).cells)
      | (go_at_call 9; have _t := tok8; (with_reducible refine (unhide hL2 _ _ (unhide l47).wd).mono ?_); rintro e w8 ⟨rfl, hb8⟩; clear tok8; have hC8 := hide (below_tr (unhide hC7) hb8 (unhide hC7).size); have hd8 := hide ((unhide hd7).below hb8); have l38 := hide ((unhide l37).below hb8); obtain ⟨a38, b38⟩ := (unhide l38).cells; have l48 := hide ((unhide l47).below hb8); obtain ⟨a48, b48⟩ := (unhide l48).cells; have l58 := hide ((unhide l57).below hb8); obtain ⟨a58, b58⟩ := (unhide l58).cells)
      | (go_at_call 9; have _t := tok9; (with_reducible refine (unhide hL3 _ _ (unhide l58).wd).mono ?_); rintro e w9 ⟨rfl, hb9⟩; clear tok9; have hC9 := hide (below_tr (unhide hC8) hb9 (unhide hC8).size); have hd9 := hide ((unhide hd8).below hb9); have l39 := hide ((unhide l38).below hb9); obtain ⟨a39, b39⟩ := (unhide l39).cells; have l49 := hide ((unhide l48).below hb9); obtain ⟨a49, b49⟩ := (unhide l49).cells; have l59 := hide ((unhide l58).below hb9); obtain ⟨a59, b59⟩ := (unhide l59).cells)
      | (go_at_call 4; (with_reducible refine (unhide hU _ (by first | rfl | trivial) (by first | rfl | trivial) (by first | rfl | trivial) (by first | rfl | trivial) (by first | rfl | trivial) (by first | rfl | trivial) (unhide hC9)).mono ?_); rintro e w10 ⟨gt2, rfl, hgt2, hb10⟩; have hC10 := hide (below_tr (unhide hC9) hb10 (unhide hC9).size); have hd10 := hide ((unhide hd9).below hb10); replace hgt2 := hide hgt2)
      | (go_at_call 5; (with_reducible refine (same_any _ _ _ _ (unhide hgt2) (unhide hd10)).mono ?_); rintro e w11 ⟨rfl, hb11⟩; have hC11 := hide (below_tr (unhide hC10) hb11 (unhide hC10).size))
      | fail)
    all_goals (go_ret; exact pout_mk (unhide hC8))
  obtain rfl : m2 = false := by simpa using e5
  clear e5
  by_cases e6 : m3 = true
  · subst e6
    go_enter Tryz.func3, Tryz.ntmps3
    go_wp2_with (first
      | (go_at_call 4; have _t := tok1; (with_reducible refine (unhide hO).mono ?_); rintro e w1 ⟨gt, rfl, hgt, hb1⟩; clear tok1; have hC1 := hide (below_tr (unhide hB1) hb1 (unhide hB1).size); have hr1 := hide ((unhide hR1).below hb1); replace hgt := hide hgt)
      | (go_at_call 5; have _t := tok2; (with_reducible refine (same_any _ _ _ _ (unhide hgt) (unhide hr1)).mono ?_); rintro e w2 ⟨rfl, hb2⟩; clear tok2; have hC2 := hide (below_tr (unhide hC1) hb2 (unhide hC1).size))
      | (go_at_call 6; (with_reducible refine (unhide hA _ (unhide hC2)).mono ?_); rintro e w3 ⟨s3, A3, n3, c3, rfl, hx3, hb3⟩; have hC3 := hide ((below_tr (unhide hC2) hb3 (unhide hC2).size).alloc (Nat.le_trans (unhide hC2).size (hb3).size) (.cells #[.bool s3, .slice A3 n3 c3] 29)); first | (have l33 := hide (LB.new (hx3 (by first | rfl | trivial)))) | skip)
      | (go_at_call 6; (with_reducible refine (unhide hB _ (unhide hC3)).mono ?_); rintro e w4 ⟨s4, A4, n4, c4, rfl, hx4, hb4⟩; have hC4 := hide ((below_tr (unhide hC3) hb4 (unhide hC3).size).alloc (Nat.le_trans (unhide hC3).size (hb4).size) (.cells #[.bool s4, .slice A4 n4 c4] 29)); first | (have l34 := hide (((unhide l33).below hb4).alloc (.cells #[.bool s4, .slice A4 n4 c4] 29)); have l44 := hide (LB.new (hx4 (by first | rfl | trivial))); obtain ⟨a34, b34⟩ := (unhide l34).cells; obtain ⟨a44, b44⟩ := (unhide l44).cells) | skip)
      | (go_at_call 7; (with_reducible refine (unhide hM _ _ _ (by first | rfl | trivial) (by first | rfl | trivial) (unhide l34).wd (unhide l44).wd).mono ?_); rintro e w5 ⟨u5, rfl, hz, hb5⟩; obtain ⟨s5, A5, n5, c5, rfl⟩ := hz.form; have hC5 := hide ((below_tr (unhide hC4) hb5 (unhide hC4).size).alloc (Nat.le_trans (unhide hC4).size (hb5).size) (.cells #[.bool s5, .slice A5 n5 c5] 29)); have l35 := hide (((unhide l34).below hb5).alloc (.cells #[.bool s5, .slice A5 n5 c5] 29)); have l45 := hide (((unhide l44).below hb5).alloc (.cells #[.bool s5, .slice A5 n5 c5] 29)); have l55 := hide (LB.new hz); obtain ⟨a35, b35⟩ := (unhide l35).cells; obtain ⟨a45, b45⟩ := (unhide l45).cells; obtain ⟨a55, b55⟩ := (unhide l55).cells)
      | (go_at_call 8; (with_reducible refine (unhide hW _ _ (by first | rfl | trivial) (by first | rfl | trivial) (unhide l55).wd).mono ?_); rintro e w6 ⟨A6, n6, c6, rfl, hd6, hb6⟩; have hC6 := hide (below_tr (unhide hC5) hb6 (unhide hC5).size); replace hd6 := hide hd6; have l36 := hide ((unhide l35).below hb6); obtain ⟨a36, b36⟩ := (unhide l36).cells; have l46 := hide ((unhide l45).below hb6); obtain ⟨a46, b46⟩ := (unhide l46).cells; have l56 := hide ((unhide l55).below hb6); obtain ⟨a56, b56⟩ := (unhide l56).cells)
      | (go_at_call 9; have _t := tok7; (with_reducible refine (unhide hL1 _ _ (unhide l36).wd).mono ?_); rintro e w7 ⟨rfl, hb7⟩; clear tok7; have hC7 := hide (below_tr (unhide hC6) hb7 (unhide hC6).size); have hd7 := hide ((unhide hd6).below hb7); have l37 := hide ((unhide l36).below hb7); obtain ⟨a37, b37⟩ := (unhide l37).cells; have l47 := hide ((unhide l46).below hb7); obtain ⟨a47, b47⟩ := (unhide l47).cells; have l57 := hide ((unhide l56).below hb7); obtain ⟨a57, b57⟩ := (unhide l57).cells)
      | (go_at_call 9; have _t := tok8; (with_reducible refine (unhide hL2 _ _ (unhide l47).wd).mono ?_); rintro e w8 ⟨rfl, hb8⟩; clear tok8; have hC8 := hide (below_tr (unhide hC7) hb8 (unhide hC7).size); have hd8 := hide ((unhide hd7).below hb8); have l38 := hide ((unhide l37).below hb8); obtain ⟨a38, b38⟩ := (unhide l38).cells; have l48 := hide ((unhide l47).below hb8); obtain ⟨a48, b48⟩ := (unhide l48).cells; have l58 := hide ((unhide l57).below hb8); obtain ⟨a58, b58⟩ := (unhide l58).cells)
      | (go_at_call 9; have _t := tok9; (with_reducible refine (unhide hL3 _ _ (unhide l58).wd).mono ?_); rintro e w9 ⟨rfl, hb9⟩; clear tok9; have hC9 := hide (below_tr (unhide hC8) hb9 (unhide hC8).size); have hd9 := hide ((unhide hd8).below hb9); have l39 := hide ((unhide l38).below hb9); obtain ⟨a39, b39⟩ := (unhide l39).cells; have l49 := hide ((unhide l48).below hb9); obtain ⟨a49, b49⟩ := (unhide l49).cells; have l59 := hide ((unhide l58).below hb9); obtain ⟨a59, b59⟩ := (unhide l59).cells)
      | (go_at_call 4; (with_reducible refine (unhide hU _ (by first | rfl | trivial) (by first | rfl | trivial) (by first | rfl | trivial) (by first | rfl | trivial) (by first | rfl | trivial) (by first | rfl | trivial) (unhide hC9)).mono ?_); rintro e w10 ⟨gt2, rfl, hgt2, hb10⟩; have hC10 := hide (below_tr (unhide hC9) hb10 (unhide hC9).size); have hd10 := hide ((unhide hd9).below hb10); replace hgt2 := hide hgt2)
      | (go_at_call 5; (with_reducible refine (same_any _ _ _ _ (unhide hgt2) (unhide hd10)).mono ?_); rintro e w11 ⟨rfl, hb11⟩; have hC11 := hide (below_tr (unhide hC10) hb11 (unhide hC10).size))
      | fail)
    all_goals (go_ret; exact pout_mk (unhide hC9))
  obtain rfl : m3 = false := by simpa using e6
  clear e6
  go_enter Tryz.func3, Tryz.ntmps3
  go_wp2_with (first
      | (go_at_call 4; have _t := tok1; (with_reducible refine (unhide hO).mono ?_); rintro e w1 ⟨gt, rfl, hgt, hb1⟩; clear tok1; have hC1 := hide (below_tr (unhide hB1) hb1 (unhide hB1).size); have hr1 := hide ((unhide hR1).below hb1); replace hgt := hide hgt)
      | (go_at_call 5; have _t := tok2; (with_reducible refine (same_any _ _ _ _ (unhide hgt) (unhide hr1)).mono ?_); rintro e w2 ⟨rfl, hb2⟩; clear tok2; have hC2 := hide (below_tr (unhide hC1) hb2 (unhide hC1).size))
      | (go_at_call 6; (with_reducible refine (unhide hA _ (unhide hC2)).mono ?_); rintro e w3 ⟨s3, A3, n3, c3, rfl, hx3, hb3⟩; have hC3 := hide ((below_tr (unhide hC2) hb3 (unhide hC2).size).alloc (Nat.le_trans (unhide hC2).size (hb3).size) (.cells #[.bool s3, .slice A3 n3 c3] 29)); first | (have l33 := hide (LB.new (hx3 (by first | rfl | trivial)))) | skip)
      | (go_at_call 6; (with_reducible refine (unhide hB _ (unhide hC3)).mono ?_); rintro e w4 ⟨s4, A4, n4, c4, rfl, hx4, hb4⟩; have hC4 := hide ((below_tr (unhide hC3) hb4 (unhide hC3).size).alloc (Nat.le_trans (unhide hC3).size (hb4).size) (.cells #[.bool s4, .slice A4 n4 c4] 29)); first | (have l34 := hide (((unhide l33).below hb4).alloc (.cells #[.bool s4, .slice A4 n4 c4] 29)); have l44 := hide (LB.new (hx4 (by first | rfl | trivial))); obtain ⟨a34, b34⟩ := (unhide l34).cells; obtain ⟨a44, b44⟩ := (unhide l44).cells) | skip)
      | (go_at_call 7; (with_reducible refine (unhide hM _ _ _ (by first | rfl | trivial) (by first | rfl | trivial) (unhide l34).wd (unhide l44).wd).mono ?_); rintro e w5 ⟨u5, rfl, hz, hb5⟩; obtain ⟨s5, A5, n5, c5, rfl⟩ := hz.form; have hC5 := hide ((below_tr (unhide hC4) hb5 (unhide hC4).size).alloc (Nat.le_trans (unhide hC4).size (hb5).size) (.cells #[.bool s5, .slice A5 n5 c5] 29)); have l35 := hide (((unhide l34).below hb5).alloc (.cells #[.bool s5, .slice A5 n5 c5] 29)); have l45 := hide (((unhide l44).below hb5).alloc (.cells #[.bool s5, .slice A5 n5 c5] 29)); have l55 := hide (LB.new hz); obtain ⟨a35, b35⟩ := (unhide l35).cells; obtain ⟨a45, b45⟩ := (unhide l45).cells; obtain ⟨a55, b55⟩ := (unhide l55).cells)
      | (go_at_call 8; (with_reducible refine (unhide hW _ _ (by first | rfl | trivial) (by first | rfl | trivial) (unhide l55).wd).mono ?_); rintro e w6 ⟨A6, n6, c6, rfl, hd6, hb6⟩; have hC6 := hide (below_tr (unhide hC5) hb6 (unhide hC5).size); replace hd6 := hide hd6; have l36 := hide ((unhide l35).below hb6); obtain ⟨a36, b36⟩ := (unhide l36).cells; have l46 := hide ((unhide l45).below hb6); obtain ⟨a46, b46⟩ := (unhide l46).cells; have l56 := hide ((unhide l55).below hb6); obtain ⟨a56, b56⟩ := (unhide l56).cells)
      | (go_at_call 9; have _t := tok7; (with_reducible refine (unhide hL1 _ _ (unhide l36).wd).mono ?_); rintro e w7 ⟨rfl, hb7⟩; clear tok7; have hC7 := hide (below_tr (unhide hC6) hb7 (unhide hC6).size); have hd7 := hide ((unhide hd6).below hb7); have l37 := hide ((unhide l36).below hb7); obtain ⟨a37, b37⟩ := (unhide l37).cells; have l47 := hide ((unhide l46).below hb7); obtain ⟨a47, b47⟩ := (unhide l47).cells; have l57 := hide ((unhide l56).below hb7); obtain ⟨a57, b57⟩ := (unhide l57).cells)
      | (go_at_call 9; have _t := tok8; (with_reducible refine (unhide hL2 _ _ (unhide l47).wd).mono ?_); rintro e w8 ⟨rfl, hb8⟩; clear tok8; have hC8 := hide (below_tr (unhide hC7) hb8 (unhide hC7).size); have hd8 := hide ((unhide hd7).below hb8); have l38 := hide ((unhide l37).below hb8); obtain ⟨a38, b38⟩ := (unhide l38).cells; have l48 := hide ((unhide l47).below hb8); obtain ⟨a48, b48⟩ := (unhide l48).cells; have l58 := hide ((unhide l57).below hb8); obtain ⟨a58, b58⟩ := (unhide l58).cells)
      | (go_at_call 9; have _t := tok9; (with_reducible refine (unhide hL3 _ _ (unhide l58).wd).mono ?_); rintro e w9 ⟨rfl, hb9⟩; clear tok9; have hC9 := hide (below_tr (unhide hC8) hb9 (unhide hC8).size); have hd9 := hide ((unhide hd8).below hb9); have l39 := hide ((unhide l38).below hb9); obtain ⟨a39, b39⟩ := (unhide l39).cells; have l49 := hide ((unhide l48).below hb9); obtain ⟨a49, b49⟩ := (unhide l49).cells; have l59 := hide ((unhide l58).below hb9); obtain ⟨a59, b59⟩ := (unhide l59).cells)
      | (go_at_call 4; (with_reducible refine (unhide hU _ (by first | rfl | trivial) (by first | rfl | trivial) (by first | rfl | trivial) (by first | rfl | trivial) (by first | rfl | trivial) (by first | rfl | trivial) (unhide hC9)).mono ?_); rintro e w10 ⟨gt2, rfl, hgt2, hb10⟩; have hC10 := hide (below_tr (unhide hC9) hb10 (unhide hC9).size); have hd10 := hide ((unhide hd9).below hb10); replace hgt2 := hide hgt2)
      | (go_at_call 5; (with_reducible refine (same_any _ _ _ _ (unhide hgt2) (unhide hd10)).mono ?_); rintro e w11 ⟨rfl, hb11⟩; have hC11 := hide (below_tr (unhide hC10) hb11 (unhide hC10).size))
      | fail)
  all_goals (go_ret; exact pout_mk (unhide hC11))
end
section
open Go.RowKit Go.ChangeShapes Go.WideShapes Go.ChangeAt Go
attribute [local go_sem ↓] Go.wp_at_zero Go.wp_at_succ
set_option maxRecDepth 100000 in
set_option maxHeartbeats 4000000 in
theorem law_big (w : World) (A1 A2 : Option Addr) (n1 c1 n2 c2 : Nat) (h1 : n1 ≤ maxLen) (h2 : n2 ≤ maxLen) (h : 2147483647 < n1 ∨ 2147483647 < n2) :
    Calls Tryz.prog 3 #[.slice A1 n1 c1, .slice A2 n2 c2] w (POut w) := by
  have hm : maxLen = 9223372036854775807 := by decide
  by_cases h3 : 2147483647 < n1
  · have z1 : (2147483647 : Int) < (n1 : Int) := by omega
    go_enter Tryz.func3, Tryz.ntmps3
    go_wp2_with fail
    all_goals (go_ret; exact ⟨rfl, Below.refl _ _⟩)
  · have z1 : ¬ (2147483647 : Int) < (n1 : Int) := by omega
    have z2 : (2147483647 : Int) < (n2 : Int) := by omega
    go_enter Tryz.func3, Tryz.ntmps3
    go_wp2_with fail
    all_goals (go_ret; exact ⟨rfl, Below.refl _ _⟩)
theorem good_four {l : List Int} (h : good 256 l = true) : ∃ a b c d, l = [a, b, c, d] := by
  unfold good at h
  simp only [Bool.and_eq_true, decide_eq_true_eq] at h
  have h4 : l.length = 4 := h.1.2.trans (by decide)
  match l, h4 with
  | [a, b, c, d], _ => exact ⟨a, b, c, d, rfl⟩
theorem sv_bound {a b c d : Int} (hs : Sm64 [a, b, c, d]) : -2 ^ 255 ≤ sv [a, b, c, d] ∧ sv [a, b, c, d] < 2 ^ 255 := by
  have h1 := hs a (by simp)
  have h2 := hs b (by simp)
  have h3 := hs c (by simp)
  have h4 := hs d (by simp)
  have e2 : uv [a, b, c, d] = a + 18446744073709551616 * (b + 18446744073709551616 * (c + 18446744073709551616 * (d + 18446744073709551616 * 0))) := rfl
  by_cases h : 9223372036854775808 ≤ d
  · have e : sv [a, b, c, d] = uv [a, b, c, d] - 115792089237316195423570985008687907853269984665640564039457584007913129639936 := by
      have : d / 9223372036854775808 = 1 := by omega
      simp [sv, this]
    rw [e, e2]; omega
  · rw [← sv_pos hs h, e2]; omega
theorem mul_bound {x y : Int} (hx : -2 ^ 255 ≤ x ∧ x < 2 ^ 255) (hy : -2 ^ 255 ≤ y ∧ y < 2 ^ 255) : -bp 100 < x * y ∧ x * y < bp 100 := by
  have h1 : x.natAbs ≤ 2 ^ 255 := by omega
  have h2 : y.natAbs ≤ 2 ^ 255 := by omega
  have h3 : (x * y).natAbs ≤ 2 ^ 255 * 2 ^ 255 := by rw [Int.natAbs_mul]; exact Nat.mul_le_mul h1 h2
  have h4 : ((2 ^ 255 * 2 ^ 255 : Nat) : Int) < bp 100 := by decide +kernel
  omega
theorem hDec (w : World) (A : Option Addr) (c : Nat) (l : List Int) (hc : l.length ≤ c) (h : Sl w w.heap.size A l.length (ivs .u64 l)) (h64 : Sm64 l) (W : World) (hb : Below w.heap.size w W) :
    Calls Tryz.prog 6 #[.int .i64 256, .slice A l.length c] W (PDg W (good 256 l) (sv l)) := by
  by_cases h1 : l.length ≤ 1000000
  · have hr : Rd .u64 w (.slice A l.length c) l := ⟨A, c, rfl, hc, h, h1⟩
    exact decimal_any W _ 256 l (hr.below hb) h64
  · exact decimal_bad2 W A c 256 l (by decide) (by rw [show wN 256 = 4 by decide]; omega)
theorem law_any (w : World) (A1 A2 : Option Addr) (c1 c2 : Nat) (l1 l2 : List Int) (hc1 : l1.length ≤ c1) (hc2 : l2.length ≤ c2) (h1 : Sl w w.heap.size A1 l1.length (ivs .u64 l1)) (h2 : Sl w w.heap.size A2 l2.length (ivs .u64 l2))
    (hs1 : Sm64 l1) (hs2 : Sm64 l2) (hn1 : l1.length ≤ maxLen) (hn2 : l2.length ≤ maxLen) (hK : w.cell? ⟨2, 0, none⟩ = some (.int .i64 40)) (hk2 : 2 < w.heap.size) :
    Calls Tryz.prog 3 #[.slice A1 l1.length c1, .slice A2 l2.length c2] w (POut w) := by
  by_cases hbig : 2147483647 < l1.length ∨ 2147483647 < l2.length
  · exact law_big w A1 A2 _ c1 _ c2 hn1 hn2 hbig
  · refine law_core w A1 A2 _ c1 _ c2 (good 256 l1) (good 256 l2) (wrb 256 (sv l1 * sv l2)) _ _ _ (sv l1) (sv l2) (sv l1 * sv l2) (wrl 256 (sv l1 * sv l2)) (by omega) (by omega) hK hk2
      (fun W hb => hDec w A1 c1 l1 hc1 h1 hs1 W hb) (fun W hb => hDec w A2 c2 l2 hc2 h2 hs2 W hb) ?_ ?_
      (fun W u hu => least_any W u _ 256 7 hu rfl (by omega)) (fun W u hu => least_any W u _ 256 7 hu rfl (by omega)) (fun W u hu => least_any W u _ 256 7 hu rfl (by omega)) ?_
    · intro W u v hg1 hg2 hu hv
      obtain ⟨a, b, c, d, rfl⟩ := good_four hg1
      obtain ⟨a', b', c', d', rfl⟩ := good_four hg2
      obtain ⟨q1, q2⟩ := mul_bound (sv_bound hs1) (sv_bound hs2)
      exact WideMul_any W u v _ _ hu hv q1 q2
    · intro W u hg1 hg2 hu
      refine (wrapped_any W u _ 256 hu (by decide)).mono ?_
      rintro e w' ⟨x, rfl, hr, hb⟩
      obtain ⟨A, c, rfl, _⟩ := id hr
      exact ⟨A, _, c, rfl, hr, hb⟩
    · intro W hg1 hg2 hf hm1 hm2 hm3 hb
      obtain ⟨a, b, c, d, rfl⟩ := good_four hg1
      obtain ⟨a', b', c', d', rfl⟩ := good_four hg2
      have hr1 : Rd .u64 w (.slice A1 4 c1) [a, b, c, d] := ⟨A1, c1, rfl, hc1, h1, by simp⟩
      have hr2 : Rd .u64 w (.slice A2 4 c2) [a', b', c', d'] := ⟨A2, c2, rfl, hc2, h2, by simp⟩
      have e : wrl 256 (sv [a, b, c, d] * sv [a', b', c', d']) = twos (sv [a, b, c, d] * sv [a', b', c', d']) 4 := by
        unfold wrl; rw [if_neg (by decide), show wN 256 = 4 by decide]
      rw [e]
      have hfit : fitB (sv [a, b, c, d] * sv [a', b', c', d']) 4 = true := by
        unfold wrb at hf; rw [show wN 256 = 4 by decide] at hf; simp only [Bool.and_eq_true] at hf; exact hf.1
      generalize hX : sv [a, b, c, d] * sv [a', b', c', d'] = X at *
      unfold fitB at hfit
      simp only [Bool.and_eq_true, decide_eq_true_eq] at hfit
      simp only [decide_eq_false_iff_not] at hm3
      rw [← hX]
      refine decMul_any W _ _ a b c d a' b' c' d' (hr1.below hb) (hr2.below hb) hs1 hs2 (by rw [← hK]; exact cell_mod (Mod.of_below (S := []) hb) ⟨2, 0, none⟩ hk2 (by simp)) (Nat.lt_of_lt_of_le hk2 hb.size) ?_ ?_
      · rw [hX]; have := hfit.2; simp at this hm3; omega
      · rw [hX]; have := hfit.1; simp at this; omega
end
section
open Go.ChangeShapes Go.WideShapes Go.ChangeAt Go.RowKit Go.Deep
theorem Tryz.own' : ownKnob Tryz.prog.godebug = none := by kernel_rfl
theorem Tryz.laidOut' : laidOutB Tryz.prog = true := by kernel_rfl
abbrev nKar : String := "given.example/pub-fletching/pub/bigall.karatsubaThreshold"
theorem int_of_head {P : Program} {W : World} {name : String} {k : IntKind} {z : Int} {rest : List (String × DataW Unit)} {g : Nat} {t : TypeId} (hg : P.globalNamed name = some g) (hty : (P.globals[g]?).map (·.type) = some t) (ht : P.underlying t = some (.int k))
    (h : laidMet P ((name, .lit (.int k z)) :: rest) W) : W.cell? ⟨g, 0, none⟩ = some (.int k z) := by
  obtain ⟨ps, ⟨g', t', cs, fuel, p, q, hg', ht', hvar, hd, _, _⟩, _⟩ := h
  obtain rfl := Option.some.inj (hg.symm.trans hg')
  obtain rfl := Option.some.inj (hty.symm.trans ht')
  obtain ⟨z', hc, he, _⟩ := DataW.trod_int ht hd
  have := World.var?_cell hg hvar 0
  rw [this]
  simp only [Prod.mk.injEq, DataW.lit.injEq, Lit.int.injEq, true_and] at he
  obtain rfl : cs = #[.int k z'] := by rw [← Array.toArray_toList (xs := cs), hc]
  rw [he.1]; rfl
theorem tabK {W : World} {rest : List (String × DataW Unit)} (h : laidMet Tryz.prog ((nKar, Rows.laid_given_example_pub_fletching_pub_bigall_karatsubaThreshold) :: rest) W) : W.cell? ⟨2, 0, none⟩ = some (.int .i64 40) :=
  int_of_head (P := Tryz.prog) (g := 2) (t := 3) (by kernel_rfl) (by kernel_rfl) (by kernel_rfl) h
theorem u64_of_wf {z : Int} (h : (Lit.int .u64 z).wf = true) : 0 ≤ z ∧ z < 18446744073709551616 := by
  simp [Lit.wf, IntKind.min, IntKind.max, IntKind.signed, IntKind.bits] at h
  omega
section
variable {H : Type} {enc : TypeId × Value → H} {P : Program} {w : World} {base : Nat} {held : Bool}
theorem open_u64 {t e : TypeId} {v : Value} {d : DataW H} {p : List MemPlace} (ht : P.underlying t = some (.slice e)) (he : P.underlying e = some (.int .u64)) (hc : P.cellsOf e = 1) (hv : ∃ a len cap, v = .slice a len cap)
    (h : DataW.Trod enc P w base (fun _ => true) held t v d p) : ∃ A c l, v = .slice A (List.length l) c ∧ l.length ≤ c ∧ Sm64 l ∧ Sl w w.heap.size A l.length (ivs .u64 l) ∧ l.length ≤ maxLen := by
  obtain ⟨fuel, h⟩ := h
  obtain ⟨A, n, c, rfl⟩ := hv
  rcases open_ints ht he hc h with ⟨h1, _⟩ | ⟨a, len, cap, zs, h1, _, hl, hm, hz, _, hcell, hwf⟩
  · obtain ⟨rfl, rfl, rfl⟩ : A = none ∧ n = 0 ∧ c = 0 := by simpa [Value.cells] using h1
    exact ⟨none, 0, [], rfl, by simp, (fun x hx => by simp at hx), sl_nil rfl _ _, by simp⟩
  · obtain ⟨rfl, rfl, rfl⟩ : A = some a ∧ n = len ∧ c = cap := by simpa [Value.cells] using h1
    simp only [if_true] at hz
    have hlen : (zs.take n).length = n := by simp; omega
    refine ⟨some a, c, zs.take n, by rw [hlen], by omega, fun x hx => u64_of_wf (hwf x (List.mem_of_mem_take hx)), ?_, by omega⟩
    refine sl_of (by simp [ivs]) fun i u hu => ?_
    have hi : i < n := by
      have := (List.getElem?_eq_some_iff.1 hu).1
      simp [ivs] at this; omega
    rw [hcell i (by omega), List.getD_eq_getElem?_getD, List.getElem?_eq_getElem (show i < zs.length by omega)]
    simp [ivs, List.getElem?_map, List.getElem?_take, hi, List.getElem?_eq_getElem (show i < zs.length by omega)] at hu
    rw [← hu]; rfl
end
section
variable {H : Type} {enc : TypeId × Value → H} {P : Program} {w : World} {spare : Nat → Bool} {base : Nat} {held : Bool}
theorem vars_three {n0 n1 n2 : String} {gs : List (DataW H)} {ps : List MemPlace} (h : DataW.TrodVars enc P w spare [n0, n1, n2] gs ps) : ∃ d0 d1 d2, gs = [d0, d1, d2] := by
  cases gs with
  | nil => simp [DataW.TrodVars] at h
  | cons d ds =>
    obtain ⟨g0, t0, cs0, f0, p0, q0, h1, h2, h3, h4, hs, e⟩ := h
    obtain ⟨_, _, _, _, d1, _, _, _, _, _, d2, _, rfl, _⟩ := trodVars_two hs
    exact ⟨d, d1, d2, rfl⟩
theorem trodAll_two {t0 t1 : TypeId} {args : Array Value} {ds : List (DataW H)} {ps : List MemPlace} (h : DataW.TrodAll enc P w base spare held [t0, t1] args.toList ds ps) :
    ∃ v0 v1 d0 d1 p0 p1, args = #[v0, v1] ∧ ds = [d0, d1] ∧ DataW.Trod enc P w base spare held t0 v0 d0 p0 ∧ DataW.Trod enc P w base spare held t1 v1 d1 p1 := by
  obtain ⟨v0, x0, d0, y0, p0, q0, hargs, rfl, rfl, hd0, r0⟩ := trodAll_cons h
  obtain ⟨v1, x1, d1, y1, p1, q1, rfl, rfl, rfl, hd1, r1⟩ := trodAll_cons r0
  obtain ⟨rfl, rfl, rfl⟩ := trodAll_nil r1
  exact ⟨v0, v1, d0, d1, p0, p1, by cases args; simp_all, rfl, hd0, hd1⟩
end
theorem door_met3 (os : Os) (args : Array Value) : laidMetH Tryz.prog Rows.fnDecMulWideRow.laid ((World.doorLaid Tryz.prog 65 os).forCall (fun _ _ => 0) ⟨#[], args, []⟩).memory :=
  laidMetH_of_parts3 (fuel := 8) (laidMet_of_run' 8 (by kernel_rfl) (by kernel_rfl)) (by kernel_rfl) (by kernel_rfl)
set_option maxRecDepth 100000 in
theorem lifted3 (os : Os) (started : os.Started) (H : Type) (enc : TypeId × Value → H) :
    ReturnsInHanded {} Tryz.checked os 3 .any (fun w args => (Rows.fnDecMulWideSpec.pre enc Tryz.prog Tryz.f3 [] false w args ∧ laidMetH Tryz.prog Rows.fnDecMulWideRow.laid w) ∧ sizedMet enc Tryz.prog Tryz.f3 (OpenSpec.ofChange Rows.fnDecMulWideSpec) false w args)
      (Rows.fnDecMulWideSpec.post enc Tryz.prog Tryz.f3 false true false false) := by
  refine returnsInHanded_of_change_and (C := Tryz.checked) (X := fun w _ => laidMetH Tryz.prog Rows.fnDecMulWideRow.laid w) (fun _ _ _ hh h => h.of_heap hh) Tryz.own' started (by kernel_rfl) Tryz.func3
    (ChangeSpec.witness_shaped (enc := enc) (C := Tryz.checked) (os := os) (X := fun w _ => laidMetH Tryz.prog Rows.fnDecMulWideRow.laid w) false (World.doorLaid Tryz.prog 65 os) #[.slice none 0 0, .slice none 0 0] 8 rfl (World.shaped_of_RefB (by kernel_rfl) (by kernel_rfl)) (by kernel_rfl) (by kernel_rfl) (by kernel_rfl) (door_met3 os _)) ?_
  intro W base args ds gs before hval0 hW _ _ hL _
  have hval : ∀ (j : Nat) t v, Tryz.f3.params[j]? = some t → args[j]? = some v → Value.okWide Tryz.prog W .any base t v := hval0
  have hW' := hW
  obtain ⟨p, q, hA0, hV, rfl, hfz, hnd⟩ := hW
  have hA : DataW.TrodAll enc Tryz.prog W 0 (fun _ => true) true Tryz.f3.params.toList args.toList ds p := hA0
  rw [Tryz.params3] at hA hval
  obtain ⟨v0, v1, d0, d1, p0, p1, rfl, rfl, h0, h1⟩ := trodAll_two hA
  obtain ⟨x0, x1, x2, rfl⟩ := vars_three hV
  obtain ⟨A1, c1, l1, rfl, hc1, hs1, hl1, hn1⟩ := open_u64 Tryz.underlying22 Tryz.underlying23 (by kernel_rfl) (okWide_slice Tryz.underlying22 (hval 0 22 v0 rfl rfl)) h0
  obtain ⟨A2, c2, l2, rfl, hc2, hs2, hl2, hn2⟩ := open_u64 Tryz.underlying22 Tryz.underlying23 (by kernel_rfl) (okWide_slice Tryz.underlying22 (hval 1 22 v1 rfl rfl)) h1
  rw [MakeChecks.laidMetH_plain _ _ _ (by kernel_rfl)] at hL
  have hK := tabK hL
  refine (law_any W A1 A2 c1 c2 l1 l2 hc1 hc2 hl1 hl2 hs1 hs2 hn1 hn2 hK (World.block_lt_of_cell? W _ hK)).mono fun e W' ⟨he, hm⟩ => ?_
  subst he
  exact ⟨_, rfl, law_post Tryz.laidOut' (by kernel_rfl) (by kernel_rfl) (by kernel_rfl) Tryz.underlying4 hW' hm ⟨rfl, rfl, rfl⟩⟩
theorem fnDecMulWide_holds : Rows.FnDecMulWideSaid :=
  OpenClaim.holds_of_wide 3 Tryz.f3 rfl rfl rfl rfl rfl rfl rfl ⟨rfl, rfl, rfl, rfl, rfl⟩ rfl rfl rfl rfl rfl (by kernel_rfl) Tryz.func3 (by kernel_rfl)
    (of_decide_eq_true (by kernel_rfl)) (by unfold Func.isWrapper; first | (rw [if_pos (by decide +kernel)]; kernel_rfl) | (rw [if_neg (by decide +kernel)]; exact ⟨rfl, rfl⟩))
    (fun os started H enc _ => lifted3 os started H enc)
theorem fnDecMulWide.proved : Rows.FnDecMulWideCardSaid :=
  Claim7.holds_tied_plain_at .later [] [.data, .data, .data] true (true, "f0f986f48d19a7cad092c74947648341080707770a896f80b6b2a886dfd416f6") false
    fnDecMulWide_holds (fun _ h => by cases h) (by kernel_rfl) (fun _ h => by cases h) fnDecMulWide_row_tie rfl ⟨rfl, rfl⟩ (by kernel_rfl) rfl
    (fun f fn hf hfn => by
      obtain rfl : f = 3 := Option.some.inj ((show Tryz.prog.funcNamed "given.example/pub-fletching/laws.FnDecMulWide" = some 3 by kernel_rfl).symm.trans hf) |>.symm
      obtain rfl : fn = Tryz.f3 := (Option.some.inj (Tryz.func3.symm.trans hfn)).symm
      exact ⟨by kernel_rfl, fun j t ht => by
        rw [Tryz.params3] at ht
        have hm : t ∈ [22, 22] := by simpa using Array.mem_of_getElem? ht
        have hall : ([22, 22].all fun u => !Tryz.prog.wantsStandIn u) = true := by kernel_rfl
        exact (show Tryz.prog.wantsStandIn t = false by simpa using List.all_eq_true.1 hall t hm)⟩)
    (by kernel_rfl)
#print axioms fnDecMulWide.proved
end
end Go.Proofs.YtfalicipocbcoaaGreatDoor
