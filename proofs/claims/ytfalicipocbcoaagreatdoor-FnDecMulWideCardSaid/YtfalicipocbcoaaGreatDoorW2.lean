/- Exact integers as digits: what a value in memory says; the contracts of the digits' loops that the print has written, in these words. (YtfalicipocbcoaaGreatDoor) -/
import Derived.Test.YtfalicipocbcoaaGreatDoorW1
import Derived.Test.YtfalicipocbcoaaGreatDoorPmagAddx1
import Derived.Test.YtfalicipocbcoaaGreatDoorPWideCmpx1
set_option linter.unusedVariables false
set_option linter.unusedSimpArgs false
namespace Go.Proofs.YtfalicipocbcoaaGreatDoor
open Go.RowKit Go.Proofs.YtfalicipocbcoaaGreatDoorW.PrintWords Go.Proofs.YtfalicipocbcoaaGreatDoorW.PrintLast Go.Proofs.YtfalicipocbcoaaGreatDoorW.PrintMore
theorem cell_lt2 {w : World} {a : Addr} {v : Value} (h : w.cell? a = some v) : a.spot = none ∧ a.block < w.heap.size := by
  unfold World.cell? at h
  split at h
  · next hc =>
    split at h
    · cases h
    · next h2 => exact ⟨by simpa using h2, (Array.getElem?_eq_some_iff.1 hc).1⟩
  · cases h
theorem digit_split (S : Int) (h0 : 0 ≤ S) (h1 : S < 8589934592) : (0 ≤ S % 4294967296 ∧ S % 4294967296 < 4294967296) ∧ 0 ≤ S / 4294967296 ∧ S / 4294967296 ≤ 1 := by omega
theorem digit_join (x y p q c S : Int) (hS : S = c + x + y) : x + 4294967296 * p + (y + 4294967296 * q) + c = (S % 4294967296 + 4294967296 * 0) + 4294967296 * (p + q + S / 4294967296) := by omega
/-- a slice of whole numbers that can be read. -/
def Rd (k : IntKind) (w : World) (v : Value) (l : List Int) : Prop :=
  ∃ A c, v = .slice A l.length c ∧ l.length ≤ c ∧ Sl w w.heap.size A l.length (l.map (Value.int k)) ∧ l.length ≤ 1000000
theorem Rd.below {k : IntKind} {w w' : World} {v : Value} {l : List Int} (h : Rd k w v l) (hb : Below w.heap.size w w') : Rd k w' v l := by
  obtain ⟨A, c, e, h1, h2, h3⟩ := h
  exact ⟨A, c, e, h1, (h2.mod (Mod.of_below (S := []) hb) (by simp)).mono hb.size, h3⟩
theorem Rd.of_mod {k : IntKind} {w w' : World} {v : Value} {l : List Int} (h : Rd k w v l) (hb : Mod [] w w') : Rd k w' v l := h.below hb.below
theorem Rd.toC {k : IntKind} {w : World} {v : Value} {l : List Int} (h : Rd k w v l) : ∃ A c, v = .slice A l.length c ∧ l.length ≤ c ∧ Kd.C (Kd.int k) w A l.length l := by
  obtain ⟨A, c, e, h1, h2, h3⟩ := h
  refine ⟨A, c, e, h1, rfl, by omega, fun hn => ?_⟩
  obtain ⟨b, off, rfl, _, hc⟩ := h2.2 hn
  refine ⟨_, rfl, fun j p hj => ⟨[.int k p], rfl, rfl, fun i u hu => ?_⟩⟩
  have hi : i = 0 := by
    rcases i with _ | i
    · rfl
    · simp at hu
  subst hi
  have hu' : u = .int k p := by simpa using hu.symm
  subst hu'
  have := hc j (.int k p) (by simp [hj])
  have e2 : (⟨b, off, none⟩ : Addr).add (j * 1 + 0) = ⟨b, off + j, none⟩ := by unfold Addr.add; split <;> simp_all
  show w.cell? ((⟨b, off, none⟩ : Addr).add (j * 1 + 0)) = _
  rw [e2]; exact this
theorem Rd.ofC {k : IntKind} {w : World} {A : Option Addr} {c : Nat} {l : List Int} (h : Kd.C (Kd.int k) w A l.length l) (hc : l.length ≤ c) (hm : l.length ≤ 1000000) : Rd k w (.slice A l.length c) l := by
  refine ⟨A, c, rfl, hc, ⟨by simp, fun hn => ?_⟩, hm⟩
  obtain ⟨ad, rfl, hcell⟩ := h.2.2 hn
  have key : ∀ j u, (l.map (Value.int k))[j]? = some u → w.cell? (ad.add j) = some u := by
    intro j u hu
    simp only [List.getElem?_map, Option.map_eq_some_iff] at hu
    obtain ⟨p, hp, rfl⟩ := hu
    obtain ⟨cs, h1, h2, h3⟩ := hcell j p hp
    have h2' : cs = [.int k p] := h2
    subst h2'
    have h4 : w.cell? (ad.add (j * 1 + 0)) = some (.int k p) := h3 0 (.int k p) rfl
    simpa using h4
  have h0 := key 0 (.int k (l[0]'hn)) (by simp [List.getElem?_eq_getElem hn])
  have hw := cell_lt2 h0
  obtain ⟨b, off, sp⟩ := ad
  have hsp : sp = none := by
    cases sp with
    | none => rfl
    | some s => simp [Addr.add] at hw
  subst hsp
  refine ⟨b, off, rfl, by simpa [Addr.add] using hw.2, fun j u hu => ?_⟩
  have := key j u hu
  rwa [show (⟨b, off, none⟩ : Addr).add j = ⟨b, off + j, none⟩ by unfold Addr.add; split <;> simp_all] at this
theorem Rd.ofV {k : IntKind} {w : World} {e base : Nat} {ok : Nat → Prop} {v : Value} {l : List Int} (h : Kd.V (Kd.int k) e w base ok v l) (hm : l.length ≤ 1000000) : Rd k w v l := by
  obtain ⟨A, c, rfl⟩ := Kd.V_slice h
  obtain ⟨_, h1, h2⟩ := Kd.V_reads' h
  exact Rd.ofC h2 h1 hm
theorem Rd.ofR {k : IntKind} {w : World} {e base : Nat} {ok : Nat → Prop} {v : Value} {l : List Int} (h : Kd.R (Kd.int k) e w base ok v l) (hm : l.length ≤ 1000000) : Rd k w v l := by
  obtain ⟨A, c, rfl, h1, h2⟩ := Kd.R_reads h
  exact Rd.ofC h2 h1 hm
theorem below_drawn {B : Nat} {w w' : World} (h : Drawn0 w w') : Below B w w' := by
  obtain ⟨n, rfl⟩ := h.out
  exact pw_below_drewN (Below.refl _ _) n
theorem Rd.nil (k : IntKind) (w : World) : Rd k w (.slice none 0 0) [] := ⟨none, 0, rfl, Nat.le_refl _, Sl.nil_ _ _ _, by simp⟩
theorem Rd.one {k : IntKind} {w : World} {v : Value} {l : List Int} (h : Rd k w v l) {i : Nat} (hi : i < l.length) :
    ∃ b off c, v = .slice (some ⟨b, off, none⟩) l.length c ∧ l.length ≤ c ∧ b < w.heap.size ∧ (∀ j, j < l.length → w.cell? ⟨b, off + j, none⟩ = some (.int k (l.getD j 0))) := by
  obtain ⟨A, c, rfl, h1, h2, h3⟩ := h
  obtain ⟨b, off, rfl, hb, hc⟩ := h2.2 (by omega)
  refine ⟨b, off, c, rfl, h1, hb, fun j hj => hc j _ ?_⟩
  simp [List.getElem?_map, List.getElem?_eq_getElem hj, List.getD_eq_getElem?_getD]
/-- a block of elements of one type. -/
def Tyb (w : World) (g t : Nat) : Prop := ∃ cs f, w.heap[g]? = some (.cells cs t f)
theorem Tyb.lt {w : World} {g t : Nat} (h : Tyb w g t) : g < w.heap.size := by
  obtain ⟨cs, f, h⟩ := h
  exact (Array.getElem?_eq_some_iff.1 h).1
theorem Tyb.below {w w' : World} {g t B : Nat} (h : Tyb w g t) (hb : Below B w w') (hg : g < B) : Tyb w' g t := by
  obtain ⟨cs, f, h⟩ := h
  exact ⟨cs, f, (hb.block g hg).trans h⟩
theorem Tyb.below' {w w' : World} {g t : Nat} (h : Tyb w g t) (hb : Below w.heap.size w w') : Tyb w' g t := h.below hb h.lt
theorem Tyb.drew {w : World} {g t : Nat} (h : Tyb w g t) : Tyb w.drew g t := h
theorem Tyb.drewN {w : World} {g t : Nat} (h : Tyb w g t) (n : Nat) : Tyb (w.drewN n) g t := h
theorem Tyb.alloc {w : World} {g t : Nat} (h : Tyb w g t) (o : Obj) : Tyb (w.alloc o) g t := by
  have := h.lt
  obtain ⟨cs, f, h⟩ := h
  exact ⟨cs, f, by rw [heap_alloc, if_neg (by omega)]; exact h⟩
theorem Tyb.new {w : World} {g : Nat} (cs : Array Value) (t : TypeId) (f : Nat × Nat) (h : g = w.heap.size) : Tyb (w.alloc (.cells cs t f)) g t := by
  subst h; exact ⟨cs, f, by rw [heap_alloc, if_pos rfl]⟩
theorem Tyb.set {w : World} {g t : Nat} (h : Tyb w g t) (b i : Nat) (v : Value) : Tyb (w.setCell ⟨b, i, none⟩ v) g t := by
  obtain ⟨cs, f, h⟩ := h
  by_cases e : g = b
  · subst e
    refine ⟨cs.setIfInBounds i v, f, ?_⟩
    simp [World.setCell, Array.getElem?_modify, h]
  · exact ⟨cs, f, by rw [heap_set_other _ _ _ _ e]; exact h⟩
theorem Tyb.ne {w : World} {g g' t t' : Nat} (h : Tyb w g t) (h' : Tyb w g' t') (hne : t ≠ t') : g ≠ g' := by
  rintro rfl
  obtain ⟨cs, f, h⟩ := h
  obtain ⟨cs', f', h'⟩ := h'
  rw [h] at h'
  injection h' with h'
  injection h' with _ h' _
  exact hne h'
/-- the row of a slice has elements of this type. -/
def Ty (w : World) (e : Nat) (v : Value) : Prop := ∀ b off n c, v = .slice (some ⟨b, off, none⟩) n c → 0 < n → Tyb w b e
theorem Ty.below {w w' : World} {e : Nat} {v : Value} (h : Ty w e v) (hb : Below w.heap.size w w') : Ty w' e v := fun b off n c he hn => (h b off n c he hn).below' hb
theorem Ty.set {w : World} {e : Nat} {v : Value} (h : Ty w e v) (b i : Nat) (x : Value) : Ty (w.setCell ⟨b, i, none⟩ x) e v := fun b' off n c he hn => (h b' off n c he hn).set b i x
theorem Ty.nil (w : World) (e : Nat) (c : Nat) : Ty w e (.slice none 0 c) := fun b off n c he hn => by cases he
theorem Ty.own {w : World} {base e size n : Nat} {v : Value} {xs : List Value} (h : w.ownsRow base e size v n xs) : Ty w e v := fun b off m c he hm => by
  subst he
  obtain ⟨cells, hc⟩ := own_typed h b rfl
  exact ⟨cells, _, hc⟩
/-- the row of a slice is a new one. -/
def New (B : Nat) (v : Value) : Prop := ∀ b off n c, v = .slice (some ⟨b, off, none⟩) n c → 0 < n → B ≤ b
theorem New.own {w : World} {base e size n : Nat} {v : Value} {xs : List Value} (h : w.ownsRow base e size v n xs) : New base v := fun b off m c he hm => by
  subst he
  exact own_base h b rfl
/-- digits in memory. -/
def Mg (w : World) (v : Value) (l : List Int) : Prop := Rd .u32 w v l ∧ Ty w 69 v
theorem Mg.below {w w' : World} {v : Value} {l : List Int} (h : Mg w v l) (hb : Below w.heap.size w w') : Mg w' v l := ⟨h.1.below hb, h.2.below hb⟩
theorem Rd.far {k : IntKind} {w : World} {v : Value} {l : List Int} {e g t : Nat} (h : Rd k w v l) (hy : Ty w e v) (hg : Tyb w g t) (hne : t ≠ e) (i : Nat) (x : Value) : Rd k (w.setCell ⟨g, i, none⟩ x) v l := by
  obtain ⟨A, c, rfl, h1, h2, h3⟩ := h
  refine ⟨A, c, rfl, h1, ⟨h2.1, fun hn => ?_⟩, h3⟩
  obtain ⟨b, off, rfl, hb, hc⟩ := h2.2 hn
  have hb2 := (hy b off _ c rfl hn).ne hg (Ne.symm hne)
  refine ⟨b, off, rfl, by rw [World.size_setCell]; exact hb, fun j u hu => ?_⟩
  rw [World.cell?_of_block (heap_set_other _ _ _ _ hb2)]
  exact hc j u hu
theorem Mg.far {w : World} {v : Value} {l : List Int} {g t : Nat} (h : Mg w v l) (hg : Tyb w g t) (hne : t ≠ 69) (i : Nat) (x : Value) : Mg (w.setCell ⟨g, i, none⟩ x) v l := ⟨h.1.far h.2 hg hne i x, h.2.set _ _ _⟩
theorem Mg.nil (w : World) : Mg w (.slice none 0 0) [] := ⟨Rd.nil _ _, Ty.nil _ _ _⟩
/-- a value of the reference's integers, and the integer that it is. -/
def Wd (w : World) (v : Value) (z : Int) : Prop :=
  ∃ s l u, v = .agg #[.bool s, u] ∧ Mg w u l ∧ Sm l ∧ Trim l ∧ (s = true → l ≠ []) ∧ wv s l = z ∧ l.length ≤ 100
theorem Wd.below {w w' : World} {v : Value} {z : Int} (h : Wd w v z) (hb : Below w.heap.size w w') : Wd w' v z := by
  obtain ⟨s, l, u, e, h1, h2⟩ := h
  exact ⟨s, l, u, e, h1.below hb, h2⟩
theorem Wd.far {w : World} {v : Value} {z : Int} {g t : Nat} (h : Wd w v z) (hg : Tyb w g t) (hne : t ≠ 69) (i : Nat) (x : Value) : Wd (w.setCell ⟨g, i, none⟩ x) v z := by
  obtain ⟨s, l, u, e, h1, h2⟩ := h
  exact ⟨s, l, u, e, h1.far hg hne i x, h2⟩
theorem wd_sign {s : Bool} {l : List Int} {z : Int} (h2 : Sm l) (h3 : Trim l) (h4 : s = true → l ≠ []) (h5 : wv s l = z) : s = decide (z < 0) ∧ dv l = z.natAbs := by
  have h6 := dv_nn h2
  cases s with
  | true =>
    have := dv_pos h2 h3 (h4 rfl)
    have h5' : - dv l = z := h5
    constructor
    · rw [eq_comm, decide_eq_true_iff]; omega
    · omega
  | false =>
    have h5' : dv l = z := h5
    constructor
    · rw [eq_comm, decide_eq_false_iff_not]; omega
    · omega
/-! ### the printed loops -/
theorem rdd (l : List Int) (i : Nat) : rd l (i : Int) = l.getD i 0 := by simp [rd]
theorem wr64 {x : Int} (h0 : 0 ≤ x) (h1 : x < 18446744073709551616) : IntKind.u64.wrap x = x := by
  simp only [IntKind.wrap, IntKind.min, IntKind.max, IntKind.bits, IntKind.signed]; simp; omega
theorem wr_succ (i : Nat) (h : i ≤ 1000000) : wrap64 ((i : Int) + 1) = ((i + 1 : Nat) : Int) := by unfold wrap64; omega
/-- magAdd's loop: what is left of both, and a carry. -/
theorem add_loop (a b : List Int) (ha : Sm a) (hb : Sm b) (hla : a.length ≤ 100000) (hlb : b.length ≤ 100000) (d : Nat) : ∀ (i : Nat) (out : List Int) (c : Int), i = out.length → 0 ≤ c → c ≤ 1 → max a.length b.length + 1 - i = d → (c = 0 ∨ i ≤ max a.length b.length) → Sm out →
    ∃ k r, PmagAdd.spec_magAdd.l0 k a b out c i = some r ∧ Sm r ∧ r.length ≤ max out.length (max a.length b.length + 1) ∧ dv r = dv out + bp i * (dv (a.drop i) + dv (b.drop i) + c) := by
  induction d with
  | zero =>
    intro i out c hi h0 h1 hd hc ho
    have ea : a.drop i = [] := List.drop_eq_nil_iff.2 (by omega)
    have eb : b.drop i = [] := List.drop_eq_nil_iff.2 (by omega)
    have ec : c = 0 := by omega
    subst ec
    refine ⟨2, out, ?_, ho, by omega, by rw [ea, eb]; simp [dv]⟩
    simp only [PmagAdd.spec_magAdd.l0, PmagAdd.spec_magAdd.j1]
    rw [if_neg (by omega), if_neg (by omega)]
    simp
  | succ d ih =>
    intro i out c hi h0 h1 hd hc ho
    have hga := sm_get ha i
    have hgb := sm_get hb i
    by_cases hdone : c = 0 ∧ a.length ≤ i ∧ b.length ≤ i
    · obtain ⟨rfl, h2, h3⟩ := hdone
      have ea : a.drop i = [] := List.drop_eq_nil_iff.2 (by omega)
      have eb : b.drop i = [] := List.drop_eq_nil_iff.2 (by omega)
      refine ⟨2, out, ?_, ho, by omega, by rw [ea, eb]; simp [dv]⟩
      simp only [PmagAdd.spec_magAdd.l0, PmagAdd.spec_magAdd.j1]
      rw [if_neg (by omega), if_neg (by omega)]
      simp
    · have hi3 : i ≤ 100000 := by clear ih hd; omega
      have hsum : ∃ S : Int, S = c + a.getD i 0 + b.getD i 0 := ⟨_, rfl⟩
      obtain ⟨S, hS⟩ := hsum
      have hS0 : 0 ≤ S ∧ S < 8589934592 := by clear ih hdone hd hc; omega
      obtain ⟨⟨hq1, hq2⟩, hq3, hq4⟩ := digit_split S hS0.1 hS0.2
      have hm1 : max a.length b.length + 1 - (i + 1) = d := by clear hdone; omega
      have hm2 : S / 4294967296 = 0 ∨ i + 1 ≤ max a.length b.length := by
        by_cases h2 : i + 1 ≤ max a.length b.length
        · exact .inr h2
        · left
          have ea : a.getD i 0 = 0 := by rw [List.getD_eq_getElem?_getD, List.getElem?_eq_none (by omega)]; rfl
          have eb : b.getD i 0 = 0 := by rw [List.getD_eq_getElem?_getD, List.getElem?_eq_none (by omega)]; rfl
          rw [ea, eb] at hS
          clear ih hdone hd hc
          omega
      obtain ⟨k, r, hk, hr1, hr2, hr3⟩ := ih (i + 1) (out ++ [S % 4294967296]) (S / 4294967296) (by simp [hi]) hq3 hq4 hm1 hm2 (sm_append ho (sm_one hq1 hq2))
      refine ⟨k + 2, r, ?_, hr1, by simp at hr2; omega, ?_⟩
      · have hj : PmagAdd.spec_magAdd.j1 (k + 1) a b out c i true = some r := by
          simp only [PmagAdd.spec_magAdd.j1]
          rw [if_pos trivial]
          have hol : out.length < 35184372088832 := by clear ih hk hr1 hr2 hr3 hdone hd; omega
          have hi2 : i ≤ 1000000 := by clear ih hk hr1 hr2 hr3 hdone hd; omega
          clear ih hr1 hr2 hr3 hdone hd hm1 hm2 hc
          simp only [rdd]
          by_cases h2 : (i : Int) < (a.length : Int)
          · rw [if_pos h2, if_pos (by omega)]
            by_cases h3 : (i : Int) < (b.length : Int)
            · rw [if_pos h3, if_pos hol, wr64 (x := a.getD i 0) (by omega) (by omega), wr64 (x := b.getD i 0) (by omega) (by omega), wr64 (x := c + a.getD i 0) (by omega) (by omega), wr64 (by omega) (by omega), ← hS, wr_succ i hi2]
              exact hk
            · rw [if_neg h3, if_pos hol, wr64 (x := a.getD i 0) (by omega) (by omega), wr64 (x := c + a.getD i 0) (by omega) (by omega), wr_succ i hi2]
              have eb : b.getD i 0 = 0 := by rw [List.getD_eq_getElem?_getD, List.getElem?_eq_none (by omega)]; rfl
              rw [eb] at hS
              rw [show c + a.getD i 0 = S by omega]
              exact hk
          · rw [if_neg h2]
            have ea : a.getD i 0 = 0 := by rw [List.getD_eq_getElem?_getD, List.getElem?_eq_none (by omega)]; rfl
            rw [ea] at hS
            by_cases h3 : (i : Int) < (b.length : Int)
            · rw [if_pos h3, if_pos (by omega), if_pos hol, wr64 (x := b.getD i 0) (by omega) (by omega), wr64 (x := c + b.getD i 0) (by omega) (by omega), wr_succ i hi2]
              rw [show c + b.getD i 0 = S by omega]
              exact hk
            · rw [if_neg h3, if_pos hol, wr_succ i hi2]
              have eb : b.getD i 0 = 0 := by rw [List.getD_eq_getElem?_getD, List.getElem?_eq_none (by omega)]; rfl
              rw [eb] at hS
              rw [show c = S by omega]
              exact hk
        clear ih hr1 hr2 hr3
        simp only [PmagAdd.spec_magAdd.l0]
        by_cases h2 : (i : Int) < (a.length : Int)
        · rw [if_pos h2]; exact hj
        · rw [if_neg h2]
          by_cases h3 : (i : Int) < (b.length : Int)
          · rw [if_pos h3]; exact hj
          · rw [if_neg h3, show decide (c > 0) = true by rw [decide_eq_true_iff]; omega]; exact hj
      · rw [hr3, dv_append, ← hi, bp_succ]
        have e1 : ∀ l : List Int, dv (l.drop i) = l.getD i 0 + 4294967296 * dv (l.drop (i + 1)) := by
          intro l
          by_cases h2 : i < l.length
          · rw [drop_get h2]; rfl
          · rw [List.drop_eq_nil_iff.2 (by omega), List.drop_eq_nil_iff.2 (by omega), List.getD_eq_getElem?_getD, List.getElem?_eq_none (by omega)]; rfl
        rw [e1 a, e1 b]
        simp only [dv]
        generalize dv (a.drop (i + 1)) = p
        generalize dv (b.drop (i + 1)) = q
        generalize bp i = t
        rw [digit_join _ _ p q c S hS, Int.mul_add, Int.mul_assoc 4294967296 t, ← Int.mul_assoc t 4294967296, Int.mul_comm t 4294967296, Int.mul_assoc, Int.add_assoc, Int.mul_add t (S % 4294967296 + 4294967296 * 0), Int.mul_left_comm t 4294967296]
        simp only [Int.mul_zero, Int.add_zero]
theorem magAdd_any (w : World) (u v : Value) (a b : List Int) (hu : Rd .u32 w u a) (hv : Rd .u32 w v b) (ha : Sm a) (hb : Sm b) (hla : a.length ≤ 10000) (hlb : b.length ≤ 10000) :
    Calls Tryz.prog 44 #[u, v] w fun e w' => ∃ x r, e = .returned x ∧ Mg w' x r ∧ Sm r ∧ r.length ≤ max a.length b.length + 1 ∧ dv r = dv a + dv b ∧ Below w.heap.size w w' ∧ New w.heap.size x := by
  obtain ⟨A, c, rfl, h1, h2⟩ := hu.toC
  obtain ⟨A', c', rfl, h3, h4⟩ := hv.toC
  obtain ⟨k, r, hk, hr1, hr2, hr3⟩ := add_loop a b ha hb (by omega) (by omega) _ 0 [] 0 rfl (by omega) (by omega) rfl (.inl rfl) sm_nil
  have hk' : PmagAdd.spec_magAdd.f k a b = some r := hk
  have hl : r.length ≤ max a.length b.length + 1 := by simp at hr2; omega
  refine (PmagAdd.spec_magAdd.calls k A c a A' c' b r w h2 h1 h4 h3 hk').mono ?_
  rintro e w' ⟨x, rfl, hR, hB⟩
  obtain ⟨inner, ho⟩ := Kd.R_own hR
  refine ⟨x, r, rfl, ⟨Rd.ofR hR (by omega), Ty.own ho⟩, hr1, hl, ?_, hB, New.own ho⟩
  simpa [dv, bp] using hr3
/-- magCmp's loop, from a place down. -/
theorem cmp_loop (a b : List Int) (ha : Sm a) (hb : Sm b) (hl : a.length = b.length) (hla : a.length ≤ 100000) : ∀ (n : Nat), n ≤ a.length → a.drop n = b.drop n →
    ∃ k, PWideCmp.spec_magCmp.l0 k a b ((n : Int) - 1) = some (cmpI (dv a) (dv b)) := by
  intro n
  induction n with
  | zero =>
    intro _ he
    refine ⟨1, ?_⟩
    simp only [PWideCmp.spec_magCmp.l0]
    rw [if_neg (by omega)]
    simp only [List.drop_zero] at he
    rw [he]; simp [cmpI]
  | succ n ih =>
    intro hn he
    by_cases h1 : a.getD n 0 < b.getD n 0
    · refine ⟨1, ?_⟩
      have := dv_cmp ha hb hl (by omega) he h1
      simp only [PWideCmp.spec_magCmp.l0]
      rw [show ((n + 1 : Nat) : Int) - 1 = (n : Int) by omega, if_pos (by omega), if_pos (by omega), if_pos (by omega), if_pos (by omega), rdd, rdd, if_pos h1]
      simp [cmpI, this]
    · by_cases h2 : b.getD n 0 < a.getD n 0
      · refine ⟨1, ?_⟩
        have := dv_cmp hb ha hl.symm (by omega) he.symm h2
        simp only [PWideCmp.spec_magCmp.l0]
        rw [show ((n + 1 : Nat) : Int) - 1 = (n : Int) by omega, if_pos (by omega), if_pos (by omega), if_pos (by omega), if_pos (by omega), rdd, rdd, if_neg h1, if_pos h2]
        unfold cmpI
        rw [if_neg (by omega), if_pos this]
      · obtain ⟨k, hk⟩ := ih (by omega) (by rw [drop_get (show n < a.length by omega), drop_get (show n < b.length by omega), he, show a.getD n 0 = b.getD n 0 by omega])
        refine ⟨k + 1, ?_⟩
        simp only [PWideCmp.spec_magCmp.l0]
        rw [show ((n + 1 : Nat) : Int) - 1 = (n : Int) by omega, if_pos (by omega), if_pos (by omega), if_pos (by omega), if_pos (by omega), rdd, rdd, if_neg h1, if_neg (by omega), show wrap64 ((n : Int) - 1) = (n : Int) - 1 by unfold wrap64; omega]
        exact hk
theorem cmp_f (a b : List Int) (ha : Sm a) (hb : Sm b) (hta : Trim a) (htb : Trim b) (hla : a.length ≤ 100000) (hlb : b.length ≤ 100000) : ∃ k, PWideCmp.spec_magCmp.f k a b = some (cmpI (dv a) (dv b)) := by
  unfold PWideCmp.spec_magCmp.f
  by_cases h : a.length = b.length
  · obtain ⟨k, hk⟩ := cmp_loop a b ha hb h hla a.length (Nat.le_refl _) (by rw [List.drop_length, h, List.drop_length])
    refine ⟨k, ?_⟩
    rw [if_pos (by omega), show wrap64 ((a.length : Int) - 1) = (a.length : Int) - 1 by unfold wrap64; omega]
    exact hk
  · refine ⟨0, ?_⟩
    rw [if_neg (by omega)]
    by_cases h2 : a.length < b.length
    · rw [if_pos (by omega)]
      have := dv_len_lt ha hb htb h2
      unfold cmpI; rw [if_pos this]
    · rw [if_neg (by omega)]
      have := dv_len_lt hb ha hta (show b.length < a.length by omega)
      unfold cmpI; rw [if_neg (by omega), if_pos this]
theorem magCmp_any (w : World) (u v : Value) (a b : List Int) (hu : Rd .u32 w u a) (hv : Rd .u32 w v b) (ha : Sm a) (hb : Sm b) (hta : Trim a) (htb : Trim b) (hla : a.length ≤ 10000) (hlb : b.length ≤ 10000) :
    Calls Tryz.prog 34 #[u, v] w fun e w' => e = .returned (.int .i64 (cmpI (dv a) (dv b))) ∧ Below w.heap.size w w' := by
  obtain ⟨A, c, rfl, h1, h2⟩ := hu.toC
  obtain ⟨A', c', rfl, h3, h4⟩ := hv.toC
  obtain ⟨k, hk⟩ := cmp_f a b ha hb hta htb (by omega) (by omega)
  refine (PWideCmp.spec_magCmp.calls k A c a A' c' b _ w h2 h1 h4 h3 hk).mono ?_
  rintro e w' ⟨rfl, hD⟩
  exact ⟨rfl, below_drawn hD⟩
theorem wcmp_f (s t : Bool) (a b : List Int) (ha : Sm a) (hb : Sm b) (hta : Trim a) (htb : Trim b) (hsa : s = true → a ≠ []) (hsb : t = true → b ≠ []) (hla : a.length ≤ 100000) (hlb : b.length ≤ 100000) :
    ∃ k, PWideCmp.spec_WideCmp.f k s a t b = some (cmpI (wv s a) (wv t b)) := by
  obtain ⟨k, hk⟩ := cmp_f a b ha hb hta htb hla hlb
  have h1 := dv_nn ha
  have h2 := dv_nn hb
  refine ⟨k + 2, ?_⟩
  have hw : wrap64 (-cmpI (dv a) (dv b)) = -cmpI (dv a) (dv b) := by unfold cmpI wrap64; split <;> (try split) <;> decide
  cases s <;> cases t <;> simp only [PWideCmp.spec_WideCmp.f, PWideCmp.spec_WideCmp.j0, PWideCmp.spec_WideCmp.j1, hk, Option.bind_some, hw, Bool.not_true, Bool.not_false, if_true, if_false, wv, reduceIte, Bool.false_eq_true]
  · have := dv_pos hb htb (hsb rfl)
    unfold cmpI; rw [if_neg (by omega), if_pos (by omega)]
  · have := dv_pos ha hta (hsa rfl)
    unfold cmpI; rw [if_pos (by omega)]
  · congr 1
    unfold cmpI
    split <;> split <;> (try split) <;> (try split) <;> omega
theorem WideCmp_any (w : World) (u v : Value) (x y : Int) (hu : Wd w u x) (hv : Wd w v y) :
    Calls Tryz.prog 19 #[u, v] w fun e w' => e = .returned (.int .i64 (cmpI x y)) ∧ Below w.heap.size w w' := by
  obtain ⟨s, a, u, rfl, hu, ha, hta, hsa, rfl, hla⟩ := hu
  obtain ⟨t, b, v, rfl, hv, hb, htb, hsb, rfl, hlb⟩ := hv
  obtain ⟨A, c, rfl, h1, h2⟩ := hu.1.toC
  obtain ⟨A', c', rfl, h3, h4⟩ := hv.1.toC
  obtain ⟨k, hk⟩ := wcmp_f s t a b ha hb hta htb hsa hsb (by omega) (by omega)
  refine (PWideCmp.spec_WideCmp.calls k s A c a t A' c' b _ w h2 h1 h4 h3 hk).mono ?_
  rintro e w' ⟨rfl, hB⟩
  exact ⟨rfl, hB⟩
end Go.Proofs.YtfalicipocbcoaaGreatDoor
