/- Bytes at the edges, mixed by a mask: plain facts. What stands there when bytes are combined, the first and the last by masks: plain. What stands there when all lies within one byte: plain. The tables of masks. (YtjfbojmeccdchaaDoor) -/
import Derived.Deep.RegionHeld3
import Derived.Test.YtjfbojmeccdchaaDoorF7
import Derived.Test.YtjfbojmeccdchaaDoorF5
import Derived.Test.YtjfbojmeccdchaaDoorF3
set_option linter.unusedVariables false
set_option linter.unusedSimpArgs false
namespace Go.Proofs.YtjfbojmeccdchaaDoor
section
open Go
section
variable {P : Program} {ops : Array Oper} {Q : Exit → Act → World → Prop} {md : Region.Mode} {S : World → Prop} {k : Nat}
/-- As 'wpAnyH', but S is not asked behind operation k (the last one: a store into a cell that S names). -/
def wpAnyK (P : Program) (md : Region.Mode) (ops : Array Oper) (Q : Exit → Act → World → Prop) (S : World → Prop) (k : Nat) : Nat → Array Bool → Act → World → Prop
  | 0, listed, a, w => Region.ready md ops listed = [] ∧ Q .normal a w
  | fuel + 1, listed, a, w =>
    (Region.ready md ops listed = [] → Q .normal a w) ∧
    ∀ i ∈ Region.ready md ops listed, wpOp P ops Q i (fun a' w' => (i = k ∨ S w') ∧ wpAnyK P md ops Q S k fuel (listed.setIfInBounds i true) a' w') a w
theorem wpAny_of_K : ∀ (fuel : Nat) (listed : Array Bool) (a : Act) (w : World), wpAnyK P md ops Q S k fuel listed a w → wpAny P md ops Q fuel listed a w
  | 0, _, _, _, h => h
  | fuel + 1, _, _, _, h => ⟨h.1, fun i hi => wpOp_mono (fun a' w' h' => wpAny_of_K fuel _ a' w' h'.2) (h.2 i hi)⟩
/-- k waits on i. -/
def waitsOn (md : Region.Mode) (ops : Array Oper) (k i : Nat) : Bool := ((ops[k]?).map (·.after.any fun e => Region.binds md e && e.on == i)).getD false
theorem not_ready_of_waits {i : Nat} {listed : Array Bool} (hw : waitsOn md ops k i = true) (hi : i ∈ Region.ready md ops listed) : k ∉ Region.ready md ops listed := fun hk => by
  obtain ⟨_, o, ho, hall⟩ := mem_ready.1 hk
  unfold waitsOn at hw
  rw [ho] at hw
  simp only [Option.map_some, Option.getD_some, Array.any_eq_true] at hw
  obtain ⟨n, hn, he⟩ := hw
  simp only [Bool.and_eq_true, beq_iff_eq] at he
  have h1 := hall _ (Array.getElem_mem hn) he.1
  rw [he.2] at h1
  have h0 := (mem_ready.1 hi).1
  rcases Nat.lt_or_ge i listed.size with h' | h'
  · simp [h'] at h0 h1; rw [h0] at h1; cases h1
  · simp [Array.getElem?_eq_none h'] at h1
theorem wpAnyK_first {i : Nat} {oi : Oper} {v : Value} (hi : ops[i]? = some oi) (hsel : ∀ (j : Nat) (o : Oper) cs b, ops[j]? = some o → o.op ≠ .select cs b)
    (hQ : ∀ c a w, Q (.panic c) (a.put oi.dst v) w → Q (.panic c) a w) (hwt : waitsOn md ops k i = true) :
    ∀ (fuel : Nat) (listed : Array Bool) (a : Act) (w : World),
      (∀ j oj, ops[j]? = some oj → j ≠ i → listed.getD j true = false → (∀ e ∈ oj.after, Region.binds md e = true → e.on ≠ i) → oi.apart ops oj = true) →
      i ∈ Region.ready md ops listed → YieldsIf P ops S oi v a → S w →
      wpAnyK P md ops Q S k fuel (listed.setIfInBounds i true) (a.put oi.dst v) w → wpAnyK P md ops Q S k (fuel + 1) listed a w := by
  intro fuel
  induction fuel with
  | zero =>
    intro listed a w _ hr hy hS H
    refine ⟨fun h => (by rw [h] at hr; cases hr), fun j hj => ?_⟩
    by_cases hji : j = i
    · subst hji; exact hy.wpOp hi hS ⟨.inr hS, H⟩
    · have := ready_mono hj hji
      rw [H.1] at this
      cases this
  | succ fuel ih =>
    intro listed a w hfree hr hy hS H
    refine ⟨fun h => (by rw [h] at hr; cases hr), fun j hj => ?_⟩
    by_cases hji : j = i
    · subst hji; exact hy.wpOp hi hS ⟨.inr hS, H⟩
    · have hjk : j ≠ k := fun he => not_ready_of_waits hwt hr (he ▸ hj)
      have h1 := H.2 j (ready_mono hj hji)
      obtain ⟨hjun, oj, hoj, hall⟩ := mem_ready.1 hj
      have hnot : ∀ e ∈ oj.after, Region.binds md e = true → e.on ≠ i := fun e he hb heq => by
        have h1 := hall e he hb
        have h0 := (mem_ready.1 hr).1
        rw [heq] at h1
        rcases Nat.lt_or_ge i listed.size with h' | h'
        · simp [h'] at h0 h1; rw [h0] at h1; cases h1
        · simp [Array.getElem?_eq_none h'] at h1
      have h2 := wpOp_putIf hoj (hfree j oj hoj hji hjun hnot) (fun cs b => hsel i oi cs b hi) (fun cs b => hsel j oj cs b hoj) hQ hy h1
      have hfree' : ∀ m om, ops[m]? = some om → m ≠ i → (listed.setIfInBounds j true).getD m true = false →
          (∀ e ∈ om.after, Region.binds md e = true → e.on ≠ i) → oi.apart ops om = true := fun m om hom hmi hun hno => by
        refine hfree m om hom hmi ?_ hno
        by_cases hjm : j = m
        · subst hjm; exact hjun
        · rw [getD_set_ne true hjm] at hun; exact hun
      refine wpOp_mono (fun a' w' h3 => ⟨h3.2.1, ih (listed.setIfInBounds j true) a' w' hfree' (ready_mono hr (Ne.symm hji)) h3.1 (h3.2.1.resolve_left hjk) ?_⟩) h2
      rw [Array.setIfInBounds_comm _ _ hji]
      exact h3.2.2
theorem wpAnyK_take {i : Nat} {oi : Oper} {v : Value} {fuel : Nat} {listed : Array Bool} {a : Act} {w : World} (hi : ops[i]? = some oi)
    (hs : Region.noSelect ops = true) (hf : Region.free md ops listed i = true) (hr : (Region.ready md ops listed).contains i = true) (hwt : waitsOn md ops k i = true)
    (hQ : ∀ c a w, Q (.panic c) (a.put oi.dst v) w → Q (.panic c) a w) (hy : YieldsIf P ops S oi v a) (hS : S w)
    (h : wpAnyK P md ops Q S k fuel (listed.setIfInBounds i true) (a.put oi.dst v) w) : wpAnyK P md ops Q S k (fuel + 1) listed a w :=
  wpAnyK_first hi (Region.noSelect_spec hs) hQ hwt fuel listed a w (Region.free_spec hi hf) (by simpa using hr) hy hS h
/-- One alone may come up. -/
theorem wpAnyK_one {i : Nat} {o : Oper} {fuel : Nat} {listed : Array Bool} {a : Act} {w : World} (hr : Region.ready md ops listed = [i]) (ho : ops[i]? = some o)
    (h : ∀ K' : Act → World → Prop, Shut (∀ a w, S w → (S w → wpAnyK P md ops Q S k fuel (listed.setIfInBounds i true) a w) → K' a w) → if Region.wanted o (yielded ops a.tmps) = true then Oper.wp P o a w K' Q else K' (a.put o.dst undef) w) :
    wpAnyK P md ops Q S k (fuel + 1) listed a w :=
  ⟨fun h0 => by rw [h0] at hr; (cases hr), fun j hj => by
    rw [hr] at hj
    rcases List.mem_singleton.1 hj with rfl
    exact wpOp_step ho (fun K' hK => h K' (fun a w hS hW => hK a w ⟨.inr hS, hW hS⟩))⟩
/-- The last one. -/
theorem wpAnyK_end {o : Oper} {fuel : Nat} {listed : Array Bool} {a : Act} {w : World} (hr : Region.ready md ops listed = [k]) (ho : ops[k]? = some o)
    (h : ∀ K' : Act → World → Prop, Shut (∀ a w, wpAnyK P md ops Q S k fuel (listed.setIfInBounds k true) a w → K' a w) → if Region.wanted o (yielded ops a.tmps) = true then Oper.wp P o a w K' Q else K' (a.put o.dst undef) w) :
    wpAnyK P md ops Q S k (fuel + 1) listed a w :=
  ⟨fun h0 => by rw [h0] at hr; (cases hr), fun j hj => by
    rw [hr] at hj
    rcases List.mem_singleton.1 hj with rfl
    exact wpOp_step ho (fun K' hK => h K' (fun a w hW => hK a w ⟨.inl rfl, hW⟩))⟩
theorem wpAnyK_done {listed : Array Bool} {a : Act} {w : World} (hr : Region.ready md ops listed = []) (h : Q .normal a w) :
    ∀ fuel, wpAnyK P md ops Q S k fuel listed a w
  | 0 => ⟨hr, h⟩
  | _ + 1 => ⟨fun _ => h, by rw [hr]; simp⟩
theorem wp_region_K {id : Nat} {a : Act} {w : World} (hm : P.follows .mixedOrders = true) (hS : S w.drew)
    (h : S w.drew → wpAnyK P .any ops Q S k ops.size (Array.replicate ops.size false) a w.drew) : (Code.region id ops true).wp P Q a w :=
  wp_region_any hm (wpAny_of_K _ _ _ _ (h hS))
end
end
section
open Go.RowKit
theorem mixb_any (mk x y j : Nat) (hm : mk < 256) (hj : j < 8) : (mixb mk x y).testBit j = if mk.testBit j then x.testBit j else y.testBit j := by
  unfold mixb
  rw [Nat.testBit_or, Nat.testBit_and, Nat.testBit_and, tb_not8 mk j hm hj]
  cases mk.testBit j <;> simp
/-- the mask of the bits from e on (none where e is 0). -/
def trl (e : Nat) : Nat := if e = 0 then 0 else 256 - 2 ^ e
theorem trl_lt (e : Nat) : trl e < 256 := by
  unfold trl
  split
  · decide
  · have := Nat.two_pow_pos e; omega
theorem trl_tb (e j : Nat) (he : e < 8) (hj : j < 8) : (trl e).testBit j = (decide (e ≠ 0) && decide (e ≤ j)) := by
  unfold trl
  by_cases h0 : e = 0
  · subst h0; simp
  · have hp := pow_lt8 he
    have h1 := Nat.two_pow_pos e
    have e1 : 256 - 2 ^ e = 255 - (2 ^ e - 1) := by omega
    rw [if_neg h0, e1, tb_not8 _ _ (by omega) hj, Nat.testBit_two_pow_sub_one]
    by_cases c : e ≤ j
    · have : ¬ j < e := by omega
      simp [h0, c, this]
    · have : j < e := by omega
      simp [h0, c, this]
theorem prc_tb (s j : Nat) : (2 ^ s - 1).testBit j = decide (j < s) := Nat.testBit_two_pow_sub_one s j
end
section
open Go.RowKit
theorem bitAt_win (d : List Nat) (a m t : Nat) (ht : t < 8 * m) (h : a + m ≤ d.length) : bitAt ((d.drop a).take m) t = bitAt d (8 * a + t) := by
  unfold bitAt
  have e1 : (8 * a + t) / 8 = a + t / 8 := by omega
  have e2 : (8 * a + t) % 8 = t % 8 := by omega
  rw [e1, e2, List.getD_eq_getElem?_getD, List.getD_eq_getElem?_getD, List.getElem?_take_of_lt (by omega), List.getElem?_drop]
theorem byte_bit (d : List Nat) (a t : Nat) (ht : t < 8) : (d.getD a 0).testBit t = bitAt d (8 * a + t) := by
  unfold bitAt
  have e1 : (8 * a + t) / 8 = a := by omega
  have e2 : (8 * a + t) % 8 = t := by omega
  rw [e1, e2]
set_option maxHeartbeats 1000000 in
theorem aligned_two (op s q n nb A1 A2 : Nat) (d sb1 sb2 : List Nat) (l1 l2 : List Bool) (hD : Small d) (h1 : Small sb1) (h2 : Small sb2) (hs : s < 8) (hn : 0 < n) (hnb : nb = (s + n + 7) / 8) (hnb2 : 2 ≤ nb) (hfit : 8 * q + s + n ≤ 8 * d.length) (ha1 : A1 + nb ≤ sb1.length) (ha2 : A2 + nb ≤ sb2.length)
    (hl1 : ∀ j, j < n → l1.getD j false = bitAt sb1 (8 * A1 + s + j)) (hl2 : ∀ j, j < n → l2.getD j false = bitAt sb2 (8 * A2 + s + j)) :
    (alB op (d.set q (mixb (2 ^ s - 1) (d.getD q 0) (bOp op (sb1.getD A1 0) (sb2.getD A2 0)))) (q + 1) ((sb1.drop (A1 + 1)).take (nb - 2)) ((sb2.drop (A2 + 1)).take (nb - 2)) (nb - 2)).set (q + (nb - 1)) (mixb (trl ((s + n) % 8)) (d.getD (q + (nb - 1)) 0) (bOp op (sb1.getD (A1 + (nb - 1)) 0) (sb2.getD (A2 + (nb - 1)) 0)))
      = chgN d (8 * q + s) (cmbL op l1 l2 n) n := by
  have hq : q + nb ≤ d.length := by omega
  have b0 := bOp_lt op _ _ (h1.get A1) (h2.get A2)
  have b1 := bOp_lt op _ _ (h1.get (A1 + (nb - 1))) (h2.get (A2 + (nb - 1)))
  have hp := pow_lt8 hs
  have sx : Small ((sb1.drop (A1 + 1)).take (nb - 2)) := fun x hx => h1 x (List.mem_of_mem_drop (List.mem_of_mem_take hx))
  have sy : Small ((sb2.drop (A2 + 1)).take (nb - 2)) := fun x hx => h2 x (List.mem_of_mem_drop (List.mem_of_mem_take hx))
  have sd := hD.set q _ (mixb_lt (2 ^ s - 1) _ _ (hD.get q) b0)
  have sa := alB_small sd sx sy op (q + 1) (nb - 2)
  apply bytes_ext (by rw [List.length_set, alB_length, List.length_set, chgN_length]) (sa.set _ _ (mixb_lt _ _ _ (hD.get _) b1)) (chgN_small hD _ _ _)
  intro i hi
  rw [bitAt_chgN hD _ _ _ (by omega), bitAt_set _ _ _ _ (by rw [alB_length, List.length_set]; omega)]
  have hin : 8 * q + s ≤ i ∧ i < 8 * q + s + n → (cmbL op l1 l2 n).getD (i - (8 * q + s)) false = cmb op (bitAt sb1 (8 * A1 + (i - 8 * q))) (bitAt sb2 (8 * A2 + (i - 8 * q))) := fun c => by
    rw [cmbL_get _ _ _ _ _ (by omega), hl1 _ (by omega), hl2 _ (by omega)]
    have e1 : 8 * A1 + s + (i - (8 * q + s)) = 8 * A1 + (i - 8 * q) := by omega
    have e2 : 8 * A2 + s + (i - (8 * q + s)) = 8 * A2 + (i - 8 * q) := by omega
    rw [e1, e2]
  by_cases c1 : i / 8 = q + (nb - 1)
  · rw [if_pos c1, mixb_any _ _ _ _ (trl_lt _) (by omega), trl_tb _ _ (by omega) (by omega), byte_bit _ _ _ (by omega), bOp_tb op _ _ _ (h1.get _) (h2.get _) (by omega), byte_bit _ _ _ (by omega), byte_bit _ _ _ (by omega)]
    have e3 : 8 * (q + (nb - 1)) + i % 8 = i := by omega
    have e4 : 8 * (A1 + (nb - 1)) + i % 8 = 8 * A1 + (i - 8 * q) := by omega
    have e5 : 8 * (A2 + (nb - 1)) + i % 8 = 8 * A2 + (i - 8 * q) := by omega
    rw [e3, e4, e5]
    by_cases c : 8 * q + s ≤ i ∧ i < 8 * q + s + n
    · rw [if_pos c, hin c, if_neg (by simp; omega)]
    · rw [if_neg c, if_pos (by simp; omega)]
  · rw [if_neg c1, bitAt_alB sx sy op (q + 1) (nb - 2) (by rw [List.length_set]; omega)]
    by_cases c2 : 8 * (q + 1) ≤ i ∧ i < 8 * (q + 1 + (nb - 2))
    · rw [if_pos c2, if_pos (by omega), hin (by omega), bitAt_win _ _ _ _ (by omega) (by omega), bitAt_win _ _ _ _ (by omega) (by omega)]
      have e6 : 8 * (A1 + 1) + (i - 8 * (q + 1)) = 8 * A1 + (i - 8 * q) := by omega
      have e7 : 8 * (A2 + 1) + (i - 8 * (q + 1)) = 8 * A2 + (i - 8 * q) := by omega
      rw [e6, e7]
    · rw [if_neg c2, bitAt_set _ _ _ _ (by omega)]
      by_cases c3 : i / 8 = q
      · rw [if_pos c3, mixb_any _ _ _ _ (by omega) (by omega), prc_tb, byte_bit _ _ _ (by omega), bOp_tb op _ _ _ (h1.get _) (h2.get _) (by omega), byte_bit _ _ _ (by omega), byte_bit _ _ _ (by omega)]
        have e3 : 8 * q + i % 8 = i := by omega
        have e4 : 8 * A1 + i % 8 = 8 * A1 + (i - 8 * q) := by omega
        have e5 : 8 * A2 + i % 8 = 8 * A2 + (i - 8 * q) := by omega
        rw [e3, e4, e5]
        by_cases c : 8 * q + s ≤ i ∧ i < 8 * q + s + n
        · rw [if_pos c, hin c, if_neg (by simp; omega)]
        · rw [if_neg c, if_pos (by simp; omega)]
      · rw [if_neg c3, if_neg (by omega)]
end
section
open Go.RowKit
theorem aligned_one (op s q n A1 A2 : Nat) (d sb1 sb2 : List Nat) (l1 l2 : List Bool) (hD : Small d) (h1 : Small sb1) (h2 : Small sb2) (hs : s < 8) (hn : 0 < n) (hnb : s + n ≤ 8) (hfit : 8 * q + s + n ≤ 8 * d.length)
    (hl1 : ∀ j, j < n → l1.getD j false = bitAt sb1 (8 * A1 + s + j)) (hl2 : ∀ j, j < n → l2.getD j false = bitAt sb2 (8 * A2 + s + j)) :
    d.set q (mixb ((2 ^ s - 1) ||| trl ((s + n) % 8)) (d.getD q 0) (bOp op (sb1.getD A1 0) (sb2.getD A2 0))) = chgN d (8 * q + s) (cmbL op l1 l2 n) n := by
  have hp := pow_lt8 hs
  have hmk : (2 ^ s - 1) ||| trl ((s + n) % 8) < 256 := or_lt8 (by omega) (trl_lt _)
  apply bytes_ext (by rw [List.length_set, chgN_length]) (hD.set _ _ (mixb_lt _ _ _ (hD.get _) (bOp_lt op _ _ (h1.get _) (h2.get _)))) (chgN_small hD _ _ _)
  intro i hi
  rw [List.length_set] at hi
  rw [bitAt_chgN hD _ _ _ (by omega), bitAt_set _ _ _ _ (by omega)]
  by_cases c1 : i / 8 = q
  · rw [if_pos c1, mixb_any _ _ _ _ hmk (by omega), Nat.testBit_or, prc_tb, trl_tb _ _ (by omega) (by omega), byte_bit _ _ _ (by omega), bOp_tb op _ _ _ (h1.get _) (h2.get _) (by omega), byte_bit _ _ _ (by omega), byte_bit _ _ _ (by omega)]
    have e3 : 8 * q + i % 8 = i := by omega
    rw [e3]
    by_cases c : 8 * q + s ≤ i ∧ i < 8 * q + s + n
    · rw [if_pos c, if_neg (by simp; omega), cmbL_get _ _ _ _ _ (by omega), hl1 _ (by omega), hl2 _ (by omega)]
      have e1 : 8 * A1 + s + (i - (8 * q + s)) = 8 * A1 + i % 8 := by omega
      have e2 : 8 * A2 + s + (i - (8 * q + s)) = 8 * A2 + i % 8 := by omega
      rw [e1, e2]
    · rw [if_neg c, if_pos (by simp; omega)]
  · rw [if_neg c1, if_neg (by omega)]
end
section
open Go.ChangeShapes Go.WideShapes Go.ChangeAt Go.RowKit
def Prc (w : World) : Prop := ∀ i, i < 8 → w.cell? ⟨0, i, none⟩ = some (.int .u8 ((2 ^ i - 1 : Nat) : Int))
def Trl (w : World) : Prop := ∀ i, i < 8 → w.cell? ⟨1, i, none⟩ = some (.int .u8 ((256 - 2 ^ i : Nat) : Int))
theorem Prc.mod {w w' : World} {S : List Nat} (h : Prc w) (hm : Mod S w w') (hS : 0 ∉ S) : Prc w' := fun i hi => hm.cell (h i hi) hS
theorem Trl.mod {w w' : World} {S : List Nat} (h : Trl w) (hm : Mod S w w') (hS : 1 ∉ S) : Trl w' := fun i hi => hm.cell (h i hi) hS
/-- nothing is combined, within one byte. -/
theorem aligned_none (op s q A1 A2 : Nat) (d : List Nat) (l1 l2 : List Bool) (hD : Small d) (hs : s < 8) (h0 : s ≠ 0) (r : Nat) (hr : r < 256) (f : Nat) :
    d.set q (mixb ((2 ^ s - 1) ||| trl (s % 8)) (d.getD q 0) r) = chgN d f (cmbL op l1 l2 0) 0 := by
  have hp := pow_lt8 hs
  have hmk : (2 ^ s - 1) ||| trl (s % 8) < 256 := or_lt8 (by omega) (trl_lt _)
  have e : mixb ((2 ^ s - 1) ||| trl (s % 8)) (d.getD q 0) r = d.getD q 0 := by
    apply byte_ext (mixb_lt _ _ _ (hD.get _) hr) (hD.get _)
    intro j hj
    have e8 : s % 8 = s := by omega
    rw [mixb_any _ _ _ _ hmk hj, Nat.testBit_or, prc_tb, e8, trl_tb _ _ hs hj, if_pos (by simp; omega)]
  rw [e]
  show _ = d
  by_cases hq : q < d.length
  · rw [List.getD_eq_getElem?_getD, List.getElem?_eq_getElem hq]
    simp
  · rw [List.set_eq_of_length_le (by omega)]
theorem alB_far {m : List Nat} (op o : Nat) (x y : List Nat) : ∀ k, o + k ≤ m.length → ∀ j, o + k ≤ j → (alB op m o x y k).getD j 0 = m.getD j 0
  | 0, _, j, _ => rfl
  | k + 1, hk, j, hj => by
    rw [alB, getD_set _ _ _ _ (by rw [alB_length]; omega), if_neg (by omega), alB_far op o x y k (by omega) j (by omega)]
end
end Go.Proofs.YtjfbojmeccdchaaDoor
