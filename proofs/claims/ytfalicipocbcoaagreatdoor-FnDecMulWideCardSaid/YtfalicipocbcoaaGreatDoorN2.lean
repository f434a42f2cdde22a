/- 256 bits as an Int, two of them multiplied, and an Int as 256 bits. (YtfalicipocbcoaaGreatDoor) -/
import Derived.Test.YtfalicipocbcoaaGreatDoorN1
import Derived.Test.YtfalicipocbcoaaGreatDoorW14
import Derived.Lib.ItoaNum
import Derived.Laws.BitsAllLaws
import Derived.DeepKeys
set_option linter.unusedVariables false
set_option linter.unusedSimpArgs false
namespace Go.Proofs.YtfalicipocbcoaaGreatDoor
section
open Go.RowKit Go.ChangeShapes Go.WideShapes Go.ChangeAt Go
/-- An Int: its sign, its words and room for four. -/
def Big4 (w : World) (p G k : Nat) (s : Bool) (L : List Int) : Prop :=
  Blk w p 87 #[.bool s, .slice (some ⟨G, 0, none⟩) k 4] ∧ Blk w G 81 (ivs .u64 L).toArray ∧ L.length = 4 ∧ k ≤ 4 ∧ Sm64 L ∧ (0 < k → L.getD (k - 1) 0 ≠ 0)
theorem Big4.ne {w : World} {p G k : Nat} {s : Bool} {L : List Int} (h : Big4 w p G k s L) : p ≠ G := h.1.ne h.2.1 (by decide)
theorem Big4.mod {w w' : World} {S : List Nat} {p G k : Nat} {s : Bool} {L : List Int} (h : Big4 w p G k s L) (hm : Mod S w w') (h1 : p ∉ S) (h2 : G ∉ S) : Big4 w' p G k s L :=
  ⟨h.1.mod hm h1, h.2.1.mod hm h2, h.2.2⟩
theorem blk2 {w : World} {p : Nat} {t : TypeId} {a b : Value} (h : Blk w p t #[a, b]) : w.cell? ⟨p, 0, none⟩ = some a ∧ w.cell? ⟨p, 1, none⟩ = some b ∧ w.frozen? ⟨p, 0, none⟩ = false ∧ w.frozen? ⟨p, 1, none⟩ = false :=
  ⟨by have := h.cell 0; simpa using this, by have := h.cell 1; simpa using this, h.frozen 0, h.frozen 1⟩
theorem blk2_set1 {w : World} {p : Nat} {t : TypeId} {a b : Value} (h : Blk w p t #[a, b]) (v : Value) : Blk (w.setCell ⟨p, 1, none⟩ v) p t #[a, v] := by
  have := h.set 1 v; simpa using this
theorem blk2_set0 {w : World} {p : Nat} {t : TypeId} {a b : Value} (h : Blk w p t #[a, b]) (v : Value) : Blk (w.setCell ⟨p, 0, none⟩ v) p t #[v, b] := by
  have := h.set 0 v; simpa using this
def PSetB (w : World) (p G : Nat) (L : List Int) (e : Ending) (w' : World) : Prop :=
  ∃ k, e = .returned (.pointer (some ⟨p, 0, none⟩)) ∧ Big4 w' p G k false L ∧ uv (L.take k) = uv L ∧ Mod [p] w w'
set_option maxRecDepth 100000 in
set_option maxHeartbeats 2000000 in
theorem setBits_any (w : World) (p G : Nat) (a b : Value) (L : List Int) (hp : Blk w p 87 #[a, b]) (hG : Blk w G 81 (ivs .u64 L).toArray) (hl : L.length = 4) (hs : Sm64 L) :
    Calls Tryz.prog 46 #[.pointer (some ⟨p, 0, none⟩), .slice (some ⟨G, 0, none⟩) 4 4] w (PSetB w p G L) := by
  have hne : p ≠ G := hp.ne hG (by decide)
  have hN := hide (norm_any w G 4 4 L hG (by omega) (by omega) (by omega))
  have hC := hide (fun (W : World) (hm : Mod [] w W) => blk2 (hp.mod hm (by simp)))
  have hF := hide (fun (W : World) (j : Nat) (h1 : j ≤ 4) (h2 : uv (L.take j) = uv (L.take 4)) (h3 : 0 < j → L.getD (j - 1) 0 ≠ 0) (hm : Mod [] w W) =>
    (show PSetB w p G L (.returned (.pointer (some ⟨p, 0, none⟩))) ((W.setCell ⟨p, 1, none⟩ (.slice (some ⟨G, 0, none⟩) j 4)).setCell ⟨p, 0, none⟩ (.bool false)) from
      ⟨j, rfl, ⟨blk2_set0 (blk2_set1 (hp.mod hm (by simp)) _) _, ((hG.mod hm (by simp)).other (Ne.symm hne) _).other (Ne.symm hne) _, hl, h1, hs, h3⟩, by rw [h2, ← hl, List.take_length], ((hm.any [p]).setCell (.inl (by simp)) _).setCell (.inl (by simp)) _⟩))
  clear hp hG
  go_enter Tryz.func46, Tryz.ntmps46
  go_wp2_with (first | (go_at_call 51; (with_reducible refine (unhide hN).mono ?_); rintro e w1 ⟨j, rfl, h1, h2, h3, h4⟩; obtain ⟨c0, c1, f0, f1⟩ := unhide hC w1 h4) | fail)
  go_ret
  exact unhide hF w1 j h1 h2 h3 h4
def PBig (w : World) (s : Bool) (m : Int) (e : Ending) (w' : World) : Prop :=
  ∃ p G k L, e = .returned (.pointer (some ⟨p, 0, none⟩)) ∧ Big4 w' p G k s L ∧ uv (L.take k) = m ∧ w.heap.size ≤ p ∧ w.heap.size ≤ G ∧ Mod [] w w'
set_option maxRecDepth 100000 in
set_option maxHeartbeats 2000000 in
theorem toBig_any (w : World) (a b c d : Int) (hs : Sm64 [a, b, c, d]) :
    Calls Tryz.prog 36 #[.agg #[.int .u64 a, .int .u64 b, .int .u64 c, .int .u64 d]] w (PBig w false (uv [a, b, c, d])) := by
  have hS : Calls Tryz.prog 46 #[.pointer (some ⟨w.heap.size + 1, 0, none⟩), .slice (some ⟨w.heap.size + 1 + 1, 0, none⟩) 4 4] (((w.alloc (.cells #[.int .u64 a, .int .u64 b, .int .u64 c, .int .u64 d] 44)).alloc (.cells #[.bool false, .slice none 0 0] 87)).alloc (.cells #[.int .u64 a, .int .u64 b, .int .u64 c, .int .u64 d] 81)) (PBig w false (uv [a, b, c, d])) := by
    refine (setBits_any _ (w.heap.size + 1) (w.heap.size + 1 + 1) (.bool false) (.slice none 0 0) [a, b, c, d] ((Blk.new 87 _ (by simp)).alloc _) (Blk.new 81 _ (by simp)) rfl hs).mono ?_
    rintro e w' ⟨k, rfl, h1, h2, h3⟩
    exact ⟨_, _, k, _, rfl, h1, h2, by omega, by omega, (((((Mod.refl [] w).alloc _).alloc _).alloc _).trans h3 (by simp))⟩
  replace hS := hide hS
  clear hs
  go_enter Tryz.func36, Tryz.ntmps36
  go_wp2_with (first | (go_at_call 46; (with_reducible refine (unhide hS).mono ?_); rintro e w1 ⟨p, G, k, L, rfl, h1, h2, h3, h4, h5⟩) | fail)
  go_ret
  exact ⟨p, G, k, L, rfl, h1, h2, h3, h4, h5⟩
end
section
open Go.RowKit Go.ChangeShapes Go.WideShapes Go.ChangeAt Go
/-- v lies in the bits of t, and is no less. -/
def Qs (t v : Int) : Prop := t ≤ v ∧ 0 ≤ t ∧ v < 18446744073709551616 ∧ ∀ m : Nat, m ≤ 64 → t < 2 ^ m → v < 2 ^ m
theorem Qs.or {t v : Int} (h : Qs t v) (d : Int) (hd : 1 ≤ d) : Qs t (bits .or .u64 v (v / d)) := by
  obtain ⟨h1, h2, h3, h4⟩ := h
  obtain ⟨n, rfl⟩ : ∃ n : Nat, v = (n : Int) := ⟨v.toNat, by omega⟩
  obtain ⟨k, rfl⟩ : ∃ k : Nat, d = (k : Int) := ⟨d.toNat, by omega⟩
  have e1 : (n : Int) / (k : Int) = ((n / k : Nat) : Int) := by simp
  have hle : n / k ≤ n := Nat.div_le_self _ _
  rw [e1, u64_or_nat n (n / k) (by omega) (by omega)]
  have hge : n ≤ n ||| n / k := Nat.left_le_or
  have hm : ∀ m : Nat, n < 2 ^ m → (n ||| n / k) < 2 ^ m := fun m hm => Nat.or_lt_two_pow hm (by omega)
  have h64 : (18446744073709551616 : Nat) = 2 ^ 64 := by decide
  refine ⟨by omega, h2, by have := hm 64 (by omega); omega, fun m hm1 hm2 => ?_⟩
  have h5 := h4 m hm1 hm2
  have e2 : ((2 ^ m : Nat) : Int) = (2 : Int) ^ m := by simp
  rw [← e2] at h5 ⊢
  have := hm m (by omega)
  omega
theorem Qs.len {t v : Int} (h : Qs t v) (h0 : 0 < t) : 1 ≤ Lib.bitLen v.toNat ∧ Lib.bitLen v.toNat ≤ 64 ∧ ∀ m : Nat, m ≤ 64 → t < 2 ^ m → Lib.bitLen v.toNat ≤ m := by
  obtain ⟨h1, h2, h3, h4⟩ := h
  have hb := Lib.bitLenAux_bounds 64 v.toNat (by omega) (by omega)
  have hm : ∀ m : Nat, m ≤ 64 → t < 2 ^ m → Lib.bitLen v.toNat ≤ m := fun m hm1 hm2 => by
    have h5 := h4 m hm1 hm2
    have e2 : ((2 ^ m : Nat) : Int) = (2 : Int) ^ m := by simp
    rw [← e2] at h5
    rcases Nat.lt_or_ge m (Lib.bitLen v.toNat) with h6 | h6
    · exfalso
      have h7 : 2 ^ m ≤ 2 ^ (Lib.bitLenAux 64 v.toNat - 1) := Nat.pow_le_pow_right (by decide) (by unfold Lib.bitLen at h6; omega)
      have h8 := hb.2.1
      omega
    · exact h6
  exact ⟨hb.1, hm 64 (Nat.le_refl _) (by omega), hm⟩
def PLen (w : World) (k : Nat) (t : Int) (e : Ending) (w' : World) : Prop :=
  ∃ b : Nat, e = .returned (.int .i64 (b : Int)) ∧ (k = 0 → b = 0) ∧ (0 < k → 1 ≤ b ∧ b ≤ (k - 1) * 64 + 64 ∧ ∀ m : Nat, m ≤ 64 → t < 2 ^ m → b ≤ (k - 1) * 64 + m) ∧ w' = w
set_option maxRecDepth 100000 in
set_option maxHeartbeats 2000000 in
theorem bitLen_any (w : World) (G k c : Nat) (L : List Int) (hG : Blk w G 81 (ivs .u64 L).toArray) (hl : L.length ≤ 100) (hk : k ≤ L.length) (hs : Sm64 L) (hn : 0 < k → L.getD (k - 1) 0 ≠ 0) :
    Calls Tryz.prog 48 #[.slice (some ⟨G, 0, none⟩) k c] w (PLen w k (L.getD (k - 1) 0)) := by
  rcases Nat.eq_zero_or_pos k with rfl | h0
  · go_enter Tryz.func48, Tryz.ntmps48
    go_wp2_with fail
    go_ret
    exact ⟨0, rfl, fun _ => rfl, fun h => absurd h (by omega), rfl⟩
  · have cG := ivs_cell hG (k - 1) (by omega)
    obtain ⟨g1, g2⟩ := sm64_get hs (k - 1)
    have g3 := hn h0
    generalize L.getD (k - 1) 0 = t at *
    have hq : Qs t (bits .or .u64 _ _) := Qs.or (Qs.or (Qs.or (Qs.or (Qs.or (Qs.or (⟨Int.le_refl t, g1, g2, fun _ _ h => h⟩ : Qs t t) 2 (by decide)) 4 (by decide)) 16 (by decide)) 256 (by decide)) 65536 (by decide)) 4294967296 (by decide)
    have hb := hq.len (by omega)
    obtain ⟨q1, q2, q3, q4⟩ := hq
    have hfin := hide (fun (b : Nat) (h1 : 1 ≤ b) (h2 : b ≤ 64) (h3 : ∀ m : Nat, m ≤ 64 → t < 2 ^ m → b ≤ m) => (show PLen w k t (.returned (.int .i64 ((((k - 1 : Nat) : Int)) * 64 + (b : Int)))) w from
      ⟨(k - 1) * 64 + b, by congr 2 <;> omega, fun h => absurd h (by omega), fun _ => ⟨by omega, by omega, fun m hm1 hm2 => by have := h3 m hm1 hm2; omega⟩, rfl⟩))
    clear hG
    have z1 : IntKind.i64.wrap ((k : Int) - 1) = ((k - 1 : Nat) : Int) := ((IntWalk.i64_left _).trans (IntWalk.wrap64_in _ (by omega))).trans (by omega)
    have z2 : (0 : Int) ≤ ((k - 1 : Nat) : Int) := by omega
    have z3 : k - 1 < k := by omega
    have z4 : ∀ v : Int, v / 65536 / 65536 = v / 4294967296 := fun v => by omega
    have z5 : ∀ b : Nat, b ≤ 64 → IntKind.i64.wrap (IntKind.i64.wrap (((k - 1 : Nat) : Int) * 64) + (b : Int)) = ((k - 1 : Nat) : Int) * 64 + (b : Int) := fun b hb => by
      rw [show IntKind.i64.wrap (((k - 1 : Nat) : Int) * 64) = ((k - 1 : Nat) : Int) * 64 from (IntWalk.i64_left _).trans (IntWalk.wrap64_in _ (by omega))]
      exact (IntWalk.i64_left _).trans (IntWalk.wrap64_in _ (by omega))
    replace hb := hide hb
    replace q4 := hide q4
    replace z5 := hide z5
    go_enter Tryz.func48, Tryz.ntmps48
    go_wp2_with fail
    generalize bits .or .u64 (bits .or .u64 (bits .or .u64 (bits .or .u64 (bits .or .u64 (bits .or .u64 t (t / 2)) (bits .or .u64 t (t / 2) / 4)) _) _) _) _ = v at q1 q2 q3 q4 hb ⊢
    refine (len_any v w (by omega) (by omega)).mono ?_
    rintro e w1 ⟨rfl, rfl⟩
    obtain ⟨b1, b2, b3⟩ := unhide hb
    have z6 := unhide z5 (Lib.bitLen v.toNat) b2
    replace hb := hide b3
    clear b3
    generalize Lib.bitLen v.toNat = b at *
    go_wp2_with fail
    go_ret
    exact unhide hfin b b1 b2 (unhide hb)
end
section
open Go.RowKit Go.ChangeShapes Go.WideShapes Go.ChangeAt Go
theorem neq62_eq (w : World) (a : Addr) : (binOp .neq 62 (.pointer (some a)) (.pointer (some a))).run Tryz.prog w = .ok (.bool false) w := by
  rcases hi : Tryz.prog.info? 87 with _ | i0
  · have := info87; rw [hi] at this; cases this
  · have h : ∀ d : Nat, (Op.equalIn (d + 1) 62 (.pointer (some a)) (.pointer (some a))).run Tryz.prog w = .ok true w := fun d => by
      simp [Op.equalIn, run_underlying under62, sizeOf, typeInfo, hi, run_sameAddr_same]
    simp only [binOp]
    simp [Op.equal, Op.maxDepth, h 9999]
theorem iset_any (w : World) (p : Nat) :
    Calls Tryz.prog 47 #[.pointer (some ⟨p, 0, none⟩), .pointer (some ⟨p, 0, none⟩)] w fun e w' => e = .returned (.pointer (some ⟨p, 0, none⟩)) ∧ w' = w := by
  have hE := neq62_eq w ⟨p, 0, none⟩
  go_enter Tryz.func47, Tryz.ntmps47
  go_wp2_with fail
  go_ret
  exact ⟨rfl, rfl⟩
def PNegI (w : World) (p G k : Nat) (L : List Int) (e : Ending) (w' : World) : Prop :=
  e = .returned (.pointer (some ⟨p, 0, none⟩)) ∧ Big4 w' p G k (decide (0 < k)) L ∧ Mod [p] w w'
theorem negI_fin {w : World} {p G k : Nat} {L : List Int} (h : Big4 w p G k false L) (b : Bool) (hb : b = decide (0 < k)) :
    PNegI w p G k L (.returned (.pointer (some ⟨p, 0, none⟩))) (w.setCell ⟨p, 0, none⟩ (.bool b)) := by
  subst hb
  have hne := h.ne
  obtain ⟨h1, h2, h3⟩ := h
  exact ⟨rfl, ⟨blk2_set0 h1 _, h2.other (Ne.symm hne) _, h3⟩, (Mod.refl _ w).setCell (by simp) _⟩
set_option maxRecDepth 100000 in
theorem negI_any (w : World) (p G k : Nat) (L : List Int) (h : Big4 w p G k false L) :
    Calls Tryz.prog 38 #[.pointer (some ⟨p, 0, none⟩), .pointer (some ⟨p, 0, none⟩)] w (PNegI w p G k L) := by
  have hF := hide (negI_fin h)
  obtain ⟨c0, c1, f0, f1⟩ := blk2 h.1
  clear h
  rcases Nat.eq_zero_or_pos k with rfl | h0
  · go_enter Tryz.func38, Tryz.ntmps38
    go_wp2_with (first | (go_at_call 47; (with_reducible refine (iset_any w p).mono ?_); rintro e w1 ⟨rfl, rfl⟩) | fail)
    go_ret
    exact unhide hF false (by simp)
  · have h0' : (0 : Int) < (k : Int) := by omega
    go_enter Tryz.func38, Tryz.ntmps38
    go_wp2_with (first | (go_at_call 47; (with_reducible refine (iset_any w p).mono ?_); rintro e w1 ⟨rfl, rfl⟩) | fail)
    go_ret
    exact unhide hF true (by simp [h0])
end
section
open Go.RowKit Go.ChangeShapes Go.WideShapes Go.ChangeAt Go
theorem or1 (x : Int) (h0 : -9223372036854775808 ≤ x) (h1 : x < 9223372036854775808) : bits .or .i64 1 (x / 9223372036854775808) = if x < 0 then -1 else 1 := by
  by_cases h : x < 0
  · rw [show x / 9223372036854775808 = -1 by omega, if_pos h]; decide
  · rw [show x / 9223372036854775808 = 0 by omega, if_neg h]; decide
def PSg (w : World) (neg : Prop) (e : Ending) (w' : World) : Prop := ∃ s : Int, e = .returned (.int .i64 s) ∧ (s < 0 ↔ neg) ∧ Below w.heap.size w w'
theorem wf64 {a : Int} (h0 : 0 ≤ a) (h1 : a < 18446744073709551616) : (Lit.int .u64 a).wf = true := by
  simp [Lit.wf, IntKind.min, IntKind.max, IntKind.signed, IntKind.bits]; omega
theorem arr_lits (a b c d : Int) (hs : Sm64 [a, b, c, d]) : Tryz.prog.keyLits 5 42 [.int .u64 a, .int .u64 b, .int .u64 c, .int .u64 d] = some [Lit.int .u64 a, .int .u64 b, .int .u64 c, .int .u64 d] := by
  have hA4 : Tryz.prog.underlying 42 = some (.array 4 23) := by kernel_rfl
  have hU6 : Tryz.prog.underlying 23 = some (.int .u64) := by kernel_rfl
  have cA4 : Tryz.prog.cellsOf 42 = 4 := by kernel_rfl
  have cU6 : Tryz.prog.cellsOf 23 = 1 := by kernel_rfl
  have wa := wf64 (hs a (by simp)).1 (hs a (by simp)).2
  have wb := wf64 (hs b (by simp)).1 (hs b (by simp)).2
  have wc := wf64 (hs c (by simp)).1 (hs c (by simp)).2
  have wd := wf64 (hs d (by simp)).1 (hs d (by simp)).2
  simp [Program.keyLits, hA4, hU6, cA4, cU6, wa, wb, wc, wd, List.range, List.range.loop]
theorem arr_eq (w : World) (a b c d : Int) (hs : Sm64 [a, b, c, d]) : ∃ r : Bool, (Op.equalIn 9999 42 (.agg #[.int .u64 a, .int .u64 b, .int .u64 c, .int .u64 d]) (.agg #[.int .u64 0, .int .u64 0, .int .u64 0, .int .u64 0])).run Tryz.prog w = .ok r w ∧ (r = true ↔ [Lit.int .u64 a, .int .u64 b, .int .u64 c, .int .u64 d] = [Lit.int .u64 0, .int .u64 0, .int .u64 0, .int .u64 0]) :=
  run_equalIn_deep (P := Tryz.prog) 9997 2 42 (by kernel_rfl) w 5 5 (.agg #[.int .u64 a, .int .u64 b, .int .u64 c, .int .u64 d]) (.agg #[.int .u64 0, .int .u64 0, .int .u64 0, .int .u64 0]) [Lit.int .u64 a, .int .u64 b, .int .u64 c, .int .u64 d] [Lit.int .u64 0, .int .u64 0, .int .u64 0, .int .u64 0] (by kernel_rfl) (by kernel_rfl) (arr_lits a b c d hs) (arr_lits 0 0 0 0 (by intro x hx; simp at hx; omega))
theorem arr_eq2 (a b c d : Int) (hs : Sm64 [a, b, c, d]) : ∃ z : Bool, (z = true → d = 0) ∧ ∀ W : World, (Op.equalIn 9999 42 (.agg #[.int .u64 a, .int .u64 b, .int .u64 c, .int .u64 d]) (.agg #[.int .u64 0, .int .u64 0, .int .u64 0, .int .u64 0])).run Tryz.prog W = .ok z W := by
  refine ⟨(a == 0 && b == 0 && c == 0 && d == 0), fun h => by simp at h; exact h.2, fun W => ?_⟩
  obtain ⟨r, h1, h2⟩ := arr_eq W a b c d hs
  have e : r = (a == 0 && b == 0 && c == 0 && d == 0) := by
    rw [Bool.eq_iff_iff, h2]
    simp [and_assoc]
  rw [e] at h1
  exact h1
set_option maxRecDepth 100000 in
set_option maxHeartbeats 2000000 in
theorem sign256_any (w : World) (a b c d : Int) (hs : Sm64 [a, b, c, d]) : Calls Tryz.prog 35 #[.agg #[.int .u64 a, .int .u64 b, .int .u64 c, .int .u64 d]] w (PSg w (9223372036854775808 ≤ d)) := by
  obtain ⟨h0, h1⟩ := hs d (by simp)
  have ho := or1 (wrap64 d) (by unfold wrap64; omega) (by unfold wrap64; omega)
  have hneg : wrap64 d < 0 ↔ 9223372036854775808 ≤ d := by unfold wrap64; omega
  obtain ⟨z, hz, hE⟩ := arr_eq2 a b c d hs
  have hfin := hide (fun (W : World) (s : Int) (hs : s < 0 ↔ 9223372036854775808 ≤ d) (h : Below w.heap.size w W) => (show PSg w (9223372036854775808 ≤ d) (.returned (.int .i64 s)) W from ⟨s, rfl, hs, h⟩))
  cases z with
  | true =>
    have HZ := hide (hz rfl)
    clear hz ho hneg h0 h1
    go_enter Tryz.func35, Tryz.ntmps35
    go_wp2
    go_returns
    exact (unhide hfin) _ _ (by rw [unhide HZ]; constructor <;> intro h <;> omega) (by repeat' (first | (with_reducible exact Below.refl _ _) | (with_reducible refine Below.setCell ?_ ?_ _) | (with_reducible refine bdrewN ?_ _) | (with_reducible refine bdrew ?_) | (with_reducible refine Below.alloc ?_ ?_ _) | exact Nat.le_refl _ | (simp; done)))
  | false =>
    clear hz
    by_cases hn : wrap64 d < 0
    · rw [if_pos hn] at ho
      have HN := hide (hneg.1 hn)
      clear hn hneg h0 h1
      go_enter Tryz.func35, Tryz.ntmps35
      go_wp2
      all_goals first | (exfalso; simp_all; done) | (go_returns; exact (unhide hfin) _ _ (by have := unhide HN; constructor <;> intro h <;> omega) (by repeat' (first | (with_reducible exact Below.refl _ _) | (with_reducible refine Below.setCell ?_ ?_ _) | (with_reducible refine bdrewN ?_ _) | (with_reducible refine bdrew ?_) | (with_reducible refine Below.alloc ?_ ?_ _) | exact Nat.le_refl _ | (simp; done))))
    · rw [if_neg hn] at ho
      have HN := hide (fun h => hn (hneg.2 h))
      clear hn hneg h0 h1
      go_enter Tryz.func35, Tryz.ntmps35
      go_wp2
      all_goals first | (exfalso; simp_all; done) | (go_returns; exact (unhide hfin) _ _ ⟨fun h => by omega, fun h => absurd h (unhide HN)⟩ (by repeat' (first | (with_reducible exact Below.refl _ _) | (with_reducible refine Below.setCell ?_ ?_ _) | (with_reducible refine bdrewN ?_ _) | (with_reducible refine bdrew ?_) | (with_reducible refine Below.alloc ?_ ?_ _) | exact Nat.le_refl _ | (simp; done))))
end
section
open Go.RowKit Go.ChangeShapes Go.WideShapes Go.ChangeAt Go
theorem blk4 {w : World} {g : Nat} {t : TypeId} {a b c d : Value} (h : Blk w g t #[a, b, c, d]) :
    w.cell? ⟨g, 0, none⟩ = some a ∧ w.cell? ⟨g, 1, none⟩ = some b ∧ w.cell? ⟨g, 2, none⟩ = some c ∧ w.cell? ⟨g, 3, none⟩ = some d ∧ w.frozen? ⟨g, 0, none⟩ = false ∧ w.frozen? ⟨g, 1, none⟩ = false ∧ w.frozen? ⟨g, 2, none⟩ = false ∧ w.frozen? ⟨g, 3, none⟩ = false :=
  ⟨by have := h.cell 0; simpa using this, by have := h.cell 1; simpa using this, by have := h.cell 2; simpa using this, by have := h.cell 3; simpa using this, h.frozen 0, h.frozen 1, h.frozen 2, h.frozen 3⟩
def PBi (w : World) (x : Int) (e : Ending) (w' : World) : Prop :=
  ∃ p G k s L, e = .returned (.pointer (some ⟨p, 0, none⟩)) ∧ Big4 w' p G k s L ∧ (if s then -uv (L.take k) else uv (L.take k)) = x ∧ w.heap.size ≤ p ∧ w.heap.size ≤ G ∧ Below w.heap.size w w'
theorem sv_neg {a b c d : Int} (hs : Sm64 [a, b, c, d]) (h : 9223372036854775808 ≤ d) : uv (negl [a, b, c, d] 1) = -sv [a, b, c, d] ∧ 0 < -sv [a, b, c, d] := by
  rw [negl_sv hs (n := 4) rfl, twos_uv]
  have h1 := hs a (by simp)
  have h2 := hs b (by simp)
  have h3 := hs c (by simp)
  have h4 := hs d (by simp)
  have e : sv [a, b, c, d] = uv [a, b, c, d] - 115792089237316195423570985008687907853269984665640564039457584007913129639936 := by
    have : d / 9223372036854775808 = 1 := by omega
    simp [sv, this]
  have e2 : uv [a, b, c, d] = a + 18446744073709551616 * (b + 18446744073709551616 * (c + 18446744073709551616 * (d + 18446744073709551616 * 0))) := rfl
  have e3 : wb 4 = 115792089237316195423570985008687907853269984665640564039457584007913129639936 := by decide
  rw [e3, e, e2]
  omega
theorem sv_pos {a b c d : Int} (hs : Sm64 [a, b, c, d]) (h : ¬ 9223372036854775808 ≤ d) : uv [a, b, c, d] = sv [a, b, c, d] := by
  have h4 := hs d (by simp)
  have : ¬ d / 9223372036854775808 = 1 := by omega
  simp [sv, this]
theorem pbi_pos {w w1 w2 : World} {x : Int} {e : Ending} (hb : Below w.heap.size w w1) (h : PBig w1 false x e w2) : PBi w x e w2 := by
  obtain ⟨p, G, k, L, rfl, h1, h2, h3, h4, h5⟩ := h
  have := hb.size
  exact ⟨p, G, k, false, L, rfl, h1, h2, by omega, by omega, below_tr hb h5.below (by omega)⟩
theorem pbi_neg {w w1 w2 w3 : World} {x : Int} {p G k : Nat} {L : List Int} {e : Ending} (hx : 0 < -x) (hb : Below w.heap.size w w1) (h1 : Big4 w2 p G k false L) (h2 : uv (L.take k) = -x) (h3 : w1.heap.size ≤ p) (h4 : w1.heap.size ≤ G) (h5 : Mod [] w1 w2)
    (h : PNegI w2 p G k L e w3) : PBi w x e w3 := by
  obtain ⟨rfl, g1, g2⟩ := h
  have := hb.size
  have hk : 0 < k := by
    rcases Nat.eq_zero_or_pos k with rfl | h0
    · simp [uv] at h2; omega
    · exact h0
  refine ⟨p, G, k, _, L, rfl, g1, by simp [hk]; omega, by omega, by omega, below_tr hb ?_ (by omega)⟩
  exact (h5.trans g2 (by simp; omega)).below
set_option maxRecDepth 100000 in
set_option maxHeartbeats 2000000 in
theorem bigInt_any (w : World) (a b c d : Int) (hs : Sm64 [a, b, c, d]) :
    Calls Tryz.prog 24 #[.agg #[.int .u64 a, .int .u64 b, .int .u64 c, .int .u64 d]] w (PBi w (sv [a, b, c, d])) := by
  have hS := hide (sign256_any (w.alloc (.cells #[.int .u64 a, .int .u64 b, .int .u64 c, .int .u64 d] 44)) a b c d hs)
  have hK := hide (fun (W : World) (h : Below (w.alloc (.cells #[.int .u64 a, .int .u64 b, .int .u64 c, .int .u64 d] 44)).heap.size (w.alloc (.cells #[.int .u64 a, .int .u64 b, .int .u64 c, .int .u64 d] 44)) W) =>
    (⟨blk4 ((Blk.new 44 #[.int .u64 a, .int .u64 b, .int .u64 c, .int .u64 d] rfl).below h), below_tr ((Below.refl w.heap.size w).alloc (Nat.le_refl _) _) h (by simp)⟩ : _ ∧ Below w.heap.size w W))
  by_cases hn : 9223372036854775808 ≤ d
  · obtain ⟨he, hx⟩ := sv_neg hs hn
    have hN := hide (fun (W : World) => neg256_any W a b c d hs)
    have hT := hide (fun (W : World) (a' b' c' d' : Int) (h : negl [a, b, c, d] 1 = [a', b', c', d']) => toBig_any W a' b' c' d' (by rw [← h, negl_sv hs (n := 4) rfl]; exact twos_sm _ _))
    have hF := hide (fun (w1 w2 w3 w4 : World) (a' b' c' d' : Int) (p G k : Nat) (L : List Int) (e : Ending) (h : negl [a, b, c, d] 1 = [a', b', c', d']) (hb1 : Below w.heap.size w w1) (hb2 : Below w1.heap.size w1 w2) (h1 : Big4 w3 p G k false L) (h2 : uv (L.take k) = uv [a', b', c', d']) (h3 : w2.heap.size ≤ p) (h4 : w2.heap.size ≤ G) (h5 : Mod [] w2 w3) (h6 : PNegI w3 p G k L e w4) =>
      pbi_neg (w := w) (e := e) hx (below_tr hb1 hb2 hb1.size) h1 (by rw [h2, ← h, he]) h3 h4 h5 h6)
    replace hn := hide hn
    clear he hx hs
    go_enter Tryz.func24, Tryz.ntmps24
    go_wp2_with (first
      | (go_at_call 35; (with_reducible refine (unhide hS).mono ?_); rintro e w1 ⟨s, rfl, hsg, hb1⟩; replace hsg := hsg.2 (unhide hn); obtain ⟨⟨c0, c1, c2, c3, _⟩, hb2⟩ := unhide hK w1 hb1)
      | (go_at_call 37; (with_reducible refine (unhide hN w1).mono ?_); rintro e w2 ⟨a', b', c', d', rfl, hl, hb3⟩)
      | (go_at_call 36; (with_reducible refine (unhide hT w2 a' b' c' d' hl).mono ?_); rintro e w3 ⟨p, G, k, L, rfl, h1, h2, h3, h4, h5⟩)
      | (go_at_call 38; (with_reducible refine (negI_any w3 p G k L h1).mono ?_); rintro e w4 ⟨rfl, g1, g2⟩)
      | fail)
    go_ret
    exact unhide hF w1 w2 w3 w4 a' b' c' d' p G k L _ hl hb2 hb3 h1 h2 h3 h4 h5 ⟨rfl, g1, g2⟩
  · have he := sv_pos hs hn
    have hT := hide (fun (W : World) => toBig_any W a b c d hs)
    rw [he] at hT
    have hF := hide (fun (w1 w2 : World) (e : Ending) (hb : Below w.heap.size w w1) (h : PBig w1 false (sv [a, b, c, d]) e w2) => pbi_pos hb h)
    replace hn := hide hn
    clear he hs
    go_enter Tryz.func24, Tryz.ntmps24
    go_wp2_with (first
      | (go_at_call 35; (with_reducible refine (unhide hS).mono ?_); rintro e w1 ⟨s, rfl, hsg, hb1⟩; replace hsg : ¬ s < 0 := fun h => unhide hn (hsg.1 h); obtain ⟨⟨c0, c1, c2, c3, _⟩, hb2⟩ := unhide hK w1 hb1)
      | (go_at_call 36; (with_reducible refine (unhide hT w1).mono ?_); rintro e w3 ⟨p, G, k, L, rfl, h1, h2, h3, h4, h5⟩)
      | fail)
    go_ret
    exact unhide hF w1 w3 _ hb2 ⟨p, G, k, L, rfl, h1, h2, h3, h4, h5⟩
end
section
open Go.RowKit Go.ChangeShapes Go.WideShapes Go.ChangeAt Go
/-- an Int whose number is x. -/
def BigIs (w : World) (p : Nat) (x : Int) : Prop := ∃ s v m, Blk w p 87 #[.bool s, v] ∧ NatIs w v m ∧ x = if s then -m else m
theorem NatIs.other {w : World} {v : Value} {x : Int} {p : Nat} (h : NatIs w v x) {cs : Array Value} (hp : Blk w p 87 cs) (i : Nat) (u : Value) : NatIs (w.setCell ⟨p, i, none⟩ u) v x := by
  obtain ⟨G, k, c, L, h1, h2, h3⟩ := h
  exact ⟨G, k, c, L, h1, h2.other (h2.ne hp (by decide)) _, h3⟩
theorem NatIs.drew {w : World} {v : Value} {x : Int} (h : NatIs w v x) : NatIs w.drew v x := h
theorem NatIs.form {w : World} {v : Value} {x : Int} (h : NatIs w v x) : ∃ A n c, v = .slice (some ⟨A, 0, none⟩) n c ∧ NatIs w (.slice (some ⟨A, 0, none⟩) n c) x := by
  obtain ⟨G, k, c, L, rfl, h2⟩ := h
  exact ⟨G, k, c, rfl, G, k, c, L, rfl, h2⟩
def PMulI (w : World) (p G : Nat) (x : Int) (e : Ending) (w' : World) : Prop := e = .returned (.tuple #[]) ∧ BigIs w' p x ∧ Mod [p, G] w w'
theorem sgn_mul (s1 s2 : Bool) (a b : Int) : (if s1 then -a else a) * (if s2 then -b else b) = if (s1 != s2) then -(a * b) else a * b := by
  cases s1 <;> cases s2 <;> simp [Int.neg_mul, Int.mul_neg]
theorem imul_last {w W : World} {p1 p2 G1 A nA cA : Nat} {s1 s2 : Bool} {v1 v2 : Value} {m1 m2 : Int} (hb : Blk w p1 87 #[.bool s1, v1]) (hd : Blk w p2 87 #[.bool s2, v2]) (hp : p1 ≠ p2)
    (hv : NatIs W (.slice (some ⟨A, 0, none⟩) nA cA) (m1 * m2)) (hm : Mod [G1] w.drew W) (n1 : p1 ≠ G1) (n2 : p2 ≠ G1) :
    (∀ b : Bool, b = (decide (0 < nA) && (s1 != s2)) → PMulI w p1 G1 ((if s1 then -m1 else m1) * (if s2 then -m2 else m2)) (.returned (.tuple #[])) ((W.setCell ⟨p1, 1, none⟩ (.slice (some ⟨A, 0, none⟩) nA cA)).setCell ⟨p1, 0, none⟩ (.bool b)).drew) ∧
    ((W.setCell ⟨p1, 1, none⟩ (.slice (some ⟨A, 0, none⟩) nA cA)).frozen? ⟨p1, 0, none⟩ = false) ∧
    ((W.setCell ⟨p1, 1, none⟩ (.slice (some ⟨A, 0, none⟩) nA cA)).cell? ⟨p1, 0, none⟩ = some (.bool s1) ∧ (W.setCell ⟨p1, 1, none⟩ (.slice (some ⟨A, 0, none⟩) nA cA)).cell? ⟨p1, 1, none⟩ = some (.slice (some ⟨A, 0, none⟩) nA cA) ∧ (W.setCell ⟨p1, 1, none⟩ (.slice (some ⟨A, 0, none⟩) nA cA)).cell? ⟨p2, 0, none⟩ = some (.bool s2)) := by
  have hb1 := blk2_set1 (hb.drew.mod hm (by simpa using n1)) (.slice (some ⟨A, 0, none⟩) nA cA)
  have hd1 := (hd.drew.mod hm (by simpa using n2)).other (a := ⟨p1, 1, none⟩) (Ne.symm hp) (.slice (some ⟨A, 0, none⟩) nA cA)
  obtain ⟨q0, q1, q2, _⟩ := blk2 hb1
  refine ⟨fun b h => ⟨rfl, ⟨b, _, m1 * m2, blk2_set0 hb1 (.bool b), ((hv.other (hb.drew.mod hm (by simpa using n1)) 1 _).other hb1 0 _).drew, ?_⟩, ?_⟩, q2, q0, q1, (blk2 hd1).1⟩
  · rw [sgn_mul, h]
    rcases Nat.eq_zero_or_pos nA with rfl | h0
    · obtain ⟨G, k, c, L, e1, e2, _, _, _, _, e3, _⟩ := hv
      simp only [Value.slice.injEq] at e1
      obtain ⟨_, rfl, _⟩ := e1
      have : m1 * m2 = 0 := by rw [← e3]; rfl
      rw [this]; simp
    · simp [h0]
  · exact (((((Mod.refl [p1, G1] w).drew.trans hm (by simp)).setCell (by simp) _).setCell (by simp) _)).drew
set_option maxRecDepth 100000 in
set_option maxHeartbeats 4000000 in
theorem imul_any (w : World) (p1 G1 k1 p2 G2 k2 : Nat) (s1 s2 : Bool) (L1 L2 : List Int) (h1 : Big4 w p1 G1 k1 s1 L1) (h2 : Big4 w p2 G2 k2 s2 L2) (hp : p1 ≠ p2) (hg : G1 ≠ G2) (hK : w.cell? ⟨2, 0, none⟩ = some (.int .i64 40)) :
    Calls Tryz.prog 42 #[.pointer (some ⟨p1, 0, none⟩), .pointer none, .pointer (some ⟨p1, 0, none⟩), .pointer (some ⟨p2, 0, none⟩)] w
      (PMulI w p1 G1 ((if s1 then -uv (L1.take k1) else uv (L1.take k1)) * (if s2 then -uv (L2.take k2) else uv (L2.take k2)))) := by
  have hE := eq62_ne (i := 0) (j := 0) h1.1 h2.1 hp
  have n1 := h1.1.ne h1.2.1 (by decide)
  have n2 := h2.1.ne h1.2.1 (by decide)
  obtain ⟨b1, b2, b3, b4, b5, b6⟩ := h1
  obtain ⟨d1, d2, d3, d4, d5, d6⟩ := h2
  have hN := hide (nm_any w.drew G1 G2 k1 k2 L1 L2 b2.drew d2.drew hg (by simpa using hK) b4 d4 b3 d3 b5 d5 b6 d6)
  obtain ⟨c0, c1, f0, f1⟩ := blk2 b1
  obtain ⟨y0, y1, _, _⟩ := blk2 d1
  go_enter Tryz.func42, Tryz.ntmps42
  go_upto_region 3 with (fail)
  have hSw := hide (fun (W : World) (v : Value) (hv : NatIs W v (uv (L1.take k1) * uv (L2.take k2))) (hm : Mod [G1] w.drew W) =>
    (⟨hm.cell (p := ⟨p1, 1, none⟩) (v := .slice (some ⟨G1, 0, none⟩) k1 4) (by simpa using c1) (by simpa using n1), hm.cell (p := ⟨p2, 1, none⟩) (v := .slice (some ⟨G2, 0, none⟩) k2 4) (by simpa using y1) (by simpa using n2)⟩ : W.cell? ⟨p1, 1, none⟩ = some (.slice (some ⟨G1, 0, none⟩) k1 4) ∧ W.cell? ⟨p2, 1, none⟩ = some (.slice (some ⟨G2, 0, none⟩) k2 4)))
  have hL := hide (fun (W : World) (A nA cA : Nat) (hv : NatIs W (.slice (some ⟨A, 0, none⟩) nA cA) (uv (L1.take k1) * uv (L2.take k2))) (hm : Mod [G1] w.drew W) =>
    imul_last (s1 := s1) (s2 := s2) b1 d1 hp hv hm (by simpa using n1) (by simpa using n2))
  have hFz := hide (fun (W : World) (hm : Mod [G1] w.drew W) => (b1.drew.mod hm (by simpa using n1)).frozen 1)
  clear b1 b2 d1 d2
  refine wp_region_K (S := fun W => W.cell? ⟨p1, 1, none⟩ = some (.slice (some ⟨G1, 0, none⟩) k1 4) ∧ W.cell? ⟨p2, 1, none⟩ = some (.slice (some ⟨G2, 0, none⟩) k2 4)) (k := 17) (by kernel_rfl) ⟨by simpa using c1, by simpa using y1⟩ (fun hHeld => ?_)
  refine wpAnyK_take (i := 0) (oi := _) (v := ?_) rfl (by kernel_rfl) (by kernel_rfl) (by kernel_rfl) (by kernel_rfl) (fun _ _ _ h => h) (Or.inl ⟨by rfl, ?_⟩) (by assumption) ?_
  rotate_left
  · intro w hSw; (try dsimp only at hSw); go_simp; (try with_reducible rfl)
  try simp only [Act.put, List.setIfInBounds_toArray, List.set_cons_zero, List.set_cons_succ]
  refine wpAnyK_take (i := 1) (oi := _) (v := ?_) rfl (by kernel_rfl) (by kernel_rfl) (by kernel_rfl) (by kernel_rfl) (fun _ _ _ h => h) (Or.inl ⟨by rfl, ?_⟩) (by assumption) ?_
  rotate_left
  · intro w hSw; (try dsimp only at hSw); go_simp; (try with_reducible rfl)
  try simp only [Act.put, List.setIfInBounds_toArray, List.set_cons_zero, List.set_cons_succ]
  refine wpAnyK_take (i := 2) (oi := _) (v := ?_) rfl (by kernel_rfl) (by kernel_rfl) (by kernel_rfl) (by kernel_rfl) (fun _ _ _ h => h) (Or.inl ⟨by rfl, ?_⟩) (by assumption) ?_
  rotate_left
  · intro w hSw; (try dsimp only at hSw); go_simp; (try with_reducible rfl)
  try simp only [Act.put, List.setIfInBounds_toArray, List.set_cons_zero, List.set_cons_succ]
  refine wpAnyK_take (i := 3) (oi := _) (v := ?_) rfl (by kernel_rfl) (by kernel_rfl) (by kernel_rfl) (by kernel_rfl) (fun _ _ _ h => h) (Or.inl ⟨by rfl, ?_⟩) (by assumption) ?_
  rotate_left
  · intro w hSw; (try dsimp only at hSw); go_simp; (try with_reducible rfl)
  try simp only [Act.put, List.setIfInBounds_toArray, List.set_cons_zero, List.set_cons_succ]
  refine wpAnyK_take (i := 4) (oi := _) (v := ?_) rfl (by kernel_rfl) (by kernel_rfl) (by kernel_rfl) (by kernel_rfl) (fun _ _ _ h => h) (Or.inl ⟨by rfl, ?_⟩) (by assumption) ?_
  rotate_left
  · intro w hSw; (try dsimp only at hSw); go_simp; (try with_reducible rfl)
  try simp only [Act.put, List.setIfInBounds_toArray, List.set_cons_zero, List.set_cons_succ]
  refine wpAnyK_take (i := 5) (oi := _) (v := ?_) rfl (by kernel_rfl) (by kernel_rfl) (by kernel_rfl) (by kernel_rfl) (fun _ _ _ h => h) (Or.inl ⟨by rfl, ?_⟩) (by assumption) ?_
  rotate_left
  · intro w hSw; (try dsimp only at hSw); go_simp; (try with_reducible rfl)
  try simp only [Act.put, List.setIfInBounds_toArray, List.set_cons_zero, List.set_cons_succ]
  refine wpAnyK_take (i := 6) (oi := _) (v := ?_) rfl (by kernel_rfl) (by kernel_rfl) (by kernel_rfl) (by kernel_rfl) (fun _ _ _ h => h) (Or.inl ⟨by rfl, ?_⟩) (by assumption) ?_
  rotate_left
  · intro w hSw; (try dsimp only at hSw); go_simp; (try with_reducible rfl)
  try simp only [Act.put, List.setIfInBounds_toArray, List.set_cons_zero, List.set_cons_succ]
  refine wpAnyK_take (i := 7) (oi := _) (v := ?_) rfl (by kernel_rfl) (by kernel_rfl) (by kernel_rfl) (by kernel_rfl) (fun _ _ _ h => h) (Or.inl ⟨by rfl, ?_⟩) (by assumption) ?_
  rotate_left
  · intro w hSw; (try dsimp only at hSw); go_simp; (try with_reducible rfl)
  try simp only [Act.put, List.setIfInBounds_toArray, List.set_cons_zero, List.set_cons_succ]
  refine wpAnyK_take (i := 8) (oi := _) (v := ?_) rfl (by kernel_rfl) (by kernel_rfl) (by kernel_rfl) (by kernel_rfl) (fun _ _ _ h => h) (Or.inl ⟨by rfl, ?_⟩) (by assumption) ?_
  rotate_left
  · intro w hSw; (try dsimp only at hSw); go_simp; (try with_reducible rfl)
  try simp only [Act.put, List.setIfInBounds_toArray, List.set_cons_zero, List.set_cons_succ]
  refine wpAnyK_take (i := 9) (oi := _) (v := ?_) rfl (by kernel_rfl) (by kernel_rfl) (by kernel_rfl) (by kernel_rfl) (fun _ _ _ h => h) (Or.inl ⟨by rfl, ?_⟩) (by assumption) ?_
  rotate_left
  · intro w hSw; (try dsimp only at hSw); go_simp; (try with_reducible rfl)
  try simp only [Act.put, List.setIfInBounds_toArray, List.set_cons_zero, List.set_cons_succ]
  refine wpAnyK_take (i := 10) (oi := _) (v := ?_) rfl (by kernel_rfl) (by kernel_rfl) (by kernel_rfl) (by kernel_rfl) (fun _ _ _ h => h) (Or.inl ⟨by rfl, ?_⟩) (by assumption) ?_
  rotate_left
  · intro w hSw; (try dsimp only at hSw); go_simp; (try with_reducible rfl)
  try simp only [Act.put, List.setIfInBounds_toArray, List.set_cons_zero, List.set_cons_succ]
  refine wpAnyK_take (i := 11) (oi := _) (v := ?_) rfl (by kernel_rfl) (by kernel_rfl) (by kernel_rfl) (by kernel_rfl) (fun _ _ _ h => h) (Or.inl ⟨by rfl, ?_⟩) (by assumption) ?_
  rotate_left
  · intro w hSw; (try dsimp only at hSw); go_simp; (try with_reducible rfl)
  try simp only [Act.put, List.setIfInBounds_toArray, List.set_cons_zero, List.set_cons_succ]
  refine wpAnyK_take (i := 12) (oi := _) (v := ?_) rfl (by kernel_rfl) (by kernel_rfl) (by kernel_rfl) (by kernel_rfl) (fun _ _ _ h => h) (Or.inl ⟨by rfl, ?_⟩) (by assumption) ?_
  rotate_left
  · intro w hSw; (try dsimp only at hSw); go_simp; (try with_reducible rfl)
  try simp only [Act.put, List.setIfInBounds_toArray, List.set_cons_zero, List.set_cons_succ]
  refine wpAnyK_take (i := 13) (oi := _) (v := ?_) rfl (by kernel_rfl) (by kernel_rfl) (by kernel_rfl) (by kernel_rfl) (fun _ _ _ h => h) (Or.inl ⟨by rfl, ?_⟩) (by assumption) ?_
  rotate_left
  · intro w hSw; (try dsimp only at hSw); go_simp; (try with_reducible rfl)
  try simp only [Act.put, List.setIfInBounds_toArray, List.set_cons_zero, List.set_cons_succ]
  refine wpAnyK_one (i := 14) (o := _) (by kernel_rfl) rfl (fun K hK => ?_)
  go_simp
  ((go_at_call 50; (with_reducible refine (unhide hN).mono ?_); rintro e w1 ⟨v, rfl, hv, hm⟩; obtain ⟨A, nA, cA, rfl, hv⟩ := hv.form; have fz := unhide hFz w1 hm); go_wp2_with fail)
  refine hK.out _ _ (unhide hSw w1 _ hv hm) (fun hHeld => ?_)
  clear hK K
  refine wpAnyK_one (i := 15) (o := _) (by kernel_rfl) rfl (fun K hK => ?_)
  go_simp
  (skip; go_wp2_with fail)
  refine hK.out _ _ (by assumption) (fun hHeld => ?_)
  clear hK K
  refine wpAnyK_one (i := 16) (o := _) (by kernel_rfl) rfl (fun K hK => ?_)
  go_simp
  (skip; go_wp2_with fail)
  refine hK.out _ _ (by assumption) (fun hHeld => ?_)
  clear hK K
  refine wpAnyK_end (o := _) (by kernel_rfl) rfl (fun K hK => ?_)
  go_simp
  refine hK.out _ _ ?_
  clear hK K
  refine wpAnyK_done (by kernel_rfl) ?_ _
  obtain ⟨hm0, hf0, hb0⟩ := unhide hL w1 A nA cA hv hm
  clear hHeld hv hm
  generalize w1.setCell ⟨p1, 1, none⟩ (.slice (some ⟨A, 0, none⟩) nA cA) = w2 at *
  go_upto_region 4 with (fail)
  obtain ⟨c0, c1, y0⟩ := hb0
  have hfz := hf0
  clear hE hN hFz hSw hf0 n1 n2 fz
  generalize ((if s1 then -uv (L1.take k1) else uv (L1.take k1)) * (if s2 then -uv (L2.take k2) else uv (L2.take k2))) = X at hm0 ⊢
  rcases Nat.eq_zero_or_pos nA with rfl | hA
  · refine wp_region_K (S := fun W => W = w2.drew) (k := 20) (by kernel_rfl) rfl (fun hHeld => ?_)
    refine wpAnyK_take (i := 0) (oi := _) (v := ?_) rfl (by kernel_rfl) (by kernel_rfl) (by kernel_rfl) (by kernel_rfl) (fun _ _ _ h => h) (Or.inl ⟨by rfl, ?_⟩) (by assumption) ?_
    rotate_left
    · intro w hSw; (try dsimp only at hSw); (try subst hSw); go_simp; (try with_reducible rfl)
    simp only [Act.put, List.getElem_toArray, List.getElem_cons_zero, List.getElem_cons_succ, List.setIfInBounds_toArray, List.set_cons_zero, List.set_cons_succ]
    refine wpAnyK_take (i := 1) (oi := _) (v := ?_) rfl (by kernel_rfl) (by kernel_rfl) (by kernel_rfl) (by kernel_rfl) (fun _ _ _ h => h) (Or.inl ⟨by rfl, ?_⟩) (by assumption) ?_
    rotate_left
    · intro w hSw; (try dsimp only at hSw); (try subst hSw); go_simp; (try with_reducible rfl)
    simp only [Act.put, List.getElem_toArray, List.getElem_cons_zero, List.getElem_cons_succ, List.setIfInBounds_toArray, List.set_cons_zero, List.set_cons_succ]
    refine wpAnyK_take (i := 2) (oi := _) (v := ?_) rfl (by kernel_rfl) (by kernel_rfl) (by kernel_rfl) (by kernel_rfl) (fun _ _ _ h => h) (Or.inl ⟨by rfl, ?_⟩) (by assumption) ?_
    rotate_left
    · intro w hSw; (try dsimp only at hSw); (try subst hSw); go_simp; (try with_reducible rfl)
    simp only [Act.put, List.getElem_toArray, List.getElem_cons_zero, List.getElem_cons_succ, List.setIfInBounds_toArray, List.set_cons_zero, List.set_cons_succ]
    refine wpAnyK_take (i := 3) (oi := _) (v := ?_) rfl (by kernel_rfl) (by kernel_rfl) (by kernel_rfl) (by kernel_rfl) (fun _ _ _ h => h) (Or.inl ⟨by rfl, ?_⟩) (by assumption) ?_
    rotate_left
    · intro w hSw; (try dsimp only at hSw); (try subst hSw); go_simp; (try with_reducible rfl)
    simp only [Act.put, List.getElem_toArray, List.getElem_cons_zero, List.getElem_cons_succ, List.setIfInBounds_toArray, List.set_cons_zero, List.set_cons_succ]
    refine wpAnyK_take (i := 4) (oi := _) (v := ?_) rfl (by kernel_rfl) (by kernel_rfl) (by kernel_rfl) (by kernel_rfl) (fun _ _ _ h => h) (Or.inl ⟨by rfl, ?_⟩) (by assumption) ?_
    rotate_left
    · intro w hSw; (try dsimp only at hSw); (try subst hSw); go_simp; (try with_reducible rfl)
    simp only [Act.put, List.getElem_toArray, List.getElem_cons_zero, List.getElem_cons_succ, List.setIfInBounds_toArray, List.set_cons_zero, List.set_cons_succ]
    refine wpAnyK_take (i := 5) (oi := _) (v := ?_) rfl (by kernel_rfl) (by kernel_rfl) (by kernel_rfl) (by kernel_rfl) (fun _ _ _ h => h) (Or.inl ⟨by rfl, ?_⟩) (by assumption) ?_
    rotate_left
    · intro w hSw; (try dsimp only at hSw); (try subst hSw); go_simp; (try with_reducible rfl)
    simp only [Act.put, List.getElem_toArray, List.getElem_cons_zero, List.getElem_cons_succ, List.setIfInBounds_toArray, List.set_cons_zero, List.set_cons_succ]
    refine wpAnyK_take (i := 6) (oi := _) (v := ?_) rfl (by kernel_rfl) (by kernel_rfl) (by kernel_rfl) (by kernel_rfl) (fun _ _ _ h => h) (Or.inl ⟨by rfl, ?_⟩) (by assumption) ?_
    rotate_left
    · intro w hSw; (try dsimp only at hSw); (try subst hSw); go_simp; (try with_reducible rfl)
    simp only [Act.put, List.getElem_toArray, List.getElem_cons_zero, List.getElem_cons_succ, List.setIfInBounds_toArray, List.set_cons_zero, List.set_cons_succ]
    refine wpAnyK_take (i := 7) (oi := _) (v := ?_) rfl (by kernel_rfl) (by kernel_rfl) (by kernel_rfl) (by kernel_rfl) (fun _ _ _ h => h) (Or.inl ⟨by rfl, ?_⟩) (by assumption) ?_
    rotate_left
    · intro w hSw; (try dsimp only at hSw); (try subst hSw); go_simp; (try with_reducible rfl)
    simp only [Act.put, List.getElem_toArray, List.getElem_cons_zero, List.getElem_cons_succ, List.setIfInBounds_toArray, List.set_cons_zero, List.set_cons_succ]
    refine wpAnyK_take (i := 8) (oi := _) (v := undef) rfl (by kernel_rfl) (by kernel_rfl) (by kernel_rfl) (by kernel_rfl) (fun _ _ _ h => h) (Or.inr ⟨by rfl, rfl⟩) (by assumption) ?_
    simp only [Act.put, List.getElem_toArray, List.getElem_cons_zero, List.getElem_cons_succ, List.setIfInBounds_toArray, List.set_cons_zero, List.set_cons_succ]
    refine wpAnyK_take (i := 9) (oi := _) (v := undef) rfl (by kernel_rfl) (by kernel_rfl) (by kernel_rfl) (by kernel_rfl) (fun _ _ _ h => h) (Or.inr ⟨by rfl, rfl⟩) (by assumption) ?_
    simp only [Act.put, List.getElem_toArray, List.getElem_cons_zero, List.getElem_cons_succ, List.setIfInBounds_toArray, List.set_cons_zero, List.set_cons_succ]
    refine wpAnyK_take (i := 10) (oi := _) (v := undef) rfl (by kernel_rfl) (by kernel_rfl) (by kernel_rfl) (by kernel_rfl) (fun _ _ _ h => h) (Or.inr ⟨by rfl, rfl⟩) (by assumption) ?_
    simp only [Act.put, List.getElem_toArray, List.getElem_cons_zero, List.getElem_cons_succ, List.setIfInBounds_toArray, List.set_cons_zero, List.set_cons_succ]
    refine wpAnyK_take (i := 11) (oi := _) (v := undef) rfl (by kernel_rfl) (by kernel_rfl) (by kernel_rfl) (by kernel_rfl) (fun _ _ _ h => h) (Or.inr ⟨by rfl, rfl⟩) (by assumption) ?_
    simp only [Act.put, List.getElem_toArray, List.getElem_cons_zero, List.getElem_cons_succ, List.setIfInBounds_toArray, List.set_cons_zero, List.set_cons_succ]
    refine wpAnyK_take (i := 12) (oi := _) (v := undef) rfl (by kernel_rfl) (by kernel_rfl) (by kernel_rfl) (by kernel_rfl) (fun _ _ _ h => h) (Or.inr ⟨by rfl, rfl⟩) (by assumption) ?_
    simp only [Act.put, List.getElem_toArray, List.getElem_cons_zero, List.getElem_cons_succ, List.setIfInBounds_toArray, List.set_cons_zero, List.set_cons_succ]
    refine wpAnyK_take (i := 13) (oi := _) (v := undef) rfl (by kernel_rfl) (by kernel_rfl) (by kernel_rfl) (by kernel_rfl) (fun _ _ _ h => h) (Or.inr ⟨by rfl, rfl⟩) (by assumption) ?_
    simp only [Act.put, List.getElem_toArray, List.getElem_cons_zero, List.getElem_cons_succ, List.setIfInBounds_toArray, List.set_cons_zero, List.set_cons_succ]
    refine wpAnyK_take (i := 14) (oi := _) (v := undef) rfl (by kernel_rfl) (by kernel_rfl) (by kernel_rfl) (by kernel_rfl) (fun _ _ _ h => h) (Or.inr ⟨by rfl, rfl⟩) (by assumption) ?_
    simp only [Act.put, List.getElem_toArray, List.getElem_cons_zero, List.getElem_cons_succ, List.setIfInBounds_toArray, List.set_cons_zero, List.set_cons_succ]
    refine wpAnyK_take (i := 15) (oi := _) (v := undef) rfl (by kernel_rfl) (by kernel_rfl) (by kernel_rfl) (by kernel_rfl) (fun _ _ _ h => h) (Or.inr ⟨by rfl, rfl⟩) (by assumption) ?_
    simp only [Act.put, List.getElem_toArray, List.getElem_cons_zero, List.getElem_cons_succ, List.setIfInBounds_toArray, List.set_cons_zero, List.set_cons_succ]
    refine wpAnyK_take (i := 16) (oi := _) (v := undef) rfl (by kernel_rfl) (by kernel_rfl) (by kernel_rfl) (by kernel_rfl) (fun _ _ _ h => h) (Or.inr ⟨by rfl, rfl⟩) (by assumption) ?_
    simp only [Act.put, List.getElem_toArray, List.getElem_cons_zero, List.getElem_cons_succ, List.setIfInBounds_toArray, List.set_cons_zero, List.set_cons_succ]
    refine wpAnyK_take (i := 17) (oi := _) (v := ?_) rfl (by kernel_rfl) (by kernel_rfl) (by kernel_rfl) (by kernel_rfl) (fun _ _ _ h => h) (Or.inl ⟨by rfl, ?_⟩) (by assumption) ?_
    rotate_left
    · intro w hSw; (try dsimp only at hSw); (try subst hSw); go_simp; (try with_reducible rfl)
    simp only [Act.put, List.getElem_toArray, List.getElem_cons_zero, List.getElem_cons_succ, List.setIfInBounds_toArray, List.set_cons_zero, List.set_cons_succ]
    refine wpAnyK_one (i := 18) (o := _) (by kernel_rfl) rfl (fun K hK => ?_)
    go_simp
    (skip; go_wp2_with fail)
    refine hK.out _ _ (rfl) (fun hHeld => ?_)
    clear hK K
    refine wpAnyK_one (i := 19) (o := _) (by kernel_rfl) rfl (fun K hK => ?_)
    go_simp
    (skip; go_wp2_with fail)
    refine hK.out _ _ (rfl) (fun hHeld => ?_)
    clear hK K
    refine wpAnyK_end (o := _) (by kernel_rfl) rfl (fun K hK => ?_)
    go_simp
    refine hK.out _ _ ?_
    clear hK K
    refine wpAnyK_done (by kernel_rfl) ?_ _
    go_wp2_with fail
    go_returns
    exact hm0 false (by simp)
  · have hA' : (0 : Int) < (nA : Int) := by omega
    refine wp_region_K (S := fun W => W = w2.drew) (k := 20) (by kernel_rfl) rfl (fun hHeld => ?_)
    refine wpAnyK_take (i := 0) (oi := _) (v := ?_) rfl (by kernel_rfl) (by kernel_rfl) (by kernel_rfl) (by kernel_rfl) (fun _ _ _ h => h) (Or.inl ⟨by rfl, ?_⟩) (by assumption) ?_
    rotate_left
    · intro w hSw; (try dsimp only at hSw); (try subst hSw); go_simp; (try with_reducible rfl)
    simp only [Act.put, List.getElem_toArray, List.getElem_cons_zero, List.getElem_cons_succ, List.setIfInBounds_toArray, List.set_cons_zero, List.set_cons_succ]
    refine wpAnyK_take (i := 1) (oi := _) (v := ?_) rfl (by kernel_rfl) (by kernel_rfl) (by kernel_rfl) (by kernel_rfl) (fun _ _ _ h => h) (Or.inl ⟨by rfl, ?_⟩) (by assumption) ?_
    rotate_left
    · intro w hSw; (try dsimp only at hSw); (try subst hSw); go_simp; (try with_reducible rfl)
    simp only [Act.put, List.getElem_toArray, List.getElem_cons_zero, List.getElem_cons_succ, List.setIfInBounds_toArray, List.set_cons_zero, List.set_cons_succ]
    refine wpAnyK_take (i := 2) (oi := _) (v := ?_) rfl (by kernel_rfl) (by kernel_rfl) (by kernel_rfl) (by kernel_rfl) (fun _ _ _ h => h) (Or.inl ⟨by rfl, ?_⟩) (by assumption) ?_
    rotate_left
    · intro w hSw; (try dsimp only at hSw); (try subst hSw); go_simp; (try with_reducible rfl)
    simp only [Act.put, List.getElem_toArray, List.getElem_cons_zero, List.getElem_cons_succ, List.setIfInBounds_toArray, List.set_cons_zero, List.set_cons_succ]
    refine wpAnyK_take (i := 3) (oi := _) (v := ?_) rfl (by kernel_rfl) (by kernel_rfl) (by kernel_rfl) (by kernel_rfl) (fun _ _ _ h => h) (Or.inl ⟨by rfl, ?_⟩) (by assumption) ?_
    rotate_left
    · intro w hSw; (try dsimp only at hSw); (try subst hSw); go_simp; (try with_reducible rfl)
    simp only [Act.put, List.getElem_toArray, List.getElem_cons_zero, List.getElem_cons_succ, List.setIfInBounds_toArray, List.set_cons_zero, List.set_cons_succ]
    refine wpAnyK_take (i := 4) (oi := _) (v := ?_) rfl (by kernel_rfl) (by kernel_rfl) (by kernel_rfl) (by kernel_rfl) (fun _ _ _ h => h) (Or.inl ⟨by rfl, ?_⟩) (by assumption) ?_
    rotate_left
    · intro w hSw; (try dsimp only at hSw); (try subst hSw); go_simp; (try with_reducible rfl)
    simp only [Act.put, List.getElem_toArray, List.getElem_cons_zero, List.getElem_cons_succ, List.setIfInBounds_toArray, List.set_cons_zero, List.set_cons_succ]
    refine wpAnyK_take (i := 5) (oi := _) (v := ?_) rfl (by kernel_rfl) (by kernel_rfl) (by kernel_rfl) (by kernel_rfl) (fun _ _ _ h => h) (Or.inl ⟨by rfl, ?_⟩) (by assumption) ?_
    rotate_left
    · intro w hSw; (try dsimp only at hSw); (try subst hSw); go_simp; (try with_reducible rfl)
    simp only [Act.put, List.getElem_toArray, List.getElem_cons_zero, List.getElem_cons_succ, List.setIfInBounds_toArray, List.set_cons_zero, List.set_cons_succ]
    refine wpAnyK_take (i := 6) (oi := _) (v := ?_) rfl (by kernel_rfl) (by kernel_rfl) (by kernel_rfl) (by kernel_rfl) (fun _ _ _ h => h) (Or.inl ⟨by rfl, ?_⟩) (by assumption) ?_
    rotate_left
    · intro w hSw; (try dsimp only at hSw); (try subst hSw); go_simp; (try with_reducible rfl)
    simp only [Act.put, List.getElem_toArray, List.getElem_cons_zero, List.getElem_cons_succ, List.setIfInBounds_toArray, List.set_cons_zero, List.set_cons_succ]
    refine wpAnyK_take (i := 7) (oi := _) (v := ?_) rfl (by kernel_rfl) (by kernel_rfl) (by kernel_rfl) (by kernel_rfl) (fun _ _ _ h => h) (Or.inl ⟨by rfl, ?_⟩) (by assumption) ?_
    rotate_left
    · intro w hSw; (try dsimp only at hSw); (try subst hSw); go_simp; (try with_reducible rfl)
    simp only [Act.put, List.getElem_toArray, List.getElem_cons_zero, List.getElem_cons_succ, List.setIfInBounds_toArray, List.set_cons_zero, List.set_cons_succ]
    refine wpAnyK_take (i := 8) (oi := _) (v := ?_) rfl (by kernel_rfl) (by kernel_rfl) (by kernel_rfl) (by kernel_rfl) (fun _ _ _ h => h) (Or.inl ⟨by rfl, ?_⟩) (by assumption) ?_
    rotate_left
    · intro w hSw; (try dsimp only at hSw); (try subst hSw); go_simp; (try with_reducible rfl)
    simp only [Act.put, List.getElem_toArray, List.getElem_cons_zero, List.getElem_cons_succ, List.setIfInBounds_toArray, List.set_cons_zero, List.set_cons_succ]
    refine wpAnyK_take (i := 9) (oi := _) (v := ?_) rfl (by kernel_rfl) (by kernel_rfl) (by kernel_rfl) (by kernel_rfl) (fun _ _ _ h => h) (Or.inl ⟨by rfl, ?_⟩) (by assumption) ?_
    rotate_left
    · intro w hSw; (try dsimp only at hSw); (try subst hSw); go_simp; (try with_reducible rfl)
    simp only [Act.put, List.getElem_toArray, List.getElem_cons_zero, List.getElem_cons_succ, List.setIfInBounds_toArray, List.set_cons_zero, List.set_cons_succ]
    refine wpAnyK_take (i := 10) (oi := _) (v := ?_) rfl (by kernel_rfl) (by kernel_rfl) (by kernel_rfl) (by kernel_rfl) (fun _ _ _ h => h) (Or.inl ⟨by rfl, ?_⟩) (by assumption) ?_
    rotate_left
    · intro w hSw; (try dsimp only at hSw); (try subst hSw); go_simp; (try with_reducible rfl)
    simp only [Act.put, List.getElem_toArray, List.getElem_cons_zero, List.getElem_cons_succ, List.setIfInBounds_toArray, List.set_cons_zero, List.set_cons_succ]
    refine wpAnyK_take (i := 11) (oi := _) (v := ?_) rfl (by kernel_rfl) (by kernel_rfl) (by kernel_rfl) (by kernel_rfl) (fun _ _ _ h => h) (Or.inl ⟨by rfl, ?_⟩) (by assumption) ?_
    rotate_left
    · intro w hSw; (try dsimp only at hSw); (try subst hSw); go_simp; (try with_reducible rfl)
    simp only [Act.put, List.getElem_toArray, List.getElem_cons_zero, List.getElem_cons_succ, List.setIfInBounds_toArray, List.set_cons_zero, List.set_cons_succ]
    refine wpAnyK_take (i := 12) (oi := _) (v := ?_) rfl (by kernel_rfl) (by kernel_rfl) (by kernel_rfl) (by kernel_rfl) (fun _ _ _ h => h) (Or.inl ⟨by rfl, ?_⟩) (by assumption) ?_
    rotate_left
    · intro w hSw; (try dsimp only at hSw); (try subst hSw); go_simp; (try with_reducible rfl)
    simp only [Act.put, List.getElem_toArray, List.getElem_cons_zero, List.getElem_cons_succ, List.setIfInBounds_toArray, List.set_cons_zero, List.set_cons_succ]
    refine wpAnyK_take (i := 13) (oi := _) (v := ?_) rfl (by kernel_rfl) (by kernel_rfl) (by kernel_rfl) (by kernel_rfl) (fun _ _ _ h => h) (Or.inl ⟨by rfl, ?_⟩) (by assumption) ?_
    rotate_left
    · intro w hSw; (try dsimp only at hSw); (try subst hSw); go_simp; (try with_reducible rfl)
    simp only [Act.put, List.getElem_toArray, List.getElem_cons_zero, List.getElem_cons_succ, List.setIfInBounds_toArray, List.set_cons_zero, List.set_cons_succ]
    refine wpAnyK_take (i := 14) (oi := _) (v := ?_) rfl (by kernel_rfl) (by kernel_rfl) (by kernel_rfl) (by kernel_rfl) (fun _ _ _ h => h) (Or.inl ⟨by rfl, ?_⟩) (by assumption) ?_
    rotate_left
    · intro w hSw; (try dsimp only at hSw); (try subst hSw); go_simp; (try with_reducible rfl)
    simp only [Act.put, List.getElem_toArray, List.getElem_cons_zero, List.getElem_cons_succ, List.setIfInBounds_toArray, List.set_cons_zero, List.set_cons_succ]
    refine wpAnyK_take (i := 15) (oi := _) (v := ?_) rfl (by kernel_rfl) (by kernel_rfl) (by kernel_rfl) (by kernel_rfl) (fun _ _ _ h => h) (Or.inl ⟨by rfl, ?_⟩) (by assumption) ?_
    rotate_left
    · intro w hSw; (try dsimp only at hSw); (try subst hSw); go_simp; (try with_reducible rfl)
    simp only [Act.put, List.getElem_toArray, List.getElem_cons_zero, List.getElem_cons_succ, List.setIfInBounds_toArray, List.set_cons_zero, List.set_cons_succ]
    refine wpAnyK_take (i := 16) (oi := _) (v := ?_) rfl (by kernel_rfl) (by kernel_rfl) (by kernel_rfl) (by kernel_rfl) (fun _ _ _ h => h) (Or.inl ⟨by rfl, ?_⟩) (by assumption) ?_
    rotate_left
    · intro w hSw; (try dsimp only at hSw); (try subst hSw); go_simp; (try with_reducible rfl)
    simp only [Act.put, List.getElem_toArray, List.getElem_cons_zero, List.getElem_cons_succ, List.setIfInBounds_toArray, List.set_cons_zero, List.set_cons_succ]
    refine wpAnyK_take (i := 17) (oi := _) (v := ?_) rfl (by kernel_rfl) (by kernel_rfl) (by kernel_rfl) (by kernel_rfl) (fun _ _ _ h => h) (Or.inl ⟨by rfl, ?_⟩) (by assumption) ?_
    rotate_left
    · intro w hSw; (try dsimp only at hSw); (try subst hSw); go_simp; (try with_reducible rfl)
    simp only [Act.put, List.getElem_toArray, List.getElem_cons_zero, List.getElem_cons_succ, List.setIfInBounds_toArray, List.set_cons_zero, List.set_cons_succ]
    refine wpAnyK_one (i := 18) (o := _) (by kernel_rfl) rfl (fun K hK => ?_)
    go_simp
    (skip; go_wp2_with fail)
    refine hK.out _ _ (rfl) (fun hHeld => ?_)
    clear hK K
    refine wpAnyK_one (i := 19) (o := _) (by kernel_rfl) rfl (fun K hK => ?_)
    go_simp
    (skip; go_wp2_with fail)
    refine hK.out _ _ (rfl) (fun hHeld => ?_)
    clear hK K
    refine wpAnyK_end (o := _) (by kernel_rfl) rfl (fun K hK => ?_)
    go_simp
    refine hK.out _ _ ?_
    clear hK K
    refine wpAnyK_done (by kernel_rfl) ?_ _
    go_wp2_with fail
    go_returns
    exact hm0 (s1 != s2) (by simp [hA])
end
section
open Go.RowKit Go.ChangeShapes Go.WideShapes Go.ChangeAt Go
theorem wb_mono {a b : Nat} (h : a ≤ b) : wb a ≤ wb b := by
  obtain ⟨c, rfl⟩ : ∃ c, b = a + c := ⟨b - a, by omega⟩
  rw [wb_add]
  have h1 := wb_pos a
  have h2 := wb_pos c
  have h3 : wb a * 1 ≤ wb a * wb c := Int.mul_le_mul_of_nonneg_left (by omega) (by omega)
  omega
/-- what is below 2^255 has at most four words, and the fourth one is below 2^63. -/
theorem top_small {L : List Int} {k : Nat} (h0 : 0 < k) (hk : k ≤ L.length) (hs : Sm64 L) (hn : L.getD (k - 1) 0 ≠ 0) (hm : uv (L.take k) < 2 ^ 255) : k ≤ 4 ∧ (k = 4 → L.getD (k - 1) 0 < 2 ^ 63) := by
  have e := uv_take1 L (k - 1) (by omega)
  rw [show k - 1 + 1 = k by omega] at e
  have h1 := (uv_bd (sm64_take hs (k - 1))).1
  obtain ⟨g1, g2⟩ := sm64_get hs (k - 1)
  have h2 := wb_pos (k - 1)
  have h3 : wb (k - 1) * 1 ≤ wb (k - 1) * L.getD (k - 1) 0 := Int.mul_le_mul_of_nonneg_left (by omega) (by omega)
  constructor
  · rcases Nat.lt_or_ge 4 k with h4 | h4
    · exfalso
      have h5 := wb_mono (a := 4) (b := k - 1) (by omega)
      have e4 : wb 4 = 115792089237316195423570985008687907853269984665640564039457584007913129639936 := by decide
      omega
    · exact h4
  · rintro rfl
    have e3 : wb 3 = 6277101735386680763835789423207666416102355444464034512896 := by decide
    simp only [Nat.reduceSub] at *
    rw [e3] at e
    omega
theorem bitLenI_any (w : World) (p G k c : Nat) (s : Bool) (L : List Int) (hp : Blk w p 87 #[.bool s, .slice (some ⟨G, 0, none⟩) k c]) (hG : Blk w G 81 (ivs .u64 L).toArray) (hl : L.length ≤ 100) (hk : k ≤ L.length) (hs : Sm64 L) (hn : 0 < k → L.getD (k - 1) 0 ≠ 0) :
    Calls Tryz.prog 39 #[.pointer (some ⟨p, 0, none⟩)] w (PLen w k (L.getD (k - 1) 0)) := by
  have hB := hide (bitLen_any w G k c L hG hl hk hs hn)
  obtain ⟨c0, c1, _⟩ := blk2 hp
  clear hp hG hs hn
  go_enter Tryz.func39, Tryz.ntmps39
  go_wp2_with (first | (go_at_call 48; (with_reducible refine (unhide hB).mono ?_); rintro e w1 ⟨b, rfl, h1, h2, rfl⟩) | fail)
  go_ret
  exact ⟨b, rfl, h1, h2, rfl⟩
theorem bitsI_any (w : World) (p : Nat) (u v : Value) (hp : Blk w p 87 #[u, v]) :
    Calls Tryz.prog 40 #[.pointer (some ⟨p, 0, none⟩)] w fun e w' => e = .returned v ∧ w' = w := by
  obtain ⟨c0, c1, _⟩ := blk2 hp
  clear hp
  go_enter Tryz.func40, Tryz.ntmps40
  go_wp2_with fail
  go_ret
  exact ⟨rfl, rfl⟩
theorem signI_any (w : World) (p k c : Nat) (A : Option Addr) (s : Bool) (hp : Blk w p 87 #[.bool s, .slice A k c]) (h0 : 0 < k) :
    Calls Tryz.prog 41 #[.pointer (some ⟨p, 0, none⟩)] w fun e w' => e = .returned (.int .i64 (if s then -1 else 1)) ∧ w' = w := by
  obtain ⟨c0, c1, _⟩ := blk2 hp
  have z : ((k : Int) == 0) = false := by rw [beq_eq_false_iff_ne]; omega
  clear hp
  cases s
  · go_enter Tryz.func41, Tryz.ntmps41
    go_wp2_with fail
    go_ret
    exact ⟨rfl, rfl⟩
  · go_enter Tryz.func41, Tryz.ntmps41
    go_wp2_with fail
    go_ret
    exact ⟨rfl, rfl⟩
def FR (w : World) (k : Nat) (L : List Int) (v : Value) (wr : World) : Prop :=
  ∃ (i : Nat) (Z : List Int), v = .int .i64 (i : Int) ∧ i ≤ k ∧ Z.length = 4 ∧ Sm64 Z ∧ uv Z = uv (L.take i) ∧ (∀ j, i ≤ j → Z.getD j 0 = 0) ∧ Blk wr w.heap.size 44 (ivs .u64 Z).toArray ∧ Below w.heap.size w wr
theorem FR.next {w wr : World} {k i : Nat} {L Z : List Int} (hk : k ≤ L.length) (hs : Sm64 L) (hi : i < k) (hk4 : k ≤ 4) (h1 : Z.length = 4) (h2 : Sm64 Z) (h3 : uv Z = uv (L.take i)) (h4 : ∀ j, i ≤ j → Z.getD j 0 = 0) (h5 : Blk wr w.heap.size 44 (ivs .u64 Z).toArray) (h6 : Below w.heap.size w wr) :
    FR w k L (.int .i64 ((i : Int) + 1)) (wr.setCell ⟨w.heap.size, i, none⟩ (.int .u64 (L.getD i 0))) := by
  obtain ⟨g1, g2⟩ := sm64_get hs i
  refine ⟨i + 1, Z.set i (L.getD i 0), by simp, by omega, by rw [List.length_set]; exact h1, sm64_set h2 i g1 g2, ?_, ?_, ivs_set h5 i _, h6.setCell (by simp) _⟩
  · rw [uv_set Z i _ (by omega), h4 i (Nat.le_refl _), uv_take1 L i (by omega), h3, Int.sub_zero]
  · intro j hj
    rw [getD_iset Z i j _ (by omega), if_neg (by omega)]
    exact h4 j (by omega)
theorem fr_words {Z L : List Int} {k : Nat} (h1 : Z.length = 4) (h2 : Sm64 Z) (h3 : uv Z = uv (L.take k)) : ∃ a b c d, Z = [a, b, c, d] ∧ Sm64 [a, b, c, d] ∧ [a, b, c, d] = twos (uv (L.take k)) 4 ∧ negl [a, b, c, d] 1 = twos (-uv (L.take k)) 4 := by
  obtain ⟨a, b, c, d, rfl⟩ : ∃ a b c d, Z = [a, b, c, d] := by
    match Z, h1 with
    | [a, b, c, d], _ => exact ⟨a, b, c, d, rfl⟩
  exact ⟨a, b, c, d, rfl, h2, words_twos h2 rfl (by rw [h3]), negl_twos h2 rfl (by rw [h3])⟩
set_option maxRecDepth 100000 in
set_option maxHeartbeats 2000000 in
theorem fromBig_any (w : World) (p : Nat) (x : Int) (h : BigIs w p x) (hx0 : -2 ^ 255 < x) (hx1 : x < 2 ^ 255) :
    Calls Tryz.prog 25 #[.pointer (some ⟨p, 0, none⟩)] w (P256 w (twos x 4)) := by
  obtain ⟨s, v, m, hp, ⟨G, k, c, L, rfl, hG, hk, hlc, hl, hs, hm, hn⟩, hx⟩ := h
  have hmx : uv (L.take k) < 2 ^ 255 := by rw [hm]; cases s <;> simp at hx <;> omega
  have hB := hide (bitLenI_any (w.alloc (.cells #[.int .u64 0, .int .u64 0, .int .u64 0, .int .u64 0] 44)) p G k c s L (hp.alloc _) (hG.alloc _) hl hk hs hn)
  rcases Nat.eq_zero_or_pos k with rfl | h0
  · have hx' : x = 0 := by rw [hx, ← hm]; cases s <;> rfl
    subst hx'
    have hF := hide (show P256 w (twos 0 4) (.returned (.agg #[.int .u64 0, .int .u64 0, .int .u64 0, .int .u64 0])) (w.alloc (.cells #[.int .u64 0, .int .u64 0, .int .u64 0, .int .u64 0] 44)) from
      ⟨0, 0, 0, 0, rfl, by decide, (Below.refl _ _).alloc (Nat.le_refl _) _⟩)
    clear hp hG hs hn hm hx hmx hx0 hx1
    go_enter Tryz.func25, Tryz.ntmps25
    go_wp2_with (first | (go_at_call 39; (with_reducible refine (unhide hB).mono ?_); rintro e w1 ⟨b, rfl, q1, q2, rfl⟩; replace q1 := q1 rfl; subst q1; clear q2) | fail)
    go_returns
    exact unhide hF
  · obtain ⟨hk4, htop⟩ := top_small h0 hk hs (hn h0) hmx
    have hb255 := hide (fun (b : Nat) (h1 : 0 < k → 1 ≤ b ∧ b ≤ (k - 1) * 64 + 64 ∧ ∀ m : Nat, m ≤ 64 → L.getD (k - 1) 0 < 2 ^ m → b ≤ (k - 1) * 64 + m) => (show 1 ≤ b ∧ b ≤ 255 from by
      obtain ⟨h1, h2, h3⟩ := h1 h0
      refine ⟨h1, ?_⟩
      rcases Nat.lt_or_ge k 4 with h4 | h4
      · omega
      · have := h3 63 (by omega) (htop (by omega)); omega))
    have hbt := hide (bitsI_any (w.alloc (.cells #[.int .u64 0, .int .u64 0, .int .u64 0, .int .u64 0] 44)) p _ _ (hp.alloc _))
    have hsg := hide (fun (W : World) (hb : Below w.heap.size w W) => signI_any W p k c (some ⟨G, 0, none⟩) s (hp.below hb) h0)
    have hst := hide (show FR w k L (.int .i64 0) (w.alloc (.cells #[.int .u64 0, .int .u64 0, .int .u64 0, .int .u64 0] 44)) from
      ⟨0, [0, 0, 0, 0], rfl, by omega, rfl, sm64_zeros 4, rfl, fun j _ => by match j with | 0 => rfl | 1 => rfl | 2 => rfl | 3 => rfl | (j + 4) => rfl, Blk.new _ _ rfl, (Below.refl _ _).alloc (Nat.le_refl _) _⟩)
    have hcl := hide (fun (W : World) (hb : Below w.heap.size w W) (i : Nat) (hi : i < k) => ivs_cell (hG.below hb) i (by omega))
    have hnx := hide (fun (wr : World) (i : Nat) (Z : List Int) (hi : i < k) => FR.next (w := w) (wr := wr) (i := i) (Z := Z) hk hs hi hk4)
    clear hp hG hn htop
    go_enter Tryz.func25, Tryz.ntmps25
    go_wp2_with (first
      | (go_at_call 39; (with_reducible refine (unhide hB).mono ?_); rintro e w1 ⟨b, rfl, q1, q2, rfl⟩; obtain ⟨q3, q4⟩ := unhide hb255 b q2; clear q1 q2; have q5 : ¬ (255 : Int) < (b : Int) := by omega
         have q6 : ((b : Int) == 0) = false := by rw [beq_eq_false_iff_ne]; omega)
      | (go_at_call 40; (with_reducible refine (unhide hbt).mono ?_); rintro e w1 ⟨rfl, rfl⟩)
      | fail)
    go_loopw [18] (FR w k L) (fun v _ => k - (intOf v).toNat)
    case atStart => exact unhide hst
    case round =>
      obtain ⟨i, Z, rfl, hi, h1, h2, h3, h4, h5, h6⟩ := hrel
      by_cases hlt : i < k
      · have hcc := unhide hcl wr h6 i hlt
        have hff := h5.frozen i
        have hdd := ivs_cell h5 i (by omega)
        have hne := unhide hnx wr i Z hlt h1 h2 h3 h4 h5 h6
        have hlt' : (i : Int) < (k : Int) := by omega
        have hi4 : i < 4 := by omega
        have hi4' : (i : Int) < 4 := by omega
        have hw1 : IntKind.i64.wrap ((i : Int) + 1) = (i : Int) + 1 := (IntWalk.i64_left _).trans (IntWalk.wrap64_in _ (by omega))
        generalize L.getD i 0 = xi at hcc hne
        replace hne := hide hne
        clear h5 h1 h2 h3 h4 h6
        go_wp2_with fail
        exact ⟨unhide hne, by show k - (intOf (Value.int IntKind.i64 ((i : Int) + 1))).toNat < k - (intOf (Value.int IntKind.i64 (i : Int))).toNat; simp only [intOf]; omega⟩
      · obtain rfl : i = k := by omega
        obtain ⟨za, zb, zc, zd, rfl, hz1, hz2, hz3⟩ := fr_words h1 h2 h3
        obtain ⟨c0, c1, c2, c3, f0, f1, f2, f3⟩ := blk4 h5
        have hlt' : ¬ (i : Int) < (i : Int) := by omega
        rw [hm] at hz2 hz3
        cases s
        · have hF := hide (show P256 w (twos x 4) (.returned (.agg #[.int .u64 za, .int .u64 zb, .int .u64 zc, .int .u64 zd])) wr from ⟨_, _, _, _, rfl, by rw [hz2, hx]; rfl, h6⟩)
          have hsg' := hide (unhide hsg wr h6)
          clear h1 h2 h3 h4 h5 h6 hz1 hz2 hz3
          go_wp2_with (first | (go_at_call 41; (with_reducible refine (unhide hsg').mono ?_); rintro e w1 ⟨rfl, rfl⟩) | fail)
          refine bodyPost_ret (v := .agg #[.int .u64 za, .int .u64 zb, .int .u64 zc, .int .u64 zd]) (by simp [results, Tryz.results25, go_sem, c0, c1, c2, c3]) rfl ?_
          exact unhide hF
        · have hN := hide (neg256_any wr za zb zc zd hz1)
          have hF := hide (fun (W : World) (a b c d : Int) (e : negl [za, zb, zc, zd] 1 = [a, b, c, d]) (hb : Below wr.heap.size wr W) =>
            (⟨blk4 (h5.below hb), ⟨_, _, _, _, rfl, by rw [← e, hz3, hx]; rfl, ((((below_tr h6 hb h6.size).setCell (by simp) _).setCell (by simp) _).setCell (by simp) _).setCell (by simp) _⟩⟩ : _ ∧
              P256 w (twos x 4) (.returned (.agg #[.int .u64 a, .int .u64 b, .int .u64 c, .int .u64 d])) ((((W.setCell ⟨w.heap.size, 0, none⟩ (.int .u64 a)).setCell ⟨w.heap.size, 1, none⟩ (.int .u64 b)).setCell ⟨w.heap.size, 2, none⟩ (.int .u64 c)).setCell ⟨w.heap.size, 3, none⟩ (.int .u64 d))))
          have hsg' := hide (unhide hsg wr h6)
          clear h1 h2 h3 h4 h5 h6 hz1 hz2 hz3
          go_wp2_with (first
            | (go_at_call 41; (with_reducible refine (unhide hsg').mono ?_); rintro e w1 ⟨rfl, rfl⟩)
            | (go_at_call 37; (with_reducible refine (unhide hN).mono ?_); rintro e w2 ⟨a', b', c', d', rfl, hl2, hb2⟩; obtain ⟨⟨c0, c1, c2, c3, f0, f1, f2, f3⟩, hfin⟩ := unhide hF w2 a' b' c' d' hl2 hb2)
            | fail)
          refine bodyPost_ret (v := .agg #[.int .u64 a', .int .u64 b', .int .u64 c', .int .u64 d']) (by simp [results, Tryz.results25, go_sem, c0, c1, c2, c3]) rfl ?_
          exact hfin
end
section
open Go.RowKit Go.ChangeShapes Go.WideShapes Go.ChangeAt Go
def PMulP (w : World) (p G : Nat) (x : Int) (e : Ending) (w' : World) : Prop := e = .returned (.pointer (some ⟨p, 0, none⟩)) ∧ BigIs w' p x ∧ Mod [p, G] w w'
theorem mulI_any (w : World) (p1 G1 k1 p2 G2 k2 : Nat) (s1 s2 : Bool) (L1 L2 : List Int) (h1 : Big4 w p1 G1 k1 s1 L1) (h2 : Big4 w p2 G2 k2 s2 L2) (hp : p1 ≠ p2) (hg : G1 ≠ G2) (hK : w.cell? ⟨2, 0, none⟩ = some (.int .i64 40)) :
    Calls Tryz.prog 26 #[.pointer (some ⟨p1, 0, none⟩), .pointer (some ⟨p1, 0, none⟩), .pointer (some ⟨p2, 0, none⟩)] w
      (PMulP w p1 G1 ((if s1 then -uv (L1.take k1) else uv (L1.take k1)) * (if s2 then -uv (L2.take k2) else uv (L2.take k2)))) := by
  have hM := imul_any w p1 G1 k1 p2 G2 k2 s1 s2 L1 L2 h1 h2 hp hg hK
  generalize ((if s1 then -uv (L1.take k1) else uv (L1.take k1)) * (if s2 then -uv (L2.take k2) else uv (L2.take k2))) = X at *
  replace hM := hide hM
  clear h1 h2 hK
  go_enter Tryz.func26, Tryz.ntmps26
  go_wp2_with (first | (go_at_call 42; (with_reducible refine (unhide hM).mono ?_); rintro e w1 ⟨rfl, q1, q2⟩) | fail)
  go_ret
  exact ⟨rfl, q1, q2⟩
theorem mul_fin {w w3 w4 : World} {l : List Int} (g : Nat) (hg : w.heap.size ≤ g) (hb : Below w.heap.size w w3) {a b c d : Int} {z0 z1 z2 z3 : Value} (hz : Blk w3 g 44 #[z0, z1, z2, z3]) (hl : l = [a, b, c, d]) (h : Below w3.heap.size w3 w4) :
    (w4.cell? ⟨g, 0, none⟩ = some z0 ∧ w4.cell? ⟨g, 1, none⟩ = some z1 ∧ w4.cell? ⟨g, 2, none⟩ = some z2 ∧ w4.cell? ⟨g, 3, none⟩ = some z3 ∧ w4.frozen? ⟨g, 0, none⟩ = false ∧ w4.frozen? ⟨g, 1, none⟩ = false ∧ w4.frozen? ⟨g, 2, none⟩ = false ∧ w4.frozen? ⟨g, 3, none⟩ = false) ∧
    P256 w l (.returned (.agg #[.int .u64 a, .int .u64 b, .int .u64 c, .int .u64 d])) ((((w4.setCell ⟨g, 0, none⟩ (.int .u64 a)).setCell ⟨g, 1, none⟩ (.int .u64 b)).setCell ⟨g, 2, none⟩ (.int .u64 c)).setCell ⟨g, 3, none⟩ (.int .u64 d)) :=
  ⟨blk4 (hz.below h), _, _, _, _, rfl, hl, ((((below_tr hb h hb.size).setCell hg _).setCell hg _).setCell hg _).setCell hg _⟩
set_option maxRecDepth 100000 in
set_option maxHeartbeats 2000000 in
theorem mul256_any (w : World) (a b c d a' b' c' d' : Int) (hs : Sm64 [a, b, c, d]) (hs' : Sm64 [a', b', c', d']) (hK : w.cell? ⟨2, 0, none⟩ = some (.int .i64 40)) (h2 : 2 < w.heap.size)
    (hx0 : -2 ^ 255 < sv [a, b, c, d] * sv [a', b', c', d']) (hx1 : sv [a, b, c, d] * sv [a', b', c', d'] < 2 ^ 255) :
    Calls Tryz.prog 12 #[.agg #[.int .u64 a, .int .u64 b, .int .u64 c, .int .u64 d], .agg #[.int .u64 a', .int .u64 b', .int .u64 c', .int .u64 d']] w (P256 w (twos (sv [a, b, c, d] * sv [a', b', c', d']) 4)) := by
  obtain ⟨wb0, hw0⟩ : ∃ W, W = ((w.alloc (.cells #[.int .u64 a, .int .u64 b, .int .u64 c, .int .u64 d] 44)).alloc (.cells #[.int .u64 a', .int .u64 b', .int .u64 c', .int .u64 d'] 44)).alloc (.cells #[.int .u64 0, .int .u64 0, .int .u64 0, .int .u64 0] 44) := ⟨_, rfl⟩
  have hbW : Below w.heap.size w wb0 := by rw [hw0]; exact (((Below.refl _ _).alloc (Nat.le_refl _) _).alloc (by simp) _).alloc (by simp; omega) _
  have hsz : wb0.heap.size = w.heap.size + 3 := by rw [hw0]; simp
  have hk1 : Blk wb0 (w.heap.size + 1) 44 #[.int .u64 a', .int .u64 b', .int .u64 c', .int .u64 d'] := by rw [hw0]; exact (Blk.new 44 _ (by simp)).alloc _
  have hk2 : Blk wb0 (w.heap.size + 1 + 1) 44 #[.int .u64 0, .int .u64 0, .int .u64 0, .int .u64 0] := by rw [hw0]; exact Blk.new 44 _ (by simp)
  have hA := hide (bigInt_any wb0 a b c d hs)
  have hA' := hide (fun (W : World) => bigInt_any W a' b' c' d' hs')
  have hk1' := hide (fun (W : World) (hb : Below wb0.heap.size wb0 W) => blk4 (hk1.below hb))
  generalize sv [a, b, c, d] = x at *
  generalize sv [a', b', c', d'] = y at *
  have hM := hide (fun (w1 w2 : World) (p1 G1 k1 p2 G2 k2 : Nat) (s1 s2 : Bool) (L1 L2 : List Int) (h1 : Big4 w1 p1 G1 k1 s1 L1) (e1 : (if s1 then -uv (L1.take k1) else uv (L1.take k1)) = x) (b1 : Below wb0.heap.size wb0 w1)
      (q1 : Big4 w2 p2 G2 k2 s2 L2) (e2 : (if s2 then -uv (L2.take k2) else uv (L2.take k2)) = y) (g3 : w1.heap.size ≤ p2) (g4 : w1.heap.size ≤ G2) (b2 : Below w1.heap.size w1 w2) =>
    (show Calls Tryz.prog 26 #[.pointer (some ⟨p1, 0, none⟩), .pointer (some ⟨p1, 0, none⟩), .pointer (some ⟨p2, 0, none⟩)] w2 (PMulP w2 p1 G1 (x * y)) from by
      have l1 := h1.1.lt
      have l2 := h1.2.1.lt
      have r1 : Big4 w2 p1 G1 k1 s1 L1 := ⟨h1.1.below b2, h1.2.1.below b2, h1.2.2⟩
      have hb : Below w.heap.size w w2 := below_tr (below_tr hbW b1 hbW.size) b2 (Nat.le_trans hbW.size b1.size)
      have := mulI_any w2 p1 G1 k1 p2 G2 k2 s1 s2 L1 L2 r1 q1 (by omega) (by omega) (by rw [← hK]; exact cell_mod (Mod.of_below (S := []) hb) ⟨2, 0, none⟩ h2 (by simp))
      rwa [e1, e2] at this))
  have hR := hide (fun (w3 : World) (p : Nat) (h : BigIs w3 p (x * y)) => fromBig_any w3 p (x * y) h hx0 hx1)
  have hF := hide (fun (w1 w2 w3 w4 : World) (p1 G1 : Nat) (q a b c d : Int) (g1 : wb0.heap.size ≤ p1) (g2 : wb0.heap.size ≤ G1) (b1 : Below wb0.heap.size wb0 w1) (b2 : Below w1.heap.size w1 w2) (hm : Mod [p1, G1] w2 w3) (hl : twos (x * y) 4 = [a, b, c, d]) (b4 : Below w3.heap.size w3 w4) =>
    have hb3 : Below wb0.heap.size wb0 w3 := ((Mod.of_below (S := []) (below_tr b1 b2 b1.size)).trans hm (by simp; omega)).below
    mul_fin (w := w) (l := twos (x * y) 4) (w.heap.size + 1 + 1) (by omega) (below_tr hbW hb3 hbW.size) (hk2.below hb3) hl b4)
  subst hw0
  clear hk1 hk2 hbW hsz hx0 hx1 hK hs hs'
  go_enter Tryz.func12, Tryz.ntmps12
  have tokA : True := trivial
  go_wp2_with (first
    | (go_at_call 24; have _t := tokA; (with_reducible refine (unhide hA).mono ?_); rintro e w1 ⟨p1, G1, k1, s1, L1, rfl, b1, e1, g1, g2, b2⟩; clear tokA; obtain ⟨c0, c1, c2, c3, _⟩ := unhide hk1' w1 b2; clear hA hk1')
    | (go_at_call 24; (with_reducible refine (unhide hA' w1).mono ?_); rintro e w2 ⟨p2, G2, k2, s2, L2, rfl, q1, e2, g3, g4, q2⟩; clear hA')
    | (go_at_call 26; (with_reducible refine (unhide hM w1 w2 p1 G1 k1 p2 G2 k2 s1 s2 L1 L2 b1 e1 b2 q1 e2 g3 g4 q2).mono ?_); rintro e w3 ⟨rfl, i1, i2⟩)
    | (go_at_call 25; (with_reducible refine (unhide hR w3 p1 i1).mono ?_); rintro e w4 ⟨za, zb, zc, zd, rfl, hl, b4⟩; obtain ⟨⟨u0, u1, u2, u3, f0, f1, f2, f3⟩, hfin⟩ := unhide hF w1 w2 w3 w4 p1 G1 0 za zb zc zd g1 g2 b2 q2 i2 hl b4; replace hfin := hide hfin)
    | fail)
  refine bodyPost_ret (v := .agg #[.int .u64 za, .int .u64 zb, .int .u64 zc, .int .u64 zd]) (by simp [results, Tryz.results12, go_sem, u0, u1, u2, u3]) rfl ?_
  exact unhide hfin
end
end Go.Proofs.YtfalicipocbcoaaGreatDoor
