/- The bit writer: its small methods. (YtcjjajbpjfamfaaDoor) -/
import Derived.Test.YtcjjajbpjfamfaaDoorX1
set_option linter.unusedVariables false
set_option linter.unusedSimpArgs false
namespace Go.Proofs.YtcjjajbpjfamfaaDoor
open Go.ChangeShapes Go.WideShapes Go.ChangeAt Go.RowKit
def Msk (w : World) : Prop := ∀ i, i < 8 → w.cell? ⟨0, i, none⟩ = some (.int .u8 ((2 ^ i : Nat) : Int))
def Flp (w : World) : Prop := ∀ i, i < 8 → w.cell? ⟨2, i, none⟩ = some (.int .u8 ((255 - 2 ^ i : Nat) : Int))
def PB (w : World) (P : Nat) (t : TypeId) (cs : Array Value) (S : List Nat) (e : Ending) (w' : World) : Prop := e = .returned (.tuple #[]) ∧ Blk w' P t cs ∧ Mod S w w'
theorem blk6 {w : World} {P : Nat} {t : TypeId} {a0 a1 a2 a3 a4 a5 : Value} (h : Blk w P t #[a0, a1, a2, a3, a4, a5]) :
    w.cell? ⟨P, 0, none⟩ = some a0 ∧ w.cell? ⟨P, 1, none⟩ = some a1 ∧ w.cell? ⟨P, 2, none⟩ = some a2 ∧ w.cell? ⟨P, 3, none⟩ = some a3 ∧ w.cell? ⟨P, 4, none⟩ = some a4 ∧ w.cell? ⟨P, 5, none⟩ = some a5 :=
  ⟨h.cell 0, h.cell 1, h.cell 2, h.cell 3, h.cell 4, h.cell 5⟩
theorem notu8 (m : Nat) (hm : m < 256) : bits .xor .u8 IntKind.u8.max (m : Int) = ((255 - m : Nat) : Int) := by
  have h : bits .xor .u8 ((255 : Nat) : Int) (m : Int) = ((255 ^^^ m : Nat) : Int) := u8_xor_nat 255 m (by decide) hm
  have e : 255 ^^^ m = 255 - m := byte_ext (xor_lt8 (by decide) hm) (by omega) fun k hk => by
    rw [tb_not8 m k hm hk, Nat.testBit_xor]
    have : (255 : Nat).testBit k = true := by
      rcases (by omega : k = 0 ∨ k = 1 ∨ k = 2 ∨ k = 3 ∨ k = 4 ∨ k = 5 ∨ k = 6 ∨ k = 7) with rfl | rfl | rfl | rfl | rfl | rfl | rfl | rfl <;> rfl
    rw [this]; simp
  rw [← e]; exact h
theorem bwSet_any (w : World) (P : Nat) (a0 a1 a2 a5 : Value) (cur m : Nat) (hc : cur < 256) (hm : m < 256) (h : Blk w P 36 #[a0, a1, a2, .int .u8 cur, .int .u8 m, a5]) :
    Calls Tryd.prog 13 #[.pointer (some ⟨P, 0, none⟩)] w (PB w P 36 #[a0, a1, a2, .int .u8 ((cur ||| m : Nat) : Int), .int .u8 m, a5] [P]) := by
  obtain ⟨c0, c1, c2, c3, c4, c5⟩ := blk6 h
  have f3 := h.frozen 3
  have hb := u8_or_nat cur m hc hm
  have hR := hide (show PB w P 36 #[a0, a1, a2, .int .u8 ((cur ||| m : Nat) : Int), .int .u8 m, a5] [P] (.returned (.tuple #[])) (w.setCell ⟨P, 3, none⟩ (.int .u8 (bits .or .u8 cur m))).drew from
    ⟨rfl, by rw [hb]; exact (h.set 3 _).drew, by (repeat' (first | exact Mod.refl _ _ | assumption | apply Mod.drew | apply Mod.drewN | apply Mod.alloc | (refine Mod.setCell ?_ (by first | (left; simp; done) | (right; first | omega | (simp; omega) | (simp; done))) _)))⟩)
  clear hb h
  go_enter Tryd.func13, Tryd.ntmps13
  go_region
  go_wp2
  go_returns
  exact unhide hR
theorem bwClear_any (w : World) (P : Nat) (a0 a1 a2 a5 : Value) (cur m : Nat) (hc : cur < 256) (hm : m < 256) (h : Blk w P 36 #[a0, a1, a2, .int .u8 cur, .int .u8 m, a5]) :
    Calls Tryd.prog 14 #[.pointer (some ⟨P, 0, none⟩)] w (PB w P 36 #[a0, a1, a2, .int .u8 ((cur &&& (255 - m) : Nat) : Int), .int .u8 m, a5] [P]) := by
  obtain ⟨c0, c1, c2, c3, c4, c5⟩ := blk6 h
  have f3 := h.frozen 3
  have hb := u8_and_nat cur (255 - m) hc (by omega)
  have e := notu8 m hm
  have hR := hide (show PB w P 36 #[a0, a1, a2, .int .u8 ((cur &&& (255 - m) : Nat) : Int), .int .u8 m, a5] [P] (.returned (.tuple #[])) (w.setCell ⟨P, 3, none⟩ (.int .u8 (bits .and .u8 cur (bits .xor .u8 IntKind.u8.max (m : Int))))).drew from
    ⟨rfl, by rw [e, hb]; exact (h.set 3 _).drew, by (repeat' (first | exact Mod.refl _ _ | assumption | apply Mod.drew | apply Mod.drewN | apply Mod.alloc | (refine Mod.setCell ?_ (by first | (left; simp; done) | (right; first | omega | (simp; omega) | (simp; done))) _)))⟩)
  clear hb h e
  go_enter Tryd.func14, Tryd.ntmps14
  go_region
  go_wp2
  go_returns
  exact unhide hR
def PBR (w : World) (B G N cap P : Nat) (cs : Array Value) (mem : List Nat) (e : Ending) (w' : World) : Prop :=
  e = .returned (.tuple #[]) ∧ Blk w' P 36 cs ∧ w'.ownsRow B 5 1 (.slice (some ⟨G, 0, none⟩) N cap) N (bv mem) ∧ Mod [P, G] w w'
theorem own_P {w w' : World} {B G N cap P : Nat} {mem : List Nat} (h : w.ownsRow B 5 1 (.slice (some ⟨G, 0, none⟩) N cap) N (bv mem)) (hm : Mod [P] w w') (hne : G ≠ P) : w'.ownsRow B 5 1 (.slice (some ⟨G, 0, none⟩) N cap) N (bv mem) :=
  own_mod h hm fun g hg => by
    have : G = g := by simpa [Value.ownBlock] using hg
    subst this
    simpa using hne
theorem own_D {w : World} {B G N cap : Nat} {xs : List Value} (h : w.ownsRow B 5 1 (.slice (some ⟨G, 0, none⟩) N cap) N xs) : (w.drew).ownsRow B 5 1 (.slice (some ⟨G, 0, none⟩) N cap) N xs :=
  own_mod h (Mod.drew (Mod.refl [] w)) (by simp)
theorem bwNext_in (w : World) (P : Nat) (a0 a2 a5 : Value) (pos cur m : Nat) (hm : m < 128) (h0 : 0 < m) (hp : pos < 1048576) (h : Blk w P 36 #[a0, .int .i64 pos, a2, .int .u8 cur, .int .u8 m, a5]) :
    Calls Tryd.prog 15 #[.pointer (some ⟨P, 0, none⟩)] w (PB w P 36 #[a0, .int .i64 ((pos + 1 : Nat) : Int), a2, .int .u8 cur, .int .u8 ((2 * m : Nat) : Int), a5] [P]) := by
  obtain ⟨c0, c1, c2, c3, c4, c5⟩ := blk6 h
  have f0 := h.frozen 4
  have f1 := h.frozen 1
  have e : (m : Int) * 2 % 256 = ((2 * m : Nat) : Int) := by omega
  have e2 : (((2 * m : Nat) : Int) == 0) = false := by rw [beq_eq_false_iff_ne]; omega
  have hR := hide (fun (x y : Int) (hx : x = ((2 * m : Nat) : Int)) (hy : y = ((pos + 1 : Nat) : Int)) => (show PB w P 36 #[a0, .int .i64 ((pos + 1 : Nat) : Int), a2, .int .u8 cur, .int .u8 ((2 * m : Nat) : Int), a5] [P] (.returned (.tuple #[])) ((w.setCell ⟨P, 4, none⟩ (.int .u8 x)).setCell ⟨P, 1, none⟩ (.int .i64 y)) from
    ⟨rfl, by rw [hx, hy]; exact (h.set 4 _).set 1 _, by (repeat' (first | exact Mod.refl _ _ | assumption | apply Mod.drew | apply Mod.drewN | apply Mod.alloc | (refine Mod.setCell ?_ (by first | (left; simp; done) | (right; first | omega | (simp; omega) | (simp; done))) _)))⟩))
  clear h
  go_enter Tryd.func15, Tryd.ntmps15
  go_wp2_with fail
  go_returns
  exact unhide hR _ _ (by omega) (by omega)
section
variable {w : World} {P : Nat} {t : TypeId} {a0 a1 a2 a3 a4 a5 : Value}
theorem b6s0 (h : Blk w P t #[a0, a1, a2, a3, a4, a5]) (v : Value) : Blk (w.setCell ⟨P, 0, none⟩ v) P t #[v, a1, a2, a3, a4, a5] := h.set 0 v
theorem b6s1 (h : Blk w P t #[a0, a1, a2, a3, a4, a5]) (v : Value) : Blk (w.setCell ⟨P, 1, none⟩ v) P t #[a0, v, a2, a3, a4, a5] := h.set 1 v
theorem b6s2 (h : Blk w P t #[a0, a1, a2, a3, a4, a5]) (v : Value) : Blk (w.setCell ⟨P, 2, none⟩ v) P t #[a0, a1, v, a3, a4, a5] := h.set 2 v
theorem b6s3 (h : Blk w P t #[a0, a1, a2, a3, a4, a5]) (v : Value) : Blk (w.setCell ⟨P, 3, none⟩ v) P t #[a0, a1, a2, v, a4, a5] := h.set 3 v
theorem b6s4 (h : Blk w P t #[a0, a1, a2, a3, a4, a5]) (v : Value) : Blk (w.setCell ⟨P, 4, none⟩ v) P t #[a0, a1, a2, a3, v, a5] := h.set 4 v
theorem b6s5 (h : Blk w P t #[a0, a1, a2, a3, a4, a5]) (v : Value) : Blk (w.setCell ⟨P, 5, none⟩ v) P t #[a0, a1, a2, a3, a4, v] := h.set 5 v
end
theorem own_S {w : World} {B G N cap P i : Nat} {xs : List Value} (h : w.ownsRow B 5 1 (.slice (some ⟨G, 0, none⟩) N cap) N xs) (hne : G ≠ P) (v : Value) : (w.setCell ⟨P, i, none⟩ v).ownsRow B 5 1 (.slice (some ⟨G, 0, none⟩) N cap) N xs :=
  own_mod h ((Mod.refl [P] w).setCell (by simp) v) fun g hg => by
    have : G = g := by simpa [Value.ownBlock] using hg
    subst this
    simpa using hne
theorem next_w (w : World) (B G N cap P j : Nat) (S L : Value) (mem : List Nat) (cur : Nat) (a1 a4 a5 x z : Value) (hj : j < N) (hne : G ≠ P) (hne' : P ≠ G)
    (h : Blk w P 36 #[S, a1, L, .int .u8 cur, a4, a5]) (hown : w.ownsRow B 5 1 (.slice (some ⟨G, 0, none⟩) N cap) N (bv mem)) (W : World)
    (e : W = (((((w.setCell ⟨P, 4, none⟩ (.int .u8 0)).setCell ⟨P, 1, none⟩ x).setCell ⟨P, 4, none⟩ (.int .u8 1)).setCell ⟨G, j, none⟩ (.int .u8 cur)).setCell ⟨P, 5, none⟩ z)) :
    Blk W P 36 #[S, x, L, .int .u8 cur, .int .u8 1, z] ∧ W.ownsRow B 5 1 (.slice (some ⟨G, 0, none⟩) N cap) N (bv (mem.set j cur)) ∧ Mod [P, G] w W := by
  subst e
  have h1 := b6s4 h (.int .u8 0)
  have h2 := b6s1 h1 x
  have h3 := b6s4 h2 (.int .u8 1)
  have h4 := h3.other (a := ⟨G, j, none⟩) hne' (.int .u8 cur)
  have h5 := b6s5 h4 z
  have o1 := own_S (i := 4) hown hne (.int .u8 0)
  have o2 := own_S (i := 1) o1 hne x
  have o3 := own_S (i := 4) o2 hne (.int .u8 1)
  have o4 := own_set o3 j cur hj
  have o5 := own_S (i := 5) o4 hne z
  have m1 := ((((((Mod.refl [P, G] w).setCell (p := ⟨P, 4, none⟩) (by simp) (.int .u8 0)).setCell (p := ⟨P, 1, none⟩) (by simp) x).setCell (p := ⟨P, 4, none⟩) (by simp) (.int .u8 1)).setCell (p := ⟨G, j, none⟩) (by simp) (.int .u8 cur)).setCell (p := ⟨P, 5, none⟩) (by simp) z)
  with_reducible exact ⟨h5, o5, m1⟩
theorem pbr_mk {w W : World} {B G N cap P : Nat} {S L c m : Value} {x z : Int} {p q : Nat} {mem : List Nat} (hx : x = (p : Int)) (hz : z = (q : Int)) (h1 : Blk W P 36 #[S, .int .i64 x, L, c, m, .int .i64 z]) (h2 : W.ownsRow B 5 1 (.slice (some ⟨G, 0, none⟩) N cap) N (bv mem)) (h3 : Mod [P, G] w W) :
    PBR w B G N cap P #[S, .int .i64 (p : Int), L, c, m, .int .i64 (q : Int)] mem (.returned (.tuple #[])) W := by subst hx hz; exact ⟨rfl, h1, h2, h3⟩
set_option maxRecDepth 100000 in
set_option maxHeartbeats 1000000 in
theorem bwNext_out (w : World) (B G N cap o n c P : Nat) (mem : List Nat) (len pos cur off y : Nat) (hp : pos < 1048576) (hl : len < 1048576) (ho1 : off < 1048576) (hoff : off < n) (hoN : o + off < N) (hne : G ≠ P)
    (hnx : pos + 1 < len → off + 1 < n ∧ o + off + 1 < N ∧ mem.getD (o + off + 1) 0 = y)
    (h : Blk w P 36 #[.slice (some ⟨G, o, none⟩) n c, .int .i64 pos, .int .i64 len, .int .u8 cur, .int .u8 128, .int .i64 off]) (hown : w.ownsRow B 5 1 (.slice (some ⟨G, 0, none⟩) N cap) N (bv mem)) :
    Calls Tryd.prog 15 #[.pointer (some ⟨P, 0, none⟩)] w (PBR w B G N cap P #[.slice (some ⟨G, o, none⟩) n c, .int .i64 ((pos + 1 : Nat) : Int), .int .i64 len, .int .u8 (((if pos + 1 < len then y else cur) : Nat) : Int), .int .u8 1, .int .i64 ((off + 1 : Nat) : Int)] (mem.set (o + off) cur)) := by
  obtain ⟨c0, c1, c2, c3, c4, c5⟩ := blk6 h
  have f1 := h.frozen 1
  have f3 := h.frozen 3
  have f4 := h.frozen 4
  have f5 := h.frozen 5
  have g1 := own_frozen hown (o + off)
  have g0 := own_cell hown (o + off) hoN
  have hPl := h.lt
  have hGl := own_lt' hown
  have hne' : P ≠ G := fun e => hne e.symm
  have hw := hide (fun x z W e => next_w w B G N cap P (o + off) _ _ mem cur _ _ _ x z hoN hne hne' h hown W e)
  by_cases hnl : pos + 1 < len
  · obtain ⟨q1, q2, q3⟩ := hnx hnl
    have cy := own_cell hown (o + off + 1) q2
    rw [q3, Nat.add_assoc] at cy
    rw [if_pos hnl]
    have hnli : (pos : Int) + 1 < (len : Int) := by omega
    have hoe : ¬ o + (off + 1) = o + off := by omega
    clear h hown hnx
    go_enter Tryd.func15, Tryd.ntmps15
    go_wp2_with fail
    go_region
    go_wp2_with fail
    go_region
    go_wp2_with fail
    go_region
    go_wp2_with fail
    go_returns
    obtain ⟨r1, r2, r3⟩ := unhide hw (.int .i64 ((pos : Int) + 1)) (.int .i64 ((off : Int) + 1)) _ rfl
    have q4 := (b6s3 r1 (.int .u8 y)).drew.drew.drew
    have q5 := own_D (own_D (own_D (own_S (i := 3) r2 hne (.int .u8 y))))
    have q6 := (r3.setCell (p := ⟨P, 3, none⟩) (by simp) (.int .u8 y)).drew.drew.drew
    with_reducible exact pbr_mk (by omega) (by omega) q4 q5 q6
  · rw [if_neg hnl]
    have hnli : ¬ (pos : Int) + 1 < (len : Int) := by omega
    clear h hown hnx
    go_enter Tryd.func15, Tryd.ntmps15
    go_wp2_with fail
    go_region
    go_wp2_with fail
    go_region
    go_wp2_with fail
    go_returns
    obtain ⟨r1, r2, r3⟩ := unhide hw (.int .i64 ((pos : Int) + 1)) (.int .i64 ((off : Int) + 1)) _ rfl
    have q4 := r1.drew.drew
    have q5 := own_D (own_D r2)
    have q6 := r3.drew.drew
    with_reducible exact pbr_mk (by omega) (by omega) q4 q5 q6
theorem sl_add (G o i : Nat) : (⟨G, o, none⟩ : Addr).add i = ⟨G, o + i, none⟩ := by unfold Addr.add; split <;> simp_all
/-- a bit writer over bytes from a place on. -/
theorem newBW_any (w : World) (B G N cap o n c f len : Nat) (mem : List Nat) (hM : Msk w) (hf : f < 1048576) (hl : len < 1048576) (hn : 0 < len → f / 8 < n ∧ o + f / 8 < N) (hown : w.ownsRow B 5 1 (.slice (some ⟨G, 0, none⟩) N cap) N (bv mem)) :
    Calls Tryd.prog 10 #[.slice (some ⟨G, o, none⟩) n c, .int .i64 f, .int .i64 len] w fun e w' => ∃ P, e = .returned (.pointer (some ⟨P, 0, none⟩)) ∧ w.heap.size ≤ P ∧ Mod [] w w' ∧
      Blk w' P 36 #[.slice (some ⟨G, o, none⟩) n c, .int .i64 0, .int .i64 len, .int .u8 (((if 0 < len then mem.getD (o + f / 8) 0 else 0) : Nat) : Int), .int .u8 ((2 ^ (f % 8) : Nat) : Int), .int .i64 ((f / 8 : Nat) : Int)] := by
  have c0 := hM (f % 8) (by omega)
  have hpw : 2 ^ (f % 8) < 256 := pow_lt8 (by omega)
  generalize 2 ^ (f % 8) = m at *
  by_cases h0 : 0 < len
  · obtain ⟨h1, h2⟩ := hn h0
    have cg := own_cell hown (o + f / 8) h2
    have hgl := own_lt' hown
    rw [if_pos h0]
    generalize mem.getD (o + f / 8) 0 = x at *
    clear hown hn hM
    go_enter Tryd.func10, Tryd.ntmps10
    go_wp2_with fail
    go_ret
    have k := Blk.new (w := w) (g := w.heap.size) 36 #[.slice (some ⟨G, o, none⟩) n c, .int .i64 0, .int .i64 len, .int .u8 x, .int .u8 m, .int .i64 ((f : Int) / 8)] rfl
    exact ⟨w.heap.size, rfl, Nat.le_refl _, by (repeat' (first | exact Mod.refl _ _ | assumption | apply Mod.drew | apply Mod.drewN | apply Mod.alloc | (refine Mod.setCell ?_ (by first | (left; simp; done) | (right; first | omega | (simp; omega) | (simp; done))) _))), k⟩
  · rw [if_neg h0]
    obtain rfl : len = 0 := by omega
    clear hown hn hM
    go_enter Tryd.func10, Tryd.ntmps10
    go_wp2_with fail
    go_ret
    have k := Blk.new (w := w) (g := w.heap.size) 36 #[.slice (some ⟨G, o, none⟩) n c, .int .i64 0, .int .i64 0, .int .u8 0, .int .u8 m, .int .i64 ((f : Int) / 8)] rfl
    exact ⟨w.heap.size, rfl, Nat.le_refl _, by (repeat' (first | exact Mod.refl _ _ | assumption | apply Mod.drew | apply Mod.drewN | apply Mod.alloc | (refine Mod.setCell ?_ (by first | (left; simp; done) | (right; first | omega | (simp; omega) | (simp; done))) _))), k⟩
/-- the last byte is written. -/
theorem bwFin_store (w : World) (B G N cap o n c P : Nat) (mem : List Nat) (a1 : Value) (pos len cur m off : Nat) (hm : m ≠ 1 ∨ pos < len) (hm8 : m < 256) (h0 : 0 < len) (hoff : off < n) (hoN : o + off < N) (hne : G ≠ P)
    (h : Blk w P 36 #[.slice (some ⟨G, o, none⟩) n c, .int .i64 pos, .int .i64 len, .int .u8 cur, .int .u8 m, .int .i64 off]) (hown : w.ownsRow B 5 1 (.slice (some ⟨G, 0, none⟩) N cap) N (bv mem)) :
    Calls Tryd.prog 16 #[.pointer (some ⟨P, 0, none⟩)] w fun e w' => e = .returned (.tuple #[]) ∧ w'.ownsRow B 5 1 (.slice (some ⟨G, 0, none⟩) N cap) N (bv (mem.set (o + off) cur)) ∧ Mod [G] w w' := by
  obtain ⟨c0, c1, c2, c3, c4, c5⟩ := blk6 h
  have g1 := own_frozen hown (o + off)
  have g0 := own_cell hown (o + off) hoN
  have hR := hide (fun (n : Nat) => own_D (own_mod (own_set hown (o + off) cur hoN) (Mod.drewN (Mod.refl [] _) n) (by simp)))
  have hlen : (0 : Int) < (len : Int) := by omega
  clear h hown
  by_cases hm1 : m = 1
  · subst hm1
    have hpl : (pos : Int) < (len : Int) := by omega
    go_enter Tryd.func16, Tryd.ntmps16
    go_upto_region 0 with (fail)
    go_quiet (fail)
    go_wp2_with fail
    go_region
    go_wp2_with fail
    go_returns
    refine ⟨rfl, ?_, by (repeat' (first | exact Mod.refl _ _ | assumption | apply Mod.drew | apply Mod.drewN | apply Mod.alloc | (refine Mod.setCell ?_ (by first | (left; simp; done) | (right; first | omega | (simp; omega) | (simp; done))) _)))⟩
    exact unhide hR _
  · have hmb : ((m : Int) != 1) = true := by simp; omega
    go_enter Tryd.func16, Tryd.ntmps16
    go_upto_region 0 with (fail)
    go_quiet (fail)
    go_wp2_with fail
    go_region
    go_wp2_with fail
    go_returns
    refine ⟨rfl, ?_, by (repeat' (first | exact Mod.refl _ _ | assumption | apply Mod.drew | apply Mod.drewN | apply Mod.alloc | (refine Mod.setCell ?_ (by first | (left; simp; done) | (right; first | omega | (simp; omega) | (simp; done))) _)))⟩
    exact unhide hR _
end Go.Proofs.YtcjjajbpjfamfaaDoor
