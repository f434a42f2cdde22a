/- Any of the five operations; texts compared; the wanted bits. The law FnCombined: the walk. The law FnCombined: all inputs. (YtjfbojmeccdchaaDoor) -/
import Derived.Test.YtjfbojmeccdchaaDoorFDa
import Derived.Test.YtjfbojmeccdchaaDoorFDb
import Derived.Test.YtjfbojmeccdchaaDoorFDc
import Derived.Test.YtjfbojmeccdchaaDoorFDd
import Derived.Test.YtjfbojmeccdchaaDoorFDe
import Derived.Laws.Cells
import Derived.Laws.BytesString
import Derived.Test.YtjfbojmeccdchaaDoorF8
import Derived.Deep.AppendLies
set_option linter.unusedVariables false
set_option linter.unusedSimpArgs false
namespace Go.Proofs.YtjfbojmeccdchaaDoor
section
open Go.ChangeShapes Go.WideShapes Go.ChangeAt Go.RowKit
def strOf (m : List Nat) : ByteArray := (m.map fun (n : Nat) => (n : Int)).foldl (fun r n => r.push (UInt8.ofNat n.toNat)) ByteArray.empty
theorem conv_any {w : World} {B G N cap : Nat} {m : List Nat} (h : w.ownsRow B 5 1 (.slice (some ⟨G, 0, none⟩) N cap) N (bv m)) : (convert 22 9 (.slice (some ⟨G, 0, none⟩) N cap)).run Tryd.prog w = .ok (.string (strOf m)) w := by
  have hl : m.length = N := by have := h.1; simpa [bv] using this
  rw [run_convert_bytes_string w 22 9 5 _ N cap Tryd.underlying22 Tryd.underlying5 Tryd.underlying9]
  refine run_bytesToString w ⟨G, 0, none⟩ N cap (m.map fun (n : Nat) => (n : Int)) ?_
  have e : (m.map fun (n : Nat) => (n : Int)).map (Value.int .u8) = bv m := by simp [bv]
  rw [e]
  have := run_loadCells_list (P := Tryd.prog) (w := w) ⟨G, 0, none⟩ (bv m) (fun j v hj => by
    have hjl : j < N := by
      have := (List.getElem?_eq_some_iff.1 hj).1
      simp [bv] at this; omega
    rw [sl_add, Nat.zero_add, own_cell h j hjl]
    have h2 := bv_get m j (by omega)
    rw [List.getElem?_toArray] at h2
    rw [← h2]; exact hj)
  rw [bv_length, hl] at this
  exact this
theorem same_any (w : World) (B G N cap B2 G2 cap2 : Nat) (m : List Nat) (h : w.ownsRow B 5 1 (.slice (some ⟨G, 0, none⟩) N cap) N (bv m)) (h2 : w.ownsRow B2 5 1 (.slice (some ⟨G2, 0, none⟩) N cap2) N (bv m)) :
    Calls Tryd.prog 7 #[.slice (some ⟨G, 0, none⟩) N cap, .slice (some ⟨G2, 0, none⟩) N cap2] w fun e w' => e = .returned (.bool true) ∧ w = w' := by
  have e1 := conv_any h
  have e2 := conv_any h2
  clear h h2
  generalize strOf m = s at *
  go_enter Tryd.func7, Tryd.ntmps7
  go_wp2
  go_ret
  exact ⟨ret_bool (by simp), rfl⟩
theorem op_cases {op : Nat} (h : op < 5) : op = 0 ∨ op = 1 ∨ op = 2 ∨ op = 3 ∨ op = 4 := by omega
theorem comT_any (op : Nat) (h5 : op < 5) (w : World) (Bd f n f1 f2 n1 c1 n2 c2 m : Nat) (A1 A2 : Option Addr) (ds1 ds2 : List Nat) (h1 : In w Bd A1 n1 c1 ds1) (h2 : In w Bd A2 n2 c2 ds2) (hm : (n + f + 7) / 8 = m) (hm4 : m ≤ 4096) (hB4 : 4 ≤ Bd) (hBd : Bd ≤ w.heap.size)
    (hf1 : f1 + n ≤ 8 * n1) (hf2 : f2 + n ≤ 8 * n2) (hM : Msk w) (hP : Prc w) (hT : Trl w) :
    Calls Tryd.prog 8 #[.int .i64 (op : Int), .slice A1 n1 c1, .slice A2 n2 c2, .int .i64 f1, .int .i64 f2, .slice none 0 0, .int .i64 f, .int .i64 n, .bool true] w fun e w' =>
      ∃ G cap, e = .returned (.slice (some ⟨G, 0, none⟩) m cap) ∧ w'.ownsRow w.heap.size 5 1 (.slice (some ⟨G, 0, none⟩) m cap) m (bv (chgN (List.replicate m 0) f (cmbL op (lb ds1 f1 n) (lb ds2 f2 n) n) n)) ∧ Mod [] w w' := by
  rcases op_cases h5 with rfl | rfl | rfl | rfl | rfl
  · exact comT_0 w Bd f n f1 f2 n1 c1 n2 c2 m A1 A2 ds1 ds2 h1 h2 hm hm4 hB4 hBd hf1 hf2 hM hP hT
  · exact comT_1 w Bd f n f1 f2 n1 c1 n2 c2 m A1 A2 ds1 ds2 h1 h2 hm hm4 hB4 hBd hf1 hf2 hM hP hT
  · exact comT_2 w Bd f n f1 f2 n1 c1 n2 c2 m A1 A2 ds1 ds2 h1 h2 hm hm4 hB4 hBd hf1 hf2 hM hP hT
  · exact comT_3 w Bd f n f1 f2 n1 c1 n2 c2 m A1 A2 ds1 ds2 h1 h2 hm hm4 hB4 hBd hf1 hf2 hM hP hT
  · exact comT_4 w Bd f n f1 f2 n1 c1 n2 c2 m A1 A2 ds1 ds2 h1 h2 hm hm4 hB4 hBd hf1 hf2 hM hP hT
theorem comF_any (op : Nat) (h5 : op < 5) (w : World) (Bd N c3 f n f1 f2 n1 c1 n2 c2 : Nat) (A1 A2 A3 : Option Addr) (ds1 ds2 d : List Nat) (h1 : In w Bd A1 n1 c1 ds1) (h2 : In w Bd A2 n2 c2 ds2) (h3 : In w Bd A3 N c3 d) (hB4 : 4 ≤ Bd) (hBd : Bd ≤ w.heap.size)
    (hf1 : f1 + n ≤ 8 * n1) (hf2 : f2 + n ≤ 8 * n2) (hf : f + n ≤ 8 * N) (hM : Msk w) (hP : Prc w) (hT : Trl w) :
    Calls Tryd.prog 8 #[.int .i64 (op : Int), .slice A1 n1 c1, .slice A2 n2 c2, .int .i64 f1, .int .i64 f2, .slice A3 N c3, .int .i64 f, .int .i64 n, .bool false] w fun e w' =>
      ∃ G cap, e = .returned (.slice (some ⟨G, 0, none⟩) N cap) ∧ w'.ownsRow w.heap.size 5 1 (.slice (some ⟨G, 0, none⟩) N cap) N (bv (chgN d f (cmbL op (lb ds1 f1 n) (lb ds2 f2 n) n) n)) ∧ Mod [] w w' := by
  rcases op_cases h5 with rfl | rfl | rfl | rfl | rfl
  · exact comF_0 w Bd N c3 f n f1 f2 n1 c1 n2 c2 A1 A2 A3 ds1 ds2 d h1 h2 h3 hB4 hBd hf1 hf2 hf hM hP hT
  · exact comF_1 w Bd N c3 f n f1 f2 n1 c1 n2 c2 A1 A2 A3 ds1 ds2 d h1 h2 h3 hB4 hBd hf1 hf2 hf hM hP hT
  · exact comF_2 w Bd N c3 f n f1 f2 n1 c1 n2 c2 A1 A2 A3 ds1 ds2 d h1 h2 h3 hB4 hBd hf1 hf2 hf hM hP hT
  · exact comF_3 w Bd N c3 f n f1 f2 n1 c1 n2 c2 A1 A2 A3 ds1 ds2 d h1 h2 h3 hB4 hBd hf1 hf2 hf hM hP hT
  · exact comF_4 w Bd N c3 f n f1 f2 n1 c1 n2 c2 A1 A2 A3 ds1 ds2 d h1 h2 h3 hB4 hBd hf1 hf2 hf hM hP hT
theorem lb_chg (m f n : Nat) (cr : List Bool) (hl : cr.length = n) (hf : f + n ≤ 8 * m) : lb (chgN (List.replicate m 0) f cr n) f n = cr := by
  apply List.ext_getElem (by rw [lb_length, hl])
  intro i h1 h2
  rw [lb_length] at h1
  have e1 : (lb (chgN (List.replicate m 0) f cr n) f n)[i] = (lb (chgN (List.replicate m 0) f cr n) f n).getD i false := by rw [List.getD_eq_getElem?_getD, List.getElem?_eq_getElem]; rfl
  have e2 : cr[i] = cr.getD i false := by rw [List.getD_eq_getElem?_getD, List.getElem?_eq_getElem h2]; rfl
  rw [e1, e2, lb_get _ _ _ _ h1, bitAt_chgN (rep_small m) f cr n (by rw [List.length_replicate]; omega), if_pos (by omega)]
  congr 1; omega
theorem cmbL_take (op : Nat) (l m : List Bool) (n k : Nat) (h : k < n) : (cmbL op l m n).take (k + 1) = (cmbL op l m n).take k ++ [cmb op (l.getD k false) (m.getD k false)] := by
  rw [List.take_succ_eq_append_getElem (by rw [cmbL_length]; exact h)]
  have e : (cmbL op l m n)[k]'(by rw [cmbL_length]; exact h) = cmb op (l.getD k false) (m.getD k false) := by
    rw [← cmbL_get op l m n k h, List.getD_eq_getElem?_getD, List.getElem?_eq_getElem (by rw [cmbL_length]; exact h)]; rfl
  rw [e]
theorem bools_append (a b : List Bool) : bools (a ++ b) = bools a ++ bools b := by simp [bools]
theorem bools_length (a : List Bool) : (bools a).length = a.length := by simp [bools]
end
section
open Go.ChangeShapes Go.WideShapes Go.ChangeAt Go.RowKit
def WantR (w2 : World) (n : Nat) (cr : List Bool) (v21 v81 : Value) (wr : World) : Prop :=
  ∃ k : Nat, k ≤ n ∧ v81 = .int .i64 (k : Int) ∧ wr.ownsRow w2.heap.size 4 1 v21 k (bools (cr.take k)) ∧ Mod [] w2 wr
/-- what the loads of a round see. -/
def WS (w2 : World) (G1 G2 k : Nat) (x y : Bool) (W : World) : Prop := W.cell? ⟨G1, k, none⟩ = some (.bool x) ∧ W.cell? ⟨G2, k, none⟩ = some (.bool y) ∧ Mod [] w2 W
theorem own_want {w : World} {B n : Nat} {v : Value} {xs : List Value} (h : w.ownsRow B 4 1 v n xs) : ∃ A c, v = .slice A n c ∧ Sl w w.heap.size A n xs ∧ n ≤ c := by
  rcases h.2 with ⟨rfl, rfl⟩ | ⟨g, cap, cur, rfl, hb, hh, hc, _⟩
  · refine ⟨none, 0, rfl, ⟨?_, fun h => absurd h (by omega)⟩, Nat.le_refl _⟩
    have := h.1
    simpa using this
  · exact ⟨some ⟨g, 0, none⟩, cap, rfl, own_sl h (h.lt g rfl).2, hc⟩
theorem mod_grown {w2 W W' : World} {B e s n : Nat} {v : Value} {xs : List Value} (h : Mod [] w2 W) (ho : W.ownsRow B e s v n xs) (hB : w2.heap.size ≤ B) (hg : W.grownBy W' v.ownBlock) : Mod [] w2 W' := by
  cases hv : v.ownBlock with
  | none =>
    rw [hv] at hg
    exact h.trans (Mod.of_grown (S := []) hg (by simp)) (by simp)
  | some g =>
    rw [hv] at hg
    have := (ho.lt g hv).1
    exact h.trans (Mod.of_grown (S := [g]) hg (by simp)) (by simp; omega)
theorem blist_lb (w : World) (A : Option Addr) (n c f N : Nat) (d : List Nat) (l : List Bool) (hs : Small d) (hd : Sl w w.heap.size A n (bv d)) (hn : n ≤ 4096) (hfl : f + N ≤ 8 * n) (hl : lb d f N = l) :
    Calls Tryd.prog 5 #[.slice A n c, .int .i64 (f : Int), .int .i64 (N : Int)] w fun e w' => ∃ G, e = .returned (.tuple #[.slice (some ⟨G, 0, none⟩) N N, .bool true]) ∧ Blk w' G 4 (bools l).toArray ∧ Mod [] w w' ∧ w.heap.size ≤ G := by
  subst hl; exact blist_any w A n c f N d hs hd hn hfl
theorem blk_bools {w : World} {G n : Nat} {l : List Bool} (h : Blk w G 4 (bools l).toArray) (hl : l.length = n) : Sl w w.heap.size (some ⟨G, 0, none⟩) n (bools l) := by
  refine ⟨by simp [bools, hl], fun _ => ⟨G, 0, rfl, h.lt, fun j u hu => ?_⟩⟩
  rw [Nat.zero_add, h.cell, List.getElem?_toArray]; exact hu
theorem sames_n (w : World) (A A2 : Option Addr) (c c2 : Nat) (l : List Bool) (n : Nat) (hl : l.length = n) (h1 : Sl w w.heap.size A n (bools l)) (h2 : Sl w w.heap.size A2 n (bools l)) (hn : n ≤ 65536) :
    Calls Tryd.prog 10 #[.slice A n c, .slice A2 n c2] w fun e w' => e = .returned (.bool true) ∧ Mod [] w w' := by
  subst hl; exact sameBools_any w A A2 c c2 l h1 h2 hn
theorem bools_cell {w : World} {G : Nat} {l : List Bool} (h : Blk w G 4 (bools l).toArray) (k : Nat) (hk : k < l.length) : w.cell? ⟨G, k, none⟩ = some (.bool (l.getD k false)) := by
  rw [h.cell]
  simp [bools, List.getElem?_eq_getElem hk, List.getD_eq_getElem?_getD]
theorem chg_n (w : World) (A A2 : Option Addr) (c c2 : Nat) (d : List Nat) (l : List Bool) (at_ n N : Nat) (hl : l.length = n) (hN : d.length = N) (hd : Sl w w.heap.size A N (bv d)) (hs : Sl w w.heap.size A2 n (bools l)) (hsm : Small d) (hn : N ≤ 4096) (ha : at_ + n ≤ 8 * N) :
    Calls Tryd.prog 9 #[.slice A N c, .int .i64 (at_ : Int), .slice A2 n c2] w fun e w' => ∃ G cap, e = .returned (.slice (some ⟨G, 0, none⟩) N cap) ∧ w'.ownsRow w.heap.size 5 1 (.slice (some ⟨G, 0, none⟩) N cap) N (bv (chgN d at_ l n)) ∧ Mod [] w w' := by
  subst hl hN; exact changed_any w A A2 c c2 d l at_ hd hs hsm hn ha
set_option maxRecDepth 100000 in
set_option maxHeartbeats 4000000 in
theorem law_in (w : World) (A1 A2 A3 : Option Addr) (n1 c1 n2 c2 N c3 f1 f2 f n op : Nat) (ds1 ds2 d : List Nat) (h5 : op < 5) (h1 : In w w.heap.size A1 n1 c1 ds1) (h2 : In w w.heap.size A2 n2 c2 ds2) (h3 : In w w.heap.size A3 N c3 d) (hB4 : 4 ≤ w.heap.size)
    (hf1 : f1 + n ≤ 8 * n1) (hf2 : f2 + n ≤ 8 * n2) (hf : f + n ≤ 8 * N) (hM : Msk w) (hP : Prc w) (hT : Trl w) :
    Calls Tryd.prog 3 #[.int .i64 (op : Int), .slice A1 n1 c1, .slice A2 n2 c2, .int .i64 f1, .int .i64 f2, .slice A3 N c3, .int .i64 f, .int .i64 n] w fun e w' => e = .returned (.bool true) ∧ Mod [] w w' := by
  have g1 := h1.most
  have g2 := h2.most
  have g3 := h3.most
  have hnot : ∀ (x : Bool) (w : World), (Op.unary .not (.bool x)).run Tryd.prog w = .ok (.bool (!x)) w := fun _ _ => rfl
  have hw1 : withinB n1 (f1 : Int) (n : Int) = true := by simp [withinB]; omega
  have hw2 : withinB n2 (f2 : Int) (n : Int) = true := by simp [withinB]; omega
  have hw3 : withinB N (f : Int) (n : Int) = true := by simp [withinB]; omega
  have HW1 := Lib.hid hw1
  have HW2 := Lib.hid hw2
  have HW3 := Lib.hid hw3
  clear hw1 hw2 hw3
  have hW1 := hide (fun (W : World) => within_any W A1 n1 c1 (f1 : Int) (n : Int) (by omega))
  have hW2 := hide (fun (W : World) => within_any W A2 n2 c2 (f2 : Int) (n : Int) (by omega))
  have hW3 := hide (fun (W : World) => within_any W A3 N c3 (f : Int) (n : Int) (by omega))
  rw [HW1.out] at hW1
  rw [HW2.out] at hW2
  rw [HW3.out] at hW3
  have hL1 := hide (fun (W : World) (hm : Mod [] w W) => blist_any W A1 n1 c1 f1 n ds1 h1.small ((h1.mod hm (by simp)).sl.mono hm.size) g1 hf1)
  have hL2 := hide (fun (W : World) (hm : Mod [] w W) => blist_any W A2 n2 c2 f2 n ds2 h2.small ((h2.mod hm (by simp)).sl.mono hm.size) g2 hf2)
  have hn8 : n ≤ 32768 := by omega
  have hopi : (op : Int) < 5 := by omega
  have hopn : ¬ (5 : Int) ≤ (op : Int) := by omega
  have tok1 : True := trivial
  have hm0 := Mod.refl [] w
  go_enter Tryd.func3, Tryd.ntmps3
  go_upto_region 8 with (first
    | (go_at_call 4; (with_reducible refine (unhide hW1 _).mono ?_); rintro e w' ⟨rfl, rfl⟩; clear hW1)
    | (go_at_call 4; (with_reducible refine (unhide hW2 _).mono ?_); rintro e w' ⟨rfl, rfl⟩; clear hW2)
    | (go_at_call 4; (with_reducible refine (unhide hW3 _).mono ?_); rintro e w' ⟨rfl, rfl⟩)
    | (go_at_call 5; have _t := tok1; (with_reducible refine (unhide hL1 _ hm0).mono ?_); rintro e w1 ⟨G1, rfl, hb1, hm1, hG1⟩; clear tok1)
    | (go_at_call 5; (with_reducible refine (unhide hL2 _ hm1).mono ?_); rintro e w2 ⟨G2, rfl, hb2, hm2, hG2⟩)
    | fail)
  have hm02 := hm1.trans hm2 (by simp)
  have hb12 := hb1.mod hm2 (by simp)
  have hG1l := hb12.lt
  have hG2l := hb2.lt
  have hcrl := cmbL_length op (lb ds1 f1 n) (lb ds2 f2 n) n
  have HTK := hide (fun k hk => cmbL_take op (lb ds1 f1 n) (lb ds2 f2 n) n k hk)
  have hlc := hide (lb_chg ((n + f + 7) / 8) f n (cmbL op (lb ds1 f1 n) (lb ds2 f2 n) n) hcrl (by omega))
  have hCF := hide (fun (W : World) (hm : Mod [] w W) => comF_any op h5 W w.heap.size N c3 f n f1 f2 n1 c1 n2 c2 A1 A2 A3 ds1 ds2 d (h1.mod hm (by simp)) (h2.mod hm (by simp)) (h3.mod hm (by simp)) hB4 hm.size hf1 hf2 hf (hM.mod hm (by simp)) (hP.mod hm (by simp)) (hT.mod hm (by simp)))
  have hCT := hide (fun (W : World) (hm : Mod [] w W) => comT_any op h5 W w.heap.size f n f1 f2 n1 c1 n2 c2 ((n + f + 7) / 8) A1 A2 ds1 ds2 (h1.mod hm (by simp)) (h2.mod hm (by simp)) rfl (by omega) hB4 hm.size hf1 hf2 (hM.mod hm (by simp)) (hP.mod hm (by simp)) (hT.mod hm (by simp)))
  have hCh := hide (fun (W : World) (A : Option Addr) (c : Nat) (hm : Mod [] w W) (hs : Sl W W.heap.size A n (bools (cmbL op (lb ds1 f1 n) (lb ds2 f2 n) n))) =>
    chg_n W A3 A c3 c d (cmbL op (lb ds1 f1 n) (lb ds2 f2 n) n) f n N hcrl h3.len ((h3.mod hm (by simp)).sl.mono hm.size) hs h3.small g3 hf)
  have HB1 := hide (fun k (hk : k < n) => bools_cell hb12 k (by rw [lb_length]; exact hk))
  have HB2 := hide (fun k (hk : k < n) => bools_cell hb2 k (by rw [lb_length]; exact hk))
  clear h1 h2 h3 hM hP hT hb1 hb2 hb12 hL1 hL2 hW3 HW1 HW2 HW3 hm1 hm2
  generalize hcr : cmbL op (lb ds1 f1 n) (lb ds2 f2 n) n = cr at *
  generalize lb ds1 f1 n = l1 at *
  generalize lb ds2 f2 n = l2 at *
  have h0 := hide (show WantR w2 n cr (.slice none 0 0) (.int .i64 0) w2 from ⟨0, by omega, rfl, World.ownsRow_nil _ _ _ _, Mod.refl _ _⟩)
  have KM02 := hide hm02
  have HcrL := hide hcrl
  clear hm02 hcr hcrl
  go_wp2_with fail
  go_loopw [21, 81] (WantR w2 n cr) (fun _ v _ => n - (intOf v).toNat)
  case atStart => exact unhide h0
  case round =>
    obtain ⟨k, hk, rfl, ho, hmr⟩ := hrel
    by_cases hlt : k < n
    · have hbt := comb_any
      have z1 := unhide HB1 k hlt
      have z2 := unhide HB2 k hlt
      have hTK := unhide HTK k hlt
      generalize l1.getD k false = x at *
      generalize l2.getD k false = y at *
      obtain ⟨i0, hi0, hz0, hz1, hz2⟩ := info_parts info4
      have hS6 := hide (fun (W : World) (h : Mod [] w2 W) => (show W.cell? ⟨G1, k, none⟩ = some (.bool x) ∧ W.cell? ⟨G2, k, none⟩ = some (.bool y) ∧ Mod [] w2 W from ⟨h.cell z1 (by simp), h.cell z2 (by simp), h⟩))
      have hk63 : k + 1 ≤ maxLen := by simp [maxLen]; omega
      go_upto_region 11 with (fail)
      refine wp_region_K (S := fun W => W.cell? ⟨G1, k, none⟩ = some (.bool x) ∧ W.cell? ⟨G2, k, none⟩ = some (.bool y) ∧ Mod [] w2 W) (k := 13) (by kernel_rfl) ((unhide hS6) _ hmr.drew) (fun hHeld => ?_)
      have HLD := hide hHeld
      refine wpAnyK_take (i := 0) (oi := _) (v := ?_) rfl (by kernel_rfl) (by kernel_rfl) (by kernel_rfl) (by kernel_rfl) (fun _ _ _ h => h) (Or.inl ⟨by rfl, ?_⟩) (by assumption) ?_
      rotate_left
      · intro w hSw; (try dsimp only at hSw); go_simp; (try with_reducible rfl)
      try simp only [Act.put, List.setIfInBounds_toArray, List.set_cons_zero, List.set_cons_succ]
      refine wpAnyK_take (i := 1) (oi := _) (v := ?_) rfl (by kernel_rfl) (by kernel_rfl) (by kernel_rfl) (by kernel_rfl) (fun _ _ _ h => h) (Or.inl ⟨by rfl, ?_⟩) (by assumption) ?_
      rotate_left
      · intro w hSw; (try dsimp only at hSw); go_simp; (try with_reducible rfl)
      try simp only [Act.put, List.setIfInBounds_toArray, List.set_cons_zero, List.set_cons_succ]
      refine wpAnyK_take (i := 2) (oi := _) (v := ?_) rfl (by kernel_rfl) (by kernel_rfl) (by kernel_rfl) (by kernel_rfl) (fun _ _ _ h => h) (Or.inl ⟨by rfl, ?_⟩) (by assumption) ?_
      rotate_left
      · intro w hSw; (try dsimp only at hSw); go_simp; (try with_reducible rfl)
      try simp only [Act.put, List.setIfInBounds_toArray, List.set_cons_zero, List.set_cons_succ]
      refine wpAnyK_take (i := 3) (oi := _) (v := ?_) rfl (by kernel_rfl) (by kernel_rfl) (by kernel_rfl) (by kernel_rfl) (fun _ _ _ h => h) (Or.inl ⟨by rfl, ?_⟩) (by assumption) ?_
      rotate_left
      · intro w hSw; (try dsimp only at hSw); go_simp; (try with_reducible rfl)
      try simp only [Act.put, List.setIfInBounds_toArray, List.set_cons_zero, List.set_cons_succ]
      refine wpAnyK_take (i := 4) (oi := _) (v := ?_) rfl (by kernel_rfl) (by kernel_rfl) (by kernel_rfl) (by kernel_rfl) (fun _ _ _ h => h) (Or.inl ⟨by rfl, ?_⟩) (by assumption) ?_
      rotate_left
      · intro w hSw; (try dsimp only at hSw); go_simp; (try with_reducible rfl)
      try simp only [Act.put, List.setIfInBounds_toArray, List.set_cons_zero, List.set_cons_succ]
      refine wpAnyK_take (i := 5) (oi := _) (v := ?_) rfl (by kernel_rfl) (by kernel_rfl) (by kernel_rfl) (by kernel_rfl) (fun _ _ _ h => h) (Or.inl ⟨by rfl, ?_⟩) (by assumption) ?_
      rotate_left
      · intro w hSw; (try dsimp only at hSw); go_simp; (try with_reducible rfl)
      try simp only [Act.put, List.setIfInBounds_toArray, List.set_cons_zero, List.set_cons_succ]
      refine wpAnyK_take (i := 6) (oi := _) (v := ?_) rfl (by kernel_rfl) (by kernel_rfl) (by kernel_rfl) (by kernel_rfl) (fun _ _ _ h => h) (Or.inl ⟨by rfl, ?_⟩) (by assumption) ?_
      rotate_left
      · intro w hSw; (try dsimp only at hSw); go_simp; (try with_reducible rfl)
      try simp only [Act.put, List.setIfInBounds_toArray, List.set_cons_zero, List.set_cons_succ]
      refine wpAnyK_take (i := 7) (oi := _) (v := ?_) rfl (by kernel_rfl) (by kernel_rfl) (by kernel_rfl) (by kernel_rfl) (fun _ _ _ h => h) (Or.inl ⟨by rfl, ?_⟩) (by assumption) ?_
      rotate_left
      · intro w hSw; (try dsimp only at hSw); go_simp; (try with_reducible rfl)
      try simp only [Act.put, List.setIfInBounds_toArray, List.set_cons_zero, List.set_cons_succ]
      refine wpAnyK_take (i := 8) (oi := _) (v := ?_) rfl (by kernel_rfl) (by kernel_rfl) (by kernel_rfl) (by kernel_rfl) (fun _ _ _ h => h) (Or.inl ⟨by rfl, ?_⟩) (by assumption) ?_
      rotate_left
      · intro w hSw; (try dsimp only at hSw); go_simp; (try with_reducible rfl)
      try simp only [Act.put, List.setIfInBounds_toArray, List.set_cons_zero, List.set_cons_succ]
      refine wpAnyK_take (i := 9) (oi := _) (v := ?_) rfl (by kernel_rfl) (by kernel_rfl) (by kernel_rfl) (by kernel_rfl) (fun _ _ _ h => h) (Or.inl ⟨by rfl, ?_⟩) (by assumption) ?_
      rotate_left
      · intro w hSw; (try dsimp only at hSw); go_simp; (try with_reducible rfl)
      try simp only [Act.put, List.setIfInBounds_toArray, List.set_cons_zero, List.set_cons_succ]
      refine wpAnyK_one (i := 10) (o := _) (by kernel_rfl) rfl (fun K hK => ?_)
      go_simp
      (go_at_call 6; (with_reducible refine (comb_any _ op x y).mono ?_); rintro e w6 ⟨rfl, rfl⟩; go_wp2_with fail)
      refine hK.out _ _ (unhide HLD) (fun hHeld => ?_)
      clear hK K
      refine wpAnyK_one (i := 11) (o := _) (by kernel_rfl) rfl (fun K hK => ?_)
      go_simp
      refine hK.out _ _ ((unhide hS6) _ (hmr.drew.alloc _)) (fun hHeld => ?_)
      clear hK K
      refine wpAnyK_one (i := 12) (o := _) (by kernel_rfl) rfl (fun K hK => ?_)
      refine step_append_lies _ ?_ (.tmp 84) (.tmp 95) 24 ?_ w2.heap.size 4 i0 _ 1 1 Tryd.underlying24 hi0 hz0 hz1 hz2 rfl ?_ u21 k (bools (cr.take k)) ?_ ?_ ⟨wr.heap.size, 0, none⟩ 1 1 [.bool (cmb op x y)] ?_ ?_ ?_ ?_ ?_ hk63 ?_ ?_ _ rfl ?_
      · rfl
      · rfl
      · omega
      · rfl
      · exact (own_mod ho ((Mod.refl [] wr).drew.alloc _) (by simp))
      · rfl
      · rfl
      · exact World.news_of_block (Blk.new (w := wr.drew) (g := wr.heap.size) 4 #[.bool (cmb op x y)] rfl)
      · simp [Value.oneCell']
      · omega
      · omega
      · have := hmr.size; simp; omega
      intro g cap w5 hown1 hgrow1 hat1 hlt1
      have hm5 := mod_grown (hmr.drew.alloc (.cells #[.bool (cmb op x y)] 4)) (own_mod ho ((Mod.refl [] wr).drew.alloc (.cells #[.bool (cmb op x y)] 4)) (by simp)) (Nat.le_refl _) hgrow1
      have hown2 : w5.ownsRow w2.heap.size 4 1 (.slice (some ⟨g, 0, none⟩) (k + 1) cap) (k + 1) (bools (cr.take (k + 1))) := by rw [hTK, bools_append]; exact hown1
      have HR := hide (show WantR w2 n cr (.slice (some ⟨g, 0, none⟩) (k + 1) cap) (.int .i64 ((k : Int) + 1)) w5 from ⟨k + 1, by omega, by simp, hown2, hm5⟩)
      refine hK.out _ _ ((unhide hS6) _ hm5) (fun hHeld => ?_)
      clear hK K
      refine wpAnyK_end (o := _) (by kernel_rfl) rfl (fun K hK => ?_)
      go_simp
      refine hK.out _ _ ?_
      clear hK K
      refine wpAnyK_done (by kernel_rfl) ?_ _
      clear hHeld hown1 hown2 hm5 hgrow1 hat1 hmr ho hS6 HLD hTK z1 z2 h0
      go_wp2_with fail
      exact ⟨unhide HR, by simp [intOf]; omega⟩
    · obtain rfl : k = n := by omega
      rw [List.take_of_length_le (by rw [unhide HcrL]; exact Nat.le_refl _)] at ho
      obtain ⟨AW, cW, rfl, hsw, hcW⟩ := own_want ho
      have hmw := (unhide KM02).trans hmr (by simp)
      have KMW := hide hmw
      have hCH := hide (fun (W : World) (hm : Mod [] wr W) => unhide hCh W AW cW (hmw.trans hm (by simp)) ((hsw.mod hm (by simp)).mono hm.size))
      have hCF2 := hide (fun (W : World) (hm : Mod [] wr W) => unhide hCF W (hmw.trans hm (by simp)))
      have hCT2 := hide (fun (W : World) (hm : Mod [] wr W) => unhide hCT W (hmw.trans hm (by simp)))
      have hSW := hide hsw
      have hm00 := Mod.refl [] wr
      have hBL := hide (fun (W : World) (G cap B : Nat) (ho : W.ownsRow B 5 1 (.slice (some ⟨G, 0, none⟩) ((k + f + 7) / 8) cap) ((k + f + 7) / 8) (bv (chgN (List.replicate ((k + f + 7) / 8) 0) f cr k))) =>
        blist_lb W (some ⟨G, 0, none⟩) ((k + f + 7) / 8) cap f k _ cr (chgN_small (rep_small _) _ _ _) (own_sl ho (own_lt' ho)) (by omega) (by omega) (unhide hlc))
      clear hCh hCF hCT HB1 HB2 HTK h0 ho hmr hsw hmw KM02
      go_wp2_with (first
        | (go_at_call 8; (with_reducible refine (unhide hCF2 _ hm00).mono ?_); rintro e w3 ⟨G3, cap3, rfl, ho3, hm3⟩; clear hCF2)
        | (go_at_call 9; (with_reducible refine (unhide hCH _ hm3).mono ?_); rintro e w4 ⟨G4, cap4, rfl, ho4, hm4⟩; have ho34 := own_mod ho3 hm4 (by simp); have hSm := hide (same_any w4 _ G3 N cap3 _ G4 cap4 _ ho34 ho4); have hm04 := hm3.trans hm4 (by simp))
        | (go_at_call 7; (with_reducible refine (unhide hSm).mono ?_); rintro e w5 ⟨rfl, rfl⟩)
        | (go_at_call 8; (with_reducible refine (unhide hCT2 _ hm04).mono ?_); rintro e w6 ⟨G6, cap6, rfl, ho6, hm6⟩; have hm06 := hm04.trans hm6 (by simp))
        | (go_at_call 5; (with_reducible refine (unhide hBL _ _ _ _ ho6).mono ?_); rintro e w7 ⟨G7, rfl, hb7, hm7, hG7⟩; have hm07 := hm06.trans hm7 (by simp); have hSB := hide (sames_n w7 (some ⟨G7, 0, none⟩) AW k cW cr k (unhide HcrL) (blk_bools hb7 (unhide HcrL)) (((unhide hSW).mod hm07 (by simp)).mono hm07.size) (by omega)))
        | (go_at_call 10; (with_reducible refine (unhide hSB).mono ?_); rintro e w8 ⟨rfl, hm8⟩)
        | fail)
      go_ret
      exact ⟨rfl, (unhide KMW).trans (hm07.trans hm8 (by simp)) (by simp)⟩
end
section
open Go.ChangeShapes Go.WideShapes Go.ChangeAt Go.RowKit
set_option maxRecDepth 100000 in
set_option maxHeartbeats 4000000 in
theorem law_big (w : World) (A1 A2 A3 : Option Addr) (n1 c1 n2 c2 N c3 : Nat) (op f1 f2 f n : Int) (hn1 : n1 ≤ maxLen) (hn2 : n2 ≤ maxLen) (hN : N ≤ maxLen) (h : 2147483647 < n1 ∨ 2147483647 < n2 ∨ 2147483647 < N) :
    Calls Tryd.prog 3 #[.int .i64 op, .slice A1 n1 c1, .slice A2 n2 c2, .int .i64 f1, .int .i64 f2, .slice A3 N c3, .int .i64 f, .int .i64 n] w fun e w' => e = .returned (.bool true) ∧ Mod [] w w' := by
  have hm : maxLen = 9223372036854775807 := by decide
  by_cases q1 : 2147483647 < n1
  · have z1 : (2147483647 : Int) < (n1 : Int) := by omega
    go_enter Tryd.func3, Tryd.ntmps3
    go_wp2_with fail
    all_goals (go_ret; exact ⟨rfl, Mod.refl _ _⟩)
  · have z1 : ¬ (2147483647 : Int) < (n1 : Int) := by omega
    by_cases q2 : 2147483647 < n2
    · have z2 : (2147483647 : Int) < (n2 : Int) := by omega
      go_enter Tryd.func3, Tryd.ntmps3
      go_wp2_with fail
      all_goals (go_ret; exact ⟨rfl, Mod.refl _ _⟩)
    · have z2 : ¬ (2147483647 : Int) < (n2 : Int) := by omega
      have z3 : (2147483647 : Int) < (N : Int) := by omega
      go_enter Tryd.func3, Tryd.ntmps3
      go_wp2_with fail
      all_goals (go_ret; exact ⟨rfl, Mod.refl _ _⟩)
set_option maxRecDepth 100000 in
set_option maxHeartbeats 4000000 in
theorem law_out (w : World) (A1 A2 A3 : Option Addr) (n1 c1 n2 c2 N c3 : Nat) (op f1 f2 f n : Int) (hn1 : n1 ≤ 2147483647) (hn2 : n2 ≤ 2147483647) (hN : N ≤ 2147483647) (h : op < 0 ∨ 5 ≤ op ∨ withinB n1 f1 n = false ∨ withinB n2 f2 n = false ∨ withinB N f n = false) :
    Calls Tryd.prog 3 #[.int .i64 op, .slice A1 n1 c1, .slice A2 n2 c2, .int .i64 f1, .int .i64 f2, .slice A3 N c3, .int .i64 f, .int .i64 n] w fun e w' => e = .returned (.bool true) ∧ Mod [] w w' := by
  have hnot : ∀ (x : Bool) (w : World), (Op.unary .not (.bool x)).run Tryd.prog w = .ok (.bool (!x)) w := fun _ _ => rfl
  have z1 : ¬ (2147483647 : Int) < (n1 : Int) := by omega
  have z2 : ¬ (2147483647 : Int) < (n2 : Int) := by omega
  have z3 : ¬ (2147483647 : Int) < (N : Int) := by omega
  have hW1 := hide (fun (W : World) => within_any W A1 n1 c1 f1 n (by omega))
  have hW2 := hide (fun (W : World) => within_any W A2 n2 c2 f2 n (by omega))
  have hW3 := hide (fun (W : World) => within_any W A3 N c3 f n (by omega))
  by_cases h0 : op < 0
  · go_enter Tryd.func3, Tryd.ntmps3
    go_wp2_with fail
    all_goals (go_ret; exact ⟨rfl, Mod.refl _ _⟩)
  by_cases h5 : 5 ≤ op
  · go_enter Tryd.func3, Tryd.ntmps3
    go_wp2_with fail
    all_goals (go_ret; exact ⟨rfl, Mod.refl _ _⟩)
  have h : withinB n1 f1 n = false ∨ withinB n2 f2 n = false ∨ withinB N f n = false := by
    rcases h with h | h | h
    · exact absurd h h0
    · exact absurd h h5
    · exact h
  cases e1 : withinB n1 f1 n with
  | false =>
    rw [e1] at hW1
    clear hW2 hW3 h
    go_enter Tryd.func3, Tryd.ntmps3
    go_wp2_with (first | (go_at_call 4; (with_reducible refine (unhide hW1 _).mono ?_); rintro e w' ⟨rfl, rfl⟩) | fail)
    all_goals (go_ret; exact ⟨rfl, Mod.refl _ _⟩)
  | true =>
    rw [e1] at hW1 h
    cases e2 : withinB n2 f2 n with
    | false =>
      rw [e2] at hW2
      clear hW3 h
      go_enter Tryd.func3, Tryd.ntmps3
      go_wp2_with (first | (go_at_call 4; (with_reducible refine (unhide hW1 _).mono ?_); rintro e w' ⟨rfl, rfl⟩; clear hW1) | (go_at_call 4; (with_reducible refine (unhide hW2 _).mono ?_); rintro e w' ⟨rfl, rfl⟩) | fail)
      all_goals (go_ret; exact ⟨rfl, Mod.refl _ _⟩)
    | true =>
      rw [e2] at hW2 h
      have e3 : withinB N f n = false := by simpa using h
      rw [e3] at hW3
      clear h
      go_enter Tryd.func3, Tryd.ntmps3
      go_wp2_with (first | (go_at_call 4; (with_reducible refine (unhide hW1 _).mono ?_); rintro e w' ⟨rfl, rfl⟩; clear hW1) | (go_at_call 4; (with_reducible refine (unhide hW2 _).mono ?_); rintro e w' ⟨rfl, rfl⟩; clear hW2) | (go_at_call 4; (with_reducible refine (unhide hW3 _).mono ?_); rintro e w' ⟨rfl, rfl⟩) | fail)
      all_goals (go_ret; exact ⟨rfl, Mod.refl _ _⟩)
theorem in_of {w : World} {A : Option Addr} {c : Nat} {ds : List Nat} (hs : Small ds) (hd : Sl w w.heap.size A ds.length (bv ds)) (hc : ds.length ≤ c) (hA : A = none → c = 0) (hn : ds.length ≤ 4096) : In w w.heap.size A ds.length c ds := by
  refine ⟨hd, hs, rfl, ⟨hc, hA, fun h => ?_⟩, hn⟩
  obtain ⟨S, o, e, _⟩ := hd.2 h
  exact ⟨S, o, e⟩
theorem law_any (w : World) (A1 A2 A3 : Option Addr) (c1 c2 c3 : Nat) (op f1 f2 f n : Int) (ds1 ds2 d : List Nat) (hs1 : Small ds1) (hs2 : Small ds2) (hs3 : Small d) (h1 : Sl w w.heap.size A1 ds1.length (bv ds1)) (h2 : Sl w w.heap.size A2 ds2.length (bv ds2)) (h3 : Sl w w.heap.size A3 d.length (bv d))
    (hc1 : ds1.length ≤ c1) (hc2 : ds2.length ≤ c2) (hc3 : d.length ≤ c3) (hA1 : A1 = none → c1 = 0) (hA2 : A2 = none → c2 = 0) (hA3 : A3 = none → c3 = 0) (hn1 : ds1.length ≤ maxLen) (hn2 : ds2.length ≤ maxLen) (hn3 : d.length ≤ maxLen) (hB4 : 4 ≤ w.heap.size) (hM : Msk w) (hP : Prc w) (hT : Trl w) :
    Calls Tryd.prog 3 #[.int .i64 op, .slice A1 ds1.length c1, .slice A2 ds2.length c2, .int .i64 f1, .int .i64 f2, .slice A3 d.length c3, .int .i64 f, .int .i64 n] w fun e w' => e = .returned (.bool true) ∧ Mod [] w w' := by
  by_cases hb : 2147483647 < ds1.length ∨ 2147483647 < ds2.length ∨ 2147483647 < d.length
  · exact law_big w A1 A2 A3 _ c1 _ c2 _ c3 op f1 f2 f n hn1 hn2 hn3 hb
  by_cases hw : op < 0 ∨ 5 ≤ op ∨ withinB ds1.length f1 n = false ∨ withinB ds2.length f2 n = false ∨ withinB d.length f n = false
  · exact law_out w A1 A2 A3 _ c1 _ c2 _ c3 op f1 f2 f n (by omega) (by omega) (by omega) hw
  have w1 : withinB ds1.length f1 n = true := by
    cases h : withinB ds1.length f1 n with
    | true => rfl
    | false => exact absurd (.inr (.inr (.inl h))) hw
  have w2 : withinB ds2.length f2 n = true := by
    cases h : withinB ds2.length f2 n with
    | true => rfl
    | false => exact absurd (.inr (.inr (.inr (.inl h)))) hw
  have w3 : withinB d.length f n = true := by
    cases h : withinB d.length f n with
    | true => rfl
    | false => exact absurd (.inr (.inr (.inr (.inr h)))) hw
  obtain ⟨a1, a2, a3, a4, a5⟩ := withinB_true w1
  obtain ⟨b1, b2, b3, b4, b5⟩ := withinB_true w2
  obtain ⟨d1, d2, d3, d4, d5⟩ := withinB_true w3
  have ho : 0 ≤ op ∧ op < 5 := by
    constructor
    · exact Int.not_lt.1 fun h => hw (.inl h)
    · exact Int.not_le.1 fun h => hw (.inr (.inl h))
  obtain ⟨op, rfl⟩ := Int.eq_ofNat_of_zero_le ho.1
  obtain ⟨f1, rfl⟩ := Int.eq_ofNat_of_zero_le a2
  obtain ⟨f2, rfl⟩ := Int.eq_ofNat_of_zero_le b2
  obtain ⟨f, rfl⟩ := Int.eq_ofNat_of_zero_le d2
  obtain ⟨n, rfl⟩ := Int.eq_ofNat_of_zero_le a3
  exact law_in w A1 A2 A3 _ c1 _ c2 _ c3 f1 f2 f n op ds1 ds2 d (by omega) (in_of hs1 h1 hc1 hA1 a1) (in_of hs2 h2 hc2 hA2 b1) (in_of hs3 h3 hc3 hA3 d1) hB4 (by omega) (by omega) (by omega) hM hP hT
end
end Go.Proofs.YtjfbojmeccdchaaDoor
