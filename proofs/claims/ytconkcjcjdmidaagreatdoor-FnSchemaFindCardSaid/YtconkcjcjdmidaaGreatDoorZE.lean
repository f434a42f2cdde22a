/- The law: what a schema finds. (YtconkcjcjdmidaaGreatDoor) -/
import Derived.Test.YtconkcjcjdmidaaGreatDoorZD
import Derived.BigQuiet
import Derived.Deep.QuietTactic
set_option linter.unusedVariables false
set_option linter.unusedSimpArgs false
namespace Go.Proofs.YtconkcjcjdmidaaGreatDoor
open Go.RowKit Go.ChangeShapes Go.WideShapes Go.ChangeAt Go Go.Maps
attribute [local go_sem ↓] Go.wp_at_zero Go.wp_at_succ
theorem plcF_yes (w : World) (a : Option Addr) (k : Nat) (s : ByteArray) (h : (fAt w a k).nm.data.toList = s.data.toList) : plcF w a (k + 1) s = plcF w a k s ++ [(k : Int)] := by
  unfold plcF
  rw [List.range_succ, List.filter_append, List.map_append]
  simp only [List.filter_cons, List.filter_nil, decide_eq_true h, if_true, List.map_cons, List.map_nil]
theorem plcF_no (w : World) (a : Option Addr) (k : Nat) (s : ByteArray) (h : (fAt w a k).nm.data.toList ≠ s.data.toList) : plcF w a (k + 1) s = plcF w a k s := by
  unfold plcF
  rw [List.range_succ, List.filter_append, List.map_append]
  simp only [List.filter_cons, List.filter_nil, decide_eq_false h, Bool.false_eq_true, if_false, List.map_nil, List.append_nil]
theorem plcF_len (w : World) (a : Option Addr) (k : Nat) (s : ByteArray) : (plcF w a k s).length ≤ k := by
  unfold plcF
  rw [List.length_map]
  exact Nat.le_trans (List.length_filter_le _ _) (by simp)
/-- the places that are wanted, as they are gathered. -/
def WR (w0 wc : World) (a : Option Addr) (n : Nat) (s : ByteArray) (v x : Value) (wr : World) : Prop :=
  ∃ k : Nat, x = .int .i64 (k : Int) ∧ k ≤ n ∧ Below wc.heap.size wc wr ∧ wr.ownsRow wc.heap.size 3 1 v (plcF w0 a k s).length ((plcF w0 a k s).map (Value.int .i64)) ∧ ((plcF w0 a k s).length = 0 → v = .slice none 0 0)
theorem ba_toList (s : ByteArray) : s.toList = s.data.toList := by rw [ByteArray.toList_eq]
theorem new_cells1 (W : World) (o : Obj) (x : Value) (t : TypeId) : ∀ j u, [x][j]? = some u → ((W.alloc o).alloc (.cells #[x] t)).cell? ((⟨W.heap.size + 1, 0, none⟩ : Addr).add j) = some u := by
  have := Go.cell_one_new (W.alloc o) x t
  simpa using this
theorem WR.next {w0 wc wr w4 : World} {a : Option Addr} {n k : Nat} {s : ByteArray} {v v' : Value} {o o2 : Obj} (hk : k < n) (hb : Below wc.heap.size wc wr) (hown : wr.ownsRow wc.heap.size 3 1 v (plcF w0 a k s).length ((plcF w0 a k s).map (Value.int .i64))) (h : (fAt w0 a k).nm.data.toList = s.data.toList)
    (ho : w4.ownsRow wc.heap.size 3 1 v' ((plcF w0 a k s).length + 1) ((plcF w0 a k s).map (Value.int .i64) ++ [.int .i64 (k : Int)])) (hg : ((wr.alloc o).alloc o2).grownBy w4 v.ownBlock) : WR w0 wc a n s v' (.int .i64 ((k : Int) + 1)) w4 := by
  refine ⟨k + 1, by simp, by omega, ((hb.alloc hb.size o).alloc (hb.alloc hb.size o).size o2).grown hg ((hb.alloc hb.size o).alloc (hb.alloc hb.size o).size o2).size (fun b hb => (own_lt hown hb).1), ?_⟩
  rw [plcF_yes _ _ _ _ h]
  exact ⟨by simpa using ho, fun h => by simp at h⟩
theorem WR.skip {w0 wc wr : World} {a : Option Addr} {n k : Nat} {s : ByteArray} {v : Value} {o : Obj} (hk : k < n) (hb : Below wc.heap.size wc wr) (hown : wr.ownsRow wc.heap.size 3 1 v (plcF w0 a k s).length ((plcF w0 a k s).map (Value.int .i64))) (hN : (plcF w0 a k s).length = 0 → v = .slice none 0 0) (h : (fAt w0 a k).nm.data.toList ≠ s.data.toList) : WR w0 wc a n s v (.int .i64 ((k : Int) + 1)) (wr.alloc o) := by
  refine ⟨k + 1, by simp, by omega, hb.alloc hb.size o, ?_⟩
  rw [plcF_no _ _ _ _ h]
  exact ⟨hown.alloc o, hN⟩
def LR2 (w5 : World) (zs : List Int) (v : Value) (wr : World) : Prop := ∃ i : Nat, v = .int .i64 (i : Int) ∧ i ≤ zs.length ∧ Below w5.heap.size w5 wr
set_option maxRecDepth 100000 in
set_option maxHeartbeats 4000000 in
theorem law_any (w : World) (hTb : Tabs w) (a : Option Addr) (n c : Nat) (A : Option Addr) (cm : Nat) (lm : List Pr) (hfs : Fs w a n c) (ht : ∀ k, k < n → ∀ j, TyAt w j (fAt w a k).ty) (hps : Ps w (.slice A lm.length cm) lm) (hsz : Sz lm) (s : ByteArray) (hs : s.size ≤ maxLen) (hsl : ¬ (2147483647 : Int) < (s.size : Int)) :
    Calls Tryz.prog 3 #[.agg #[.slice a n c, .slice A lm.length cm], .string s] w (PBl w true) := by
  have hnm : n ≤ 9223372036854775807 := hfs.2.1
  have hs' : s.size ≤ 9223372036854775807 := hs
  obtain ⟨W1, hW1⟩ : ∃ W1, W1 = w.alloc (.cells #[.slice a n c, .slice A lm.length cm] 25) := ⟨_, rfl⟩
  have hB1 : Below w.heap.size w W1 := by rw [hW1]; exact (by repeat' (first | (with_reducible exact Below.refl _ _) | (with_reducible refine Below.setCell ?_ ?_ _) | (with_reducible refine bdrewN ?_ _) | (with_reducible refine bdrew ?_) | (with_reducible refine Below.alloc ?_ ?_ _) | exact Nat.le_refl _ | (simp; done) | (simp; omega)))
  have hK : Blk W1 w.heap.size 25 #[.slice a n c, .slice A lm.length cm] := by rw [hW1]; exact Blk.new _ _ rfl
  have hS := hide (fun (W : World) (hW : Below W1.heap.size W1 W) => (show W.cell? ⟨w.heap.size, 0, none⟩ = some (.slice a n c) ∧ W.cell? ⟨w.heap.size, 1, none⟩ = some (.slice A lm.length cm) ∧ w.heap.size < W.heap.size from ⟨by have := (hK.below hW).cell 0; simpa using this, by have := (hK.below hW).cell 1; simpa using this, Blk.lt (hK.below hW)⟩))
  obtain ⟨c0, c1, _⟩ := unhide hS W1 (Below.refl _ _)
  have hzz := hide (zz3_any W1 a n c A cm lm hnm (hps.below hB1) hsz)
  have hfl := hide (fun (W : World) (hW : Below W1.heap.size W1 W) => fields_any w hTb W a n c A lm.length cm hfs ht (below_tr hB1 hW hB1.size))
  have hfi := hide (fun (W : World) => finds_any W)
  have hret := hide (fun (W : World) (hW : Below W1.heap.size W1 W) => (show PBl w true (.returned (.bool true)) W from ⟨rfl, below_tr hB1 hW hB1.size⟩))
  have hsf := hide (fun (W : World) (hW : Below W1.heap.size W1 W) (hok : SchOk w a n lm.length) => schemaFind_any w W a n c A cm lm ⟨hfs, hok.1, fun k hk => ⟨(hok.2.2 k hk).1.1, (hok.2.2 k hk).2, (hok.2.2 k hk).1.2, ht k hk⟩⟩ (hps.below (below_tr hB1 hW hB1.size)) hok.2.1 (below_tr hB1 hW hB1.size) s hs)
  have hC := hide (fun (hz : 0 < n) => (show ∃ b o, a = some ⟨b, o, none⟩ ∧ ∀ W, Below W1.heap.size W1 W → ∀ k, k < n → FCells W b (o + k * 13) (fAt w a k) ∧ (fAt w a k).nm.size ≤ maxLen from by
    obtain ⟨b, o, ha, hcs⟩ := hfs.base hz
    exact ⟨b, o, ha, fun W hB k hk => hcs W (below_tr hB1 hB hB1.size) k hk⟩))
  clear hTb hfs ht hps hsz hB1 hK
  go_enter Tryz.func3, Tryz.ntmps3
  go_upto_region 1 with (fail)
  rw [← hW1]
  clear hW1
  go_upto_region 5 with (first
    | (go_at_call 4; (with_reducible refine (unhide hzz).mono ?_); rintro e w2 ⟨b2, rfl, hb2⟩; obtain ⟨d0, d1, _⟩ := unhide hS w2 hb2; replace hb2 := hide hb2)
    | (go_at_call 5; (with_reducible refine (unhide hfl _ (unhide hb2)).mono ?_); rintro e w3 ⟨b3, rfl, hb3C, hb3⟩; have hb23 := below_tr (unhide hb2) hb3 (unhide hb2).size; obtain ⟨e0, e1, _⟩ := unhide hS w3 hb23; replace hb23 := hide hb23; replace hb3C := hide hb3C; clear hb3)
    | (go_at_call 6; (with_reducible refine (unhide hfi _).mono ?_); rintro e w4 ⟨rfl, hb4⟩; have hb24 := hide (below_tr (unhide hb23) hb4 (unhide hb23).size); clear hb4)
    | fail)
  all_goals first
    | (go_ret; first | exact unhide hret _ (unhide hb24) | exact unhide hret _ (unhide hb2))
    | skip
  obtain rfl : b3 = true := by first | assumption | (simpa using ‹(!b3) = false›)
  simp only [Bool.not_true]
  have hok := hide (unhide hb3C (by first | rfl | trivial))
  have hn20 : n ≤ 20 := (unhide hok).1
  have hsf2 := hide (fun (W : World) (hW : Below W1.heap.size W1 W) => unhide hsf W hW (unhide hok))
  clear hsf hok hfl hzz hb3C
  clear ‹(!true) = false›
  go_upto_block 0 with (fail)
  go_cut [5] from 25 to 41 (fun v5 wx => ReadZ wx v5 (plcF w a n s) ∧ Below W1.heap.size W1 wx)
  case first =>
    clear hsf2 hfi hret hS
    rcases Nat.eq_zero_or_pos n with hz | hz
    · subst hz
      clear hC
      go_wp2_with fail
      refine wp_loop_rounds 1 ?_
      rw [rounds_succ]
      go_wp2_with fail
      go_meet
      exact ⟨.inl ⟨rfl, rfl⟩, unhide hb23⟩
    · obtain ⟨b, o, rfl, hcs⟩ := (unhide hC) hz
      replace hcs := hide hcs
      clear hC
      have h00 := hide (show WR w w3 (some ⟨b, o, none⟩) n s (.slice none 0 0) (.int .i64 0) w3 from ⟨0, rfl, Nat.zero_le _, Below.refl _ _, World.ownsRow_nil _ _ _ _, fun _ => rfl⟩)
      obtain ⟨i3, hi3, ha0, ha1, ha2⟩ := info_parts info_3
      go_wp2_with fail
      go_loopw [5, 28] (WR w w3 (some ⟨b, o, none⟩) n s) (fun _ v _ => n - (intOf v).toNat)
      case atStart => exact unhide h00
      case round =>
        obtain ⟨k, rfl, hk, hB, hown, hN⟩ := hrel
        by_cases hlt : k < n
        · obtain ⟨hfc, hns⟩ := (unhide hcs) wr (below_tr (unhide hb23) hB (unhide hb23).size) k hlt
          have hlt' : (k : Int) < (n : Int) := by omega
          have hw1 : IntKind.i64.wrap ((k : Int) + 1) = (k : Int) + 1 := (IntWalk.i64_left _).trans (IntWalk.wrap64_in _ (by omega))
          have hpl := plcF_len w (some ⟨b, o, none⟩) k s
          have hle : ∀ o1 o2 : Obj, w3.heap.size ≤ ((wr.alloc o1).alloc o2).heap.size := fun o1 o2 => by have := hB.size; simp; omega
          replace hle := hide hle
          by_cases hq : (fAt w (some ⟨b, o, none⟩) k).nm.data.toList = s.data.toList
          · have hnx := hide (fun (v' : Value) (w4 : World) (o1 o2 : Obj) (ho : w4.ownsRow w3.heap.size 3 1 v' ((plcF w (some ⟨b, o, none⟩) k s).length + 1) ((plcF w (some ⟨b, o, none⟩) k s).map (Value.int .i64) ++ [.int .i64 (k : Int)])) (hg : ((wr.alloc o1).alloc o2).grownBy w4 u5.ownBlock) => WR.next hlt hB hown hq ho hg)
            have hown' := hide (fun (o1 o2 : Obj) => (hown.alloc o1).alloc o2)
            have hz : ((fAt w (some ⟨b, o, none⟩) k).nm.toList == s.toList) = true := by rw [beq_iff_eq]; rw [ba_toList, ba_toList]; exact hq
            generalize plcF w (some ⟨b, o, none⟩) k s = zs at *
            generalize fAt w (some ⟨b, o, none⟩) k = f at *
            obtain ⟨d0, d1, d2, d3, d4, d5, d6, d7, d8, d9, d10, d11, d12⟩ := hfc
            clear hB hown hq hcs h00 hN
            go_wp2_with (first
              | (at_builtin; refine wpList_append_own _ rfl _ _ 28 rfl w3.heap.size 3 i3 _ 1 8 Tryz.underlying28 hi3 ha0 ha1 ha2 rfl (by decide) _ _ _ rfl (unhide hown' _ _) ⟨wr.heap.size + 1, 0, none⟩ 1 1 [.int .i64 (k : Int)] rfl rfl (new_cells1 _ _ _ _) (by intro u hu; simp at hu; subst hu; rfl) (by unfold maxLen; omega) (by omega) (unhide hle _ _) ?_; intro v' w4 hown4 hgrow4 hnil4)
              | fail)
            exact ⟨unhide hnx v' w4 _ _ hown4 hgrow4, by show n - (intOf (Value.int IntKind.i64 ((k : Int) + 1))).toNat < n - (intOf (Value.int IntKind.i64 (k : Int))).toNat; simp only [intOf]; omega⟩
          · have hnx := hide (fun (o1 : Obj) => WR.skip (o := o1) hlt hB hown hN hq)
            have hz : ((fAt w (some ⟨b, o, none⟩) k).nm.toList == s.toList) = false := by rw [beq_eq_false_iff_ne]; rw [ba_toList, ba_toList]; exact hq
            generalize plcF w (some ⟨b, o, none⟩) k s = zs at *
            generalize fAt w (some ⟨b, o, none⟩) k = f at *
            obtain ⟨d0, d1, d2, d3, d4, d5, d6, d7, d8, d9, d10, d11, d12⟩ := hfc
            clear hB hown hq hcs h00 hN
            go_wp2_with fail
            exact ⟨unhide hnx _, by show n - (intOf (Value.int IntKind.i64 ((k : Int) + 1))).toNat < n - (intOf (Value.int IntKind.i64 (k : Int))).toNat; simp only [intOf]; omega⟩
        · have hlt' : ¬ (k : Int) < (n : Int) := by omega
          obtain rfl : k = n := by omega
          have hfin := hide (show ReadZ wr u5 (plcF w (some ⟨b, o, none⟩) k s) ∧ Below W1.heap.size W1 wr from ⟨by
            rcases Nat.eq_zero_or_pos (plcF w (some ⟨b, o, none⟩) k s).length with h0 | h0
            · have he := List.eq_nil_of_length_eq_zero h0
              refine .inl ⟨?_, he⟩
              exact hN h0
            · exact readZ_own hown rfl h0, below_tr (unhide hb23) hB (unhide hb23).size⟩)
          clear hB hown hcs h00 hN
          go_wp2_with fail
          go_meet
          exact unhide hfin
  case rest =>
    obtain ⟨hz5, hB5⟩ := hcut
    have hcall := unhide hsf2 wc hB5
    obtain ⟨q0, q1, hqlt⟩ := unhide hS wc hB5
    have hS2 := hide (fun (W : World) (hW : Below wc.heap.size wc W) => unhide hS W (below_tr hB5 hW hB5.size))
    have hret2 := hide (fun (W : World) (hW : Below wc.heap.size wc W) => unhide hret W (below_tr hB5 hW hB5.size))
    have hplen := plcF_len w a n s
    generalize plcF w a n s = zs at *
    replace hB5 := hide hB5
    clear hC hsf2 hS hret hb23
    rcases Nat.eq_zero_or_pos zs.length with h0 | h0
    · obtain rfl : zs = [] := List.eq_nil_of_length_eq_zero h0
      obtain rfl : u5 = .slice none 0 0 := by
        rcases hz5 with ⟨e, _⟩ | ⟨g, c, _, _, _, h9, _⟩
        · exact e
        · simp at h9
      replace hcall := hide hcall
      clear hz5 h0 hplen
      go_wp2_with (first
        | (go_at_call 7; (with_reducible refine (unhide hcall).mono ?_); rintro e w5 ⟨v, rfl, hz6, hb6⟩; (obtain rfl : v = .slice none 0 0 := (by rcases hz6 with ⟨e, _⟩ | ⟨g, c, _, _, _, h9, _⟩; exact e; simp at h9)); clear hz6; obtain ⟨q2, q3, _⟩ := unhide hS2 w5 hb6; replace hb6 := hide hb6)
        | fail)
      refine wp_loop_rounds 1 ?_
      rw [rounds_succ]
      go_wp2_with (first
        | (go_at_call 6; (with_reducible refine (unhide hfi _).mono ?_); rintro e w6 ⟨rfl, hb7⟩; have hb8 := hide (below_tr (unhide hb6) hb7 (unhide hb6).size); clear hb7)
        | fail)
      go_ret
      exact unhide hret2 _ (unhide hb8)
    · rcases hz5 with ⟨_, h9⟩ | ⟨g5, c5, rfl, hc5, hg5, _, hcs5⟩
      · subst h9; simp at h0
      have hd : decide (0 < zs.length) = true := by simp [h0]
      have hz20 : zs.length ≤ 20 := by omega
      have hzc := hide hcs5
      replace hcall := hide hcall
      clear hcs5
      go_wp2_with (first
        | (go_at_call 7; (with_reducible refine (unhide hcall).mono ?_); rintro e w5 ⟨v, rfl, hz6, hb6⟩; (rcases hz6 with ⟨_, h9⟩ | ⟨g6, c6, rfl, hc6, hg6, _, hcs6⟩; (focus (subst h9; simp at h0; done))); obtain ⟨q2, q3, _⟩ := unhide hS2 w5 hb6; replace hb6 := hide hb6; replace hcs6 := hide hcs6)
        | fail)
      have h00 := hide (show LR2 w5 zs (.int .i64 0) w5 from ⟨0, rfl, Nat.zero_le _, Below.refl _ _⟩)
      go_loopw [75] (LR2 w5 zs) (fun v _ => zs.length - (intOf v).toNat)
      case atStart => exact unhide h00
      case round =>
        obtain ⟨i, rfl, hi, hB⟩ := hrel
        by_cases hlt : i < zs.length
        · have hlt' : (i : Int) < (zs.length : Int) := by omega
          have hw1 : IntKind.i64.wrap ((i : Int) + 1) = (i : Int) + 1 := (IntWalk.i64_left _).trans (IntWalk.wrap64_in _ (by omega))
          have x6 := (hB.cell (p := ⟨g6, i, none⟩) hg6).trans ((unhide hcs6) i hlt)
          have x5 := (hB.cell (p := ⟨g5, i, none⟩) (Nat.lt_of_lt_of_le hg5 (unhide hb6).size)).trans (((unhide hb6).cell (p := ⟨g5, i, none⟩) hg5).trans ((unhide hzc) i hlt))
          generalize zs.getD i 0 = x at *
          have hn : (x != x) = false := by simp
          replace hB := hide hB
          clear h00 hcs6 hzc hb6 hcall hS2 hret2 hfi hB5
          go_upto_region 18 with (fail)
          go_quiet (fail)
          go_wp2_with fail
          exact ⟨⟨i + 1, by simp, by omega, bdrewN (unhide hB) _⟩, by show zs.length - (intOf (Value.int IntKind.i64 ((i : Int) + 1))).toNat < zs.length - (intOf (Value.int IntKind.i64 (i : Int))).toNat; simp only [intOf]; omega⟩
        · have hlt' : ¬ (i : Int) < (zs.length : Int) := by omega
          have hBf := hide (below_tr (unhide hb6) hB (unhide hb6).size)
          clear h00 hcs6 hzc hcall hS2 hB5 hB hb6
          go_wp2_with (first
            | (go_at_call 6; (with_reducible refine (unhide hfi _).mono ?_); rintro e w6 ⟨rfl, hb7⟩; have hb8 := hide (below_tr (unhide hBf) hb7 (unhide hBf).size); clear hb7)
            | fail)
          go_ret
          exact unhide hret2 _ (unhide hb8)
set_option maxRecDepth 100000 in
theorem law_long (w : World) (a : Option Addr) (n c : Nat) (A : Option Addr) (cm : Nat) (lm : List Pr) (hnm : n ≤ 9223372036854775807) (hps : Ps w (.slice A lm.length cm) lm) (hsz : Sz lm) (s : ByteArray) (hs : s.size ≤ maxLen) (hsl : (2147483647 : Int) < (s.size : Int)) :
    Calls Tryz.prog 3 #[.agg #[.slice a n c, .slice A lm.length cm], .string s] w (PBl w true) := by
  have hs' : s.size ≤ 9223372036854775807 := hs
  have hB1 : Below w.heap.size w (w.alloc (.cells #[.slice a n c, .slice A lm.length cm] 25)) := (by repeat' (first | (with_reducible exact Below.refl _ _) | (with_reducible refine Below.setCell ?_ ?_ _) | (with_reducible refine bdrewN ?_ _) | (with_reducible refine bdrew ?_) | (with_reducible refine Below.alloc ?_ ?_ _) | exact Nat.le_refl _ | (simp; done) | (simp; omega)))
  have hzz := hide (zz3_any _ a n c A cm lm hnm (hps.below hB1) hsz)
  have hret := hide (fun (W : World) (hW : Below (w.alloc (.cells #[.slice a n c, .slice A lm.length cm] 25)).heap.size (w.alloc (.cells #[.slice a n c, .slice A lm.length cm] 25)) W) => (show PBl w true (.returned (.bool true)) W from ⟨rfl, below_tr hB1 hW hB1.size⟩))
  clear hB1 hps hsz hs
  go_enter Tryz.func3, Tryz.ntmps3
  go_wp2_with (first
    | (go_at_call 4; (with_reducible refine (unhide hzz).mono ?_); rintro e w2 ⟨b2, rfl, hb2⟩; replace hb2 := hide hb2)
    | fail)
  all_goals
    go_ret
    exact unhide hret _ (unhide hb2)
end Go.Proofs.YtconkcjcjdmidaaGreatDoor
