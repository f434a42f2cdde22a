/- Bits counted: CountSetBits from the first bit on. -/
import Derived.Test.YtfodkdadbcojeaaDoorC5
import Derived.Deep.CutRange
set_option linter.unusedVariables false
set_option linter.unusedSimpArgs false
namespace Go.Proofs.YtfodkdadbcojeaaDoor
open Go.ChangeShapes Go.WideShapes Go.ChangeAt Go.RowKit
theorem cnt_word (d : List Nat) (k : Nat) (h : 8 * k + 8 ≤ d.length) : ((((d.drop (8 * k)).take 8).map pc8).sum) = cnt d (64 * k) 64 := by
  obtain ⟨b0, b1, b2, b3, b4, b5, b6, b7, e⟩ := eight_of (l := (d.drop (8 * k)).take 8) (by simp; omega)
  have hg : ∀ j, j < 8 → d.getD (8 * k + j) 0 = ((d.drop (8 * k)).take 8).getD j 0 := fun j hj => by
    simp [List.getD_eq_getElem?_getD, List.getElem?_take, hj, List.getElem?_drop]
  rw [show (64 : Nat) = 8 + (8 + (8 + (8 + (8 + (8 + (8 + 8)))))) from rfl]
  simp only [cnt_add]
  have hc : ∀ j a, a = 8 * (8 * k + j) → j < 8 → cnt d a 8 = pc8 (((d.drop (8 * k)).take 8).getD j 0) := fun j a ha hj => by
    rw [ha, cnt8, hg j hj]
  rw [hc 0 _ (by omega) (by omega), hc 1 _ (by omega) (by omega), hc 2 _ (by omega) (by omega), hc 3 _ (by omega) (by omega), hc 4 _ (by omega) (by omega), hc 5 _ (by omega) (by omega), hc 6 _ (by omega) (by omega), hc 7 _ (by omega) (by omega)]
  rw [e]
  simp
def C1Rel (w : World) (d : List Nat) (q : Nat) (v7 v28 : Value) (wr : World) : Prop :=
  ∃ k : Nat, k ≤ q ∧ v28 = .int .i64 k ∧ v7 = .int .i64 (cnt d 0 (64 * k) : Nat) ∧ Mod [] w wr
def C2Rel (w : World) (d : List Nat) (m r : Nat) (v7 v43 : Value) (wr : World) : Prop :=
  ∃ k : Nat, k ≤ r ∧ v43 = .int .i64 k ∧ v7 = .int .i64 (cnt d 0 (8 * (m + k)) : Nat) ∧ Mod [] w wr
def C3Rel (w : World) (d : List Nat) (N : Nat) (v7 v13 : Value) (wr : World) : Prop :=
  ∃ k : Nat, k ≤ N ∧ v13 = .int .i64 k ∧ v7 = .int .i64 (cnt d 0 k : Nat) ∧ Mod [] w wr
def C41 (b off e8 q : Nat) (v : Value) : Prop := ∃ A c, v = .slice A (e8 - q * 8) c ∧ (0 < e8 - q * 8 → A = some ⟨b, off + q * 8, none⟩)
theorem words_nil (w : World) (A : Option Addr) (n c : Nat) (h8 : n < 8) :
    Calls Tryd.prog 46 #[.slice A n c] w fun e w' => e = .returned (.slice none 0 0) ∧ w = w' := by
  go_enter Tryd.func46, Tryd.ntmps46
  go_wp2
  go_ret
  exact ⟨rfl, rfl⟩
theorem word_take (d : List Nat) (q k : Nat) (hk : k < q) : word (d.take (q * 8)) k = word d k := by
  unfold word
  congr 1
  apply List.ext_getElem?
  intro i
  simp only [List.getElem?_take, List.getElem?_drop]
  split
  · rw [if_pos (by omega)]
  · rfl
theorem words_take (d : List Nat) (q : Nat) : words (d.take (q * 8)) q = words d q := by
  unfold words
  apply List.map_congr_left
  intro k hk
  rw [word_take d q k (by simpa using hk)]
theorem wd_any (w : World) (b off n c q : Nat) (d : List Nat) (hs : Small d) (hd : Sl w w.heap.size (some ⟨b, off, none⟩) n (bv d)) (hn : n ≤ 4096) (hnc : n ≤ c) (hq : q * 8 ≤ n) :
    Calls Tryd.prog 46 #[.slice (some ⟨b, off, none⟩) (q * 8) c] w fun e w' => ∃ A' c', e = .returned (.slice A' q c') ∧ (0 < q → ∃ G, A' = some ⟨G, 0, none⟩ ∧ Blk w' G 59 (words d q).toArray) ∧ Mod [] w w' := by
  by_cases h0 : q = 0
  · subst h0
    refine (words_nil w _ (0 * 8) c (by omega)).mono ?_
    rintro e w' ⟨rfl, rfl⟩
    exact ⟨none, 0, rfl, fun h => absurd h (by omega), Mod.refl _ _⟩
  · have hd2 : Sl w w.heap.size (some ⟨b, off, none⟩) (q * 8) (bv (d.take (q * 8))) := by
      have := hd.take (m := q * 8) hq
      simpa [bv, List.map_take] using this
    have hs2 : Small (d.take (q * 8)) := fun x hx => hs x (List.mem_of_mem_take hx)
    refine (words_any w _ (q * 8) c _ hs2 hd2 (by omega) (by omega) (by omega) (q := q) (by omega)).mono ?_
    rintro e w' ⟨G, rfl, hb, hm⟩
    rw [words_take] at hb
    exact ⟨_, _, rfl, fun _ => ⟨G, rfl, hb⟩, hm⟩
theorem words_get (d : List Nat) (q k : Nat) (h : k < q) : (words d q).toArray[k]? = some (.int .u64 (word d k : Int)) := by simp [words, h]
theorem sl_cell {w : World} {B n b off : Nat} {d : List Nat} (hd : Sl w B (some ⟨b, off, none⟩) n (bv d)) (k : Nat) (hk : k < n) : w.cell? ⟨b, off + k, none⟩ = some (.int .u8 ((d.getD k 0 : Nat) : Int)) := by
  obtain ⟨b', off', u, e, hbl, hu, hcell⟩ := hd.at_ hk
  cases e
  rw [hcell]
  have hl := hd.1
  simp [bv] at hl
  simp only [bv, List.getElem?_map, List.getElem?_eq_getElem (show k < d.length by omega), Option.map_some] at hu
  cases hu
  simp [List.getD_eq_getElem?_getD, List.getElem?_eq_getElem (show k < d.length by omega)]
set_option maxRecDepth 100000 in
set_option maxHeartbeats 4000000 in
theorem count0_any (w : World) (b off n c N : Nat) (d : List Nat) (hs : Small d) (hd : Sl w w.heap.size (some ⟨b, off, none⟩) n (bv d)) (hn : n ≤ 4096) (hnc : n ≤ c) (hN : N ≤ 8 * n) (hM : Msk w) (hn0 : 0 < n) {q e8 : Nat} (hq : N / 64 = q) (he : N / 8 = e8) :
    Calls Tryd.prog 27 #[.slice (some ⟨b, off, none⟩) n c, .int .i64 0, .int .i64 (N : Int)] w fun e w' => e = .returned (.int .i64 (cnt d 0 N : Nat)) ∧ Mod [] w w' := by
  have hw0 : IntKind.i64.wrap 0 = 0 := by decide
  have hx1 : (N : Int) / 64 = (q : Int) := by omega
  have hx2 : (N : Int) / 8 = (e8 : Int) := by omega
  have hx3 : q * 8 ≤ e8 := by omega
  have hx4 : e8 ≤ n := by omega
  have hx5 : e8 * 8 ≤ N := by omega
  have hx6 : q * 64 ≤ N := by omega
  go_enter Tryd.func27, Tryd.ntmps27
  go_wp2_with fail
  refine (wd_any w b off n c q d hs hd hn hnc (by omega)).mono ?_
  rintro e w1 ⟨A', c', rfl, hA, hm1⟩
  have HA := Lib.hid hA
  clear hA
  dsimp only
  go_wp2_with fail
  go_loopw [7, 28] (C1Rel w1 d q) (fun _ v _ => q - (intOf v).toNat)
  case atStart => exact ⟨0, Nat.zero_le _, rfl, rfl, Mod.refl _ _⟩
  case round =>
    obtain ⟨k, hk, rfl, rfl, hmr⟩ := hrel
    by_cases hlt : k < q
    · obtain ⟨G, rfl, hb⟩ := HA.out (by omega)
      have ck := (hb.mod hmr (by simp)).cell k
      rw [words_get d q k hlt] at ck
      have hl := hd.1
      simp [bv] at hl
      have hs8 : Small ((d.drop (8 * k)).take 8) := fun x hx => hs x (List.mem_of_mem_drop (List.mem_of_mem_take hx))
      have O := oc64_any wr ((d.drop (8 * k)).take 8) hs8 (by simp; omega)
      rw [cnt_word d k (by omega)] at O
      have O1 := hide (show Calls Tryd.prog 47 #[.int .u64 (word d k : Int)] wr _ from O)
      have hF : C1Rel w1 d q (.int .i64 ((cnt d 0 (64 * k) : Int) + (cnt d (64 * k) 64 : Int))) (.int .i64 ((k : Int) + 1)) wr := by
        refine ⟨k + 1, by omega, by simp, ?_, hmr⟩
        rw [show 64 * (k + 1) = 64 * k + 64 by omega, cnt_add]
        simp
      have HF := Lib.hid hF
      have n1 := cnt_le d 0 (64 * k)
      have n2 := cnt_le d (64 * k) 64
      generalize cnt d 0 (64 * k) = x1 at HF n1
      generalize cnt d (64 * k) 64 = x2 at HF n2 O1
      generalize word d k = vv at ck O1
      clear O hF hs8 hb hd hl
      go_wp2_with (go_at_call 47; (with_reducible refine (unhide O1).mono ?_); rintro e w' ⟨rfl, rfl⟩)
      all_goals exact ⟨HF.out, by simp [intOf]; omega⟩
    · obtain rfl : k = q := by omega
      clear HA
      have hm2 := hm1.trans hmr (by simp)
      have hd2 := hd.mod hm2 (by simp)
      have hM2 : Msk wr := fun i hi => hm2.cell (hM i hi) (by simp)
      have hcut0 : ∀ A41 c41, (0 < e8 - k * 8 → A41 = some ⟨b, off + k * 8, none⟩) → C41 b off e8 k (.slice A41 (e8 - k * 8) c41) := fun A41 c41 h => ⟨A41, c41, rfl, h⟩
      have HC := Lib.hid hcut0
      clear hcut0 hd hM hmr hm1
      go_upto_region 10 with fail
      go_cut [41, 42, 43] from 37 to 43 (fun v41 v42 v43 wx => C41 b off e8 k v41 ∧ v42 = .int .i64 ((e8 - k * 8 : Nat) : Int) ∧ v43 = .int .i64 0 ∧ wx = wr)
      case first =>
        by_cases hcc : c = k * 8
        · subst hcc
          have hz : ¬ 0 < e8 - k * 8 := by omega
          go_wp2_with fail
          all_goals go_meet
          all_goals exact ⟨HC.out _ _ (fun h => absurd h hz), rfl, rfl, rfl⟩
        · by_cases hk0 : k = 0
          · subst hk0
            go_wp2_with fail
            all_goals go_meet
            all_goals exact ⟨HC.out _ _ (fun h => by simp), by simp, rfl, rfl⟩
          · have hk1 : ¬ k * 8 = 0 := by omega
            go_wp2_with fail
            all_goals go_meet
            all_goals exact ⟨HC.out _ _ (fun h => rfl), rfl, rfl, rfl⟩
      case rest =>
        obtain ⟨⟨A41, c41, rfl, hA⟩, rfl, rfl, rfl⟩ := hcut
        clear HC
        have HA := Lib.hid hA
        clear hA
        have hrr : k * 8 + (e8 - k * 8) = e8 := by omega
        generalize hr : e8 - k * 8 = r at HA hrr ⊢
        clear hr
        go_wp2_with fail
        go_loopw [7, 43] (C2Rel wc d (k * 8) r) (fun _ v _ => r - (intOf v).toNat)
        case atStart =>
          refine ⟨0, Nat.zero_le _, rfl, ?_, Mod.refl _ _⟩
          rw [show 8 * (k * 8 + 0) = 64 * k by omega]
        case round =>
          obtain ⟨j, hj, rfl, rfl, hmr⟩ := hrel
          by_cases hlt : j < r
          · obtain rfl := HA.out (by omega)
            have ck := sl_cell (hd2.mod hmr (by simp)) (k * 8 + j) (by omega)
            rw [← Nat.add_assoc] at ck
            have O := oc8_any wr (d.getD (k * 8 + j) 0) (hs.get _)
            rw [← cnt8 d (k * 8 + j)] at O
            have O1 := hide O
            have hF : C2Rel wc d (k * 8) r (.int .i64 ((cnt d 0 (8 * (k * 8 + j)) : Int) + (cnt d (8 * (k * 8 + j)) 8 : Int))) (.int .i64 ((j : Int) + 1)) wr := by
              refine ⟨j + 1, by omega, by simp, ?_, hmr⟩
              rw [show 8 * (k * 8 + (j + 1)) = 8 * (k * 8 + j) + 8 by omega, cnt_add]
              simp
            have HF := Lib.hid hF
            have n1 := cnt_le d 0 (8 * (k * 8 + j))
            have n2 := cnt_le d (8 * (k * 8 + j)) 8
            generalize cnt d 0 (8 * (k * 8 + j)) = x1 at HF n1
            generalize cnt d (8 * (k * 8 + j)) 8 = x2 at HF n2 O1
            generalize d.getD (k * 8 + j) 0 = vv at ck O1
            clear O hF hd2 hM2
            go_wp2_with (go_at_call 48; (with_reducible refine (unhide O1).mono ?_); rintro e w' ⟨rfl, rfl⟩)
            all_goals exact ⟨HF.out, by simp [intOf]; omega⟩
          · obtain rfl : j = r := by omega
            clear HA
            have hm3 := hm2.trans hmr (by simp)
            have hd3 := hd2.mod hmr (by simp)
            have hM3 : Msk wr := fun i hi => hmr.cell (hM2 i hi) (by simp)
            have e7 := andNot7_i64 N (by omega)
            rw [he] at e7
            rw [hrr]
            obtain ⟨wo, rfl⟩ : ∃ wo : World, wo = wr := ⟨_, rfl⟩
            go_wp2_with fail
            go_loopw [7, 13] (C3Rel wo d N) (fun _ v _ => N - (intOf v).toNat)
            case atStart =>
              refine ⟨e8 * 8, by omega, by simp, ?_, Mod.refl _ _⟩
              rw [Nat.mul_comm]
            case round =>
              obtain ⟨i, hi, rfl, rfl, hmq⟩ := hrel
              by_cases hlt3 : i < N
              · have ck := sl_cell (hd3.mod hmq (by simp)) (i / 8) (by omega)
                have hM4 : Msk wr := fun i hi => hmq.cell (hM3 i hi) (by simp)
                have B1 := hide (isSet_any wr b off n c i d hs (by omega) (by omega) ck hM4)
                have hF : ∀ wx : World, Mod [] wr wx → C3Rel wo d N (.int .i64 ((cnt d 0 i : Int) + ((bitAt d i).toNat : Int))) (.int .i64 ((i : Int) + 1)) wx := by
                  intro wx hx
                  refine ⟨i + 1, by omega, by simp, ?_, hmq.trans hx (by simp)⟩
                  rw [cnt, Nat.zero_add]
                  simp
                have HF := Lib.hid hF
                have n1 := cnt_le d 0 i
                generalize cnt d 0 i = x1 at HF n1
                generalize bitAt d i = bb at HF B1
                clear hF hd3 hM4 hM3 ck
                cases bb
                all_goals
                  simp only [Bool.toNat_false, Bool.toNat_true, Int.natCast_zero, Int.add_zero] at HF
                  go_wp2_with (go_at_call 49; (with_reducible refine (unhide B1).mono ?_); rintro e w' ⟨rfl, hmx⟩)
                  exact ⟨HF.out _ hmx, by simp [intOf]; omega⟩
              · obtain rfl : i = N := by omega
                go_wp2_with fail
                go_ret
                exact ⟨rfl, hm3.trans hmq (by simp)⟩
end Go.Proofs.YtfodkdadbcojeaaDoor
