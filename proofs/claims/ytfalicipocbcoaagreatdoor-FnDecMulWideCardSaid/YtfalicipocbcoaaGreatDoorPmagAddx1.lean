-- PRINTED BY print.sh 35421559b90ae4d0a3588c463048766b98c2df88dd9212a6774a882060cdf62d: not written by this session
import Derived.Test.YtfalicipocbcoaaGreatDoorPmagAddx0
namespace Go.Proofs.YtfalicipocbcoaaGreatDoor.PmagAdd
open Go.RowKit Go.Proofs.YtfalicipocbcoaaGreatDoorW.PrintWords Go.Proofs.YtfalicipocbcoaaGreatDoorW.PrintLast Go.Proofs.YtfalicipocbcoaaGreatDoorW.PrintMore
attribute [local go_sem] max2_int min2_int max_two min_two max_three min_three max_four min_four   -- for this text's walks alone
set_option linter.unusedVariables false
set_option linter.unusedSimpArgs false

/-! ### spec_magAdd: function 44 -/
mutual
def spec_magAdd.l0 : Nat → List Int → List Int → List Int → Int → Int → Option (List Int)
  | 0, _, _, _, _, _ => none
  | k + 1, x0, x1, x5, x6, x7 => if x7 < (x0.length : Int) then (spec_magAdd.j1 k x0 x1 x5 x6 x7 true) else (if x7 < (x1.length : Int) then (spec_magAdd.j1 k x0 x1 x5 x6 x7 true) else (spec_magAdd.j1 k x0 x1 x5 x6 x7 (decide (x6 > 0))))
def spec_magAdd.j1 : Nat → List Int → List Int → List Int → Int → Int → Bool → Option (List Int)
  | 0, _, _, _, _, _, _ => none
  | k + 1, x0, x1, x5, x6, x7, x21 => if x21 = true then (if x7 < (x0.length : Int) then (if 0 ≤ x7 then (if x7 < (x1.length : Int) then (if x5.length < 35184372088832 then (spec_magAdd.l0 k x0 x1 (x5 ++ [(IntKind.u64.wrap ((IntKind.u64.wrap (x6 + (IntKind.u64.wrap (rd x0 x7)))) + (IntKind.u64.wrap (rd x1 x7)))) % 4294967296]) ((IntKind.u64.wrap ((IntKind.u64.wrap (x6 + (IntKind.u64.wrap (rd x0 x7)))) + (IntKind.u64.wrap (rd x1 x7)))) / 4294967296) (wrap64 (x7 + 1))) else (none)) else (if x5.length < 35184372088832 then (spec_magAdd.l0 k x0 x1 (x5 ++ [(IntKind.u64.wrap (x6 + (IntKind.u64.wrap (rd x0 x7)))) % 4294967296]) ((IntKind.u64.wrap (x6 + (IntKind.u64.wrap (rd x0 x7)))) / 4294967296) (wrap64 (x7 + 1))) else (none))) else (none)) else (if x7 < (x1.length : Int) then (if 0 ≤ x7 then (if x5.length < 35184372088832 then (spec_magAdd.l0 k x0 x1 (x5 ++ [(IntKind.u64.wrap (x6 + (IntKind.u64.wrap (rd x1 x7)))) % 4294967296]) ((IntKind.u64.wrap (x6 + (IntKind.u64.wrap (rd x1 x7)))) / 4294967296) (wrap64 (x7 + 1))) else (none)) else (none)) else (if x5.length < 35184372088832 then (spec_magAdd.l0 k x0 x1 (x5 ++ [(x6) % 4294967296]) (x6 / 4294967296) (wrap64 (x7 + 1))) else (none)))) else (some x5)
end
def spec_magAdd.f (k : Nat) (l0 : List Int) (l1 : List Int) : Option (List Int) := spec_magAdd.l0 k l0 l1 ([] : List Int) 0 0
theorem spec_magAdd.mono_l : ∀ k, (∀ y0 y1 y2 y3 y4, LeO (spec_magAdd.l0 k y0 y1 y2 y3 y4) (spec_magAdd.l0 (k + 1) y0 y1 y2 y3 y4)) ∧ (∀ y0 y1 y2 y3 y4 y5, LeO (spec_magAdd.j1 k y0 y1 y2 y3 y4 y5) (spec_magAdd.j1 (k + 1) y0 y1 y2 y3 y4 y5))
  | 0 => ⟨fun _ _ _ _ _ r h => by simp [spec_magAdd.l0] at h, fun _ _ _ _ _ _ r h => by simp [spec_magAdd.j1] at h⟩
  | k + 1 => by
    obtain ⟨ih0, ih1⟩ := spec_magAdd.mono_l k
    refine ⟨?_, ?_⟩
    · intro y0 y1 y2 y3 y4
      unfold spec_magAdd.l0
      repeat' first
      | (with_reducible exact ih0 _ _ _ _ _)
      | (with_reducible exact ih1 _ _ _ _ _ _)
      | (with_reducible exact LeO.refl _)
      | (with_reducible exact LeO.none _)
      | (with_reducible refine LeO.ite ?_ ?_)
      | (with_reducible refine LeO.bind ?_ (fun _ => ?_))
      | exact ih0 _ _ _ _ _
      | exact ih1 _ _ _ _ _ _
      | exact LeO.none _
      | refine LeO.ite ?_ ?_
      | refine LeO.bind ?_ (fun _ => ?_)
    · intro y0 y1 y2 y3 y4 y5
      unfold spec_magAdd.j1
      repeat' first
      | (with_reducible exact ih0 _ _ _ _ _)
      | (with_reducible exact ih1 _ _ _ _ _ _)
      | (with_reducible exact LeO.refl _)
      | (with_reducible exact LeO.none _)
      | (with_reducible refine LeO.ite ?_ ?_)
      | (with_reducible refine LeO.bind ?_ (fun _ => ?_))
      | exact ih0 _ _ _ _ _
      | exact ih1 _ _ _ _ _ _
      | exact LeO.none _
      | refine LeO.ite ?_ ?_
      | refine LeO.bind ?_ (fun _ => ?_)
theorem spec_magAdd.mono : ∀ a0 a1 k, LeO (spec_magAdd.f k a0 a1) (spec_magAdd.f (k + 1) a0 a1) := by
  intro a0 a1 k
  obtain ⟨ih0, ih1⟩ := spec_magAdd.mono_l k
  unfold spec_magAdd.f
  repeat' first
      | (with_reducible exact ih0 _ _ _ _ _)
      | (with_reducible exact ih1 _ _ _ _ _ _)
      | (with_reducible exact LeO.refl _)
      | (with_reducible exact LeO.none _)
      | (with_reducible refine LeO.ite ?_ ?_)
      | (with_reducible refine LeO.bind ?_ (fun _ => ?_))
      | exact ih0 _ _ _ _ _
      | exact ih1 _ _ _ _ _ _
      | exact LeO.none _
      | refine LeO.ite ?_ ?_
      | refine LeO.bind ?_ (fun _ => ?_)
set_option maxHeartbeats 8000000 in
set_option maxRecDepth 100000 in
theorem spec_magAdd.calls (k : Nat) (A0 : Option Addr) (c0 : Nat) (l0 : List Int) (A1 : Option Addr) (c1 : Nat) (l1 : List Int) (r : List Int) (w : World) (hr0 : Kd.C (Kd.int .u32) w A0 l0.length l0) (hc0 : l0.length ≤ c0) (hr1 : Kd.C (Kd.int .u32) w A1 l1.length l1) (hc1 : l1.length ≤ c1) (h : spec_magAdd.f k l0 l1 = some r) :
    Calls Tryz.prog 44 #[.slice A0 l0.length c0, .slice A1 l1.length c1] w fun e w' => ∃ v0_ : Value, e = .returned (v0_) ∧ Kd.R (Kd.int .u32) 69 w' w.heap.size (fun _ => True) v0_ r ∧ Below w.heap.size w w' := by
  have HR0 := Aside0.mk hr0
  have HC0 := Aside0.mk hc0
  clear hr0 hc0
  have HR1 := Aside0.mk hr1
  have HC1 := Aside0.mk hc1
  clear hr1 hc1
  have HB := Aside0.mk (Below.refl w.heap.size w)
  have H : (spec_magAdd.l0 k l0 l1 ([] : List Int) 0 0) = some r := h
  clear h
  have H' := Aside0.mk H
  clear H
  go_enter Tryz.func44, Tryz.ntmps44
  go_wp2
  go_loopg [5, 6, 7] k (fun kq v5 v6 v7 w' => ∃ (x5_1 : List Int) (x6_1 : Int) (x7_1 : Int), v6 = .int .u64 x6_1 ∧ v7 = .int .i64 x7_1 ∧ Aside0 (spec_magAdd.l0 kq l0 l1 x5_1 x6_1 x7_1 = some r) ∧ Aside0 (kq ≤ k) ∧ Aside0 (Kd.R (Kd.int .u32) 69 w' w.heap.size (fun _ => True) v5 x5_1) ∧ Aside0 (Below w.heap.size w w'))
  case atStart => exact ⟨(([] : List Int)), (0), (0), (by first | rfl | (simp; done) | (simp [*]; done)), (by first | rfl | (simp; done) | (simp [*]; done)), H', ⟨Nat.le_refl _⟩, ⟨by first | exact Kd.R_nil _ _ _ _ _ | exact Kd.N_nil _ _ _ _ _ | exact Kd.V_nil _ _ _ _ _ | exact Kd.Q_nil _ _ _ _ _ | exact Kd.S_nil _ _ _ _ _⟩, ⟨by repeat (first | (with_reducible first | exact HB.out | apply below_alloc | apply pw_below_drewN | apply below_drew1) | exact HB.out)⟩⟩
  case round =>
    clear H'
    try clear c1
    try clear p2
    obtain ⟨x5_1, x6_1, x7_1, rfl, rfl, HA, HK1, HO_5, HB⟩ := hrel
    cases gk with
    | zero => exact absurd HA.out (by simp [spec_magAdd.l0])
    | succ k1 =>
      have H := HA.out
      clear HA
      simp only [spec_magAdd.l0] at H
      have HC3 := Aside0.mk H
      clear H
      go_upto_region 4 with (fail)
      go_cut [21] (fun v21 wc => ∃ (kq : Nat) (x21_2 : Bool), v21 = .bool x21_2 ∧ Aside0 (spec_magAdd.j1 kq l0 l1 x5_1 x6_1 x7_1 x21_2 = some r) ∧ Aside0 (kq ≤ k1) ∧ Aside0 (Kd.R (Kd.int .u32) 69 wc w.heap.size (fun _ => True) u5 x5_1) ∧ Aside0 (Below w.heap.size w wc))
      case first =>
        have H := HC3.out
        clear HC3
        by_cases c4 : x7_1 < (l0.length : Int)
        · rw [if_pos c4] at H
          have c4b0 : decide (x7_1 < (l0.length : Int)) = true := decide_eq_true c4
          clear c4
          (first | rw [c4b0] | (simp only [i64_w, i32_w]; rw [c4b0]) | skip)
          have H' := Aside0.mk H
          clear H
          go_wp2
          go_meet
          case rel => exact ⟨_, (true), (by first | rfl | (simp; done) | (simp [*]; done)), H', ⟨by have := HK1.out; first | omega | exact Nat.le_refl _⟩, ⟨by (with_reducible repeat (first | apply Kd.R_alloc | apply Kd.R_drewN | apply Kd.R_drew)); exact HO_5.out⟩, ⟨by repeat (first | (with_reducible first | exact HB.out | apply below_alloc | apply pw_below_drewN | apply below_drew1) | exact HB.out)⟩⟩
        · rw [if_neg c4] at H
          have c4b0 : decide (x7_1 < (l0.length : Int)) = false := decide_eq_false c4
          clear c4
          (first | rw [c4b0] | (simp only [i64_w, i32_w]; rw [c4b0]) | skip)
          by_cases c5 : x7_1 < (l1.length : Int)
          · rw [if_pos c5] at H
            have c5b0 : decide (x7_1 < (l1.length : Int)) = true := decide_eq_true c5
            clear c5
            have H' := Aside0.mk H
            clear H
            go_wp2
            go_meet
            case rel => exact ⟨_, (true), (by first | rfl | (simp; done) | (simp [*]; done)), H', ⟨by have := HK1.out; first | omega | exact Nat.le_refl _⟩, ⟨by (with_reducible repeat (first | apply Kd.R_alloc | apply Kd.R_drewN | apply Kd.R_drew)); exact HO_5.out⟩, ⟨by repeat (first | (with_reducible first | exact HB.out | apply below_alloc | apply pw_below_drewN | apply below_drew1) | exact HB.out)⟩⟩
          · rw [if_neg c5] at H
            have c5b0 : decide (x7_1 < (l1.length : Int)) = false := decide_eq_false c5
            clear c5
            have H' := Aside0.mk H
            clear H
            go_wp2
            go_meet
            case rel => exact ⟨_, (decide (x6_1 > 0)), (by first | rfl | (simp; done) | (simp [*]; done)), H', ⟨by have := HK1.out; first | omega | exact Nat.le_refl _⟩, ⟨by (with_reducible repeat (first | apply Kd.R_alloc | apply Kd.R_drewN | apply Kd.R_drew)); exact HO_5.out⟩, ⟨by repeat (first | (with_reducible first | exact HB.out | apply below_alloc | apply pw_below_drewN | apply below_drew1) | exact HB.out)⟩⟩
      case rest =>
        clear HC3
        try clear c1
        try clear p2
        try clear c4
        try clear c4b0
        try clear c5
        try clear c5b0
        try clear p2
        obtain ⟨kq, x21_2, rfl, HA, HJ2, HO_5, HB⟩ := hcut
        cases kq with
        | zero => exact absurd HA.out (by simp [spec_magAdd.j1])
        | succ kj2 =>
          have H := HA.out
          clear HA
          simp only [spec_magAdd.j1] at H
          by_cases c6 : x21_2 = true
          · subst c6
            have H1 : (if x7_1 < (l0.length : Int) then (if 0 ≤ x7_1 then (if x7_1 < (l1.length : Int) then (if x5_1.length < 35184372088832 then (spec_magAdd.l0 kj2 l0 l1 (x5_1 ++ [(IntKind.u64.wrap ((IntKind.u64.wrap (x6_1 + (IntKind.u64.wrap (rd l0 x7_1)))) + (IntKind.u64.wrap (rd l1 x7_1)))) % 4294967296]) ((IntKind.u64.wrap ((IntKind.u64.wrap (x6_1 + (IntKind.u64.wrap (rd l0 x7_1)))) + (IntKind.u64.wrap (rd l1 x7_1)))) / 4294967296) (wrap64 (x7_1 + 1))) else (none)) else (if x5_1.length < 35184372088832 then (spec_magAdd.l0 kj2 l0 l1 (x5_1 ++ [(IntKind.u64.wrap (x6_1 + (IntKind.u64.wrap (rd l0 x7_1)))) % 4294967296]) ((IntKind.u64.wrap (x6_1 + (IntKind.u64.wrap (rd l0 x7_1)))) / 4294967296) (wrap64 (x7_1 + 1))) else (none))) else (none)) else (if x7_1 < (l1.length : Int) then (if 0 ≤ x7_1 then (if x5_1.length < 35184372088832 then (spec_magAdd.l0 kj2 l0 l1 (x5_1 ++ [(IntKind.u64.wrap (x6_1 + (IntKind.u64.wrap (rd l1 x7_1)))) % 4294967296]) ((IntKind.u64.wrap (x6_1 + (IntKind.u64.wrap (rd l1 x7_1)))) / 4294967296) (wrap64 (x7_1 + 1))) else (none)) else (none)) else (if x5_1.length < 35184372088832 then (spec_magAdd.l0 kj2 l0 l1 (x5_1 ++ [(x6_1) % 4294967296]) (x6_1 / 4294967296) (wrap64 (x7_1 + 1))) else (none)))) = some r := by rw [if_pos rfl] at H; exact H
            clear H
            have H := H1
            clear H1
            by_cases c7 : x7_1 < (l0.length : Int)
            · rw [if_pos c7] at H
              have c7b0 : decide (x7_1 < (l0.length : Int)) = true := decide_eq_true c7
              clear c7
              by_cases c8 : 0 ≤ x7_1
              · rw [if_pos c8] at H
                have c8b0 : decide (0 ≤ x7_1) = true := decide_eq_true c8
                clear c8
                by_cases c9 : x7_1 < (l1.length : Int)
                · rw [if_pos c9] at H
                  have c9b0 : decide (x7_1 < (l1.length : Int)) = true := decide_eq_true c9
                  clear c9
                  by_cases c10 : x5_1.length < 35184372088832
                  · rw [if_pos c10] at H
                    have LMc10 := Aside0.mk c10
                    clear c10
                    obtain ⟨y103, hy103⟩ : ∃ y_ : List Int, y_ = (x5_1 ++ [(IntKind.u64.wrap ((IntKind.u64.wrap (x6_1 + (IntKind.u64.wrap (rd l0 x7_1)))) + (IntKind.u64.wrap (rd l1 x7_1)))) % 4294967296]) := ⟨_, rfl⟩
                    replace H : (spec_magAdd.l0 kj2 l0 l1 y103 ((IntKind.u64.wrap ((IntKind.u64.wrap (x6_1 + (IntKind.u64.wrap (rd l0 x7_1)))) + (IntKind.u64.wrap (rd l1 x7_1)))) / 4294967296) (wrap64 (x7_1 + 1))) = some r := by first | (rw [hy103]; with_reducible exact H) | (have H2_ := (Option.bind_some _ _).symm.trans H; rw [hy103]; with_reducible exact H2_) | (have H2_ := (Option.bind_some _ _).symm.trans H; with_reducible exact H2_) | with_reducible exact H | (rw [hy103]; exact H) | exact H
                    have Ny103 := Aside0.mk hy103
                    clear hy103
                    have H' := Aside0.mk H
                    clear H
                    have p101 : 0 ≤ (x7_1 : Int) := of_decide_eq_true (by first | (with_reducible assumption) | assumption)
                    have q101 : x7_1 < (l0.length : Int) := of_decide_eq_true (by first | (with_reducible assumption) | assumption)
                    obtain ⟨ad101, e101, hx101_0⟩ := Kd.at_int HR0.out x7_1 p101 q101
                    cases e101
                    replace hx101_0 := (HB.out.cell (World.block_lt_of_cell? w _ hx101_0)).trans hx101_0
                    replace p101 := eq_true p101
                    replace q101 := eq_true q101
                    have p102 : 0 ≤ (x7_1 : Int) := of_decide_eq_true (by first | (with_reducible assumption) | assumption)
                    have q102 : x7_1 < (l1.length : Int) := of_decide_eq_true (by first | (with_reducible assumption) | assumption)
                    obtain ⟨ad102, e102, hx102_0⟩ := Kd.at_int HR1.out x7_1 p102 q102
                    cases e102
                    replace hx102_0 := (HB.out.cell (World.block_lt_of_cell? w _ hx102_0)).trans hx102_0
                    replace p102 := eq_true p102
                    replace q102 := eq_true q102
                    go_wp2_with (first | ((with_reducible refine gate_builtin (b := .append) (xs := #[.tmp 46, .tmp 49]) rfl ?_); (try (refine gate_guard (by rfl) ?_; dsimp only)); at_builtin; refine Kd.R_append (Kd.int .u32) (w0 := w) w.heap.size rfl (.tmp 46) (.tmp 49) 27 69 (.int .u32 0) 4 rfl Tryz.underlying27 info69 rfl (by decide) (by omega) u5 x5_1 ((IntKind.u64.wrap ((IntKind.u64.wrap (x6_1 + (IntKind.u64.wrap (rd l0 x7_1)))) + (IntKind.u64.wrap (rd l1 x7_1)))) % 4294967296) [.int .u32 ((IntKind.u64.wrap ((IntKind.u64.wrap (x6_1 + (IntKind.u64.wrap (rd l0 x7_1)))) + (IntKind.u64.wrap (rd l1 x7_1)))) % 4294967296)] (fun _ => True) (fun _ => False) rfl rfl ?aP (fun _ hk => hk.elim) ?aF ?aO ?aB ?aS ?aL ?_; (case aP => exact rfl); (case aB => exact (by repeat (first | (with_reducible first | exact HB.out | apply below_alloc | apply pw_below_drewN | apply below_drew1) | exact HB.out))); (case aF => exact (fun _ _ => trivial)); (case aO => exact (by (with_reducible repeat (first | apply Kd.R_alloc | apply Kd.R_drewN | apply Kd.R_drew)); exact HO_5.out)); (case aS => exact (below_size (by repeat (first | (with_reducible first | exact HB.out | apply below_alloc | apply pw_below_drewN | apply below_drew1) | exact HB.out)))); (case aL => have := LMc10.out; omega); intro v104 w11 ho hb hg hat; rw [← Ny103.out] at ho; have n0_ := Aside0.mk (hb); have n1_ := Aside0.mk (ho); clear HB; clear HO_5; have HB := n0_; have HO105 := n1_; clear n0_ n1_; clear ho hb hg hat))
                    go_roundg kj2
                    case measure => have := HK1.out; have := HJ2.out; omega
                    case rel => exact ⟨(y103), ((IntKind.u64.wrap ((IntKind.u64.wrap (x6_1 + (IntKind.u64.wrap (rd l0 x7_1)))) + (IntKind.u64.wrap (rd l1 x7_1)))) / 4294967296), (wrap64 (x7_1 + 1)), (by first | rfl | (simp; done) | (simp [*]; done)), (by first | rfl | (simp; done) | (simp [*]; done)), H', ⟨by have := HK1.out; have := HJ2.out; omega⟩, ⟨by (with_reducible repeat (first | apply Kd.R_alloc | apply Kd.R_drewN | apply Kd.R_drew)); exact HO105.out⟩, ⟨by repeat (first | (with_reducible first | exact HB.out | apply below_alloc | apply pw_below_drewN | apply below_drew1) | exact HB.out)⟩⟩
                  · rw [if_neg c10] at H
                    exact absurd H (by simp)
                · rw [if_neg c9] at H
                  have c9b0 : decide (x7_1 < (l1.length : Int)) = false := decide_eq_false c9
                  clear c9
                  by_cases c12 : x5_1.length < 35184372088832
                  · rw [if_pos c12] at H
                    have LMc12 := Aside0.mk c12
                    clear c12
                    obtain ⟨y106, hy106⟩ : ∃ y_ : List Int, y_ = (x5_1 ++ [(IntKind.u64.wrap (x6_1 + (IntKind.u64.wrap (rd l0 x7_1)))) % 4294967296]) := ⟨_, rfl⟩
                    replace H : (spec_magAdd.l0 kj2 l0 l1 y106 ((IntKind.u64.wrap (x6_1 + (IntKind.u64.wrap (rd l0 x7_1)))) / 4294967296) (wrap64 (x7_1 + 1))) = some r := by first | (rw [hy106]; with_reducible exact H) | (have H2_ := (Option.bind_some _ _).symm.trans H; rw [hy106]; with_reducible exact H2_) | (have H2_ := (Option.bind_some _ _).symm.trans H; with_reducible exact H2_) | with_reducible exact H | (rw [hy106]; exact H) | exact H
                    have Ny106 := Aside0.mk hy106
                    clear hy106
                    have H' := Aside0.mk H
                    clear H
                    have p101 : 0 ≤ (x7_1 : Int) := of_decide_eq_true (by first | (with_reducible assumption) | assumption)
                    have q101 : x7_1 < (l0.length : Int) := of_decide_eq_true (by first | (with_reducible assumption) | assumption)
                    obtain ⟨ad101, e101, hx101_0⟩ := Kd.at_int HR0.out x7_1 p101 q101
                    cases e101
                    replace hx101_0 := (HB.out.cell (World.block_lt_of_cell? w _ hx101_0)).trans hx101_0
                    replace p101 := eq_true p101
                    replace q101 := eq_true q101
                    go_wp2_with (first | ((with_reducible refine gate_builtin (b := .append) (xs := #[.tmp 46, .tmp 49]) rfl ?_); (try (refine gate_guard (by rfl) ?_; dsimp only)); at_builtin; refine Kd.R_append (Kd.int .u32) (w0 := w) w.heap.size rfl (.tmp 46) (.tmp 49) 27 69 (.int .u32 0) 4 rfl Tryz.underlying27 info69 rfl (by decide) (by omega) u5 x5_1 ((IntKind.u64.wrap (x6_1 + (IntKind.u64.wrap (rd l0 x7_1)))) % 4294967296) [.int .u32 ((IntKind.u64.wrap (x6_1 + (IntKind.u64.wrap (rd l0 x7_1)))) % 4294967296)] (fun _ => True) (fun _ => False) rfl rfl ?aP (fun _ hk => hk.elim) ?aF ?aO ?aB ?aS ?aL ?_; (case aP => exact rfl); (case aB => exact (by repeat (first | (with_reducible first | exact HB.out | apply below_alloc | apply pw_below_drewN | apply below_drew1) | exact HB.out))); (case aF => exact (fun _ _ => trivial)); (case aO => exact (by (with_reducible repeat (first | apply Kd.R_alloc | apply Kd.R_drewN | apply Kd.R_drew)); exact HO_5.out)); (case aS => exact (below_size (by repeat (first | (with_reducible first | exact HB.out | apply below_alloc | apply pw_below_drewN | apply below_drew1) | exact HB.out)))); (case aL => have := LMc12.out; omega); intro v107 w13 ho hb hg hat; rw [← Ny106.out] at ho; have n0_ := Aside0.mk (hb); have n1_ := Aside0.mk (ho); clear HB; clear HO_5; have HB := n0_; have HO108 := n1_; clear n0_ n1_; clear ho hb hg hat))
                    go_roundg kj2
                    case measure => have := HK1.out; have := HJ2.out; omega
                    case rel => exact ⟨(y106), ((IntKind.u64.wrap (x6_1 + (IntKind.u64.wrap (rd l0 x7_1)))) / 4294967296), (wrap64 (x7_1 + 1)), (by first | rfl | (simp; done) | (simp [*]; done)), (by first | rfl | (simp; done) | (simp [*]; done)), H', ⟨by have := HK1.out; have := HJ2.out; omega⟩, ⟨by (with_reducible repeat (first | apply Kd.R_alloc | apply Kd.R_drewN | apply Kd.R_drew)); exact HO108.out⟩, ⟨by repeat (first | (with_reducible first | exact HB.out | apply below_alloc | apply pw_below_drewN | apply below_drew1) | exact HB.out)⟩⟩
                  · rw [if_neg c12] at H
                    exact absurd H (by simp)
              · rw [if_neg c8] at H
                exact absurd H (by simp)
            · rw [if_neg c7] at H
              have c7b0 : decide (x7_1 < (l0.length : Int)) = false := decide_eq_false c7
              clear c7
              by_cases c14 : x7_1 < (l1.length : Int)
              · rw [if_pos c14] at H
                have c14b0 : decide (x7_1 < (l1.length : Int)) = true := decide_eq_true c14
                clear c14
                by_cases c15 : 0 ≤ x7_1
                · rw [if_pos c15] at H
                  have c15b0 : decide (0 ≤ x7_1) = true := decide_eq_true c15
                  clear c15
                  by_cases c16 : x5_1.length < 35184372088832
                  · rw [if_pos c16] at H
                    have LMc16 := Aside0.mk c16
                    clear c16
                    obtain ⟨y110, hy110⟩ : ∃ y_ : List Int, y_ = (x5_1 ++ [(IntKind.u64.wrap (x6_1 + (IntKind.u64.wrap (rd l1 x7_1)))) % 4294967296]) := ⟨_, rfl⟩
                    replace H : (spec_magAdd.l0 kj2 l0 l1 y110 ((IntKind.u64.wrap (x6_1 + (IntKind.u64.wrap (rd l1 x7_1)))) / 4294967296) (wrap64 (x7_1 + 1))) = some r := by first | (rw [hy110]; with_reducible exact H) | (have H2_ := (Option.bind_some _ _).symm.trans H; rw [hy110]; with_reducible exact H2_) | (have H2_ := (Option.bind_some _ _).symm.trans H; with_reducible exact H2_) | with_reducible exact H | (rw [hy110]; exact H) | exact H
                    have Ny110 := Aside0.mk hy110
                    clear hy110
                    have H' := Aside0.mk H
                    clear H
                    have p109 : 0 ≤ (x7_1 : Int) := of_decide_eq_true (by first | (with_reducible assumption) | assumption)
                    have q109 : x7_1 < (l1.length : Int) := of_decide_eq_true (by first | (with_reducible assumption) | assumption)
                    obtain ⟨ad109, e109, hx109_0⟩ := Kd.at_int HR1.out x7_1 p109 q109
                    cases e109
                    replace hx109_0 := (HB.out.cell (World.block_lt_of_cell? w _ hx109_0)).trans hx109_0
                    replace p109 := eq_true p109
                    replace q109 := eq_true q109
                    go_wp2_with (first | ((with_reducible refine gate_builtin (b := .append) (xs := #[.tmp 46, .tmp 49]) rfl ?_); (try (refine gate_guard (by rfl) ?_; dsimp only)); at_builtin; refine Kd.R_append (Kd.int .u32) (w0 := w) w.heap.size rfl (.tmp 46) (.tmp 49) 27 69 (.int .u32 0) 4 rfl Tryz.underlying27 info69 rfl (by decide) (by omega) u5 x5_1 ((IntKind.u64.wrap (x6_1 + (IntKind.u64.wrap (rd l1 x7_1)))) % 4294967296) [.int .u32 ((IntKind.u64.wrap (x6_1 + (IntKind.u64.wrap (rd l1 x7_1)))) % 4294967296)] (fun _ => True) (fun _ => False) rfl rfl ?aP (fun _ hk => hk.elim) ?aF ?aO ?aB ?aS ?aL ?_; (case aP => exact rfl); (case aB => exact (by repeat (first | (with_reducible first | exact HB.out | apply below_alloc | apply pw_below_drewN | apply below_drew1) | exact HB.out))); (case aF => exact (fun _ _ => trivial)); (case aO => exact (by (with_reducible repeat (first | apply Kd.R_alloc | apply Kd.R_drewN | apply Kd.R_drew)); exact HO_5.out)); (case aS => exact (below_size (by repeat (first | (with_reducible first | exact HB.out | apply below_alloc | apply pw_below_drewN | apply below_drew1) | exact HB.out)))); (case aL => have := LMc16.out; omega); intro v111 w17 ho hb hg hat; rw [← Ny110.out] at ho; have n0_ := Aside0.mk (hb); have n1_ := Aside0.mk (ho); clear HB; clear HO_5; have HB := n0_; have HO112 := n1_; clear n0_ n1_; clear ho hb hg hat))
                    go_roundg kj2
                    case measure => have := HK1.out; have := HJ2.out; omega
                    case rel => exact ⟨(y110), ((IntKind.u64.wrap (x6_1 + (IntKind.u64.wrap (rd l1 x7_1)))) / 4294967296), (wrap64 (x7_1 + 1)), (by first | rfl | (simp; done) | (simp [*]; done)), (by first | rfl | (simp; done) | (simp [*]; done)), H', ⟨by have := HK1.out; have := HJ2.out; omega⟩, ⟨by (with_reducible repeat (first | apply Kd.R_alloc | apply Kd.R_drewN | apply Kd.R_drew)); exact HO112.out⟩, ⟨by repeat (first | (with_reducible first | exact HB.out | apply below_alloc | apply pw_below_drewN | apply below_drew1) | exact HB.out)⟩⟩
                  · rw [if_neg c16] at H
                    exact absurd H (by simp)
                · rw [if_neg c15] at H
                  exact absurd H (by simp)
              · rw [if_neg c14] at H
                have c14b0 : decide (x7_1 < (l1.length : Int)) = false := decide_eq_false c14
                clear c14
                by_cases c18 : x5_1.length < 35184372088832
                · rw [if_pos c18] at H
                  have LMc18 := Aside0.mk c18
                  clear c18
                  obtain ⟨y113, hy113⟩ : ∃ y_ : List Int, y_ = (x5_1 ++ [(x6_1) % 4294967296]) := ⟨_, rfl⟩
                  replace H : (spec_magAdd.l0 kj2 l0 l1 y113 (x6_1 / 4294967296) (wrap64 (x7_1 + 1))) = some r := by first | (rw [hy113]; with_reducible exact H) | (have H2_ := (Option.bind_some _ _).symm.trans H; rw [hy113]; with_reducible exact H2_) | (have H2_ := (Option.bind_some _ _).symm.trans H; with_reducible exact H2_) | with_reducible exact H | (rw [hy113]; exact H) | exact H
                  have Ny113 := Aside0.mk hy113
                  clear hy113
                  have H' := Aside0.mk H
                  clear H
                  go_wp2_with (first | ((with_reducible refine gate_builtin (b := .append) (xs := #[.tmp 46, .tmp 49]) rfl ?_); (try (refine gate_guard (by rfl) ?_; dsimp only)); at_builtin; refine Kd.R_append (Kd.int .u32) (w0 := w) w.heap.size rfl (.tmp 46) (.tmp 49) 27 69 (.int .u32 0) 4 rfl Tryz.underlying27 info69 rfl (by decide) (by omega) u5 x5_1 ((x6_1) % 4294967296) [.int .u32 ((x6_1) % 4294967296)] (fun _ => True) (fun _ => False) rfl rfl ?aP (fun _ hk => hk.elim) ?aF ?aO ?aB ?aS ?aL ?_; (case aP => exact rfl); (case aB => exact (by repeat (first | (with_reducible first | exact HB.out | apply below_alloc | apply pw_below_drewN | apply below_drew1) | exact HB.out))); (case aF => exact (fun _ _ => trivial)); (case aO => exact (by (with_reducible repeat (first | apply Kd.R_alloc | apply Kd.R_drewN | apply Kd.R_drew)); exact HO_5.out)); (case aS => exact (below_size (by repeat (first | (with_reducible first | exact HB.out | apply below_alloc | apply pw_below_drewN | apply below_drew1) | exact HB.out)))); (case aL => have := LMc18.out; omega); intro v114 w19 ho hb hg hat; rw [← Ny113.out] at ho; have n0_ := Aside0.mk (hb); have n1_ := Aside0.mk (ho); clear HB; clear HO_5; have HB := n0_; have HO115 := n1_; clear n0_ n1_; clear ho hb hg hat))
                  go_roundg kj2
                  case measure => have := HK1.out; have := HJ2.out; omega
                  case rel => exact ⟨(y113), (x6_1 / 4294967296), (wrap64 (x7_1 + 1)), (by first | rfl | (simp; done) | (simp [*]; done)), (by first | rfl | (simp; done) | (simp [*]; done)), H', ⟨by have := HK1.out; have := HJ2.out; omega⟩, ⟨by (with_reducible repeat (first | apply Kd.R_alloc | apply Kd.R_drewN | apply Kd.R_drew)); exact HO115.out⟩, ⟨by repeat (first | (with_reducible first | exact HB.out | apply below_alloc | apply pw_below_drewN | apply below_drew1) | exact HB.out)⟩⟩
                · rw [if_neg c18] at H
                  exact absurd H (by simp)
          · replace c6 := Bool.eq_false_iff.mpr c6
            subst c6
            have H1 : (some x5_1) = some r := by rw [if_neg (show ¬ (false = true) by decide)] at H; exact H
            clear H
            have H := H1
            clear H1
            obtain rfl := Option.some.inj H
            go_wp2
            go_ret
            exact ⟨_, by first | rfl | (simp [errW_none, errW_some] <;> rfl) | (simp [*, errW_none, errW_some] <;> rfl), by (with_reducible repeat (first | apply Kd.R_alloc | apply Kd.R_drewN | apply Kd.R_drew)); exact HO_5.out, by repeat (first | (with_reducible first | exact HB.out | apply below_alloc | apply pw_below_drewN | apply below_drew1) | exact HB.out)⟩

end Go.Proofs.YtfalicipocbcoaaGreatDoor.PmagAdd
