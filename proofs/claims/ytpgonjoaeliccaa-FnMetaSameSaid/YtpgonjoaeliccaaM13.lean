/- The law FnMetaSame: the walk, of at most 100 pairs on each side. (Ytpgonjoaeliccaa) -/
import Derived.Test.YtpgonjoaeliccaaM12
import Derived.Test.YtpgonjoaeliccaaM12b
set_option linter.unusedVariables false
set_option linter.unusedSimpArgs false
namespace Go.Proofs.Ytpgonjoaeliccaa
open Go.RowKit Go.ChangeShapes Go.WideShapes Go.ChangeAt
attribute [local go_sem ↓] Go.wp_at_zero Go.wp_at_succ
def L1 (w : World) (g : Nat) (va vb : Value) (N : Nat) (v : Value) (wr : World) : Prop := ∃ k : Nat, k ≤ N ∧ v = .int .i64 (k : Int) ∧ Blk wr g 22 #[va, vb] ∧ Below w.heap.size w wr
def smB (la lb : List Pr) (i : Nat) : Bool := decide (la.length = lb.length) && (List.range i).all fun x => decide (la.getD x dP = lb.getD x dP)
def stB (la lb : List Pr) (i : Nat) : Bool := decide (la.length = lb.length) && (List.range i).all fun x => (List.range lb.length).any fun y => decide (lb.getD y dP = la.getD x dP)
def fdB (lb : List Pr) (p : Pr) (j : Nat) : Bool := (List.range j).any fun y => decide (lb.getD y dP = p)
theorem smB_succ (la lb : List Pr) (i : Nat) : smB la lb (i + 1) = (smB la lb i && decide (la.getD i dP = lb.getD i dP)) := by
  unfold smB
  rw [List.range_succ, List.all_append, Bool.and_assoc]
  simp
theorem stB_succ (la lb : List Pr) (i : Nat) : stB la lb (i + 1) = (stB la lb i && fdB lb (la.getD i dP) lb.length) := by
  unfold stB fdB
  rw [List.range_succ, List.all_append, Bool.and_assoc]
  simp
theorem fdB_succ (lb : List Pr) (p : Pr) (j : Nat) : fdB lb p (j + 1) = (fdB lb p j || decide (lb.getD j dP = p)) := by
  unfold fdB
  rw [List.range_succ, List.any_append]
  simp
theorem law_end (la lb : List Pr) : ((stB la lb la.length && !smB la lb la.length) || (metaB la lb == smB la lb la.length)) = true := by
  cases hs : smB la lb la.length
  · cases ht : stB la lb la.length
    · cases hm : metaB la lb
      · rfl
      · exfalso
        obtain ⟨h1, h2⟩ := metaB_mem la lb hm
        have : stB la lb la.length = true := by
          unfold stB
          rw [decide_eq_true h1, Bool.true_and, List.all_eq_true]
          intro x hx
          have hx' : x < la.length := by simpa using hx
          rw [List.any_eq_true]
          have hmem : la.getD x dP ∈ lb := by
            rw [List.getD_eq_getElem?_getD, List.getElem?_eq_getElem hx']
            exact h2 _ (List.getElem_mem hx')
          obtain ⟨y, hy, e⟩ := List.mem_iff_getElem.1 hmem
          exact ⟨y, by simpa using hy, by rw [decide_eq_true_eq, List.getD_eq_getElem?_getD, List.getElem?_eq_getElem hy]; simpa using e⟩
        rw [this] at ht; cases ht
    · cases metaB la lb <;> rfl
  · have he : la = lb := by
      unfold smB at hs
      simp only [Bool.and_eq_true, decide_eq_true_eq, List.all_eq_true] at hs
      apply List.ext_getElem hs.1
      intro i h1 h2
      have := hs.2 i (by simpa using h1)
      rwa [List.getD_eq_getElem?_getD, List.getElem?_eq_getElem h1, List.getD_eq_getElem?_getD, List.getElem?_eq_getElem h2] at this
    subst he
    rw [metaB_same]
    simp
def L4 (w : World) (la lb : List Pr) (v13 v14 v97 : Value) (wr : World) : Prop := ∃ i : Nat, i ≤ la.length ∧ v97 = .int .i64 (i : Int) ∧ v13 = .bool (smB la lb i) ∧ v14 = .bool (stB la lb i) ∧ Below w.heap.size w wr
def L5 (w : World) (lb : List Pr) (p : Pr) (v16 v114 : Value) (wr : World) : Prop := ∃ j : Nat, j ≤ lb.length ∧ v114 = .int .i64 (j : Int) ∧ v16 = .bool (fdB lb p j) ∧ Below w.heap.size w wr
theorem int_beq (n m : Nat) : ((n : Int) == (m : Int)) = decide (n = m) := by
  by_cases h : n = m
  · subst h; simp
  · rw [decide_eq_false h]; simp; omega
theorem L1.facts {w wr : World} {g : Nat} {va vb : Value} (h1 : Blk wr g 22 #[va, vb]) (h2 : Below w.heap.size w wr) (la lb : List Pr) (hA : ∀ W, Below w.heap.size w W → Ps W va la) (hB : ∀ W, Below w.heap.size w W → Ps W vb lb) (ha : la.length ≤ 100) (hb : lb.length ≤ 100) (k : Nat) (hk : k < 2) :
    ∃ A c l, wr.cell? ⟨g, k, none⟩ = some (.slice A (List.length l) c) ∧ l.length ≤ c ∧ l.length ≤ 100 ∧ Ps w (.slice A l.length c) l := by
  obtain ⟨A, c, rfl, hc, _⟩ := hA wr h2
  obtain ⟨C, d, rfl, hd, _⟩ := hB wr h2
  have h0 := h1.cell 0
  have h3 := h1.cell 1
  simp at h0 h3
  rcases (by omega : k = 0 ∨ k = 1) with rfl | rfl
  · exact ⟨A, c, la, h0, hc, ha, hA w (Below.refl _ _)⟩
  · exact ⟨C, d, lb, h3, hd, hb, hB w (Below.refl _ _)⟩
set_option maxRecDepth 100000 in
set_option maxHeartbeats 8000000 in
theorem lawT_main (w : World) (va vb : Value) (la lb : List Pr) (ha : Ps w va la) (hb : Ps w vb lb) (hza : Sz la) (hzb : Sz lb) (hna : la.length ≤ 100) (hnb : lb.length ≤ 100) :
    Calls Try.prog 3 #[va, vb] w (POut w) := by
  have hZA := hide (zz4_any w va la ha hza)
  have hZB := hide (fun (W : World) (h : Below w.heap.size w W) => zz4_any W vb lb (hb.below h) hzb)
  have hP := hide (fun (W : World) (h : Below w.heap.size w W) => pout_mk h)
  have hPA := hide (fun (W : World) (h : Below w.heap.size w W) => ha.below h)
  have hPB := hide (fun (W : World) (h : Below w.heap.size w W) => hb.below h)
  obtain ⟨A, c, rfl, hc, HA⟩ := ha
  obtain ⟨C, d, rfl, hd, HB⟩ := hb
  have HA := hide HA
  have HB := hide HB
  clear hza hzb
  go_enter Try.func3, Try.ntmps3
  go_wp2_with fail
  refine (unhide hZA).mono ?_
  rintro e w1 ⟨b1, rfl, hb1⟩
  cases b1
  case false =>
    go_wp2_with fail
    go_ret
    exact (unhide hP) _ hb1
  case true =>
    go_wp2_with fail
    refine ((unhide hZB) _ hb1).mono ?_
    rintro e w2 ⟨b2, rfl, hb2⟩
    have hB2 := below_tr hb1 hb2 hb1.size
    cases b2
    case false =>
      go_wp2_with fail
      go_ret
      exact (unhide hP) _ hB2
    case true =>
      have kb := Blk.new (w := w2) (g := w2.heap.size) 25 #[.string ⟨#[97]⟩, .string ⟨#[98]⟩] rfl
      have hB3 := hB2.alloc hB2.size (.cells #[.string ⟨#[97]⟩, .string ⟨#[98]⟩] 25)
      go_wp2_with (go_at_call 5; (with_reducible refine (one_any _ _ kb).mono ?_); rintro e w4 ⟨rfl, hb4⟩; have hB4 := below_tr hB3 hb4 hB3.size)
      have k8 := Blk.new (w := w4) (g := w4.heap.size) 22 #[.slice A la.length c, .slice C lb.length d] rfl
      have hB5 := hB4.alloc hB4.size (.cells #[.slice A la.length c, .slice C lb.length d] 22)
      have h00 := hide (show L1 w w4.heap.size (.slice A la.length c) (.slice C lb.length d) 2 (.int .i64 0) (w4.alloc (.cells #[.slice A la.length c, .slice C lb.length d] 22)) from ⟨0, by omega, rfl, k8, hB5⟩)
      clear k8 hB5 kb hB3 hB2 hb1 hb2 hb4 hB4
      generalize (w4.alloc (.cells #[.slice A la.length c, .slice C lb.length d] 22)) = w5 at *
      generalize w4.heap.size = g at *
      go_loopw [54] (L1 w g (.slice A la.length c) (.slice C lb.length d) 2) (fun v _ => 2 - (intOf v).toNat)
      case atStart => exact unhide h00
      case round =>
        obtain ⟨k, hk, rfl, k8, hb⟩ := hrel
        by_cases hlt : k < 2
        · obtain ⟨X, cx, l, y0, hcx, hlx, hps⟩ := L1.facts k8 hb la lb (unhide hPA) (unhide hPB) hna hnb k hlt
          obtain ⟨X', cx', e', hcx', hcell⟩ := hps
          simp only [Value.slice.injEq, true_and] at e'
          obtain ⟨rfl, rfl⟩ := e'
          have HX := hide hcell
          have h01 := hide (show L1 w g (.slice A la.length c) (.slice C lb.length d) l.length (.int .i64 0) wr from ⟨0, by omega, rfl, k8, hb⟩)
          have hk1 := hide (show k + 1 ≤ 2 by omega)
          clear hcell k8 hb h00
          go_upto_region 12 with (fail)
          clear y0
          go_loopw [60] (L1 w g (.slice A la.length c) (.slice C lb.length d) l.length) (fun v _ => l.length - (intOf v).toNat)
          case atStart => exact unhide h01
          case round =>
            obtain ⟨i, hi, rfl, k8, hb⟩ := hrel
            by_cases hil : i < l.length
            · have h02 := hide (show L1 w g (.slice A la.length c) (.slice C lb.length d) i (.int .i64 0) wr from ⟨0, by omega, rfl, k8, hb⟩)
              have hicx : i ≤ cx := by omega
              clear k8 hb h01
              go_upto_region 15 with (fail)
              go_loopw [67] (L1 w g (.slice A la.length c) (.slice C lb.length d) i) (fun v _ => i - (intOf v).toNat)
              case atStart => exact unhide h02
              case round =>
                obtain ⟨j, hj, rfl, k8, hb⟩ := hrel
                by_cases hji : j < i
                · obtain ⟨b, off, rfl, hbl, hcell⟩ := (unhide HX) (by omega)
                  have y1 := (hb.cell (p := ⟨b, off + i * 2, none⟩) hbl).trans (hcell i hil).1
                  have y2 := (hb.cell (p := ⟨b, off + j * 2, none⟩) hbl).trans (hcell j (by omega)).1
                  have hr := hide (fun (n : Nat) => (show L1 w g (.slice A la.length c) (.slice C lb.length d) i (.int .i64 ((j : Int) + 1)) (wr.drewN n) from ⟨j + 1, by omega, by simp, k8, bdrewN hb n⟩))
                  have hr2 := hide (fun (n : Nat) => (unhide hP) _ (bdrewN hb n))
                  clear hcell k8 hb h02
                  generalize l.getD i dP = pi at *
                  generalize l.getD j dP = pj at *
                  obtain ⟨s1, s2⟩ := pi
                  obtain ⟨t1, t2⟩ := pj
                  dsimp only at y1 y2
                  go_upto_region 17 with (fail)
                  go_quiet (fail)
                  go_wp2_with fail
                  all_goals first | (go_ret; exact (unhide hr2) _) | (exact ⟨(unhide hr) _, by simp [intOf]; omega⟩)
                · have hr := hide (show L1 w g (.slice A la.length c) (.slice C lb.length d) l.length (.int .i64 ((i : Int) + 1)) wr from ⟨i + 1, by omega, by simp, k8, hb⟩)
                  clear k8 hb h02
                  go_wp2_with fail
                  exact ⟨unhide hr, by simp [intOf]; omega⟩
            · have hr := hide (show L1 w g (.slice A la.length c) (.slice C lb.length d) 2 (.int .i64 ((k : Int) + 1)) wr from ⟨k + 1, by omega, by simp, k8, hb⟩)
              clear k8 hb h01
              go_wp2_with fail
              exact ⟨unhide hr, by simp [intOf]; omega⟩
        · clear h00
          obtain rfl : k = 2 := by omega
          go_upto_region 24 with (fail)
          have h04 := hide (show L4 w la lb (.bool ((la.length : Int) == (lb.length : Int))) (.bool ((la.length : Int) == (lb.length : Int))) (.int .i64 0) wr from ⟨0, by omega, rfl, by rw [int_beq]; simp [smB], by rw [int_beq]; simp [stB], hb⟩)
          clear k8 hb
          go_loopw [13, 14, 97] (L4 w la lb) (fun _ _ v97 _ => la.length - (intOf v97).toNat)
          case atStart => exact unhide h04
          case round =>
            obtain ⟨i, hi, rfl, rfl, rfl, hb⟩ := hrel
            by_cases hil : i < la.length
            · obtain ⟨b, off, rfl, hbl, hcell⟩ := (unhide HA) (by omega)
              have y1 := (hb.cell (p := ⟨b, off + i * 2, none⟩) hbl).trans (hcell i hil).1
              have y2 := (hb.cell (p := ⟨b, off + i * 2 + 1, none⟩) hbl).trans (hcell i hil).2
              clear hcell
              go_upto_region 26 with (fail)
              go_cut [13, 97] from 97 to 132 (fun v13 v97 wx => v13 = .bool (smB la lb (i + 1)) ∧ v97 = .int .i64 (i : Int) ∧ ∃ q, wx = wr.drewN q)
              case first =>
                cases hsm : smB la lb i
                case false =>
                  have e : smB la lb (i + 1) = false := by rw [smB_succ, hsm]; rfl
                  go_quiet (fail)
                  go_wp2_with fail
                  go_meet
                  exact ⟨by rw [e], rfl, _, rfl⟩
                case true =>
                  have he : la.length = lb.length := by unfold smB at hsm; simp only [Bool.and_eq_true, decide_eq_true_eq] at hsm; exact hsm.1
                  obtain ⟨b', off', rfl, hbl', hcell'⟩ := (unhide HB) (by omega)
                  have y3 := (hb.cell (p := ⟨b', off' + i * 2, none⟩) hbl').trans (hcell' i (by omega)).1
                  have y4 := (hb.cell (p := ⟨b', off' + i * 2 + 1, none⟩) hbl').trans (hcell' i (by omega)).2
                  have hil' : i < lb.length := by omega
                  have e := smB_succ la lb i
                  rw [hsm, Bool.true_and] at e
                  clear hcell' he
                  generalize la.getD i dP = pa at *
                  generalize lb.getD i dP = pb at *
                  obtain ⟨s1, s2⟩ := pa
                  obtain ⟨t1, t2⟩ := pb
                  dsimp only at y1 y2 y3 y4
                  have hqe := fun w => eqPr s1 s2 t1 t2 w
                  have hge := eqG25
                  go_quiet (fail)
                  go_wp2_with fail
                  go_meet
                  refine ⟨?_, rfl, _, rfl⟩
                  rw [e, pr_dec]
              case rest =>
                obtain ⟨rfl, rfl, q, rfl⟩ := hcut
                have hst := hide (stB_succ la lb i)
                generalize hpa : la.getD i dP = pa at *
                obtain ⟨s1, s2⟩ := pa
                have HPA := hide hpa
                clear hpa
                have hbq := bdrewN hb q
                generalize wr.drewN q = wo at *
                clear hb y1 y2
                have h05 := hide (show L5 w lb (s1, s2) (.bool false) (.int .i64 0) wo from ⟨0, by omega, rfl, rfl, hbq⟩)
                clear hbq
                go_upto_region 29 with (fail)
                go_loopw [16, 114] (L5 w lb (s1, s2)) (fun _ v114 _ => lb.length - (intOf v114).toNat)
                case atStart => exact unhide h05
                case round =>
                  obtain ⟨j, hj, rfl, rfl, hb⟩ := hrel
                  by_cases hjl : j < lb.length
                  · obtain ⟨b', off', rfl, hbl', hcell'⟩ := (unhide HB) (by omega)
                    have y3 := (hb.cell (p := ⟨b', off' + j * 2, none⟩) hbl').trans (hcell' j hjl).1
                    have y4 := (hb.cell (p := ⟨b', off' + j * 2 + 1, none⟩) hbl').trans (hcell' j hjl).2
                    obtain ⟨b1, off1, e1, hbl1, hcell1⟩ := (unhide HA) (by omega)
                    simp only [Option.some.injEq, Addr.mk.injEq, and_true] at e1
                    obtain ⟨rfl, rfl⟩ := e1
                    have y1 := (hb.cell (p := ⟨b, off + i * 2, none⟩) hbl1).trans (hcell1 i hil).1
                    have y2 := (hb.cell (p := ⟨b, off + i * 2 + 1, none⟩) hbl1).trans (hcell1 i hil).2
                    rw [unhide HPA] at y1 y2
                    dsimp only at y1 y2
                    have e := fdB_succ lb (s1, s2) j
                    clear hcell' hcell1
                    generalize lb.getD j dP = pb at *
                    obtain ⟨t1, t2⟩ := pb
                    dsimp only at y3 y4
                    go_upto_region 31 with (fail)
                    have hbA := hb.alloc hb.size (.cells #[.string t1, .string t2] 25)
                    have hwz := (Below.refl wr.heap.size wr).alloc (Nat.le_refl _) (.cells #[.string t1, .string t2] 25)
                    have hsz := hb.size
                    have y1 := (hwz.cell (p := ⟨b, off + i * 2, none⟩) (by simp; omega)).trans y1
                    have y2 := (hwz.cell (p := ⟨b, off + i * 2 + 1, none⟩) (by simp; omega)).trans y2
                    have kbx := Blk.new (w := wr) (g := wr.heap.size) 25 #[.string t1, .string t2] rfl
                    have x0 : (wr.alloc (.cells #[.string t1, .string t2] 25)).cell? ⟨wr.heap.size, 0, none⟩ = some (.string t1) := kbx.cell 0
                    have x1 : (wr.alloc (.cells #[.string t1, .string t2] 25)).cell? ⟨wr.heap.size, 1, none⟩ = some (.string t2) := kbx.cell 1
                    clear hwz kbx hsz y3 y4
                    have hr := hide (fun (v : Bool) (q : Nat) (hv : v = fdB lb (s1, s2) (j + 1)) => (show L5 w lb (s1, s2) (.bool v) (.int .i64 ((j : Int) + 1)) ((wr.alloc (.cells #[.string t1, .string t2] 25)).drewN q) from ⟨j + 1, by omega, by simp, by rw [hv], bdrewN hbA q⟩))
                    clear hb hbA
                    generalize wr.alloc (.cells #[.string t1, .string t2] 25) = wz at *
                    cases hfd : fdB lb (s1, s2) j
                    case true =>
                      rw [hfd, Bool.true_or] at e
                      go_quiet (fail)
                      go_wp2_with fail
                      exact ⟨(unhide hr) _ _ e.symm, by simp [intOf]; omega⟩
                    case false =>
                      rw [hfd, Bool.false_or] at e
                      have hqe := fun w => eqPr t1 t2 s1 s2 w
                      have hge := eqG25
                      go_quiet (fail)
                      go_wp2_with fail
                      exact ⟨(unhide hr) _ _ (by rw [e, pr_dec]), by simp [intOf]; omega⟩
                  · obtain rfl : j = lb.length := by omega
                    have hr := hide (fun (v : Bool) (hv : v = stB la lb (i + 1)) => (show L4 w la lb (.bool (smB la lb (i + 1))) (.bool v) (.int .i64 ((i : Int) + 1)) wr from ⟨i + 1, by omega, by simp, rfl, by rw [hv], hb⟩))
                    have e := unhide hst
                    clear hb
                    skip
                    cases h14 : stB la lb i
                    case true =>
                      rw [h14, Bool.true_and] at e
                      go_wp2_with fail
                      exact ⟨(unhide hr) _ e.symm, by simp [intOf]; omega⟩
                    case false =>
                      rw [h14, Bool.false_and] at e
                      go_wp2_with fail
                      exact ⟨(unhide hr) _ e.symm, by simp [intOf]; omega⟩
            · obtain rfl : i = la.length := by omega
              have hS := hide (same_any wr _ _ la lb ((unhide hPA) _ hb) ((unhide hPB) _ hb) hna hnb)
              have hend := law_end la lb
              have hbs := hide hb
              have hsz := hb.size
              clear hb
              generalize metaB la lb = gm at *
              go_upto_region 36 with (go_at_call 5; (with_reducible refine (unhide hS).mono ?_); rintro e w4 ⟨rfl, hb4⟩; have hB4 := below_tr (unhide hbs) hb4 hsz)
              cases h13 : smB la lb la.length <;> cases h14 : stB la lb la.length <;> cases gm <;> rw [h13, h14] at hend <;> first | (exfalso; revert hend; decide) | (go_wp2_with fail; go_ret; exact (unhide hP) _ hB4)
end Go.Proofs.Ytpgonjoaeliccaa
