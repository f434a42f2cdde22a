/- Usual names, by levels; types and fields that are asked. (YtconkcjcjdmidaaGreatDoor) -/
import Derived.Test.YtconkcjcjdmidaaGreatDoorTU
import Derived.Test.YtconkcjcjdmidaaGreatDoorTR
set_option linter.unusedVariables false
set_option linter.unusedSimpArgs false
namespace Go.Proofs.YtconkcjcjdmidaaGreatDoor
open Go.RowKit Go.ChangeShapes Go.WideShapes Go.ChangeAt Go
theorem wrap_zero (a b : Nat) (ha : a ≤ 9223372036854775807) (hb : b ≤ 9223372036854775807) (h : IntKind.i64.wrap ((a : Int) + (b : Int)) = 0) : a = 0 ∧ b = 0 := by
  rw [IntKind.wrap_i64] at h
  omega
def UA (w0 : World) (n : Nat) : Prop := ∀ (W : World) (t : Ty), Ok w0 n t → (∀ m, TyAt w0 m t) → Below w0.heap.size w0 W → Calls Tryz.prog 23 #[t.val] W (PYes (Nm w0 n t) W)
theorem entries_all (w0 : World) (n : Nat) (ih : UA w0 n) (w : World) (e : Ty) (hok : Ok w0 (n + 1) e) (h2 : e.nf = 2) (ht : ∀ m, TyAt w0 m e) (hb : Below w0.heap.size w0 w) : Calls Tryz.prog 36 #[e.val] w (PYes (Nm w0 (n + 1) e) w) := by
  obtain ⟨_, _, _, _, h5, _⟩ := hok
  obtain ⟨_, _, _, _, _, _, _, hfs, _⟩ := ht 1
  obtain ⟨b, o, ha, hcs⟩ := hfs.base (by omega)
  have hlt : b < w.heap.size := by
    obtain ⟨_, _, h3⟩ := hfs
    obtain ⟨b', o', e', hl, _⟩ := h3 (by omega)
    rw [ha] at e'
    injection e' with e'
    injection e' with e1 _ _
    subst e1
    exact Nat.lt_of_lt_of_le hl hb.size
  have hc2 : 2 ≤ e.cf := by have := hfs.1; omega
  have f0 := (hcs w hb 0 (by omega)).1
  have f1 := (hcs w hb 1 (by omega)).1
  rw [Nat.zero_mul, Nat.add_zero] at f0
  rw [Nat.one_mul] at f1
  have hp : ∀ k, k < 2 → (fAt w0 e.af k).nm' ≤ 9223372036854775807 := fun k hk => ((ht 1).2.2.2.2.2.2.2.2 k (by omega)).2.2.1
  have q0 := hp 0 (by omega)
  have q1 := hp 1 (by omega)
  have hu := fun (k : Nat) (hk : k < 2) (W : World) (hW : Below w.heap.size w W) => ih W (fAt w0 e.af k).ty (h5 k (by omega)) (fun m => ((ht (m + 1)).2.2.2.2.2.2.2.2 k (by omega)).1) (below_tr hb hW hb.size)
  cases a0 : ((fAt w0 e.af 0).nm.toList == [107, 101, 121])
  · exact entries_no0 _ w e b o _ _ ha h2 hc2 hlt f0 f1 a0
  cases a1 : ((fAt w0 e.af 1).nm.toList == [118, 97, 108, 117, 101])
  · exact entries_no1 _ w e b o _ _ ha h2 hc2 hlt f0 f1 a0 a1
  cases a2 : (fAt w0 e.af 0).nl
  case true => exact entries_no2 _ w e b o _ _ ha h2 hc2 hlt f0 f1 a0 a1 a2
  cases a3 : (fAt w0 e.af 1).nl
  · exact entries_no3 _ w e b o _ _ ha h2 hc2 hlt f0 f1 a0 a1 a2 a3
  cases a4 : (IntKind.i64.wrap (((fAt w0 e.af 0).nm' : Int) + ((fAt w0 e.af 1).nm' : Int)) == 0)
  · exact entries_no4 _ w e b o _ _ ha h2 hc2 hlt f0 f1 a0 a1 a2 a3 _ rfl a4
  · obtain ⟨m0, m1⟩ := wrap_zero _ _ q0 q1 (by simpa using a4)
    refine entries_yes (fun f => Nm w0 n f.ty) _ w e b o _ _ ha h2 hc2 hlt f0 f1 a0 a1 a2 a3 _ rfl a4 (hu 0 (by omega)) (hu 1 (by omega)) (fun n0 n1 k hk => ?_)
    match k, hk with
    | 0, _ => exact ⟨m0, n0⟩
    | 1, _ => exact ⟨m1, n1⟩
    | k + 2, hk => omega
theorem usual_all (w0 : World) (hTb : Tabs w0) : ∀ n, UA w0 n := by
  intro n
  induction n using Nat.strongRecOn with
  | ind n ih =>
    intro w t hok ht hb
    match n, ih, hok with
    | 0, _, hok => exact absurd hok (by unfold Ok; exact fun h => h)
    | n + 1, ih, hok =>
      have hok2 := hok
      obtain ⟨h1, h2, h3, h4, h5, k2, k3, k7, k11, k16, k14, k17⟩ := hok2
      have hty := fun (k : Nat) (hk : k < t.nf) (m : Nat) => ((ht (m + 1)).2.2.2.2.2.2.2.2 k hk).1
      by_cases hk : t.kd = 17
      · refine usual_map w0 hTb n w t hk hok ht hb (fun W k hkn hW => ?_)
        have a2 : mostP t.kd = 1 := by rw [hk]; decide
        obtain rfl : k = 0 := by omega
        obtain ⟨q1, q2, q3⟩ := k17 hk
        match n, ih, h5, q2 with
        | 0, _, h5, _ => exact absurd (h5 0 hkn) (by unfold Ok; exact fun h => h)
        | n + 1, ih, h5, q2 => exact entries_all w0 n (ih n (by omega)) W _ (h5 0 hkn) q2 (hty 0 hkn) (below_tr hb hW hb.size)
      · have hu := fun (W : World) (k : Nat) (hkn : k < t.nf) (hW : Below w.heap.size w W) => ih n (by omega) W (fAt w0 t.af k).ty (h5 k hkn) (hty k hkn) (below_tr hb hW hb.size)
        by_cases h22 : t.kd = 22
        · exact usual_o22 w0 hTb n w t hk (by simp [h22]) (by simp [h22]) hok ht hb hu
        · by_cases h27 : t.kd = 27
          · exact usual_o27 w0 hTb n w t hk (by simp [h27]) (by simp [h27]) hok ht hb hu
          · exact usual_other w0 hTb n w t hk (by simp [h22]) (by simp [h27]) hok ht hb hu
/-- a type that is asked: right to four levels, with usual names. -/
def Asked (w0 : World) (t : Ty) : Prop := Ok w0 4 t ∧ Nm w0 4 t
set_option maxRecDepth 100000 in
theorem asked_any (w0 : World) (hTb : Tabs w0) (w : World) (t : Ty) (ht : ∀ m, TyAt w0 m t) (hb : Below w0.heap.size w0 w) : Calls Tryz.prog 16 #[t.val] w (PYes (Asked w0 t) w) := by
  have hB0 := (show Below w.heap.size w (w.alloc (.cells #[.int .i64 t.kd, .int .i64 t.wd, .bool t.sg, .int .i64 t.un, .int .i64 t.pr, .int .i64 t.sc, .string t.zn, .bool t.fl, .slice t.ai t.ni t.ci, .slice t.af t.nf t.cf] 30)) from (Below.refl _ _).alloc (Nat.le_refl _) _)
  have hT := TB.new w t
  obtain ⟨W0, hw0⟩ : ∃ W0, W0 = (w.alloc (.cells #[.int .i64 t.kd, .int .i64 t.wd, .bool t.sg, .int .i64 t.un, .int .i64 t.pr, .int .i64 t.sc, .string t.zn, .bool t.fl, .slice t.ai t.ni t.ci, .slice t.af t.nf t.cf] 30)) := ⟨_, rfl⟩
  rw [← hw0] at hT hB0
  obtain ⟨c0, c1, c2, c3, c4, c5, c6, c7, c8, c9⟩ := hT.cells
  have hr := hide (show Calls Tryz.prog 22 #[t.val, .int .i64 4] W0 (PYes (Ok w0 4 t) W0) from right_any w0 4 (by omega) W0 t ht (below_tr hb hB0 hb.size))
  have hu := hide (fun (W : World) (hok : Ok w0 4 t) (hW : Below W0.heap.size W0 W) => usual_all w0 hTb 4 W t hok ht (below_tr (below_tr hb hB0 hb.size) hW (below_tr hb hB0 hb.size).size))
  have hno := hide (fun (W : World) (hW : Below W0.heap.size W0 W) => pyes_no (C := Asked w0 t) (below_tr hB0 hW hB0.size))
  have hyes := hide (fun (W : World) (b : Bool) (h : b = true → Asked w0 t) (hW : Below W0.heap.size W0 W) => pyes_mk b (below_tr hB0 hW hB0.size) h)
  replace hT := hide hT
  clear ht hb hTb hB0
  go_enter Tryz.func16, Tryz.ntmps16
  go_upto_region 1 with (fail)
  rw [← hw0]
  clear hw0
  go_wp2_with (first
    | (go_at_call 22; (with_reducible refine (unhide hr).mono ?_); rintro e w2 ⟨b2, rfl, hb2C, hb2⟩; obtain ⟨d0, d1, d2, d3, d4, d5, d6, d7, d8, d9⟩ := ((unhide hT).below hb2).cells; replace hb2C := hide hb2C; replace hb2 := hide hb2)
    | (go_at_call 23; (with_reducible refine (unhide hu _ (unhide hb2C (by first | rfl | assumption | trivial)) (unhide hb2)).mono ?_); rintro e w3 ⟨b3, rfl, hb3C, hb3⟩; have hb23 := hide (below_tr (unhide hb2) hb3 (unhide hb2).size); replace hb3C := hide hb3C; clear hb3)
    | fail)
  all_goals
    go_ret
    first
      | exact unhide hyes w3 b3 (fun h => ⟨unhide hb2C (by first | rfl | assumption | trivial), unhide hb3C h⟩) (unhide hb23)
      | exact unhide hno _ (unhide hb2)
end Go.Proofs.YtconkcjcjdmidaaGreatDoor
