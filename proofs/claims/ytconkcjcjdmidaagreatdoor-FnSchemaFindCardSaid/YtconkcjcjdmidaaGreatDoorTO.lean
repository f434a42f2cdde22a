/- Types of arrow: all that are right. (YtconkcjcjdmidaaGreatDoor) -/
import Derived.Test.YtconkcjcjdmidaaGreatDoorTN
set_option linter.unusedVariables false
set_option linter.unusedSimpArgs false
namespace Go.Proofs.YtconkcjcjdmidaaGreatDoor
open Go.RowKit Go.ChangeShapes Go.WideShapes Go.ChangeAt Go

set_option maxRecDepth 1000000 in
set_option maxHeartbeats 4000000 in
theorem type_1 (w : World) (t : Ty) (hk : t.kd = 1) : Calls Tryz.prog 40 #[t.val] w (PIf w) := by
  obtain ⟨kd, wd, sg, un, pr, sc, zn, fl, ai, ni, ci, af, nf, cf⟩ := t
  simp only at *
  subst hk
  go_enter Tryz.func40, Tryz.ntmps40
  go_wp2_with fail
  go_ret
  exact pif_mk _ _ (by repeat' (first | (with_reducible exact Below.refl _ _) | (with_reducible refine Below.setCell ?_ ?_ _) | (with_reducible refine bdrewN ?_ _) | (with_reducible refine bdrew ?_) | (with_reducible refine Below.alloc ?_ ?_ _) | exact Nat.le_refl _ | (simp; done)))

set_option maxRecDepth 1000000 in
set_option maxHeartbeats 4000000 in
theorem type_6 (w : World) (t : Ty) (hk : t.kd = 6) : Calls Tryz.prog 40 #[t.val] w (PIf w) := by
  obtain ⟨kd, wd, sg, un, pr, sc, zn, fl, ai, ni, ci, af, nf, cf⟩ := t
  simp only at *
  subst hk
  go_enter Tryz.func40, Tryz.ntmps40
  go_wp2_with fail
  go_ret
  exact pif_mk _ _ (by repeat' (first | (with_reducible exact Below.refl _ _) | (with_reducible refine Below.setCell ?_ ?_ _) | (with_reducible refine bdrewN ?_ _) | (with_reducible refine bdrew ?_) | (with_reducible refine Below.alloc ?_ ?_ _) | exact Nat.le_refl _ | (simp; done)))

set_option maxRecDepth 1000000 in
set_option maxHeartbeats 4000000 in
theorem type_10 (w : World) (t : Ty) (hk : t.kd = 10) : Calls Tryz.prog 40 #[t.val] w (PIf w) := by
  obtain ⟨kd, wd, sg, un, pr, sc, zn, fl, ai, ni, ci, af, nf, cf⟩ := t
  simp only at *
  subst hk
  go_enter Tryz.func40, Tryz.ntmps40
  go_wp2_with fail
  go_ret
  exact pif_mk _ _ (by repeat' (first | (with_reducible exact Below.refl _ _) | (with_reducible refine Below.setCell ?_ ?_ _) | (with_reducible refine bdrewN ?_ _) | (with_reducible refine bdrew ?_) | (with_reducible refine Below.alloc ?_ ?_ _) | exact Nat.le_refl _ | (simp; done)))

set_option maxRecDepth 1000000 in
set_option maxHeartbeats 4000000 in
theorem type_18 (w : World) (t : Ty) (hk : t.kd = 18) : Calls Tryz.prog 40 #[t.val] w (PIf w) := by
  obtain ⟨kd, wd, sg, un, pr, sc, zn, fl, ai, ni, ci, af, nf, cf⟩ := t
  simp only at *
  subst hk
  go_enter Tryz.func40, Tryz.ntmps40
  go_wp2_with fail
  go_ret
  exact pif_mk _ _ (by repeat' (first | (with_reducible exact Below.refl _ _) | (with_reducible refine Below.setCell ?_ ?_ _) | (with_reducible refine bdrewN ?_ _) | (with_reducible refine bdrew ?_) | (with_reducible refine Below.alloc ?_ ?_ _) | exact Nat.le_refl _ | (simp; done)))

set_option maxRecDepth 1000000 in
set_option maxHeartbeats 4000000 in
theorem type_4 (w : World) (t : Ty) (hk : t.kd = 4) : Calls Tryz.prog 40 #[t.val] w (PIf w) := by
  obtain ⟨kd, wd, sg, un, pr, sc, zn, fl, ai, ni, ci, af, nf, cf⟩ := t
  simp only at *
  subst hk
  go_enter Tryz.func40, Tryz.ntmps40
  go_wp2_with fail
  go_ret
  exact pif_mk _ _ (by repeat' (first | (with_reducible exact Below.refl _ _) | (with_reducible refine Below.setCell ?_ ?_ _) | (with_reducible refine bdrewN ?_ _) | (with_reducible refine bdrew ?_) | (with_reducible refine Below.alloc ?_ ?_ _) | exact Nat.le_refl _ | (simp; done)))

set_option maxRecDepth 1000000 in
set_option maxHeartbeats 4000000 in
theorem type_5 (w : World) (t : Ty) (hk : t.kd = 5) : Calls Tryz.prog 40 #[t.val] w (PIf w) := by
  obtain ⟨kd, wd, sg, un, pr, sc, zn, fl, ai, ni, ci, af, nf, cf⟩ := t
  simp only at *
  subst hk
  go_enter Tryz.func40, Tryz.ntmps40
  go_wp2_with fail
  go_ret
  exact pif_mk _ _ (by repeat' (first | (with_reducible exact Below.refl _ _) | (with_reducible refine Below.setCell ?_ ?_ _) | (with_reducible refine bdrewN ?_ _) | (with_reducible refine bdrew ?_) | (with_reducible refine Below.alloc ?_ ?_ _) | exact Nat.le_refl _ | (simp; done)))

set_option maxRecDepth 1000000 in
set_option maxHeartbeats 4000000 in
theorem type_19 (w : World) (t : Ty) (hk : t.kd = 19) : Calls Tryz.prog 40 #[t.val] w (PIf w) := by
  obtain ⟨kd, wd, sg, un, pr, sc, zn, fl, ai, ni, ci, af, nf, cf⟩ := t
  simp only at *
  subst hk
  go_enter Tryz.func40, Tryz.ntmps40
  go_wp2_with fail
  go_ret
  exact pif_mk _ _ (by repeat' (first | (with_reducible exact Below.refl _ _) | (with_reducible refine Below.setCell ?_ ?_ _) | (with_reducible refine bdrewN ?_ _) | (with_reducible refine bdrew ?_) | (with_reducible refine Below.alloc ?_ ?_ _) | exact Nat.le_refl _ | (simp; done)))

set_option maxRecDepth 1000000 in
set_option maxHeartbeats 4000000 in
theorem type_20 (w : World) (t : Ty) (hk : t.kd = 20) : Calls Tryz.prog 40 #[t.val] w (PIf w) := by
  obtain ⟨kd, wd, sg, un, pr, sc, zn, fl, ai, ni, ci, af, nf, cf⟩ := t
  simp only at *
  subst hk
  go_enter Tryz.func40, Tryz.ntmps40
  go_wp2_with fail
  go_ret
  exact pif_mk _ _ (by repeat' (first | (with_reducible exact Below.refl _ _) | (with_reducible refine Below.setCell ?_ ?_ _) | (with_reducible refine bdrewN ?_ _) | (with_reducible refine bdrew ?_) | (with_reducible refine Below.alloc ?_ ?_ _) | exact Nat.le_refl _ | (simp; done)))

set_option maxRecDepth 1000000 in
set_option maxHeartbeats 4000000 in
theorem type_23 (w : World) (t : Ty) (hk : t.kd = 23) : Calls Tryz.prog 40 #[t.val] w (PIf w) := by
  obtain ⟨kd, wd, sg, un, pr, sc, zn, fl, ai, ni, ci, af, nf, cf⟩ := t
  simp only at *
  subst hk
  go_enter Tryz.func40, Tryz.ntmps40
  go_wp2_with fail
  go_ret
  exact pif_mk _ _ (by repeat' (first | (with_reducible exact Below.refl _ _) | (with_reducible refine Below.setCell ?_ ?_ _) | (with_reducible refine bdrewN ?_ _) | (with_reducible refine bdrew ?_) | (with_reducible refine Below.alloc ?_ ?_ _) | exact Nat.le_refl _ | (simp; done)))

set_option maxRecDepth 1000000 in
set_option maxHeartbeats 4000000 in
theorem type_24 (w : World) (t : Ty) (hk : t.kd = 24) : Calls Tryz.prog 40 #[t.val] w (PIf w) := by
  obtain ⟨kd, wd, sg, un, pr, sc, zn, fl, ai, ni, ci, af, nf, cf⟩ := t
  simp only at *
  subst hk
  go_enter Tryz.func40, Tryz.ntmps40
  go_wp2_with fail
  go_ret
  exact pif_mk _ _ (by repeat' (first | (with_reducible exact Below.refl _ _) | (with_reducible refine Below.setCell ?_ ?_ _) | (with_reducible refine bdrewN ?_ _) | (with_reducible refine bdrew ?_) | (with_reducible refine Below.alloc ?_ ?_ _) | exact Nat.le_refl _ | (simp; done)))

set_option maxRecDepth 1000000 in
set_option maxHeartbeats 4000000 in
theorem type_15 (w : World) (t : Ty) (hk : t.kd = 15) : Calls Tryz.prog 40 #[t.val] w (PIf w) := by
  obtain ⟨kd, wd, sg, un, pr, sc, zn, fl, ai, ni, ci, af, nf, cf⟩ := t
  simp only at *
  subst hk
  go_enter Tryz.func40, Tryz.ntmps40
  go_wp2_with fail
  go_ret
  exact pif_mk _ _ (by repeat' (first | (with_reducible exact Below.refl _ _) | (with_reducible refine Below.setCell ?_ ?_ _) | (with_reducible refine bdrewN ?_ _) | (with_reducible refine bdrew ?_) | (with_reducible refine Below.alloc ?_ ?_ _) | exact Nat.le_refl _ | (simp; done)))

set_option maxRecDepth 1000000 in
set_option maxHeartbeats 4000000 in
theorem type_3a (w : World) (t : Ty) (hk : t.kd = 3) (hw : t.wd = 16) : Calls Tryz.prog 40 #[t.val] w (PIf w) := by
  obtain ⟨kd, wd, sg, un, pr, sc, zn, fl, ai, ni, ci, af, nf, cf⟩ := t
  simp only at *
  subst hk
  subst hw
  go_enter Tryz.func40, Tryz.ntmps40
  go_wp2_with fail
  go_ret
  exact pif_mk _ _ (by repeat' (first | (with_reducible exact Below.refl _ _) | (with_reducible refine Below.setCell ?_ ?_ _) | (with_reducible refine bdrewN ?_ _) | (with_reducible refine bdrew ?_) | (with_reducible refine Below.alloc ?_ ?_ _) | exact Nat.le_refl _ | (simp; done)))

set_option maxRecDepth 1000000 in
set_option maxHeartbeats 4000000 in
theorem type_3b (w : World) (t : Ty) (hk : t.kd = 3) (hw : t.wd = 32) : Calls Tryz.prog 40 #[t.val] w (PIf w) := by
  obtain ⟨kd, wd, sg, un, pr, sc, zn, fl, ai, ni, ci, af, nf, cf⟩ := t
  simp only at *
  subst hk
  subst hw
  go_enter Tryz.func40, Tryz.ntmps40
  go_wp2_with fail
  go_ret
  exact pif_mk _ _ (by repeat' (first | (with_reducible exact Below.refl _ _) | (with_reducible refine Below.setCell ?_ ?_ _) | (with_reducible refine bdrewN ?_ _) | (with_reducible refine bdrew ?_) | (with_reducible refine Below.alloc ?_ ?_ _) | exact Nat.le_refl _ | (simp; done)))

set_option maxRecDepth 1000000 in
set_option maxHeartbeats 4000000 in
theorem type_3c (w : World) (t : Ty) (hk : t.kd = 3) (hw : t.wd = 64) : Calls Tryz.prog 40 #[t.val] w (PIf w) := by
  obtain ⟨kd, wd, sg, un, pr, sc, zn, fl, ai, ni, ci, af, nf, cf⟩ := t
  simp only at *
  subst hk
  subst hw
  go_enter Tryz.func40, Tryz.ntmps40
  go_wp2_with fail
  go_ret
  exact pif_mk _ _ (by repeat' (first | (with_reducible exact Below.refl _ _) | (with_reducible refine Below.setCell ?_ ?_ _) | (with_reducible refine bdrewN ?_ _) | (with_reducible refine bdrew ?_) | (with_reducible refine Below.alloc ?_ ?_ _) | exact Nat.le_refl _ | (simp; done)))

set_option maxRecDepth 1000000 in
set_option maxHeartbeats 4000000 in
theorem type_8a (w : World) (t : Ty) (hk : t.kd = 8) (hu : t.un = 0) : Calls Tryz.prog 40 #[t.val] w (PIf w) := by
  obtain ⟨kd, wd, sg, un, pr, sc, zn, fl, ai, ni, ci, af, nf, cf⟩ := t
  simp only at *
  subst hk
  subst hu
  go_enter Tryz.func40, Tryz.ntmps40
  go_wp2_with fail
  go_ret
  exact pif_mk _ _ (by repeat' (first | (with_reducible exact Below.refl _ _) | (with_reducible refine Below.setCell ?_ ?_ _) | (with_reducible refine bdrewN ?_ _) | (with_reducible refine bdrew ?_) | (with_reducible refine Below.alloc ?_ ?_ _) | exact Nat.le_refl _ | (simp; done)))

set_option maxRecDepth 1000000 in
set_option maxHeartbeats 4000000 in
theorem type_8b (w : World) (t : Ty) (hk : t.kd = 8) (hu : ¬ t.un = 0) : Calls Tryz.prog 40 #[t.val] w (PIf w) := by
  obtain ⟨kd, wd, sg, un, pr, sc, zn, fl, ai, ni, ci, af, nf, cf⟩ := t
  simp only at *
  subst hk
  have hz : (un == 0) = false := by simp [hu]
  clear hu
  go_enter Tryz.func40, Tryz.ntmps40
  go_wp2_with fail
  go_ret
  exact pif_mk _ _ (by repeat' (first | (with_reducible exact Below.refl _ _) | (with_reducible refine Below.setCell ?_ ?_ _) | (with_reducible refine bdrewN ?_ _) | (with_reducible refine bdrew ?_) | (with_reducible refine Below.alloc ?_ ?_ _) | exact Nat.le_refl _ | (simp; done)))

set_option maxRecDepth 1000000 in
set_option maxHeartbeats 4000000 in
theorem type_9a (w : World) (t : Ty) (hk : t.kd = 9) (hu : t.un < 2) : Calls Tryz.prog 40 #[t.val] w (PIf w) := by
  obtain ⟨kd, wd, sg, un, pr, sc, zn, fl, ai, ni, ci, af, nf, cf⟩ := t
  simp only at *
  subst hk
  go_enter Tryz.func40, Tryz.ntmps40
  go_wp2_with fail
  go_ret
  exact pif_mk _ _ (by repeat' (first | (with_reducible exact Below.refl _ _) | (with_reducible refine Below.setCell ?_ ?_ _) | (with_reducible refine bdrewN ?_ _) | (with_reducible refine bdrew ?_) | (with_reducible refine Below.alloc ?_ ?_ _) | exact Nat.le_refl _ | (simp; done)))

set_option maxRecDepth 1000000 in
set_option maxHeartbeats 4000000 in
theorem type_9b (w : World) (t : Ty) (hk : t.kd = 9) (hu : ¬ t.un < 2) : Calls Tryz.prog 40 #[t.val] w (PIf w) := by
  obtain ⟨kd, wd, sg, un, pr, sc, zn, fl, ai, ni, ci, af, nf, cf⟩ := t
  simp only at *
  subst hk
  go_enter Tryz.func40, Tryz.ntmps40
  go_wp2_with fail
  go_ret
  exact pif_mk _ _ (by repeat' (first | (with_reducible exact Below.refl _ _) | (with_reducible refine Below.setCell ?_ ?_ _) | (with_reducible refine bdrewN ?_ _) | (with_reducible refine bdrew ?_) | (with_reducible refine Below.alloc ?_ ?_ _) | exact Nat.le_refl _ | (simp; done)))

set_option maxRecDepth 1000000 in
set_option maxHeartbeats 4000000 in
theorem type_11a (w : World) (t : Ty) (hk : t.kd = 11) (hu : t.un = 0) : Calls Tryz.prog 40 #[t.val] w (PIf w) := by
  obtain ⟨kd, wd, sg, un, pr, sc, zn, fl, ai, ni, ci, af, nf, cf⟩ := t
  simp only at *
  subst hk
  subst hu
  go_enter Tryz.func40, Tryz.ntmps40
  go_wp2_with fail
  go_ret
  exact pif_mk _ _ (by repeat' (first | (with_reducible exact Below.refl _ _) | (with_reducible refine Below.setCell ?_ ?_ _) | (with_reducible refine bdrewN ?_ _) | (with_reducible refine bdrew ?_) | (with_reducible refine Below.alloc ?_ ?_ _) | exact Nat.le_refl _ | (simp; done)))

set_option maxRecDepth 1000000 in
set_option maxHeartbeats 4000000 in
theorem type_11b (w : World) (t : Ty) (hk : t.kd = 11) (hu : t.un = 1) : Calls Tryz.prog 40 #[t.val] w (PIf w) := by
  obtain ⟨kd, wd, sg, un, pr, sc, zn, fl, ai, ni, ci, af, nf, cf⟩ := t
  simp only at *
  subst hk
  subst hu
  go_enter Tryz.func40, Tryz.ntmps40
  go_wp2_with fail
  go_ret
  exact pif_mk _ _ (by repeat' (first | (with_reducible exact Below.refl _ _) | (with_reducible refine Below.setCell ?_ ?_ _) | (with_reducible refine bdrewN ?_ _) | (with_reducible refine bdrew ?_) | (with_reducible refine Below.alloc ?_ ?_ _) | exact Nat.le_refl _ | (simp; done)))

set_option maxRecDepth 1000000 in
set_option maxHeartbeats 4000000 in
theorem type_11c (w : World) (t : Ty) (hk : t.kd = 11) (hu : t.un = 2) : Calls Tryz.prog 40 #[t.val] w (PIf w) := by
  obtain ⟨kd, wd, sg, un, pr, sc, zn, fl, ai, ni, ci, af, nf, cf⟩ := t
  simp only at *
  subst hk
  subst hu
  go_enter Tryz.func40, Tryz.ntmps40
  go_wp2_with fail
  go_ret
  exact pif_mk _ _ (by repeat' (first | (with_reducible exact Below.refl _ _) | (with_reducible refine Below.setCell ?_ ?_ _) | (with_reducible refine bdrewN ?_ _) | (with_reducible refine bdrew ?_) | (with_reducible refine Below.alloc ?_ ?_ _) | exact Nat.le_refl _ | (simp; done)))

set_option maxRecDepth 1000000 in
set_option maxHeartbeats 4000000 in
theorem type_2 (w : World) (t : Ty) (hk : t.kd = 2) (hw : t.wd = 8 ∨ t.wd = 16 ∨ t.wd = 32 ∨ t.wd = 64) : Calls Tryz.prog 40 #[t.val] w (PIf w) := by
  have hB0 := hide (show Below w.heap.size w (w.alloc (.cells #[.int .i64 t.kd, .int .i64 t.wd, .bool t.sg, .int .i64 t.un, .int .i64 t.pr, .int .i64 t.sc, .string t.zn, .bool t.fl, .slice t.ai t.ni t.ci, .slice t.af t.nf t.cf] 30)) from (Below.refl _ _).alloc (Nat.le_refl _) _)
  have hc := hide (fun (W : World) => arrowInt_any W t hw)
  have hF := hide (fun (W : World) (tid : TypeId) (p : Addr) (h : Below w.heap.size w W) => pif_mk tid p h)
  obtain ⟨kd, wd, sg, un, pr, sc, zn, fl, ai, ni, ci, af, nf, cf⟩ := t
  simp only at *
  subst hk
  go_enter Tryz.func40, Tryz.ntmps40
  go_wp2_with (first | (go_at_call 42; (with_reducible refine (unhide hc _).mono ?_); rintro e w2 ⟨tid, p, rfl, hb2⟩) | fail)
  go_ret
  exact unhide hF _ _ _ (below_tr (unhide hB0) hb2 (unhide hB0).size)

set_option maxRecDepth 1000000 in
set_option maxHeartbeats 4000000 in
theorem type_7 (w : World) (t : Ty) (hk : t.kd = 7) (hw : t.wd = 32 ∨ t.wd = 64 ∨ t.wd = 128 ∨ t.wd = 256) : Calls Tryz.prog 40 #[t.val] w (PIf w) := by
  have hB0 := hide (show Below w.heap.size w (w.alloc (.cells #[.int .i64 t.kd, .int .i64 t.wd, .bool t.sg, .int .i64 t.un, .int .i64 t.pr, .int .i64 t.sc, .string t.zn, .bool t.fl, .slice t.ai t.ni t.ci, .slice t.af t.nf t.cf] 30)) from (Below.refl _ _).alloc (Nat.le_refl _) _)
  have hc := hide (fun (W : World) => arrowDecimal_any W t hw)
  have hF := hide (fun (W : World) (tid : TypeId) (p : Addr) (h : Below w.heap.size w W) => pif_mk tid p h)
  obtain ⟨kd, wd, sg, un, pr, sc, zn, fl, ai, ni, ci, af, nf, cf⟩ := t
  simp only at *
  subst hk
  go_enter Tryz.func40, Tryz.ntmps40
  go_wp2_with (first | (go_at_call 43; (with_reducible refine (unhide hc _).mono ?_); rintro e w2 ⟨tid, p, rfl, hb2⟩) | fail)
  go_ret
  exact unhide hF _ _ _ (below_tr (unhide hB0) hb2 (unhide hB0).size)

set_option maxRecDepth 1000000 in
set_option maxHeartbeats 4000000 in
theorem type_n12 (w : World) (t : Ty) (hk : t.kd = 12) (hn : ∀ W, Below w.heap.size w W → Calls Tryz.prog 44 #[t.val] W (PIf W)) : Calls Tryz.prog 40 #[t.val] w (PIf w) := by
  have hB0 := hide (show Below w.heap.size w (w.alloc (.cells #[.int .i64 t.kd, .int .i64 t.wd, .bool t.sg, .int .i64 t.un, .int .i64 t.pr, .int .i64 t.sc, .string t.zn, .bool t.fl, .slice t.ai t.ni t.ci, .slice t.af t.nf t.cf] 30)) from (Below.refl _ _).alloc (Nat.le_refl _) _)
  have hc := hide (hn _ (unhide hB0))
  clear hn
  have hF := hide (fun (W : World) (tid : TypeId) (p : Addr) (h : Below w.heap.size w W) => pif_mk tid p h)
  obtain ⟨kd, wd, sg, un, pr, sc, zn, fl, ai, ni, ci, af, nf, cf⟩ := t
  simp only at *
  subst hk
  go_enter Tryz.func40, Tryz.ntmps40
  go_wp2_with (first | (go_at_call 44; (with_reducible refine (unhide hc).mono ?_); rintro e w2 ⟨tid, p, rfl, hb2⟩) | fail)
  go_ret
  exact unhide hF _ _ _ (below_tr (unhide hB0) hb2 (unhide hB0).size)

set_option maxRecDepth 1000000 in
set_option maxHeartbeats 4000000 in
theorem type_n13 (w : World) (t : Ty) (hk : t.kd = 13) (hn : ∀ W, Below w.heap.size w W → Calls Tryz.prog 44 #[t.val] W (PIf W)) : Calls Tryz.prog 40 #[t.val] w (PIf w) := by
  have hB0 := hide (show Below w.heap.size w (w.alloc (.cells #[.int .i64 t.kd, .int .i64 t.wd, .bool t.sg, .int .i64 t.un, .int .i64 t.pr, .int .i64 t.sc, .string t.zn, .bool t.fl, .slice t.ai t.ni t.ci, .slice t.af t.nf t.cf] 30)) from (Below.refl _ _).alloc (Nat.le_refl _) _)
  have hc := hide (hn _ (unhide hB0))
  clear hn
  have hF := hide (fun (W : World) (tid : TypeId) (p : Addr) (h : Below w.heap.size w W) => pif_mk tid p h)
  obtain ⟨kd, wd, sg, un, pr, sc, zn, fl, ai, ni, ci, af, nf, cf⟩ := t
  simp only at *
  subst hk
  go_enter Tryz.func40, Tryz.ntmps40
  go_wp2_with (first | (go_at_call 44; (with_reducible refine (unhide hc).mono ?_); rintro e w2 ⟨tid, p, rfl, hb2⟩) | fail)
  go_ret
  exact unhide hF _ _ _ (below_tr (unhide hB0) hb2 (unhide hB0).size)

set_option maxRecDepth 1000000 in
set_option maxHeartbeats 4000000 in
theorem type_n14 (w : World) (t : Ty) (hk : t.kd = 14) (hn : ∀ W, Below w.heap.size w W → Calls Tryz.prog 44 #[t.val] W (PIf W)) : Calls Tryz.prog 40 #[t.val] w (PIf w) := by
  have hB0 := hide (show Below w.heap.size w (w.alloc (.cells #[.int .i64 t.kd, .int .i64 t.wd, .bool t.sg, .int .i64 t.un, .int .i64 t.pr, .int .i64 t.sc, .string t.zn, .bool t.fl, .slice t.ai t.ni t.ci, .slice t.af t.nf t.cf] 30)) from (Below.refl _ _).alloc (Nat.le_refl _) _)
  have hc := hide (hn _ (unhide hB0))
  clear hn
  have hF := hide (fun (W : World) (tid : TypeId) (p : Addr) (h : Below w.heap.size w W) => pif_mk tid p h)
  obtain ⟨kd, wd, sg, un, pr, sc, zn, fl, ai, ni, ci, af, nf, cf⟩ := t
  simp only at *
  subst hk
  go_enter Tryz.func40, Tryz.ntmps40
  go_wp2_with (first | (go_at_call 44; (with_reducible refine (unhide hc).mono ?_); rintro e w2 ⟨tid, p, rfl, hb2⟩) | fail)
  go_ret
  exact unhide hF _ _ _ (below_tr (unhide hB0) hb2 (unhide hB0).size)

set_option maxRecDepth 1000000 in
set_option maxHeartbeats 4000000 in
theorem type_n16 (w : World) (t : Ty) (hk : t.kd = 16) (hn : ∀ W, Below w.heap.size w W → Calls Tryz.prog 44 #[t.val] W (PIf W)) : Calls Tryz.prog 40 #[t.val] w (PIf w) := by
  have hB0 := hide (show Below w.heap.size w (w.alloc (.cells #[.int .i64 t.kd, .int .i64 t.wd, .bool t.sg, .int .i64 t.un, .int .i64 t.pr, .int .i64 t.sc, .string t.zn, .bool t.fl, .slice t.ai t.ni t.ci, .slice t.af t.nf t.cf] 30)) from (Below.refl _ _).alloc (Nat.le_refl _) _)
  have hc := hide (hn _ (unhide hB0))
  clear hn
  have hF := hide (fun (W : World) (tid : TypeId) (p : Addr) (h : Below w.heap.size w W) => pif_mk tid p h)
  obtain ⟨kd, wd, sg, un, pr, sc, zn, fl, ai, ni, ci, af, nf, cf⟩ := t
  simp only at *
  subst hk
  go_enter Tryz.func40, Tryz.ntmps40
  go_wp2_with (first | (go_at_call 44; (with_reducible refine (unhide hc).mono ?_); rintro e w2 ⟨tid, p, rfl, hb2⟩) | fail)
  go_ret
  exact unhide hF _ _ _ (below_tr (unhide hB0) hb2 (unhide hB0).size)

set_option maxRecDepth 1000000 in
set_option maxHeartbeats 4000000 in
theorem type_n17 (w : World) (t : Ty) (hk : t.kd = 17) (hn : ∀ W, Below w.heap.size w W → Calls Tryz.prog 44 #[t.val] W (PIf W)) : Calls Tryz.prog 40 #[t.val] w (PIf w) := by
  have hB0 := hide (show Below w.heap.size w (w.alloc (.cells #[.int .i64 t.kd, .int .i64 t.wd, .bool t.sg, .int .i64 t.un, .int .i64 t.pr, .int .i64 t.sc, .string t.zn, .bool t.fl, .slice t.ai t.ni t.ci, .slice t.af t.nf t.cf] 30)) from (Below.refl _ _).alloc (Nat.le_refl _) _)
  have hc := hide (hn _ (unhide hB0))
  clear hn
  have hF := hide (fun (W : World) (tid : TypeId) (p : Addr) (h : Below w.heap.size w W) => pif_mk tid p h)
  obtain ⟨kd, wd, sg, un, pr, sc, zn, fl, ai, ni, ci, af, nf, cf⟩ := t
  simp only at *
  subst hk
  go_enter Tryz.func40, Tryz.ntmps40
  go_wp2_with (first | (go_at_call 44; (with_reducible refine (unhide hc).mono ?_); rintro e w2 ⟨tid, p, rfl, hb2⟩) | fail)
  go_ret
  exact unhide hF _ _ _ (below_tr (unhide hB0) hb2 (unhide hB0).size)

set_option maxRecDepth 1000000 in
set_option maxHeartbeats 4000000 in
theorem type_n21 (w : World) (t : Ty) (hk : t.kd = 21) (hn : ∀ W, Below w.heap.size w W → Calls Tryz.prog 44 #[t.val] W (PIf W)) : Calls Tryz.prog 40 #[t.val] w (PIf w) := by
  have hB0 := hide (show Below w.heap.size w (w.alloc (.cells #[.int .i64 t.kd, .int .i64 t.wd, .bool t.sg, .int .i64 t.un, .int .i64 t.pr, .int .i64 t.sc, .string t.zn, .bool t.fl, .slice t.ai t.ni t.ci, .slice t.af t.nf t.cf] 30)) from (Below.refl _ _).alloc (Nat.le_refl _) _)
  have hc := hide (hn _ (unhide hB0))
  clear hn
  have hF := hide (fun (W : World) (tid : TypeId) (p : Addr) (h : Below w.heap.size w W) => pif_mk tid p h)
  obtain ⟨kd, wd, sg, un, pr, sc, zn, fl, ai, ni, ci, af, nf, cf⟩ := t
  simp only at *
  subst hk
  go_enter Tryz.func40, Tryz.ntmps40
  go_wp2_with (first | (go_at_call 44; (with_reducible refine (unhide hc).mono ?_); rintro e w2 ⟨tid, p, rfl, hb2⟩) | fail)
  go_ret
  exact unhide hF _ _ _ (below_tr (unhide hB0) hb2 (unhide hB0).size)

set_option maxRecDepth 1000000 in
set_option maxHeartbeats 4000000 in
theorem type_n22 (w : World) (t : Ty) (hk : t.kd = 22) (hn : ∀ W, Below w.heap.size w W → Calls Tryz.prog 44 #[t.val] W (PIf W)) : Calls Tryz.prog 40 #[t.val] w (PIf w) := by
  have hB0 := hide (show Below w.heap.size w (w.alloc (.cells #[.int .i64 t.kd, .int .i64 t.wd, .bool t.sg, .int .i64 t.un, .int .i64 t.pr, .int .i64 t.sc, .string t.zn, .bool t.fl, .slice t.ai t.ni t.ci, .slice t.af t.nf t.cf] 30)) from (Below.refl _ _).alloc (Nat.le_refl _) _)
  have hc := hide (hn _ (unhide hB0))
  clear hn
  have hF := hide (fun (W : World) (tid : TypeId) (p : Addr) (h : Below w.heap.size w W) => pif_mk tid p h)
  obtain ⟨kd, wd, sg, un, pr, sc, zn, fl, ai, ni, ci, af, nf, cf⟩ := t
  simp only at *
  subst hk
  go_enter Tryz.func40, Tryz.ntmps40
  go_wp2_with (first | (go_at_call 44; (with_reducible refine (unhide hc).mono ?_); rintro e w2 ⟨tid, p, rfl, hb2⟩) | fail)
  go_ret
  exact unhide hF _ _ _ (below_tr (unhide hB0) hb2 (unhide hB0).size)

set_option maxRecDepth 1000000 in
set_option maxHeartbeats 4000000 in
theorem type_n25 (w : World) (t : Ty) (hk : t.kd = 25) (hn : ∀ W, Below w.heap.size w W → Calls Tryz.prog 44 #[t.val] W (PIf W)) : Calls Tryz.prog 40 #[t.val] w (PIf w) := by
  have hB0 := hide (show Below w.heap.size w (w.alloc (.cells #[.int .i64 t.kd, .int .i64 t.wd, .bool t.sg, .int .i64 t.un, .int .i64 t.pr, .int .i64 t.sc, .string t.zn, .bool t.fl, .slice t.ai t.ni t.ci, .slice t.af t.nf t.cf] 30)) from (Below.refl _ _).alloc (Nat.le_refl _) _)
  have hc := hide (hn _ (unhide hB0))
  clear hn
  have hF := hide (fun (W : World) (tid : TypeId) (p : Addr) (h : Below w.heap.size w W) => pif_mk tid p h)
  obtain ⟨kd, wd, sg, un, pr, sc, zn, fl, ai, ni, ci, af, nf, cf⟩ := t
  simp only at *
  subst hk
  go_enter Tryz.func40, Tryz.ntmps40
  go_wp2_with (first | (go_at_call 44; (with_reducible refine (unhide hc).mono ?_); rintro e w2 ⟨tid, p, rfl, hb2⟩) | fail)
  go_ret
  exact unhide hF _ _ _ (below_tr (unhide hB0) hb2 (unhide hB0).size)

set_option maxRecDepth 1000000 in
set_option maxHeartbeats 4000000 in
theorem type_n26 (w : World) (t : Ty) (hk : t.kd = 26) (hn : ∀ W, Below w.heap.size w W → Calls Tryz.prog 44 #[t.val] W (PIf W)) : Calls Tryz.prog 40 #[t.val] w (PIf w) := by
  have hB0 := hide (show Below w.heap.size w (w.alloc (.cells #[.int .i64 t.kd, .int .i64 t.wd, .bool t.sg, .int .i64 t.un, .int .i64 t.pr, .int .i64 t.sc, .string t.zn, .bool t.fl, .slice t.ai t.ni t.ci, .slice t.af t.nf t.cf] 30)) from (Below.refl _ _).alloc (Nat.le_refl _) _)
  have hc := hide (hn _ (unhide hB0))
  clear hn
  have hF := hide (fun (W : World) (tid : TypeId) (p : Addr) (h : Below w.heap.size w W) => pif_mk tid p h)
  obtain ⟨kd, wd, sg, un, pr, sc, zn, fl, ai, ni, ci, af, nf, cf⟩ := t
  simp only at *
  subst hk
  go_enter Tryz.func40, Tryz.ntmps40
  go_wp2_with (first | (go_at_call 44; (with_reducible refine (unhide hc).mono ?_); rintro e w2 ⟨tid, p, rfl, hb2⟩) | fail)
  go_ret
  exact unhide hF _ _ _ (below_tr (unhide hB0) hb2 (unhide hB0).size)

set_option maxRecDepth 1000000 in
set_option maxHeartbeats 4000000 in
theorem type_n27 (w : World) (t : Ty) (hk : t.kd = 27) (hn : ∀ W, Below w.heap.size w W → Calls Tryz.prog 44 #[t.val] W (PIf W)) : Calls Tryz.prog 40 #[t.val] w (PIf w) := by
  have hB0 := hide (show Below w.heap.size w (w.alloc (.cells #[.int .i64 t.kd, .int .i64 t.wd, .bool t.sg, .int .i64 t.un, .int .i64 t.pr, .int .i64 t.sc, .string t.zn, .bool t.fl, .slice t.ai t.ni t.ci, .slice t.af t.nf t.cf] 30)) from (Below.refl _ _).alloc (Nat.le_refl _) _)
  have hc := hide (hn _ (unhide hB0))
  clear hn
  have hF := hide (fun (W : World) (tid : TypeId) (p : Addr) (h : Below w.heap.size w W) => pif_mk tid p h)
  obtain ⟨kd, wd, sg, un, pr, sc, zn, fl, ai, ni, ci, af, nf, cf⟩ := t
  simp only at *
  subst hk
  go_enter Tryz.func40, Tryz.ntmps40
  go_wp2_with (first | (go_at_call 44; (with_reducible refine (unhide hc).mono ?_); rintro e w2 ⟨tid, p, rfl, hb2⟩) | fail)
  go_ret
  exact unhide hF _ _ _ (below_tr (unhide hB0) hb2 (unhide hB0).size)
end Go.Proofs.YtconkcjcjdmidaaGreatDoor
