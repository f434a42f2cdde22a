/- A field that is found: always. (YtconkcjcjdmidaaGreatDoor) -/
import Derived.Test.YtconkcjcjdmidaaGreatDoorZC
set_option linter.unusedVariables false
set_option linter.unusedSimpArgs false
namespace Go.Proofs.YtconkcjcjdmidaaGreatDoor
open Go.RowKit Go.ChangeShapes Go.WideShapes Go.ChangeAt Go Go.Maps
attribute [local go_sem ↓] Go.wp_at_zero Go.wp_at_succ
/-- the one field of the schema that is tried: its name is "a", its type a boolean. -/
def fA : Fd := { nm := ⟨#[97]⟩, nl := false, ty := { kd := 6, wd := 0, sg := false, un := 0, pr := 0, sc := 0, zn := ⟨#[]⟩, fl := false, ai := none, ni := 0, ci := 0, af := none, nf := 0, cf := 0 }, am := none, nm' := 0, cm := 0 }
theorem fA_at {W : World} {g : Nat} (h : Blk W g 32 fA.row) : fAt W (some ⟨g, 0, none⟩) 0 = fA := by
  obtain ⟨h0, h1, h2, h3, h4, h5, h6, h7, h8, h9, ha, hb, hc⟩ := FB.fc0 (show FB W g fA from h)
  have e : fAt W (some ⟨g, 0, none⟩) 0 = readF W g 0 := by
    unfold fAt blkOf offOf
    simp
  rw [e]
  unfold readF readT
  simp only [Nat.zero_add, Nat.reduceAdd, h0, h1, h2, h3, h4, h5, h6, h7, h8, h9, ha, hb, hc, vS, vB, vI, vA, vN, vC]
theorem is_none (w : World) (c : Nat) : Is w none 0 c := ⟨Nat.zero_le _, Nat.zero_le _, fun h => absurd h (by omega)⟩
theorem fs_none (w : World) (c : Nat) : Fs w none 0 c := ⟨Nat.zero_le _, Nat.zero_le _, fun h => absurd h (by omega)⟩
theorem fA_ty (w : World) : ∀ m, TyAt w m fA.ty
  | 0 => trivial
  | m + 1 => ⟨⟨by decide, by decide⟩, ⟨by decide, by decide⟩, ⟨by decide, by decide⟩, ⟨by decide, by decide⟩, ⟨by decide, by decide⟩, Nat.zero_le _, is_none w 0, fs_none w 0, fun k hk => absurd hk (by simp [fA])⟩
theorem fA_ok (w : World) : Ok w 4 fA.ty :=
  ⟨by decide, by decide, by decide, by decide, fun k hk => absurd hk (by simp [fA]), by unfold KindOk; simp [fA]⟩
theorem fA_nm (w : World) : ∀ m, Nm w m fA.ty
  | 0 => trivial
  | m + 1 => fun k hk => absurd hk (by simp [fA])
theorem fA_fok {W : World} {g : Nat} (h : Blk W g 32 fA.row) : FOk W (some ⟨g, 0, none⟩) 1 1 where
  fs := ⟨Nat.le_refl _, by unfold maxLen; omega, fun _ => ⟨g, 0, rfl, h.lt, fun k hk => by
    obtain rfl : k = 0 := by omega
    rw [fA_at h]
    refine ⟨?_, by unfold maxLen; decide⟩
    have := FB.cells (show FB W g fA from h)
    simpa using this⟩⟩
  few := by omega
  ok := fun k hk => by
    obtain rfl : k = 0 := by omega
    rw [fA_at h]
    exact ⟨fA_ok W, rfl, fA_nm W 4, fA_ty W⟩
theorem fA_plc {W : World} {g : Nat} (h : Blk W g 32 fA.row) : plcF W (some ⟨g, 0, none⟩) 1 ⟨#[97]⟩ = [0] := by
  unfold plcF
  simp only [List.range_one, List.filter_cons, List.filter_nil, fA_at h]
  rfl
theorem ps_none (w : World) : Ps w (.slice none ([] : List Pr).length 0) [] := ⟨none, 0, rfl, Nat.le_refl _, fun h => absurd h (by simp)⟩
set_option maxRecDepth 100000 in
set_option maxHeartbeats 1000000 in
theorem finds_any (w : World) : Calls Tryz.prog 6 #[] w (PBl w true) := by
  obtain ⟨W0, hW0⟩ : ∃ W0, W0 = w.alloc (.cells fA.row 32) := ⟨_, rfl⟩
  have hB0 : Below w.heap.size w W0 := by rw [hW0]; exact (by repeat' (first | (with_reducible exact Below.refl _ _) | (with_reducible refine Below.setCell ?_ ?_ _) | (with_reducible refine bdrewN ?_ _) | (with_reducible refine bdrew ?_) | (with_reducible refine Below.alloc ?_ ?_ _) | exact Nat.le_refl _ | (simp; done) | (simp; omega)))
  have hK : Blk W0 w.heap.size 32 fA.row := by rw [hW0]; exact Blk.new _ _ rfl
  have hc := hide (show Calls Tryz.prog 7 #[.agg #[.slice (some ⟨w.heap.size, 0, none⟩) 1 1, .slice none 0 0], .string ⟨#[97]⟩] W0 (PFind W0 [0] 1) from by
    have := schemaFind_any W0 W0 (some ⟨w.heap.size, 0, none⟩) 1 1 none 0 [] (fA_fok hK) (ps_none W0) (by simp) (Below.refl _ _) ⟨#[97]⟩ (by unfold maxLen; decide)
    rw [fA_plc hK] at this
    exact this)
  replace hB0 := hide hB0
  clear hK
  go_enter Tryz.func6, Tryz.ntmps6
  rw [show fA.row = #[.string ⟨#[97]⟩, .bool false, .int .i64 6, .int .i64 0, .bool false, .int .i64 0, .int .i64 0, .int .i64 0, .string ⟨#[]⟩, .bool false, .slice none 0 0, .slice none 0 0, .slice none 0 0] from rfl] at hW0
  go_wp2_with (first
    | (rw [← hW0]; clear hW0; go_at_call 7; (with_reducible refine (unhide hc).mono ?_); rintro e w2 ⟨v, rfl, hz, hb2⟩; rcases hz with ⟨_, h9⟩ | ⟨g, c, rfl, hc1, hg, hc2, hcs⟩; (focus cases h9); (have q0 := hcs 0 (by simp)); simp at q0; replace hb2 := hide hb2; clear hcs)
    | fail)
  go_ret
  exact ⟨rfl, below_tr (unhide hB0) (unhide hb2) (unhide hB0).size⟩
end Go.Proofs.YtconkcjcjdmidaaGreatDoor
