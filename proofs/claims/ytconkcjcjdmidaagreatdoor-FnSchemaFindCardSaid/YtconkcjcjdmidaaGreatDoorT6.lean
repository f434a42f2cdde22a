/- How many fields a type has in it. (YtconkcjcjdmidaaGreatDoor) -/
import Derived.Test.YtconkcjcjdmidaaGreatDoorT5
set_option linter.unusedVariables false
set_option linter.unusedSimpArgs false
namespace Go.Proofs.YtconkcjcjdmidaaGreatDoor
open Go.RowKit Go.ChangeShapes Go.WideShapes Go.ChangeAt Go
theorem below_mod {w0 w w' : World} {S : List Nat} (hb : Below w0.heap.size w0 w) (hm : Mod S w w') (hS : ∀ x ∈ S, w0.heap.size ≤ x) : Below w0.heap.size w0 w' :=
  ((Mod.of_below (S := []) hb).trans hm (fun x hx => .inr (hS x hx))).below
/-- the count of what is left, in its box. -/
def LeftAt (w : World) (g : Nat) (l : Nat) : Prop := Blk w g 3 #[.int .i64 (l : Int)]
theorem LeftAt.cell {w : World} {g l : Nat} (h : LeftAt w g l) : w.cell? ⟨g, 0, none⟩ = some (.int .i64 (l : Int)) ∧ w.frozen? ⟨g, 0, none⟩ = false := ⟨by have := Blk.cell h 0; simpa using this, Blk.frozen h 0⟩
theorem LeftAt.set {w : World} {g l : Nat} (h : LeftAt w g l) (m : Nat) : LeftAt (w.setCell ⟨g, 0, none⟩ (.int .i64 (m : Int))) g m := by
  have := Blk.set h 0 (.int .i64 (m : Int))
  exact this.cast (by simp)
def PCount (w : World) (g L : Nat) (e : Ending) (w' : World) : Prop := e = .returned (.tuple #[]) ∧ ∃ l, l ≤ L ∧ LeftAt w' g l ∧ Mod [g] w w'
def CR (w : World) (g L : Nat) (t : Ty) (v : Value) (wr : World) : Prop :=
  ∃ i l : Nat, v = .int .i64 (i : Int) ∧ i ≤ t.nf ∧ l ≤ L ∧ LeftAt wr g l ∧ TB wr w.heap.size t ∧ Mod [g] w wr
set_option maxRecDepth 100000 in
set_option maxHeartbeats 2000000 in
theorem count_any (w0 : World) : ∀ (L : Nat) (w : World) (g : Nat) (t : Ty), L ≤ 1001 → (∀ n, TyAt w0 n t) → Below w0.heap.size w0 w → w0.heap.size ≤ g → LeftAt w g L →
    Calls Tryz.prog 41 #[t.val, .pointer (some ⟨g, 0, none⟩)] w (PCount w g L) := by
  intro L
  induction L using Nat.strongRecOn with
  | ind L ih =>
    intro w g t hL ht hb hg hl
    have hglt : g < w.heap.size := Blk.lt hl
    obtain ⟨_, _, _, _, _, _, _, hfs, _⟩ := ht 1
    have hnf : t.nf ≤ 9223372036854775807 := hfs.2.1
    have h00 := hide (show CR w g L t (.int .i64 0) (w.alloc (.cells #[.int .i64 t.kd, .int .i64 t.wd, .bool t.sg, .int .i64 t.un, .int .i64 t.pr, .int .i64 t.sc, .string t.zn, .bool t.fl, .slice t.ai t.ni t.ci, .slice t.af t.nf t.cf] 30)) from
      ⟨0, L, rfl, by omega, by omega, Blk.alloc hl _, TB.new w t, (Mod.refl _ _).alloc _⟩)
    have hF := hide (fun (wr : World) (hm : Mod [g] w wr) (k : Nat) (hk : k < t.nf) => hfs.at_ (below_mod hb hm (by simp; exact hg)) hk)
    have hI := hide (fun (wr : World) (l i : Nat) (hl : l < L) (hm : Mod [g] w wr) (hi : i < t.nf) (hla : LeftAt wr g l) =>
      ih l hl wr g (fAt w0 t.af i).ty (by omega) (fun n => ((ht (n + 1)).2.2.2.2.2.2.2.2 i hi).1) (below_mod hb hm (by simp; exact hg)) hg hla)
    clear ht hb hl ih
    go_enter Tryz.func41, Tryz.ntmps41
    go_wp2_with fail
    go_loopw [4] (CR w g L t) (fun v _ => t.nf - (intOf v).toNat)
    case atStart => exact unhide h00
    case round =>
      obtain ⟨i, l, rfl, hi, hlL, hla, htb, hm⟩ := hrel
      obtain ⟨c0, c1, c2, c3, c4, c5, c6, c7, c8, c9⟩ := htb.cells
      obtain ⟨p0, q0⟩ := hla.cell
      by_cases hlt : i < t.nf
      · have hlt' : (i : Int) < (t.nf : Int) := by omega
        by_cases hl0 : 0 < l
        · have hm2 : Mod [g] w (wr.setCell ⟨g, 0, none⟩ (.int .i64 ((l - 1 : Nat) : Int))) := hm.setCell (by simp) _
          obtain ⟨b, o, ha, hfc, hns⟩ := (unhide hF) _ hm2 i hlt
          have hcall := (unhide hI) _ (l - 1) i (by omega) hm2 hlt (hla.set (l - 1))
          have hl0' : (0 : Int) < (l : Int) := by omega
          have hw2 : IntKind.i64.wrap ((l : Int) - 1) = ((l - 1 : Nat) : Int) := ((IntWalk.i64_left _).trans (IntWalk.wrap64_in _ (by omega))).trans (by omega)
          have hw1 : IntKind.i64.wrap ((i : Int) + 1) = (i : Int) + 1 := (IntWalk.i64_left _).trans (IntWalk.wrap64_in _ (by omega))
          have hfin := hide (fun (W : World) (l' : Nat) (h1 : l' ≤ l - 1) (h2 : LeftAt W g l') (h3 : Mod [g] (wr.setCell ⟨g, 0, none⟩ (.int .i64 ((l - 1 : Nat) : Int))) W) =>
            (show CR w g L t (.int .i64 ((i : Int) + 1)) W from ⟨i + 1, l', by simp, by omega, by omega, h2, Blk.mod htb (((Mod.refl [g] wr).setCell (by simp) _).trans h3 (by simp)) (by simp; omega), hm2.trans h3 (by simp)⟩))
          have htb2 : TB (wr.setCell ⟨g, 0, none⟩ (.int .i64 ((l - 1 : Nat) : Int))) w.heap.size t := Blk.mod htb ((Mod.refl [g] wr).setCell (by simp) _) (by simp; omega)
          obtain ⟨e0, e1, e2, e3, e4, e5, e6, e7, e8, e9⟩ := htb2.cells
          generalize fAt w0 t.af i = f at hfc hcall hns
          replace hcall := hide hcall
          obtain ⟨d0, d1, d2, d3, d4, d5, d6, d7, d8, d9, d10, d11, d12⟩ := hfc
          have hafz : t.af = some ⟨b, o, none⟩ := ha
          clear htb htb2 hla hm hm2 hI hF ha
          go_wp2_with (first | (go_at_call 41; (with_reducible refine (unhide hcall).mono ?_); rintro e w2 ⟨rfl, l', h1, h2, h3⟩) | fail)
          exact ⟨unhide hfin w2 l' h1 h2 h3, by show t.nf - (intOf (Value.int IntKind.i64 ((i : Int) + 1))).toNat < t.nf - (intOf (Value.int IntKind.i64 (i : Int))).toNat; simp only [intOf]; omega⟩
        · have hl0' : ¬ (0 : Int) < (l : Int) := by omega
          have hR := hide (show PCount w g L (.returned (.tuple #[])) wr from ⟨rfl, l, hlL, hla, hm⟩)
          clear htb hla hm hI hF
          go_wp2_with fail
          go_returns
          exact unhide hR
      · have hlt' : ¬ (i : Int) < (t.nf : Int) := by omega
        have hR := hide (show PCount w g L (.returned (.tuple #[])) wr from ⟨rfl, l, hlL, hla, hm⟩)
        clear htb hla hm hI hF
        go_wp2_with fail
        go_returns
        exact unhide hR
theorem fieldsIn_any (w0 w : World) (t : Ty) (ht : ∀ n, TyAt w0 n t) (hb : Below w0.heap.size w0 w) :
    Calls Tryz.prog 30 #[t.val] w fun e w' => ∃ m : Int, e = .returned (.int .i64 m) ∧ 0 ≤ m ∧ m ≤ 1001 ∧ Below w.heap.size w w' := by
  have hs := hb.size
  have hT := TB.new w t
  have hC := hide (count_any w0 1001 ((w.alloc (.cells #[.int .i64 t.kd, .int .i64 t.wd, .bool t.sg, .int .i64 t.un, .int .i64 t.pr, .int .i64 t.sc, .string t.zn, .bool t.fl, .slice t.ai t.ni t.ci, .slice t.af t.nf t.cf] 30)).alloc (.cells #[.int .i64 1001] 3)) (w.heap.size + 1) t (by omega) ht ((hb.alloc hs _).alloc (by simp; omega) _) (by omega) (Blk.new 3 _ (by simp)))
  have hF := hide (fun (W : World) (l : Nat) (hl : l ≤ 1001) (h2 : LeftAt W (w.heap.size + 1) l) (hm : Mod [w.heap.size + 1] ((w.alloc (.cells #[.int .i64 t.kd, .int .i64 t.wd, .bool t.sg, .int .i64 t.un, .int .i64 t.pr, .int .i64 t.sc, .string t.zn, .bool t.fl, .slice t.ai t.ni t.ci, .slice t.af t.nf t.cf] 30)).alloc (.cells #[.int .i64 1001] 3)) W) =>
    (⟨(LeftAt.cell h2).1, (((Mod.refl [] w).alloc _).alloc _ |>.trans hm (by simp)).below⟩ : W.cell? ⟨w.heap.size + 1, 0, none⟩ = some (.int .i64 (l : Int)) ∧ Below w.heap.size w W))
  clear ht hb hT
  go_enter Tryz.func30, Tryz.ntmps30
  go_wp2_with (first | (go_at_call 41; (with_reducible refine (unhide hC).mono ?_); rintro e w2 ⟨rfl, l, h1, h2, h3⟩; obtain ⟨y0, y1⟩ := unhide hF w2 l h1 h2 h3; have hw2 : IntKind.i64.wrap (1001 - (l : Int)) = 1001 - (l : Int) := (IntWalk.i64_left _).trans (IntWalk.wrap64_in _ (by omega))) | fail)
  go_ret
  exact ⟨_, rfl, by omega, by omega, y1⟩
end Go.Proofs.YtconkcjcjdmidaaGreatDoor
