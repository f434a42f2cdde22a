/- The reference's side of the bit statements: 'within', 'Bit', 'changed'. The bit writer: its small methods. Bits written one by one: plain facts. The bit writer over a row of bytes: bit after bit. (YtjfbojmeccdchaaDoor) -/
import Derived.Test.YtjfbojmeccdchaaDoorRows
import Derived.Test.YtjfbojmeccdchaaDoorL3
import Derived.RegionTactic
import Derived.BigRegion
set_option linter.unusedVariables false
set_option linter.unusedSimpArgs false
namespace Go.Proofs.YtjfbojmeccdchaaDoor
section
open Go.ChangeShapes Go.WideShapes Go.ChangeAt Go.RowKit
theorem info5 : (Tryd.prog.info? 5).map (fun i => (i.zero, i.size, i.bytes)) = some (some (.int .u8 0), 1, 1) := by kernel_rfl
def bools (l : List Bool) : List Value := l.map fun b => Value.bool b
theorem build0 (w : World) : (Instr.buildSlice 22 0 #[]).run Tryd.prog w = .ok (.slice (some ⟨w.heap.size, 0, none⟩) 0 0) (w.alloc (.cells #[] 5)) := by kernel_rfl
def ChgRel (w : World) (W0 : Nat) (d : List Nat) (at_ : Nat) (l : List Bool) (G cap : Nat) (v16 : Value) (wr : World) : Prop :=
  ∃ k : Nat, k ≤ l.length ∧ v16 = .int .i64 k ∧ wr.ownsRow W0 5 1 (.slice (some ⟨G, 0, none⟩) d.length cap) d.length (bv (chgN d at_ l k)) ∧ Mod [G] w wr
theorem bools_at {w : World} {B : Nat} {A : Option Addr} {l : List Bool} (h : Sl w B A l.length (bools l)) {k : Nat} (hk : k < l.length) :
    ∃ b off, A = some ⟨b, off, none⟩ ∧ b < B ∧ w.cell? ⟨b, off + k, none⟩ = some (.bool (l.getD k false)) := by
  obtain ⟨b, off, u, e, hb, hu, hc⟩ := h.at_ hk
  refine ⟨b, off, e, hb, hc.trans ?_⟩
  rw [← hu]; simp [bools, List.getElem?_eq_getElem hk]
theorem chg_false {w1 wr : World} {W0 : Nat} {d : List Nat} {at_ : Nat} {l : List Bool} {G cap k x : Nat} (ho : wr.ownsRow W0 5 1 (.slice (some ⟨G, 0, none⟩) d.length cap) d.length (bv (chgN d at_ l k))) (hmr : Mod [G] w1 wr)
    (hlt : k < l.length) (hdv : (at_ + k) / 8 < d.length) (hx : x < 256) (HX : (chgN d at_ l k).getD ((at_ + k) / 8) 0 = x) (HB : l.getD k false = false) :
    ChgRel w1 W0 d at_ l G cap (.int .i64 ((k : Int) + 1)) (wr.setCell ⟨G, (at_ + k) / 8, none⟩ (.int .u8 (bits .andNot .u8 (x : Int) (2 ^ ((at_ + k) % 8) % 256)))).drew := by
  rw [andNot_pow x _ hx (by omega)]
  have h1 := own_set ho ((at_ + k) / 8) (x &&& (255 - 2 ^ ((at_ + k) % 8))) hdv
  have e : chgN d at_ l (k + 1) = (chgN d at_ l k).set ((at_ + k) / 8) (x &&& (255 - 2 ^ ((at_ + k) % 8))) := by
    rw [chgN, setBit, HB, HX]; rfl
  rw [← e] at h1
  exact ⟨k + 1, by omega, by simp, own_mod h1 (Mod.drew (Mod.refl [] _)) (by simp), (hmr.setCell (by simp) _).drew⟩
theorem chg_true {w1 wr : World} {W0 : Nat} {d : List Nat} {at_ : Nat} {l : List Bool} {G cap k x : Nat} (ho : wr.ownsRow W0 5 1 (.slice (some ⟨G, 0, none⟩) d.length cap) d.length (bv (chgN d at_ l k))) (hmr : Mod [G] w1 wr)
    (hlt : k < l.length) (hdv : (at_ + k) / 8 < d.length) (hx : x < 256) (HX : (chgN d at_ l k).getD ((at_ + k) / 8) 0 = x) (HB : l.getD k false = true) :
    ChgRel w1 W0 d at_ l G cap (.int .i64 ((k : Int) + 1)) ((wr.setCell ⟨G, (at_ + k) / 8, none⟩ (.int .u8 (bits .andNot .u8 (x : Int) (2 ^ ((at_ + k) % 8) % 256)))).setCell ⟨G, (at_ + k) / 8, none⟩
      (.int .u8 (bits .or .u8 (bits .andNot .u8 (x : Int) (2 ^ ((at_ + k) % 8) % 256)) (2 ^ ((at_ + k) % 8) % 256)))).drew.drew := by
  rw [andNot_pow x _ hx (by omega), or_pow _ _ (and_lt8 hx _) (by omega)]
  have h1 := own_set (own_set ho ((at_ + k) / 8) (x &&& (255 - 2 ^ ((at_ + k) % 8))) hdv) ((at_ + k) / 8) (x &&& (255 - 2 ^ ((at_ + k) % 8)) ||| 2 ^ ((at_ + k) % 8)) hdv
  have e : chgN d at_ l (k + 1) = ((chgN d at_ l k).set ((at_ + k) / 8) (x &&& (255 - 2 ^ ((at_ + k) % 8)))).set ((at_ + k) / 8) (x &&& (255 - 2 ^ ((at_ + k) % 8)) ||| 2 ^ ((at_ + k) % 8)) := by
    rw [List.set_set, chgN, setBit, HB, HX]; rfl
  rw [← e] at h1
  exact ⟨k + 1, by omega, by simp, own_mod h1 (Mod.drew (Mod.drew (Mod.refl [] _))) (by simp), ((hmr.setCell (by simp) _).setCell (by simp) _).drew.drew⟩
set_option maxRecDepth 100000 in
set_option maxHeartbeats 4000000 in
theorem changed_any (w : World) (A A2 : Option Addr) (c c2 : Nat) (d : List Nat) (l : List Bool) (at_ : Nat) (hd : Sl w w.heap.size A d.length (bv d)) (hl : Sl w w.heap.size A2 l.length (bools l)) (hs : Small d)
    (hn : d.length ≤ 4096) (ha : at_ + l.length ≤ 8 * d.length) :
    Calls Tryd.prog 9 #[.slice A d.length c, .int .i64 (at_ : Int), .slice A2 l.length c2] w fun e w' => ∃ G cap, e = .returned (.slice (some ⟨G, 0, none⟩) d.length cap) ∧ w'.ownsRow w.heap.size 5 1 (.slice (some ⟨G, 0, none⟩) d.length cap) d.length (bv (chgN d at_ l l.length)) ∧ Mod [] w w' := by
  obtain ⟨i0, hi, hz0, hz1, hz2⟩ := info_parts info5
  have hb0 := build0
  obtain ⟨G, cap, w1, hrun, hown, hm, hG, hG1, hcap⟩ := copy_run w 22 22 5 i0 _ Tryd.underlying22 hi hz0 hz1 hz2 rfl A c d (Nat.le_refl _) hd (by omega)
  clear hi hz0 hz1 hz2
  clear hd
  have HR := Lib.hid hrun
  clear hrun
  go_enter Tryd.func9, Tryd.ntmps9
  go_wp2_with (at_builtin; refine wpList_append_run rfl _ _ 22 22 rfl _ _ _ _ rfl rfl HR.out ?_)
  clear HR hb0
  go_loopw [16] (ChgRel w1 w.heap.size d at_ l G cap) (fun v _ => l.length - (intOf v).toNat)
  case atStart => exact ⟨0, Nat.zero_le _, rfl, hown, Mod.refl _ _⟩
  case round =>
    obtain ⟨k, hk, rfl, ho, hmr⟩ := hrel
    by_cases hlt : k < l.length
    · have hl' : Sl wr w.heap.size A2 l.length (bools l) := (hl.mod hm (by simp)).mod hmr (by simp; omega)
      obtain ⟨b, off, rfl, hb, hcell⟩ := bools_at hl' hlt
      have hdv : (at_ + k) / 8 < d.length := by omega
      have hx := (chgN_small hs at_ l k).get ((at_ + k) / 8)
      have c1 := own_cell ho ((at_ + k) / 8) hdv
      have f1 := own_frozen ho ((at_ + k) / 8)
      have g1 := own_lt' ho
      have HE := Lib.hid (show chgN d at_ l (k + 1) = setBit (chgN d at_ l k) (at_ + k) (l.getD k false) from rfl)
      generalize hxx : (chgN d at_ l k).getD ((at_ + k) / 8) 0 = x at c1 hx
      have HX := Lib.hid hxx
      clear hl hl' hxx
      cases hbb : l.getD k false
      all_goals
        rw [hbb] at hcell
        have HB := Lib.hid hbb
        clear hbb
        go_upto_region 6 with fail
        go_region
        go_wp2
      · exact ⟨chg_false ho hmr hlt hdv hx HX.out HB.out, by simp [intOf]; omega⟩
      · go_region
        go_wp2
        exact ⟨chg_true ho hmr hlt hdv hx HX.out HB.out, by simp [intOf]; omega⟩
    · obtain rfl : k = l.length := by omega
      go_wp2
      go_ret
      exact ⟨G, cap, rfl, ho, hm.trans hmr (by simp; omega)⟩

def withinB (n : Nat) (i m : Int) : Bool := decide ((n : Int) ≤ 4096) && decide (0 ≤ i) && decide (0 ≤ m) && decide (i ≤ 8 * n) && decide (m ≤ 8 * n - i)
theorem within_any (w : World) (A : Option Addr) (n c : Nat) (i m : Int) (hn : n ≤ 140737488351232) :
    Calls Tryd.prog 4 #[.slice A n c, .int .i64 i, .int .i64 m] w fun e w' => e = .returned (.bool (withinB n i m)) ∧ w = w' := by
  go_enter Tryd.func4, Tryd.ntmps4
  go_wp2
  all_goals (go_ret; refine ⟨ret_bool ?_, rfl⟩; simp only [withinB])
  all_goals first | (simp only [*, decide_true, Bool.true_and]; done) | (symm; simp; omega) | (simp; omega)
set_option maxRecDepth 100000 in
theorem copied_any (w : World) (A : Option Addr) (c : Nat) (d : List Nat) {B : Nat} (hB : B ≤ w.heap.size) (hd : Sl w B A d.length (bv d)) (hn : d.length ≤ 4096) :
    Calls Tryd.prog 14 #[.slice A d.length c] w fun e w' => ∃ G cap, e = .returned (.slice (some ⟨G, 0, none⟩) d.length cap) ∧ w'.ownsRow w.heap.size 5 1 (.slice (some ⟨G, 0, none⟩) d.length cap) d.length (bv d) ∧ Mod [] w w' ∧ w.heap.size ≤ G ∧ d.length ≤ cap := by
  obtain ⟨i0, hi, hz0, hz1, hz2⟩ := info_parts info5
  have hb0 := build0
  obtain ⟨G, cap, w1, hrun, hown, hm, hG, hG1, hcap⟩ := copy_run w 22 22 5 i0 _ Tryd.underlying22 hi hz0 hz1 hz2 rfl A c d hB hd (by omega)
  have HR := Lib.hid hrun
  clear hi hz0 hz1 hz2 hd hrun
  go_enter Tryd.func14, Tryd.ntmps14
  go_wp2_with (at_builtin; refine wpList_append_run rfl _ _ 22 22 rfl _ _ _ _ rfl rfl HR.out ?_)
  go_ret
  exact ⟨G, cap, rfl, hown, hm, hG, hcap⟩
theorem own_base {w : World} {b b' : Nat} {e : TypeId} {size n : Nat} {v : Value} {xs : List Value} (h : w.ownsRow b e size v n xs) (hb : b' ≤ b) : w.ownsRow b' e size v n xs := by
  refine ⟨h.1, ?_⟩
  rcases h.2 with h2 | ⟨g, cap, cur, rfl, h1, r⟩
  · exact .inl h2
  · exact .inr ⟨g, cap, cur, rfl, by omega, r⟩
theorem idle (p : Addr) (w : World) : CallsD Tryd.prog 12 #[.pointer (some p)] .returning w fun e u' w' => e = .returned (.tuple #[]) ∧ u' = .returning ∧ w = w' := by
  refine callsD_of_wpS Tryd.func12 rfl fun c₀ cs hu => ?_
  apply wpS_seq
  apply wpS_region
  simp [wpOpsS, go_sem, recoverD, hu, Tryd.ntmps12, Exit.thenS]
  refine wpS_cond (t := false) (by simp [Act.eval, Array.replicate]) ?_
  simp only [Bool.false_eq_true, if_false]
  refine wpS_of_wp (wp_skip ?_)
  cases c₀
  simp_all [bodyPostS, results, Tryd.results12]
theorem withinB_true {n : Nat} {i m : Int} (h : withinB n i m = true) : n ≤ 4096 ∧ 0 ≤ i ∧ 0 ≤ m ∧ i ≤ 8 * n ∧ m ≤ 8 * n - i := by
  simp [withinB] at h; omega
end
section
open Go.ChangeShapes Go.WideShapes Go.ChangeAt Go.RowKit
def Msk (w : World) : Prop := ∀ i, i < 8 → w.cell? ⟨3, i, none⟩ = some (.int .u8 ((2 ^ i : Nat) : Int))
def Flp (w : World) : Prop := ∀ i, i < 8 → w.cell? ⟨2, i, none⟩ = some (.int .u8 ((255 - 2 ^ i : Nat) : Int))
def PB (w : World) (P : Nat) (t : TypeId) (cs : Array Value) (S : List Nat) (e : Ending) (w' : World) : Prop := e = .returned (.tuple #[]) ∧ Blk w' P t cs ∧ Mod S w w'
theorem blk6 {w : World} {P : Nat} {t : TypeId} {a0 a1 a2 a3 a4 a5 : Value} (h : Blk w P t #[a0, a1, a2, a3, a4, a5]) :
    w.cell? ⟨P, 0, none⟩ = some a0 ∧ w.cell? ⟨P, 1, none⟩ = some a1 ∧ w.cell? ⟨P, 2, none⟩ = some a2 ∧ w.cell? ⟨P, 3, none⟩ = some a3 ∧ w.cell? ⟨P, 4, none⟩ = some a4 ∧ w.cell? ⟨P, 5, none⟩ = some a5 :=
  ⟨h.cell 0, h.cell 1, h.cell 2, h.cell 3, h.cell 4, h.cell 5⟩
theorem notu8 (m : Nat) (hm : m < 256) : bits .xor .u8 IntKind.u8.max (m : Int) = ((255 - m : Nat) : Int) := by
  have h : bits .xor .u8 ((255 : Nat) : Int) (m : Int) = ((255 ^^^ m : Nat) : Int) := u8_xor_nat 255 m (by decide) hm
  have e : 255 ^^^ m = 255 - m := byte_ext (xor_lt8 (by decide) hm) (by omega) fun k hk => by
    rw [tb_not8 m k hm hk, Nat.testBit_xor]
    have : (255 : Nat).testBit k = true := by
      rcases (by omega : k = 0 ∨ k = 1 ∨ k = 2 ∨ k = 3 ∨ k = 4 ∨ k = 5 ∨ k = 6 ∨ k = 7) with rfl | rfl | rfl | rfl | rfl | rfl | rfl | rfl <;> rfl
    rw [this]; simp
  rw [← e]; exact h
theorem bwSet_any (w : World) (P : Nat) (a0 a1 a2 a5 : Value) (cur m : Nat) (hc : cur < 256) (hm : m < 256) (h : Blk w P 103 #[a0, a1, a2, .int .u8 cur, .int .u8 m, a5]) :
    Calls Tryd.prog 74 #[.pointer (some ⟨P, 0, none⟩)] w (PB w P 103 #[a0, a1, a2, .int .u8 ((cur ||| m : Nat) : Int), .int .u8 m, a5] [P]) := by
  obtain ⟨c0, c1, c2, c3, c4, c5⟩ := blk6 h
  have f3 := h.frozen 3
  have hb := u8_or_nat cur m hc hm
  have hR := hide (show PB w P 103 #[a0, a1, a2, .int .u8 ((cur ||| m : Nat) : Int), .int .u8 m, a5] [P] (.returned (.tuple #[])) (w.setCell ⟨P, 3, none⟩ (.int .u8 (bits .or .u8 cur m))).drew from
    ⟨rfl, by rw [hb]; exact (h.set 3 _).drew, by (repeat' (first | exact Mod.refl _ _ | assumption | apply Mod.drew | apply Mod.drewN | apply Mod.alloc | (refine Mod.setCell ?_ (by first | (left; simp; done) | (right; first | omega | (simp; omega) | (simp; done))) _)))⟩)
  clear hb h
  go_enter Tryd.func74, Tryd.ntmps74
  go_region
  go_wp2
  go_returns
  exact unhide hR
theorem bwClear_any (w : World) (P : Nat) (a0 a1 a2 a5 : Value) (cur m : Nat) (hc : cur < 256) (hm : m < 256) (h : Blk w P 103 #[a0, a1, a2, .int .u8 cur, .int .u8 m, a5]) :
    Calls Tryd.prog 75 #[.pointer (some ⟨P, 0, none⟩)] w (PB w P 103 #[a0, a1, a2, .int .u8 ((cur &&& (255 - m) : Nat) : Int), .int .u8 m, a5] [P]) := by
  obtain ⟨c0, c1, c2, c3, c4, c5⟩ := blk6 h
  have f3 := h.frozen 3
  have hb := u8_and_nat cur (255 - m) hc (by omega)
  have e := notu8 m hm
  have hR := hide (show PB w P 103 #[a0, a1, a2, .int .u8 ((cur &&& (255 - m) : Nat) : Int), .int .u8 m, a5] [P] (.returned (.tuple #[])) (w.setCell ⟨P, 3, none⟩ (.int .u8 (bits .and .u8 cur (bits .xor .u8 IntKind.u8.max (m : Int))))).drew from
    ⟨rfl, by rw [e, hb]; exact (h.set 3 _).drew, by (repeat' (first | exact Mod.refl _ _ | assumption | apply Mod.drew | apply Mod.drewN | apply Mod.alloc | (refine Mod.setCell ?_ (by first | (left; simp; done) | (right; first | omega | (simp; omega) | (simp; done))) _)))⟩)
  clear hb h e
  go_enter Tryd.func75, Tryd.ntmps75
  go_region
  go_wp2
  go_returns
  exact unhide hR
def PBR (w : World) (B G N cap P : Nat) (cs : Array Value) (mem : List Nat) (e : Ending) (w' : World) : Prop :=
  e = .returned (.tuple #[]) ∧ Blk w' P 103 cs ∧ w'.ownsRow B 5 1 (.slice (some ⟨G, 0, none⟩) N cap) N (bv mem) ∧ Mod [P, G] w w'
theorem own_P {w w' : World} {B G N cap P : Nat} {mem : List Nat} (h : w.ownsRow B 5 1 (.slice (some ⟨G, 0, none⟩) N cap) N (bv mem)) (hm : Mod [P] w w') (hne : G ≠ P) : w'.ownsRow B 5 1 (.slice (some ⟨G, 0, none⟩) N cap) N (bv mem) :=
  own_mod h hm fun g hg => by
    have : G = g := by simpa [Value.ownBlock] using hg
    subst this
    simpa using hne
theorem own_D {w : World} {B G N cap : Nat} {xs : List Value} (h : w.ownsRow B 5 1 (.slice (some ⟨G, 0, none⟩) N cap) N xs) : (w.drew).ownsRow B 5 1 (.slice (some ⟨G, 0, none⟩) N cap) N xs :=
  own_mod h (Mod.drew (Mod.refl [] w)) (by simp)
theorem bwNext_in (w : World) (P : Nat) (a0 a2 a5 : Value) (pos cur m : Nat) (hm : m < 128) (h0 : 0 < m) (hp : pos < 1048576) (h : Blk w P 103 #[a0, .int .i64 pos, a2, .int .u8 cur, .int .u8 m, a5]) :
    Calls Tryd.prog 76 #[.pointer (some ⟨P, 0, none⟩)] w (PB w P 103 #[a0, .int .i64 ((pos + 1 : Nat) : Int), a2, .int .u8 cur, .int .u8 ((2 * m : Nat) : Int), a5] [P]) := by
  obtain ⟨c0, c1, c2, c3, c4, c5⟩ := blk6 h
  have f0 := h.frozen 4
  have f1 := h.frozen 1
  have e : (m : Int) * 2 % 256 = ((2 * m : Nat) : Int) := by omega
  have e2 : (((2 * m : Nat) : Int) == 0) = false := by rw [beq_eq_false_iff_ne]; omega
  have hR := hide (fun (x y : Int) (hx : x = ((2 * m : Nat) : Int)) (hy : y = ((pos + 1 : Nat) : Int)) => (show PB w P 103 #[a0, .int .i64 ((pos + 1 : Nat) : Int), a2, .int .u8 cur, .int .u8 ((2 * m : Nat) : Int), a5] [P] (.returned (.tuple #[])) ((w.setCell ⟨P, 4, none⟩ (.int .u8 x)).setCell ⟨P, 1, none⟩ (.int .i64 y)) from
    ⟨rfl, by rw [hx, hy]; exact (h.set 4 _).set 1 _, by (repeat' (first | exact Mod.refl _ _ | assumption | apply Mod.drew | apply Mod.drewN | apply Mod.alloc | (refine Mod.setCell ?_ (by first | (left; simp; done) | (right; first | omega | (simp; omega) | (simp; done))) _)))⟩))
  clear h
  go_enter Tryd.func76, Tryd.ntmps76
  go_wp2_with fail
  go_returns
  exact unhide hR _ _ (by omega) (by omega)
section
variable {w : World} {P : Nat} {t : TypeId} {a0 a1 a2 a3 a4 a5 : Value}
theorem b6s0 (h : Blk w P t #[a0, a1, a2, a3, a4, a5]) (v : Value) : Blk (w.setCell ⟨P, 0, none⟩ v) P t #[v, a1, a2, a3, a4, a5] := h.set 0 v
theorem b6s1 (h : Blk w P t #[a0, a1, a2, a3, a4, a5]) (v : Value) : Blk (w.setCell ⟨P, 1, none⟩ v) P t #[a0, v, a2, a3, a4, a5] := h.set 1 v
theorem b6s2 (h : Blk w P t #[a0, a1, a2, a3, a4, a5]) (v : Value) : Blk (w.setCell ⟨P, 2, none⟩ v) P t #[a0, a1, v, a3, a4, a5] := h.set 2 v
theorem b6s3 (h : Blk w P t #[a0, a1, a2, a3, a4, a5]) (v : Value) : Blk (w.setCell ⟨P, 3, none⟩ v) P t #[a0, a1, a2, v, a4, a5] := h.set 3 v
theorem b6s4 (h : Blk w P t #[a0, a1, a2, a3, a4, a5]) (v : Value) : Blk (w.setCell ⟨P, 4, none⟩ v) P t #[a0, a1, a2, a3, v, a5] := h.set 4 v
theorem b6s5 (h : Blk w P t #[a0, a1, a2, a3, a4, a5]) (v : Value) : Blk (w.setCell ⟨P, 5, none⟩ v) P t #[a0, a1, a2, a3, a4, v] := h.set 5 v
end
theorem own_S {w : World} {B G N cap P i : Nat} {xs : List Value} (h : w.ownsRow B 5 1 (.slice (some ⟨G, 0, none⟩) N cap) N xs) (hne : G ≠ P) (v : Value) : (w.setCell ⟨P, i, none⟩ v).ownsRow B 5 1 (.slice (some ⟨G, 0, none⟩) N cap) N xs :=
  own_mod h ((Mod.refl [P] w).setCell (by simp) v) fun g hg => by
    have : G = g := by simpa [Value.ownBlock] using hg
    subst this
    simpa using hne
theorem next_w (w : World) (B G N cap P j : Nat) (S L : Value) (mem : List Nat) (cur : Nat) (a1 a4 a5 x z : Value) (hj : j < N) (hne : G ≠ P) (hne' : P ≠ G)
    (h : Blk w P 103 #[S, a1, L, .int .u8 cur, a4, a5]) (hown : w.ownsRow B 5 1 (.slice (some ⟨G, 0, none⟩) N cap) N (bv mem)) (W : World)
    (e : W = (((((w.setCell ⟨P, 4, none⟩ (.int .u8 0)).setCell ⟨P, 1, none⟩ x).setCell ⟨P, 4, none⟩ (.int .u8 1)).setCell ⟨G, j, none⟩ (.int .u8 cur)).setCell ⟨P, 5, none⟩ z)) :
    Blk W P 103 #[S, x, L, .int .u8 cur, .int .u8 1, z] ∧ W.ownsRow B 5 1 (.slice (some ⟨G, 0, none⟩) N cap) N (bv (mem.set j cur)) ∧ Mod [P, G] w W := by
  subst e
  have h1 := b6s4 h (.int .u8 0)
  have h2 := b6s1 h1 x
  have h3 := b6s4 h2 (.int .u8 1)
  have h4 := h3.other (a := ⟨G, j, none⟩) hne' (.int .u8 cur)
  have h5 := b6s5 h4 z
  have o1 := own_S (i := 4) hown hne (.int .u8 0)
  have o2 := own_S (i := 1) o1 hne x
  have o3 := own_S (i := 4) o2 hne (.int .u8 1)
  have o4 := own_set o3 j cur hj
  have o5 := own_S (i := 5) o4 hne z
  have m1 := ((((((Mod.refl [P, G] w).setCell (p := ⟨P, 4, none⟩) (by simp) (.int .u8 0)).setCell (p := ⟨P, 1, none⟩) (by simp) x).setCell (p := ⟨P, 4, none⟩) (by simp) (.int .u8 1)).setCell (p := ⟨G, j, none⟩) (by simp) (.int .u8 cur)).setCell (p := ⟨P, 5, none⟩) (by simp) z)
  with_reducible exact ⟨h5, o5, m1⟩
theorem pbr_mk {w W : World} {B G N cap P : Nat} {S L c m : Value} {x z : Int} {p q : Nat} {mem : List Nat} (hx : x = (p : Int)) (hz : z = (q : Int)) (h1 : Blk W P 103 #[S, .int .i64 x, L, c, m, .int .i64 z]) (h2 : W.ownsRow B 5 1 (.slice (some ⟨G, 0, none⟩) N cap) N (bv mem)) (h3 : Mod [P, G] w W) :
    PBR w B G N cap P #[S, .int .i64 (p : Int), L, c, m, .int .i64 (q : Int)] mem (.returned (.tuple #[])) W := by subst hx hz; exact ⟨rfl, h1, h2, h3⟩
set_option maxRecDepth 100000 in
set_option maxHeartbeats 1000000 in
theorem bwNext_out (w : World) (B G N cap o n c P : Nat) (mem : List Nat) (len pos cur off y : Nat) (hp : pos < 1048576) (hl : len < 1048576) (ho1 : off < 1048576) (hoff : off < n) (hoN : o + off < N) (hne : G ≠ P)
    (hnx : pos + 1 < len → off + 1 < n ∧ o + off + 1 < N ∧ mem.getD (o + off + 1) 0 = y)
    (h : Blk w P 103 #[.slice (some ⟨G, o, none⟩) n c, .int .i64 pos, .int .i64 len, .int .u8 cur, .int .u8 128, .int .i64 off]) (hown : w.ownsRow B 5 1 (.slice (some ⟨G, 0, none⟩) N cap) N (bv mem)) :
    Calls Tryd.prog 76 #[.pointer (some ⟨P, 0, none⟩)] w (PBR w B G N cap P #[.slice (some ⟨G, o, none⟩) n c, .int .i64 ((pos + 1 : Nat) : Int), .int .i64 len, .int .u8 (((if pos + 1 < len then y else cur) : Nat) : Int), .int .u8 1, .int .i64 ((off + 1 : Nat) : Int)] (mem.set (o + off) cur)) := by
  obtain ⟨c0, c1, c2, c3, c4, c5⟩ := blk6 h
  have f1 := h.frozen 1
  have f3 := h.frozen 3
  have f4 := h.frozen 4
  have f5 := h.frozen 5
  have g1 := own_frozen hown (o + off)
  have g0 := own_cell hown (o + off) hoN
  have hPl := h.lt
  have hGl := own_lt' hown
  have hne' : P ≠ G := fun e => hne e.symm
  have hw := hide (fun x z W e => next_w w B G N cap P (o + off) _ _ mem cur _ _ _ x z hoN hne hne' h hown W e)
  by_cases hnl : pos + 1 < len
  · obtain ⟨q1, q2, q3⟩ := hnx hnl
    have cy := own_cell hown (o + off + 1) q2
    rw [q3, Nat.add_assoc] at cy
    rw [if_pos hnl]
    have hnli : (pos : Int) + 1 < (len : Int) := by omega
    have hoe : ¬ o + (off + 1) = o + off := by omega
    clear h hown hnx
    go_enter Tryd.func76, Tryd.ntmps76
    go_wp2_with fail
    go_region
    go_wp2_with fail
    go_region
    go_wp2_with fail
    go_region
    go_wp2_with fail
    go_returns
    obtain ⟨r1, r2, r3⟩ := unhide hw (.int .i64 ((pos : Int) + 1)) (.int .i64 ((off : Int) + 1)) _ rfl
    have q4 := (b6s3 r1 (.int .u8 y)).drew.drew.drew
    have q5 := own_D (own_D (own_D (own_S (i := 3) r2 hne (.int .u8 y))))
    have q6 := (r3.setCell (p := ⟨P, 3, none⟩) (by simp) (.int .u8 y)).drew.drew.drew
    with_reducible exact pbr_mk (by omega) (by omega) q4 q5 q6
  · rw [if_neg hnl]
    have hnli : ¬ (pos : Int) + 1 < (len : Int) := by omega
    clear h hown hnx
    go_enter Tryd.func76, Tryd.ntmps76
    go_wp2_with fail
    go_region
    go_wp2_with fail
    go_region
    go_wp2_with fail
    go_returns
    obtain ⟨r1, r2, r3⟩ := unhide hw (.int .i64 ((pos : Int) + 1)) (.int .i64 ((off : Int) + 1)) _ rfl
    have q4 := r1.drew.drew
    have q5 := own_D (own_D r2)
    have q6 := r3.drew.drew
    with_reducible exact pbr_mk (by omega) (by omega) q4 q5 q6
theorem sl_add (G o i : Nat) : (⟨G, o, none⟩ : Addr).add i = ⟨G, o + i, none⟩ := by unfold Addr.add; split <;> simp_all
/-- a bit writer over bytes from a place on. -/
theorem newBW_any (w : World) (B G N cap o n c f len : Nat) (mem : List Nat) (hM : Msk w) (hf : f < 1048576) (hl : len < 1048576) (hn : 0 < len → f / 8 < n ∧ o + f / 8 < N) (hown : w.ownsRow B 5 1 (.slice (some ⟨G, 0, none⟩) N cap) N (bv mem)) :
    Calls Tryd.prog 73 #[.slice (some ⟨G, o, none⟩) n c, .int .i64 f, .int .i64 len] w fun e w' => ∃ P, e = .returned (.pointer (some ⟨P, 0, none⟩)) ∧ w.heap.size ≤ P ∧ Mod [] w w' ∧
      Blk w' P 103 #[.slice (some ⟨G, o, none⟩) n c, .int .i64 0, .int .i64 len, .int .u8 (((if 0 < len then mem.getD (o + f / 8) 0 else 0) : Nat) : Int), .int .u8 ((2 ^ (f % 8) : Nat) : Int), .int .i64 ((f / 8 : Nat) : Int)] := by
  have c0 := hM (f % 8) (by omega)
  have hpw : 2 ^ (f % 8) < 256 := pow_lt8 (by omega)
  generalize 2 ^ (f % 8) = m at *
  by_cases h0 : 0 < len
  · obtain ⟨h1, h2⟩ := hn h0
    have cg := own_cell hown (o + f / 8) h2
    have hgl := own_lt' hown
    rw [if_pos h0]
    generalize mem.getD (o + f / 8) 0 = x at *
    clear hown hn hM
    go_enter Tryd.func73, Tryd.ntmps73
    go_wp2_with fail
    go_ret
    have k := Blk.new (w := w) (g := w.heap.size) 103 #[.slice (some ⟨G, o, none⟩) n c, .int .i64 0, .int .i64 len, .int .u8 x, .int .u8 m, .int .i64 ((f : Int) / 8)] rfl
    exact ⟨w.heap.size, rfl, Nat.le_refl _, by (repeat' (first | exact Mod.refl _ _ | assumption | apply Mod.drew | apply Mod.drewN | apply Mod.alloc | (refine Mod.setCell ?_ (by first | (left; simp; done) | (right; first | omega | (simp; omega) | (simp; done))) _))), k⟩
  · rw [if_neg h0]
    obtain rfl : len = 0 := by omega
    clear hown hn hM
    go_enter Tryd.func73, Tryd.ntmps73
    go_wp2_with fail
    go_ret
    have k := Blk.new (w := w) (g := w.heap.size) 103 #[.slice (some ⟨G, o, none⟩) n c, .int .i64 0, .int .i64 0, .int .u8 0, .int .u8 m, .int .i64 ((f : Int) / 8)] rfl
    exact ⟨w.heap.size, rfl, Nat.le_refl _, by (repeat' (first | exact Mod.refl _ _ | assumption | apply Mod.drew | apply Mod.drewN | apply Mod.alloc | (refine Mod.setCell ?_ (by first | (left; simp; done) | (right; first | omega | (simp; omega) | (simp; done))) _))), k⟩
/-- the last byte is written. -/
theorem bwFin_store (w : World) (B G N cap o n c P : Nat) (mem : List Nat) (a1 : Value) (pos len cur m off : Nat) (hm : m ≠ 1 ∨ pos < len) (hm8 : m < 256) (h0 : 0 < len) (hoff : off < n) (hoN : o + off < N) (hne : G ≠ P)
    (h : Blk w P 103 #[.slice (some ⟨G, o, none⟩) n c, .int .i64 pos, .int .i64 len, .int .u8 cur, .int .u8 m, .int .i64 off]) (hown : w.ownsRow B 5 1 (.slice (some ⟨G, 0, none⟩) N cap) N (bv mem)) :
    Calls Tryd.prog 77 #[.pointer (some ⟨P, 0, none⟩)] w fun e w' => e = .returned (.tuple #[]) ∧ w'.ownsRow B 5 1 (.slice (some ⟨G, 0, none⟩) N cap) N (bv (mem.set (o + off) cur)) ∧ Mod [G] w w' := by
  obtain ⟨c0, c1, c2, c3, c4, c5⟩ := blk6 h
  have g1 := own_frozen hown (o + off)
  have g0 := own_cell hown (o + off) hoN
  have hR := hide (fun (n : Nat) => own_D (own_mod (own_set hown (o + off) cur hoN) (Mod.drewN (Mod.refl [] _) n) (by simp)))
  have hlen : (0 : Int) < (len : Int) := by omega
  clear h hown
  by_cases hm1 : m = 1
  · subst hm1
    have hpl : (pos : Int) < (len : Int) := by omega
    go_enter Tryd.func77, Tryd.ntmps77
    go_upto_region 0 with (fail)
    go_quiet (fail)
    go_wp2_with fail
    go_region
    go_wp2_with fail
    go_returns
    refine ⟨rfl, ?_, by (repeat' (first | exact Mod.refl _ _ | assumption | apply Mod.drew | apply Mod.drewN | apply Mod.alloc | (refine Mod.setCell ?_ (by first | (left; simp; done) | (right; first | omega | (simp; omega) | (simp; done))) _)))⟩
    exact unhide hR _
  · have hmb : ((m : Int) != 1) = true := by simp; omega
    go_enter Tryd.func77, Tryd.ntmps77
    go_upto_region 0 with (fail)
    go_quiet (fail)
    go_wp2_with fail
    go_region
    go_wp2_with fail
    go_returns
    refine ⟨rfl, ?_, by (repeat' (first | exact Mod.refl _ _ | assumption | apply Mod.drew | apply Mod.drewN | apply Mod.alloc | (refine Mod.setCell ?_ (by first | (left; simp; done) | (right; first | omega | (simp; omega) | (simp; done))) _)))⟩
    exact unhide hR _
end
section
open Go.RowKit
/-- memory and the current byte after k bits from a place on -/
def gmem (d : List Nat) (f : Nat) (l : List Bool) (k : Nat) : List Nat := (chgN d f l k).take ((f + k) / 8) ++ d.drop ((f + k) / 8)
theorem gmem_length (d : List Nat) (f : Nat) (l : List Bool) (k : Nat) (h : (f + k) / 8 ≤ d.length) : (gmem d f l k).length = d.length := by
  unfold gmem
  rw [List.length_append, List.length_take, List.length_drop, chgN_length]; omega
theorem gmem_small {d : List Nat} (h : Small d) (f : Nat) (l : List Bool) (k : Nat) : Small (gmem d f l k) := by
  intro x hx
  unfold gmem at hx
  rcases List.mem_append.1 hx with h1 | h1
  · exact chgN_small h f l k x (List.mem_of_mem_take h1)
  · exact h x (List.mem_of_mem_drop h1)
theorem getD_take_drop (a b : List Nat) (m i : Nat) (hm : m ≤ a.length) : (a.take m ++ b.drop m).getD i 0 = if i < m then a.getD i 0 else b.getD i 0 := by
  simp only [List.getD_eq_getElem?_getD]
  by_cases h : i < m
  · rw [if_pos h, List.getElem?_append_left (by rw [List.length_take]; omega), List.getElem?_take_of_lt h]
  · rw [if_neg h, List.getElem?_append_right (by rw [List.length_take]; omega), List.getElem?_drop, List.length_take]
    congr 2; omega
theorem bitAt_gmem (d : List Nat) (f : Nat) (l : List Bool) (k i : Nat) (hk : (f + k) / 8 ≤ d.length) : bitAt (gmem d f l k) i = if i / 8 < (f + k) / 8 then bitAt (chgN d f l k) i else bitAt d i := by
  unfold bitAt gmem
  rw [getD_take_drop _ _ _ _ (by rw [chgN_length]; exact hk)]
  split <;> rfl
theorem gmem_get (d : List Nat) (f : Nat) (l : List Bool) (k : Nat) (hk : (f + k) / 8 ≤ d.length) : (gmem d f l k).getD ((f + k) / 8) 0 = d.getD ((f + k) / 8) 0 := by
  unfold gmem
  rw [getD_take_drop _ _ _ _ (by rw [chgN_length]; exact hk), if_neg (by omega)]
theorem nat_ext {l m : List Nat} (hlen : l.length = m.length) (h : ∀ i, i < l.length → l.getD i 0 = m.getD i 0) : l = m := by
  apply List.ext_getElem hlen
  intro i h1 h2
  have := h i h1
  simpa [List.getD_eq_getElem?_getD, List.getElem?_eq_getElem h1, List.getElem?_eq_getElem h2] using this
theorem or_clear {x j : Nat} (hx : x < 256) (hj : j < 8) : (x &&& (255 - 2 ^ j)) ||| 2 ^ j = x ||| 2 ^ j := by
  have hp := pow_lt8 hj
  apply byte_ext (or_lt8 (and_lt8 hx _) hp) (or_lt8 hx hp)
  intro k hk
  rw [Nat.testBit_or, Nat.testBit_or, Nat.testBit_and, tb_not8 _ _ hp hk, tb_pow]
  by_cases e : j = k <;> simp [e]
theorem chg_other (d : List Nat) (f : Nat) (l : List Bool) (k i : Nat) (hk : (f + k) / 8 < d.length) (hi : i ≠ (f + k) / 8) : (chgN d f l (k + 1)).getD i 0 = (chgN d f l k).getD i 0 := by
  rw [chgN, setBit, getD_set _ _ _ _ (by rw [chgN_length]; exact hk), if_neg hi]
theorem chg_byte {d : List Nat} (h : Small d) (f : Nat) (l : List Bool) (k : Nat) (hk : (f + k) / 8 < d.length) :
    (chgN d f l (k + 1)).getD ((f + k) / 8) 0 = if l.getD k false then (chgN d f l k).getD ((f + k) / 8) 0 ||| 2 ^ ((f + k) % 8) else (chgN d f l k).getD ((f + k) / 8) 0 &&& (255 - 2 ^ ((f + k) % 8)) := by
  rw [chgN, setBit, getD_set _ _ _ _ (by rw [chgN_length]; exact hk), if_pos rfl]
  split
  · exact or_clear ((chgN_small h f l k).get _) (by omega)
  · rfl
theorem chg_above (d : List Nat) (f : Nat) (l : List Bool) (k q : Nat) (hk : f + k ≤ 8 * d.length) (hq : f + k ≤ 8 * q) : (chgN d f l k).getD q 0 = d.getD q 0 := by
  induction k with
  | zero => rfl
  | succ k ih => rw [chg_other d f l k q (by omega) (by omega), ih (by omega) (by omega)]
theorem gmem_in (d : List Nat) (f : Nat) (l : List Bool) (k : Nat) (hk : f + k < 8 * d.length) (hm : (f + k) % 8 ≠ 7) : gmem d f l (k + 1) = gmem d f l k := by
  have a1 : (f + (k + 1)) / 8 = (f + k) / 8 := by omega
  apply nat_ext (by rw [gmem_length _ _ _ _ (by omega), gmem_length _ _ _ _ (by omega)])
  intro i hi
  unfold gmem
  rw [a1, getD_take_drop _ _ _ _ (by rw [chgN_length]; omega), getD_take_drop _ _ _ _ (by rw [chgN_length]; omega)]
  split
  · exact chg_other d f l k i (by omega) (by omega)
  · rfl
theorem gmem_out (d : List Nat) (f : Nat) (l : List Bool) (k : Nat) (hk : f + k < 8 * d.length) (hm : (f + k) % 8 = 7) : gmem d f l (k + 1) = (gmem d f l k).set ((f + k) / 8) ((chgN d f l (k + 1)).getD ((f + k) / 8) 0) := by
  have a1 : (f + (k + 1)) / 8 = (f + k) / 8 + 1 := by omega
  have hl := gmem_length d f l k (by omega)
  apply nat_ext (by rw [List.length_set, gmem_length _ _ _ _ (by omega), hl])
  intro i hi
  rw [getD_set _ _ _ _ (by rw [hl]; omega)]
  unfold gmem
  rw [a1, getD_take_drop _ _ _ _ (by rw [chgN_length]; omega), getD_take_drop _ _ _ _ (by rw [chgN_length]; omega)]
  by_cases e : i = (f + k) / 8
  · rw [if_pos (by omega), if_pos e, e]
  · rw [if_neg e]
    by_cases c : i < (f + k) / 8
    · rw [if_pos (by omega), if_pos c]
      exact chg_other d f l k i (by omega) e
    · rw [if_neg (by omega), if_neg c]
theorem gmem_zero (d : List Nat) (f : Nat) (l : List Bool) : gmem d f l 0 = d := by unfold gmem; exact List.take_append_drop _ _
theorem gmem_full (d : List Nat) (f : Nat) (l : List Bool) (k : Nat) (hk : f + k ≤ 8 * d.length) (hm : (f + k) % 8 = 0) : gmem d f l k = chgN d f l k := by
  apply nat_ext (by rw [gmem_length _ _ _ _ (by omega), chgN_length])
  intro i hi
  unfold gmem
  rw [getD_take_drop _ _ _ _ (by rw [chgN_length]; omega)]
  split
  · rfl
  · exact (chg_above d f l k i hk (by omega)).symm
theorem gmem_part (d : List Nat) (f : Nat) (l : List Bool) (k : Nat) (hk : f + k ≤ 8 * d.length) (hm : (f + k) % 8 ≠ 0) : (gmem d f l k).set ((f + k) / 8) ((chgN d f l k).getD ((f + k) / 8) 0) = chgN d f l k := by
  have hl := gmem_length d f l k (by omega)
  apply nat_ext (by rw [List.length_set, hl, chgN_length])
  intro i hi
  rw [getD_set _ _ _ _ (by rw [hl]; omega)]
  split
  · rename_i e; rw [e]
  · unfold gmem
    rw [getD_take_drop _ _ _ _ (by rw [chgN_length]; omega)]
    split
    · rfl
    · exact (chg_above d f l k i hk (by omega)).symm
/-- the bits of a number, as a list. -/
def bitsOf (x n : Nat) : List Bool := (List.range n).map fun j => x.testBit j
theorem bitsOf_length (x n : Nat) : (bitsOf x n).length = n := by simp [bitsOf]
theorem bitsOf_get (x n j : Nat) (h : j < n) : (bitsOf x n).getD j false = x.testBit j := by simp [bitsOf, List.getD_eq_getElem?_getD, h]
/-- some bits behind others. -/
theorem chg_append {d : List Nat} (h : Small d) (f : Nat) (l r : List Bool) (k n : Nat) (hk : f + k + n ≤ 8 * d.length) (hr : ∀ j, j < n → r.getD j false = l.getD (k + j) false) : chgN (chgN d f l k) (f + k) r n = chgN d f l (k + n) := by
  have h1 := chgN_small h f l k
  apply bytes_ext (by simp [chgN_length]) (chgN_small h1 _ _ _) (chgN_small h _ _ _)
  intro i hi
  rw [bitAt_chgN h1 _ _ _ (by rw [chgN_length]; omega), bitAt_chgN h _ _ _ (by omega), bitAt_chgN h _ _ _ (by omega)]
  by_cases c : f + k ≤ i ∧ i < f + k + n
  · rw [if_pos c, if_pos (by omega), hr _ (by omega)]
    congr 1; omega
  · rw [if_neg c]
    by_cases c2 : f ≤ i ∧ i < f + k
    · rw [if_pos c2, if_pos (by omega)]
    · rw [if_neg c2, if_neg (by omega)]
end
section
open Go.ChangeShapes Go.WideShapes Go.ChangeAt Go.RowKit
theorem bwFin_idle (w : World) (P : Nat) (a0 a3 a5 : Value) (pos len m : Nat) (hm8 : m < 256) (hm : len = 0 ∨ (m = 1 ∧ len ≤ pos))
    (h : Blk w P 103 #[a0, .int .i64 pos, .int .i64 len, a3, .int .u8 m, a5]) :
    Calls Tryd.prog 77 #[.pointer (some ⟨P, 0, none⟩)] w fun e w' => e = .returned (.tuple #[]) ∧ Mod [] w w' := by
  obtain ⟨c0, c1, c2, c3, c4, c5⟩ := blk6 h
  clear h
  by_cases h0 : len = 0
  · subst h0
    change w.cell? ⟨P, 2, none⟩ = some (.int .i64 0) at c2
    go_enter Tryd.func77, Tryd.ntmps77
    go_upto_region 0 with (fail)
    go_quiet (fail)
    go_wp2_with fail
    go_returns
    exact ⟨rfl, by (repeat' (first | exact Mod.refl _ _ | assumption | apply Mod.drew | apply Mod.drewN | apply Mod.alloc | (refine Mod.setCell ?_ (by first | (left; simp; done) | (right; first | omega | (simp; omega) | (simp; done))) _)))⟩
  · obtain ⟨rfl, h1⟩ : m = 1 ∧ len ≤ pos := by omega
    have hlen : 0 < len := by omega
    have hpl : ¬ pos < len := by omega
    go_enter Tryd.func77, Tryd.ntmps77
    go_upto_region 0 with (fail)
    go_quiet (fail)
    go_wp2_with fail
    go_returns
    exact ⟨rfl, by (repeat' (first | exact Mod.refl _ _ | assumption | apply Mod.drew | apply Mod.drewN | apply Mod.alloc | (refine Mod.setCell ?_ (by first | (left; simp; done) | (right; first | omega | (simp; omega) | (simp; done))) _)))⟩
/-- what stays as it is while bits are written. -/
structure WOk (G P N cap o n f : Nat) (d : List Nat) (l : List Bool) : Prop where
  hd : d.length = N
  hs : Small d
  ho : 8 * o ≤ f
  hfl : f + l.length ≤ 8 * N
  hn : o + n = N
  hN : N ≤ 8192
  hne : G ≠ P
def WSt (B G P N cap o n c f : Nat) (d : List Nat) (l : List Bool) (k : Nat) (w : World) : Prop :=
  w.ownsRow B 5 1 (.slice (some ⟨G, 0, none⟩) N cap) N (bv (gmem d f l k)) ∧ ∃ cur : Nat, cur < 256 ∧ (k < l.length ∨ (0 < k ∧ (f + k) % 8 ≠ 0) → cur = (chgN d f l k).getD ((f + k) / 8) 0) ∧
    Blk w P 103 #[.slice (some ⟨G, o, none⟩) n c, .int .i64 (k : Int), .int .i64 (l.length : Int), .int .u8 (cur : Int), .int .u8 ((2 ^ ((f + k) % 8) : Nat) : Int), .int .i64 (((f + k) / 8 - o : Nat) : Int)]
def WMd (B G P N cap o n c f : Nat) (d : List Nat) (l : List Bool) (k : Nat) (w : World) : Prop :=
  w.ownsRow B 5 1 (.slice (some ⟨G, 0, none⟩) N cap) N (bv (gmem d f l k)) ∧
    Blk w P 103 #[.slice (some ⟨G, o, none⟩) n c, .int .i64 (k : Int), .int .i64 (l.length : Int), .int .u8 (((chgN d f l (k + 1)).getD ((f + k) / 8) 0 : Nat) : Int), .int .u8 ((2 ^ ((f + k) % 8) : Nat) : Int), .int .i64 (((f + k) / 8 - o : Nat) : Int)]
section
variable {w : World} {B G P N cap o n c f k : Nat} {d : List Nat} {l : List Bool}
theorem wset_any (H : WOk G P N cap o n f d l) (h : WSt B G P N cap o n c f d l k w) (hk : k < l.length) (hb : l.getD k false = true) :
    Calls Tryd.prog 74 #[.pointer (some ⟨P, 0, none⟩)] w fun e w' => e = .returned (.tuple #[]) ∧ WMd B G P N cap o n c f d l k w' ∧ Mod [P] w w' := by
  obtain ⟨ho, cur, hc, he, hblk⟩ := h
  refine (bwSet_any w P _ _ _ _ cur _ hc (pow_lt8 (by omega)) hblk).mono fun e w' hh => ?_
  obtain ⟨rfl, h1, h2⟩ := hh
  refine ⟨rfl, ⟨own_P ho h2 H.hne, ?_⟩, h2⟩
  have e := chg_byte H.hs f l k (by rw [H.hd]; have := H.hfl; omega)
  rw [hb, if_pos rfl, ← he (Or.inl hk)] at e
  rw [e]; exact h1
theorem wclear_any (H : WOk G P N cap o n f d l) (h : WSt B G P N cap o n c f d l k w) (hk : k < l.length) (hb : l.getD k false = false) :
    Calls Tryd.prog 75 #[.pointer (some ⟨P, 0, none⟩)] w fun e w' => e = .returned (.tuple #[]) ∧ WMd B G P N cap o n c f d l k w' ∧ Mod [P] w w' := by
  obtain ⟨ho, cur, hc, he, hblk⟩ := h
  refine (bwClear_any w P _ _ _ _ cur _ hc (pow_lt8 (by omega)) hblk).mono fun e w' hh => ?_
  obtain ⟨rfl, h1, h2⟩ := hh
  refine ⟨rfl, ⟨own_P ho h2 H.hne, ?_⟩, h2⟩
  have e := chg_byte H.hs f l k (by rw [H.hd]; have := H.hfl; omega)
  rw [hb, if_neg (by simp), ← he (Or.inl hk)] at e
  rw [e]; exact h1
theorem wnext_any (H : WOk G P N cap o n f d l) (h : WMd B G P N cap o n c f d l k w) (hk : k < l.length) :
    Calls Tryd.prog 76 #[.pointer (some ⟨P, 0, none⟩)] w fun e w' => e = .returned (.tuple #[]) ∧ WSt B G P N cap o n c f d l (k + 1) w' ∧ Mod [P, G] w w' := by
  obtain ⟨ho, hblk⟩ := h
  have h1 := H.hfl
  have h2 := H.hN
  have h3 := H.ho
  have h4 := H.hn
  have h5 := H.hd
  have hsm := chgN_small H.hs f l (k + 1)
  by_cases hm : (f + k) % 8 = 7
  · rw [hm] at hblk
    have e1 : (f + (k + 1)) / 8 = (f + k) / 8 + 1 := by omega
    have e0 : (f + (k + 1)) % 8 = 0 := by omega
    refine (bwNext_out w B G N cap o n c P (gmem d f l k) l.length k _ ((f + k) / 8 - o) (d.getD ((f + k) / 8 + 1) 0) (by omega) (by omega) (by omega) (by omega) (by omega) H.hne ?_ hblk ho).mono fun e w' hh => ?_
    · intro hlt
      refine ⟨by omega, by omega, ?_⟩
      have e5 : o + ((f + k) / 8 - o) + 1 = (f + k) / 8 + 1 := by omega
      rw [e5]
      unfold gmem
      rw [getD_take_drop _ _ _ _ (by rw [chgN_length]; omega), if_neg (by omega)]
    · obtain ⟨rfl, r1, r2, r3⟩ := hh
      have e3 : o + ((f + k) / 8 - o) = (f + k) / 8 := by omega
      have e4 : (f + k) / 8 - o + 1 = (f + (k + 1)) / 8 - o := by omega
      rw [e3, ← gmem_out d f l k (by omega) hm] at r2
      rw [e4] at r1
      refine ⟨rfl, ⟨r2, _, ?_, ?_, by rw [e0]; exact r1⟩, r3⟩
      · split
        · exact H.hs.get _
        · exact hsm.get _
      · intro hh
        have hlt : k + 1 < l.length := by omega
        rw [if_pos hlt, e1, chg_above d f l (k + 1) _ (by omega) (by omega)]
  · have e1 : (f + (k + 1)) / 8 = (f + k) / 8 := by omega
    have e0 : (f + (k + 1)) % 8 = (f + k) % 8 + 1 := by omega
    have hp : 2 ^ ((f + k) % 8 + 1) = 2 * 2 ^ ((f + k) % 8) := by rw [Nat.pow_succ, Nat.mul_comm]
    have hlt : 2 ^ ((f + k) % 8 + 1) < 256 := pow_lt8 (by omega)
    refine (bwNext_in w P _ _ _ k _ _ (by omega) (Nat.two_pow_pos _) (by omega) hblk).mono fun e w' hh => ?_
    obtain ⟨rfl, r1, r2⟩ := hh
    refine ⟨rfl, ⟨?_, _, hsm.get _, fun _ => by rw [e1], ?_⟩, r2.mono (by simp)⟩
    · rw [gmem_in d f l k (by omega) hm]; exact own_P ho r2 H.hne
    · rw [e0, hp, e1]; exact r1
theorem wfin_any (H : WOk G P N cap o n f d l) (h : WSt B G P N cap o n c f d l l.length w) :
    Calls Tryd.prog 77 #[.pointer (some ⟨P, 0, none⟩)] w fun e w' => e = .returned (.tuple #[]) ∧ w'.ownsRow B 5 1 (.slice (some ⟨G, 0, none⟩) N cap) N (bv (chgN d f l l.length)) ∧ Mod [P, G] w w' := by
  obtain ⟨ho, cur, hc, he, hblk⟩ := h
  have h1 := H.hfl
  have h2 := H.hN
  have h3 := H.ho
  have h4 := H.hn
  have h5 := H.hd
  have hpw := pow_lt8 (show (f + l.length) % 8 < 8 by omega)
  by_cases h0 : l.length = 0 ∨ (f + l.length) % 8 = 0
  · have hg : gmem d f l l.length = chgN d f l l.length := by
      rcases h0 with h0 | h0
      · rw [h0, gmem_zero]; rfl
      · exact gmem_full d f l l.length (by omega) h0
    refine (bwFin_idle w P _ _ _ l.length l.length _ hpw ?_ hblk).mono fun e w' hh => ?_
    · rcases h0 with h0 | h0
      · exact Or.inl h0
      · right; rw [h0]; exact ⟨rfl, Nat.le_refl _⟩
    · obtain ⟨rfl, r⟩ := hh
      rw [← hg]
      exact ⟨rfl, own_mod ho r (by simp), r.any _⟩
  · have hne0 : (f + l.length) % 8 ≠ 0 := fun e => h0 (Or.inr e)
    have hl0 : l.length ≠ 0 := fun e => h0 (Or.inl e)
    have hm1 : 2 ^ ((f + l.length) % 8) ≠ 1 := by
      intro e
      have := Nat.one_lt_two_pow hne0
      omega
    refine (bwFin_store w B G N cap o n c P (gmem d f l l.length) (.int .i64 (l.length : Int)) l.length l.length cur _ ((f + l.length) / 8 - o) (Or.inl hm1) hpw (by omega) (by omega) (by omega) H.hne hblk ho).mono fun e w' hh => ?_
    obtain ⟨rfl, r1, r2⟩ := hh
    have e3 : o + ((f + l.length) / 8 - o) = (f + l.length) / 8 := by omega
    rw [e3, he (Or.inr ⟨by omega, hne0⟩), gmem_part d f l l.length (by omega) hne0] at r1
    exact ⟨rfl, r1, r2.mono (by simp)⟩
end
/-- a writer is made: no bit is written yet. -/
theorem wnew_any (w : World) (B G N cap o n c f : Nat) (d : List Nat) (l : List Bool) (hM : Msk w) (H : ∀ P, G ≠ P → WOk G P N cap o n f d l) (hown : w.ownsRow B 5 1 (.slice (some ⟨G, 0, none⟩) N cap) N (bv d)) :
    Calls Tryd.prog 73 #[.slice (some ⟨G, o, none⟩) n c, .int .i64 ((f - 8 * o : Nat) : Int), .int .i64 (l.length : Int)] w fun e w' => ∃ P, e = .returned (.pointer (some ⟨P, 0, none⟩)) ∧ w.heap.size ≤ P ∧ Mod [] w w' ∧ WSt B G P N cap o n c f d l 0 w' := by
  have hgl := own_lt' hown
  have H0 := H w.heap.size (by omega)
  have h1 := H0.hfl
  have h2 := H0.hN
  have h3 := H0.ho
  have h4 := H0.hn
  have h5 := H0.hd
  have hs := H0.hs
  refine (newBW_any w B G N cap o n c (f - 8 * o) l.length d hM (by omega) (by omega) (fun h0 => ⟨by omega, by omega⟩) hown).mono fun e w' hh => ?_
  obtain ⟨P, rfl, hP, hm, hb⟩ := hh
  have e1 : (f - 8 * o) % 8 = f % 8 := by omega
  have e2 : (f - 8 * o) / 8 = f / 8 - o := by omega
  have e3 : o + (f / 8 - o) = f / 8 := by omega
  rw [e1, e2, e3] at hb
  refine ⟨P, rfl, hP, hm, ?_, _, ?_, ?_, hb⟩
  · rw [gmem_zero]; exact own_mod hown hm (by simp)
  · split
    · exact hs.get _
    · decide
  · intro hh
    rw [if_pos (by omega)]
    rfl
end
end Go.Proofs.YtjfbojmeccdchaaDoor
