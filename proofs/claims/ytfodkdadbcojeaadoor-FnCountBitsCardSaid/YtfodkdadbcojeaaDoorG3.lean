/- Bits that a function gives, one by one. -/
import Derived.Test.YtfodkdadbcojeaaDoorR1
import Derived.Test.YtfodkdadbcojeaaDoorG4
set_option linter.unusedVariables false
set_option linter.unusedSimpArgs false
namespace Go.Proofs.YtfodkdadbcojeaaDoor
open Go.ChangeShapes Go.WideShapes Go.ChangeAt Go.RowKit
/-- the closure: the next bit of the list -/
theorem next_any (w : World) (I LB c2 k : Nat) (B : Nat) (A2 : Option Addr) (l : List Bool) (hI : Blk w I 3 #[.int .i64 ((k : Int) - 1)]) (hL : Blk w LB 23 #[.slice A2 l.length c2]) (hl : Sl w B A2 l.length (bools l)) (hB : B ≤ I) (hk : k < l.length) (hn : l.length ≤ 140737488351232) :
    Calls Tryd.prog 23 #[.pointer (some ⟨I, 0, none⟩), .pointer (some ⟨LB, 0, none⟩)] w fun e w' => e = .returned (.bool (l.getD k false)) ∧ w.setCell ⟨I, 0, none⟩ (.int .i64 (k : Int)) = w' := by
  obtain ⟨b, off, rfl, hb, hcell⟩ := bools_at hl hk
  have c1 := hI.cell 0
  have c2' := hL.cell 0
  have f1 := hI.frozen 0
  simp at c1 c2'
  have hne := hI.ne hL (by decide)
  have hne2 : b ≠ I := by omega
  generalize l.getD k false = x at hcell
  clear hl hI hL
  go_enter Tryd.func23, Tryd.ntmps23
  go_wp2
  go_ret
  exact ⟨rfl, rfl⟩
def Msk (w : World) : Prop := ∀ i, i < 8 → w.cell? ⟨0, i, none⟩ = some (.int .u8 ((2 ^ i : Nat) : Int))
def Pre (w : World) : Prop := ∀ i, i < 8 → w.cell? ⟨1, i, none⟩ = some (.int .u8 ((2 ^ i - 1 : Nat) : Int))
def GenRel (w1 : World) (B G I n cap f : Nat) (d : List Nat) (l : List Bool) (v8 v9 v10 v11 : Value) (wr : World) : Prop :=
  ∃ k o : Nat, k ≤ l.length ∧ v11 = .int .i64 k ∧ v8 = .slice (some ⟨G, o, none⟩) (n - (f + k) / 8) (cap - (f + k) / 8) ∧ ((f + k) / 8 < n → o = (f + k) / 8) ∧ v9 = .int .u8 ((2 ^ ((f + k) % 8) : Nat) : Int) ∧ v10 = .int .u8 ((gcur d f l k : Nat) : Int) ∧
    wr.ownsRow B 5 1 (.slice (some ⟨G, 0, none⟩) n cap) n (bv (gmem d f l k)) ∧ Blk wr I 3 #[.int .i64 ((k : Int) - 1)] ∧ Mod [G, I] w1 wr
section
variable {w wr : World} {B G I n cap f k : Nat} {d : List Nat} {l : List Bool}
theorem gen_start {x nq : Nat} (hs : Small d) (hown : w.ownsRow B 5 1 (.slice (some ⟨G, 0, none⟩) n cap) n (bv d)) (hd : d.length = n) (hI : Blk w I 3 #[.int .i64 (-1)]) (hfd : f / 8 < n) (HD : d.getD (f / 8) 0 = x) :
    GenRel w B G I n cap f d l (.slice (some ⟨G, f / 8, none⟩) (n - f / 8) (cap - f / 8)) (.int .u8 (2 ^ (f % 8))) (.int .u8 (bits .and .u8 (x : Int) ((2 ^ (f % 8) - 1 : Nat) : Int))) (.int .i64 0) (w.drewN nq) := by
  obtain ⟨e1, e2⟩ := gstart hs f l (by omega)
  have hx : x < 256 := HD ▸ hs.get _
  refine ⟨0, f / 8, Nat.zero_le _, rfl, by simp, fun _ => by simp, by simp, ?_, by rw [e1]; exact hown, hI, (Mod.refl _ _).drewN _⟩
  have hp := pow_lt8 (show f % 8 < 8 by omega)
  rw [u8_and_nat x (2 ^ (f % 8) - 1) hx (by omega), e2, HD, Nat.and_two_pow_sub_one_eq_mod]
theorem gen_in {cb : Int} (hs : Small d) (hd : d.length = n) (hk : k < l.length) (hfl : f + l.length ≤ 8 * n) (hm : (f + k) % 8 ≠ 7) (ho : wr.ownsRow B 5 1 (.slice (some ⟨G, 0, none⟩) n cap) n (bv (gmem d f l k)))
    (hIr : Blk wr I 3 #[.int .i64 ((k : Int) - 1)]) (hGI : G ≠ I) (hmr : Mod [G, I] w wr) (hcb : cb = ((gnext d f l k : Nat) : Int)) :
    GenRel w B G I n cap f d l (.slice (some ⟨G, (f + k) / 8, none⟩) (n - (f + k) / 8) (cap - (f + k) / 8)) (.int .u8 (2 ^ ((f + k) % 8) * 2 % 256)) (.int .u8 cb) (.int .i64 ((k : Int) + 1)) (wr.setCell ⟨I, 0, none⟩ (.int .i64 (k : Int))) := by
  subst hd
  obtain ⟨e1, e2⟩ := gstep_in hs f l k (by omega) hm
  have a1 : (f + (k + 1)) / 8 = (f + k) / 8 := by omega
  have a2 : (f + (k + 1)) % 8 = (f + k) % 8 + 1 := by omega
  refine ⟨k + 1, (f + k) / 8, hk, by simp, by rw [a1], fun _ => a1.symm, ?_, by rw [hcb, e1], ?_, ?_, hmr.setCell (by simp) _⟩
  · rw [a2]
    have hp := pow_lt8 (show (f + k) % 8 + 1 < 8 by omega)
    have h2 : ((2 ^ ((f + k) % 8 + 1) : Nat) : Int) = (2 : Int) ^ ((f + k) % 8) * 2 := by simp [Int.pow_succ]
    rw [h2]
    rw [Nat.pow_succ] at hp
    have h3 : ((2 ^ ((f + k) % 8) : Nat) : Int) = (2 : Int) ^ ((f + k) % 8) := by simp
    rw [← h3]
    generalize 2 ^ ((f + k) % 8) = m at hp
    congr 1; omega
  · rw [e2]; exact own_mod ho (Mod.setCell (S := [I]) (Mod.refl _ _) (by simp) _) (by simp [Value.ownBlock]; exact hGI)
  · have := hIr.set 0 (.int .i64 (k : Int))
    exact this.cast (by simp)
theorem gen_out {cb : Int} (hs : Small d) (hd : d.length = n) (hk : k < l.length) (hfl : f + l.length ≤ 8 * n) (hm : (f + k) % 8 = 7) (ho : wr.ownsRow B 5 1 (.slice (some ⟨G, 0, none⟩) n cap) n (bv (gmem d f l k)))
    (hIr : Blk wr I 3 #[.int .i64 ((k : Int) - 1)]) (hGI : G ≠ I) (hmr : Mod [G, I] w wr) (hcap : n ≤ cap) (hcb : cb = ((gnext d f l k : Nat) : Int)) :
    GenRel w B G I n cap f d l (.slice (if cap - (f + k) / 8 = 1 then some ⟨G, (f + k) / 8, none⟩ else some ⟨G, (f + k) / 8 + 1, none⟩) (n - (f + k) / 8 - 1) (cap - (f + k) / 8 - 1)) (.int .u8 1) (.int .u8 0) (.int .i64 ((k : Int) + 1))
      ((wr.setCell ⟨I, 0, none⟩ (.int .i64 (k : Int))).setCell ⟨G, (f + k) / 8, none⟩ (.int .u8 cb)) := by
  subst hd
  obtain ⟨e1, e2⟩ := gstep_out hs f l k (by omega) hm
  have a1 : (f + (k + 1)) / 8 = (f + k) / 8 + 1 := by omega
  have a2 : (f + (k + 1)) % 8 = 0 := by omega
  refine ⟨k + 1, if cap - (f + k) / 8 = 1 then (f + k) / 8 else (f + k) / 8 + 1, hk, by simp, ?_, fun h => ?_, by rw [a2]; rfl, by rw [e1]; rfl, ?_, ?_, (hmr.setCell (by simp) _).setCell (by simp) _⟩
  · rw [a1, Nat.sub_add_eq, Nat.sub_add_eq]
    split <;> rfl
  · rw [a1] at h ⊢
    rw [if_neg (by omega)]
  · rw [e2, hcb]
    exact own_set (own_mod ho (Mod.setCell (S := [I]) (Mod.refl _ _) (by simp) _) (by simp [Value.ownBlock]; exact hGI)) _ _ (by omega)
  · have := (hIr.set 0 (.int .i64 (k : Int))).other (a := ⟨G, (f + k) / 8, none⟩) (fun e => hGI e.symm) (.int .u8 cb)
    exact this.cast (by simp)
end
theorem or_pow' (x k : Nat) (hx : x < 256) (hk : k < 8) : bits .or .u8 (x : Int) (2 ^ k) = ((x ||| 2 ^ k : Nat) : Int) := by
  have h2 : ((2 ^ k : Nat) : Int) = (2 : Int) ^ k := by simp
  rw [← h2]
  exact u8_or_nat x (2 ^ k) hx (pow_lt8 hk)
theorem mask_in {m : Nat} (h : m < 7) : ((2 : Int) ^ m * 2 % 256 == 0) = false := by
  have : m = 0 ∨ m = 1 ∨ m = 2 ∨ m = 3 ∨ m = 4 ∨ m = 5 ∨ m = 6 := by omega
  rcases this with rfl | rfl | rfl | rfl | rfl | rfl | rfl <;> decide
theorem mask_out {m : Nat} (h : m = 7) : ((2 : Int) ^ m * 2 % 256 == 0) = true := by subst h; decide
theorem mask_zero {m : Nat} (h0 : m = 0) : ((2 : Int) ^ m != 1) = false := by subst h0; decide
theorem mask_one {m : Nat} (h0 : m ≠ 0) (h : m < 8) : ((2 : Int) ^ m != 1) = true := by
  have : m = 1 ∨ m = 2 ∨ m = 3 ∨ m = 4 ∨ m = 5 ∨ m = 6 ∨ m = 7 := by omega
  rcases this with rfl | rfl | rfl | rfl | rfl | rfl | rfl <;> decide
set_option maxRecDepth 100000 in
set_option maxHeartbeats 4000000 in
theorem gen_any (w : World) (B G I LB n cap c2 f : Nat) (A2 : Option Addr) (d : List Nat) (l : List Bool) (hd : d.length = n) (hs : Small d) (hown : w.ownsRow B 5 1 (.slice (some ⟨G, 0, none⟩) n cap) n (bv d)) (hI : Blk w I 3 #[.int .i64 (-1)]) (hL : Blk w LB 23 #[.slice A2 l.length c2]) (hl : Sl w B A2 l.length (bools l)) (hB : B ≤ I) (hBG : B ≤ G) (hGI : G ≠ I) (hGL : LB ≠ G) (hcap : n ≤ cap)
    (hn : n ≤ 4096) (hfl : f + l.length ≤ 8 * n) (hM : Msk w) (hP : Pre w) (hB2 : 2 ≤ B) (hlen : 0 < l.length) :
    Calls Tryd.prog 25 #[.slice (some ⟨G, 0, none⟩) n cap, .int .i64 (f : Int), .int .i64 (l.length : Int), .func (.func 23) #[] #[.pointer (some ⟨I, 0, none⟩), .pointer (some ⟨LB, 0, none⟩)]] w fun e w' => e = .returned (.tuple #[]) ∧ w'.ownsRow B 5 1 (.slice (some ⟨G, 0, none⟩) n cap) n (bv (gfin d f l)) ∧ Mod [G, I] w w' := by
  have hfd : f / 8 < n := by omega
  have cm := hM (f % 8) (by omega)
  have cp := hP (f % 8) (by omega)
  have cg := own_cell hown (f / 8) hfd
  have hx := hs.get (f / 8)
  have fg := own_frozen hown (f / 8)
  have lg := own_lt' hown
  have hlen' : ((l.length : Int) == 0) = false := by rw [beq_eq_false_iff_ne]; omega
  generalize hdx : d.getD (f / 8) 0 = x at cg hx
  have HD := Lib.hid hdx
  clear hdx
  have hsl : ¬ cap = f / 8 := by omega
  go_enter Tryd.func25, Tryd.ntmps25
  go_upto_region 3 with fail
  go_quiet (fail)
  go_wp2
  go_loopw [8, 9, 10, 11] (GenRel w B G I n cap f d l) (fun _ _ _ v _ => l.length - (intOf v).toNat)
  case atStart => exact gen_start hs hown hd hI hfd HD.out
  case round =>
    obtain ⟨k, o, hk, rfl, rfl, ho8, rfl, rfl, ho, hIr, hmr⟩ := hrel
    by_cases hlt : k < l.length
    · have hj : (f + k) / 8 < n := by omega
      obtain rfl := ho8 hj
      have hl' := hl.mod hmr (by simp; omega)
      have hIL := hI.ne hL (by decide)
      have hL' := hL.mod hmr (by simp; omega)
      have cc := own_cell ho _ hj
      have ff := own_frozen ho ((f + k) / 8)
      have gg := own_lt' ho
      have hgc := gcur_lt8 d f l k
      have hIG : I ≠ G := fun e => hGI e.symm
      have HC : ∀ b, l.getD k false = b → Calls Tryd.prog 23 #[.pointer (some ⟨I, 0, none⟩), .pointer (some ⟨LB, 0, none⟩)] wr fun e w' => e = .returned (.bool b) ∧ wr.setCell ⟨I, 0, none⟩ (.int .i64 (k : Int)) = w' := fun b hb => hb ▸ next_any wr I LB c2 k B A2 l hIr hL' hl' hB hlt (by omega)
      have HG : Hid (gnext d f l k = if l.getD k false then gcur d f l k ||| 2 ^ ((f + k) % 8) else gcur d f l k) := rfl
      generalize hgcx : gcur d f l k = x at hgc HG
      generalize hbb : l.getD k false = b at HG
      have HC' := hide (HC b hbb)
      clear HC hbb
      by_cases hm : (f + k) % 8 = 7
      · have hmk := mask_out hm
        have HM := Lib.hid hm
        clear hm
        cases b
        · go_wp2_with (go_at_call 23; (with_reducible refine (unhide HC').mono ?_); rintro e w' ⟨rfl, rfl⟩)
          exact ⟨gen_out hs hd hlt hfl HM.out ho hIr hGI hmr hcap (by rw [HG.out]; rfl), by simp [intOf]; omega⟩
        · go_wp2_with (go_at_call 23; (with_reducible refine (unhide HC').mono ?_); rintro e w' ⟨rfl, rfl⟩)
          exact ⟨gen_out hs hd hlt hfl HM.out ho hIr hGI hmr hcap (by rw [HG.out]; exact or_pow' x _ hgc (by omega)), by simp [intOf]; omega⟩
      · have hmk := mask_in (show (f + k) % 8 < 7 by omega)
        have HM := Lib.hid hm
        clear hm
        cases b
        · go_wp2_with (go_at_call 23; (with_reducible refine (unhide HC').mono ?_); rintro e w' ⟨rfl, rfl⟩)
          exact ⟨gen_in hs hd hlt hfl HM.out ho hIr hGI hmr (by rw [HG.out]; rfl), by simp [intOf]; omega⟩
        · go_wp2_with (go_at_call 23; (with_reducible refine (unhide HC').mono ?_); rintro e w' ⟨rfl, rfl⟩)
          exact ⟨gen_in hs hd hlt hfl HM.out ho hIr hGI hmr (by rw [HG.out]; exact or_pow' x _ hgc (by omega)), by simp [intOf]; omega⟩
    · obtain rfl : k = l.length := by omega
      by_cases hm : (f + l.length) % 8 = 0
      · have hmk := mask_zero hm
        have HM := Lib.hid hm
        clear hm
        go_wp2
        go_returns
        refine ⟨rfl, ?_, hmr⟩
        unfold gfin; rw [if_pos HM.out]; exact ho
      · have hmk := mask_one hm (by omega)
        have hj : (f + l.length) / 8 < n := by omega
        have HM := Lib.hid hm
        clear hm
        obtain rfl := ho8 hj
        have cc := own_cell ho _ hj
        have ff := own_frozen ho ((f + l.length) / 8)
        have gg := own_lt' ho
        go_wp2
        go_end0
        refine ⟨rfl, ?_, hmr.setCell (by simp) _⟩
        unfold gfin; rw [if_neg HM.out]
        exact own_set ho _ _ hj
end Go.Proofs.YtfodkdadbcojeaaDoor
