/- Bits that a function gives, eight at once. -/
import Derived.Test.YtfodkdadbcojeaaDoorG3
import Derived.Test.YtfodkdadbcojeaaDoorG5
set_option linter.unusedVariables false
set_option linter.unusedSimpArgs false
namespace Go.Proofs.YtfodkdadbcojeaaDoor
open Go.ChangeShapes Go.WideShapes Go.ChangeAt Go.RowKit
def P1Rel (w : World) (B G I n cap f : Nat) (d : List Nat) (l : List Bool) (v9 v12 : Value) (wr : World) : Prop :=
  ∃ (k : Nat) (A : Option Addr) (c' : Nat), k ≤ l.length ∧ ((f + k) % 8 = 0 ∨ k = l.length) ∧ v12 = .int .i64 ((l.length : Int) - k) ∧ v9 = .slice A (n - (f + k + 7) / 8) c' ∧ ((f + k + 7) / 8 < n → A = some ⟨G, (f + k + 7) / 8, none⟩ ∧ c' = cap - (f + k + 7) / 8) ∧
    wr.ownsRow B 5 1 (.slice (some ⟨G, 0, none⟩) n cap) n (bv (gone d f l k)) ∧ Blk wr I 3 #[.int .i64 ((k : Int) - 1)] ∧ Mod [G, I] w wr
def U1Rel (w : World) (B G I n cap f : Nat) (d : List Nat) (l : List Bool) (v8 v11 v12 : Value) (wr : World) : Prop :=
  ∃ k : Nat, k ≤ l.length ∧ f % 8 + k ≤ 8 ∧ v12 = .int .i64 ((l.length : Int) - k) ∧ v11 = .int .u8 (((2 ^ (f % 8 + k) % 256 : Nat)) : Int) ∧ v8 = .int .u8 ((gcb d f l k : Nat) : Int) ∧
    wr.ownsRow B 5 1 (.slice (some ⟨G, 0, none⟩) n cap) n (bv d) ∧ Blk wr I 3 #[.int .i64 ((k : Int) - 1)] ∧ Mod [G, I] w wr
def P2Rel (w : World) (B G I O n cap f k0 : Nat) (d : List Nat) (l : List Bool) (v9 v14 : Value) (wr : World) : Prop :=
  ∃ (r k : Nat) (A : Option Addr) (c' : Nat) (os : List Nat), k0 + 8 * ((l.length - k0) / 8) = k + 8 * r ∧ k0 ≤ k ∧ v14 = .int .i64 r ∧ v9 = .slice A (n - (f + k + 7) / 8) c' ∧ ((f + k + 7) / 8 < n → A = some ⟨G, (f + k + 7) / 8, none⟩ ∧ c' = cap - (f + k + 7) / 8) ∧
    wr.ownsRow B 5 1 (.slice (some ⟨G, 0, none⟩) n cap) n (bv (gone d f l k)) ∧ Blk wr I 3 #[.int .i64 ((k : Int) - 1)] ∧ os.length = 8 ∧ Blk wr O 60 (bv os).toArray ∧ Mod [G, I] w wr
def U3Rel (w : World) (B G I O n cap f k : Nat) (d : List Nat) (l : List Bool) (v15 : Value) (wr : World) : Prop :=
  ∃ (i : Nat) (os : List Nat), i ≤ 8 ∧ v15 = .int .i64 i ∧ os.length = 8 ∧ (∀ j, j < i → os.getD j 0 = bit01 (l.getD (k + j) false)) ∧ Blk wr O 60 (bv os).toArray ∧
    wr.ownsRow B 5 1 (.slice (some ⟨G, 0, none⟩) n cap) n (bv (gone d f l k)) ∧ Blk wr I 3 #[.int .i64 (((k + i : Nat) : Int) - 1)] ∧ Mod [G, I] w wr
def U4Rel (w : World) (B G I n cap f J : Nat) (d : List Nat) (l : List Bool) (v8 v11 v16 : Value) (wr : World) : Prop :=
  ∃ q : Nat, q ≤ l.length ∧ (f + q) / 8 = J ∧ v16 = .int .i64 ((l.length : Int) - q) ∧ v11 = .int .u8 ((2 ^ ((f + q) % 8) : Nat) : Int) ∧ v8 = .int .u8 ((gcur d f l q : Nat) : Int) ∧
    wr.ownsRow B 5 1 (.slice (some ⟨G, 0, none⟩) n cap) n (bv (gmem d f l q)) ∧ Blk wr I 3 #[.int .i64 ((q : Int) - 1)] ∧ Mod [G, I] w wr
section
variable {w wr : World} {B G I n cap f k : Nat} {d : List Nat} {l : List Bool}
theorem blk_byte {O : Nat} {os : List Nat} (h : Blk wr O 60 (bv os).toArray) (j : Nat) (hj : j < os.length) : wr.cell? ⟨O, j, none⟩ = some (.int .u8 ((os.getD j 0 : Nat) : Int)) := by
  rw [h.cell j]; exact bv_get os j hj
theorem blk_set {O : Nat} {os : List Nat} (h : Blk wr O 60 (bv os).toArray) (j x : Nat) (hj : j < os.length) : Blk (wr.setCell ⟨O, j, none⟩ (.int .u8 (x : Int))) O 60 (bv (os.set j x)).toArray := by
  refine (h.set j _).cast ?_
  simp [bv, List.map_set]
theorem u3_step {O i q : Nat} {os : List Nat} (b : Bool) (hq : q = k + i) (hi : i < 8) (hos : os.length = 8) (hb : l.getD (k + i) false = b) (hbits : ∀ j, j < i → os.getD j 0 = bit01 (l.getD (k + j) false)) (hO : Blk wr O 60 (bv os).toArray)
    (ho : wr.ownsRow B 5 1 (.slice (some ⟨G, 0, none⟩) n cap) n (bv (gone d f l k))) (hIr : Blk wr I 3 #[.int .i64 ((q : Int) - 1)]) (hGI : G ≠ I) (hGO : G ≠ O) (hIO : I ≠ O) (hOw : w.heap.size ≤ O) (hmr : Mod [G, I] w wr) :
    U3Rel w B G I O n cap f k d l (.int .i64 ((i : Int) + 1)) ((wr.setCell ⟨I, 0, none⟩ (.int .i64 (q : Int))).setCell ⟨O, i, none⟩ (.int .u8 ((bit01 b : Nat) : Int))) := by
  subst hq
  refine ⟨i + 1, os.set i (bit01 b), hi, by simp, by simpa using hos, ?_, blk_set (hO.other (a := ⟨I, 0, none⟩) (fun e => hIO e.symm) _) i _ (by omega), ?_, ?_, (hmr.setCell (by simp) _).setCell (by simp; omega) _⟩
  · intro j hj
    rw [getD_set _ _ _ _ (by omega)]
    by_cases e : j = i
    · subst e; rw [if_pos rfl, hb]
    · rw [if_neg e]; exact hbits j (by omega)
  · exact own_mod (own_mod ho (Mod.setCell (S := [I]) (Mod.refl _ _) (by simp) _) (by simp [Value.ownBlock]; exact hGI)) (Mod.setCell (S := [O]) (Mod.refl _ _) (by simp) _) (by simp [Value.ownBlock]; exact hGO)
  · refine ((hIr.set 0 (.int .i64 ((k + i : Nat) : Int))).other (a := ⟨O, i, none⟩) hIO _).cast ?_
    simp; omega
theorem eight_int (x0 x1 x2 x3 x4 x5 x6 x7 : Nat) (h0 : x0 ≤ 1) (h1 : x1 ≤ 1) (h2 : x2 ≤ 1) (h3 : x3 ≤ 1) (h4 : x4 ≤ 1) (h5 : x5 ≤ 1) (h6 : x6 ≤ 1) (h7 : x7 ≤ 1) :
    bits .or .u8 (bits .or .u8 (bits .or .u8 (bits .or .u8 (bits .or .u8 (bits .or .u8 (bits .or .u8 (x0 : Int) ((x1 : Int) * 2 % 256)) ((x2 : Int) * 4 % 256)) ((x3 : Int) * 8 % 256)) ((x4 : Int) * 16 % 256)) ((x5 : Int) * 32 % 256)) ((x6 : Int) * 64 % 256)) ((x7 : Int) * 128 % 256) =
      ((((((((x0 ||| x1 * 2) ||| x2 * 4) ||| x3 * 8) ||| x4 * 16) ||| x5 * 32) ||| x6 * 64) ||| x7 * 128 : Nat) : Int) := by
  have e1 : ((x1 : Int) * 2 % 256) = ((x1 * 2 : Nat) : Int) := by omega
  have e2 : ((x2 : Int) * 4 % 256) = ((x2 * 4 : Nat) : Int) := by omega
  have e3 : ((x3 : Int) * 8 % 256) = ((x3 * 8 : Nat) : Int) := by omega
  have e4 : ((x4 : Int) * 16 % 256) = ((x4 * 16 : Nat) : Int) := by omega
  have e5 : ((x5 : Int) * 32 % 256) = ((x5 * 32 : Nat) : Int) := by omega
  have e6 : ((x6 : Int) * 64 % 256) = ((x6 * 64 : Nat) : Int) := by omega
  have e7 : ((x7 : Int) * 128 % 256) = ((x7 * 128 : Nat) : Int) := by omega
  have b1 := or_lt8 (show x0 < 256 by omega) (show x1 * 2 < 256 by omega)
  have b2 := or_lt8 b1 (show x2 * 4 < 256 by omega)
  have b3 := or_lt8 b2 (show x3 * 8 < 256 by omega)
  have b4 := or_lt8 b3 (show x4 * 16 < 256 by omega)
  have b5 := or_lt8 b4 (show x5 * 32 < 256 by omega)
  have b6 := or_lt8 b5 (show x6 * 64 < 256 by omega)
  rw [e1, e2, e3, e4, e5, e6, e7, u8_or_nat _ _ (by omega) (by omega), u8_or_nat _ _ b1 (by omega), u8_or_nat _ _ b2 (by omega), u8_or_nat _ _ b3 (by omega), u8_or_nat _ _ b4 (by omega), u8_or_nat _ _ b5 (by omega), u8_or_nat _ _ b6 (by omega)]
theorem gone_len (d : List Nat) (f : Nat) (l : List Bool) : gone d f l l.length = gfin d f l := by
  unfold gone
  split
  · unfold gfin; rw [if_pos (by assumption)]
  · rfl
theorem u4_step {cb : Int} {q J : Nat} (hs : Small d) (hd : d.length = n) (hq : q < l.length) (hfl : f + l.length ≤ 8 * n) (hJ : (f + q) / 8 = J) (hJ2 : (f + l.length) / 8 = J) (ho : wr.ownsRow B 5 1 (.slice (some ⟨G, 0, none⟩) n cap) n (bv (gmem d f l q)))
    (hIr : Blk wr I 3 #[.int .i64 ((q : Int) - 1)]) (hGI : G ≠ I) (hmr : Mod [G, I] w wr) (hcb : cb = ((gnext d f l q : Nat) : Int)) :
    U4Rel w B G I n cap f J d l (.int .u8 cb) (.int .u8 (((2 ^ ((f + q) % 8) : Nat) : Int) * 2 % 256)) (.int .i64 ((l.length : Int) - q - 1)) (wr.setCell ⟨I, 0, none⟩ (.int .i64 (q : Int))) := by
  subst hd
  obtain ⟨e1, e2⟩ := gstep_in hs f l q (by omega) (by omega)
  have a2 : (f + (q + 1)) % 8 = (f + q) % 8 + 1 := by omega
  refine ⟨q + 1, hq, by omega, by congr 1; omega, ?_, by rw [hcb, e1], ?_, (hIr.set 0 (.int .i64 (q : Int))).cast (by simp), hmr.setCell (by simp) _⟩
  · rw [a2]
    have hp := pow_lt8 (show (f + q) % 8 + 1 < 8 by omega)
    rw [Nat.pow_succ] at hp ⊢
    generalize 2 ^ ((f + q) % 8) = m at hp
    congr 1; omega
  · rw [e2]; exact own_mod ho (Mod.setCell (S := [I]) (Mod.refl _ _) (by simp) _) (by simp [Value.ownBlock]; exact hGI)
theorem p2_start {A : Option Addr} {c' k0 : Nat} (hk0 : k0 ≤ l.length) (hA : (f + k0 + 7) / 8 < n → A = some ⟨G, (f + k0 + 7) / 8, none⟩ ∧ c' = cap - (f + k0 + 7) / 8) (ho : wr.ownsRow B 5 1 (.slice (some ⟨G, 0, none⟩) n cap) n (bv (gone d f l k0)))
    (hIr : Blk wr I 3 #[.int .i64 ((k0 : Int) - 1)]) (hmr : Mod [G, I] w wr) :
    P2Rel w B G I wr.heap.size n cap f k0 d l (.slice A (n - (f + k0 + 7) / 8) c') (.int .i64 (((l.length : Int) - k0) / 8)) (wr.alloc (.cells #[.int .u8 0, .int .u8 0, .int .u8 0, .int .u8 0, .int .u8 0, .int .u8 0, .int .u8 0, .int .u8 0] 60)) := by
  refine ⟨(l.length - k0) / 8, k0, A, c', [0, 0, 0, 0, 0, 0, 0, 0], rfl, Nat.le_refl _, ?_, rfl, hA, own_mod ho (Mod.alloc (Mod.refl [] _) _) (by simp), hIr.alloc _, rfl, Blk.new _ _ rfl, hmr.alloc _⟩
  congr 1; omega
theorem p2_step {A : Option Addr} {c' m' k0 r O : Nat} {os : List Nat} {y : Int} (hs : Small d) (hd : d.length = n) (hr : 0 < r) (hkr : k0 + 8 * ((l.length - k0) / 8) = k + 8 * r) (hkk : k0 ≤ k) (h8 : (f + k) % 8 = 0) (hfl : f + l.length ≤ 8 * n) (hk0 : k0 ≤ l.length)
    (hA : (f + k + 7) / 8 + 1 < n → A = some ⟨G, (f + k + 7) / 8 + 1, none⟩ ∧ c' = cap - (f + k + 7) / 8 - 1) (hm' : m' = n - (f + k + 7) / 8 - 1) (hy : y = ((eight os : Nat) : Int)) (hos : os.length = 8) (hbits : ∀ j, j < 8 → os.getD j 0 = bit01 (l.getD (k + j) false)) (hO : Blk wr O 60 (bv os).toArray)
    (ho : wr.ownsRow B 5 1 (.slice (some ⟨G, 0, none⟩) n cap) n (bv (gone d f l k))) (hIr : Blk wr I 3 #[.int .i64 (((k + 8 : Nat) : Int) - 1)]) (hGI : G ≠ I) (hGO : G ≠ O) (hmr : Mod [G, I] w wr) :
    P2Rel w B G I O n cap f k0 d l (.slice A m' c') (.int .i64 ((r : Int) - 1)) (wr.setCell ⟨G, (f + k + 7) / 8, none⟩ (.int .u8 y)) := by
  subst hd hm' hy
  have a0 : (f + k + 7) / 8 = (f + k) / 8 := by omega
  have a1 : (f + (k + 8) + 7) / 8 = (f + k + 7) / 8 + 1 := by omega
  refine ⟨r - 1, k + 8, A, c', os, by omega, by omega, by congr 1; omega, by rw [a1, Nat.sub_add_eq], fun h => ?_, ?_, hIr.other (a := ⟨G, (f + k + 7) / 8, none⟩) (fun e => hGI e.symm) _, hos, hO.other (a := ⟨G, (f + k + 7) / 8, none⟩) (fun e => hGO e.symm) _, hmr.setCell (by simp) _⟩
  · rw [a1] at h ⊢
    obtain ⟨e1, e2⟩ := hA h
    exact ⟨e1, by omega⟩
  · have e1 : gone d f l k = gmem d f l k := by unfold gone; rw [if_pos h8]
    have e2 : gone d f l (k + 8) = gmem d f l (k + 8) := by unfold gone; rw [if_pos (by omega)]
    rw [e2, ← gmem_eight hs f l k os h8 (by omega) hbits, a0]
    rw [e1] at ho
    exact own_set ho _ _ (by omega)
theorem p1_none {x : Nat} (hs : Small d) (hown : w.ownsRow B 5 1 (.slice (some ⟨G, 0, none⟩) n cap) n (bv d)) (hd : d.length = n) (hI : Blk w I 3 #[.int .i64 (-1)]) (hfd : f / 8 < n) (hm : f % 8 = 0) :
    P1Rel w B G I n cap f d l (.slice (some ⟨G, f / 8, none⟩) (n - f / 8) (cap - f / 8)) (.int .i64 (l.length : Int)) w := by
  have e : (f + 0 + 7) / 8 = f / 8 := by omega
  refine ⟨0, _, _, Nat.zero_le _, .inl (by omega), by simp, by rw [e], fun _ => by rw [e]; exact ⟨rfl, rfl⟩, ?_, hI, Mod.refl _ _⟩
  unfold gone
  rw [if_pos (by omega), (gstart hs f l (by omega)).1]; exact hown
theorem u1_start {x nq : Nat} (hs : Small d) (hown : w.ownsRow B 5 1 (.slice (some ⟨G, 0, none⟩) n cap) n (bv d)) (hI : Blk w I 3 #[.int .i64 (-1)]) (HD : d.getD (f / 8) 0 = x) :
    U1Rel w B G I n cap f d l (.int .u8 (bits .and .u8 (x : Int) ((2 ^ (f % 8) - 1 : Nat) : Int))) (.int .u8 (2 ^ (f % 8))) (.int .i64 (l.length : Int)) (w.drewN nq) := by
  have hx : x < 256 := HD ▸ hs.get _
  have hp := pow_lt8 (show f % 8 < 8 by omega)
  refine ⟨0, Nat.zero_le _, by omega, by simp, ?_, ?_, hown, hI, (Mod.refl _ _).drewN _⟩
  · have h3 : ((2 ^ (f % 8) : Nat) : Int) = (2 : Int) ^ (f % 8) := by simp
    rw [← h3, Nat.add_zero]
    congr 1
    rw [Nat.mod_eq_of_lt hp]
  · rw [u8_and_nat x (2 ^ (f % 8) - 1) hx (by omega), Nat.and_two_pow_sub_one_eq_mod]
    unfold gcb
    rw [Nat.add_zero]
    show _ = Value.int .u8 ((d.getD (f / 8) 0 % 2 ^ (f % 8) : Nat) : Int)
    rw [HD]
theorem u1_step {cb : Int} (hs : Small d) (hd : d.length = n) (hk : k < l.length) (hfl : f + l.length ≤ 8 * n) (hm : f % 8 + k < 8) (ho : wr.ownsRow B 5 1 (.slice (some ⟨G, 0, none⟩) n cap) n (bv d))
    (hIr : Blk wr I 3 #[.int .i64 ((k : Int) - 1)]) (hGI : G ≠ I) (hmr : Mod [G, I] w wr) (hcb : cb = ((gcb d f l (k + 1) : Nat) : Int)) :
    U1Rel w B G I n cap f d l (.int .u8 cb) (.int .u8 (((2 ^ (f % 8 + k) % 256 : Nat) : Int) * 2 % 256)) (.int .i64 ((l.length : Int) - k - 1)) (wr.setCell ⟨I, 0, none⟩ (.int .i64 (k : Int))) := by
  refine ⟨k + 1, hk, by omega, ?_, ?_, by rw [hcb], ?_, ?_, hmr.setCell (by simp) _⟩
  · congr 1; omega
  · rw [← Nat.add_assoc, Nat.pow_succ]
    generalize 2 ^ (f % 8 + k) = m
    congr 1; omega
  · exact own_mod ho (Mod.setCell (S := [I]) (Mod.refl _ _) (by simp) _) (by simp [Value.ownBlock]; exact hGI)
  · exact (hIr.set 0 (.int .i64 (k : Int))).cast (by simp)
theorem p1_one {A : Option Addr} {c' m' : Nat} (hs : Small d) (hd : d.length = n) (hk : k ≤ l.length) (hk0 : 0 < k) (hf : f % 8 ≠ 0) (hfl : f + l.length ≤ 8 * n) (hm : f % 8 + k ≤ 8) (he : f % 8 + k = 8 ∨ k = l.length) (hcap : n ≤ cap)
    (ho : wr.ownsRow B 5 1 (.slice (some ⟨G, 0, none⟩) n cap) n (bv d)) (hIr : Blk wr I 3 #[.int .i64 ((k : Int) - 1)]) (hGI : G ≠ I) (hmr : Mod [G, I] w wr) (hA : f / 8 + 1 < n → A = some ⟨G, f / 8 + 1, none⟩ ∧ c' = cap - f / 8 - 1) (hm' : m' = n - f / 8 - 1) :
    P1Rel w B G I n cap f d l (.slice A m' c') (.int .i64 ((l.length : Int) - k)) (wr.setCell ⟨G, f / 8, none⟩ (.int .u8 ((gcb d f l k : Nat) : Int))) := by
  subst hd
  subst hm'
  have a1 : (f + k + 7) / 8 = f / 8 + 1 := by omega
  refine ⟨k, A, c', hk, by omega, rfl, ?_, fun h => ?_, ?_, hIr.other (a := ⟨G, f / 8, none⟩) (fun e => hGI e.symm) _, hmr.setCell (by simp) _⟩
  · rw [a1, Nat.sub_add_eq]
  · rw [a1] at h ⊢
    obtain ⟨e1, e2⟩ := hA h
    exact ⟨e1, by omega⟩
  · rw [← gone_first hs f l k hk0 hf hm (by omega) he]
    exact own_set ho _ _ (by omega)
end
set_option maxRecDepth 100000 in
set_option maxHeartbeats 4000000 in
theorem unr_any (w : World) (B G I LB n cap c2 f : Nat) (A2 : Option Addr) (d : List Nat) (l : List Bool) (hd : d.length = n) (hs : Small d) (hown : w.ownsRow B 5 1 (.slice (some ⟨G, 0, none⟩) n cap) n (bv d)) (hI : Blk w I 3 #[.int .i64 (-1)]) (hL : Blk w LB 23 #[.slice A2 l.length c2]) (hl : Sl w B A2 l.length (bools l)) (hB : B ≤ I) (hBG : B ≤ G) (hGI : G ≠ I) (hGL : LB ≠ G) (hcap : n ≤ cap)
    (hn : n ≤ 4096) (hfl : f + l.length ≤ 8 * n) (hM : Msk w) (hP : Pre w) (hB2 : 2 ≤ B) (hlen : 0 < l.length) :
    Calls Tryd.prog 24 #[.slice (some ⟨G, 0, none⟩) n cap, .int .i64 (f : Int), .int .i64 (l.length : Int), .func (.func 23) #[] #[.pointer (some ⟨I, 0, none⟩), .pointer (some ⟨LB, 0, none⟩)]] w fun e w' => e = .returned (.tuple #[]) ∧ w'.ownsRow B 5 1 (.slice (some ⟨G, 0, none⟩) n cap) n (bv (gfin d f l)) ∧ Mod [G, I] w w' := by
  have hfd : f / 8 < n := by omega
  have cm := hM (f % 8) (by omega)
  have cp := hP (f % 8) (by omega)
  have cg := own_cell hown (f / 8) hfd
  have hx := hs.get (f / 8)
  have fg := own_frozen hown (f / 8)
  have lg := own_lt' hown
  have hlen' : ((l.length : Int) == 0) = false := by rw [beq_eq_false_iff_ne]; omega
  generalize hdx : d.getD (f / 8) 0 = x at cg hx
  have HD := Lib.hid hdx
  clear hdx
  have hsl : ¬ cap = f / 8 := by omega
  go_enter Tryd.func24, Tryd.ntmps24
  go_upto_if 31 with fail
  go_cut [9, 12] (P1Rel w B G I n cap f d l)
  case first =>
    by_cases hm : f % 8 = 0
    · have hmk := mask_zero hm
      have HM := Lib.hid hm
      clear hm
      go_wp2_with fail
      go_meet
      case rel => exact p1_none (x := x) hs hown hd hI hfd HM.out
    · have hmk := mask_one hm (by omega)
      have HM := Lib.hid hm
      clear hm
      rw [hmk]
      go_upto_region 7 with fail
      go_quiet (fail)
      go_wp2_with fail
      go_loopw [8, 11, 12] (U1Rel w B G I n cap f d l) (fun _ _ v _ => (intOf v).toNat)
      case atStart => exact u1_start hs hown hI HD.out
      case round =>
        obtain ⟨k, hk, hk8, rfl, rfl, rfl, ho, hIr, hmr⟩ := hrel
        have hl' := hl.mod hmr (by simp; omega)
        have hIL := hI.ne hL (by decide)
        have hL' := hL.mod hmr (by simp; omega)
        by_cases hc : f % 8 + k < 8 ∧ k < l.length
        · obtain ⟨hc1, hc2⟩ := hc
          have HC : ∀ b, l.getD k false = b → Calls Tryd.prog 23 #[.pointer (some ⟨I, 0, none⟩), .pointer (some ⟨LB, 0, none⟩)] wr fun e w' => e = .returned (.bool b) ∧ wr.setCell ⟨I, 0, none⟩ (.int .i64 (k : Int)) = w' := fun b hb => hb ▸ next_any wr I LB c2 k B A2 l hIr hL' hl' hB hc2 (by omega)
          have HG : Hid (gcb d f l (k + 1) = if l.getD k false then gcb d f l k ||| 2 ^ (f % 8 + k) else gcb d f l k) := gcb_next hs f l k hc1 (by omega)
          have hgc := gcb_lt hs f l k
          have hmv : 2 ^ (f % 8 + k) % 256 = 2 ^ (f % 8 + k) := Nat.mod_eq_of_lt (pow_lt8 hc1)
          have hpv : 0 < 2 ^ (f % 8 + k) := Nat.two_pow_pos _
          have hor := fun (x : Nat) hx => u8_or_nat x (2 ^ (f % 8 + k)) hx (pow_lt8 hc1)
          have HU := Lib.hid (show ∀ cb : Int, cb = ((gcb d f l (k + 1) : Nat) : Int) → U1Rel w B G I n cap f d l (.int .u8 cb) (.int .u8 (((2 ^ (f % 8 + k) % 256 : Nat) : Int) * 2 % 256)) (.int .i64 ((l.length : Int) - k - 1)) (wr.setCell ⟨I, 0, none⟩ (.int .i64 (k : Int))) from fun cb h => u1_step hs hd hc2 hfl hc1 ho hIr hGI hmr h)
          rw [hmv] at HU ⊢
          have HO : Hid (∀ x : Nat, x < 256 → bits .or .u8 (x : Int) ((2 ^ (f % 8 + k) : Nat) : Int) = ((x ||| 2 ^ (f % 8 + k) : Nat) : Int)) := hor
          clear hmv hor
          generalize 2 ^ (f % 8 + k) = mv at HU HG HO hpv ⊢
          have hmv2 : ((mv : Int) != 0) = true := by rw [bne_iff_ne]; omega
          generalize gcb d f l k = x at hgc HG
          generalize hbb : l.getD k false = b at HG
          have HC' := hide (HC b hbb)
          clear HC hbb
          cases b
          · go_wp2_with (go_at_call 23; (with_reducible refine (unhide HC').mono ?_); rintro e w' ⟨rfl, rfl⟩)
            exact ⟨HU.out _ (by rw [HG.out]; rfl), by simp [intOf]; omega⟩
          · go_wp2_with (go_at_call 23; (with_reducible refine (unhide HC').mono ?_); rintro e w' ⟨rfl, rfl⟩)
            exact ⟨HU.out _ (by rw [HG.out]; exact HO.out x hgc), by simp [intOf]; omega⟩
        · have ff := own_frozen ho (f / 8)
          have gg := own_lt' ho
          have hx' := hs.get (f / 8)
          have cc := own_cell ho (f / 8) hfd
          have hz : ((2 ^ (f % 8 + k) % 256 : Nat) = 0) ∨ (l.length : Int) - k ≤ 0 := by
            by_cases h8 : f % 8 + k = 8
            · left; rw [h8]
            · right; omega
          have HO : Hid (f % 8 + k = 8 ∨ k = l.length) := (show f % 8 + k = 8 ∨ k = l.length by omega)
          have hk0 : 0 < k := by
            rcases Nat.eq_zero_or_pos k with h | h
            · subst h; have := HM.out; omega
            · exact h
          have HP : Hid (∀ (A : Option Addr) (c' m' : Nat), (f / 8 + 1 < n → A = some ⟨G, f / 8 + 1, none⟩ ∧ c' = cap - f / 8 - 1) → m' = n - f / 8 - 1 → P1Rel w B G I n cap f d l (.slice A m' c') (.int .i64 ((l.length : Int) - k)) (wr.setCell ⟨G, f / 8, none⟩ (.int .u8 ((gcb d f l k : Nat) : Int)))) :=
            fun A c' m' h1 h2 => p1_one hs hd hk hk0 HM.out hfl hk8 HO.out hcap ho hIr hGI hmr h1 h2
          generalize gcb d f l k = x2 at HP
          generalize 2 ^ (f % 8 + k) % 256 = mv at hz
          clear hc
          rcases hz with rfl | hz
          · go_wp2_with fail
            all_goals (go_meet; exact HP.out _ _ _ (fun h => by first | omega | exact ⟨rfl, rfl⟩) rfl)
          · go_wp2_with fail
            all_goals (go_meet; exact HP.out _ _ _ (fun h => by first | omega | exact ⟨rfl, rfl⟩) rfl)
  case rest =>
    obtain ⟨k0, A, c', hk0, hk1, rfl, rfl, hA, ho0, hI0, hm0⟩ := hcut
    obtain ⟨wo, rfl⟩ : ∃ wo : World, wo = wc := ⟨_, rfl⟩
    clear cm cp cg fg lg hlen'
    have hIL := hI.ne hL (by decide)
    have hmk : IntKind.i64.wrap 0 = 0 := by decide
    go_upto_block 2 with fail
    go_cut [9, 14] (fun v9 v14 wx => v14 = .int .i64 0 ∧ P2Rel w B G I wo.heap.size n cap f k0 d l v9 (.int .i64 0) wx)
    case first =>
      go_wp2_with fail
      go_loopw [9, 14] (P2Rel w B G I wo.heap.size n cap f k0 d l) (fun _ v _ => (intOf v).toNat)
      case atStart => exact p2_start hk0 hA ho0 hI0 hm0
      case round =>
        obtain ⟨r, k, A, c', os, hkr, hkk, rfl, rfl, hA, ho, hIr, hos, hO, hmr⟩ := hrel
        by_cases hr : 0 < r
        · have h8 : (f + k) % 8 = 0 := by omega
          have hOw : w.heap.size ≤ wo.heap.size := hm0.size
          have hGO : G ≠ wo.heap.size := by have := own_lt' ho0; omega
          have hIO : I ≠ wo.heap.size := by have := hI0.lt; omega
          obtain ⟨rfl, rfl⟩ := hA (by omega)
          have hk8 : k + 8 ≤ l.length := by omega
          have H8 := Lib.hid h8
          have HKR := Lib.hid hkr
          clear h8 hkr
          go_upto_block 4 with fail
          go_cut [15] (fun v wx => v = .int .i64 8 ∧ U3Rel w B G I wo.heap.size n cap f k d l (.int .i64 8) wx)
          case first =>
            go_wp2_with fail
            go_loopw [15] (U3Rel w B G I wo.heap.size n cap f k d l) (fun v _ => (8 - (intOf v)).toNat)
            case atStart => exact ⟨0, os, by omega, rfl, hos, fun j hj => absurd hj (by omega), hO, ho, by simpa using hIr, hmr⟩
            case round =>
              obtain ⟨i, os, hi, rfl, hos, hbits, hO, ho, hIr, hmr⟩ := hrel
              have hl' := hl.mod hmr (by simp; omega)
              have hL' := hL.mod hmr (by simp; omega)
              by_cases hi8 : i < 8
              · generalize hq : k + i = q at hIr
                have HC : ∀ b, l.getD q false = b → Calls Tryd.prog 23 #[.pointer (some ⟨I, 0, none⟩), .pointer (some ⟨LB, 0, none⟩)] wr fun e w' => e = .returned (.bool b) ∧ wr.setCell ⟨I, 0, none⟩ (.int .i64 (q : Int)) = w' := fun b hb => hb ▸ next_any wr I LB c2 q B A2 l hIr hL' hl' hB (by omega) (by omega)
                generalize hbb : l.getD q false = b
                have HB := Lib.hid hbb
                have HC' := hide (HC b hbb)
                have HQ := Lib.hid hq
                have c1 := blk_byte hO i (by omega)
                have f1 := hO.frozen i
                have g1 := hO.lt
                clear HC hbb hq
                cases b
                · go_wp2_with (go_at_call 23; (with_reducible refine (unhide HC').mono ?_); rintro e w' ⟨rfl, rfl⟩)
                  exact ⟨u3_step false HQ.out.symm hi8 hos (by rw [HQ.out]; exact HB.out) hbits hO ho hIr hGI hGO hIO hOw hmr, by simp [intOf]; omega⟩
                · go_wp2_with (go_at_call 23; (with_reducible refine (unhide HC').mono ?_); rintro e w' ⟨rfl, rfl⟩)
                  exact ⟨u3_step true HQ.out.symm hi8 hos (by rw [HQ.out]; exact HB.out) hbits hO ho hIr hGI hGO hIO hOw hmr, by simp [intOf]; omega⟩
              · obtain rfl : i = 8 := by omega
                go_wp2_with fail
                go_meet
                case rel => exact ⟨rfl, 8, os, Nat.le_refl _, rfl, hos, hbits, hO, ho, hIr, hmr⟩
          case rest =>
            obtain ⟨rfl, i, os, hi, hi8, hos, hbits, hO, ho, hIr, hmr⟩ := hcut
            obtain rfl : i = 8 := by simp at hi8; omega
            have o0 := blk_byte hO 0 (by omega)
            have o1 := blk_byte hO 1 (by omega)
            have o2 := blk_byte hO 2 (by omega)
            have o3 := blk_byte hO 3 (by omega)
            have o4 := blk_byte hO 4 (by omega)
            have o5 := blk_byte hO 5 (by omega)
            have o6 := blk_byte hO 6 (by omega)
            have o7 := blk_byte hO 7 (by omega)
            have hj : (f + k + 7) / 8 < n := by omega
            have cc := own_cell ho _ hj
            have ff := own_frozen ho ((f + k + 7) / 8)
            have gg := own_lt' ho
            have hle : ∀ j, j < 8 → os.getD j 0 ≤ 1 := fun j hj => by rw [hbits j hj]; cases l.getD (k + j) false <;> decide
            have HS : Hid (∀ (A : Option Addr) (c' m' : Nat) (y z : Int), z = (r : Int) - 1 → ((f + k + 7) / 8 + 1 < n → A = some ⟨G, (f + k + 7) / 8 + 1, none⟩ ∧ c' = cap - (f + k + 7) / 8 - 1) → m' = n - (f + k + 7) / 8 - 1 →
                y = ((((((((os.getD 0 0 ||| os.getD 1 0 * 2) ||| os.getD 2 0 * 4) ||| os.getD 3 0 * 8) ||| os.getD 4 0 * 16) ||| os.getD 5 0 * 32) ||| os.getD 6 0 * 64) ||| os.getD 7 0 * 128 : Nat) : Int) →
                P2Rel w B G I wo.heap.size n cap f k0 d l (.slice A m' c') (.int .i64 z) (wc.setCell ⟨G, (f + k + 7) / 8, none⟩ (.int .u8 y))) :=
              fun A c' m' y z h0 h1 h2 h3 => h0 ▸ p2_step hs hd hr HKR.out hkk H8.out hfl hk0 h1 h2 h3 hos hbits hO ho hIr hGI hGO hmr
            have q0 := hle 0 (by omega)
            have q1 := hle 1 (by omega)
            have q2 := hle 2 (by omega)
            have q3 := hle 3 (by omega)
            have q4 := hle 4 (by omega)
            have q5 := hle 5 (by omega)
            have q6 := hle 6 (by omega)
            have q7 := hle 7 (by omega)
            generalize os.getD 0 0 = x0 at o0 q0 HS
            generalize os.getD 1 0 = x1 at o1 q1 HS
            generalize os.getD 2 0 = x2 at o2 q2 HS
            generalize os.getD 3 0 = x3 at o3 q3 HS
            generalize os.getD 4 0 = x4 at o4 q4 HS
            generalize os.getD 5 0 = x5 at o5 q5 HS
            generalize os.getD 6 0 = x6 at o6 q6 HS
            generalize os.getD 7 0 = x7 at o7 q7 HS
            have Q := Lib.hid (And.intro q0 (And.intro q1 (And.intro q2 (And.intro q3 (And.intro q4 (And.intro q5 (And.intro q6 q7)))))))
            clear hle hbits q0 q1 q2 q3 q4 q5 q6 q7
            go_wp2_with fail
            obtain ⟨q0, q1, q2, q3, q4, q5, q6, q7⟩ := Q.out
            have hr1 : wrap64 ((r : Int) - 1) = (r : Int) - 1 := IntWalk.wrap64_in _ (by have hkr2 := HKR.out; omega)
            refine ⟨?_, ?_⟩
            · refine HS.out _ _ _ _ _ hr1 ?_ rfl (eight_int x0 x1 x2 x3 x4 x5 x6 x7 q0 q1 q2 q3 q4 q5 q6 q7)
              intro h
              rw [if_neg (by omega)]
              exact ⟨rfl, rfl⟩
            · show (wrap64 ((r : Int) - 1)).toNat < _
              rw [hr1]; simp [intOf]; omega
        · go_wp2_with fail
          go_meet
          case rel => exact ⟨by simp; omega, r, k, A, c', os, hkr, hkk, by simp; omega, rfl, hA, ho, hIr, hos, hO, hmr⟩
    case rest =>
      obtain ⟨rfl, r, k, A, c', os, hkr, hkk, hr0, rfl, hA, ho, hIr, _, _, hmr⟩ := hcut
      obtain rfl : r = 0 := by simp at hr0; omega
      have hke : ((l.length : Int) - k0) % 8 = (l.length : Int) - k := by omega
      have HK := Lib.hid hke
      have hkl : k ≤ l.length := by omega
      have H80 := Lib.hid (show k = l.length ∨ (f + k) % 8 = 0 by omega)
      have HKR := Lib.hid hkr
      clear hke hr0 hkr
      by_cases hz : k = l.length
      · have hzero : ¬ (0 < ((l.length : Int) - k0) % 8) := by rw [HK.out]; omega
        go_wp2_with fail
        go_returns
        refine ⟨rfl, ?_, hmr⟩
        rw [hz, gone_len] at ho
        exact ho
      · have hpos : 0 < ((l.length : Int) - k0) % 8 := by rw [HK.out]; omega
        have h8 : (f + k) % 8 = 0 := by rcases H80.out with h | h; exact absurd h hz; exact h
        have hJ : (f + k + 7) / 8 = (f + k) / 8 := by omega
        have hj : (f + k) / 8 < n := by omega
        obtain ⟨rfl, rfl⟩ := hA (by omega)
        rw [hJ]
        have ho1 : wc.ownsRow B 5 1 (.slice (some ⟨G, 0, none⟩) n cap) n (bv (gmem d f l k)) := by
          unfold gone at ho; rw [if_pos h8] at ho; exact ho
        have H8 := Lib.hid h8
        have HJ := Lib.hid (show (f + l.length) / 8 = (f + k) / 8 by have := HKR.out; omega)
        clear h8 hJ ho
        generalize hJJ : (f + k) / 8 = J at hj HJ ⊢
        have HJ2 := Lib.hid hJJ
        clear hJJ
        go_upto_block 6 with fail
        go_wp2_with fail
        go_loopw [8, 11, 16] (U4Rel w B G I n cap f J d l) (fun _ _ v _ => (intOf v).toNat)
        case atStart => exact ⟨k, by omega, HJ2.out, by rw [HK.out], by rw [H8.out]; rfl, by rw [gcur_zero _ _ _ _ H8.out]; rfl, ho1, hIr, hmr⟩
        case round =>
          obtain ⟨q, hq, hqJ, rfl, rfl, rfl, ho, hIr, hmr⟩ := hrel
          have hl' := hl.mod hmr (by simp; omega)
          have hL' := hL.mod hmr (by simp; omega)
          have HQ := Lib.hid hqJ
          clear hqJ
          by_cases hlt : q < l.length
          · have HC : ∀ b, l.getD q false = b → Calls Tryd.prog 23 #[.pointer (some ⟨I, 0, none⟩), .pointer (some ⟨LB, 0, none⟩)] wr fun e w' => e = .returned (.bool b) ∧ wr.setCell ⟨I, 0, none⟩ (.int .i64 (q : Int)) = w' := fun b hb => hb ▸ next_any wr I LB c2 q B A2 l hIr hL' hl' hB hlt (by omega)
            have HG : Hid (gnext d f l q = if l.getD q false then gcur d f l q ||| 2 ^ ((f + q) % 8) else gcur d f l q) := rfl
            have hgc := gcur_lt8 d f l q
            have hpw := pow_lt8 (show (f + q) % 8 < 8 by omega)
            have HU : Hid (∀ cb : Int, cb = ((gnext d f l q : Nat) : Int) → U4Rel w B G I n cap f J d l (.int .u8 cb) (.int .u8 (((2 ^ ((f + q) % 8) : Nat) : Int) * 2 % 256)) (.int .i64 ((l.length : Int) - q - 1)) (wr.setCell ⟨I, 0, none⟩ (.int .i64 (q : Int)))) :=
              fun cb h => u4_step hs hd hlt hfl HQ.out HJ.out ho hIr hGI hmr h
            generalize 2 ^ ((f + q) % 8) = mv at HU HG hpw ⊢
            generalize gcur d f l q = x at hgc HG ⊢
            generalize hbb : l.getD q false = b at HG
            have HP := Lib.hid hpw
            have HC' := hide (HC b hbb)
            clear HC hbb hpw
            cases b
            · go_wp2_with (go_at_call 23; (with_reducible refine (unhide HC').mono ?_); rintro e w' ⟨rfl, rfl⟩)
              exact ⟨HU.out _ (by rw [HG.out]; rfl), by simp [intOf]; omega⟩
            · go_wp2_with (go_at_call 23; (with_reducible refine (unhide HC').mono ?_); rintro e w' ⟨rfl, rfl⟩)
              exact ⟨HU.out _ (by rw [HG.out]; exact u8_or_nat x mv hgc HP.out), by simp [intOf]; omega⟩
          · obtain rfl : q = l.length := by omega
            have cc := own_cell ho J hj
            have ff := own_frozen ho J
            have gg := own_lt' ho
            have hne8 : (f + l.length) % 8 ≠ 0 := by
              intro e
              have h1 := HJ.out
              have h2 := HJ2.out
              have h3 := H8.out
              omega
            have HN := Lib.hid hne8
            clear hne8
            go_wp2_with fail
            go_end0
            refine ⟨rfl, ?_, hmr.setCell (by simp) _⟩
            unfold gfin
            rw [if_neg HN.out, HJ.out]
            exact own_set ho J _ hj
end Go.Proofs.YtfodkdadbcojeaaDoor
