import Derived.Test.YtajjnlneacoooaaLK
/- The thin package's decimals: DecUnary. (Ytajjnlneacoooaa) -/
import Derived.Test.YtajjnlneacoooaaW16
import Derived.Defers
set_option linter.unusedVariables false
set_option linter.unusedSimpArgs false
namespace Go.Proofs.Ytajjnlneacoooaa
open Go.RowKit Go.ChangeShapes Go.WideShapes Go.ChangeAt
attribute [local go_sem ↓] Go.wp_at_zero Go.wp_at_succ
theorem idle23 (p q : Addr) (w : World) : CallsD Try.prog 23 #[.pointer (some p), .pointer (some q)] .returning w fun e u' w' => e = .returned (.tuple #[]) ∧ u' = .returning ∧ w = w' := by
  refine callsD_of_wpS Try.func23 rfl fun c₀ cs hu => ?_
  apply wpS_seq
  apply wpS_region
  simp [wpOpsS, go_sem, recoverD, hu, Try.ntmps23, Exit.thenS]
  refine wpS_cond (t := false) (by simp [Act.eval, Array.replicate]) ?_
  simp only [Bool.false_eq_true, if_false]
  refine wpS_of_wp (wp_skip ?_)
  cases c₀
  simp_all [bodyPostS, results, Try.results23]
theorem blk_nine {w : World} {g : Nat} {t : TypeId} {v0 v1 v2 v3 v4 v5 v6 v7 v8 : Value} (h : Blk w g t #[v0, v1, v2, v3, v4, v5, v6, v7, v8]) :
    w.cell? ⟨g, 0, none⟩ = some v0 ∧ w.cell? ⟨g, 1, none⟩ = some v1 ∧ w.cell? ⟨g, 2, none⟩ = some v2 ∧ w.cell? ⟨g, 3, none⟩ = some v3 ∧ w.cell? ⟨g, 4, none⟩ = some v4 ∧ w.cell? ⟨g, 5, none⟩ = some v5 ∧ w.cell? ⟨g, 6, none⟩ = some v6 ∧ w.cell? ⟨g, 7, none⟩ = some v7 ∧ w.cell? ⟨g, 8, none⟩ = some v8 ∧ w.frozen? ⟨g, 0, none⟩ = false ∧ w.frozen? ⟨g, 1, none⟩ = false ∧ w.frozen? ⟨g, 2, none⟩ = false ∧ w.frozen? ⟨g, 3, none⟩ = false ∧ w.frozen? ⟨g, 4, none⟩ = false ∧ w.frozen? ⟨g, 5, none⟩ = false ∧ w.frozen? ⟨g, 6, none⟩ = false ∧ w.frozen? ⟨g, 7, none⟩ = false ∧ w.frozen? ⟨g, 8, none⟩ = false :=
  ⟨by have := h.cell 0; simpa using this, by have := h.cell 1; simpa using this, by have := h.cell 2; simpa using this, by have := h.cell 3; simpa using this, by have := h.cell 4; simpa using this, by have := h.cell 5; simpa using this, by have := h.cell 6; simpa using this, by have := h.cell 7; simpa using this, by have := h.cell 8; simpa using this, h.frozen 0, h.frozen 1, h.frozen 2, h.frozen 3, h.frozen 4, h.frozen 5, h.frozen 6, h.frozen 7, h.frozen 8⟩
def K7 (w2 : World) (g8 : Nat) (V : Array Value) (w : World) : Prop := Blk w g8 62 V ∧ Below w2.heap.size w2 w
theorem K7.drew {w2 : World} {g8 : Nat} {V : Array Value} {w : World} (h : K7 w2 g8 V w) : K7 w2 g8 V w.drew := ⟨h.1.below (bdrew (Below.refl _ _)), bdrew h.2⟩
theorem K7.below {w2 : World} {g8 : Nat} {V : Array Value} {w w' : World} (h : K7 w2 g8 V w) (hb : Below w.heap.size w w') : K7 w2 g8 V w' := ⟨h.1.below hb, below_tr h.2 hb h.2.size⟩
theorem s7_of {w2 : World} {g8 : Nat} {w : World} {v0 v1 v2 v3 v4 v5 v6 v7 v8 : Value} (h : K7 w2 g8 #[v0, v1, v2, v3, v4, v5, v6, v7, v8] w) :
    w.cell? ⟨g8, 0, none⟩ = some v0 ∧ w.cell? ⟨g8, 1, none⟩ = some v1 ∧ w.cell? ⟨g8, 2, none⟩ = some v2 ∧ w.cell? ⟨g8, 3, none⟩ = some v3 ∧ w.cell? ⟨g8, 4, none⟩ = some v4 ∧ w.cell? ⟨g8, 5, none⟩ = some v5 ∧ w.cell? ⟨g8, 6, none⟩ = some v6 ∧ w.cell? ⟨g8, 7, none⟩ = some v7 ∧ w.cell? ⟨g8, 8, none⟩ = some v8 ∧ w.frozen? ⟨g8, 0, none⟩ = false ∧ w.frozen? ⟨g8, 1, none⟩ = false ∧ w.frozen? ⟨g8, 2, none⟩ = false ∧ w.frozen? ⟨g8, 3, none⟩ = false ∧ w.frozen? ⟨g8, 4, none⟩ = false ∧ w.frozen? ⟨g8, 5, none⟩ = false ∧ w.frozen? ⟨g8, 6, none⟩ = false ∧ w.frozen? ⟨g8, 7, none⟩ = false ∧ w.frozen? ⟨g8, 8, none⟩ = false ∧ K7 w2 g8 #[v0, v1, v2, v3, v4, v5, v6, v7, v8] w :=
  ⟨by have := h.1.cell 0; simpa using this, by have := h.1.cell 1; simpa using this, by have := h.1.cell 2; simpa using this, by have := h.1.cell 3; simpa using this, by have := h.1.cell 4; simpa using this, by have := h.1.cell 5; simpa using this, by have := h.1.cell 6; simpa using this, by have := h.1.cell 7; simpa using this, by have := h.1.cell 8; simpa using this, h.1.frozen 0, h.1.frozen 1, h.1.frozen 2, h.1.frozen 3, h.1.frozen 4, h.1.frozen 5, h.1.frozen 6, h.1.frozen 7, h.1.frozen 8, h⟩
def PUn (w : World) (l : List Int) (e : Ending) (w' : World) : Prop := ∃ x, e = .returned (.tuple #[x, .bool true]) ∧ Rd .u64 w' x l ∧ Below w.heap.size w w'
theorem pun_fin {w w5 : World} {x : Value} {l : List Int} {u v : Value} (hx : Rd .u64 w5 x l) (k0 : Blk w5 w.heap.size 22 #[u]) (k1 : Blk w5 (w.heap.size + 1) 4 #[v]) (hb : Below w.heap.size w w5) {N : Nat} (hn : New N x) (hN : w.heap.size + 1 < N) :
    PUn w l (.returned (.tuple #[x, .bool true])) ((w5.setCell ⟨w.heap.size, 0, none⟩ x).setCell ⟨w.heap.size + 1, 0, none⟩ (.bool true)) := by
  refine ⟨x, rfl, ?_, (hb.setCell (Nat.le_refl _) _).setCell (by simp) _⟩
  obtain ⟨A, c, rfl, h1, h2, h3⟩ := hx
  refine ⟨A, c, rfl, h1, ⟨h2.1, fun hp => ?_⟩, h3⟩
  obtain ⟨b, off, rfl, hb', hc⟩ := h2.2 hp
  have hge := hn b off _ c rfl hp
  refine ⟨b, off, rfl, by rw [World.size_setCell, World.size_setCell]; exact hb', fun i u hu => ?_⟩
  rw [World.cell?_of_block (heap_set_other _ _ _ _ (by simp; omega)), World.cell?_of_block (heap_set_other _ _ _ _ (by simp; omega))]
  exact hc i u hu
theorem blk_one0 {w w5 : World} {u v : Value} (k0 : Blk w5 w.heap.size 22 #[u]) (k1 : Blk w5 (w.heap.size + 1) 4 #[v]) (x y : Value) :
    ((w5.setCell ⟨w.heap.size, 0, none⟩ x).setCell ⟨w.heap.size + 1, 0, none⟩ y).cell? ⟨w.heap.size, 0, none⟩ = some x ∧ ((w5.setCell ⟨w.heap.size, 0, none⟩ x).setCell ⟨w.heap.size + 1, 0, none⟩ y).cell? ⟨w.heap.size + 1, 0, none⟩ = some y := by
  have h0 := ((k0.set 0 x).other (a := ⟨w.heap.size + 1, 0, none⟩) (by simp) y).cell 0
  have h1 := ((k1.other (a := ⟨w.heap.size, 0, none⟩) (by simp) x).set 0 y).cell 0
  exact ⟨by simpa using h0, by simpa using h1⟩
def P7Neg (w2 : World) (g8 : Nat) (width x32 x64 : Int) (l1 l2 : List Int) (wx : World) : Prop :=
  ∃ lo' hi' a' b' c' d', l1 = [lo', IntKind.u64.wrap hi'] ∧ l2 = [a', b', c', d'] ∧ Blk wx g8 62 #[.int .i64 width, .int .i32 x32, .int .i64 x64, .int .u64 lo', .int .i64 hi', .int .u64 a', .int .u64 b', .int .u64 c', .int .u64 d'] ∧ Below g8 w2 wx
theorem p7Neg_of {w2 W : World} {g8 : Nat} {width d32 d64 x32 x64 lo hi a b c d lo' hi' a' b' c' d' : Int} {l1 l2 : List Int} (hg : g8 < w2.heap.size) (h1 : l1 = [lo', IntKind.u64.wrap hi']) (h2 : l2 = [a', b', c', d']) (hk : Blk W g8 62 #[.int .i64 width, .int .i32 d32, .int .i64 d64, .int .u64 lo, .int .i64 hi, .int .u64 a, .int .u64 b, .int .u64 c, .int .u64 d]) (hb : Below w2.heap.size w2 W) :
    P7Neg w2 g8 width x32 x64 l1 l2 (((((((((W.setCell ⟨g8, 0, none⟩ (.int .i64 width)).setCell ⟨g8, 1, none⟩ (.int .i32 x32)).setCell ⟨g8, 2, none⟩ (.int .i64 x64)).setCell ⟨g8, 3, none⟩ (.int .u64 lo')).setCell ⟨g8, 4, none⟩ (.int .i64 hi')).setCell ⟨g8, 5, none⟩ (.int .u64 a')).setCell ⟨g8, 6, none⟩ (.int .u64 b')).setCell ⟨g8, 7, none⟩ (.int .u64 c')).setCell ⟨g8, 8, none⟩ (.int .u64 d')) := by
  refine ⟨lo', hi', a', b', c', d', h1, h2, ?_, ?_⟩
  · have := ((((((((hk.set 0 (.int .i64 width)).set 1 (.int .i32 x32)).set 2 (.int .i64 x64)).set 3 (.int .u64 lo')).set 4 (.int .i64 hi')).set 5 (.int .u64 a')).set 6 (.int .u64 b')).set 7 (.int .u64 c')).set 8 (.int .u64 d')
    exact this.cast (by simp)
  · have hb' : Below g8 w2 W := hb.mono (by omega)
    exact ((((((((hb'.setCell (Nat.le_refl _) _).setCell (Nat.le_refl _) _).setCell (Nat.le_refl _) _).setCell (Nat.le_refl _) _).setCell (Nat.le_refl _) _).setCell (Nat.le_refl _) _).setCell (Nat.le_refl _) _).setCell (Nat.le_refl _) _).setCell (Nat.le_refl _) _
set_option maxRecDepth 100000 in
set_option maxHeartbeats 40000000 in
theorem decNeg_of (w : World) (v : Value) (width d32 d64 lo hw a b c d : Int) (h0 : 0 ≤ lo) (h1 : lo < 18446744073709551616) (h2 : 0 ≤ hw) (h3 : hw < 18446744073709551616) (hs : Sm64 [a, b, c, d]) (res : List Int)
    (hdec : ∀ W : World, Below w.heap.size w W → Calls Try.prog 24 #[.int .i64 width, v] W (PDec W (decV width d32 d64 lo (wrap64 hw) a b c d)))
    (hwords : ∀ (W : World) (lo' hi' a' b' c' d' : Int), negl [lo, hw] 1 = [lo', IntKind.u64.wrap hi'] → negl [a, b, c, d] 1 = [a', b', c', d'] → Calls Try.prog 33 #[decV width (wrap32 (-d32)) (wrap64 (-d64)) lo' hi' a' b' c' d'] W (PWords W res)) :
    Calls Try.prog 6 #[.int .i64 width, .int .i64 0, v] w (PUn w res) := by
  have hD := hide hdec
  have hW := hide hwords
  have hN1 := hide (fun (W : World) => neg128_any W lo hw h0 h1 h2 h3)
  have hN2 := hide (fun (W : World) => neg256_any W a b c d hs)
  clear hdec hwords h0 h1 h2 h3 hs
  have hA1 := hide (fun (W : World) => neg32_any W d32)
  have hA2 := hide (fun (W : World) => neg64_any W d64)
  unfold decV at hD hW
  generalize (wrap32 (-d32)) = x32 at *
  generalize (wrap64 (-d64)) = x64 at *
  generalize hl1 : negl [lo, hw] 1 = l1 at *
  generalize hl2 : negl [a, b, c, d] 1 = l2 at *
  clear hl1 hl2
  generalize wrap64 hw = hi at *
  go_enter_defers Try.func6, Try.ntmps6
  go_wp2_with fail
  refine ((unhide hD) _ (((Below.refl _ _).alloc (Nat.le_refl _) _).alloc (by simp) _)).mono ?_
  rintro e w1 ⟨rfl, hb1⟩
  have k0 : Blk w1 w.heap.size 22 #[.slice none 0 0] := (((Blk.new (w := w) (g := w.heap.size) 22 _ rfl).alloc _).below hb1)
  have k1 : Blk w1 (w.heap.size + 1) 4 #[.bool false] := ((Blk.new (w := w.alloc _) (g := w.heap.size + 1) 4 _ (by simp)).below hb1)
  go_upto_block 0 with (fail)
  have k8 := Blk.new (w := w1) (g := w1.heap.size) 62 #[.int .i64 width, .int .i32 d32, .int .i64 d64, .int .u64 lo, .int .i64 hi, .int .u64 a, .int .u64 b, .int .u64 c, .int .u64 d] rfl
  have k02 := k0.alloc (.cells #[.int .i64 width, .int .i32 d32, .int .i64 d64, .int .u64 lo, .int .i64 hi, .int .u64 a, .int .u64 b, .int .u64 c, .int .u64 d] 62)
  have k12 := k1.alloc (.cells #[.int .i64 width, .int .i32 d32, .int .i64 d64, .int .u64 lo, .int .i64 hi, .int .u64 a, .int .u64 b, .int .u64 c, .int .u64 d] 62)
  have hB1 : Below w.heap.size w w1 := below_tr (((Below.refl w.heap.size w).alloc (Nat.le_refl _) _).alloc (by simp) _) hb1 (by simp; omega)
  have hB2 := hB1.alloc hB1.size (.cells #[.int .i64 width, .int .i32 d32, .int .i64 d64, .int .u64 lo, .int .i64 hi, .int .u64 a, .int .u64 b, .int .u64 c, .int .u64 d] 62)
  have hg1 : w.heap.size + 1 < w1.heap.size := k1.lt
  generalize (w1.alloc (.cells #[.int .i64 width, .int .i32 d32, .int .i64 d64, .int .u64 lo, .int .i64 hi, .int .u64 a, .int .u64 b, .int .u64 c, .int .u64 d] 62)) = w2 at k8 k02 k12 hB2 ⊢
  generalize w1.heap.size = g8 at k8 hg1 ⊢
  have hg8 := k8.lt
  clear k0 k1 hB1 hb1
  go_cut [41] from 16 to 57 (fun v41 wx => P7Neg w2 g8 width x32 x64 l1 l2 wx)
  case first =>
    have hPost := hide (fun (W : World) lo' hi' a' b' c' d' h1 h2 hk hb => p7Neg_of (w2 := w2) (W := W) (g8 := g8) (width := width) (d32 := d32) (d64 := d64) (x32 := x32) (x64 := x64) (lo := lo) (hi := hi) (a := a) (b := b) (c := c) (d := d) (lo' := lo') (hi' := hi') (a' := a') (b' := b') (c' := c') (d' := d') (l1 := l1) (l2 := l2) hg8 h1 h2 hk hb)
    obtain ⟨p0, p1, p2, p3, p4, p5, p6, p7, p8, _⟩ := blk_nine k8
    clear hD hW k02 k12 hB2
    go_upto_region 7 with (fail)
    have hk7 : K7 w2 g8 #[.int .i64 width, .int .i32 d32, .int .i64 d64, .int .u64 lo, .int .i64 hi, .int .u64 a, .int .u64 b, .int .u64 c, .int .u64 d] w2 := ⟨k8, Below.refl _ _⟩
    refine wp_region_noPanic ?_
    refine wp_region_K (S := fun w => w.cell? ⟨g8, 0, none⟩ = some (.int .i64 width) ∧ w.cell? ⟨g8, 1, none⟩ = some (.int .i32 d32) ∧ w.cell? ⟨g8, 2, none⟩ = some (.int .i64 d64) ∧ w.cell? ⟨g8, 3, none⟩ = some (.int .u64 lo) ∧ w.cell? ⟨g8, 4, none⟩ = some (.int .i64 hi) ∧ w.cell? ⟨g8, 5, none⟩ = some (.int .u64 a) ∧ w.cell? ⟨g8, 6, none⟩ = some (.int .u64 b) ∧ w.cell? ⟨g8, 7, none⟩ = some (.int .u64 c) ∧ w.cell? ⟨g8, 8, none⟩ = some (.int .u64 d) ∧ w.frozen? ⟨g8, 0, none⟩ = false ∧ w.frozen? ⟨g8, 1, none⟩ = false ∧ w.frozen? ⟨g8, 2, none⟩ = false ∧ w.frozen? ⟨g8, 3, none⟩ = false ∧ w.frozen? ⟨g8, 4, none⟩ = false ∧ w.frozen? ⟨g8, 5, none⟩ = false ∧ w.frozen? ⟨g8, 6, none⟩ = false ∧ w.frozen? ⟨g8, 7, none⟩ = false ∧ w.frozen? ⟨g8, 8, none⟩ = false ∧ K7 w2 g8 #[.int .i64 width, .int .i32 d32, .int .i64 d64, .int .u64 lo, .int .i64 hi, .int .u64 a, .int .u64 b, .int .u64 c, .int .u64 d] w) (k := 14) (by kernel_rfl) (by with_reducible exact s7_of hk7.drew) (fun hHeld => ?_)
    refine wpAnyK_take (i := 0) (oi := _) (v := ?_) rfl (by kernel_rfl) (by kernel_rfl) (by kernel_rfl) (by kernel_rfl) (fun _ _ _ h => h) (Or.inl ⟨by rfl, ?_⟩) (by assumption) ?_
    rotate_left
    · intro w hSw; (try dsimp only at hSw); go_simp; (try with_reducible rfl)
    try simp only [Act.put, List.setIfInBounds_toArray, List.set_cons_zero, List.set_cons_succ]
    refine wpAnyK_take (i := 1) (oi := _) (v := ?_) rfl (by kernel_rfl) (by kernel_rfl) (by kernel_rfl) (by kernel_rfl) (fun _ _ _ h => h) (Or.inl ⟨by rfl, ?_⟩) (by assumption) ?_
    rotate_left
    · intro w hSw; (try dsimp only at hSw); go_simp; (try with_reducible rfl)
    try simp only [Act.put, List.setIfInBounds_toArray, List.set_cons_zero, List.set_cons_succ]
    refine wpAnyK_take (i := 2) (oi := _) (v := ?_) rfl (by kernel_rfl) (by kernel_rfl) (by kernel_rfl) (by kernel_rfl) (fun _ _ _ h => h) (Or.inl ⟨by rfl, ?_⟩) (by assumption) ?_
    rotate_left
    · intro w hSw; (try dsimp only at hSw); go_simp; (try with_reducible rfl)
    try simp only [Act.put, List.setIfInBounds_toArray, List.set_cons_zero, List.set_cons_succ]
    refine wpAnyK_take (i := 4) (oi := _) (v := ?_) rfl (by kernel_rfl) (by kernel_rfl) (by kernel_rfl) (by kernel_rfl) (fun _ _ _ h => h) (Or.inl ⟨by rfl, ?_⟩) (by assumption) ?_
    rotate_left
    · intro w hSw; (try dsimp only at hSw); go_simp; (try with_reducible rfl)
    try simp only [Act.put, List.setIfInBounds_toArray, List.set_cons_zero, List.set_cons_succ]
    refine wpAnyK_take (i := 5) (oi := _) (v := ?_) rfl (by kernel_rfl) (by kernel_rfl) (by kernel_rfl) (by kernel_rfl) (fun _ _ _ h => h) (Or.inl ⟨by rfl, ?_⟩) (by assumption) ?_
    rotate_left
    · intro w hSw; (try dsimp only at hSw); go_simp; (try with_reducible rfl)
    try simp only [Act.put, List.setIfInBounds_toArray, List.set_cons_zero, List.set_cons_succ]
    refine wpAnyK_take (i := 7) (oi := _) (v := ?_) rfl (by kernel_rfl) (by kernel_rfl) (by kernel_rfl) (by kernel_rfl) (fun _ _ _ h => h) (Or.inl ⟨by rfl, ?_⟩) (by assumption) ?_
    rotate_left
    · intro w hSw; (try dsimp only at hSw); go_simp; (try with_reducible rfl)
    try simp only [Act.put, List.setIfInBounds_toArray, List.set_cons_zero, List.set_cons_succ]
    refine wpAnyK_take (i := 8) (oi := _) (v := ?_) rfl (by kernel_rfl) (by kernel_rfl) (by kernel_rfl) (by kernel_rfl) (fun _ _ _ h => h) (Or.inl ⟨by rfl, ?_⟩) (by assumption) ?_
    rotate_left
    · intro w hSw; (try dsimp only at hSw); go_simp; (try with_reducible rfl)
    try simp only [Act.put, List.setIfInBounds_toArray, List.set_cons_zero, List.set_cons_succ]
    refine wpAnyK_take (i := 10) (oi := _) (v := ?_) rfl (by kernel_rfl) (by kernel_rfl) (by kernel_rfl) (by kernel_rfl) (fun _ _ _ h => h) (Or.inl ⟨by rfl, ?_⟩) (by assumption) ?_
    rotate_left
    · intro w hSw; (try dsimp only at hSw); go_simp; (try with_reducible rfl)
    try simp only [Act.put, List.setIfInBounds_toArray, List.set_cons_zero, List.set_cons_succ]
    refine wpAnyK_take (i := 11) (oi := _) (v := ?_) rfl (by kernel_rfl) (by kernel_rfl) (by kernel_rfl) (by kernel_rfl) (fun _ _ _ h => h) (Or.inl ⟨by rfl, ?_⟩) (by assumption) ?_
    rotate_left
    · intro w hSw; (try dsimp only at hSw); go_simp; (try with_reducible rfl)
    try simp only [Act.put, List.setIfInBounds_toArray, List.set_cons_zero, List.set_cons_succ]
    refine wpAnyK_one (i := 3) (o := _) (by kernel_rfl) rfl (fun K hK => ?_)
    go_simp
    (go_at_call 25; (with_reducible refine ((unhide hA1) _).mono ?_); rintro e w' ⟨rfl, rfl⟩; go_wp2_with fail)
    refine hK.out _ _ (by with_reducible exact hHeld) (fun hHeld => ?_)
    clear hK K
    try simp only [Act.put, List.setIfInBounds_toArray, List.set_cons_zero, List.set_cons_succ]
    refine wpAnyK_one (i := 6) (o := _) (by kernel_rfl) rfl (fun K hK => ?_)
    go_simp
    (go_at_call 26; (with_reducible refine ((unhide hA2) _).mono ?_); rintro e w' ⟨rfl, rfl⟩; go_wp2_with fail)
    refine hK.out _ _ (by with_reducible exact hHeld) (fun hHeld => ?_)
    clear hK K
    try simp only [Act.put, List.setIfInBounds_toArray, List.set_cons_zero, List.set_cons_succ]
    refine wpAnyK_one (i := 9) (o := _) (by kernel_rfl) rfl (fun K hK => ?_)
    go_simp
    (go_at_call 27; (with_reducible refine ((unhide hN1) _).mono ?_); rintro e w3 ⟨lo', hi', rfl, hl1, hb3⟩; have HL1 := hide hl1; clear hl1; go_wp2_with fail)
    refine hK.out _ _ (by with_reducible exact s7_of (K7.below hHeld.2.2.2.2.2.2.2.2.2.2.2.2.2.2.2.2.2.2 hb3)) (fun hHeld => ?_)
    clear hK K
    try simp only [Act.put, List.setIfInBounds_toArray, List.set_cons_zero, List.set_cons_succ]
    refine wpAnyK_one (i := 12) (o := _) (by kernel_rfl) rfl (fun K hK => ?_)
    go_simp
    (go_at_call 28; (with_reducible refine ((unhide hN2) _).mono ?_); rintro e w4 ⟨a', b', c', d', rfl, hl2, hb4⟩; have HL2 := hide hl2; clear hl2; go_wp2_with fail)
    refine hK.out _ _ (by with_reducible exact s7_of (K7.below hHeld.2.2.2.2.2.2.2.2.2.2.2.2.2.2.2.2.2.2 hb4)) (fun hHeld => ?_)
    clear hK K
    try simp only [Act.put, List.setIfInBounds_toArray, List.set_cons_zero, List.set_cons_succ]
    refine wpAnyK_take (i := 13) (oi := _) (v := ?_) rfl (by kernel_rfl) (by kernel_rfl) (by kernel_rfl) (by kernel_rfl) (fun _ _ _ h => h) (Or.inl ⟨by rfl, ?_⟩) (by assumption) ?_
    rotate_left
    · intro w hSw; (try dsimp only at hSw); go_simp; (try with_reducible rfl)
    try simp only [Act.put, List.setIfInBounds_toArray, List.set_cons_zero, List.set_cons_succ]
    refine wpAnyK_end (o := _) (by kernel_rfl) rfl (fun K hK => ?_)
    go_simp
    refine hK.out _ _ ?_
    clear hK K
    refine wpAnyK_done (by kernel_rfl) ?_ _
    refine NoPanic.normal ?_
    all_goals
      go_wp2_with fail
      go_meet
      exact (unhide hPost) _ _ _ _ _ _ _ (unhide HL1) (unhide HL2) hHeld.2.2.2.2.2.2.2.2.2.2.2.2.2.2.2.2.2.2.1 hHeld.2.2.2.2.2.2.2.2.2.2.2.2.2.2.2.2.2.2.2
  case rest =>
    obtain ⟨lo', hi', a', b', c', d', h1, h2, kc, hbc⟩ := hcut
    have hw := (unhide hW) wc lo' hi' a' b' c' d' h1 h2
    have HWC := hide hw
    have k0c := k02.below' hbc (by omega)
    have k1c := k12.below' hbc (by omega)
    have hBc := hB2.trans (hbc.mono (by omega))
    obtain ⟨c0, c1, c2, c3, c4, c5, c6, c7, c8, f0, f1, f2, f3, f4, f5, f6, f7, f8⟩ := blk_nine kc
    clear hw h1 h2 hbc hD hW hA1 hA2 hN1 hN2 k8 k02 k12 hB2 kc
    go_wp2_with fail
    refine (unhide HWC).mono ?_
    rintro e w5 ⟨x, rfl, hx, hb5, hnew⟩
    have k05 := k0c.below hb5
    have k15 := k1c.below hb5
    have hB5 := below_tr hBc hb5 hBc.size
    obtain ⟨A5, c5', rfl, _⟩ := id hx
    have y0 := k05.cell 0
    have y1 := k15.cell 0
    have yf0 := k05.frozen 0
    have yf1 := k15.frozen 0
    simp at y0 y1
    have hszc := k1c.lt
    have hfin := hide (pun_fin hx k05 k15 hB5 hnew (by omega))
    have z0 := blk_one0 k05 k15
    clear c0 f0 c1 f1 c2 f2 c3 f3 c4 f4 c5 f5 c6 f6 c7 f7 c8 f8 HWC k0c k1c hBc hx hb5
    go_wp2_with fail
    have HF := hide (unhide hfin)
    refine leaves_cons (f := 23) (args := #[.pointer (some ⟨w.heap.size, 0, none⟩), .pointer (some ⟨w.heap.size + 1, 0, none⟩)]) (by simp) (by simp [go_sem]) ?_
    refine (idle23 ⟨w.heap.size, 0, none⟩ ⟨w.heap.size + 1, 0, none⟩ _).mono ?_
    rintro e u' w'' ⟨rfl, rfl, rfl⟩
    refine ⟨.tuple #[.slice A5 res.length c5', .bool true], ?_, unhide HF⟩
    obtain ⟨z1, z2⟩ := z0 (.slice A5 res.length c5') (.bool true)
    simp [settle, results, Try.results6, go_sem, z1, z2]
def P7Abs (w2 : World) (g8 : Nat) (width x32 x64 : Int) (l1 l2 : List Int) (wx : World) : Prop :=
  ∃ lo' hi' a' b' c' d', l1 = [lo', IntKind.u64.wrap hi'] ∧ l2 = [a', b', c', d'] ∧ Blk wx g8 62 #[.int .i64 width, .int .i32 x32, .int .i64 x64, .int .u64 lo', .int .i64 hi', .int .u64 a', .int .u64 b', .int .u64 c', .int .u64 d'] ∧ Below g8 w2 wx
theorem p7Abs_of {w2 W : World} {g8 : Nat} {width d32 d64 x32 x64 lo hi a b c d lo' hi' a' b' c' d' : Int} {l1 l2 : List Int} (hg : g8 < w2.heap.size) (h1 : l1 = [lo', IntKind.u64.wrap hi']) (h2 : l2 = [a', b', c', d']) (hk : Blk W g8 62 #[.int .i64 width, .int .i32 d32, .int .i64 d64, .int .u64 lo, .int .i64 hi, .int .u64 a, .int .u64 b, .int .u64 c, .int .u64 d]) (hb : Below w2.heap.size w2 W) :
    P7Abs w2 g8 width x32 x64 l1 l2 (((((((((W.setCell ⟨g8, 0, none⟩ (.int .i64 width)).setCell ⟨g8, 1, none⟩ (.int .i32 x32)).setCell ⟨g8, 2, none⟩ (.int .i64 x64)).setCell ⟨g8, 3, none⟩ (.int .u64 lo')).setCell ⟨g8, 4, none⟩ (.int .i64 hi')).setCell ⟨g8, 5, none⟩ (.int .u64 a')).setCell ⟨g8, 6, none⟩ (.int .u64 b')).setCell ⟨g8, 7, none⟩ (.int .u64 c')).setCell ⟨g8, 8, none⟩ (.int .u64 d')) := by
  refine ⟨lo', hi', a', b', c', d', h1, h2, ?_, ?_⟩
  · have := ((((((((hk.set 0 (.int .i64 width)).set 1 (.int .i32 x32)).set 2 (.int .i64 x64)).set 3 (.int .u64 lo')).set 4 (.int .i64 hi')).set 5 (.int .u64 a')).set 6 (.int .u64 b')).set 7 (.int .u64 c')).set 8 (.int .u64 d')
    exact this.cast (by simp)
  · have hb' : Below g8 w2 W := hb.mono (by omega)
    exact ((((((((hb'.setCell (Nat.le_refl _) _).setCell (Nat.le_refl _) _).setCell (Nat.le_refl _) _).setCell (Nat.le_refl _) _).setCell (Nat.le_refl _) _).setCell (Nat.le_refl _) _).setCell (Nat.le_refl _) _).setCell (Nat.le_refl _) _).setCell (Nat.le_refl _) _
set_option maxRecDepth 100000 in
set_option maxHeartbeats 40000000 in
theorem decAbs_of (w : World) (v : Value) (width d32 d64 lo hw a b c d : Int) (h0 : 0 ≤ lo) (h1 : lo < 18446744073709551616) (h2 : 0 ≤ hw) (h3 : hw < 18446744073709551616) (hs : Sm64 [a, b, c, d]) (res : List Int)
    (hdec : ∀ W : World, Below w.heap.size w W → Calls Try.prog 24 #[.int .i64 width, v] W (PDec W (decV width d32 d64 lo (wrap64 hw) a b c d)))
    (hwords : ∀ (W : World) (lo' hi' a' b' c' d' : Int), (if wrap64 hw < 0 then negl [lo, hw] 1 else [lo, hw]) = [lo', IntKind.u64.wrap hi'] → (if 9223372036854775808 ≤ d then negl [a, b, c, d] 1 else [a, b, c, d]) = [a', b', c', d'] → Calls Try.prog 33 #[decV width (if d32 < 0 then wrap32 (-d32) else d32) (if d64 < 0 then wrap64 (-d64) else d64) lo' hi' a' b' c' d'] W (PWords W res)) :
    Calls Try.prog 6 #[.int .i64 width, .int .i64 1, v] w (PUn w res) := by
  have hD := hide hdec
  have hW := hide hwords
  have hN1 := hide (fun (W : World) => abs128_any W lo hw h0 h1 h2 h3)
  have hN2 := hide (fun (W : World) => abs256_any W a b c d hs)
  clear hdec hwords h0 h1 h2 h3 hs
  have hA1 := hide (fun (W : World) => abs32_any W d32)
  have hA2 := hide (fun (W : World) => abs64_any W d64)
  unfold decV at hD hW
  generalize (if d32 < 0 then wrap32 (-d32) else d32) = x32 at *
  generalize (if d64 < 0 then wrap64 (-d64) else d64) = x64 at *
  generalize hl1 : (if wrap64 hw < 0 then negl [lo, hw] 1 else [lo, hw]) = l1 at *
  generalize hl2 : (if 9223372036854775808 ≤ d then negl [a, b, c, d] 1 else [a, b, c, d]) = l2 at *
  clear hl1 hl2
  generalize wrap64 hw = hi at *
  go_enter_defers Try.func6, Try.ntmps6
  go_wp2_with fail
  refine ((unhide hD) _ (((Below.refl _ _).alloc (Nat.le_refl _) _).alloc (by simp) _)).mono ?_
  rintro e w1 ⟨rfl, hb1⟩
  have k0 : Blk w1 w.heap.size 22 #[.slice none 0 0] := (((Blk.new (w := w) (g := w.heap.size) 22 _ rfl).alloc _).below hb1)
  have k1 : Blk w1 (w.heap.size + 1) 4 #[.bool false] := ((Blk.new (w := w.alloc _) (g := w.heap.size + 1) 4 _ (by simp)).below hb1)
  go_upto_block 0 with (fail)
  have k8 := Blk.new (w := w1) (g := w1.heap.size) 62 #[.int .i64 width, .int .i32 d32, .int .i64 d64, .int .u64 lo, .int .i64 hi, .int .u64 a, .int .u64 b, .int .u64 c, .int .u64 d] rfl
  have k02 := k0.alloc (.cells #[.int .i64 width, .int .i32 d32, .int .i64 d64, .int .u64 lo, .int .i64 hi, .int .u64 a, .int .u64 b, .int .u64 c, .int .u64 d] 62)
  have k12 := k1.alloc (.cells #[.int .i64 width, .int .i32 d32, .int .i64 d64, .int .u64 lo, .int .i64 hi, .int .u64 a, .int .u64 b, .int .u64 c, .int .u64 d] 62)
  have hB1 : Below w.heap.size w w1 := below_tr (((Below.refl w.heap.size w).alloc (Nat.le_refl _) _).alloc (by simp) _) hb1 (by simp; omega)
  have hB2 := hB1.alloc hB1.size (.cells #[.int .i64 width, .int .i32 d32, .int .i64 d64, .int .u64 lo, .int .i64 hi, .int .u64 a, .int .u64 b, .int .u64 c, .int .u64 d] 62)
  have hg1 : w.heap.size + 1 < w1.heap.size := k1.lt
  generalize (w1.alloc (.cells #[.int .i64 width, .int .i32 d32, .int .i64 d64, .int .u64 lo, .int .i64 hi, .int .u64 a, .int .u64 b, .int .u64 c, .int .u64 d] 62)) = w2 at k8 k02 k12 hB2 ⊢
  generalize w1.heap.size = g8 at k8 hg1 ⊢
  have hg8 := k8.lt
  clear k0 k1 hB1 hb1
  go_cut [41] from 16 to 57 (fun v41 wx => P7Abs w2 g8 width x32 x64 l1 l2 wx)
  case first =>
    have hPost := hide (fun (W : World) lo' hi' a' b' c' d' h1 h2 hk hb => p7Abs_of (w2 := w2) (W := W) (g8 := g8) (width := width) (d32 := d32) (d64 := d64) (x32 := x32) (x64 := x64) (lo := lo) (hi := hi) (a := a) (b := b) (c := c) (d := d) (lo' := lo') (hi' := hi') (a' := a') (b' := b') (c' := c') (d' := d') (l1 := l1) (l2 := l2) hg8 h1 h2 hk hb)
    obtain ⟨p0, p1, p2, p3, p4, p5, p6, p7, p8, _⟩ := blk_nine k8
    clear hD hW k02 k12 hB2
    go_upto_region 3 with (fail)
    have hk7 : K7 w2 g8 #[.int .i64 width, .int .i32 d32, .int .i64 d64, .int .u64 lo, .int .i64 hi, .int .u64 a, .int .u64 b, .int .u64 c, .int .u64 d] w2 := ⟨k8, Below.refl _ _⟩
    refine wp_region_noPanic ?_
    refine wp_region_K (S := fun w => w.cell? ⟨g8, 0, none⟩ = some (.int .i64 width) ∧ w.cell? ⟨g8, 1, none⟩ = some (.int .i32 d32) ∧ w.cell? ⟨g8, 2, none⟩ = some (.int .i64 d64) ∧ w.cell? ⟨g8, 3, none⟩ = some (.int .u64 lo) ∧ w.cell? ⟨g8, 4, none⟩ = some (.int .i64 hi) ∧ w.cell? ⟨g8, 5, none⟩ = some (.int .u64 a) ∧ w.cell? ⟨g8, 6, none⟩ = some (.int .u64 b) ∧ w.cell? ⟨g8, 7, none⟩ = some (.int .u64 c) ∧ w.cell? ⟨g8, 8, none⟩ = some (.int .u64 d) ∧ w.frozen? ⟨g8, 0, none⟩ = false ∧ w.frozen? ⟨g8, 1, none⟩ = false ∧ w.frozen? ⟨g8, 2, none⟩ = false ∧ w.frozen? ⟨g8, 3, none⟩ = false ∧ w.frozen? ⟨g8, 4, none⟩ = false ∧ w.frozen? ⟨g8, 5, none⟩ = false ∧ w.frozen? ⟨g8, 6, none⟩ = false ∧ w.frozen? ⟨g8, 7, none⟩ = false ∧ w.frozen? ⟨g8, 8, none⟩ = false ∧ K7 w2 g8 #[.int .i64 width, .int .i32 d32, .int .i64 d64, .int .u64 lo, .int .i64 hi, .int .u64 a, .int .u64 b, .int .u64 c, .int .u64 d] w) (k := 14) (by kernel_rfl) (by with_reducible exact s7_of hk7.drew) (fun hHeld => ?_)
    refine wpAnyK_take (i := 0) (oi := _) (v := ?_) rfl (by kernel_rfl) (by kernel_rfl) (by kernel_rfl) (by kernel_rfl) (fun _ _ _ h => h) (Or.inl ⟨by rfl, ?_⟩) (by assumption) ?_
    rotate_left
    · intro w hSw; (try dsimp only at hSw); go_simp; (try with_reducible rfl)
    try simp only [Act.put, List.setIfInBounds_toArray, List.set_cons_zero, List.set_cons_succ]
    refine wpAnyK_take (i := 1) (oi := _) (v := ?_) rfl (by kernel_rfl) (by kernel_rfl) (by kernel_rfl) (by kernel_rfl) (fun _ _ _ h => h) (Or.inl ⟨by rfl, ?_⟩) (by assumption) ?_
    rotate_left
    · intro w hSw; (try dsimp only at hSw); go_simp; (try with_reducible rfl)
    try simp only [Act.put, List.setIfInBounds_toArray, List.set_cons_zero, List.set_cons_succ]
    refine wpAnyK_take (i := 2) (oi := _) (v := ?_) rfl (by kernel_rfl) (by kernel_rfl) (by kernel_rfl) (by kernel_rfl) (fun _ _ _ h => h) (Or.inl ⟨by rfl, ?_⟩) (by assumption) ?_
    rotate_left
    · intro w hSw; (try dsimp only at hSw); go_simp; (try with_reducible rfl)
    try simp only [Act.put, List.setIfInBounds_toArray, List.set_cons_zero, List.set_cons_succ]
    refine wpAnyK_take (i := 4) (oi := _) (v := ?_) rfl (by kernel_rfl) (by kernel_rfl) (by kernel_rfl) (by kernel_rfl) (fun _ _ _ h => h) (Or.inl ⟨by rfl, ?_⟩) (by assumption) ?_
    rotate_left
    · intro w hSw; (try dsimp only at hSw); go_simp; (try with_reducible rfl)
    try simp only [Act.put, List.setIfInBounds_toArray, List.set_cons_zero, List.set_cons_succ]
    refine wpAnyK_take (i := 5) (oi := _) (v := ?_) rfl (by kernel_rfl) (by kernel_rfl) (by kernel_rfl) (by kernel_rfl) (fun _ _ _ h => h) (Or.inl ⟨by rfl, ?_⟩) (by assumption) ?_
    rotate_left
    · intro w hSw; (try dsimp only at hSw); go_simp; (try with_reducible rfl)
    try simp only [Act.put, List.setIfInBounds_toArray, List.set_cons_zero, List.set_cons_succ]
    refine wpAnyK_take (i := 7) (oi := _) (v := ?_) rfl (by kernel_rfl) (by kernel_rfl) (by kernel_rfl) (by kernel_rfl) (fun _ _ _ h => h) (Or.inl ⟨by rfl, ?_⟩) (by assumption) ?_
    rotate_left
    · intro w hSw; (try dsimp only at hSw); go_simp; (try with_reducible rfl)
    try simp only [Act.put, List.setIfInBounds_toArray, List.set_cons_zero, List.set_cons_succ]
    refine wpAnyK_take (i := 8) (oi := _) (v := ?_) rfl (by kernel_rfl) (by kernel_rfl) (by kernel_rfl) (by kernel_rfl) (fun _ _ _ h => h) (Or.inl ⟨by rfl, ?_⟩) (by assumption) ?_
    rotate_left
    · intro w hSw; (try dsimp only at hSw); go_simp; (try with_reducible rfl)
    try simp only [Act.put, List.setIfInBounds_toArray, List.set_cons_zero, List.set_cons_succ]
    refine wpAnyK_take (i := 10) (oi := _) (v := ?_) rfl (by kernel_rfl) (by kernel_rfl) (by kernel_rfl) (by kernel_rfl) (fun _ _ _ h => h) (Or.inl ⟨by rfl, ?_⟩) (by assumption) ?_
    rotate_left
    · intro w hSw; (try dsimp only at hSw); go_simp; (try with_reducible rfl)
    try simp only [Act.put, List.setIfInBounds_toArray, List.set_cons_zero, List.set_cons_succ]
    refine wpAnyK_take (i := 11) (oi := _) (v := ?_) rfl (by kernel_rfl) (by kernel_rfl) (by kernel_rfl) (by kernel_rfl) (fun _ _ _ h => h) (Or.inl ⟨by rfl, ?_⟩) (by assumption) ?_
    rotate_left
    · intro w hSw; (try dsimp only at hSw); go_simp; (try with_reducible rfl)
    try simp only [Act.put, List.setIfInBounds_toArray, List.set_cons_zero, List.set_cons_succ]
    refine wpAnyK_one (i := 3) (o := _) (by kernel_rfl) rfl (fun K hK => ?_)
    go_simp
    (go_at_call 29; (with_reducible refine ((unhide hA1) _).mono ?_); rintro e w' ⟨rfl, rfl⟩; go_wp2_with fail)
    refine hK.out _ _ (by with_reducible exact hHeld) (fun hHeld => ?_)
    clear hK K
    try simp only [Act.put, List.setIfInBounds_toArray, List.set_cons_zero, List.set_cons_succ]
    refine wpAnyK_one (i := 6) (o := _) (by kernel_rfl) rfl (fun K hK => ?_)
    go_simp
    (go_at_call 30; (with_reducible refine ((unhide hA2) _).mono ?_); rintro e w' ⟨rfl, rfl⟩; go_wp2_with fail)
    refine hK.out _ _ (by with_reducible exact hHeld) (fun hHeld => ?_)
    clear hK K
    try simp only [Act.put, List.setIfInBounds_toArray, List.set_cons_zero, List.set_cons_succ]
    refine wpAnyK_one (i := 9) (o := _) (by kernel_rfl) rfl (fun K hK => ?_)
    go_simp
    (go_at_call 31; (with_reducible refine ((unhide hN1) _).mono ?_); rintro e w3 ⟨lo', hi', rfl, hl1, hb3⟩; have HL1 := hide hl1; clear hl1; go_wp2_with fail)
    refine hK.out _ _ (by with_reducible exact s7_of (K7.below hHeld.2.2.2.2.2.2.2.2.2.2.2.2.2.2.2.2.2.2 hb3)) (fun hHeld => ?_)
    clear hK K
    try simp only [Act.put, List.setIfInBounds_toArray, List.set_cons_zero, List.set_cons_succ]
    refine wpAnyK_one (i := 12) (o := _) (by kernel_rfl) rfl (fun K hK => ?_)
    go_simp
    (go_at_call 32; (with_reducible refine ((unhide hN2) _).mono ?_); rintro e w4 ⟨a', b', c', d', rfl, hl2, hb4⟩; have HL2 := hide hl2; clear hl2; go_wp2_with fail)
    refine hK.out _ _ (by with_reducible exact s7_of (K7.below hHeld.2.2.2.2.2.2.2.2.2.2.2.2.2.2.2.2.2.2 hb4)) (fun hHeld => ?_)
    clear hK K
    try simp only [Act.put, List.setIfInBounds_toArray, List.set_cons_zero, List.set_cons_succ]
    refine wpAnyK_take (i := 13) (oi := _) (v := ?_) rfl (by kernel_rfl) (by kernel_rfl) (by kernel_rfl) (by kernel_rfl) (fun _ _ _ h => h) (Or.inl ⟨by rfl, ?_⟩) (by assumption) ?_
    rotate_left
    · intro w hSw; (try dsimp only at hSw); go_simp; (try with_reducible rfl)
    try simp only [Act.put, List.setIfInBounds_toArray, List.set_cons_zero, List.set_cons_succ]
    refine wpAnyK_end (o := _) (by kernel_rfl) rfl (fun K hK => ?_)
    go_simp
    refine hK.out _ _ ?_
    clear hK K
    refine wpAnyK_done (by kernel_rfl) ?_ _
    refine NoPanic.normal ?_
    all_goals
      go_wp2_with fail
      go_meet
      exact (unhide hPost) _ _ _ _ _ _ _ (unhide HL1) (unhide HL2) hHeld.2.2.2.2.2.2.2.2.2.2.2.2.2.2.2.2.2.2.1 hHeld.2.2.2.2.2.2.2.2.2.2.2.2.2.2.2.2.2.2.2
  case rest =>
    obtain ⟨lo', hi', a', b', c', d', h1, h2, kc, hbc⟩ := hcut
    have hw := (unhide hW) wc lo' hi' a' b' c' d' h1 h2
    have HWC := hide hw
    have k0c := k02.below' hbc (by omega)
    have k1c := k12.below' hbc (by omega)
    have hBc := hB2.trans (hbc.mono (by omega))
    obtain ⟨c0, c1, c2, c3, c4, c5, c6, c7, c8, f0, f1, f2, f3, f4, f5, f6, f7, f8⟩ := blk_nine kc
    clear hw h1 h2 hbc hD hW hA1 hA2 hN1 hN2 k8 k02 k12 hB2 kc
    go_wp2_with fail
    refine (unhide HWC).mono ?_
    rintro e w5 ⟨x, rfl, hx, hb5, hnew⟩
    have k05 := k0c.below hb5
    have k15 := k1c.below hb5
    have hB5 := below_tr hBc hb5 hBc.size
    obtain ⟨A5, c5', rfl, _⟩ := id hx
    have y0 := k05.cell 0
    have y1 := k15.cell 0
    have yf0 := k05.frozen 0
    have yf1 := k15.frozen 0
    simp at y0 y1
    have hszc := k1c.lt
    have hfin := hide (pun_fin hx k05 k15 hB5 hnew (by omega))
    have z0 := blk_one0 k05 k15
    clear c0 f0 c1 f1 c2 f2 c3 f3 c4 f4 c5 f5 c6 f6 c7 f7 c8 f8 HWC k0c k1c hBc hx hb5
    go_wp2_with fail
    have HF := hide (unhide hfin)
    refine leaves_cons (f := 23) (args := #[.pointer (some ⟨w.heap.size, 0, none⟩), .pointer (some ⟨w.heap.size + 1, 0, none⟩)]) (by simp) (by simp [go_sem]) ?_
    refine (idle23 ⟨w.heap.size, 0, none⟩ ⟨w.heap.size + 1, 0, none⟩ _).mono ?_
    rintro e u' w'' ⟨rfl, rfl, rfl⟩
    refine ⟨.tuple #[.slice A5 res.length c5', .bool true], ?_, unhide HF⟩
    obtain ⟨z1, z2⟩ := z0 (.slice A5 res.length c5') (.bool true)
    simp [settle, results, Try.results6, go_sem, z1, z2]
end Go.Proofs.Ytajjnlneacoooaa
