/- Slices that are read, rows that the call made, append, make, a law's last step: for all proofs of this seat. -/
import Derived.Test.YtconkcjcjdmidaaGreatDoorL
import Derived.Deep.AppendSrc
import Derived.Carry
import Derived.WideKeyArgs
import Derived.Deep.Grids
import Derived.Lib.LaidTab
set_option linter.unusedVariables false
set_option linter.unusedSimpArgs false
namespace Go.Proofs.YtconkcjcjdmidaaGreatDoor
open Go.RowKit Go.ChangeShapes Go.WideShapes Go.ChangeAt

/-! ### slices that are read -/
def Sl (w : World) (B : Nat) (A : Option Addr) (n : Nat) (xs : List Value) : Prop :=
  xs.length = n ∧ (0 < n → ∃ b off, A = some ⟨b, off, none⟩ ∧ b < B ∧ ∀ j u, xs[j]? = some u → w.cell? ⟨b, off + j, none⟩ = some u)
theorem Sl.mod {w w' : World} {B : Nat} {A : Option Addr} {n : Nat} {xs : List Value} {S : List Nat} (h : Sl w B A n xs) (hm : Mod S w w') (hS : ∀ x ∈ S, B ≤ x) : Sl w' B A n xs :=
  ⟨h.1, fun hn => by
    obtain ⟨b, off, e, hb, hc⟩ := h.2 hn
    exact ⟨b, off, e, hb, fun j u hu => hm.cell (hc j u hu) (fun hx => by have := hS _ hx; simp at this; omega)⟩⟩
theorem Sl.mono {w : World} {B B' : Nat} {A : Option Addr} {n : Nat} {xs : List Value} (h : Sl w B A n xs) (hB : B ≤ B') : Sl w B' A n xs :=
  ⟨h.1, fun hn => by
    obtain ⟨b, off, e, hb, hc⟩ := h.2 hn
    exact ⟨b, off, e, by omega, hc⟩⟩
theorem Sl.at_ {w : World} {B : Nat} {A : Option Addr} {n : Nat} {xs : List Value} (h : Sl w B A n xs) {k : Nat} (hk : k < n) :
    ∃ b off u, A = some ⟨b, off, none⟩ ∧ b < B ∧ xs[k]? = some u ∧ w.cell? ⟨b, off + k, none⟩ = some u := by
  obtain ⟨b, off, e, hb, hc⟩ := h.2 (by omega)
  have hl : k < xs.length := by have := h.1; omega
  exact ⟨b, off, xs[k], e, hb, List.getElem?_eq_getElem hl, hc k _ (List.getElem?_eq_getElem hl)⟩
theorem Sl.nil_ (w : World) (B : Nat) (A : Option Addr) : Sl w B A 0 [] := ⟨rfl, fun h => absurd h (by omega)⟩
theorem Sl.take {w : World} {B : Nat} {A : Option Addr} {n : Nat} {xs : List Value} (h : Sl w B A n xs) {m : Nat} (hm : m ≤ n) : Sl w B A m (xs.take m) :=
  ⟨by rw [List.length_take, h.1]; omega, fun hn => by
    obtain ⟨b, off, e, hb, hc⟩ := h.2 (by omega)
    refine ⟨b, off, e, hb, fun j u hu => hc j u ?_⟩
    rw [List.getElem?_take] at hu
    split at hu
    · exact hu
    · cases hu⟩
theorem Sl.src {P : Program} {w : World} {B : Nat} {A : Option Addr} {n c : Nat} {xs : List Value} {tx e : TypeId} (h : Sl w B A n xs) (hk : P.underlying tx = some (.slice e)) (h1 : ∀ u ∈ xs, u.oneCell' = true) :
    Src P 1 tx (.slice A n c) n xs w := by
  rcases Nat.eq_zero_or_pos n with rfl | hn
  · obtain rfl : xs = [] := List.eq_nil_of_length_eq_zero h.1
    cases A with
    | none => exact Src.ofNil w hk c
    | some a => exact Src.ofSlice w hk a 0 c [] rfl (by simp) (by simp)
  · obtain ⟨b, off, rfl, _, hc⟩ := h.2 hn
    refine Src.ofSlice w hk ⟨b, off, none⟩ n c xs (by simpa using h.1) (fun j u hu => ?_) h1
    have : (⟨b, off, none⟩ : Addr).add j = ⟨b, off + j, none⟩ := by unfold Addr.add; split <;> simp_all
    rw [this]; exact hc j u hu

/-! ### rows that the call made -/
theorem own_sl {w : World} {base B : Nat} {e : TypeId} {g n cap : Nat} {xs : List Value} (h : w.ownsRow base e 1 (.slice (some ⟨g, 0, none⟩) n cap) n xs) (hg : g < B) : Sl w B (some ⟨g, 0, none⟩) n xs :=
  ⟨by simpa using h.1, fun hn => ⟨g, 0, rfl, hg, fun j u hu => by
    have := h.cells (g := g) rfl j u hu
    have e : (⟨g, 0, none⟩ : Addr).add j = ⟨g, 0 + j, none⟩ := by unfold Addr.add; split <;> simp_all
    rwa [e] at this⟩⟩
theorem own_mod {w w' : World} {base : Nat} {e : TypeId} {size n : Nat} {v : Value} {xs : List Value} {S : List Nat} (h : w.ownsRow base e size v n xs) (hm : Mod S w w') (hS : ∀ g, v.ownBlock = some g → g ∉ S) : w'.ownsRow base e size v n xs := by
  refine ⟨h.1, ?_⟩
  rcases h.2 with h2 | ⟨g, cap, cur, rfl, hb, hh, r⟩
  · exact .inl h2
  · exact .inr ⟨g, cap, cur, rfl, hb, (hm.block g (Array.getElem?_eq_some_iff.1 hh).1 (hS g rfl)).trans hh, r⟩
theorem append_own {P : Program} {w : World} (base : Nat) (t tx ty e : TypeId) (i : TypeInfo) (z : Value) (bytes : Nat) (ht : P.underlying t = some (.slice e)) (hi : P.info? e = some i) (hz : i.zero = some z)
    (hsize : i.size = 1) (hby : i.bytes = bytes) (hzs : z.cells.size = 1) {v : Value} {n : Nat} {xs : List Value} (hown : w.ownsRow base e 1 v n xs)
    {x : Value} {m : Nat} {news : List Value} (hs : Src P 1 tx x m news w) (hbytes : (n + m) * bytes ≤ 140737488355328) (h63 : n + m ≤ 9223372036854775807) (hbase : base ≤ w.heap.size) :
    ∃ v' w', (Builtin.append_ #[t, tx] ty #[v, x]).run P w = .ok v' w' ∧ w'.ownsRow base e 1 v' (n + m) (xs ++ news) ∧ w.grownBy w' v.ownBlock ∧ (v' = .slice none 0 0 ↔ v = .slice none 0 0 ∧ m = 0) := by
  subst hby
  have hl : news.length = m := by have := hs.newsLen; omega
  have hlen : (xs ++ news).length = (n + m) * 1 := by rw [List.length_append, hown.1, hl]; omega
  have hmax : maxLen = 9223372036854775807 := rfl
  have hs' : Src P i.size tx x m news w := by rw [hsize]; exact hs
  have grown : ∀ (old : Nat), old < n + m → ∀ (row : Option Nat),
      (w.drew.alloc (.cells ((xs ++ news).toArray ++ Builtin.zeroCells z.cells (grownCap w (n + m) old e - (n + m))) e)).ownsRow base e 1
        (.slice (some ⟨w.heap.size, 0, none⟩) (n + m) (grownCap w (n + m) old e)) (n + m) (xs ++ news) ∧
      w.grownBy (w.drew.alloc (.cells ((xs ++ news).toArray ++ Builtin.zeroCells z.cells (grownCap w (n + m) old e - (n + m))) e)) row := by
    intro old ho row
    have hge := grownCap_ge w (n + m) old e
    have hcm : grownCap w (n + m) old e ≤ maxLen := grownCap_le_maxLen w (n + m) old e (by omega)
    refine ⟨⟨hlen, .inr ⟨w.heap.size, _, _, rfl, hbase, heap_alloc_new w.drew _, hge, hcm, ?_, ?_⟩⟩, ⟨rfl, rfl, rfl, by simp, fun k hk _ => Below.heap_alloc w.drew _ k hk⟩⟩
    · simp only [Array.size_append, List.size_toArray, size_zeroCells, hzs, hlen]
      omega
    · simp only [Array.toList_append]
      rw [← hlen]
      exact List.take_left
  rcases hown.2 with ⟨rfl, rfl⟩ | ⟨g, cap, cur, rfl, hbg, hg, hnc, hcm, hcs, htake⟩
  · have hx : xs = [] := List.eq_nil_of_length_eq_zero (by simpa using hown.1)
    subst hx
    by_cases hm : m = 0
    · subst hm
      have hn : news = [] := List.eq_nil_of_length_eq_zero (by simpa using hl)
      subst hn
      refine ⟨.slice none 0 0, w, ?_, World.ownsRow_nil w base e 1, ⟨rfl, rfl, rfl, Nat.le_refl _, fun _ _ _ => rfl⟩, by simp⟩
      have hlen := hs.len w
      have hcl := hs.cells
      rcases hs.kind with ⟨e', hk⟩ | hk <;> simp [Builtin.append_, run_underlying ht, run_underlying hk, sizeOf, typeInfo, hi, hlen, hsize, hcl]
    · have hr := run_append_grow_src (P := P) w t tx ty e i z ht hi hz none 0 0 [] (by simp [Builtin.firstCells]) x m news hs' (by omega) (by omega) (growslice_fits (by omega) hbytes)
      have hgr := grown 0 (by omega) (Value.ownBlock (.slice none 0 0))
      simp only [Nat.zero_add, List.nil_append] at hgr hr ⊢
      exact ⟨_, _, hr, hgr.1, hgr.2, by simp [hm]⟩
  · have hcs' : cur.size = cap := by omega
    by_cases hroom : n + m ≤ cap
    · have hfit : n + news.length ≤ cur.size := by omega
      have hcell : ∀ j, j < news.length → (w.cell? ⟨g, 0 + n * i.size + j, none⟩).isSome = true := fun j hj => by
        rw [hsize]
        have := cell_of_row w g (0 + n * 1 + j) cur e (0, 0) hg
        rw [this]
        simp; omega
      have hfr : ∀ j, j < news.length → w.frozen? ⟨g, 0 + n * i.size + j, none⟩ = false := fun j hj => by simp [World.frozen?, hg]
      have hst := run_storeCells_at P g n e news 0 cur w hg (by simpa using hfit) hs.one
      simp only [Nat.add_zero] at hst
      have hr : (Builtin.append_ #[t, tx] ty #[.slice (some ⟨g, 0, none⟩) n cap, x]).run P w =
          .ok (.slice (some ⟨g, 0, none⟩) (n + m) cap) (w.setRow g (cur.toList.take n ++ news ++ cur.toList.drop (n + news.length)).toArray) := by
        rcases hs.kind with ⟨e', hk⟩ | hk <;> simp [Builtin.append_, run_underlying ht, run_underlying hk, sizeOf, typeInfo, hi, hs.len, hroom, hs.cells, hsize, Addr.add_lit, hst]
      refine ⟨_, _, hr, ⟨hlen, .inr ⟨g, cap, _, rfl, hbg, setRow_heap w g cur _ e _ hg, hroom, hcm, ?_, ?_⟩⟩, ⟨rfl, rfl, rfl, by simp, fun k _ hk => setRow_other w g k _ (fun e => hk (by simp [Value.ownBlock, e]))⟩, by simp⟩
      · simp only [List.size_toArray, List.length_append, List.length_take, List.length_drop, Array.length_toList]
        omega
      · have : cur.toList.take n = xs := by simpa using htake
        rw [this, ← hlen]
        exact List.take_left
    · have holds : (Builtin.firstCells i.size n (.slice (some ⟨g, 0, none⟩) n cap)).run P w.drew = .ok xs.toArray w.drew := by
        rw [hsize]
        refine run_firstCells_some w.drew 1 n ⟨g, 0, none⟩ n cap xs hown.1 ?_
        intro j u hu
        exact hown.cells (g := g) rfl j u hu
      have hr := run_append_grow_src (P := P) w t tx ty e i z ht hi hz (some ⟨g, 0, none⟩) n cap xs holds x m news hs' (by omega) (by omega) (growslice_fits (by omega) hbytes)
      have hgr := grown cap (by omega) (Value.ownBlock (.slice (some ⟨g, 0, none⟩) n cap))
      exact ⟨_, _, hr, hgr.1, hgr.2, by simp⟩

theorem own_form {w : World} {base : Nat} {e : TypeId} {v : Value} {n : Nat} {xs : List Value} (h : w.ownsRow base e 1 v n xs) (hv : v ≠ .slice none 0 0) :
    ∃ g cap, v = .slice (some ⟨g, 0, none⟩) n cap ∧ base ≤ g ∧ g < w.heap.size ∧ n ≤ cap := by
  rcases h.2 with ⟨h1, _⟩ | ⟨g, cap, cur, rfl, hb, hh, hc, _⟩
  · exact absurd h1 hv
  · exact ⟨g, cap, rfl, hb, (Array.getElem?_eq_some_iff.1 hh).1, hc⟩
theorem bv_one (d : List Nat) : ∀ u ∈ bv d, u.oneCell' = true := by
  intro u hu
  simp only [bv, List.mem_map] at hu
  obtain ⟨x, _, rfl⟩ := hu
  rfl
/-- append([]byte{}, data...): a new row with the same bytes. -/
theorem copy_run {P : Program} (w : World) (t ty e : TypeId) (i : TypeInfo) (z : Value) (ht : P.underlying t = some (.slice e)) (hi : P.info? e = some i) (hz : i.zero = some z)
    (hsize : i.size = 1) (hby : i.bytes = 1) (hzs : z.cells.size = 1) (A : Option Addr) (c : Nat) (d : List Nat) {B : Nat} (hB : B ≤ w.heap.size) (hd : Sl w B A d.length (bv d)) (hn : d.length ≤ 140737488355328) :
    ∃ G cap w1, (Builtin.append_ #[t, t] ty #[.slice (some ⟨w.heap.size, 0, none⟩) 0 0, .slice A d.length c]).run P (w.alloc (.cells #[] e)) = .ok (.slice (some ⟨G, 0, none⟩) d.length cap) w1 ∧
      w1.ownsRow w.heap.size e 1 (.slice (some ⟨G, 0, none⟩) d.length cap) d.length (bv d) ∧ Mod [] w w1 ∧ w.heap.size ≤ G ∧ G < w1.heap.size ∧ d.length ≤ cap := by
  have h0 : (w.alloc (.cells #[] e)).ownsRow w.heap.size e 1 (.slice (some ⟨w.heap.size, 0, none⟩) 0 0) 0 [] := World.ownsRow_made w #[] 0 (Nat.le_refl _) (by simp [maxLen]) rfl
  have hm0 : Mod [] w (w.alloc (.cells #[] e)) := Mod.alloc (Mod.refl _ _) _
  have hsrc : Src P 1 t (.slice A d.length c) d.length (bv d) (w.alloc (.cells #[] e)) := Sl.src (hd.mod hm0 (by simp)) ht (bv_one d)
  obtain ⟨v1, w1, hrun, hown, hg, hv⟩ := append_own w.heap.size t t ty e i z 1 ht hi hz hsize hby hzs h0 hsrc (by omega) (by omega) (by simp)
  have hne : v1 ≠ .slice none 0 0 := by
    intro h
    have := hv.1 h
    simp at this
  simp only [Nat.zero_add, List.nil_append] at hown
  obtain ⟨G, cap, rfl, hb, hlt, hc⟩ := own_form hown hne
  refine ⟨G, cap, w1, hrun, hown, ?_, hb, hlt, hc⟩
  refine Mod.trans hm0 (Mod.of_grown (S := [w.heap.size]) hg ?_) (by simp)
  intro k hk
  simp [Value.ownBlock] at hk
  simp [hk]
/-- a byte of a row that the call made is stored -/
theorem own_set {w : World} {base : Nat} {e : TypeId} {g n cap : Nat} {cur : List Nat} (h : w.ownsRow base e 1 (.slice (some ⟨g, 0, none⟩) n cap) n (bv cur)) (j x : Nat) (hj : j < n) :
    (w.setCell ⟨g, j, none⟩ (.int .u8 (x : Int))).ownsRow base e 1 (.slice (some ⟨g, 0, none⟩) n cap) n (bv (cur.set j x)) := by
  obtain ⟨h1, h2⟩ := h
  refine ⟨by simpa [bv] using h1, ?_⟩
  rcases h2 with ⟨h2, _⟩ | ⟨g', cap', cu, e1, hb, hh, hc, hm, hs, ht⟩
  · cases h2
  · cases e1
    have := Blk.set (w := w) (g := g) (t := e) (cs := cu) hh j (.int .u8 (x : Int))
    refine .inr ⟨g, cap, _, rfl, hb, this, hc, hm, by simpa using hs, ?_⟩
    rw [Array.toList_setIfInBounds, List.take_set, ht]
    simp [bv, List.map_set]
theorem own_cell {w : World} {base : Nat} {e : TypeId} {g n cap : Nat} {cur : List Nat} (h : w.ownsRow base e 1 (.slice (some ⟨g, 0, none⟩) n cap) n (bv cur)) (j : Nat) (hj : j < n) :
    w.cell? ⟨g, j, none⟩ = some (.int .u8 ((cur.getD j 0 : Nat) : Int)) := by
  have hl : j < cur.length := by have := h.1; simp [bv] at this; omega
  have h1 : (bv cur)[j]? = some (.int .u8 ((cur.getD j 0 : Nat) : Int)) := by simp [bv, List.getElem?_eq_getElem hl]
  have := h.cells (g := g) rfl j _ h1
  have e : (⟨g, 0, none⟩ : Addr).add j = ⟨g, j, none⟩ := by unfold Addr.add; split <;> simp_all
  rwa [e] at this
theorem own_frozen {w : World} {base : Nat} {e : TypeId} {g n cap : Nat} {xs : List Value} (h : w.ownsRow base e 1 (.slice (some ⟨g, 0, none⟩) n cap) n xs) (j : Nat) : w.frozen? ⟨g, j, none⟩ = false := h.frozenAt j
theorem own_lt' {w : World} {base : Nat} {e : TypeId} {g n cap : Nat} {xs : List Value} (h : w.ownsRow base e 1 (.slice (some ⟨g, 0, none⟩) n cap) n xs) : g < w.heap.size := (h.lt g rfl).2

theorem wpList_append_run {P : Program} {ops : Array Oper} {rest : List Oper} {o : Oper} {a : Act} {w : World} {Q : Exit → Act → World → Prop} (hgd : o.guard = none) (s x : Operand) (t tx : TypeId)
    (ho : o.op = .call { callee := .builtin .append, args := #[s, x], argTypes := #[t, tx] }) (vs vx v' : Value) (w' : World) (hs : a.eval s = vs) (hx : a.eval x = vx)
    (hr : (Builtin.append_ #[t, tx] o.type #[vs, vx]).run P w = .ok v' w')
    (h : wpList P ops Q rest (a.put o.dst v') w') : wpList P ops Q (o :: rest) a w := by
  refine wpList_plain hgd fun K hK => ?_
  unfold Oper.wp execOp
  simp only [ho, resolve, invoke, builtin, Sem.run_bind, Sem.run_pure, Result.andThen_ok, List.map_toArray, List.map_cons, List.map_nil, hs, hx, hr]
  exact hK _ _ h

theorem wpList_copy_run {P : Program} {ops : Array Oper} {rest : List Oper} {o : Oper} {a : Act} {w : World} {Q : Exit → Act → World → Prop} (hgd : o.guard = none) (s x : Operand) (t tx : TypeId)
    (ho : o.op = .call { callee := .builtin .copy, args := #[s, x], argTypes := #[t, tx] }) (vs vx v' : Value) (w' : World) (hs : a.eval s = vs) (hx : a.eval x = vx)
    (hr : (Builtin.copy_ #[t, tx] o.type #[vs, vx]).run P w = .ok v' w')
    (h : wpList P ops Q rest (a.put o.dst v') w') : wpList P ops Q (o :: rest) a w := by
  refine wpList_plain hgd fun K hK => ?_
  unfold Oper.wp execOp
  simp only [ho, resolve, invoke, builtin, Sem.run_bind, Sem.run_pure, Result.andThen_ok, List.map_toArray, List.map_cons, List.map_nil, hs, hx, hr]
  exact hK _ _ h

theorem run_make_rowN {P : Program} (t e : TypeId) (i : TypeInfo) (z : Value) (ht : P.underlying t = some (.slice e)) (hi : P.info? e = some i) (hz : i.zero = some z)
    (kl kc : IntKind) (n c : Nat) (hnc : n ≤ c) (hbytes : i.bytes * c ≤ 281474976710656) (h63 : c ≤ 9223372036854775807) (w : World) :
    (Instr.makeSlice t (.int kl (n : Int)) (.int kc (c : Int))).run P w = .ok (.slice (some ⟨w.heap.size, 0, none⟩) n c) (w.alloc (.cells (madeCells z.cells (c * i.size)) e)) := by
  have hb : (i.bytes : Int) * (c : Int) ≤ 281474976710656 := by
    have h : ((i.bytes * c : Nat) : Int) ≤ 281474976710656 := by omega
    rwa [Int.natCast_mul] at h
  have hr := run_make (P := P) w t e i z ht hi hz kl kc n c (by omega) (by omega) hb (by omega)
  simp only [Int.toNat_natCast] at hr
  exact hr

/-! ### a law's last step: true; all reads as it did -/
section
variable {H : Type} {enc : TypeId × Value → H} {P : Program}
theorem trodAll_kept (hl : laidOutB P = true) {W W' : World} (hb : Below W.heap.size W W') : ∀ (ts : List TypeId) (vs : List Value) (ds : List (DataW H)) (ps : List MemPlace),
    (ts.all fun t => P.readableRec t && decide (t < P.types.size)) = true → DataW.TrodAll enc P W 0 (fun _ => true) true ts vs ds ps → (∀ x ∈ ps, x.block < W.heap.size) →
    DataW.TrodAll enc P W' 0 (fun b => decide (b < W.heap.size)) true ts vs ds ps
  | [], [], [], ps, _, h, _ => h
  | t :: ts, v :: vs, d :: ds, ps, hr, h, hlt => by
    obtain ⟨p, q, h1, h2, rfl⟩ := h
    simp only [List.all_cons, Bool.and_eq_true, decide_eq_true_eq] at hr
    exact ⟨p, q, Below.trod hl hr.1.1 hr.1.2 h1 hb (fun x hx => hlt x (by simp [hx])), trodAll_kept hl hb ts vs ds q (by simpa using hr.2) h2 (fun x hx => hlt x (by simp [hx])), rfl⟩
  | [], [], _ :: _, _, _, h, _ => h.elim
  | [], _ :: _, _, _, _, h, _ => h.elim
  | _ :: _, [], _, _, _, h, _ => h.elim
  | _ :: _, _ :: _, [], _, _, h, _ => h.elim
def varOk (P : Program) (n : String) : Bool := match P.globalNamed n with
  | some g => match (P.globals[g]?).map (·.type) with
    | some t => P.readableRec t && decide (t < P.types.size)
    | none => true
  | none => true
theorem trodVars_kept (hl : laidOutB P = true) {W W' : World} (hb : Below W.heap.size W W') : ∀ (ns : List String) (ds : List (DataW H)) (ps : List MemPlace),
    (ns.all (varOk P)) = true → DataW.TrodVars enc P W (fun _ => true) ns ds ps → (∀ x ∈ ps, x.block < W.heap.size) →
    DataW.TrodVars enc P W' (fun b => decide (b < W.heap.size)) ns ds ps
  | [], [], ps, _, h, _ => h
  | n :: ns, d :: ds, ps, hr, h, hlt => by
    obtain ⟨g, t, cs, fuel, p, q, hg, ht, hv, hd, h2, rfl⟩ := h
    simp only [List.all_cons, Bool.and_eq_true] at hr
    obtain ⟨hr1, hr2⟩ := hr
    simp only [varOk, hg, ht, Bool.and_eq_true, decide_eq_true_eq] at hr1
    have hgl : g < W.heap.size := by
      simp only [World.var?, hg, Option.bind_some] at hv
      rcases Nat.lt_or_ge g W.heap.size with h | h
      · exact h
      · simp [Array.getElem?_eq_none h] at hv
    have hv' : W'.var? P n = some cs := by
      simp only [World.var?, hg, Option.bind_some] at hv ⊢
      rw [hb.block g hgl]; exact hv
    have hd0 : DataW.Trod enc P W 0 (fun _ => true) true t (.agg cs) d p := ⟨fuel, hd⟩
    obtain ⟨fuel', hd'⟩ := Below.trod hl hr1.1 hr1.2 hd0 hb (fun x hx => hlt x (by simp [hx]))
    exact ⟨g, t, cs, fuel', p, q, hg, ht, hv', hd', trodVars_kept hl hb ns ds q hr2 h2 (fun x hx => hlt x (by simp [hx])), rfl⟩
  | [], _ :: _, _, _, h, _ => h.elim
  | _ :: _, [], _, _, h, _ => h.elim
theorem law_post {f : Func} {s : ChangeSpec} {apart fresh handsOn : Bool} {W W' : World} {args : Array Value} {ds gs : List (DataW H)} {before : List MemPlace} {tb : TypeId}
    (hl : laidOutB P = true) (hr : (f.params.toList.all fun t => P.readableRec t && decide (t < P.types.size)) = true) (hv : (s.vars.all (varOk P)) = true)
    (hres : f.resultTypes = #[tb]) (hbool : P.underlying tb = some .bool)
    (hW : DataW.Whole enc P f.params.toList s.vars apart W args.toList ds gs before) (hb : Below W.heap.size W W')
    (hs : (s.fn H (ds ++ gs)).results = [.lit (.bool true)] ∧ (s.fn H (ds ++ gs)).args = ds ∧ (s.fn H (ds ++ gs)).vars = gs) :
    s.post enc P f apart fresh handsOn false W args (.bool true) W' := by
  have hlt : ∀ p ∈ before, p.block < W.heap.size := fun p hp => hW.lt p hp
  have hW0 := hW
  obtain ⟨p, q, hA, hV, rfl, _, _⟩ := hW0
  obtain ⟨h1, h2, h3⟩ := hs
  refine ⟨ds, gs, p ++ q, [], p, q, hW, ?_, ?_, ?_, World.keptBut_mono (fun x hx => ⟨hx, ?_⟩) (hb.frame (· ∈ p ++ q)), fun h => by cases h⟩
  · rw [h1, hres]
    exact trodAll_mk1 (shut_bool hbool true)
  · rw [h2]; exact trodAll_kept hl hb _ _ _ _ hr hA (fun x hx => hlt x (by simp [hx]))
  · rw [h3]; exact trodVars_kept hl hb _ _ _ hv hV (fun x hx => hlt x (by simp [hx]))
  · rw [List.mem_append] at hx; exact Or.inr hx
end
end Go.Proofs.YtconkcjcjdmidaaGreatDoor
