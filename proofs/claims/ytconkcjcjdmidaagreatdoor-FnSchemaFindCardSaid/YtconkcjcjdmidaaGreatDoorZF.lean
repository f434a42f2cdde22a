/- Types and fields as they come in: what is read is there. (YtconkcjcjdmidaaGreatDoor) -/
import Derived.Test.YtconkcjcjdmidaaGreatDoorZE
import Derived.Deep.SlicePairs
set_option linter.unusedVariables false
set_option linter.unusedSimpArgs false
namespace Go.Proofs.YtconkcjcjdmidaaGreatDoor
open Go.RowKit Go.ChangeShapes Go.WideShapes Go.ChangeAt Go
theorem cell_lt2 {w : World} {a : Addr} {v : Value} (h : w.cell? a = some v) : a.spot = none ∧ a.block < w.heap.size := by
  unfold World.cell? at h
  split at h
  · next hc =>
    split at h
    · cases h
    · next h2 => exact ⟨by simpa using h2, (Array.getElem?_eq_some_iff.1 hc).1⟩
  · cases h
theorem addr_of {w : World} {a : Addr} {v : Value} (h : w.cell? (a.add 0) = some v) : ∃ b off, a = ⟨b, off, none⟩ ∧ b < w.heap.size := by
  have h0 : a.add 0 = a := by unfold Addr.add; simp
  rw [h0] at h
  obtain ⟨h1, h2⟩ := cell_lt2 h
  obtain ⟨b, off, sp⟩ := a
  have h1' : sp = none := h1
  subst h1'
  exact ⟨b, off, rfl, h2⟩
theorem c3 : Tryz.prog.cellsOf 3 = 1 := by kernel_rfl
theorem c4 : Tryz.prog.cellsOf 4 = 1 := by kernel_rfl
theorem c9 : Tryz.prog.cellsOf 9 = 1 := by kernel_rfl
theorem c22 : Tryz.prog.cellsOf 22 = 1 := by kernel_rfl
theorem c23 : Tryz.prog.cellsOf 23 = 1 := by kernel_rfl
theorem c25 : Tryz.prog.cellsOf 25 = 2 := by kernel_rfl
theorem c28 : Tryz.prog.cellsOf 28 = 1 := by kernel_rfl
theorem c30 : Tryz.prog.cellsOf 30 = 10 := by kernel_rfl
theorem c32 : Tryz.prog.cellsOf 32 = 13 := by kernel_rfl
theorem c44 : Tryz.prog.cellsOf 44 = 2 := by kernel_rfl
theorem i64_of_wf {z : Int} (h : (Lit.int .i64 z).wf = true) : i64in z := by
  simp [Lit.wf, IntKind.min, IntKind.max, IntKind.signed, IntKind.bits] at h
  unfold i64in
  omega
section
variable {H : Type} {enc : TypeId × Value → H} {w : World} {base : Nat} {spare : Nat → Bool} {held : Bool}
theorem open_is {fuel : Nat} {cs : List Value} {x : DataW H × List MemPlace} (h : DataW.trod enc Tryz.prog w base spare held fuel 28 cs = some x) : ∃ A n c, cs = [.slice A n c] ∧ Is w A n c := by
  rcases open_ints Tryz.underlying28 Tryz.underlying3 c3 h with ⟨h1, _⟩ | ⟨a, len, cap, zs, h1, _, hl, hm, hz, _, hcell, hwf⟩
  · exact ⟨_, _, _, h1, is_none w 0⟩
  · refine ⟨_, _, _, h1, hl, by omega, fun hp => ?_⟩
    have hlz : len ≤ zs.length := by rw [hz]; split <;> omega
    obtain ⟨b, o, rfl, hb⟩ := addr_of (hcell 0 (by omega))
    refine ⟨b, o, rfl, hb, fun k hk => ?_⟩
    have hc := hcell k (by omega)
    rw [add_nat] at hc
    have hw := i64_of_wf (hwf (zs.getD k 0) (by rw [List.getD_eq_getElem?_getD, List.getElem?_eq_getElem (by omega)]; exact List.getElem_mem (by omega)))
    exact ⟨_, hc, hw.1, hw.2⟩
theorem prs_none (w : World) (c : Nat) : Prs w none 0 c := ⟨Nat.zero_le _, Nat.zero_le _, fun h => absurd h (by omega)⟩
theorem open_prs {fuel : Nat} {cs : List Value} {x : DataW H × List MemPlace} (h : DataW.trod enc Tryz.prog w base spare held fuel 23 cs = some x) : ∃ A n c, cs = [.slice A n c] ∧ Prs w A n c := by
  rcases Go.Deep.open_slice_pairs Tryz.underlying23 Tryz.underlying44 c44 rfl rfl c9 c9 h with ⟨h1, _⟩ | ⟨a, len, cap, m, k, V0, V1, D0, D1, P0, P1, h1, _, hl, hm, hmm, _, hx⟩
  · exact ⟨_, _, _, h1, prs_none w 0⟩
  · refine ⟨_, _, _, h1, hl, by omega, fun hp => ?_⟩
    have hlz : len ≤ m := by rw [hmm]; split <;> omega
    have each : ∀ i, i < m → ∃ s t : ByteArray, w.cell? (a.add (i * 2)) = some (.string s) ∧ w.cell? (a.add (i * 2 + 1)) = some (.string t) ∧ s.size ≤ maxLen ∧ t.size ≤ maxLen := fun i hi => by
      obtain ⟨g0, g1, t0, t1⟩ := hx i hi
      obtain ⟨x, ex, _, hx1⟩ := DataW.trod_string Tryz.underlying9 t0
      obtain ⟨y, ey, _, hy1⟩ := DataW.trod_string Tryz.underlying9 t1
      simp only [List.cons.injEq, and_true] at ex ey
      exact ⟨x, y, by rw [g0, ex], by rw [g1, ey], hx1, hy1⟩
    obtain ⟨s0, t0, h00, _⟩ := each 0 (by omega)
    obtain ⟨b, o, rfl, hb⟩ := addr_of (by simpa using h00)
    refine ⟨b, o, rfl, hb, fun k hk => ?_⟩
    obtain ⟨s, t, h1, h2, h3, h4⟩ := each k (by omega)
    rw [add_nat] at h1 h2
    exact ⟨s, t, h1, by rw [Nat.add_assoc]; exact h2, h3, h4⟩
/-- a type whose cells read is a type. -/
def TyR (enc : TypeId × Value → H) (w : World) (base : Nat) (spare : Nat → Bool) (held : Bool) (f : Nat) : Prop := ∀ (cs : List Value) (x : DataW H × List MemPlace), DataW.trod enc Tryz.prog w base spare held f 30 cs = some x → ∃ t : Ty, cs = t.cells ∧ ∀ m, TyAt w m t
set_option maxRecDepth 100000 in
theorem open_fs {fuel : Nat} (hT : ∀ f, f < fuel → TyR enc w base spare held f) {cs : List Value} {x : DataW H × List MemPlace} (h : DataW.trod enc Tryz.prog w base spare held fuel 22 cs = some x) :
    ∃ A n c, cs = [.slice A n c] ∧ Fs w A n c ∧ ∀ k, k < n → (∀ m, TyAt w m (fAt w A k).ty) ∧ Prs w (fAt w A k).am (fAt w A k).nm' (fAt w A k).cm := by
  rcases DataW.trod_slice Tryz.underlying22 h with ⟨h1, _⟩ | ⟨a, len, cap, elems, rest, n, hfu, h1, _, hb, hl, hm, hel, he, _, _⟩
  · exact ⟨_, _, _, h1, fs_none w 0, fun k hk => absurd hk (by omega)⟩
  · have hA : 0 < len → ∃ b o, a = ⟨b, o, none⟩ ∧ b < w.heap.size := fun hp => by
      have h2 := he 0 hp
      rw [List.getElem?_eq_getElem (by omega), c32] at h2
      obtain ⟨cs', hc, ht⟩ := Option.bind_eq_some_iff.1 h2
      obtain ⟨_, hlen, hcell⟩ := World.cells?_some hc
      have h3 := hcell 0 (by omega)
      rw [List.getElem?_eq_getElem (by omega)] at h3
      simp only [Nat.zero_mul] at h3
      have h0 : a.add 0 = a := by unfold Addr.add; simp
      rw [h0] at h3
      exact addr_of h3
    have each : ∀ i, i < len → ∃ f : Fd, (∃ b o, a = ⟨b, o, none⟩ ∧ b < w.heap.size ∧ FCells w b (o + i * 13) f) ∧ f.nm.size ≤ maxLen ∧ (∀ m, TyAt w m f.ty) ∧ Prs w f.am f.nm' f.cm := fun i hi => by
      have h2 := he i hi
      rw [List.getElem?_eq_getElem (by omega), c32] at h2
      obtain ⟨cs', hc, ht⟩ := Option.bind_eq_some_iff.1 h2
      obtain ⟨_, hlen, hcell⟩ := World.cells?_some hc
      obtain ⟨xs, n', hn', _, _, hxl, hf⟩ := DataW.trod_struct Tryz.underlying32 ht
      match xs, hxl, cs', hlen with
      | [y0, y1, y2, y3], _, [v0, v1, v2, v3, v4, v5, v6, v7, v8, v9, v10, v11, v12], _ =>
        have g0 := hf 0 _ rfl
        have g1 := hf 1 _ rfl
        have g2 := hf 2 _ rfl
        have g3 := hf 3 _ rfl
        simp [c9, c4, c30, c23] at g0 g1 g2 g3
        obtain ⟨s, e0, _, hs⟩ := DataW.trod_string Tryz.underlying9 g0
        obtain ⟨bl, e1, _⟩ := DataW.trod_bool Tryz.underlying4 g1
        obtain ⟨t, e2, htt⟩ := hT n' (by omega) _ _ g2
        obtain ⟨A', n2, c2, e3, hp⟩ := open_prs g3
        simp only [Ty.cells, List.cons.injEq, and_true] at e0 e1 e2 e3
        obtain ⟨p2, p3, p4, p5, p6, p7, p8, p9, p10, p11⟩ := e2
        subst e0 e1 e3 p2 p3 p4 p5 p6 p7 p8 p9 p10 p11
        obtain ⟨b, o, rfl, hbl⟩ := hA (by omega)
        simp only [add_nat] at hcell
        refine ⟨⟨s, bl, t, A', n2, c2⟩, ⟨b, o, rfl, hbl, ?_⟩, hs, htt, hp⟩
        exact ⟨hcell 0 (by omega), hcell 1 (by omega), hcell 2 (by omega), hcell 3 (by omega), hcell 4 (by omega), hcell 5 (by omega), hcell 6 (by omega), hcell 7 (by omega), hcell 8 (by omega), hcell 9 (by omega), hcell 10 (by omega), hcell 11 (by omega), hcell 12 (by omega)⟩
    have hread : ∀ i (hi : i < len) b o, a = ⟨b, o, none⟩ → ∀ f : Fd, FCells w b (o + i * 13) f → fAt w (some a) i = f := fun i hi b o ea f hf => by
      subst ea
      obtain ⟨q0, q1, q2, q3, q4, q5, q6, q7, q8, q9, q10, q11, q12⟩ := hf
      unfold fAt blkOf offOf readF readT
      simp only [Nat.add_assoc, Nat.reduceAdd] at *
      simp only [q0, q1, q2, q3, q4, q5, q6, q7, q8, q9, q10, q11, q12, vS, vB, vI, vA, vN, vC]
    refine ⟨_, _, _, h1, ⟨hl, by omega, fun hp => ?_⟩, fun k hk => ?_⟩
    · obtain ⟨f, ⟨b, o, ea, hbl, _⟩, _⟩ := each 0 hp
      refine ⟨b, o, by rw [ea], hbl, fun k hk => ?_⟩
      obtain ⟨f, ⟨b', o', ea', _, hf⟩, hs, _⟩ := each k hk
      have hr := hread k hk b' o' ea' f hf
      rw [ea] at ea'
      injection ea' with e1 e2 _
      subst e1 e2
      rw [hr]
      exact ⟨hf, hs⟩
    · obtain ⟨f, ⟨b', o', ea', _, hf⟩, hs, ht, hp⟩ := each k hk
      rw [hread k hk b' o' ea' f hf]
      exact ⟨ht, hp⟩
set_option maxRecDepth 100000 in
theorem open_ty : ∀ fuel, TyR enc w base spare held fuel := by
  intro fuel
  induction fuel using Nat.strongRecOn with
  | ind fuel ih =>
    intro cs x h
    obtain ⟨xs, n, hn, _, hlen, hxl, hf⟩ := DataW.trod_struct Tryz.underlying30 h
    rw [c30] at hlen
    match xs, hxl, cs, hlen with
    | [y0, y1, y2, y3, y4, y5, y6, y7, y8, y9], _, [v0, v1, v2, v3, v4, v5, v6, v7, v8, v9], _ =>
      have g0 := hf 0 _ rfl
      have g1 := hf 1 _ rfl
      have g2 := hf 2 _ rfl
      have g3 := hf 3 _ rfl
      have g4 := hf 4 _ rfl
      have g5 := hf 5 _ rfl
      have g6 := hf 6 _ rfl
      have g7 := hf 7 _ rfl
      have g8 := hf 8 _ rfl
      have g9 := hf 9 _ rfl
      simp [c9, c4, c3, c28, c22] at g0 g1 g2 g3 g4 g5 g6 g7 g8 g9
      obtain ⟨kd, e0, _, w0⟩ := DataW.trod_int Tryz.underlying3 g0
      obtain ⟨wd, e1, _, w1⟩ := DataW.trod_int Tryz.underlying3 g1
      obtain ⟨sg, e2, _⟩ := DataW.trod_bool Tryz.underlying4 g2
      obtain ⟨un, e3, _, w3⟩ := DataW.trod_int Tryz.underlying3 g3
      obtain ⟨pr, e4, _, w4⟩ := DataW.trod_int Tryz.underlying3 g4
      obtain ⟨sc, e5, _, w5⟩ := DataW.trod_int Tryz.underlying3 g5
      obtain ⟨zn, e6, _, w6⟩ := DataW.trod_string Tryz.underlying9 g6
      obtain ⟨fl, e7, _⟩ := DataW.trod_bool Tryz.underlying4 g7
      obtain ⟨ai, ni, ci, e8, w8⟩ := open_is g8
      obtain ⟨af, nf, cf, e9, w9, w10⟩ := open_fs (fun f hfl => ih f (by omega)) g9
      simp only [List.cons.injEq, and_true] at e0 e1 e2 e3 e4 e5 e6 e7 e8 e9
      subst e0 e1 e2 e3 e4 e5 e6 e7 e8 e9
      refine ⟨⟨kd, wd, sg, un, pr, sc, zn, fl, ai, ni, ci, af, nf, cf⟩, rfl, fun m => ?_⟩
      match m with
      | 0 => trivial
      | m + 1 => exact ⟨i64_of_wf w0, i64_of_wf w1, i64_of_wf w3, i64_of_wf w4, i64_of_wf w5, w6, w8, w9, fun k hk => ⟨(w10 k hk).1 m, (w10 k hk).2⟩⟩
theorem prs_ps {A : Option Addr} {n c : Nat} (h : Prs w A n c) : ∃ l : List Pr, l.length = n ∧ Ps w (.slice A n c) l ∧ Sz l := by
  obtain ⟨h1, h2, h3⟩ := h
  rcases Nat.eq_zero_or_pos n with h0 | h0
  · subst h0
    exact ⟨[], rfl, ⟨A, c, rfl, Nat.zero_le _, fun h => absurd h (by simp)⟩, by simp, by simp⟩
  · obtain ⟨b, o, rfl, hb, hc⟩ := h3 h0
    have each : ∀ i, i < n → ∃ q : Pr, w.cell? ⟨b, o + i * 2, none⟩ = some (.string q.1) ∧ w.cell? ⟨b, o + i * 2 + 1, none⟩ = some (.string q.2) ∧ q.1.size ≤ maxLen ∧ q.2.size ≤ maxLen := fun i hi => by
      obtain ⟨s, t, g⟩ := hc i hi
      exact ⟨(s, t), g⟩
    obtain ⟨q, hq⟩ := Go.Deep.choose_lt each
    refine ⟨(List.range n).map q, by simp, ⟨some ⟨b, o, none⟩, c, by simp, by simpa using h1, fun hp => ⟨b, o, rfl, hb, fun j hj => ?_⟩⟩, by simp; unfold maxLen at *; omega, fun x hx' => ?_⟩
    · have hj' : j < n := by simpa using hj
      have e : ((List.range n).map q).getD j dP = q j := by rw [List.getD_eq_getElem?_getD]; simp [hj']
      rw [e]
      exact ⟨(hq j hj').1, (hq j hj').2.1⟩
    · obtain ⟨j, hj, rfl⟩ := List.mem_map.1 hx'
      have hj' : j < n := by simpa using hj
      obtain ⟨_, _, h2, h3⟩ := hq j hj'
      unfold maxLen at h2 h3
      exact ⟨by omega, by omega⟩
set_option maxRecDepth 100000 in
/-- a schema that reads. -/
theorem open_sch {v : Value} {d : DataW H} {p : List MemPlace} (hv : ∃ cs : Array Value, v = .agg cs) (h : DataW.Trod enc Tryz.prog w base spare held 25 v d p) :
    ∃ a n c A cm lm, v = .agg #[.slice a n c, .slice A (List.length lm) cm] ∧ Fs w a n c ∧ (∀ k, k < n → ∀ m, TyAt w m (fAt w a k).ty) ∧ Ps w (.slice A (List.length lm) cm) lm ∧ Sz lm := by
  obtain ⟨fuel, h⟩ := h
  obtain ⟨cs, rfl⟩ := hv
  obtain ⟨xs, n, hn, _, hlen, hxl, hf⟩ := DataW.trod_struct Tryz.underlying25 h
  rw [c25] at hlen
  simp only [Value.cells] at hlen hf
  obtain ⟨l, rfl⟩ : ∃ l : List Value, cs = l.toArray := ⟨cs.toList, by simp⟩
  simp only [List.toList_toArray] at hlen hf
  match xs, hxl, l, hlen with
  | [y0, y1], _, [v0, v1], _ =>
    have g0 := hf 0 _ rfl
    have g1 := hf 1 _ rfl
    simp [c22, c23] at g0 g1
    obtain ⟨a, n, c, e0, hfs, hty⟩ := open_fs (fun f _ => open_ty f) g0
    obtain ⟨A, m, cm, e1, hp⟩ := open_prs g1
    simp only [List.cons.injEq, and_true] at e0 e1
    subst e0 e1
    obtain ⟨lm, rfl, hps, hsz⟩ := prs_ps hp
    exact ⟨a, n, c, A, cm, lm, rfl, hfs, fun k hk => (hty k hk).1, hps, hsz⟩
end
end Go.Proofs.YtconkcjcjdmidaaGreatDoor
