/- Metadata is made. (YtconkcjcjdmidaaGreatDoor) -/
import Derived.Test.YtconkcjcjdmidaaGreatDoorT3
import Derived.Laws.CopyRow
set_option linter.unusedVariables false
set_option linter.unusedSimpArgs false
namespace Go.Proofs.YtconkcjcjdmidaaGreatDoor
open Go.RowKit Go.ChangeShapes Go.WideShapes Go.ChangeAt Go
attribute [local go_sem ↓] Go.wp_at_zero Go.wp_at_succ
theorem own_formS {w : World} {B e n : Nat} {v : Value} {xs : List Value} (h : w.ownsRow B e 1 v n xs) : ∃ p c, v = .slice p n c ∧ n ≤ c ∧ Sl w w.heap.size p n xs := by
  rcases h.2 with ⟨rfl, h2⟩ | ⟨g, cap, cur, rfl, hb, hh, hc, _⟩
  · have hl := h.1
    rw [h2, Nat.zero_mul] at hl
    obtain rfl : xs = [] := List.eq_nil_of_length_eq_zero (by simpa using hl)
    subst h2
    exact ⟨none, 0, rfl, Nat.le_refl _, Sl.nil_ _ _ _⟩
  · exact ⟨_, cap, rfl, hc, own_sl h (Array.getElem?_eq_some_iff.1 hh).1⟩
theorem made_strs (n : Nat) : madeCells (Value.string ⟨#[]⟩).cells (n * 1) = Array.replicate n (Value.string ⟨#[]⟩) := by
  unfold madeCells
  apply Array.ext
  · simp
  · intro i h1 h2
    simp [Value.cells, Nat.mod_one]
abbrev Z2 : Array Value := #[.slice none 0 0, .slice none 0 0]
def NM (w : World) (n : Nat) (v6 : Value) (wx : World) : Prop := ∃ g6 gk gv, v6 = .pointer (some ⟨g6, 0, none⟩) ∧ Blk wx w.heap.size 49 Z2 ∧ Blk wx gk 9 (Array.replicate n (.string ⟨#[]⟩)) ∧ Blk wx gv 9 (Array.replicate n (.string ⟨#[]⟩)) ∧ Blk wx g6 49 #[.slice (some ⟨gk, 0, none⟩) n n, .slice (some ⟨gv, 0, none⟩) n n] ∧ w.heap.size < gk ∧ w.heap.size < gv ∧ w.heap.size < g6 ∧ gk ≠ gv ∧ Below w.heap.size w wx
theorem make31 (n : Nat) (hn : n ≤ 100) (w : World) : (Instr.makeSlice 47 (.int .i64 (n : Int)) (.int .i64 (n : Int))).run Tryz.prog w = .ok (.slice (some ⟨w.heap.size, 0, none⟩) n n) (w.alloc (.cells (Array.replicate n (.string ⟨#[]⟩)) 9)) := by
  obtain ⟨i0, hi, hz0, hz1, hz2⟩ := info_parts info9
  have := run_make_rowN (P := Tryz.prog) 47 9 i0 _ Tryz.underlying47 hi hz0 .i64 .i64 n n (Nat.le_refl _) (by rw [hz2]; omega) (by omega) w
  rw [this, hz1, made_strs]
theorem copy_blk (w : World) (B g n c : Nat) (A : Option Addr) (xs : List Value) (cur : Array Value) (hk : Blk w g 9 cur) (hcur : cur.size = n) (hs : Sl w B A n xs) (h0 : 0 < n) (h1 : ∀ v ∈ xs, v.oneCell' = true) :
    ∃ w', (Builtin.copy_ #[47, 47] 3 #[.slice (some ⟨g, 0, none⟩) n n, .slice A n c]).run Tryz.prog w = .ok (goInt n) w' ∧ Blk w' g 9 xs.toArray ∧ Mod [g] w w' := by
  obtain ⟨b, off, rfl, hb, hc⟩ := hs.2 h0
  have hl := hs.1
  obtain ⟨i0, hi, hz0, hz1, hz2⟩ := info_parts info9
  have hr := run_copy_row (P := Tryz.prog) w 47 47 3 9 g 0 n n ⟨b, off, none⟩ n c cur 9 xs Tryz.underlying47 (by rw [hi]; simp [hz1]) hk (by rw [hl]; simp) (fun j v hv => by
    have : (⟨b, off, none⟩ : Addr).add j = ⟨b, off + j, none⟩ := by unfold Addr.add; split <;> simp_all
    rw [this]; exact hc j v hv) (by omega) h1
  have e : (cur.toList.take 0 ++ xs ++ cur.toList.drop (0 + xs.length)).toArray = xs.toArray := by
    rw [List.drop_of_length_le (by simp [hcur, hl])]
    simp
  rw [e, hl] at hr
  refine ⟨_, hr, setRow_heap w g cur xs.toArray 9 (0, 0) hk, ⟨rfl, rfl, rfl, by simp, fun k hk hn => setRow_other w g k _ (by simpa using hn)⟩⟩
theorem blk_row {w : World} {g B : Nat} {xs : List Value} (h : Blk w g 9 xs.toArray) (hB : B ≤ g) : Row B w (some ⟨g, 0, none⟩) xs.length xs := by
  refine ⟨⟨rfl, fun _ => ⟨g, 0, rfl, h.lt, fun j u hu => ?_⟩⟩, fun a ha => by injection ha with ha; subst ha; exact hB⟩
  have := h.cell j
  rw [Nat.zero_add, this]
  simpa using hu
theorem pmd_new {w w2 : World} {gk gv : Nat} {u0 u1 : Value} {V : Array Value} (l : List Pr) (h : Blk w2 gk 9 (ks l).toArray ∧ Blk w2 gv 9 (vs l).toArray ∧ Blk w2 w.heap.size 49 V ∧ Below w.heap.size w w2) (h1 : w.heap.size < gk) (h2 : w.heap.size < gv) :
    PMd w l (.returned (.agg #[.slice (some ⟨gk, 0, none⟩) l.length l.length, .slice (some ⟨gv, 0, none⟩) l.length l.length])) ((w2.setCell ⟨w.heap.size, 0, none⟩ u0).setCell ⟨w.heap.size, 1, none⟩ u1) := by
  obtain ⟨k1, k2, k3, hb⟩ := h
  have e1 : (ks l).length = l.length := by simp [ks]
  have e2 : (vs l).length = l.length := by simp [vs]
  have r1 := blk_row k1 (B := w.heap.size + 1) h1
  have r2 := blk_row k2 (B := w.heap.size + 1) h2
  rw [e1] at r1
  rw [e2] at r2
  have hm : Md (w.heap.size + 1) w2 (.agg #[.slice (some ⟨gk, 0, none⟩) l.length l.length, .slice (some ⟨gv, 0, none⟩) l.length l.length]) l := ⟨_, _, _, _, rfl, Nat.le_refl _, Nat.le_refl _, r1, r2⟩
  exact ⟨_, rfl, ((hm.set ⟨w.heap.size, 0, none⟩ (Nat.lt_succ_self _) u0).set ⟨w.heap.size, 1, none⟩ (Nat.lt_succ_self _) u1).mono (Nat.le_succ _), (hb.setCell (Nat.le_refl _) _).setCell (Nat.le_refl _) _⟩
theorem pmd_nil {w w2 : World} (hb : Below w.heap.size w w2) : PMd w [] (.returned (.agg #[.slice none 0 0, .slice none 0 0])) w2 :=
  ⟨_, rfl, ⟨none, 0, none, 0, rfl, Nat.le_refl _, Nat.le_refl _, ⟨Sl.nil_ _ _ _, by simp⟩, ⟨Sl.nil_ _ _ _, by simp⟩⟩, hb⟩
theorem one_ks (l : List Pr) : ∀ v ∈ ks l, v.oneCell' = true := by
  intro v hv
  obtain ⟨p, _, rfl⟩ := List.mem_map.1 hv
  rfl
theorem one_vs (l : List Pr) : ∀ v ∈ vs l, v.oneCell' = true := by
  intro v hv
  obtain ⟨p, _, rfl⟩ := List.mem_map.1 hv
  rfl
set_option maxRecDepth 100000 in
set_option maxHeartbeats 4000000 in
theorem newMeta_pos (w : World) (A A' : Option Addr) (c c' : Nat) (l : List Pr) (hc : l.length ≤ c) (hc' : l.length ≤ c') (h0 : 0 < l.length) (hn : l.length ≤ 100) (ha : Sl w w.heap.size A l.length (ks l)) (hb : Sl w w.heap.size A' l.length (vs l)) :
    Calls Tryz.prog 25 #[.slice A l.length c, .slice A' l.length c'] w (PMd w l) := by
  have hmk := make31 l.length hn
  have HA := hide ha
  have HB := hide hb
  clear ha hb
  go_enter Tryz.func25, Tryz.ntmps25
  go_upto_region 6 with (fail)
  go_cut [6] (fun v6 wx => NM w l.length v6 wx)
  case first =>
    go_region
    all_goals
      go_wp2_with fail
      go_meet
      first
        | (refine ⟨w.heap.size + 1, w.heap.size + 1 + 1, w.heap.size + 1 + 1 + 1, rfl, ?_, ?_, ?_, ?_, by omega, by omega, by omega, by omega, ?_⟩; (focus ((repeat' (first | (with_reducible refine Blk.drew ?_) | ((with_reducible refine Blk.new _ _ ?_); (simp; done)) | (with_reducible refine Blk.alloc ?_ _))); done)); (focus ((repeat' (first | (with_reducible refine Blk.drew ?_) | ((with_reducible refine Blk.new _ _ ?_); (simp; done)) | (with_reducible refine Blk.alloc ?_ _))); done)); (focus ((repeat' (first | (with_reducible refine Blk.drew ?_) | ((with_reducible refine Blk.new _ _ ?_); (simp; done)) | (with_reducible refine Blk.alloc ?_ _))); done)); (focus ((repeat' (first | (with_reducible refine Blk.drew ?_) | ((with_reducible refine Blk.new _ _ ?_); (simp; done)) | (with_reducible refine Blk.alloc ?_ _))); done)); (focus ((repeat' (first | (with_reducible exact Below.refl _ _) | (with_reducible refine bdrew ?_) | (with_reducible refine Below.alloc ?_ ?_ _) | exact Nat.le_refl _ | (simp; done) | (simp; omega))); done)))
        | (refine ⟨w.heap.size + 1, w.heap.size + 1 + 1 + 1, w.heap.size + 1 + 1, rfl, ?_, ?_, ?_, ?_, by omega, by omega, by omega, by omega, ?_⟩; (focus ((repeat' (first | (with_reducible refine Blk.drew ?_) | ((with_reducible refine Blk.new _ _ ?_); (simp; done)) | (with_reducible refine Blk.alloc ?_ _))); done)); (focus ((repeat' (first | (with_reducible refine Blk.drew ?_) | ((with_reducible refine Blk.new _ _ ?_); (simp; done)) | (with_reducible refine Blk.alloc ?_ _))); done)); (focus ((repeat' (first | (with_reducible refine Blk.drew ?_) | ((with_reducible refine Blk.new _ _ ?_); (simp; done)) | (with_reducible refine Blk.alloc ?_ _))); done)); (focus ((repeat' (first | (with_reducible refine Blk.drew ?_) | ((with_reducible refine Blk.new _ _ ?_); (simp; done)) | (with_reducible refine Blk.alloc ?_ _))); done)); (focus ((repeat' (first | (with_reducible exact Below.refl _ _) | (with_reducible refine bdrew ?_) | (with_reducible refine Below.alloc ?_ ?_ _) | exact Nat.le_refl _ | (simp; done) | (simp; omega))); done)))
        | (refine ⟨w.heap.size + 1 + 1, w.heap.size + 1, w.heap.size + 1 + 1 + 1, rfl, ?_, ?_, ?_, ?_, by omega, by omega, by omega, by omega, ?_⟩; (focus ((repeat' (first | (with_reducible refine Blk.drew ?_) | ((with_reducible refine Blk.new _ _ ?_); (simp; done)) | (with_reducible refine Blk.alloc ?_ _))); done)); (focus ((repeat' (first | (with_reducible refine Blk.drew ?_) | ((with_reducible refine Blk.new _ _ ?_); (simp; done)) | (with_reducible refine Blk.alloc ?_ _))); done)); (focus ((repeat' (first | (with_reducible refine Blk.drew ?_) | ((with_reducible refine Blk.new _ _ ?_); (simp; done)) | (with_reducible refine Blk.alloc ?_ _))); done)); (focus ((repeat' (first | (with_reducible refine Blk.drew ?_) | ((with_reducible refine Blk.new _ _ ?_); (simp; done)) | (with_reducible refine Blk.alloc ?_ _))); done)); (focus ((repeat' (first | (with_reducible exact Below.refl _ _) | (with_reducible refine bdrew ?_) | (with_reducible refine Below.alloc ?_ ?_ _) | exact Nat.le_refl _ | (simp; done) | (simp; omega))); done)))
        | (refine ⟨w.heap.size + 1 + 1, w.heap.size + 1 + 1 + 1, w.heap.size + 1, rfl, ?_, ?_, ?_, ?_, by omega, by omega, by omega, by omega, ?_⟩; (focus ((repeat' (first | (with_reducible refine Blk.drew ?_) | ((with_reducible refine Blk.new _ _ ?_); (simp; done)) | (with_reducible refine Blk.alloc ?_ _))); done)); (focus ((repeat' (first | (with_reducible refine Blk.drew ?_) | ((with_reducible refine Blk.new _ _ ?_); (simp; done)) | (with_reducible refine Blk.alloc ?_ _))); done)); (focus ((repeat' (first | (with_reducible refine Blk.drew ?_) | ((with_reducible refine Blk.new _ _ ?_); (simp; done)) | (with_reducible refine Blk.alloc ?_ _))); done)); (focus ((repeat' (first | (with_reducible refine Blk.drew ?_) | ((with_reducible refine Blk.new _ _ ?_); (simp; done)) | (with_reducible refine Blk.alloc ?_ _))); done)); (focus ((repeat' (first | (with_reducible exact Below.refl _ _) | (with_reducible refine bdrew ?_) | (with_reducible refine Below.alloc ?_ ?_ _) | exact Nat.le_refl _ | (simp; done) | (simp; omega))); done)))
        | (refine ⟨w.heap.size + 1 + 1 + 1, w.heap.size + 1, w.heap.size + 1 + 1, rfl, ?_, ?_, ?_, ?_, by omega, by omega, by omega, by omega, ?_⟩; (focus ((repeat' (first | (with_reducible refine Blk.drew ?_) | ((with_reducible refine Blk.new _ _ ?_); (simp; done)) | (with_reducible refine Blk.alloc ?_ _))); done)); (focus ((repeat' (first | (with_reducible refine Blk.drew ?_) | ((with_reducible refine Blk.new _ _ ?_); (simp; done)) | (with_reducible refine Blk.alloc ?_ _))); done)); (focus ((repeat' (first | (with_reducible refine Blk.drew ?_) | ((with_reducible refine Blk.new _ _ ?_); (simp; done)) | (with_reducible refine Blk.alloc ?_ _))); done)); (focus ((repeat' (first | (with_reducible refine Blk.drew ?_) | ((with_reducible refine Blk.new _ _ ?_); (simp; done)) | (with_reducible refine Blk.alloc ?_ _))); done)); (focus ((repeat' (first | (with_reducible exact Below.refl _ _) | (with_reducible refine bdrew ?_) | (with_reducible refine Below.alloc ?_ ?_ _) | exact Nat.le_refl _ | (simp; done) | (simp; omega))); done)))
        | (refine ⟨w.heap.size + 1 + 1 + 1, w.heap.size + 1 + 1, w.heap.size + 1, rfl, ?_, ?_, ?_, ?_, by omega, by omega, by omega, by omega, ?_⟩; (focus ((repeat' (first | (with_reducible refine Blk.drew ?_) | ((with_reducible refine Blk.new _ _ ?_); (simp; done)) | (with_reducible refine Blk.alloc ?_ _))); done)); (focus ((repeat' (first | (with_reducible refine Blk.drew ?_) | ((with_reducible refine Blk.new _ _ ?_); (simp; done)) | (with_reducible refine Blk.alloc ?_ _))); done)); (focus ((repeat' (first | (with_reducible refine Blk.drew ?_) | ((with_reducible refine Blk.new _ _ ?_); (simp; done)) | (with_reducible refine Blk.alloc ?_ _))); done)); (focus ((repeat' (first | (with_reducible refine Blk.drew ?_) | ((with_reducible refine Blk.new _ _ ?_); (simp; done)) | (with_reducible refine Blk.alloc ?_ _))); done)); (focus ((repeat' (first | (with_reducible exact Below.refl _ _) | (with_reducible refine bdrew ?_) | (with_reducible refine Below.alloc ?_ ?_ _) | exact Nat.le_refl _ | (simp; done) | (simp; omega))); done)))
  case rest =>
    obtain ⟨g6, gk, gv, rfl, k0, kk, kv, k6, h1, h2, h3, h4, hb⟩ := hcut
    have hsA := (unhide HA).mod (Mod.of_below (S := []) hb) (by simp)
    have hsB := (unhide HB).mod (Mod.of_below (S := []) hb) (by simp)
    obtain ⟨w1, hr1, k1, m1⟩ := copy_blk wc w.heap.size gk l.length c A _ _ kk (by simp) hsA h0 (one_ks l)
    have hsB1 := hsB.mod m1 (by simp; omega)
    have n6k : g6 ≠ gk := fun e => absurd (k6.uniq (by rw [e]; exact kk)).1 (by decide)
    have n6v : g6 ≠ gv := fun e => absurd (k6.uniq (by rw [e]; exact kv)).1 (by decide)
    have kv1 := kv.mod m1 (by simp; omega)
    have k61 := k6.mod m1 (by simp; omega)
    have k01 := k0.mod m1 (by simp; omega)
    obtain ⟨w2, hr2, k2, m2⟩ := copy_blk w1 w.heap.size gv l.length c' A' _ _ kv1 (by simp) hsB1 h0 (one_vs l)
    have kk2 := k1.mod m2 (by simp; omega)
    have k62 := k61.mod m2 (by simp; omega)
    have k02 := k01.mod m2 (by simp; omega)
    have hB2 : Mod [gk, gv] wc w2 := (m1.mono (by simp)).trans (m2.mono (T := [gk, gv]) (by simp)) (by simp)
    have hFin : Below w.heap.size w w2 := by
      have h5 : Mod [gk, gv] w w2 := (Mod.of_below (S := [gk, gv]) hb).trans hB2 (by simp)
      exact ⟨h5.os, h5.tape, h5.output, h5.size, fun k hk => h5.block k hk (by simp; omega)⟩
    have HF := hide (And.intro kk2 (And.intro k2 (And.intro k02 hFin)))
    have q0 := k6.cell 0
    have q1 := k61.cell 1
    have q2 := k62.cell 0
    have q3 := k62.cell 1
    have p0 := k02.cell 0
    have p1 := k02.cell 1
    have f0 := k02.frozen 0
    have f1 := k02.frozen 1
    simp at q0 q1 q2 q3 p0 p1
    clear hsA hsB hsB1 kv1 k61 k01 kk2 k62 k02 hB2 hFin k1 k2 m1 m2 k0 kk kv k6 hmk hb
    go_wp2_with (first | (refine wpList_copy_run rfl (.tmp 24) (.tmp 44) 47 47 rfl _ _ _ _ rfl rfl hr1 ?_) | (refine wpList_copy_run rfl (.tmp 28) (.tmp 29) 47 47 rfl _ _ _ _ rfl rfl hr2 ?_))
    have HG := hide (pmd_new (u0 := .slice (some ⟨gk, 0, none⟩) l.length l.length) (u1 := .slice (some ⟨gv, 0, none⟩) l.length l.length) l (unhide HF) h1 h2)
    clear HF
    refine bodyPost_ret (v := .agg #[.slice (some ⟨gk, 0, none⟩) l.length l.length, .slice (some ⟨gv, 0, none⟩) l.length l.length]) (by simp [results, Tryz.results25, go_sem, p0, p1]) rfl ?_
    exact unhide HG
set_option maxRecDepth 100000 in
set_option maxHeartbeats 4000000 in
theorem newMeta_nil (w : World) (A A' : Option Addr) (c c' : Nat) :
    Calls Tryz.prog 25 #[.slice A 0 c, .slice A' 0 c'] w (PMd w []) := by
  have hk0 : Blk (w.alloc (.cells #[.slice none 0 0, .slice none 0 0] 49)) w.heap.size 49 Z2 := Blk.new _ _ rfl
  have p0 := hk0.cell 0
  have p1 := hk0.cell 1
  have f0 := hk0.frozen 0
  have f1 := hk0.frozen 1
  simp at p0 p1
  have HG := hide (pmd_nil (w := w) (w2 := w.alloc (.cells #[.slice none 0 0, .slice none 0 0] 49)) ((Below.refl _ _).alloc (Nat.le_refl _) _))
  clear hk0
  go_enter Tryz.func25, Tryz.ntmps25
  go_wp2_with fail
  refine bodyPost_ret (v := .agg #[.slice none 0 0, .slice none 0 0]) (by simp [results, Tryz.results25, go_sem, p0, p1]) rfl ?_
  exact unhide HG
theorem newMeta_any (w : World) (B : Nat) (a b : Value) (l : List Pr) (ha : w.ownsRow B 9 1 a l.length (ks l)) (hb : w.ownsRow B 9 1 b l.length (vs l)) (hn : l.length ≤ 100) : Calls Tryz.prog 25 #[a, b] w (PMd w l) := by
  obtain ⟨A, c, rfl, hc, hsA⟩ := own_formS ha
  obtain ⟨A', c', rfl, hc', hsB⟩ := own_formS hb
  by_cases h0 : 0 < l.length
  · exact newMeta_pos w A A' c c' l hc hc' h0 hn hsA hsB
  · obtain rfl : l = [] := List.eq_nil_of_length_eq_zero (by omega)
    exact newMeta_nil w A A' c c'
theorem meta_any (w : World) (v : Value) (l : List Pr) (h : Ps w v l) (hn : l.length ≤ 100) : Calls Tryz.prog 18 #[v] w (PMd w l) :=
  arrowMeta_any w v l h hn fun W a b ha hb => newMeta_any W _ a b l ha hb hn
end Go.Proofs.YtconkcjcjdmidaaGreatDoor
