/- slices.SortFunc, called with metadata's own comparison. (Ytpgonjoaeliccaa) -/
import Derived.Test.YtpgonjoaeliccaaM6
set_option linter.unusedVariables false
set_option linter.unusedSimpArgs false
namespace Go.Proofs.Ytpgonjoaeliccaa
open Go.RowKit Go.ChangeShapes Go.WideShapes Go.ChangeAt
theorem kb_len (l : List Pr) : (kb l).length = l.length := by simp [kb]
theorem kb_get (l : List Pr) (i : Nat) (h : i < l.length) : (kb l).getD i [] = (l.getD i dP).1.data.toList := by
  simp [kb, List.getD_eq_getElem?_getD, List.getElem?_eq_getElem h]
theorem ks_get (l : List Pr) (i : Nat) (h : i < l.length) : (ks l)[i]? = some (.string (l.getD i dP).1) := by
  simp [ks, List.getD_eq_getElem?_getD, List.getElem?_eq_getElem h]
theorem vs_get (l : List Pr) (i : Nat) (h : i < l.length) : (vs l)[i]? = some (.string (l.getD i dP).2) := by
  simp [vs, List.getD_eq_getElem?_getD, List.getElem?_eq_getElem h]
theorem sortCall (w wr : World) (B : Nat) (A A' : Option Addr) (c c' : Nat) (l : List Pr) (hn : l.length ≤ 100) (hm : Md B w (.agg #[.slice A l.length c, .slice A' l.length c']) l) (kr : Blk wr (w.heap.size + 1) 3 (fill l.length l.length)) (k0 : Blk wr w.heap.size 33 #[.slice A l.length c, .slice A' l.length c']) (hb : Below w.heap.size w wr) :
    Calls Try.prog 13 #[.slice (some ⟨w.heap.size + 1, 0, none⟩) l.length l.length, .func (.func 14) #[] #[.pointer (some ⟨w.heap.size, 0, none⟩)]] wr fun e w' => e = .returned (.tuple #[]) ∧ Blk w' (w.heap.size + 1) 3 (ixs (sIdx (kb l))).toArray ∧ Below w.heap.size w w' := by
  by_cases h0 : 0 < l.length
  · have hK : 0 < (kb l).length := by rw [kb_len]; exact h0
    letI : Inhabited (Fin (kb l).length) := ⟨⟨0, hK⟩⟩
    have hds : (Array.ofFn (n := (kb l).length) id).size = l.length := by simp [kb_len]
    have eg : ∀ args w, (callFunc 14 args).run Try.prog w = .ok (.enter 14 args) w := enters_of Try.func14 (by kernel_rfl) rfl
    obtain ⟨A1, c1, A2, c2, e, hc1, hc2, hr1, hr2⟩ := hm
    simp only [Value.agg.injEq, Array.mk.injEq, List.cons.injEq, Value.slice.injEq, and_true, true_and] at e
    obtain ⟨⟨rfl, rfl⟩, rfl, rfl⟩ := e
    obtain ⟨b, off, rfl, hbl, hcell⟩ := hr1.1.2 h0
    have hcmp : CmpReads Try.prog 14 #[.pointer (some ⟨w.heap.size, 0, none⟩)] (fun x : Fin (kb l).length => Value.int .i64 ((x.val : Nat) : Int)) (cfK (kb l)) (w.heap.size + 1) 0 (Array.ofFn (n := (kb l).length) id).size wr := by
      intro m os dk hdk x y
      have hx : x.val < l.length := Nat.lt_of_lt_of_eq x.isLt (kb_len l)
      have hy : y.val < l.length := Nat.lt_of_lt_of_eq y.isLt (kb_len l)
      have q0 := (blk_sortO (fun x : Fin (kb l).length => Value.int .i64 ((x.val : Nat) : Int)) wr (w.heap.size + 1) m dk os 33 _ w.heap.size k0 (by omega)).cell 0
      have hM := mod_sort (fun x : Fin (kb l).length => Value.int .i64 ((x.val : Nat) : Int)) wr (w.heap.size + 1) 0 m dk os
      have cx := hM.cell ((hb.cell (p := ⟨b, off + x.val, none⟩) hbl).trans (hcell _ _ (ks_get l x.val hx))) (by simp; omega)
      have cy := hM.cell ((hb.cell (p := ⟨b, off + y.val, none⟩) hbl).trans (hcell _ _ (ks_get l y.val hy))) (by simp; omega)
      have := closure_any _ w.heap.size b off l.length c x.val y.val _ _ (by simpa using q0) hx hy hn cx cy
      rw [← kb_get l x.val hx, ← kb_get l y.val hy] at this
      exact this
    have hH : Go.Sort.Holds (fun x : Fin (kb l).length => Value.int .i64 ((x.val : Nat) : Int)) wr (w.heap.size + 1) 0 (Array.ofFn (n := (kb l).length) id) := by
      intro j hj
      rw [hds] at hj
      refine ⟨?_, kr.frozen _⟩
      rw [Nat.zero_add, kr.cell j]
      have hj' : j < (kb l).length := by rw [kb_len]; exact hj
      have e1 : (Array.ofFn (n := (kb l).length) id)[j]! = ⟨j, hj'⟩ := by
        rw [getElem!_pos _ j (by simp; exact hj')]
        simp
      rw [e1]
      simp [fill, hj]
    have hcon := Any.slices_SortFunc_eq Try.sortInt (fun x : Fin (kb l).length => Value.int .i64 ((x.val : Nat) : Int)) (fun _ => rfl) (cfK (kb l)) (cb_swo fun x : Fin (kb l).length => (kb l).getD x.val []) 14 #[.pointer (some ⟨w.heap.size, 0, none⟩)] (w.heap.size + 1) 0 l.length (Array.ofFn (n := (kb l).length) id) wr eg hcmp.lays hH kr.lt (by rw [hds]; omega)
    have hcon2 : Calls Try.prog 13 #[.slice (some ⟨w.heap.size + 1, 0, none⟩) (Array.ofFn (n := (kb l).length) id).size l.length, .func (.func 14) #[] #[.pointer (some ⟨w.heap.size, 0, none⟩)]] wr _ := hcon
    rw [hds] at hcon2
    refine hcon2.mono ?_
    rintro e w' ⟨rfl, n, os, rfl⟩
    have e3 : Go.Sort.pdq (ltOf (cfK (kb l))) (Array.ofFn (n := (kb l).length) id) 0 l.length (Lib.bitLen l.length) true true = pdK (kb l) hK := by unfold pdK; rw [hds]
    rw [e3]
    have hsz : (pdK (kb l) hK).size = l.length := by
      have := (pdK_perm (kb l) hK).1
      rw [this, hds]
    refine ⟨rfl, ?_, ?_⟩
    · have h1 := blk_sort (fun x : Fin (kb l).length => Value.int .i64 ((x.val : Nat) : Int)) wr (w.heap.size + 1) n (pdK (kb l) hK) os 3 _ kr (by rw [fill_size, hsz])
      have e2 : (ixs (sIdx (kb l))).toArray = (pdK (kb l) hK).map (fun x : Fin (kb l).length => Value.int .i64 ((x.val : Nat) : Int)) := by
        unfold sIdx ixs
        rw [dif_pos hK]
        apply Array.toList_inj.1
        simp
      rw [e2]
      exact h1
    · have h2 := mod_sort (fun x : Fin (kb l).length => Value.int .i64 ((x.val : Nat) : Int)) wr (w.heap.size + 1) 0 n (pdK (kb l) hK) os
      exact ⟨h2.os.trans hb.os, h2.tape.trans hb.tape, h2.output.trans hb.output, Nat.le_trans hb.size h2.size, fun k hk => (h2.block k (Nat.lt_of_lt_of_le (by omega) hb.size) (by simp; omega)).trans (hb.block k hk)⟩
  · obtain rfl : l = [] := List.eq_nil_of_length_eq_zero (by omega)
    have h := AnyF.slices_SortFunc_none (P := Try.prog) (ρ := Try.sortInt_ren) { Try.sortInt with } (some ⟨w.heap.size + 1, 0, none⟩) 0 (.func (.func 14) #[] #[.pointer (some ⟨w.heap.size, 0, none⟩)]) wr
    have h2 : Calls Try.prog 13 #[.slice (some ⟨w.heap.size + 1, 0, none⟩) 0 0, .func (.func 14) #[] #[.pointer (some ⟨w.heap.size, 0, none⟩)]] wr fun e w' => e = .returned (.tuple #[]) ∧ w' = wr := h
    refine Calls.mono h2 ?_
    rintro e w' ⟨rfl, rfl⟩
    exact ⟨rfl, by simpa [fill, ixs, sIdx, kb] using kr, hb⟩
theorem sorted_all (w : World) (B : Nat) (v : Value) (l : List Pr) (h : Md B w v l) (hn : l.length ≤ 100) : Calls Try.prog 12 #[v] w (PIx w (sIdx (kb l))) :=
  sorted_any w B v l h hn fun wr A A' c c' hm kr k0 hb => sortCall w wr B A A' c c' l hn hm kr k0 hb
end Go.Proofs.Ytpgonjoaeliccaa
