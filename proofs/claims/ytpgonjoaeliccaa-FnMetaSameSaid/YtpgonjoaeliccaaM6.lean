/- Metadata's places in the order of its keys. (Ytpgonjoaeliccaa) -/
import Derived.Test.YtpgonjoaeliccaaM5
set_option linter.unusedVariables false
set_option linter.unusedSimpArgs false
namespace Go.Proofs.Ytpgonjoaeliccaa
open Go.RowKit Go.ChangeShapes Go.WideShapes Go.ChangeAt
attribute [local go_sem ↓] Go.wp_at_zero Go.wp_at_succ
def kb (l : List Pr) : List (List UInt8) := l.map fun p => p.1.data.toList
def ixs (xs : List Nat) : List Value := xs.map fun (i : Nat) => Value.int .i64 (i : Int)
def PIx (w : World) (xs : List Nat) (e : Ending) (w' : World) : Prop := ∃ A c, e = .returned (.slice A xs.length c) ∧ xs.length ≤ c ∧ Sl w' w'.heap.size A xs.length (ixs xs) ∧ Below w.heap.size w w'
def IR (w : World) (n : Nat) (V : Array Value) (v11 : Value) (wr : World) : Prop := ∃ k : Nat, k ≤ n ∧ v11 = .int .i64 (k : Int) ∧ Blk wr (w.heap.size + 1) 3 (fill k n) ∧ Blk wr w.heap.size 33 V ∧ Below w.heap.size w wr
theorem ir_next {w wr : World} {n k : Nat} {V : Array Value} (hk : k < n) (h1 : Blk wr (w.heap.size + 1) 3 (fill k n)) (h2 : Blk wr w.heap.size 33 V) (h3 : Below w.heap.size w wr) : IR w n V (.int .i64 ((k : Int) + 1)) (wr.setCell ⟨w.heap.size + 1, k, none⟩ (.int .i64 (k : Int))) :=
  ⟨k + 1, by omega, by simp, by have := h1.set k (.int .i64 (k : Int)); rw [fill_set k n hk] at this; exact this, h2.other (by simp) _, h3.setCell (by simp) _⟩
set_option maxRecDepth 100000 in
set_option maxHeartbeats 4000000 in
theorem sorted_any (w : World) (B : Nat) (v : Value) (l : List Pr) (h : Md B w v l) (hn : l.length ≤ 100)
    (hS : ∀ (wr : World) (A A' : Option Addr) (c c' : Nat), Md B w (.agg #[.slice A l.length c, .slice A' l.length c']) l → Blk wr (w.heap.size + 1) 3 (fill l.length l.length) → Blk wr w.heap.size 33 #[.slice A l.length c, .slice A' l.length c'] → Below w.heap.size w wr →
      Calls Try.prog 13 #[.slice (some ⟨w.heap.size + 1, 0, none⟩) l.length l.length, .func (.func 14) #[] #[.pointer (some ⟨w.heap.size, 0, none⟩)]] wr fun e w' => e = .returned (.tuple #[]) ∧ Blk w' (w.heap.size + 1) 3 (ixs (sIdx (kb l))).toArray ∧ Below w.heap.size w w') :
    Calls Try.prog 12 #[v] w (PIx w (sIdx (kb l))) := by
  have hmd := h
  obtain ⟨A, c, A', c', rfl, hc, hc', hr1, hr2⟩ := h
  have HM := hide hmd
  have HS := hide hS
  clear hr1 hr2 hmd hS
  have hmk := make38 l.length hn
  have hlen : (sIdx (kb l)).length = l.length := by rw [sIdx_len]; simp [kb]
  have HL := hide hlen
  clear hlen
  have hP := hide (fun (w' : World) (h1 : Blk w' (w.heap.size + 1) 3 (ixs (sIdx (kb l))).toArray) (h2 : Below w.heap.size w w') => (show PIx w (sIdx (kb l)) (.returned (.slice (some ⟨w.heap.size + 1, 0, none⟩) l.length l.length)) w' from
    ⟨some ⟨w.heap.size + 1, 0, none⟩, l.length, by rw [unhide HL], by rw [unhide HL]; exact Nat.le_refl _, ⟨by simp [ixs], fun _ => ⟨w.heap.size + 1, 0, rfl, h1.lt, fun j u hu => by
      have := h1.cell j
      rw [Nat.zero_add, this]
      simpa using hu⟩⟩, h2⟩))
  go_enter Try.func12, Try.ntmps12
  go_wp2_with fail
  have k0 : Blk ((w.alloc (.cells #[.slice A l.length c, .slice A' l.length c'] 33)).alloc (.cells (fill 0 l.length) 3)) w.heap.size 33 #[.slice A l.length c, .slice A' l.length c'] := (Blk.new _ _ rfl).alloc _
  have k1 : Blk ((w.alloc (.cells #[.slice A l.length c, .slice A' l.length c'] 33)).alloc (.cells (fill 0 l.length) 3)) (w.heap.size + 1) 3 (fill 0 l.length) := Blk.new _ _ (by simp)
  have h00 := hide (show IR w l.length #[.slice A l.length c, .slice A' l.length c'] (.int .i64 0) _ from ⟨0, by omega, rfl, k1, k0, ((Below.refl _ _).alloc (Nat.le_refl _) _).alloc (by simp) _⟩)
  clear k0 k1 hmk
  go_loopw [11] (IR w l.length #[.slice A l.length c, .slice A' l.length c']) (fun v _ => l.length - (intOf v).toNat)
  case atStart => exact unhide h00
  case round =>
    obtain ⟨k, hk, rfl, kr, k0, hb⟩ := hrel
    by_cases hlt : k < l.length
    · have hr := hide (ir_next hlt kr k0 hb)
      obtain ⟨old, y0⟩ : ∃ old, wr.cell? ⟨w.heap.size + 1, k, none⟩ = some old := ⟨_, (kr.cell k).trans (Array.getElem?_eq_getElem (by rw [fill_size]; exact hlt))⟩
      have f0 := kr.frozen k
      clear kr k0 hb
      go_wp2_with fail
      exact ⟨unhide hr, by simp [intOf]; omega⟩
    · obtain rfl : k = l.length := by omega
      have HC := hide ((unhide HS) wr A A' c c' (unhide HM) kr k0 hb)
      clear kr k0 hb
      go_wp2_with (go_at_call 13; (with_reducible refine (unhide HC).mono ?_); rintro e w7 ⟨rfl, h1, h2⟩; have HF := hide ((unhide hP) _ h1 h2); clear h1 h2)
      go_ret
      exact unhide HF
end Go.Proofs.Ytpgonjoaeliccaa
