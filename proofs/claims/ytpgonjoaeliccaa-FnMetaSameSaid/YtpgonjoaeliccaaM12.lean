/- The law FnMetaSame: the walk. (Ytpgonjoaeliccaa) -/
import Derived.Test.YtpgonjoaeliccaaM11
set_option linter.unusedVariables false
set_option linter.unusedSimpArgs false
namespace Go.Proofs.Ytpgonjoaeliccaa
open Go.RowKit Go.ChangeShapes Go.WideShapes Go.ChangeAt
attribute [local go_sem ↓] Go.wp_at_zero Go.wp_at_succ
def POut (w : World) (e : Ending) (w' : World) : Prop := e = .returned (.bool true) ∧ Below w.heap.size w w'
theorem pout_mk {w w' : World} (h : Below w.heap.size w w') : POut w (.returned (.bool true)) w' := ⟨rfl, h⟩
def pq : Pr := (⟨#[97]⟩, ⟨#[98]⟩)
theorem one_any (W : World) (g : Nat) (h : Blk W g 25 #[.string ⟨#[97]⟩, .string ⟨#[98]⟩]) : Calls Try.prog 5 #[.slice (some ⟨g, 0, none⟩) 1 1, .slice (some ⟨g, 0, none⟩) 1 1] W (PSame W true) := by
  have hp : Ps W (.slice (some ⟨g, 0, none⟩) 1 1) [pq] := ⟨_, 1, rfl, Nat.le_refl _, fun _ => ⟨g, 0, rfl, h.lt, fun k hk => by
    obtain rfl : k = 0 := by simpa using hk
    have h0 := h.cell 0
    have h1 := h.cell 1
    simp at h0 h1
    exact ⟨by simpa [pq] using h0, by simpa [pq] using h1⟩⟩⟩
  have := same_any W _ _ [pq] [pq] hp hp (by simp) (by simp)
  rw [metaB_same] at this
  exact this
theorem Sz.mk_ {l : List Pr} (h : Sz l) : l.length ≤ 9223372036854775807 := h.1
set_option maxRecDepth 100000 in
set_option maxHeartbeats 4000000 in
theorem lawT_long (w : World) (va vb : Value) (la lb : List Pr) (ha : Ps w va la) (hb : Ps w vb lb) (hza : Sz la) (hzb : Sz lb) (hlong : 100 < la.length ∨ 100 < lb.length) :
    Calls Try.prog 3 #[va, vb] w (POut w) := by
  have hZA := hide (zz4_any w va la ha hza)
  have hZB := hide (fun (W : World) (h : Below w.heap.size w W) => zz4_any W vb lb (hb.below h) hzb)
  have hP := hide (fun (W : World) (h : Below w.heap.size w W) => pout_mk h)
  obtain ⟨A, c, rfl, hc, _⟩ := ha
  obtain ⟨C, d, rfl, hd, _⟩ := hb
  have hm1 := hza.1
  have hm2 := hzb.1
  clear hza hzb
  generalize la.length = n at *
  generalize lb.length = m at *
  go_enter Try.func3, Try.ntmps3
  go_wp2_with fail
  refine (unhide hZA).mono ?_
  rintro e w1 ⟨b1, rfl, hb1⟩
  cases b1
  case false =>
    go_wp2_with fail
    go_ret
    exact (unhide hP) _ hb1
  case true =>
    go_wp2_with fail
    refine ((unhide hZB) _ hb1).mono ?_
    rintro e w2 ⟨b2, rfl, hb2⟩
    have hB2 := below_tr hb1 hb2 hb1.size
    cases b2
    case false =>
      go_wp2_with fail
      go_ret
      exact (unhide hP) _ hB2
    case true =>
      have kb := Blk.new (w := w2) (g := w2.heap.size) 25 #[.string ⟨#[97]⟩, .string ⟨#[98]⟩] rfl
      have hB3 := hB2.alloc hB2.size (.cells #[.string ⟨#[97]⟩, .string ⟨#[98]⟩] 25)
      by_cases h1 : 100 < n
      · go_wp2_with (go_at_call 5; (with_reducible refine (one_any _ _ kb).mono ?_); rintro e w4 ⟨rfl, hb4⟩; have hB4 := below_tr hB3 hb4 hB3.size)
        all_goals first | (go_ret; exact (unhide hP) _ hB4) | (exfalso; simp at *; omega)
      · have h2 : 100 < m := by omega
        go_wp2_with (go_at_call 5; (with_reducible refine (one_any _ _ kb).mono ?_); rintro e w4 ⟨rfl, hb4⟩; have hB4 := below_tr hB3 hb4 hB3.size)
        all_goals first | (go_ret; exact (unhide hP) _ hB4) | (exfalso; simp at *; omega)
end Go.Proofs.Ytpgonjoaeliccaa
