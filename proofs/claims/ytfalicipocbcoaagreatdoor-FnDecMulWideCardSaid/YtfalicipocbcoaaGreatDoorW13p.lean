/- Words of two's complement: negation, the plain law. (YtfalicipocbcoaaGreatDoor) -/
import Derived.Test.YtfalicipocbcoaaGreatDoorW11p
set_option linter.unusedVariables false
set_option linter.unusedSimpArgs false
namespace Go.Proofs.YtfalicipocbcoaaGreatDoor
open Go.RowKit Go.ChangeShapes Go.WideShapes Go.ChangeAt
def wb (n : Nat) : Int := 2 ^ (64 * n)
theorem wb_succ (n : Nat) : wb (n + 1) = 18446744073709551616 * wb n := by
  unfold wb
  rw [show 64 * (n + 1) = 64 + 64 * n by omega, p2_add]; rfl
theorem wb_pos (n : Nat) : 0 < wb n := p2_pos _
theorem sm64_cons {d : Int} {ds : List Int} (h : Sm64 (d :: ds)) : (0 ≤ d ∧ d < 18446744073709551616) ∧ Sm64 ds := ⟨h d (by simp), fun x hx => h x (by simp [hx])⟩
theorem uv_bd {l : List Int} (h : Sm64 l) : 0 ≤ uv l ∧ uv l < wb l.length := by
  have := uv_lt h
  rwa [bp_two, show 32 * (2 * l.length) = 64 * l.length by omega] at this
/-- words are told by the number that they are. -/
theorem words_inj : ∀ {a b : List Int}, Sm64 a → Sm64 b → a.length = b.length → uv a = uv b → a = b
  | [], [], _, _, _, _ => rfl
  | [], _ :: _, _, _, h, _ => by simp at h
  | _ :: _, [], _, _, h, _ => by simp at h
  | x :: a, y :: b, ha, hb, hl, he => by
    obtain ⟨h1, h2⟩ := sm64_cons ha
    obtain ⟨h3, h4⟩ := sm64_cons hb
    simp only [uv] at he
    have e1 : x = y := by omega
    have e2 : uv a = uv b := by omega
    rw [e1, words_inj h2 h4 (by simpa using hl) e2]
theorem twos_sm (z : Int) (n : Nat) : Sm64 (twos z n) := fun x hx => by
  simp only [twos, List.mem_map] at hx
  obtain ⟨i, _, rfl⟩ := hx
  omega
theorem twos_succ (z : Int) (n : Nat) : twos z (n + 1) = z % 18446744073709551616 :: twos (z / 18446744073709551616) n := by
  unfold twos
  rw [List.range_succ_eq_map, List.map_cons, List.map_map]
  congr 1
  · simp
  · apply List.map_congr_left
    intro i _
    simp only [Function.comp]
    rw [show 64 * (i + 1) = 64 + 64 * i by omega, p2_add, show (2 : Int) ^ 64 = 18446744073709551616 from rfl, Int.ediv_ediv_of_nonneg (by decide)]
theorem twos_uv (n : Nat) : ∀ z : Int, uv (twos z n) = z % wb n := by
  induction n with
  | zero => intro z; simp [twos, uv, wb]
  | succ n ih =>
    intro z
    rw [twos_succ, uv, ih, wb_succ]
    have hp := wb_pos n
    have h1 := Int.emod_add_mul_ediv z 18446744073709551616
    have h2 := Int.emod_add_mul_ediv (z / 18446744073709551616) (wb n)
    have h3 := Int.emod_nonneg (z / 18446744073709551616) (show wb n ≠ 0 by omega)
    have h4 := Int.emod_lt_of_pos (z / 18446744073709551616) hp
    have h5 := Int.emod_nonneg z (show (18446744073709551616 : Int) ≠ 0 by decide)
    have h6 := Int.emod_lt_of_pos z (show (0 : Int) < 18446744073709551616 by decide)
    generalize z / 18446744073709551616 = q at *
    generalize z % 18446744073709551616 = r at *
    generalize q % wb n = s at *
    generalize q / wb n = t at *
    rw [← h1, ← h2]
    rw [show r + 18446744073709551616 * (s + wb n * t) = (r + 18446744073709551616 * s) + 18446744073709551616 * wb n * t by rw [Int.mul_add, Int.mul_assoc]; omega]
    rw [Int.add_mul_emod_self_left, Int.emod_eq_of_lt (by omega) (by omega)]
theorem words_twos {a : List Int} {z : Int} {n : Nat} (h : Sm64 a) (hl : a.length = n) (he : uv a % wb n = z % wb n) : a = twos z n := by
  apply words_inj h (twos_sm z n) (by rw [twos_length]; exact hl)
  obtain ⟨h1, h2⟩ := uv_bd h
  rw [hl] at h2
  rw [twos_uv, ← he, Int.emod_eq_of_lt h1 h2]
/-- the words of the number with the other sign. -/
def negl : List Int → Int → List Int
  | [], _ => []
  | a :: ds, c => (18446744073709551615 - a + c) % 18446744073709551616 :: negl ds (if (18446744073709551615 - a + c) % 18446744073709551616 = 0 then c else 0)
theorem negl_length : ∀ (l : List Int) (c : Int), (negl l c).length = l.length
  | [], _ => rfl
  | a :: ds, c => by simp [negl, negl_length ds]
theorem negl_sm : ∀ (l : List Int) (c : Int), Sm64 (negl l c)
  | [], _ => fun x hx => by simp [negl] at hx
  | a :: ds, c => fun x hx => by
    simp only [negl, List.mem_cons] at hx
    rcases hx with rfl | hx
    · omega
    · exact negl_sm ds _ x hx
theorem negl_uv : ∀ (l : List Int) (c : Int), Sm64 l → (c = 0 ∨ c = 1) → ∃ t : Int, uv (negl l c) = c - 1 - uv l + t * wb l.length
  | [], c, _, hc => ⟨1 - c, by simp [negl, uv, wb]; omega⟩
  | a :: ds, c, h, hc => by
    obtain ⟨h1, h2⟩ := sm64_cons h
    by_cases h0 : c = 1 ∧ a = 0
    · obtain ⟨rfl, rfl⟩ := h0
      obtain ⟨t, ht⟩ := negl_uv ds 1 h2 (.inr rfl)
      refine ⟨t, ?_⟩
      simp only [negl, uv, List.length_cons, wb_succ]
      rw [show ((18446744073709551615 - 0 + 1) % 18446744073709551616 : Int) = 0 from rfl, if_pos rfl, ht, Int.mul_left_comm t]
      rw [Int.mul_add]
      omega
    · obtain ⟨t, ht⟩ := negl_uv ds 0 h2 (.inl rfl)
      refine ⟨t, ?_⟩
      simp only [negl, uv, List.length_cons, wb_succ]
      have hx : (18446744073709551615 - a + c) % 18446744073709551616 = 18446744073709551615 - a + c := by omega
      have hcy : (if (18446744073709551615 - a + c) % 18446744073709551616 = 0 then c else 0) = 0 := by
        split
        · omega
        · rfl
      rw [hcy, hx, ht, Int.mul_left_comm t, Int.mul_add]
      omega
theorem negl_twos {l : List Int} {z : Int} {n : Nat} (h : Sm64 l) (hl : l.length = n) (he : uv l % wb n = z % wb n) : negl l 1 = twos (-z) n := by
  apply words_twos (negl_sm l 1) (by rw [negl_length]; exact hl)
  obtain ⟨t, ht⟩ := negl_uv l 1 h (.inr rfl)
  rw [hl] at ht
  rw [ht]
  have h1 := Int.emod_add_mul_ediv (uv l) (wb n)
  have h2 := Int.emod_add_mul_ediv z (wb n)
  rw [he] at h1
  generalize z % wb n = r at *
  rw [show 1 - 1 - uv l + t * wb n = -z + wb n * (t - uv l / wb n + z / wb n) by
    rw [Int.mul_add, Int.mul_sub, Int.mul_comm (wb n) t]; omega]
  rw [Int.add_mul_emod_self_left]
theorem sv_mod (l : List Int) (n : Nat) (hl : l.length = n) : uv l % wb n = sv l % wb n := by
  unfold sv
  split
  · rw [hl]
    show _ = (uv l - wb n) % wb n
    rw [Int.sub_emod_right]
  · rfl
theorem twos_sv {l : List Int} (h : Sm64 l) {n : Nat} (hl : l.length = n) : l = twos (sv l) n := words_twos h hl (sv_mod l n hl)
theorem negl_sv {l : List Int} (h : Sm64 l) {n : Nat} (hl : l.length = n) : negl l 1 = twos (-sv l) n := negl_twos h hl (sv_mod l n hl)
end Go.Proofs.YtfalicipocbcoaaGreatDoor
