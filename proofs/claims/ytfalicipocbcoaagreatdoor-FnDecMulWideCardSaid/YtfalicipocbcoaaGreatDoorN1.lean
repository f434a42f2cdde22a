/- Natural numbers multiplied: math/big's words, one after the other. (YtfalicipocbcoaaGreatDoor) -/
import Derived.Test.YtfalicipocbcoaaGreatDoorW7
import Derived.Shelf.Small.Bits
import Derived.Shelf.Bits.Mul64
import Derived.Laws.Externs
import Derived.Test.YtfalicipocbcoaaGreatDoorShelf
import Derived.Test.YtfalicipocbcoaaGreatDoorW13p
import Derived.Test.YtfalicipocbcoaaGreatDoorW9
import Derived.BigQuiet
import Derived.Deep.QuietTactic
import Derived.Laws.CopyRow
import Derived.Laws.Tables
import Derived.Deep.RegionHeld3
import Derived.LaidEqlPtr
set_option linter.unusedVariables false
set_option linter.unusedSimpArgs false
namespace Go.Proofs.YtfalicipocbcoaaGreatDoor
section
open Go.RowKit Go.ChangeShapes Go.WideShapes Go.ChangeAt
def b64 : Int := 18446744073709551616
theorem len_any (x : Int) (w : World) (h0 : 0 ≤ x) (h1 : x ≤ 18446744073709551615) : Calls Tryz.prog 53 #[.int .u64 x] w fun e w' => e = .returned (.int .i64 (Lib.bitLen x.toNat)) ∧ w' = w := Any.bits_Len Tryz.lenL x w h0 h1
theorem bmulN_any (x y : Nat) (hx : x < 18446744073709551616) (hy : y < 18446744073709551616) (w : World) :
    Calls Tryz.prog 70 #[.int .u64 x, .int .u64 y] w fun e w' => e = .returned (.tuple #[.int .u64 ((x * y / 18446744073709551616 : Nat) : Int), .int .u64 ((x * y % 18446744073709551616 : Nat) : Int)]) ∧ w' = w := Any.bits_Mul Tryz.mulL x y hx hy w
theorem add64_run (x y c : Int) (hx : 0 ≤ x) (hy : 0 ≤ y) (hc0 : 0 ≤ c) (hc : c ≤ 1) (w : World) :
    (callFunc 99 #[.int .u64 x, .int .u64 y, .int .u64 c]).run Tryz.prog w = .ok (.value (.tuple #[.int .u64 ((x + y + c) % 18446744073709551616), .int .u64 ((x + y + c) / 18446744073709551616)])) w := by
  rw [run_callFunc_extern Tryz.func99 (by kernel_rfl) (by kernel_rfl) (by kernel_rfl) (e := add64Entry) (by kernel_rfl), run_add64 x y c hx hy hc0 hc]
  simp only [Result.andThen]
set_option maxRecDepth 100000 in
theorem badd_any (x y : Int) (hx : 0 ≤ x) (hy : 0 ≤ y) (w : World) : Calls Tryz.prog 94 #[.int .u64 x, .int .u64 y, .int .u64 0] w fun e w' => e = .returned (.tuple #[.int .u64 ((x + y) % 18446744073709551616), .int .u64 ((x + y) / 18446744073709551616)]) ∧ w' = w := by
  have hA := add64_run x y 0 hx hy (by decide) (by decide) w
  rw [Int.add_zero] at hA
  go_enter Tryz.func94, Tryz.ntmps94
  go_wp2_with fail
  go_ret2
  exact ⟨rfl, rfl⟩
/-- the high and the low word of x * y + c. -/
theorem mww_any (x y c : Int) (hx : 0 ≤ x ∧ x < 18446744073709551616) (hy : 0 ≤ y ∧ y < 18446744073709551616) (hc : 0 ≤ c ∧ c < 18446744073709551616) (w : World) :
    Calls Tryz.prog 95 #[.int .u64 x, .int .u64 y, .int .u64 c] w fun e w' => e = .returned (.tuple #[.int .u64 ((x * y + c) / 18446744073709551616), .int .u64 ((x * y + c) % 18446744073709551616)]) ∧ w' = w := by
  obtain ⟨X, rfl⟩ := Int.eq_ofNat_of_zero_le hx.1
  obtain ⟨Y, rfl⟩ := Int.eq_ofNat_of_zero_le hy.1
  have hM := fun W => bmulN_any X Y (by omega) (by omega) W
  have hp : (X : Int) * (Y : Int) ≤ 18446744073709551615 * 18446744073709551615 := by
    have h1 : (X : Int) ≤ 18446744073709551615 := by omega
    have h2 : (Y : Int) ≤ 18446744073709551615 := by omega
    exact Int.mul_le_mul h1 h2 hy.1 (by decide)
  have hp0 : 0 ≤ (X : Int) * (Y : Int) := Int.mul_nonneg hx.1 hy.1
  have e1 : ((X * Y / 18446744073709551616 : Nat) : Int) = (X : Int) * (Y : Int) / 18446744073709551616 := by rw [← Int.natCast_mul]; omega
  have e2 : ((X * Y % 18446744073709551616 : Nat) : Int) = (X : Int) * (Y : Int) % 18446744073709551616 := by rw [← Int.natCast_mul]; omega
  rw [e1, e2] at hM
  have hA := fun W => badd_any ((X : Int) * (Y : Int) % 18446744073709551616) c (by omega) hc.1 W
  generalize (X : Int) * (Y : Int) = p at *
  have HF := hide (show p / 18446744073709551616 + (p % 18446744073709551616 + c) / 18446744073709551616 = (p + c) / 18446744073709551616 by omega)
  clear e1 e2
  go_enter Tryz.func95, Tryz.ntmps95
  go_wp2_with (first | (go_at_call 70; refine (hM _).mono ?_; rintro e w' ⟨rfl, rfl⟩) | (go_at_call 94; refine (hA _).mono ?_; rintro e w' ⟨rfl, rfl⟩) | fail)
  go_ret2
  refine ⟨?_, rfl⟩
  show Ending.returned (.tuple #[.int .u64 (p / 18446744073709551616 + (p % 18446744073709551616 + c) / 18446744073709551616), .int .u64 ((p + c) % 18446744073709551616)]) = _
  rw [unhide HF]
end
section
open Go.RowKit
theorem uv_nil : uv [] = 0 := rfl
theorem wb_zero : wb 0 = 1 := rfl
theorem wb_add (m n : Nat) : wb (m + n) = wb m * wb n := by unfold wb; rw [Nat.mul_add]; exact Int.pow_add _ _ _
theorem uv_app (a b : List Int) : uv (a ++ b) = uv a + wb a.length * uv b := by
  induction a with
  | nil => simp [uv, wb_zero]
  | cons d ds ih =>
    show d + 18446744073709551616 * uv (ds ++ b) = d + 18446744073709551616 * uv ds + wb (ds.length + 1) * uv b
    rw [ih, wb_succ, Int.mul_add, Int.mul_assoc]; omega
theorem uv_take1 (l : List Int) (k : Nat) (hk : k < l.length) : uv (l.take (k + 1)) = uv (l.take k) + wb k * l.getD k 0 := by
  have e : l.take (k + 1) = l.take k ++ [l.getD k 0] := by
    rw [List.take_succ_eq_append_getElem hk, List.getD_eq_getElem?_getD, List.getElem?_eq_getElem hk]; rfl
  rw [e, uv_app, List.length_take, Nat.min_eq_left (by omega)]
  show _ + wb k * (l.getD k 0 + 18446744073709551616 * 0) = _
  rw [Int.mul_zero, Int.add_zero]
theorem uv_take_drop (l : List Int) (k : Nat) (hk : k ≤ l.length) : uv l = uv (l.take k) + wb k * uv (l.drop k) := by
  have := uv_app (l.take k) (l.drop k)
  rw [List.take_append_drop, List.length_take, Nat.min_eq_left hk] at this
  exact this
theorem uv_set (l : List Int) (i : Nat) (x : Int) (hi : i < l.length) : uv (l.set i x) = uv l + wb i * (x - l.getD i 0) := by
  induction l generalizing i with
  | nil => simp at hi
  | cons d ds ih =>
    cases i with
    | zero => show x + 18446744073709551616 * uv ds = d + 18446744073709551616 * uv ds + 1 * (x - d); omega
    | succ i =>
      show d + 18446744073709551616 * uv (ds.set i x) = d + 18446744073709551616 * uv ds + wb (i + 1) * (x - ds.getD i 0)
      rw [ih i (by simpa using hi), wb_succ, Int.mul_add, Int.mul_assoc]; omega
theorem uv_zeros (n : Nat) : uv (List.replicate n 0) = 0 := by
  induction n with
  | zero => rfl
  | succ n ih => rw [List.replicate_succ]; show 0 + 18446744073709551616 * uv (List.replicate n 0) = 0; rw [ih]; rfl
theorem sm64_zeros (n : Nat) : Sm64 (List.replicate n 0) := fun x hx => by rw [List.eq_of_mem_replicate hx]; decide
theorem sm64_set {l : List Int} (h : Sm64 l) (i : Nat) {x : Int} (h0 : 0 ≤ x) (h1 : x < 18446744073709551616) : Sm64 (l.set i x) := fun y hy => by
  rcases List.mem_or_eq_of_mem_set hy with h2 | h2
  · exact h y h2
  · subst h2; exact ⟨h0, h1⟩
theorem sm64_take {l : List Int} (h : Sm64 l) (k : Nat) : Sm64 (l.take k) := fun x hx => h x (List.mem_of_mem_take hx)
theorem mul_step64 (D c P x k T : Int) (hT : T = P + x + c) : D + k * (T % 18446744073709551616 - x) + T / 18446744073709551616 * (18446744073709551616 * k) = D + c * k + k * P := by
  have h := Int.emod_add_mul_ediv T 18446744073709551616
  have e : D + k * (T % 18446744073709551616 - x) + T / 18446744073709551616 * (18446744073709551616 * k) = D + k * (T % 18446744073709551616 + 18446744073709551616 * (T / 18446744073709551616)) - k * x := by
    rw [Int.mul_sub, Int.mul_add]
    have : T / 18446744073709551616 * (18446744073709551616 * k) = k * (18446744073709551616 * (T / 18446744073709551616)) := by
      rw [← Int.mul_assoc, Int.mul_comm (T / 18446744073709551616) 18446744073709551616, Int.mul_comm]
    omega
  rw [e, h, hT, Int.mul_add, Int.mul_add, Int.mul_comm k c]
  omega
/-- one word of a row. -/
theorem amv_step {Z Z0 X : List Int} {i k : Nat} {c d T : Int} (hi : i + k < Z.length) (hk : k < X.length) (he : uv Z + c * wb (i + k) = uv Z0 + wb i * (d * uv (X.take k))) (hT : T = X.getD k 0 * d + Z.getD (i + k) 0 + c) :
    uv (Z.set (i + k) (T % 18446744073709551616)) + T / 18446744073709551616 * wb (i + (k + 1)) = uv Z0 + wb i * (d * uv (X.take (k + 1))) := by
  rw [uv_set _ _ _ hi, show i + (k + 1) = (i + k) + 1 by omega, wb_succ, mul_step64 (uv Z) c (X.getD k 0 * d) (Z.getD (i + k) 0) (wb (i + k)) T hT, he, uv_take1 X k hk, wb_add]
  rw [Int.mul_add, Int.mul_add]
  have : wb i * wb k * (X.getD k 0 * d) = wb i * (d * (wb k * X.getD k 0)) := by
    rw [Int.mul_assoc]
    congr 1
    rw [← Int.mul_assoc d, Int.mul_comm d (wb k), Int.mul_assoc, Int.mul_comm d]
  omega
end
section
open Go.RowKit Go.ChangeShapes Go.WideShapes Go.ChangeAt
theorem ivs_cell {w : World} {G : Nat} {t : TypeId} {l : List Int} (h : Blk w G t (ivs .u64 l).toArray) (j : Nat) (hj : j < l.length) : w.cell? ⟨G, j, none⟩ = some (.int .u64 (l.getD j 0)) := by
  rw [h.cell, ivs_get _ _ _ hj]
theorem ivs_set {w : World} {G : Nat} {t : TypeId} {l : List Int} (h : Blk w G t (ivs .u64 l).toArray) (j : Nat) (x : Int) : Blk (w.setCell ⟨G, j, none⟩ (.int .u64 x)) G t (ivs .u64 (l.set j x)).toArray := by
  have := h.set j (.int .u64 x)
  rwa [List.setIfInBounds_toArray, show (ivs .u64 l).set j (.int .u64 x) = ivs .u64 (l.set j x) by simp [ivs, List.map_set]] at this
theorem getD_iset (l : List Int) (i j : Nat) (x : Int) (hi : i < l.length) : (l.set i x).getD j 0 = if j = i then x else l.getD j 0 := set_getD l i j x hi
def AR (w : World) (Gz : Nat) (Z X : List Int) (i n : Nat) (d : Int) (v10 v32 : Value) (wr : World) : Prop :=
  ∃ k : Nat, k ≤ n ∧ v32 = .int .i64 (k : Int) ∧ ∃ (c : Int) (Z' : List Int), v10 = .int .u64 c ∧ 0 ≤ c ∧ c < 18446744073709551616 ∧ Z'.length = Z.length ∧ Sm64 Z' ∧ Blk wr Gz 81 (ivs .u64 Z').toArray ∧ Mod [Gz] w wr ∧
    uv Z' + c * wb (i + k) = uv Z + wb i * (d * uv (X.take k)) ∧ (∀ j, i + k ≤ j → Z'.getD j 0 = Z.getD j 0)
set_option maxRecDepth 100000 in
set_option maxHeartbeats 2000000 in
theorem amg_any (w : World) (Gz Gx i n c1 c2 cx : Nat) (Z X : List Int) (d : Int) (hz : Blk w Gz 81 (ivs .u64 Z).toArray) (hx : Blk w Gx 81 (ivs .u64 X).toArray) (hne : Gx ≠ Gz) (hin : i + n ≤ Z.length) (hnX : n ≤ X.length) (hn : n ≤ 100) (hsz : Sm64 Z) (hsx : Sm64 X) (hd : 0 ≤ d ∧ d < 18446744073709551616) :
    Calls Tryz.prog 86 #[.slice (some ⟨Gz, i, none⟩) n c1, .slice (some ⟨Gz, i, none⟩) n c2, .slice (some ⟨Gx, 0, none⟩) n cx, .int .u64 d, .int .u64 0] w fun e w' => ∃ (c : Int) (Z' : List Int), e = .returned (.int .u64 c) ∧ 0 ≤ c ∧ c < 18446744073709551616 ∧ Z'.length = Z.length ∧ Sm64 Z' ∧ Blk w' Gz 81 (ivs .u64 Z').toArray ∧ Mod [Gz] w w' ∧
      uv Z' + c * wb (i + n) = uv Z + wb i * (d * uv (X.take n)) ∧ (∀ j, i + n ≤ j → Z'.getD j 0 = Z.getD j 0) := by
  have h0 := hide (show AR w Gz Z X i n d (.int .u64 0) (.int .i64 0) w from ⟨0, by omega, rfl, 0, Z, rfl, by decide, by decide, rfl, hsz, hz, Mod.refl _ _, by simp [uv], fun _ _ => rfl⟩)
  have HX := hide hx
  clear hz hx
  go_enter Tryz.func86, Tryz.ntmps86
  go_wp2_with fail
  go_loopw [10, 32] (AR w Gz Z X i n d) (fun _ v _ => n - (intOf v).toNat)
  case atStart => exact unhide h0
  case round =>
    obtain ⟨k, hk, rfl, c, Z', rfl, hc0, hc1, hl, hs, hzb, hmr, he, hf⟩ := hrel
    by_cases hlt : k < n
    · have hxb := (unhide HX).mod hmr (by simpa using hne)
      have cz := ivs_cell hzb (i + k) (by omega)
      have fz := hzb.frozen (i + k)
      have cx := ivs_cell hxb k (by omega)
      have hzk := sm64_get hs (i + k)
      have hxk := sm64_get hsx k
      have hst := hide (fun (T : Int) (hT : T = X.getD k 0 * d + Z'.getD (i + k) 0 + c) (W : World) (hW : Blk W Gz 81 (ivs .u64 Z').toArray) (hm : Mod [Gz] w W) (h0 : 0 ≤ T / 18446744073709551616) (h1 : T / 18446744073709551616 < 18446744073709551616) =>
        (show AR w Gz Z X i n d (.int .u64 (T / 18446744073709551616)) (.int .i64 ((k : Int) + 1)) (W.setCell ⟨Gz, i + k, none⟩ (.int .u64 (T % 18446744073709551616))) from
          ⟨k + 1, by omega, by simp, T / 18446744073709551616, Z'.set (i + k) (T % 18446744073709551616), rfl, h0, h1, by rw [List.length_set]; exact hl, sm64_set hs _ (by omega) (by omega), ivs_set hW _ _, hm.setCell (by simp) _, amv_step (by omega) (by omega) he hT, fun j hj => by rw [getD_iset _ _ _ _ (by omega), if_neg (by omega)]; exact hf j (by omega)⟩))
      have KZ := hide hzb
      have KM := hide hmr
      clear hzb hmr h0 hxb he hf hs hl
      have hp : 0 ≤ X.getD k 0 * d ∧ X.getD k 0 * d ≤ 18446744073709551615 * 18446744073709551615 := ⟨Int.mul_nonneg hxk.1 hd.1, Int.mul_le_mul (by omega) (by omega) hd.1 (by decide)⟩
      have hM := hide (fun W => mww_any (X.getD k 0) d (Z'.getD (i + k) 0) hxk hd hzk W)
      generalize hxx : X.getD k 0 = x at *
      generalize Z'.getD (i + k) 0 = z at *
      have hA := hide (fun W => badd_any ((x * d + z) % 18446744073709551616) c (by omega) hc0 W)
      have hT1 : ((x * d + z) % 18446744073709551616 + c) % 18446744073709551616 = (x * d + z + c) % 18446744073709551616 := by omega
      have hT2 : IntKind.u64.wrap (((x * d + z) % 18446744073709551616 + c) / 18446744073709551616 + (x * d + z) / 18446744073709551616) = (x * d + z + c) / 18446744073709551616 := by rw [IntKind.wrap_u64]; omega
      have hT3 : ((x * d + z) % 18446744073709551616 + c) / 18446744073709551616 + (x * d + z) / 18446744073709551616 = (x * d + z + c) / 18446744073709551616 := by omega
      have hT4 : 0 ≤ (x * d + z + c) / 18446744073709551616 ∧ (x * d + z + c) / 18446744073709551616 < 18446744073709551616 := by omega
      have HT := hide (And.intro hT1 (And.intro hT2 (And.intro hT3 hT4)))
      clear hT1 hT2 hT3 hT4 hp
      go_upto_region 7 with (fail)
      go_quiet ((go_at_call 95; refine Calls.quiet_of_same ((unhide hM) _)))
      go_wp2_with (first | (go_at_call 94; refine ((unhide hA) _).mono ?_; rintro e w' ⟨rfl, rfl⟩) | fail)
      obtain ⟨t1, t2, t3, t4, t5⟩ := unhide HT
      rw [t2]
      exact ⟨unhide hst _ rfl _ ((unhide KZ).drewN nq) ((unhide KM).drewN nq) t4 t5, by simp [intOf]; omega⟩
    · obtain rfl : k = n := by omega
      go_wp2_with fail
      go_ret
      exact ⟨c, Z', rfl, hc0, hc1, hl, hs, hzb, hmr, he, hf⟩
theorem amv_any (w : World) (Gz Gx i n c1 c2 cx : Nat) (Z X : List Int) (d : Int) (hz : Blk w Gz 81 (ivs .u64 Z).toArray) (hx : Blk w Gx 81 (ivs .u64 X).toArray) (hne : Gx ≠ Gz) (hin : i + n ≤ Z.length) (hnX : n ≤ X.length) (hn : n ≤ 100) (hsz : Sm64 Z) (hsx : Sm64 X) (hd : 0 ≤ d ∧ d < 18446744073709551616) :
    Calls Tryz.prog 71 #[.slice (some ⟨Gz, i, none⟩) n c1, .slice (some ⟨Gz, i, none⟩) n c2, .slice (some ⟨Gx, 0, none⟩) n cx, .int .u64 d, .int .u64 0] w fun e w' => ∃ (c : Int) (Z' : List Int), e = .returned (.int .u64 c) ∧ 0 ≤ c ∧ c < 18446744073709551616 ∧ Z'.length = Z.length ∧ Sm64 Z' ∧ Blk w' Gz 81 (ivs .u64 Z').toArray ∧ Mod [Gz] w w' ∧
      uv Z' + c * wb (i + n) = uv Z + wb i * (d * uv (X.take n)) ∧ (∀ j, i + n ≤ j → Z'.getD j 0 = Z.getD j 0) := by
  have hM := hide (amg_any w Gz Gx i n c1 c2 cx Z X d hz hx hne hin hnX hn hsz hsx hd)
  clear hz hx
  go_enter Tryz.func71, Tryz.ntmps71
  go_wp2_with (first | (go_at_call 86; (with_reducible refine (unhide hM).mono ?_); rintro e w1 ⟨c, Z', rfl, h1, h2, h3, h4, h5, h6, h7, h8⟩) | fail)
  go_ret
  exact ⟨c, Z', rfl, h1, h2, h3, h4, h5, h6, h7, h8⟩
end
section
open Go.RowKit Go.ChangeShapes Go.WideShapes Go.ChangeAt Go
theorem setRow_same (w : World) (g : Nat) (cs : Array Value) (t : TypeId) (fr : Nat × Nat) (hg : w.heap[g]? = some (.cells cs t fr)) : w.setRow g cs = w := by
  have hlt : g < w.heap.size := (Array.getElem?_eq_some_iff.1 hg).1
  have hv : w.heap[g] = .cells cs t fr := (Array.getElem?_eq_some_iff.1 hg).2
  have e : (w.setRow g cs).heap = w.heap := by
    unfold World.setRow
    apply Array.ext
    · simp
    · intro i h1 h2
      simp only [Array.getElem_modify]
      split
      · next h => subst h; rw [hv]
      · rfl
  have e2 : w.setRow g cs = { w with heap := (w.setRow g cs).heap } := rfl
  rw [e2, e]
theorem info81 : (Tryz.prog.info? 81).map (fun i => (i.zero, i.size, i.bytes)) = some (some (.int .u64 0), 1, 8) := by kernel_rfl
theorem under85 : Tryz.prog.underlying 85 = some (.slice 81) := by kernel_rfl
theorem zc_rep (n : Nat) : (Builtin.zeroCells (Value.cells (.int .u64 0)) n).toList = ivs .u64 (List.replicate n 0) := by
  simp [ivs, Builtin.zeroCells, Value.cells]
  apply List.ext_getElem
  · simp
  · intro i h1 h2
    simp [Nat.mod_one]
set_option maxRecDepth 10000 in
theorem clear_run (w : World) (G N n c : Nat) (hz : Blk w G 81 (ivs .u64 (List.replicate N 0)).toArray) (hn : n ≤ N) (h0 : 0 < n) :
    (Builtin.clear_ #[85] 0 #[.slice (some ⟨G, 0, none⟩) n c]).run Tryz.prog w = .ok (.tuple #[]) w := by
  obtain ⟨i0, hi, hz0, hz1, hz2⟩ := info_parts info81
  obtain ⟨m, rfl⟩ : ∃ m, n = m + 1 := ⟨n - 1, by omega⟩
  have hst := run_storeCells_at Tryz.prog G 0 81 (ivs .u64 (List.replicate (m + 1) 0)) 0 (ivs .u64 (List.replicate N 0)).toArray w hz (by simp [ivs]; omega) (ivs_one _ _)
  have e : ((ivs .u64 (List.replicate N 0)).toArray.toList.take (0 + 0) ++ ivs .u64 (List.replicate (m + 1) 0) ++ (ivs .u64 (List.replicate N 0)).toArray.toList.drop (0 + 0 + (ivs .u64 (List.replicate (m + 1) 0)).length)).toArray = (ivs .u64 (List.replicate N 0)).toArray := by
    congr 1
    have e1 : ivs .u64 (List.replicate N 0) = List.replicate N (Value.int .u64 0) := by simp [ivs]
    have e2 : ivs .u64 (List.replicate (m + 1) 0) = List.replicate (m + 1) (Value.int .u64 0) := by simp only [ivs, List.map_replicate]
    rw [e1, e2, List.length_replicate]
    show List.take 0 _ ++ List.replicate (m + 1) (Value.int .u64 0) ++ List.drop (0 + 0 + (m + 1)) (List.replicate N (Value.int .u64 0)) = List.replicate N (Value.int .u64 0)
    rw [List.take_zero, List.nil_append, List.drop_replicate, List.replicate_append_replicate]
    congr 1; omega
  rw [e, setRow_same w G _ 81 _ hz] at hst
  have hzc := zc_rep (m + 1)
  simp [Builtin.clear_, run_underlying under85, zeroValue, typeInfo, hi, hz0, hzc, hst, Result.andThen]
def BR (w : World) (Gz N m n : Nat) (X Y : List Int) (v17 : Value) (wr : World) : Prop :=
  ∃ i : Nat, i ≤ n ∧ v17 = .int .i64 (i : Int) ∧ ∃ Z : List Int, Z.length = N ∧ Sm64 Z ∧ Blk wr Gz 81 (ivs .u64 Z).toArray ∧ Mod [Gz] w wr ∧ uv Z = uv (X.take m) * uv (Y.take i) ∧ (∀ j, i + m ≤ j → Z.getD j 0 = 0)
theorem br_step {Z' Z X Y : List Int} {i m : Nat} {c d : Int} (hi : i < Y.length) (hm : m + i < Z'.length) (he : uv Z' + c * wb (i + m) = uv Z + wb i * (d * uv (X.take m))) (hz : Z'.getD (m + i) 0 = 0) (hZ : uv Z = uv (X.take m) * uv (Y.take i)) (hd : Y.getD i 0 = d) :
    uv (Z'.set (m + i) c) = uv (X.take m) * uv (Y.take (i + 1)) := by
  rw [uv_set _ _ _ hm, hz, uv_take1 Y i hi, hd, Int.mul_add, ← hZ, Int.sub_zero, Nat.add_comm m i, Int.mul_comm (wb (i + m)) c, he]
  congr 1
  rw [← Int.mul_assoc, Int.mul_comm (uv (X.take m))]
theorem getD_zeros (N j : Nat) : (List.replicate N (0 : Int)).getD j 0 = 0 := by
  rw [List.getD_eq_getElem?_getD, List.getElem?_replicate]; split <;> rfl
set_option maxRecDepth 100000 in
set_option maxHeartbeats 2000000 in
theorem basic_any (w : World) (Gz Gx Gy m n N cz cx cy : Nat) (X Y : List Int) (hz : Blk w Gz 81 (ivs .u64 (List.replicate N 0)).toArray) (hx : Blk w Gx 81 (ivs .u64 X).toArray) (hy : Blk w Gy 81 (ivs .u64 Y).toArray) (hne : Gx ≠ Gz) (hne2 : Gy ≠ Gz) (hmn : m + n ≤ N) (hN : N ≤ 100) (hmX : m ≤ X.length) (hnY : n ≤ Y.length) (hcz : N ≤ cz) (hsx : Sm64 X) (hsy : Sm64 Y) (hm0 : 0 < m) (hn0 : 0 < n) :
    Calls Tryz.prog 57 #[.slice (some ⟨Gz, 0, none⟩) (m + n) cz, .slice (some ⟨Gx, 0, none⟩) m cx, .slice (some ⟨Gy, 0, none⟩) n cy] w fun e w' => ∃ Z : List Int, e = .returned (.tuple #[]) ∧ Z.length = N ∧ Sm64 Z ∧ Blk w' Gz 81 (ivs .u64 Z).toArray ∧ Mod [Gz] w w' ∧ uv Z = uv (X.take m) * uv (Y.take n) ∧ (∀ j, n + m ≤ j → Z.getD j 0 = 0) := by
  have hcl := clear_run w Gz N (m + n) cz hz hmn (by omega)
  have h0 := hide (show BR w Gz N m n X Y (.int .i64 0) w from ⟨0, by omega, rfl, List.replicate N 0, by simp, sm64_zeros N, hz, Mod.refl _ _, by rw [uv_zeros]; simp [uv], fun j _ => getD_zeros N j⟩)
  have HX := hide hx
  have HY := hide hy
  clear hz hx hy
  go_enter Tryz.func57, Tryz.ntmps57
  go_wp2_with fail
  clear hcl
  go_loopw [17] (BR w Gz N m n X Y) (fun v _ => n - (intOf v).toNat)
  case atStart => exact unhide h0
  case round =>
    obtain ⟨i, hi, rfl, Z, hl, hs, hzb, hmr, he, hf⟩ := hrel
    by_cases hlt : i < n
    · have hyb := (unhide HY).mod hmr (by simpa using hne2)
      have hxb := (unhide HX).mod hmr (by simpa using hne)
      have cy := ivs_cell hyb i (by omega)
      have hdy := sm64_get hsy i
      have hA := hide (fun (W : World) (hm : Mod [] wr W) => amv_any W Gz Gx i m (cz - i) (cz - i) cx Z X (Y.getD i 0) (hzb.mod hm (by simp)) (hxb.mod hm (by simp)) hne (by omega) hmX (by omega) hs hsx hdy)
      by_cases hd0 : Y.getD i 0 = 0
      · have hnx := hide (show BR w Gz N m n X Y (.int .i64 ((i : Int) + 1)) wr from ⟨i + 1, by omega, by simp, Z, hl, hs, hzb, hmr, by rw [he, uv_take1 Y i (by omega), hd0, Int.mul_zero, Int.add_zero], fun j hj => hf j (by omega)⟩)
        rw [hd0] at cy
        clear hA hzb hmr he hf h0
        go_wp2_with fail
        exact ⟨unhide hnx, by simp [intOf]; omega⟩
      · have hnx := hide (fun (W W' : World) (c : Int) (Z' : List Int) (hm : Mod [] wr W) (k0 : 0 ≤ c) (k1 : c < 18446744073709551616) (k2 : Z'.length = Z.length) (k3 : Sm64 Z') (k4 : Blk W' Gz 81 (ivs .u64 Z').toArray) (k5 : Mod [Gz] W W') (k6 : uv Z' + c * wb (i + m) = uv Z + wb i * (Y.getD i 0 * uv (X.take m))) (k7 : ∀ j, i + m ≤ j → Z'.getD j 0 = Z.getD j 0) =>
          (show BR w Gz N m n X Y (.int .i64 ((i : Int) + 1)) (W'.setCell ⟨Gz, m + i, none⟩ (.int .u64 c)) from
            ⟨i + 1, by omega, by simp, Z'.set (m + i) c, by rw [List.length_set, k2, hl], sm64_set k3 _ k0 k1, ivs_set k4 _ _, ((hmr.trans hm (by simp)).trans k5 (by simp)).setCell (by simp) _,
              br_step (by omega) (by omega) k6 (by rw [k7 _ (by omega)]; exact hf _ (by omega)) he rfl, fun j hj => by rw [getD_iset _ _ _ _ (by omega), if_neg (by omega), k7 j (by omega)]; exact hf j (by omega)⟩))
        have hNl : m + i < N := by omega
        have hcap := hide (fun (W' : World) (Z' : List Int) (k2 : Z'.length = Z.length) (k4 : Blk W' Gz 81 (ivs .u64 Z').toArray) => (⟨ivs_cell k4 (m + i) (by omega), k4.frozen (m + i)⟩ : W'.cell? ⟨Gz, m + i, none⟩ = some (.int .u64 (Z'.getD (m + i) 0)) ∧ W'.frozen? ⟨Gz, m + i, none⟩ = false))
        clear hzb hmr he hf h0 hs hxb hyb
        generalize Y.getD i 0 = d at *
        have q0 : ((d : Int) != 0) = true := by simpa using hd0
        have q1 : (i : Int) ≤ (i : Int) + (m : Int) := by omega
        have q2 : (i : Int) + (m : Int) ≤ (cz : Int) := by omega
        have q3 : ¬ cz - i = 0 := by omega
        have q4 : ¬ cz = i := by omega
        have q5 : i + m - i = m := by omega
        have q6 : (m : Int) + (i : Int) < (m : Int) + (n : Int) := by omega
        have q7 : IntKind.i64.wrap ((i : Int) + (m : Int)) = (i : Int) + (m : Int) := (IntWalk.i64_left _).trans (IntWalk.wrap64_in _ (by omega))
        have q8 : IntKind.i64.wrap ((m : Int) + (i : Int)) = (m : Int) + (i : Int) := (IntWalk.i64_left _).trans (IntWalk.wrap64_in _ (by omega))
        have q9 : ((i : Int) + (m : Int)).toNat = i + m := by omega
        have q10 : ((m : Int) + (i : Int)).toNat = m + i := by omega
        go_upto_region 5 with (fail)
        go_region_with (first | (go_at_call 71; (with_reducible refine (unhide hA _ (by (repeat' (first | (with_reducible exact Mod.refl _ _) | (with_reducible assumption) | (with_reducible refine Mod.drew ?_) | (with_reducible refine Mod.drewN ?_ _) | (with_reducible refine Mod.alloc ?_ _) | (with_reducible refine Mod.setCell ?_ ?_ _) | (left; simp; done) | (right; first | omega | (simp; omega) | (simp; done)))))).mono ?_); rintro e w6 ⟨c, Z', rfl, k0, k1, k2, k3, k4, k5, k6, k7⟩; obtain ⟨cc, ff⟩ := unhide hcap w6 Z' k2 k4))
        all_goals (go_wp2_with fail)
        all_goals exact ⟨unhide hnx _ w6 c Z' (show Mod [] wr _ from (by (repeat' (first | (with_reducible exact Mod.refl _ _) | (with_reducible assumption) | (with_reducible refine Mod.drew ?_) | (with_reducible refine Mod.drewN ?_ _) | (with_reducible refine Mod.alloc ?_ _) | (with_reducible refine Mod.setCell ?_ ?_ _) | (left; simp; done) | (right; first | omega | (simp; omega) | (simp; done)))))) k0 k1 k2 k3 k4 k5 k6 k7, by simp [intOf]; omega⟩
    · obtain rfl : i = n := by omega
      go_wp2_with fail
      go_returns
      exact ⟨Z, rfl, hl, hs, hzb, hmr, he, hf⟩
end
section
open Go.RowKit Go.ChangeShapes Go.WideShapes Go.ChangeAt Go
/-- nothing but zeros from k' on. -/
def NR (w : World) (k : Nat) (L : List Int) (v3 : Value) (wr : World) : Prop :=
  ∃ j : Nat, j ≤ k ∧ v3 = .int .i64 (j : Int) ∧ Mod [] w wr ∧ uv (L.take j) = uv (L.take k)
set_option maxRecDepth 100000 in
set_option maxHeartbeats 2000000 in
theorem norm_any (w : World) (G k c : Nat) (L : List Int) (h : Blk w G 81 (ivs .u64 L).toArray) (hk : k ≤ L.length) (hl : L.length ≤ 100) (hc : k ≤ c) :
    Calls Tryz.prog 51 #[.slice (some ⟨G, 0, none⟩) k c] w fun e w' => ∃ j : Nat, e = .returned (.slice (some ⟨G, 0, none⟩) j c) ∧ j ≤ k ∧ uv (L.take j) = uv (L.take k) ∧ (0 < j → L.getD (j - 1) 0 ≠ 0) ∧ Mod [] w w' := by
  have h0 := hide (show NR w k L (.int .i64 (k : Int)) w from ⟨k, Nat.le_refl _, rfl, Mod.refl _ _, rfl⟩)
  have HB := hide h
  clear h
  go_enter Tryz.func51, Tryz.ntmps51
  go_wp2_with fail
  go_loopw [3] (NR w k L) (fun v _ => (intOf v).toNat)
  case atStart => exact unhide h0
  case round =>
    obtain ⟨j, hj, rfl, hm, he⟩ := hrel
    rcases Nat.eq_zero_or_pos j with rfl | hj0
    · clear h0
      have hcz : (0 : Int) ≤ (c : Int) := by omega
      go_wp2_with fail
      go_ret
      exact ⟨0, rfl, hj, he, fun h => absurd h (by omega), hm⟩
    · have cz := ivs_cell ((unhide HB).mod hm (by simp)) (j - 1) (by omega)
      have z1 : ((j : Int) - 1).toNat = j - 1 := by omega
      have z2 : (0 : Int) ≤ (j : Int) - 1 := by omega
      have z3 : (j : Int) - 1 < (k : Int) := by omega
      have z4 : IntKind.i64.wrap ((j : Int) - 1) = (j : Int) - 1 := (IntWalk.i64_left _).trans (IntWalk.wrap64_in _ (by omega))
      have z5 : (0 : Int) < (j : Int) := by omega
      have z6 : (1 : Int) ≤ (j : Int) := by omega
      by_cases hx : L.getD (j - 1) 0 = 0
      · have hn := hide (show NR w k L (.int .i64 ((j : Int) - 1)) wr from ⟨j - 1, by omega, by congr 1; omega, hm, by
          have e := uv_take1 L (j - 1) (by omega)
          rw [show j - 1 + 1 = j by omega, hx, Int.mul_zero, Int.add_zero] at e
          rw [← e]; exact he⟩)
        rw [hx] at cz
        clear h0 hm he
        go_wp2_with fail
        all_goals exact ⟨unhide hn, by simp [intOf]; omega⟩
      · have hxb : (L.getD (j - 1) 0 == 0) = false := by rw [beq_eq_false_iff_ne]; exact hx
        have HX := hide hx
        clear h0 hx
        generalize hxx : L.getD (j - 1) 0 = x at *
        have HXX := hide hxx
        clear hxx
        have hcz : (j : Int) ≤ (c : Int) := by omega
        go_wp2_with fail
        go_ret
        exact ⟨j, rfl, hj, he, fun _ => by rw [unhide HXX]; exact unhide HX, hm⟩
theorem made81 (N : Nat) : madeCells (Value.cells (.int .u64 0)) (N * 1) = (ivs .u64 (List.replicate N 0)).toArray := made_zeros .u64 N
theorem make85 (n N : Nat) (hn : n ≤ N) (hN : N ≤ 1048576) (w : World) : (Instr.makeSlice 85 (.int .i64 (n : Int)) (.int .i64 (N : Int))).run Tryz.prog w = .ok (.slice (some ⟨w.heap.size, 0, none⟩) n N) (w.alloc (.cells (ivs .u64 (List.replicate N 0)).toArray 81)) := by
  obtain ⟨i0, hi, hz0, hz1, hz2⟩ := info_parts info81
  have := run_make_rowN (P := Tryz.prog) 85 81 i0 _ under85 hi hz0 .i64 .i64 n N hn (by rw [hz2]; omega) (by omega) w
  rw [this, hz1, made81]
set_option maxRecDepth 100000 in
/-- room for n words where there is none: n + 4 of them (one alone: one). -/
theorem natMake_new (w : World) (A : Option Addr) (n k c : Nat) (hn : 1 < n) (hn1 : n ≤ 1000) (hc : c < n) :
    Calls Tryz.prog 54 #[.slice A k c, .int .i64 (n : Int)] w fun e w' => e = .returned (.slice (some ⟨w.heap.size, 0, none⟩) n (n + 4)) ∧ w' = w.alloc (.cells (ivs .u64 (List.replicate (n + 4) 0)).toArray 81) := by
  have hmk := make85 n (n + 4) (by omega) (by omega) w
  rw [show ((n + 4 : Nat) : Int) = (n : Int) + 4 by omega] at hmk
  have z1 : ¬ (n : Int) ≤ (c : Int) := by omega
  have z2 : ((n : Int) == 1) = false := by rw [beq_eq_false_iff_ne]; omega
  go_enter Tryz.func54, Tryz.ntmps54
  go_wp2_with fail
  go_ret
  exact ⟨rfl, rfl⟩
/-- room for n words where there is: those. -/
theorem natMake_old (w : World) (G n k c : Nat) (hc : n ≤ c) :
    Calls Tryz.prog 54 #[.slice (some ⟨G, 0, none⟩) k c, .int .i64 (n : Int)] w fun e w' => e = .returned (.slice (some ⟨G, 0, none⟩) n c) ∧ w' = w := by
  have z1 : (n : Int) ≤ (c : Int) := by omega
  go_enter Tryz.func54, Tryz.ntmps54
  go_wp2_with fail
  go_ret
  exact ⟨rfl, rfl⟩
end
section
open Go
section
variable {P : Program} {ops : Array Oper} {Q : Exit → Act → World → Prop} {md : Region.Mode} {S : World → Prop} {k : Nat}
/-- As 'wpAnyH', but S is not asked behind operation k (the last one: a store into a cell that S names). -/
def wpAnyK (P : Program) (md : Region.Mode) (ops : Array Oper) (Q : Exit → Act → World → Prop) (S : World → Prop) (k : Nat) : Nat → Array Bool → Act → World → Prop
  | 0, listed, a, w => Region.ready md ops listed = [] ∧ Q .normal a w
  | fuel + 1, listed, a, w =>
    (Region.ready md ops listed = [] → Q .normal a w) ∧
    ∀ i ∈ Region.ready md ops listed, wpOp P ops Q i (fun a' w' => (i = k ∨ S w') ∧ wpAnyK P md ops Q S k fuel (listed.setIfInBounds i true) a' w') a w
theorem wpAny_of_K : ∀ (fuel : Nat) (listed : Array Bool) (a : Act) (w : World), wpAnyK P md ops Q S k fuel listed a w → wpAny P md ops Q fuel listed a w
  | 0, _, _, _, h => h
  | fuel + 1, _, _, _, h => ⟨h.1, fun i hi => wpOp_mono (fun a' w' h' => wpAny_of_K fuel _ a' w' h'.2) (h.2 i hi)⟩
/-- k waits on i. -/
def waitsOn (md : Region.Mode) (ops : Array Oper) (k i : Nat) : Bool := ((ops[k]?).map (·.after.any fun e => Region.binds md e && e.on == i)).getD false
theorem not_ready_of_waits {i : Nat} {listed : Array Bool} (hw : waitsOn md ops k i = true) (hi : i ∈ Region.ready md ops listed) : k ∉ Region.ready md ops listed := fun hk => by
  obtain ⟨_, o, ho, hall⟩ := mem_ready.1 hk
  unfold waitsOn at hw
  rw [ho] at hw
  simp only [Option.map_some, Option.getD_some, Array.any_eq_true] at hw
  obtain ⟨n, hn, he⟩ := hw
  simp only [Bool.and_eq_true, beq_iff_eq] at he
  have h1 := hall _ (Array.getElem_mem hn) he.1
  rw [he.2] at h1
  have h0 := (mem_ready.1 hi).1
  rcases Nat.lt_or_ge i listed.size with h' | h'
  · simp [h'] at h0 h1; rw [h0] at h1; cases h1
  · simp [Array.getElem?_eq_none h'] at h1
theorem wpAnyK_first {i : Nat} {oi : Oper} {v : Value} (hi : ops[i]? = some oi) (hsel : ∀ (j : Nat) (o : Oper) cs b, ops[j]? = some o → o.op ≠ .select cs b)
    (hQ : ∀ c a w, Q (.panic c) (a.put oi.dst v) w → Q (.panic c) a w) (hwt : waitsOn md ops k i = true) :
    ∀ (fuel : Nat) (listed : Array Bool) (a : Act) (w : World),
      (∀ j oj, ops[j]? = some oj → j ≠ i → listed.getD j true = false → (∀ e ∈ oj.after, Region.binds md e = true → e.on ≠ i) → oi.apart ops oj = true) →
      i ∈ Region.ready md ops listed → YieldsIf P ops S oi v a → S w →
      wpAnyK P md ops Q S k fuel (listed.setIfInBounds i true) (a.put oi.dst v) w → wpAnyK P md ops Q S k (fuel + 1) listed a w := by
  intro fuel
  induction fuel with
  | zero =>
    intro listed a w _ hr hy hS H
    refine ⟨fun h => (by rw [h] at hr; cases hr), fun j hj => ?_⟩
    by_cases hji : j = i
    · subst hji; exact hy.wpOp hi hS ⟨.inr hS, H⟩
    · have := ready_mono hj hji
      rw [H.1] at this
      cases this
  | succ fuel ih =>
    intro listed a w hfree hr hy hS H
    refine ⟨fun h => (by rw [h] at hr; cases hr), fun j hj => ?_⟩
    by_cases hji : j = i
    · subst hji; exact hy.wpOp hi hS ⟨.inr hS, H⟩
    · have hjk : j ≠ k := fun he => not_ready_of_waits hwt hr (he ▸ hj)
      have h1 := H.2 j (ready_mono hj hji)
      obtain ⟨hjun, oj, hoj, hall⟩ := mem_ready.1 hj
      have hnot : ∀ e ∈ oj.after, Region.binds md e = true → e.on ≠ i := fun e he hb heq => by
        have h1 := hall e he hb
        have h0 := (mem_ready.1 hr).1
        rw [heq] at h1
        rcases Nat.lt_or_ge i listed.size with h' | h'
        · simp [h'] at h0 h1; rw [h0] at h1; cases h1
        · simp [Array.getElem?_eq_none h'] at h1
      have h2 := wpOp_putIf hoj (hfree j oj hoj hji hjun hnot) (fun cs b => hsel i oi cs b hi) (fun cs b => hsel j oj cs b hoj) hQ hy h1
      have hfree' : ∀ m om, ops[m]? = some om → m ≠ i → (listed.setIfInBounds j true).getD m true = false →
          (∀ e ∈ om.after, Region.binds md e = true → e.on ≠ i) → oi.apart ops om = true := fun m om hom hmi hun hno => by
        refine hfree m om hom hmi ?_ hno
        by_cases hjm : j = m
        · subst hjm; exact hjun
        · rw [getD_set_ne true hjm] at hun; exact hun
      refine wpOp_mono (fun a' w' h3 => ⟨h3.2.1, ih (listed.setIfInBounds j true) a' w' hfree' (ready_mono hr (Ne.symm hji)) h3.1 (h3.2.1.resolve_left hjk) ?_⟩) h2
      rw [Array.setIfInBounds_comm _ _ hji]
      exact h3.2.2
theorem wpAnyK_take {i : Nat} {oi : Oper} {v : Value} {fuel : Nat} {listed : Array Bool} {a : Act} {w : World} (hi : ops[i]? = some oi)
    (hs : Region.noSelect ops = true) (hf : Region.free md ops listed i = true) (hr : (Region.ready md ops listed).contains i = true) (hwt : waitsOn md ops k i = true)
    (hQ : ∀ c a w, Q (.panic c) (a.put oi.dst v) w → Q (.panic c) a w) (hy : YieldsIf P ops S oi v a) (hS : S w)
    (h : wpAnyK P md ops Q S k fuel (listed.setIfInBounds i true) (a.put oi.dst v) w) : wpAnyK P md ops Q S k (fuel + 1) listed a w :=
  wpAnyK_first hi (Region.noSelect_spec hs) hQ hwt fuel listed a w (Region.free_spec hi hf) (by simpa using hr) hy hS h
/-- One alone may come up. -/
theorem wpAnyK_one {i : Nat} {o : Oper} {fuel : Nat} {listed : Array Bool} {a : Act} {w : World} (hr : Region.ready md ops listed = [i]) (ho : ops[i]? = some o)
    (h : ∀ K' : Act → World → Prop, Shut (∀ a w, S w → (S w → wpAnyK P md ops Q S k fuel (listed.setIfInBounds i true) a w) → K' a w) → if Region.wanted o (yielded ops a.tmps) = true then Oper.wp P o a w K' Q else K' (a.put o.dst undef) w) :
    wpAnyK P md ops Q S k (fuel + 1) listed a w :=
  ⟨fun h0 => by rw [h0] at hr; (cases hr), fun j hj => by
    rw [hr] at hj
    rcases List.mem_singleton.1 hj with rfl
    exact wpOp_step ho (fun K' hK => h K' (fun a w hS hW => hK a w ⟨.inr hS, hW hS⟩))⟩
/-- The last one. -/
theorem wpAnyK_end {o : Oper} {fuel : Nat} {listed : Array Bool} {a : Act} {w : World} (hr : Region.ready md ops listed = [k]) (ho : ops[k]? = some o)
    (h : ∀ K' : Act → World → Prop, Shut (∀ a w, wpAnyK P md ops Q S k fuel (listed.setIfInBounds k true) a w → K' a w) → if Region.wanted o (yielded ops a.tmps) = true then Oper.wp P o a w K' Q else K' (a.put o.dst undef) w) :
    wpAnyK P md ops Q S k (fuel + 1) listed a w :=
  ⟨fun h0 => by rw [h0] at hr; (cases hr), fun j hj => by
    rw [hr] at hj
    rcases List.mem_singleton.1 hj with rfl
    exact wpOp_step ho (fun K' hK => h K' (fun a w hW => hK a w ⟨.inl rfl, hW⟩))⟩
theorem wpAnyK_done {listed : Array Bool} {a : Act} {w : World} (hr : Region.ready md ops listed = []) (h : Q .normal a w) :
    ∀ fuel, wpAnyK P md ops Q S k fuel listed a w
  | 0 => ⟨hr, h⟩
  | _ + 1 => ⟨fun _ => h, by rw [hr]; simp⟩
theorem wp_region_K {id : Nat} {a : Act} {w : World} (hm : P.follows .mixedOrders = true) (hS : S w.drew)
    (h : S w.drew → wpAnyK P .any ops Q S k ops.size (Array.replicate ops.size false) a w.drew) : (Code.region id ops true).wp P Q a w :=
  wp_region_any hm (wpAny_of_K _ _ _ _ (h hS))
end
end
section
open Go.RowKit Go.ChangeShapes Go.WideShapes Go.ChangeAt Go
theorem under110 : Tryz.prog.underlying 110 = some (.pointer 81) := by kernel_rfl
theorem under62 : Tryz.prog.underlying 62 = some (.pointer 87) := by kernel_rfl
theorem info87 : (Tryz.prog.info? 87).map (fun i => i.size) = some 2 := by kernel_rfl
theorem eq110_ne {w : World} {G H i j : Nat} {t u : TypeId} {A B : Array Value} (hG : Blk w G t A) (hH : Blk w H u B) (hne : G ≠ H) :
    (binOp .eql 110 (.pointer (some ⟨G, i, none⟩)) (.pointer (some ⟨H, j, none⟩))).run Tryz.prog w = .ok (.bool false) w := by
  obtain ⟨i0, hi, hz0, hz1, hz2⟩ := info_parts info81
  exact run_eql_ptr_other w (te := 81) under110 hi (by rw [hz1]; decide) (fun h => hne (congrArg Addr.block h)) hG hH
theorem eq110_eq (w : World) (a : Addr) :
    (binOp .eql 110 (.pointer (some a)) (.pointer (some a))).run Tryz.prog w = .ok (.bool true) w := by
  obtain ⟨i0, hi, hz0, hz1, hz2⟩ := info_parts info81
  exact run_eql_ptr_same w a under110 hi
theorem eq62_ne {w : World} {G H i j : Nat} {t u : TypeId} {A B : Array Value} (hG : Blk w G t A) (hH : Blk w H u B) (hne : G ≠ H) :
    (binOp .eql 62 (.pointer (some ⟨G, i, none⟩)) (.pointer (some ⟨H, j, none⟩))).run Tryz.prog w = .ok (.bool false) w := by
  rcases hi : Tryz.prog.info? 87 with _ | i0
  · have := info87; rw [hi] at this; cases this
  · have h2 : i0.size = 2 := by have := info87; rw [hi] at this; exact Option.some.inj this
    exact run_eql_ptr_other w (te := 87) under62 hi (by rw [h2]; decide) (fun h => hne (congrArg Addr.block h)) hG hH
theorem eq62_eq (w : World) (a : Addr) :
    (binOp .eql 62 (.pointer (some a)) (.pointer (some a))).run Tryz.prog w = .ok (.bool true) w := by
  rcases hi : Tryz.prog.info? 87 with _ | i0
  · have := info87; rw [hi] at this; cases this
  · exact run_eql_ptr_same w a under62 hi
set_option maxRecDepth 100000 in
set_option maxHeartbeats 2000000 in
theorem alias_ne (w : World) (G H k l : Nat) (A B : Array Value) (hk : k ≤ 4) (hl : l ≤ 4) (hG : Blk w G 81 A) (hH : Blk w H 81 B) (hne : G ≠ H) :
    Calls Tryz.prog 56 #[.slice (some ⟨G, 0, none⟩) k 4, .slice (some ⟨H, 0, none⟩) l 4] w fun e w' => e = .returned (.bool false) ∧ w' = w.drew := by
  have hE := eq110_ne (i := 3) (j := 3) (hG.drewN 1) (hH.drewN 1) hne
  rw [show w.drewN 1 = w.drew from rfl] at hE
  clear hG hH
  have hw3 : IntKind.i64.wrap 3 = 3 := by decide
  go_enter Tryz.func56, Tryz.ntmps56
  go_upto_region 1 with (fail)
  go_region_held3 (fun W => W = w.drew) (with_reducible rfl) (fail)
  all_goals (go_wp2_with fail; go_ret; exact ⟨rfl, rfl⟩)
set_option maxRecDepth 100000 in
set_option maxHeartbeats 2000000 in
theorem alias_eq (w : World) (G k l : Nat) (hk : k ≤ 4) (hl : l ≤ 4) :
    Calls Tryz.prog 56 #[.slice (some ⟨G, 0, none⟩) k 4, .slice (some ⟨G, 0, none⟩) l 4] w fun e w' => e = .returned (.bool true) ∧ w' = w.drew := by
  have hE := eq110_eq w.drew ⟨G, 3, none⟩
  have hw3 : IntKind.i64.wrap 3 = 3 := by decide
  go_enter Tryz.func56, Tryz.ntmps56
  go_upto_region 1 with (fail)
  go_region_held3 (fun W => W = w.drew) (with_reducible rfl) (fail)
  all_goals (go_wp2_with fail; go_ret; exact ⟨rfl, rfl⟩)
end
section
open Go.RowKit Go.ChangeShapes Go.WideShapes Go.ChangeAt Go
theorem mav_step {Z X : List Int} {k : Nat} {c y r T : Int} (hi : k < Z.length) (hk : k < X.length) (he : uv (Z.take k) + c * wb k = y * uv (X.take k) + r) (hT : T = X.getD k 0 * y + c) :
    uv ((Z.set k (T % 18446744073709551616)).take (k + 1)) + T / 18446744073709551616 * wb (k + 1) = y * uv (X.take (k + 1)) + r := by
  have h := mul_step64 (uv (Z.take k)) c (X.getD k 0 * y) 0 (wb k) T (by omega)
  rw [uv_take1 _ _ (by rw [List.length_set]; exact hi), List.take_set_of_le (Nat.le_refl k), getD_iset _ _ _ _ hi, if_pos rfl, wb_succ, uv_take1 X k hk, Int.mul_add]
  rw [Int.sub_zero] at h
  rw [h, he]
  have e : wb k * (X.getD k 0 * y) = y * (wb k * X.getD k 0) := by rw [← Int.mul_assoc, Int.mul_comm]
  omega
def MR (w : World) (Gz : Nat) (Z X : List Int) (n : Nat) (y r : Int) (v8 v19 : Value) (wr : World) : Prop :=
  ∃ k : Nat, k ≤ n ∧ v19 = .int .i64 (k : Int) ∧ ∃ (c : Int) (Z' : List Int), v8 = .int .u64 c ∧ 0 ≤ c ∧ c < 18446744073709551616 ∧ Z'.length = Z.length ∧ Sm64 Z' ∧ Blk wr Gz 81 (ivs .u64 Z').toArray ∧ Mod [Gz] w wr ∧
    uv (Z'.take k) + c * wb k = y * uv (X.take k) + r ∧ (∀ j, k ≤ j → Z'.getD j 0 = Z.getD j 0)
set_option maxRecDepth 100000 in
set_option maxHeartbeats 2000000 in
theorem mag_any (w : World) (Gz Gx n c1 cx : Nat) (Z X : List Int) (y r : Int) (hz : Blk w Gz 81 (ivs .u64 Z).toArray)
    (hx : ∀ (W : World) (k : Nat) (Z' : List Int), k < n → Z'.length = Z.length → Blk W Gz 81 (ivs .u64 Z').toArray → Mod [Gz] w W → (∀ j, k ≤ j → Z'.getD j 0 = Z.getD j 0) → W.cell? ⟨Gx, k, none⟩ = some (.int .u64 (X.getD k 0)))
    (hin : n ≤ Z.length) (hnX : n ≤ X.length) (hn : n ≤ 100) (hsz : Sm64 Z) (hsx : Sm64 X) (hy : 0 ≤ y ∧ y < 18446744073709551616) (hr : 0 ≤ r ∧ r < 18446744073709551616) :
    Calls Tryz.prog 92 #[.slice (some ⟨Gz, 0, none⟩) n c1, .slice (some ⟨Gx, 0, none⟩) n cx, .int .u64 y, .int .u64 r] w fun e w' => ∃ (c : Int) (Z' : List Int), e = .returned (.int .u64 c) ∧ 0 ≤ c ∧ c < 18446744073709551616 ∧ Z'.length = Z.length ∧ Sm64 Z' ∧ Blk w' Gz 81 (ivs .u64 Z').toArray ∧ Mod [Gz] w w' ∧
      uv (Z'.take n) + c * wb n = y * uv (X.take n) + r ∧ (∀ j, n ≤ j → Z'.getD j 0 = Z.getD j 0) := by
  have h0 := hide (show MR w Gz Z X n y r (.int .u64 r) (.int .i64 0) w from ⟨0, by omega, rfl, r, Z, rfl, hr.1, hr.2, rfl, hsz, hz, Mod.refl _ _, by simp [uv, wb_zero], fun _ _ => rfl⟩)
  have HX := hide hx
  clear hz hx
  go_enter Tryz.func92, Tryz.ntmps92
  go_wp2_with fail
  go_loopw [8, 19] (MR w Gz Z X n y r) (fun _ v _ => n - (intOf v).toNat)
  case atStart => exact unhide h0
  case round =>
    obtain ⟨k, hk, rfl, c, Z', rfl, hc0, hc1, hl, hs, hzb, hmr, he, hf⟩ := hrel
    by_cases hlt : k < n
    · have cx := (unhide HX) wr k Z' hlt hl hzb hmr hf
      have cz := ivs_cell hzb k (by omega)
      have fz := hzb.frozen k
      have hxk := sm64_get hsx k
      have hst := hide (fun (T : Int) (hT : T = X.getD k 0 * y + c) (W : World) (hW : Blk W Gz 81 (ivs .u64 Z').toArray) (hm : Mod [Gz] w W) (h0 : 0 ≤ T / 18446744073709551616) (h1 : T / 18446744073709551616 < 18446744073709551616) =>
        (show MR w Gz Z X n y r (.int .u64 (T / 18446744073709551616)) (.int .i64 ((k : Int) + 1)) (W.setCell ⟨Gz, k, none⟩ (.int .u64 (T % 18446744073709551616))) from
          ⟨k + 1, by omega, by simp, T / 18446744073709551616, Z'.set k (T % 18446744073709551616), rfl, h0, h1, by rw [List.length_set]; exact hl, sm64_set hs _ (by omega) (by omega), ivs_set hW _ _, hm.setCell (by simp) _, mav_step (by omega) (by omega) he hT, fun j hj => by rw [getD_iset _ _ _ _ (by omega), if_neg (by omega)]; exact hf j (by omega)⟩))
      have KZ := hide hzb
      have KM := hide hmr
      clear hzb hmr h0 he hf hs hl
      have hp : 0 ≤ X.getD k 0 * y ∧ X.getD k 0 * y ≤ 18446744073709551615 * 18446744073709551615 := ⟨Int.mul_nonneg hxk.1 hy.1, Int.mul_le_mul (by omega) (by omega) hy.1 (by decide)⟩
      have hM := hide (fun W => mww_any (X.getD k 0) y c hxk hy ⟨hc0, hc1⟩ W)
      generalize hxx : X.getD k 0 = x at *
      have HT := hide (show 0 ≤ (x * y + c) / 18446744073709551616 ∧ (x * y + c) / 18446744073709551616 < 18446744073709551616 by omega)
      clear hp
      go_wp2_with (first | (go_at_call 95; refine ((unhide hM) _).mono ?_; rintro e w' ⟨rfl, rfl⟩) | fail)
      obtain ⟨t4, t5⟩ := unhide HT
      exact ⟨unhide hst _ rfl _ (unhide KZ) (unhide KM) t4 t5, by simp [intOf]; omega⟩
    · obtain rfl : k = n := by omega
      go_wp2_with fail
      go_ret
      exact ⟨c, Z', rfl, hc0, hc1, hl, hs, hzb, hmr, he, hf⟩
theorem mav_any (w : World) (Gz Gx n c1 cx : Nat) (Z X : List Int) (y r : Int) (hz : Blk w Gz 81 (ivs .u64 Z).toArray)
    (hx : ∀ (W : World) (k : Nat) (Z' : List Int), k < n → Z'.length = Z.length → Blk W Gz 81 (ivs .u64 Z').toArray → Mod [Gz] w W → (∀ j, k ≤ j → Z'.getD j 0 = Z.getD j 0) → W.cell? ⟨Gx, k, none⟩ = some (.int .u64 (X.getD k 0)))
    (hin : n ≤ Z.length) (hnX : n ≤ X.length) (hn : n ≤ 100) (hsz : Sm64 Z) (hsx : Sm64 X) (hy : 0 ≤ y ∧ y < 18446744073709551616) (hr : 0 ≤ r ∧ r < 18446744073709551616) :
    Calls Tryz.prog 78 #[.slice (some ⟨Gz, 0, none⟩) n c1, .slice (some ⟨Gx, 0, none⟩) n cx, .int .u64 y, .int .u64 r] w fun e w' => ∃ (c : Int) (Z' : List Int), e = .returned (.int .u64 c) ∧ 0 ≤ c ∧ c < 18446744073709551616 ∧ Z'.length = Z.length ∧ Sm64 Z' ∧ Blk w' Gz 81 (ivs .u64 Z').toArray ∧ Mod [Gz] w w' ∧
      uv (Z'.take n) + c * wb n = y * uv (X.take n) + r ∧ (∀ j, n ≤ j → Z'.getD j 0 = Z.getD j 0) := by
  have hM := hide (mag_any w Gz Gx n c1 cx Z X y r hz hx hin hnX hn hsz hsx hy hr)
  clear hz hx
  go_enter Tryz.func78, Tryz.ntmps78
  go_wp2_with (first | (go_at_call 92; (with_reducible refine (unhide hM).mono ?_); rintro e w1 ⟨c, Z', rfl, h1, h2, h3, h4, h5, h6, h7, h8⟩) | fail)
  go_ret
  exact ⟨c, Z', rfl, h1, h2, h3, h4, h5, h6, h7, h8⟩
end
section
open Go.RowKit Go.ChangeShapes Go.WideShapes Go.ChangeAt Go
/-- v is the natural number x, its words in a block of its own. -/
def NatIs (w : World) (v : Value) (x : Int) : Prop :=
  ∃ (G k c : Nat) (L : List Int), v = .slice (some ⟨G, 0, none⟩) k c ∧ Blk w G 81 (ivs .u64 L).toArray ∧ k ≤ L.length ∧ L.length ≤ c ∧ L.length ≤ 100 ∧ Sm64 L ∧ uv (L.take k) = x ∧ (0 < k → L.getD (k - 1) 0 ≠ 0)
theorem mww_close {w w1 w2 : World} {G n c : Nat} {y P : Int} {d : Int} {Z' : List Int} {e : Ending} (hz : Blk w1 G 81 (ivs .u64 Z').toArray) (hl : n < Z'.length) (hl2 : Z'.length ≤ c) (hl3 : Z'.length ≤ 100) (hs : Sm64 Z') (hd : 0 ≤ d ∧ d < 18446744073709551616) (hv : uv (Z'.take n) + d * wb n = P)
    (h : ∃ j : Nat, e = .returned (.slice (some ⟨G, 0, none⟩) j c) ∧ j ≤ n + 1 ∧ uv ((Z'.set n d).take j) = uv ((Z'.set n d).take (n + 1)) ∧ (0 < j → (Z'.set n d).getD (j - 1) 0 ≠ 0) ∧ Mod [] (w1.setCell ⟨G, n, none⟩ (.int .u64 d)) w2) :
    ∃ v, e = .returned v ∧ NatIs w2 v P := by
  obtain ⟨j, rfl, hj, he, hn, hm⟩ := h
  refine ⟨_, rfl, G, j, c, Z'.set n d, rfl, (ivs_set hz n d).mod hm (by simp), by rw [List.length_set]; omega, by rw [List.length_set]; omega, by rw [List.length_set]; omega, sm64_set hs _ hd.1 hd.2, ?_, hn⟩
  rw [he, uv_take1 _ _ (by rw [List.length_set]; exact hl), List.take_set_of_le (Nat.le_refl n), getD_iset _ _ _ _ hl, if_pos rfl, ← hv, Int.mul_comm]
set_option maxRecDepth 100000 in
set_option maxHeartbeats 2000000 in
theorem mulAddWW_old (w : World) (Gz Gx kz n cx : Nat) (Z X : List Int) (y : Int) (hz : Blk w Gz 81 (ivs .u64 Z).toArray)
    (hx : ∀ (W : World) (k : Nat) (Z' : List Int), k < n → Z'.length = Z.length → Blk W Gz 81 (ivs .u64 Z').toArray → Mod [Gz] w W → (∀ j, k ≤ j → Z'.getD j 0 = Z.getD j 0) → W.cell? ⟨Gx, k, none⟩ = some (.int .u64 (X.getD k 0)))
    (hn0 : 0 < n) (hn : n < 4) (hl : Z.length = 4) (hnX : n ≤ X.length) (hsz : Sm64 Z) (hsx : Sm64 X) (hy : 0 < y ∧ y < 18446744073709551616) :
    Calls Tryz.prog 62 #[.slice (some ⟨Gz, 0, none⟩) kz 4, .slice (some ⟨Gx, 0, none⟩) n cx, .int .u64 y, .int .u64 0] w fun e w' => ∃ v, e = .returned v ∧ NatIs w' v (y * uv (X.take n)) ∧ Mod [Gz] w w' := by
  have hA := natMake_old w Gz (n + 1) kz 4 (by omega)
  rw [show ((n + 1 : Nat) : Int) = (n : Int) + 1 by omega] at hA
  replace hA := hide hA
  have hM := hide (mav_any w Gz Gx n 4 cx Z X y 0 hz hx (by omega) hnX (by omega) hsz hsx ⟨by omega, hy.2⟩ (by decide))
  have hC := hide (fun (w1 w2 : World) (d : Int) (Z' : List Int) (e : Ending) (h1 : Z'.length = Z.length) (h2 : Sm64 Z') (h3 : Blk w1 Gz 81 (ivs .u64 Z').toArray) (h4 : 0 ≤ d ∧ d < 18446744073709551616) (h5 : uv (Z'.take n) + d * wb n = y * uv (X.take n)) => mww_close (w := w) (w2 := w2) (c := 4) (e := e) (y := y) h3 (by omega) (by omega) (by omega) h2 h4 h5)
  have hN := hide (fun (w1 : World) (d : Int) (Z' : List Int) (h1 : Z'.length = Z.length) (h3 : Blk w1 Gz 81 (ivs .u64 Z').toArray) => norm_any (w1.setCell ⟨Gz, n, none⟩ (.int .u64 d)) Gz (n + 1) 4 (Z'.set n d) (ivs_set h3 n d) (by rw [List.length_set]; omega) (by rw [List.length_set]; omega) (by omega))
  have hW := hide (fun (w1 w2 : World) (Z' : List Int) (h1 : Z'.length = Z.length) (h3 : Blk w1 Gz 81 (ivs .u64 Z').toArray) => (⟨ivs_cell h3 n (by omega), h3.frozen n⟩ : w1.cell? ⟨Gz, n, none⟩ = some (.int .u64 (Z'.getD n 0)) ∧ w1.frozen? ⟨Gz, n, none⟩ = false))
  clear hz hx
  have z1 : ((n : Int) == 0) = false := by rw [beq_eq_false_iff_ne]; omega
  have z2 : (y == 0) = false := by rw [beq_eq_false_iff_ne]; omega
  have z3 : (n : Int) ≤ 4 := by omega
  have z4 : n ≤ 4 := by omega
  have z5 : IntKind.i64.wrap ((n : Int) + 1) = (n : Int) + 1 := (IntWalk.i64_left _).trans (IntWalk.wrap64_in _ (by omega))
  go_enter Tryz.func62, Tryz.ntmps62
  go_upto_region 4 with (fail)
  go_wp2_with (first | (go_at_call 54; (with_reducible refine (unhide hA).mono ?_); rintro e w1 ⟨rfl, rfl⟩) | fail)
  go_wp2_with (first | (go_at_call 78; (with_reducible refine (unhide hM).mono ?_); rintro e w1 ⟨d, Z', rfl, h1, h2, h3, h4, h5, h6, h7, h8⟩; obtain ⟨cz, fz⟩ := unhide hW w1 w1 Z' h3 h5) | fail)
  go_wp2_with (first | (go_at_call 51; (with_reducible refine (unhide hN w1 d Z' h3 h5).mono ?_); rintro e w2 ⟨j, rfl, k1, k2, k3, k4⟩) | fail)
  all_goals go_ret
  all_goals
    obtain ⟨v, hv, hV⟩ := unhide hC w1 w2 d Z' _ h3 h4 h5 ⟨h1, h2⟩ (by rw [h7, Int.add_zero]) ⟨j, rfl, k1, k2, k3, k4⟩
    exact ⟨v, hv, hV, (h6.setCell (by simp) _).trans k4 (by simp)⟩
set_option maxRecDepth 100000 in
set_option maxHeartbeats 2000000 in
theorem mulAddWW_new (w : World) (Gz Gx kz cx : Nat) (X : List Int) (y : Int) (hx : Blk w Gx 81 (ivs .u64 X).toArray)
    (hl : X.length = 4) (hsx : Sm64 X) (hy : 0 < y ∧ y < 18446744073709551616) :
    Calls Tryz.prog 62 #[.slice (some ⟨Gz, 0, none⟩) kz 4, .slice (some ⟨Gx, 0, none⟩) 4 cx, .int .u64 y, .int .u64 0] w fun e w' => ∃ v, e = .returned v ∧ NatIs w' v (y * uv (X.take 4)) ∧ Mod [] w w' := by
  have hA := natMake_new w (some ⟨Gz, 0, none⟩) 5 kz 4 (by omega) (by omega) (by omega)
  rw [show ((5 : Nat) : Int) = 5 from rfl] at hA
  simp only [Nat.reduceAdd] at hA
  have hl9 : (List.replicate 9 (0 : Int)).length = 9 := List.length_replicate
  have hs9 : Sm64 (List.replicate 9 (0 : Int)) := sm64_zeros 9
  generalize List.replicate 9 (0 : Int) = Z0 at hA hl9 hs9
  have hg : Gx < w.heap.size := hx.lt
  have hZ : Blk (w.alloc (.cells (ivs .u64 Z0).toArray 81)) w.heap.size 81 (ivs .u64 Z0).toArray := Blk.new 81 _ rfl
  have hM := hide (mav_any (w.alloc (.cells (ivs .u64 Z0).toArray 81)) w.heap.size Gx 4 9 cx Z0 X y 0 hZ (fun W k Z' hk _ _ hm _ => ivs_cell ((hx.alloc _).mod hm (by simp; omega)) k (by omega)) (by omega) (by omega) (by omega) hs9 hsx ⟨by omega, hy.2⟩ (by decide))
  replace hA := hide hA
  have hC := hide (fun (w1 w2 : World) (d : Int) (Z' : List Int) (e : Ending) (h1 : Z'.length = Z0.length) (h2 : Sm64 Z') (h3 : Blk w1 w.heap.size 81 (ivs .u64 Z').toArray) (h4 : 0 ≤ d ∧ d < 18446744073709551616) (h5 : uv (Z'.take 4) + d * wb 4 = y * uv (X.take 4)) => mww_close (w := w) (w2 := w2) (c := 9) (e := e) (y := y) h3 (by omega) (by omega) (by omega) h2 h4 h5)
  have hN := hide (fun (w1 : World) (d : Int) (Z' : List Int) (h1 : Z'.length = Z0.length) (h3 : Blk w1 w.heap.size 81 (ivs .u64 Z').toArray) => norm_any (w1.setCell ⟨w.heap.size, 4, none⟩ (.int .u64 d)) w.heap.size 5 9 (Z'.set 4 d) (ivs_set h3 4 d) (by rw [List.length_set]; omega) (by rw [List.length_set]; omega) (by omega))
  have hW := hide (fun (w1 w2 : World) (Z' : List Int) (h1 : Z'.length = Z0.length) (h3 : Blk w1 w.heap.size 81 (ivs .u64 Z').toArray) => (⟨ivs_cell h3 4 (by omega), h3.frozen 4⟩ : w1.cell? ⟨w.heap.size, 4, none⟩ = some (.int .u64 (Z'.getD 4 0)) ∧ w1.frozen? ⟨w.heap.size, 4, none⟩ = false))
  clear hx hZ hg hl9 hs9
  have z2 : (y == 0) = false := by rw [beq_eq_false_iff_ne]; omega
  go_enter Tryz.func62, Tryz.ntmps62
  go_upto_region 4 with (fail)
  go_wp2_with (first | (go_at_call 54; (with_reducible refine (unhide hA).mono ?_); rintro e w1 ⟨rfl, rfl⟩) | fail)
  go_wp2_with (first | (go_at_call 78; (with_reducible refine (unhide hM).mono ?_); rintro e w1 ⟨d, Z', rfl, h1, h2, h3, h4, h5, h6, h7, h8⟩; obtain ⟨cz, fz⟩ := unhide hW w1 w1 Z' h3 h5) | fail)
  go_wp2_with (first | (go_at_call 51; (with_reducible refine (unhide hN w1 d Z' h3 h5).mono ?_); rintro e w2 ⟨j, rfl, k1, k2, k3, k4⟩) | fail)
  all_goals go_ret
  all_goals
    obtain ⟨v, hv, hV⟩ := unhide hC w1 w2 d Z' _ h3 h4 h5 ⟨h1, h2⟩ (by rw [h7, Int.add_zero]) ⟨j, rfl, k1, k2, k3, k4⟩
    refine ⟨v, hv, hV, ((((Mod.refl [] w).alloc _).trans h6 ?_).setCell ?_ _).trans k4 (by simp)⟩
    · intro x hx; simp at hx; subst hx; exact .inr (Nat.le_refl _)
    · exact .inr (Nat.le_refl _)
end
section
open Go.RowKit Go.ChangeShapes Go.WideShapes Go.ChangeAt Go
theorem uv_all0 (l : List Int) (h : ∀ j, l.getD j 0 = 0) : uv l = 0 := by
  induction l with
  | nil => rfl
  | cons d ds ih =>
    have h0 : d = 0 := h 0
    have h1 := ih (fun j => h (j + 1))
    show d + 18446744073709551616 * uv ds = 0
    rw [h0, h1]; rfl
theorem uv_take_tail (l : List Int) (k : Nat) (hk : k ≤ l.length) (h : ∀ j, k ≤ j → l.getD j 0 = 0) : uv (l.take k) = uv l := by
  rw [uv_take_drop l k hk, uv_all0 (l.drop k) (fun j => by
    rw [List.getD_eq_getElem?_getD, List.getElem?_drop, ← List.getD_eq_getElem?_getD]; exact h _ (by omega)), Int.mul_zero, Int.add_zero]
/-- room for n words from nothing. -/
theorem natMake_nil (W : World) (n : Nat) (hn : 1 < n) (hn1 : n ≤ 1000) :
    Calls Tryz.prog 54 #[.slice none 0 0, .int .i64 (n : Int)] W fun e w1 => ∃ g, e = .returned (.slice (some ⟨g, 0, none⟩) n (n + 4)) ∧ W.heap.size ≤ g ∧ Blk w1 g 81 (ivs .u64 (List.replicate (n + 4) 0)).toArray ∧ Mod [] W w1 :=
  (natMake_new W none n 0 0 hn hn1 (by omega)).mono fun e w1 ⟨he, hw⟩ => by subst hw; exact ⟨_, he, Nat.le_refl _, Blk.new 81 _ rfl, (Mod.refl [] W).alloc _⟩
def PNat (w : World) (S : List Nat) (x : Int) (e : Ending) (w' : World) : Prop := ∃ v, e = .returned v ∧ NatIs w' v x ∧ Mod S w w'
theorem two_close {w w1 w2 w3 : World} {g N n c : Nat} {P : Int} {Z : List Int} {e : Ending} (hm1 : Mod [] w w1) (hg : w.heap.size ≤ g) (hz : Blk w2 g 81 (ivs .u64 Z).toArray) (hm2 : Mod [g] w1 w2) (hl : Z.length = N) (hn : n ≤ N) (hN : N ≤ c) (hN2 : N ≤ 100) (hs : Sm64 Z) (hv : uv Z = P) (hf : ∀ j, n ≤ j → Z.getD j 0 = 0)
    (h : ∃ j : Nat, e = .returned (.slice (some ⟨g, 0, none⟩) j c) ∧ j ≤ n ∧ uv (Z.take j) = uv (Z.take n) ∧ (0 < j → Z.getD (j - 1) 0 ≠ 0) ∧ Mod [] w2 w3) : PNat w [] P e w3 := by
  obtain ⟨j, rfl, hj, he, h0, hm⟩ := h
  exact ⟨_, rfl, ⟨g, j, c, Z, rfl, hz.mod hm (by simp), by omega, by omega, by omega, hs, by rw [he, uv_take_tail Z n (by omega) hf, hv], h0⟩, (hm1.trans hm2 (fun x hx => by simp at hx; subst hx; exact .inr hg)).trans hm (by simp)⟩
set_option maxRecDepth 100000 in
set_option maxHeartbeats 2000000 in
/-- two words and more; the room for the result is one of the factors'. -/
theorem nm_two (first : Bool) (w : World) (G1 G2 kz m n : Nat) (X Y : List Int) (hx : Blk w G1 81 (ivs .u64 X).toArray) (hy : Blk w G2 81 (ivs .u64 Y).toArray) (hne : G1 ≠ G2) (hK : w.cell? ⟨2, 0, none⟩ = some (.int .i64 40))
    (hkz : kz ≤ 4) (hm : m ≤ 4) (hnm : n ≤ m) (hn : 2 ≤ n) (hX : X.length = 4) (hY : Y.length = 4) (hsx : Sm64 X) (hsy : Sm64 Y) :
    Calls Tryz.prog 50 #[.slice (some ⟨if first then G1 else G2, 0, none⟩) kz 4, .pointer none, .slice (some ⟨G1, 0, none⟩) m 4, .slice (some ⟨G2, 0, none⟩) n 4] w (PNat w [] (uv (X.take m) * uv (Y.take n))) := by
  have hE1 := hide (fun W => alias_eq W G1 kz m hkz hm)
  have hE2 := hide (fun W => alias_eq W G2 kz n hkz (by omega))
  have hN1 := hide (fun (W : World) (h1 : Mod [] w W) => alias_ne W G2 G1 kz m _ _ hkz hm (hy.mod h1 (by simp)) (hx.mod h1 (by simp)) (Ne.symm hne))
  have hA := fun W => natMake_nil W (m + n) (by omega) (by omega)
  rw [show ((m + n : Nat) : Int) = (m : Int) + (n : Int) by omega] at hA
  replace hA := hide hA
  have hB := hide (fun (w1 : World) (g : Nat) (h1 : Mod [] w w1) (h2 : w.heap.size ≤ g) (h3 : Blk w1 g 81 (ivs .u64 (List.replicate (m + n + 4) 0)).toArray) =>
    basic_any w1 g G1 G2 m n (m + n + 4) (m + n + 4) 4 4 X Y h3 (hx.mod h1 (by simp)) (hy.mod h1 (by simp)) (by have := hx.lt; omega) (by have := hy.lt; omega) (by omega) (by omega) (by omega) (by omega) (by omega) hsx hsy (by omega) (by omega))
  have hR := hide (fun (w2 : World) (g : Nat) (Z : List Int) (h1 : Z.length = m + n + 4) (h2 : Blk w2 g 81 (ivs .u64 Z).toArray) => norm_any w2 g (m + n) (m + n + 4) Z h2 (by omega) (by omega) (by omega))
  have hC := hide (fun (w1 w2 w3 : World) (g : Nat) (Z : List Int) (e : Ending) (hm1 : Mod [] w w1) (hg : w.heap.size ≤ g) (hz : Blk w2 g 81 (ivs .u64 Z).toArray) (hm2 : Mod [g] w1 w2) (hl : Z.length = m + n + 4) (hs : Sm64 Z) (hv : uv Z = uv (X.take m) * uv (Y.take n)) (hf : ∀ j, n + m ≤ j → Z.getD j 0 = 0) =>
    two_close (w3 := w3) (e := e) (n := m + n) (c := m + n + 4) hm1 hg hz hm2 hl (by omega) (by omega) (by omega) hs hv (fun j hj => hf j (by omega)))
  have hKM := hide (fun (W : World) (h1 : Mod [] w W) => h1.cell hK (by simp))
  clear hx hy hK
  have z1 : ¬ (m : Int) < (n : Int) := by omega
  have z2 : ((m : Int) == 0) = false := by rw [beq_eq_false_iff_ne]; omega
  have z3 : ((n : Int) == 0) = false := by rw [beq_eq_false_iff_ne]; omega
  have z4 : ((n : Int) == 1) = false := by rw [beq_eq_false_iff_ne]; omega
  have z5 : IntKind.i64.wrap ((m : Int) + (n : Int)) = (m : Int) + (n : Int) := (IntWalk.i64_left _).trans (IntWalk.wrap64_in _ (by omega))
  have z6 : (n : Int) < 40 := by omega
  cases first
  · simp only [if_false, Bool.false_eq_true]
    go_enter Tryz.func50, Tryz.ntmps50
    go_upto_region 9 with (fail)
    go_upto_region 10 with (first | (go_at_call 56; first | ((with_reducible refine (unhide hN1 _ (Mod.refl _ _)).mono ?_); rintro e w1 ⟨rfl, rfl⟩) | ((with_reducible refine (unhide hE2 _).mono ?_); rintro e w1 ⟨rfl, rfl⟩)) | fail)
    go_wp2_with (first | (go_at_call 54; (with_reducible refine (unhide hA _).mono ?_); rintro e w1 ⟨g, rfl, hg, hz1, hm1⟩; have hmw : Mod [] w w1 := ((((Mod.refl [] w)).drew).drew).trans hm1 (by simp); have hk1 := unhide hKM w1 hmw; replace hg : w.heap.size ≤ g := hg; replace hz1 := hide hz1; replace hm1 := hide hm1) | (go_at_call 57; (with_reducible refine (unhide hB w1 g hmw hg (unhide hz1)).mono ?_); rintro e w2 ⟨Z, rfl, k1, k2, k3, k4, k5, k6⟩) | (go_at_call 51; (with_reducible refine (unhide hR w2 g Z k1 k3).mono ?_); rintro e w3 ⟨j, rfl, j1, j2, j3, j4⟩) | fail)
    all_goals go_ret
    all_goals exact unhide hC w1 w2 w3 g Z _ hmw hg k3 k4 k1 k2 k5 k6 ⟨j, rfl, j1, j2, j3, j4⟩
  · simp only [if_true]
    go_enter Tryz.func50, Tryz.ntmps50
    go_upto_region 9 with (fail)
    go_upto_region 10 with (first | (go_at_call 56; ((with_reducible refine (unhide hE1 _).mono ?_); rintro e w1 ⟨rfl, rfl⟩)) | fail)
    go_wp2_with (first | (go_at_call 54; (with_reducible refine (unhide hA _).mono ?_); rintro e w1 ⟨g, rfl, hg, hz1, hm1⟩; have hmw : Mod [] w w1 := (((Mod.refl [] w)).drew).trans hm1 (by simp); have hk1 := unhide hKM w1 hmw; replace hg : w.heap.size ≤ g := hg; replace hz1 := hide hz1; replace hm1 := hide hm1) | (go_at_call 57; (with_reducible refine (unhide hB w1 g hmw hg (unhide hz1)).mono ?_); rintro e w2 ⟨Z, rfl, k1, k2, k3, k4, k5, k6⟩) | (go_at_call 51; (with_reducible refine (unhide hR w2 g Z k1 k3).mono ?_); rintro e w3 ⟨j, rfl, j1, j2, j3, j4⟩) | fail)
    all_goals go_ret
    all_goals exact unhide hC w1 w2 w3 g Z _ hmw hg k3 k4 k1 k2 k5 k6 ⟨j, rfl, j1, j2, j3, j4⟩
end
section
open Go.RowKit Go.ChangeShapes Go.WideShapes Go.ChangeAt Go
set_option maxRecDepth 100000 in
set_option maxHeartbeats 2000000 in
theorem nm_zero (w : World) (G G1 G2 kz m : Nat) (hm : m ≤ 4) :
    Calls Tryz.prog 50 #[.slice (some ⟨G, 0, none⟩) kz 4, .pointer none, .slice (some ⟨G1, 0, none⟩) m 4, .slice (some ⟨G2, 0, none⟩) 0 4] w fun e w' => e = .returned (.slice (some ⟨G, 0, none⟩) 0 4) ∧ w' = w := by
  have z1 : ¬ (m : Int) < 0 := by omega
  rcases Nat.eq_zero_or_pos m with rfl | hm0
  · go_enter Tryz.func50, Tryz.ntmps50
    go_wp2_with fail
    go_ret
    exact ⟨rfl, rfl⟩
  · have z2 : ((m : Int) == 0) = false := by rw [beq_eq_false_iff_ne]; omega
    go_enter Tryz.func50, Tryz.ntmps50
    go_wp2_with fail
    go_ret
    exact ⟨rfl, rfl⟩
set_option maxRecDepth 100000 in
set_option maxHeartbeats 2000000 in
theorem nm_one (first : Bool) (w : World) (G1 G2 kz m : Nat) (X Y : List Int) (hx : Blk w G1 81 (ivs .u64 X).toArray) (hy : Blk w G2 81 (ivs .u64 Y).toArray) (hne : G1 ≠ G2)
    (hkz : kz ≤ 4) (hm : m ≤ 4) (hm0 : 1 ≤ m) (hX : X.length = 4) (hY : Y.length = 4) (hsx : Sm64 X) (hsy : Sm64 Y) (hy0 : Y.getD 0 0 ≠ 0) :
    Calls Tryz.prog 50 #[.slice (some ⟨if first then G1 else G2, 0, none⟩) kz 4, .pointer none, .slice (some ⟨G1, 0, none⟩) m 4, .slice (some ⟨G2, 0, none⟩) 1 4] w (PNat w [if first then G1 else G2] (uv (X.take m) * uv (Y.take 1))) := by
  have cy := ivs_cell hy 0 (by omega)
  have hyk := sm64_get hsy 0
  have huy : uv (Y.take 1) = Y.getD 0 0 := by rw [uv_take1 Y 0 (by omega)]; simp [uv, wb_zero]
  rw [huy, Int.mul_comm]
  have hC : Calls Tryz.prog 62 #[.slice (some ⟨if first then G1 else G2, 0, none⟩) kz 4, .slice (some ⟨G1, 0, none⟩) m 4, .int .u64 (Y.getD 0 0), .int .u64 0] w (PNat w [if first then G1 else G2] (Y.getD 0 0 * uv (X.take m))) := by
    rcases Nat.lt_or_ge m 4 with h4 | h4
    · cases first
      · exact mulAddWW_old w G2 G1 kz m 4 Y X (Y.getD 0 0) hy (fun W k Z' hk _ _ hmd _ => ivs_cell (hx.mod hmd (by simpa using hne)) k (by omega)) hm0 h4 hY (by omega) hsy hsx ⟨by omega, hyk.2⟩
      · exact mulAddWW_old w G1 G1 kz m 4 X X (Y.getD 0 0) hx (fun W k Z' hk hl hz hmd hf => by rw [ivs_cell hz k (by omega), hf k (Nat.le_refl k)]) hm0 h4 hX (by omega) hsx hsx ⟨by omega, hyk.2⟩
    · obtain rfl : m = 4 := by omega
      exact (mulAddWW_new w (if first then G1 else G2) G1 kz 4 X (Y.getD 0 0) hx hX hsx ⟨by omega, hyk.2⟩).mono fun e w' ⟨v, h1, h2, h3⟩ => ⟨v, h1, h2, h3.any _⟩
  generalize (if first then G1 else G2) = G at *
  generalize Y.getD 0 0 = y at *
  have HC := hide hC
  clear hC hx hy hyk hy0 huy
  have z1 : ¬ (m : Int) < 1 := by omega
  have z2 : ((m : Int) == 0) = false := by rw [beq_eq_false_iff_ne]; omega
  go_enter Tryz.func50, Tryz.ntmps50
  go_wp2_with (first | (go_at_call 62; (with_reducible refine (unhide HC).mono ?_); rintro e w1 ⟨v, rfl, h2, h3⟩) | fail)
  go_ret
  exact ⟨v, rfl, h2, h3⟩
/-- the lesser one second. -/
theorem nm_le (first : Bool) (w : World) (G1 G2 kz m n : Nat) (X Y : List Int) (hx : Blk w G1 81 (ivs .u64 X).toArray) (hy : Blk w G2 81 (ivs .u64 Y).toArray) (hne : G1 ≠ G2) (hK : w.cell? ⟨2, 0, none⟩ = some (.int .i64 40))
    (hkz : kz ≤ 4) (hm : m ≤ 4) (hnm : n ≤ m) (hX : X.length = 4) (hY : Y.length = 4) (hsx : Sm64 X) (hsy : Sm64 Y) (hyt : 0 < n → Y.getD (n - 1) 0 ≠ 0) :
    Calls Tryz.prog 50 #[.slice (some ⟨if first then G1 else G2, 0, none⟩) kz 4, .pointer none, .slice (some ⟨G1, 0, none⟩) m 4, .slice (some ⟨G2, 0, none⟩) n 4] w (PNat w [if first then G1 else G2] (uv (X.take m) * uv (Y.take n))) := by
  rcases n with _ | _ | n
  · refine (nm_zero w _ G1 G2 kz m hm).mono ?_
    rintro e w' ⟨rfl, rfl⟩
    refine ⟨_, rfl, ?_, Mod.refl _ _⟩
    cases first
    · exact ⟨G2, 0, 4, Y, rfl, hy, by omega, by omega, by omega, hsy, by simp [uv], fun h => absurd h (by omega)⟩
    · exact ⟨G1, 0, 4, X, rfl, hx, by omega, by omega, by omega, hsx, by simp [uv], fun h => absurd h (by omega)⟩
  · exact nm_one first w G1 G2 kz m X Y hx hy hne hkz hm hnm hX hY hsx hsy (hyt (by omega))
  · exact (nm_two first w G1 G2 kz m (n + 2) X Y hx hy hne hK hkz hm hnm (by omega) hX hY hsx hsy).mono fun e w' ⟨v, h1, h2, h3⟩ => ⟨v, h1, h2, h3.any _⟩
set_option maxRecDepth 100000 in
set_option maxHeartbeats 2000000 in
theorem nm_any (w : World) (G1 G2 m n : Nat) (X Y : List Int) (hx : Blk w G1 81 (ivs .u64 X).toArray) (hy : Blk w G2 81 (ivs .u64 Y).toArray) (hne : G1 ≠ G2) (hK : w.cell? ⟨2, 0, none⟩ = some (.int .i64 40))
    (hm : m ≤ 4) (hn : n ≤ 4) (hX : X.length = 4) (hY : Y.length = 4) (hsx : Sm64 X) (hsy : Sm64 Y) (hxt : 0 < m → X.getD (m - 1) 0 ≠ 0) (hyt : 0 < n → Y.getD (n - 1) 0 ≠ 0) :
    Calls Tryz.prog 50 #[.slice (some ⟨G1, 0, none⟩) m 4, .pointer none, .slice (some ⟨G1, 0, none⟩) m 4, .slice (some ⟨G2, 0, none⟩) n 4] w (PNat w [G1] (uv (X.take m) * uv (Y.take n))) := by
  rcases Nat.lt_or_ge m n with h | h
  · have hC := hide (nm_le false w G2 G1 m n m Y X hy hx (Ne.symm hne) hK hm hn (by omega) hY hX hsy hsx hxt)
    rw [Int.mul_comm (uv (Y.take n))] at hC
    simp only [if_false, Bool.false_eq_true] at hC
    clear hx hy hK
    have z1 : (m : Int) < (n : Int) := by omega
    go_enter Tryz.func50, Tryz.ntmps50
    go_wp2_with (first | (go_at_call 50; (with_reducible refine (unhide hC).mono ?_); rintro e w1 ⟨v, rfl, h2, h3⟩) | fail)
    go_ret
    exact ⟨v, rfl, h2, h3⟩
  · exact nm_le true w G1 G2 m m n X Y hx hy hne hK hm hm h hX hY hsx hsy hyt
end
end Go.Proofs.YtfalicipocbcoaaGreatDoor
