/- The law FnWriteBits: the walk. (YtcjjajbpjfamfaaDoor) -/
import Derived.Test.YtcjjajbpjfamfaaDoorX23
import Derived.Laws.Cells
import Derived.Laws.BytesString
set_option linter.unusedVariables false
set_option linter.unusedSimpArgs false
namespace Go.Proofs.YtcjjajbpjfamfaaDoor
open Go.ChangeShapes Go.WideShapes Go.ChangeAt Go.RowKit
def strOf (m : List Nat) : ByteArray := (m.map fun (n : Nat) => (n : Int)).foldl (fun r n => r.push (UInt8.ofNat n.toNat)) ByteArray.empty
theorem conv_any {w : World} {B G N cap : Nat} {m : List Nat} (h : w.ownsRow B 5 1 (.slice (some ⟨G, 0, none⟩) N cap) N (bv m)) : (convert 22 9 (.slice (some ⟨G, 0, none⟩) N cap)).run Tryd.prog w = .ok (.string (strOf m)) w := by
  have hl : m.length = N := by have := h.1; simpa [bv] using this
  rw [run_convert_bytes_string w 22 9 5 _ N cap Tryd.underlying22 Tryd.underlying5 Tryd.underlying9]
  refine run_bytesToString w ⟨G, 0, none⟩ N cap (m.map fun (n : Nat) => (n : Int)) ?_
  have e : (m.map fun (n : Nat) => (n : Int)).map (Value.int .u8) = bv m := by simp [bv]
  rw [e]
  have := run_loadCells_list (P := Tryd.prog) (w := w) ⟨G, 0, none⟩ (bv m) (fun j v hj => by
    have hjl : j < N := by
      have := (List.getElem?_eq_some_iff.1 hj).1
      simp [bv] at this; omega
    rw [sl_add, Nat.zero_add, own_cell h j hjl]
    have h2 := bv_get m j (by omega)
    rw [List.getElem?_toArray] at h2
    rw [← h2]; exact hj)
  rw [bv_length, hl] at this
  exact this
theorem same_any (w : World) (B G N cap B2 G2 cap2 : Nat) (m : List Nat) (h : w.ownsRow B 5 1 (.slice (some ⟨G, 0, none⟩) N cap) N (bv m)) (h2 : w.ownsRow B2 5 1 (.slice (some ⟨G2, 0, none⟩) N cap2) N (bv m)) :
    Calls Tryd.prog 5 #[.slice (some ⟨G, 0, none⟩) N cap, .slice (some ⟨G2, 0, none⟩) N cap2] w fun e w' => e = .returned (.bool true) ∧ w = w' := by
  have e1 := conv_any h
  have e2 := conv_any h2
  clear h h2
  generalize strOf m = s at *
  go_enter Tryd.func5, Tryd.ntmps5
  go_wp2
  go_ret
  exact ⟨ret_bool (by simp), rfl⟩
set_option maxRecDepth 100000 in
set_option maxHeartbeats 4000000 in
theorem law_in (w : World) (A A2 : Option Addr) (n c c2 f N : Nat) (how : Int) (d : List Nat) (l : List Bool) (hdn : d.length = n) (hN : l.length = N) (hd : Sl w w.heap.size A n (bv d)) (hs : Small d) (hl : Sl w w.heap.size A2 N (bools l)) (hn : n ≤ 4096) (hc2 : N ≤ c2) (hfl : f + N ≤ 8 * n) (hM : Msk w) (hF : Flp w) (hT : Tzt w) (hB3 : 3 ≤ w.heap.size) (hh : how = 0 ∨ how = 1 ∨ how = 2) :
    Calls Tryd.prog 3 #[.slice A n c, .int .i64 (f : Int), .slice A2 N c2, .int .i64 how] w fun e w' => e = .returned (.bool true) ∧ Mod [] w w' := by
  subst hdn; subst hN
  have hwi : withinB d.length f l.length = true := by simp [withinB]; omega
  have HW := Lib.hid hwi
  clear hwi
  have HG := hide (writeBits_any w A A2 c c2 f how d l hd hs hl hn hc2 hfl hM hF hT hB3 hh rfl)
  have HCH := hide (fun w1 (hm : Mod [] w w1) => changed_any w1 A A2 c c2 d l f ((hd.mod hm (by simp)).mono hm.size) ((hl.mod hm (by simp)).mono hm.size) hs hn hfl)
  generalize chgN d f l l.length = cr at HCH HG
  clear hd hl hM hF hT
  generalize hN : l.length = N at *
  generalize hD : d.length = n at *
  have hh0 : ¬ how < 0 := by omega
  have hh2 : ¬ 2 < how := by omega
  clear hN hD hh
  go_enter Tryd.func3, Tryd.ntmps3
  go_wp2_with (first | (go_at_call 4; (with_reducible refine (within_any _ _ _ _ _ _ (by omega)).mono ?_); rintro e w' ⟨rfl, rfl⟩; rw [HW.out]) | (go_at_call 6; (with_reducible refine (unhide HG).mono ?_); rintro e w1 ⟨G, cap, rfl, ho1, hm1⟩; (have HC1 := hide (unhide HCH w1 hm1)); clear HCH HG; have KO1 := hide ho1; have KM1 := hide hm1; clear ho1 hm1) | (go_at_call 7; (with_reducible refine (unhide HC1).mono ?_); rintro e w2 ⟨G2, cap2, rfl, ho2, hm2⟩; clear HC1; have HS := hide (same_any w2 _ G n cap _ G2 cap2 cr (own_mod (unhide KO1) hm2 (by simp)) ho2); have KM2 := hide ((unhide KM1).trans hm2 (by simp)); clear ho2 hm2) | (go_at_call 5; (with_reducible refine (unhide HS).mono ?_); rintro e w3 ⟨rfl, rfl⟩) | fail)
  go_ret
  exact ⟨rfl, unhide KM2⟩
set_option maxRecDepth 100000 in
set_option maxHeartbeats 4000000 in
theorem law_big (w : World) (A A2 : Option Addr) (n c c2 N : Nat) (f how : Int) (hn : n ≤ maxLen) (hN : N ≤ maxLen) (h : 2147483647 < n ∨ 2147483647 < N) :
    Calls Tryd.prog 3 #[.slice A n c, .int .i64 f, .slice A2 N c2, .int .i64 how] w fun e w' => e = .returned (.bool true) ∧ Mod [] w w' := by
  have hm : maxLen = 9223372036854775807 := by decide
  go_enter Tryd.func3, Tryd.ntmps3
  go_wp2_with fail
  all_goals first | (go_ret; exact ⟨rfl, Mod.refl _ _⟩) | (exfalso; simp at *; omega)
set_option maxRecDepth 100000 in
set_option maxHeartbeats 4000000 in
theorem law_out (w : World) (A A2 : Option Addr) (n c c2 N : Nat) (f how : Int) (hn : n ≤ 2147483647) (hN : N ≤ 2147483647) (h : withinB n f N = false) :
    Calls Tryd.prog 3 #[.slice A n c, .int .i64 f, .slice A2 N c2, .int .i64 how] w fun e w' => e = .returned (.bool true) ∧ Mod [] w w' := by
  have HW := Lib.hid h
  clear h
  go_enter Tryd.func3, Tryd.ntmps3
  go_wp2_with (first | (go_at_call 4; (with_reducible refine (within_any _ _ _ _ _ _ (by omega)).mono ?_); rintro e w' ⟨rfl, rfl⟩; rw [HW.out]) | fail)
  all_goals (go_ret; exact ⟨rfl, Mod.refl _ _⟩)
set_option maxRecDepth 100000 in
set_option maxHeartbeats 4000000 in
theorem law_how (w : World) (A A2 : Option Addr) (n c c2 N : Nat) (f how : Int) (hn : n ≤ 2147483647) (hN : N ≤ 2147483647) (hw : withinB n f N = true) (h : how < 0 ∨ 2 < how) :
    Calls Tryd.prog 3 #[.slice A n c, .int .i64 f, .slice A2 N c2, .int .i64 how] w fun e w' => e = .returned (.bool true) ∧ Mod [] w w' := by
  have HW := Lib.hid hw
  clear hw
  by_cases h0 : how < 0
  · go_enter Tryd.func3, Tryd.ntmps3
    go_wp2_with (first | (go_at_call 4; (with_reducible refine (within_any _ _ _ _ _ _ (by omega)).mono ?_); rintro e w' ⟨rfl, rfl⟩; rw [HW.out]) | fail)
    all_goals (go_ret; exact ⟨rfl, Mod.refl _ _⟩)
  · have h2 : 2 < how := by omega
    go_enter Tryd.func3, Tryd.ntmps3
    go_wp2_with (first | (go_at_call 4; (with_reducible refine (within_any _ _ _ _ _ _ (by omega)).mono ?_); rintro e w' ⟨rfl, rfl⟩; rw [HW.out]) | fail)
    all_goals (go_ret; exact ⟨rfl, Mod.refl _ _⟩)
theorem law_any (w : World) (A A2 : Option Addr) (c c2 : Nat) (f how : Int) (d : List Nat) (l : List Bool) (hd : Sl w w.heap.size A d.length (bv d)) (hs : Small d) (hl : Sl w w.heap.size A2 l.length (bools l)) (hn : d.length ≤ maxLen) (hN : l.length ≤ maxLen) (hc2 : l.length ≤ c2) (hM : Msk w) (hF : Flp w) (hT : Tzt w) (hB3 : 3 ≤ w.heap.size) :
    Calls Tryd.prog 3 #[.slice A d.length c, .int .i64 f, .slice A2 l.length c2, .int .i64 how] w fun e w' => e = .returned (.bool true) ∧ Mod [] w w' := by
  by_cases hb : 2147483647 < d.length ∨ 2147483647 < l.length
  · exact law_big w A A2 _ c c2 _ f how hn hN hb
  by_cases hw : withinB d.length f l.length = true
  · by_cases hh : how < 0 ∨ 2 < how
    · exact law_how w A A2 _ c c2 _ f how (by omega) (by omega) hw hh
    · obtain ⟨h1, h2, h3, h4, h5⟩ := withinB_true hw
      obtain ⟨f, rfl⟩ := Int.eq_ofNat_of_zero_le h2
      exact law_in w A A2 _ c c2 f _ how d l rfl rfl hd hs hl h1 hc2 (by omega) hM hF hT hB3 (by omega)
  · exact law_out w A A2 _ c c2 _ f how (by omega) (by omega) (by simpa using hw)
end Go.Proofs.YtcjjajbpjfamfaaDoor
