/- Bytes combined at one and the same place within the byte: the walk. (YtjfbojmeccdchaaDoor) -/
import Derived.Test.YtjfbojmeccdchaaDoorFBa
import Derived.Test.YtjfbojmeccdchaaDoorF8
set_option linter.unusedVariables false
set_option linter.unusedSimpArgs false
namespace Go.Proofs.YtjfbojmeccdchaaDoor
open Go.ChangeShapes Go.WideShapes Go.ChangeAt Go.RowKit
set_option maxRecDepth 100000 in
set_option maxHeartbeats 4000000 in
theorem aligA_0 (w : World) (B S1 S2 G N cap so1 sn1 sc1 sf1 so2 sn2 sc2 sf2 f n : Nat) (sb1 sb2 d : List Nat) (l1 l2 : List Bool)
    (hS1 : Small sb1) (hS2 : Small sb2) (hD : Small d) (hd : d.length = N) (hN : N ≤ 4096) (hfn : f + n ≤ 8 * N) (hnX : (f % 8 + n + 7) / 8 = 1) (hcap : N ≤ cap) (hGz : G ≠ 0) (hGo : G ≠ 1) (hG1 : S1 ≠ G) (hG2 : S2 ≠ G)
    (hsf1 : sf1 < 65536) (he1 : sf1 % 8 = f % 8) (hsn1 : sf1 / 8 + (sf1 % 8 + n + 7) / 8 ≤ sn1) (hsc1 : sn1 ≤ sc1) (hsb1 : so1 + sf1 / 8 + (sf1 % 8 + n + 7) / 8 ≤ sb1.length) (hl1 : ∀ j, j < n → l1.getD j false = bitAt sb1 (8 * (so1 + sf1 / 8) + sf1 % 8 + j))
    (hsf2 : sf2 < 65536) (he2 : sf2 % 8 = f % 8) (hsn2 : sf2 / 8 + (sf2 % 8 + n + 7) / 8 ≤ sn2) (hsc2 : sn2 ≤ sc2) (hsb2 : so2 + sf2 / 8 + (sf2 % 8 + n + 7) / 8 ≤ sb2.length) (hl2 : ∀ j, j < n → l2.getD j false = bitAt sb2 (8 * (so2 + sf2 / 8) + sf2 % 8 + j))
    (hP : Prc w) (hT : Trl w) (hr1 : Rdb w S1 sb1 so1) (hr2 : Rdb w S2 sb2 so2) (hown : w.ownsRow B 5 1 (.slice (some ⟨G, 0, none⟩) N cap) N (bv d)) :
    Calls Tryd.prog 33 #[.agg #[fnV 35, fnV 36, fnV 37], .slice (some ⟨S1, so1, none⟩) sn1 sc1, .slice (some ⟨S2, so2, none⟩) sn2 sc2, .int .i64 sf1, .int .i64 sf2, .slice (some ⟨G, 0, none⟩) N cap, .int .i64 f, .int .i64 n] w fun e w' =>
      e = .returned (.tuple #[]) ∧ w'.ownsRow B 5 1 (.slice (some ⟨G, 0, none⟩) N cap) N (bv (chgN d f (cmbL 0 l1 l2 n) n)) ∧ Mod [G] w w' := by
  have hn0 : 0 < (f % 8 + n + 7) / 8 := by omega
  have hBBF := hide (fun (W : World) => bfb_i W ((n : Int) + (sf1 : Int) % 8) (f % 8 + n) (by omega) (by omega))
  have hBox := (Mod.refl [] w).alloc (.cells #[fnV 35, fnV 36, fnV 37] 47)
  have kBox := Blk.new (w := w) (g := w.heap.size) 47 #[fnV 35, fnV 36, fnV 37] rfl
  have g1 := hr1.mod hBox (by simp)
  have g2 := hr2.mod hBox (by simp)
  have gO := own_mod hown hBox (by simp)
  have gP := hP.mod hBox (by simp)
  have gT := hT.mod hBox (by simp)
  have hgl := own_lt' hown
  have hz : (w.alloc (.cells #[fnV 35, fnV 36, fnV 37] 47)).heap.size = w.heap.size + 1 := by simp
  have hf8 : f / 8 < N := by omega
  rw [he1] at hsn1 hsb1 hl1
  rw [he2] at hsn2 hsb2 hl2
  generalize hnb : (f % 8 + n + 7) / 8 = nb at *
  have KB := hide kBox
  have KM := hide hBox
  have K1 := hide g1
  have K2 := hide g2
  have KO := hide gO
  have KP := hide gP
  have KT := hide gT
  clear hr1 hr2 hown hP hT g1 g2 gO gP gT kBox hBox
  have hq1 : ¬ sc1 - sf1 / 8 = 0 := by omega
  have hq2 : ¬ sc2 - sf2 / 8 = 0 := by omega
  have hq3 : ¬ cap - f / 8 = 0 := by omega
  go_enter Tryd.func33, Tryd.ntmps33
  go_upto_region 8 with (first | (go_at_call 52; (with_reducible refine (unhide hBBF _).mono ?_); rintro e w' ⟨rfl, rfl⟩) | (go_at_call 53; with_reducible refine (assert_any _ _ _).mono ?_; rintro e w6 ⟨rfl, rfl⟩) | fail)
  have hA1 : so1 + sf1 / 8 + nb ≤ sb1.length := hsb1
  have hM1 : nb ≤ sn1 - sf1 / 8 := by omega
  have hC1 : sn1 - sf1 / 8 ≤ sc1 - sf1 / 8 := by omega
  have hA2 : so2 + sf2 / 8 + nb ≤ sb2.length := hsb2
  have hM2 : nb ≤ sn2 - sf2 / 8 := by omega
  have hC2 : sn2 - sf2 / 8 ≤ sc2 - sf2 / 8 := by omega
  have hMo : nb ≤ N - f / 8 := by omega
  have hCo : N - f / 8 ≤ cap - f / 8 := by omega
  have hLo1 : so1 ≤ so1 + sf1 / 8 := by omega
  have hLo2 : so2 ≤ so2 + sf2 / 8 := by omega
  have hqN : f / 8 + nb ≤ N := by omega
  have hef : 8 * (f / 8) + f % 8 = f := by omega
  have hfit : 8 * (f / 8) + f % 8 + n ≤ 8 * d.length := by omega
  have hs8 : f % 8 < 8 := by omega
  have hsn : f % 8 + n ≤ 8 * nb := by omega
  have hsn' : 8 * nb < f % 8 + n + 8 := by omega
  have hse : (sf1 + n) % 8 = (f % 8 + n) % 8 := by omega
  have hse8 : (sf1 + n) % 8 < 8 := by omega
  have hn5 : n < 65536 := by omega
  generalize so1 + sf1 / 8 = A1 at *
  generalize so2 + sf2 / 8 = A2 at *
  generalize f / 8 = q at *
  generalize sn1 - sf1 / 8 = m1 at *
  generalize sc1 - sf1 / 8 = c1 at *
  generalize sn2 - sf2 / 8 = m2 at *
  generalize sc2 - sf2 / 8 = c2 at *
  generalize N - q = mo at *
  generalize cap - q = co at *
  generalize hs : f % 8 = s at *
  clear hsn1 hsb1 hsn2 hsb2 hq1 hq2 hq3 hfn hsc1 hsc2 hBBF hf8
  have hGb : G < (w.alloc (.cells #[fnV 35, fnV 36, fnV 37] 47)).heap.size := by rw [hz]; omega
  generalize hw1 : w.alloc (.cells #[fnV 35, fnV 36, fnV 37] 47) = w1 at *
  have hb0G : w.heap.size ≠ G := by omega
  generalize hb0 : w.heap.size = b0 at *
  clear hw1 hb0
  have gP := unhide KP
  have gT := unhide KT
  have ce := gT ((sf1 + n) % 8) hse8
  have cs := gP s hs8
  have ck := (unhide KB).cell 1
  have cka := (unhide KB).cell 2
  have cx := unhide K1 A1 hLo1 (by omega)
  have cy := unhide K2 A2 hLo2 (by omega)
  have co0 := own_cell (unhide KO) q (by omega)
  have fo0 := own_frozen (unhide KO) q
  have hx8 := hS1.get A1
  have hy8 := hS2.get A2
  have ho8 := hD.get q
  have hBh := hide (fun W x y hx hy => opB_0 W x y hx hy)
  have hp := pow_lt8 hs8
  clear gP gT
  subst hnX
  have hm0 : 0 < m1 ∧ 0 < m2 ∧ 0 < mo := by omega
  obtain ⟨hm0a, hm0b, hm0c⟩ := hm0
  have hmk : (2 ^ s - 1) ||| trl ((sf1 + n) % 8) < 256 := or_lt8 (by omega) (trl_lt _)
  have hmb := mixb_bits ((2 ^ s - 1) ||| trl ((sf1 + n) % 8)) (d.getD q 0) (bOp 0 (sb1.getD A1 0) (sb2.getD A2 0)) hmk ho8 (bOp_lt 0 _ _ hx8 hy8)
  have hst := own_set (own_D (unhide KO)) q (mixb ((2 ^ s - 1) ||| trl ((sf1 + n) % 8)) (d.getD q 0) (bOp 0 (sb1.getD A1 0) (sb2.getD A2 0))) (by omega)
  have hfin : d.set q (mixb ((2 ^ s - 1) ||| trl ((sf1 + n) % 8)) (d.getD q 0) (bOp 0 (sb1.getD A1 0) (sb2.getD A2 0))) = chgN d f (cmbL 0 l1 l2 n) n := by
    rw [hse, ← hef]
    rcases Nat.eq_zero_or_pos n with rfl | hnp
    · exact aligned_none 0 s q A1 A2 d l1 l2 hD hs8 (by omega) _ (bOp_lt 0 _ _ hx8 hy8) _
    · exact aligned_one 0 s q n A1 A2 d sb1 sb2 l1 l2 hD hS1 hS2 hs8 hnp (by omega) hfit hl1 hl2
  rw [hfin, ← hmb] at hst
  have HST := hide hst
  have hor := hide (fun (hE : (sf1 + n) % 8 ≠ 0) => (show bits .or .u8 ((2 ^ s - 1 : Nat) : Int) ((256 - 2 ^ ((sf1 + n) % 8) : Nat) : Int) = (((2 ^ s - 1) ||| trl ((sf1 + n) % 8) : Nat) : Int) from by
    have hte : trl ((sf1 + n) % 8) = 256 - 2 ^ ((sf1 + n) % 8) := by unfold trl; rw [if_neg hE]
    rw [hte]
    exact u8_or_nat _ _ (by omega) (by have := trl_lt ((sf1 + n) % 8); omega)))
  have hor0 := hide (fun (hE : (sf1 + n) % 8 = 0) => (show (((2 ^ s - 1 : Nat) : Int)) = (((2 ^ s - 1) ||| trl ((sf1 + n) % 8) : Nat) : Int) from by rw [hE]; simp [trl]))
  clear hst hmb hfin hl1 hl2 hse hsn hsn' hfit hef hS1 hS2 hD cka
  generalize (2 ^ s - 1) ||| trl ((sf1 + n) % 8) = mk at *
  generalize 256 - 2 ^ ((sf1 + n) % 8) = te at *
  generalize 2 ^ s - 1 = p0 at *
  generalize d.getD q 0 = o at *
  generalize sb1.getD A1 0 = x at *
  generalize sb2.getD A2 0 = y at *
  by_cases hE : (sf1 + n) % 8 = 0
  · have hEi : ((sf1 : Int) + (n : Int)) % 8 = 0 := by omega
    have HE := hide hE
    clear hE ce
    go_upto_region 21 with (fail)
    rw [unhide hor0 (unhide HE)]
    clear hor hor0
    refine wp_region_K (S := fun W' => W'.cell? ⟨G, q, none⟩ = some (.int .u8 ((o : Nat) : Int)) ∧ W'.cell? ⟨b0, 1, none⟩ = some (fnV 36) ∧ W'.cell? ⟨S1, A1, none⟩ = some (.int .u8 ((x : Nat) : Int)) ∧ W'.cell? ⟨S2, A2, none⟩ = some (.int .u8 ((y : Nat) : Int)) ∧ W'.frozen? ⟨G, q, none⟩ = false ∧ W' = w1.drew) (k := 19) (by kernel_rfl) ⟨co0, ck, cx, cy, fo0, rfl⟩ (fun hHeld => ?_)
    have HSV := hide (⟨hHeld.1, hHeld.2.1, hHeld.2.2.1, hHeld.2.2.2.1, hHeld.2.2.2.2.1⟩ : _ ∧ _ ∧ _ ∧ _ ∧ _)
    refine wpAnyK_take (i := 0) (oi := _) (v := ?_) rfl (by kernel_rfl) (by kernel_rfl) (by kernel_rfl) (by kernel_rfl) (fun _ _ _ h => h) (Or.inl ⟨by rfl, ?_⟩) (by assumption) ?_
    rotate_left
    · intro w hSw; (try dsimp only at hSw); go_simp; (try with_reducible rfl)
    try simp only [Act.put, List.setIfInBounds_toArray, List.set_cons_zero, List.set_cons_succ]
    refine wpAnyK_take (i := 1) (oi := _) (v := ?_) rfl (by kernel_rfl) (by kernel_rfl) (by kernel_rfl) (by kernel_rfl) (fun _ _ _ h => h) (Or.inl ⟨by rfl, ?_⟩) (by assumption) ?_
    rotate_left
    · intro w hSw; (try dsimp only at hSw); go_simp; (try with_reducible rfl)
    try simp only [Act.put, List.setIfInBounds_toArray, List.set_cons_zero, List.set_cons_succ]
    refine wpAnyK_take (i := 2) (oi := _) (v := ?_) rfl (by kernel_rfl) (by kernel_rfl) (by kernel_rfl) (by kernel_rfl) (fun _ _ _ h => h) (Or.inl ⟨by rfl, ?_⟩) (by assumption) ?_
    rotate_left
    · intro w hSw; (try dsimp only at hSw); go_simp; (try with_reducible rfl)
    try simp only [Act.put, List.setIfInBounds_toArray, List.set_cons_zero, List.set_cons_succ]
    refine wpAnyK_take (i := 3) (oi := _) (v := ?_) rfl (by kernel_rfl) (by kernel_rfl) (by kernel_rfl) (by kernel_rfl) (fun _ _ _ h => h) (Or.inl ⟨by rfl, ?_⟩) (by assumption) ?_
    rotate_left
    · intro w hSw; (try dsimp only at hSw); go_simp; (try with_reducible rfl)
    try simp only [Act.put, List.setIfInBounds_toArray, List.set_cons_zero, List.set_cons_succ]
    refine wpAnyK_take (i := 4) (oi := _) (v := ?_) rfl (by kernel_rfl) (by kernel_rfl) (by kernel_rfl) (by kernel_rfl) (fun _ _ _ h => h) (Or.inl ⟨by rfl, ?_⟩) (by assumption) ?_
    rotate_left
    · intro w hSw; (try dsimp only at hSw); go_simp; (try with_reducible rfl)
    try simp only [Act.put, List.setIfInBounds_toArray, List.set_cons_zero, List.set_cons_succ]
    refine wpAnyK_take (i := 5) (oi := _) (v := ?_) rfl (by kernel_rfl) (by kernel_rfl) (by kernel_rfl) (by kernel_rfl) (fun _ _ _ h => h) (Or.inl ⟨by rfl, ?_⟩) (by assumption) ?_
    rotate_left
    · intro w hSw; (try dsimp only at hSw); go_simp; (try with_reducible rfl)
    try simp only [Act.put, List.setIfInBounds_toArray, List.set_cons_zero, List.set_cons_succ]
    refine wpAnyK_take (i := 6) (oi := _) (v := ?_) rfl (by kernel_rfl) (by kernel_rfl) (by kernel_rfl) (by kernel_rfl) (fun _ _ _ h => h) (Or.inl ⟨by rfl, ?_⟩) (by assumption) ?_
    rotate_left
    · intro w hSw; (try dsimp only at hSw); go_simp; (try with_reducible rfl)
    try simp only [Act.put, List.setIfInBounds_toArray, List.set_cons_zero, List.set_cons_succ]
    refine wpAnyK_take (i := 7) (oi := _) (v := ?_) rfl (by kernel_rfl) (by kernel_rfl) (by kernel_rfl) (by kernel_rfl) (fun _ _ _ h => h) (Or.inl ⟨by rfl, ?_⟩) (by assumption) ?_
    rotate_left
    · intro w hSw; (try dsimp only at hSw); go_simp; (try with_reducible rfl)
    try simp only [Act.put, List.setIfInBounds_toArray, List.set_cons_zero, List.set_cons_succ]
    refine wpAnyK_take (i := 8) (oi := _) (v := ?_) rfl (by kernel_rfl) (by kernel_rfl) (by kernel_rfl) (by kernel_rfl) (fun _ _ _ h => h) (Or.inl ⟨by rfl, ?_⟩) (by assumption) ?_
    rotate_left
    · intro w hSw; (try dsimp only at hSw); go_simp; (try with_reducible rfl)
    try simp only [Act.put, List.setIfInBounds_toArray, List.set_cons_zero, List.set_cons_succ]
    refine wpAnyK_take (i := 9) (oi := _) (v := ?_) rfl (by kernel_rfl) (by kernel_rfl) (by kernel_rfl) (by kernel_rfl) (fun _ _ _ h => h) (Or.inl ⟨by rfl, ?_⟩) (by assumption) ?_
    rotate_left
    · intro w hSw; (try dsimp only at hSw); go_simp; (try with_reducible rfl)
    try simp only [Act.put, List.setIfInBounds_toArray, List.set_cons_zero, List.set_cons_succ]
    refine wpAnyK_take (i := 10) (oi := _) (v := ?_) rfl (by kernel_rfl) (by kernel_rfl) (by kernel_rfl) (by kernel_rfl) (fun _ _ _ h => h) (Or.inl ⟨by rfl, ?_⟩) (by assumption) ?_
    rotate_left
    · intro w hSw; (try dsimp only at hSw); go_simp; (try with_reducible rfl)
    try simp only [Act.put, List.setIfInBounds_toArray, List.set_cons_zero, List.set_cons_succ]
    refine wpAnyK_take (i := 11) (oi := _) (v := ?_) rfl (by kernel_rfl) (by kernel_rfl) (by kernel_rfl) (by kernel_rfl) (fun _ _ _ h => h) (Or.inl ⟨by rfl, ?_⟩) (by assumption) ?_
    rotate_left
    · intro w hSw; (try dsimp only at hSw); go_simp; (try with_reducible rfl)
    try simp only [Act.put, List.setIfInBounds_toArray, List.set_cons_zero, List.set_cons_succ]
    refine wpAnyK_take (i := 12) (oi := _) (v := ?_) rfl (by kernel_rfl) (by kernel_rfl) (by kernel_rfl) (by kernel_rfl) (fun _ _ _ h => h) (Or.inl ⟨by rfl, ?_⟩) (by assumption) ?_
    rotate_left
    · intro w hSw; (try dsimp only at hSw); go_simp; (try with_reducible rfl)
    try simp only [Act.put, List.setIfInBounds_toArray, List.set_cons_zero, List.set_cons_succ]
    refine wpAnyK_take (i := 13) (oi := _) (v := ?_) rfl (by kernel_rfl) (by kernel_rfl) (by kernel_rfl) (by kernel_rfl) (fun _ _ _ h => h) (Or.inl ⟨by rfl, ?_⟩) (by assumption) ?_
    rotate_left
    · intro w hSw; (try dsimp only at hSw); go_simp; (try with_reducible rfl)
    try simp only [Act.put, List.setIfInBounds_toArray, List.set_cons_zero, List.set_cons_succ]
    refine wpAnyK_take (i := 15) (oi := _) (v := ?_) rfl (by kernel_rfl) (by kernel_rfl) (by kernel_rfl) (by kernel_rfl) (fun _ _ _ h => h) (Or.inl ⟨by rfl, ?_⟩) (by assumption) ?_
    rotate_left
    · intro w hSw; (try dsimp only at hSw); go_simp; (try with_reducible rfl)
    try simp only [Act.put, List.setIfInBounds_toArray, List.set_cons_zero, List.set_cons_succ]
    refine wpAnyK_one (i := 14) (o := _) (by kernel_rfl) rfl (fun K hK => ?_)
    go_simp
    (go_at_call 36; (with_reducible refine (unhide hBh _ x y hx8 hy8).mono ?_); rintro e w6 ⟨rfl, rfl⟩; go_wp2_with fail)
    refine hK.out _ _ (by exact ⟨(unhide HSV).1, (unhide HSV).2.1, (unhide HSV).2.2.1, (unhide HSV).2.2.2.1, (unhide HSV).2.2.2.2, rfl⟩) (fun hHeld => ?_)
    clear hK K
    refine wpAnyK_take (i := 16) (oi := _) (v := ?_) rfl (by kernel_rfl) (by kernel_rfl) (by kernel_rfl) (by kernel_rfl) (fun _ _ _ h => h) (Or.inl ⟨by rfl, ?_⟩) (by assumption) ?_
    rotate_left
    · intro w hSw; (try dsimp only at hSw); go_simp; (try with_reducible rfl)
    try simp only [Act.put, List.setIfInBounds_toArray, List.set_cons_zero, List.set_cons_succ]
    refine wpAnyK_take (i := 17) (oi := _) (v := ?_) rfl (by kernel_rfl) (by kernel_rfl) (by kernel_rfl) (by kernel_rfl) (fun _ _ _ h => h) (Or.inl ⟨by rfl, ?_⟩) (by assumption) ?_
    rotate_left
    · intro w hSw; (try dsimp only at hSw); go_simp; (try with_reducible rfl)
    try simp only [Act.put, List.setIfInBounds_toArray, List.set_cons_zero, List.set_cons_succ]
    refine wpAnyK_take (i := 18) (oi := _) (v := ?_) rfl (by kernel_rfl) (by kernel_rfl) (by kernel_rfl) (by kernel_rfl) (fun _ _ _ h => h) (Or.inl ⟨by rfl, ?_⟩) (by assumption) ?_
    rotate_left
    · intro w hSw; (try dsimp only at hSw); go_simp; (try with_reducible rfl)
    try simp only [Act.put, List.setIfInBounds_toArray, List.set_cons_zero, List.set_cons_succ]
    refine wpAnyK_end (o := _) (by kernel_rfl) rfl (fun K hK => ?_)
    go_simp
    refine hK.out _ _ ?_
    clear hK K
    refine wpAnyK_done (by kernel_rfl) ?_ _
    clear hHeld
    go_wp2_with fail
    go_returns
    exact ⟨rfl, unhide HST, (((unhide KM).any [G]).drew).setCell (by simp) _⟩
  · have hEi : ¬ ((sf1 : Int) + (n : Int)) % 8 = 0 := by omega
    have HE := hide hE
    clear hE
    go_upto_region 21 with (fail)
    rw [unhide hor (unhide HE)]
    clear hor hor0 ce
    refine wp_region_K (S := fun W' => W'.cell? ⟨G, q, none⟩ = some (.int .u8 ((o : Nat) : Int)) ∧ W'.cell? ⟨b0, 1, none⟩ = some (fnV 36) ∧ W'.cell? ⟨S1, A1, none⟩ = some (.int .u8 ((x : Nat) : Int)) ∧ W'.cell? ⟨S2, A2, none⟩ = some (.int .u8 ((y : Nat) : Int)) ∧ W'.frozen? ⟨G, q, none⟩ = false ∧ W' = w1.drew) (k := 19) (by kernel_rfl) ⟨co0, ck, cx, cy, fo0, rfl⟩ (fun hHeld => ?_)
    have HSV := hide (⟨hHeld.1, hHeld.2.1, hHeld.2.2.1, hHeld.2.2.2.1, hHeld.2.2.2.2.1⟩ : _ ∧ _ ∧ _ ∧ _ ∧ _)
    refine wpAnyK_take (i := 0) (oi := _) (v := ?_) rfl (by kernel_rfl) (by kernel_rfl) (by kernel_rfl) (by kernel_rfl) (fun _ _ _ h => h) (Or.inl ⟨by rfl, ?_⟩) (by assumption) ?_
    rotate_left
    · intro w hSw; (try dsimp only at hSw); go_simp; (try with_reducible rfl)
    try simp only [Act.put, List.setIfInBounds_toArray, List.set_cons_zero, List.set_cons_succ]
    refine wpAnyK_take (i := 1) (oi := _) (v := ?_) rfl (by kernel_rfl) (by kernel_rfl) (by kernel_rfl) (by kernel_rfl) (fun _ _ _ h => h) (Or.inl ⟨by rfl, ?_⟩) (by assumption) ?_
    rotate_left
    · intro w hSw; (try dsimp only at hSw); go_simp; (try with_reducible rfl)
    try simp only [Act.put, List.setIfInBounds_toArray, List.set_cons_zero, List.set_cons_succ]
    refine wpAnyK_take (i := 2) (oi := _) (v := ?_) rfl (by kernel_rfl) (by kernel_rfl) (by kernel_rfl) (by kernel_rfl) (fun _ _ _ h => h) (Or.inl ⟨by rfl, ?_⟩) (by assumption) ?_
    rotate_left
    · intro w hSw; (try dsimp only at hSw); go_simp; (try with_reducible rfl)
    try simp only [Act.put, List.setIfInBounds_toArray, List.set_cons_zero, List.set_cons_succ]
    refine wpAnyK_take (i := 3) (oi := _) (v := ?_) rfl (by kernel_rfl) (by kernel_rfl) (by kernel_rfl) (by kernel_rfl) (fun _ _ _ h => h) (Or.inl ⟨by rfl, ?_⟩) (by assumption) ?_
    rotate_left
    · intro w hSw; (try dsimp only at hSw); go_simp; (try with_reducible rfl)
    try simp only [Act.put, List.setIfInBounds_toArray, List.set_cons_zero, List.set_cons_succ]
    refine wpAnyK_take (i := 4) (oi := _) (v := ?_) rfl (by kernel_rfl) (by kernel_rfl) (by kernel_rfl) (by kernel_rfl) (fun _ _ _ h => h) (Or.inl ⟨by rfl, ?_⟩) (by assumption) ?_
    rotate_left
    · intro w hSw; (try dsimp only at hSw); go_simp; (try with_reducible rfl)
    try simp only [Act.put, List.setIfInBounds_toArray, List.set_cons_zero, List.set_cons_succ]
    refine wpAnyK_take (i := 5) (oi := _) (v := ?_) rfl (by kernel_rfl) (by kernel_rfl) (by kernel_rfl) (by kernel_rfl) (fun _ _ _ h => h) (Or.inl ⟨by rfl, ?_⟩) (by assumption) ?_
    rotate_left
    · intro w hSw; (try dsimp only at hSw); go_simp; (try with_reducible rfl)
    try simp only [Act.put, List.setIfInBounds_toArray, List.set_cons_zero, List.set_cons_succ]
    refine wpAnyK_take (i := 6) (oi := _) (v := ?_) rfl (by kernel_rfl) (by kernel_rfl) (by kernel_rfl) (by kernel_rfl) (fun _ _ _ h => h) (Or.inl ⟨by rfl, ?_⟩) (by assumption) ?_
    rotate_left
    · intro w hSw; (try dsimp only at hSw); go_simp; (try with_reducible rfl)
    try simp only [Act.put, List.setIfInBounds_toArray, List.set_cons_zero, List.set_cons_succ]
    refine wpAnyK_take (i := 7) (oi := _) (v := ?_) rfl (by kernel_rfl) (by kernel_rfl) (by kernel_rfl) (by kernel_rfl) (fun _ _ _ h => h) (Or.inl ⟨by rfl, ?_⟩) (by assumption) ?_
    rotate_left
    · intro w hSw; (try dsimp only at hSw); go_simp; (try with_reducible rfl)
    try simp only [Act.put, List.setIfInBounds_toArray, List.set_cons_zero, List.set_cons_succ]
    refine wpAnyK_take (i := 8) (oi := _) (v := ?_) rfl (by kernel_rfl) (by kernel_rfl) (by kernel_rfl) (by kernel_rfl) (fun _ _ _ h => h) (Or.inl ⟨by rfl, ?_⟩) (by assumption) ?_
    rotate_left
    · intro w hSw; (try dsimp only at hSw); go_simp; (try with_reducible rfl)
    try simp only [Act.put, List.setIfInBounds_toArray, List.set_cons_zero, List.set_cons_succ]
    refine wpAnyK_take (i := 9) (oi := _) (v := ?_) rfl (by kernel_rfl) (by kernel_rfl) (by kernel_rfl) (by kernel_rfl) (fun _ _ _ h => h) (Or.inl ⟨by rfl, ?_⟩) (by assumption) ?_
    rotate_left
    · intro w hSw; (try dsimp only at hSw); go_simp; (try with_reducible rfl)
    try simp only [Act.put, List.setIfInBounds_toArray, List.set_cons_zero, List.set_cons_succ]
    refine wpAnyK_take (i := 10) (oi := _) (v := ?_) rfl (by kernel_rfl) (by kernel_rfl) (by kernel_rfl) (by kernel_rfl) (fun _ _ _ h => h) (Or.inl ⟨by rfl, ?_⟩) (by assumption) ?_
    rotate_left
    · intro w hSw; (try dsimp only at hSw); go_simp; (try with_reducible rfl)
    try simp only [Act.put, List.setIfInBounds_toArray, List.set_cons_zero, List.set_cons_succ]
    refine wpAnyK_take (i := 11) (oi := _) (v := ?_) rfl (by kernel_rfl) (by kernel_rfl) (by kernel_rfl) (by kernel_rfl) (fun _ _ _ h => h) (Or.inl ⟨by rfl, ?_⟩) (by assumption) ?_
    rotate_left
    · intro w hSw; (try dsimp only at hSw); go_simp; (try with_reducible rfl)
    try simp only [Act.put, List.setIfInBounds_toArray, List.set_cons_zero, List.set_cons_succ]
    refine wpAnyK_take (i := 12) (oi := _) (v := ?_) rfl (by kernel_rfl) (by kernel_rfl) (by kernel_rfl) (by kernel_rfl) (fun _ _ _ h => h) (Or.inl ⟨by rfl, ?_⟩) (by assumption) ?_
    rotate_left
    · intro w hSw; (try dsimp only at hSw); go_simp; (try with_reducible rfl)
    try simp only [Act.put, List.setIfInBounds_toArray, List.set_cons_zero, List.set_cons_succ]
    refine wpAnyK_take (i := 13) (oi := _) (v := ?_) rfl (by kernel_rfl) (by kernel_rfl) (by kernel_rfl) (by kernel_rfl) (fun _ _ _ h => h) (Or.inl ⟨by rfl, ?_⟩) (by assumption) ?_
    rotate_left
    · intro w hSw; (try dsimp only at hSw); go_simp; (try with_reducible rfl)
    try simp only [Act.put, List.setIfInBounds_toArray, List.set_cons_zero, List.set_cons_succ]
    refine wpAnyK_take (i := 15) (oi := _) (v := ?_) rfl (by kernel_rfl) (by kernel_rfl) (by kernel_rfl) (by kernel_rfl) (fun _ _ _ h => h) (Or.inl ⟨by rfl, ?_⟩) (by assumption) ?_
    rotate_left
    · intro w hSw; (try dsimp only at hSw); go_simp; (try with_reducible rfl)
    try simp only [Act.put, List.setIfInBounds_toArray, List.set_cons_zero, List.set_cons_succ]
    refine wpAnyK_one (i := 14) (o := _) (by kernel_rfl) rfl (fun K hK => ?_)
    go_simp
    (go_at_call 36; (with_reducible refine (unhide hBh _ x y hx8 hy8).mono ?_); rintro e w6 ⟨rfl, rfl⟩; go_wp2_with fail)
    refine hK.out _ _ (by exact ⟨(unhide HSV).1, (unhide HSV).2.1, (unhide HSV).2.2.1, (unhide HSV).2.2.2.1, (unhide HSV).2.2.2.2, rfl⟩) (fun hHeld => ?_)
    clear hK K
    refine wpAnyK_take (i := 16) (oi := _) (v := ?_) rfl (by kernel_rfl) (by kernel_rfl) (by kernel_rfl) (by kernel_rfl) (fun _ _ _ h => h) (Or.inl ⟨by rfl, ?_⟩) (by assumption) ?_
    rotate_left
    · intro w hSw; (try dsimp only at hSw); go_simp; (try with_reducible rfl)
    try simp only [Act.put, List.setIfInBounds_toArray, List.set_cons_zero, List.set_cons_succ]
    refine wpAnyK_take (i := 17) (oi := _) (v := ?_) rfl (by kernel_rfl) (by kernel_rfl) (by kernel_rfl) (by kernel_rfl) (fun _ _ _ h => h) (Or.inl ⟨by rfl, ?_⟩) (by assumption) ?_
    rotate_left
    · intro w hSw; (try dsimp only at hSw); go_simp; (try with_reducible rfl)
    try simp only [Act.put, List.setIfInBounds_toArray, List.set_cons_zero, List.set_cons_succ]
    refine wpAnyK_take (i := 18) (oi := _) (v := ?_) rfl (by kernel_rfl) (by kernel_rfl) (by kernel_rfl) (by kernel_rfl) (fun _ _ _ h => h) (Or.inl ⟨by rfl, ?_⟩) (by assumption) ?_
    rotate_left
    · intro w hSw; (try dsimp only at hSw); go_simp; (try with_reducible rfl)
    try simp only [Act.put, List.setIfInBounds_toArray, List.set_cons_zero, List.set_cons_succ]
    refine wpAnyK_end (o := _) (by kernel_rfl) rfl (fun K hK => ?_)
    go_simp
    refine hK.out _ _ ?_
    clear hK K
    refine wpAnyK_done (by kernel_rfl) ?_ _
    clear hHeld
    go_wp2_with fail
    go_returns
    exact ⟨rfl, unhide HST, (((unhide KM).any [G]).drew).setCell (by simp) _⟩
set_option maxRecDepth 100000 in
set_option maxHeartbeats 4000000 in
theorem aligB_0 (w : World) (B S1 S2 G N cap so1 sn1 sc1 sf1 so2 sn2 sc2 sf2 f n : Nat) (sb1 sb2 d : List Nat) (l1 l2 : List Bool)
    (hS1 : Small sb1) (hS2 : Small sb2) (hD : Small d) (hd : d.length = N) (hN : N ≤ 4096) (hfn : f + n ≤ 8 * N) (hnX : (f % 8 + n + 7) / 8 = 2) (hcap : N ≤ cap) (hGz : G ≠ 0) (hGo : G ≠ 1) (hG1 : S1 ≠ G) (hG2 : S2 ≠ G)
    (hsf1 : sf1 < 65536) (he1 : sf1 % 8 = f % 8) (hsn1 : sf1 / 8 + (sf1 % 8 + n + 7) / 8 ≤ sn1) (hsc1 : sn1 ≤ sc1) (hsb1 : so1 + sf1 / 8 + (sf1 % 8 + n + 7) / 8 ≤ sb1.length) (hl1 : ∀ j, j < n → l1.getD j false = bitAt sb1 (8 * (so1 + sf1 / 8) + sf1 % 8 + j))
    (hsf2 : sf2 < 65536) (he2 : sf2 % 8 = f % 8) (hsn2 : sf2 / 8 + (sf2 % 8 + n + 7) / 8 ≤ sn2) (hsc2 : sn2 ≤ sc2) (hsb2 : so2 + sf2 / 8 + (sf2 % 8 + n + 7) / 8 ≤ sb2.length) (hl2 : ∀ j, j < n → l2.getD j false = bitAt sb2 (8 * (so2 + sf2 / 8) + sf2 % 8 + j))
    (hP : Prc w) (hT : Trl w) (hr1 : Rdb w S1 sb1 so1) (hr2 : Rdb w S2 sb2 so2) (hown : w.ownsRow B 5 1 (.slice (some ⟨G, 0, none⟩) N cap) N (bv d)) :
    Calls Tryd.prog 33 #[.agg #[fnV 35, fnV 36, fnV 37], .slice (some ⟨S1, so1, none⟩) sn1 sc1, .slice (some ⟨S2, so2, none⟩) sn2 sc2, .int .i64 sf1, .int .i64 sf2, .slice (some ⟨G, 0, none⟩) N cap, .int .i64 f, .int .i64 n] w fun e w' =>
      e = .returned (.tuple #[]) ∧ w'.ownsRow B 5 1 (.slice (some ⟨G, 0, none⟩) N cap) N (bv (chgN d f (cmbL 0 l1 l2 n) n)) ∧ Mod [G] w w' := by
  have hn0 : 0 < (f % 8 + n + 7) / 8 := by omega
  have hBBF := hide (fun (W : World) => bfb_i W ((n : Int) + (sf1 : Int) % 8) (f % 8 + n) (by omega) (by omega))
  have hBox := (Mod.refl [] w).alloc (.cells #[fnV 35, fnV 36, fnV 37] 47)
  have kBox := Blk.new (w := w) (g := w.heap.size) 47 #[fnV 35, fnV 36, fnV 37] rfl
  have g1 := hr1.mod hBox (by simp)
  have g2 := hr2.mod hBox (by simp)
  have gO := own_mod hown hBox (by simp)
  have gP := hP.mod hBox (by simp)
  have gT := hT.mod hBox (by simp)
  have hgl := own_lt' hown
  have hz : (w.alloc (.cells #[fnV 35, fnV 36, fnV 37] 47)).heap.size = w.heap.size + 1 := by simp
  have hf8 : f / 8 < N := by omega
  rw [he1] at hsn1 hsb1 hl1
  rw [he2] at hsn2 hsb2 hl2
  generalize hnb : (f % 8 + n + 7) / 8 = nb at *
  have KB := hide kBox
  have KM := hide hBox
  have K1 := hide g1
  have K2 := hide g2
  have KO := hide gO
  have KP := hide gP
  have KT := hide gT
  clear hr1 hr2 hown hP hT g1 g2 gO gP gT kBox hBox
  have hq1 : ¬ sc1 - sf1 / 8 = 0 := by omega
  have hq2 : ¬ sc2 - sf2 / 8 = 0 := by omega
  have hq3 : ¬ cap - f / 8 = 0 := by omega
  go_enter Tryd.func33, Tryd.ntmps33
  go_upto_region 8 with (first | (go_at_call 52; (with_reducible refine (unhide hBBF _).mono ?_); rintro e w' ⟨rfl, rfl⟩) | (go_at_call 53; with_reducible refine (assert_any _ _ _).mono ?_; rintro e w6 ⟨rfl, rfl⟩) | fail)
  have hA1 : so1 + sf1 / 8 + nb ≤ sb1.length := hsb1
  have hM1 : nb ≤ sn1 - sf1 / 8 := by omega
  have hC1 : sn1 - sf1 / 8 ≤ sc1 - sf1 / 8 := by omega
  have hA2 : so2 + sf2 / 8 + nb ≤ sb2.length := hsb2
  have hM2 : nb ≤ sn2 - sf2 / 8 := by omega
  have hC2 : sn2 - sf2 / 8 ≤ sc2 - sf2 / 8 := by omega
  have hMo : nb ≤ N - f / 8 := by omega
  have hCo : N - f / 8 ≤ cap - f / 8 := by omega
  have hLo1 : so1 ≤ so1 + sf1 / 8 := by omega
  have hLo2 : so2 ≤ so2 + sf2 / 8 := by omega
  have hqN : f / 8 + nb ≤ N := by omega
  have hef : 8 * (f / 8) + f % 8 = f := by omega
  have hfit : 8 * (f / 8) + f % 8 + n ≤ 8 * d.length := by omega
  have hs8 : f % 8 < 8 := by omega
  have hsn : f % 8 + n ≤ 8 * nb := by omega
  have hsn' : 8 * nb < f % 8 + n + 8 := by omega
  have hse : (sf1 + n) % 8 = (f % 8 + n) % 8 := by omega
  have hse8 : (sf1 + n) % 8 < 8 := by omega
  have hn5 : n < 65536 := by omega
  generalize so1 + sf1 / 8 = A1 at *
  generalize so2 + sf2 / 8 = A2 at *
  generalize f / 8 = q at *
  generalize sn1 - sf1 / 8 = m1 at *
  generalize sc1 - sf1 / 8 = c1 at *
  generalize sn2 - sf2 / 8 = m2 at *
  generalize sc2 - sf2 / 8 = c2 at *
  generalize N - q = mo at *
  generalize cap - q = co at *
  generalize hs : f % 8 = s at *
  clear hsn1 hsb1 hsn2 hsb2 hq1 hq2 hq3 hfn hsc1 hsc2 hBBF hf8
  have hGb : G < (w.alloc (.cells #[fnV 35, fnV 36, fnV 37] 47)).heap.size := by rw [hz]; omega
  generalize hw1 : w.alloc (.cells #[fnV 35, fnV 36, fnV 37] 47) = w1 at *
  have hb0G : w.heap.size ≠ G := by omega
  generalize hb0 : w.heap.size = b0 at *
  clear hw1 hb0
  have gP := unhide KP
  have gT := unhide KT
  have ce := gT ((sf1 + n) % 8) hse8
  have cs := gP s hs8
  have ck := (unhide KB).cell 1
  have cka := (unhide KB).cell 2
  have cx := unhide K1 A1 hLo1 (by omega)
  have cy := unhide K2 A2 hLo2 (by omega)
  have co0 := own_cell (unhide KO) q (by omega)
  have fo0 := own_frozen (unhide KO) q
  have hx8 := hS1.get A1
  have hy8 := hS2.get A2
  have ho8 := hD.get q
  have hBh := hide (fun W x y hx hy => opB_0 W x y hx hy)
  have hp := pow_lt8 hs8
  clear gP gT
  subst hnX
  have hm0 : 1 < m1 ∧ 1 < m2 ∧ 1 < mo ∧ 0 < m1 ∧ 0 < m2 ∧ 0 < mo := by omega
  obtain ⟨hm0a, hm0b, hm0c, hm0d, hm0e, hm0f⟩ := hm0
  have z1 : (1 : Int) < (m1 : Int) := by omega
  have z2 : (1 : Int) < (m2 : Int) := by omega
  have z3 : (1 : Int) < (mo : Int) := by omega
  have hv0 := mixb_lt (2 ^ s - 1) _ _ ho8 (bOp_lt 0 _ _ hx8 hy8)
  have hmb := mixb_bits (2 ^ s - 1) (d.getD q 0) (bOp 0 (sb1.getD A1 0) (sb2.getD A2 0)) (by omega) ho8 (bOp_lt 0 _ _ hx8 hy8)
  have hst := own_set (own_D (unhide KO)) q (mixb (2 ^ s - 1) (d.getD q 0) (bOp 0 (sb1.getD A1 0) (sb2.getD A2 0))) (by omega)
  have hd1 : (d.set q (mixb (2 ^ s - 1) (d.getD q 0) (bOp 0 (sb1.getD A1 0) (sb2.getD A2 0)))).getD (q + 1) 0 = d.getD (q + 1) 0 := by rw [getD_set _ _ _ _ (by omega), if_neg (by omega)]
  have hfin : (d.set q (mixb (2 ^ s - 1) (d.getD q 0) (bOp 0 (sb1.getD A1 0) (sb2.getD A2 0)))).set (q + 1) (mixb (trl ((sf1 + n) % 8)) (d.getD (q + 1) 0) (bOp 0 (sb1.getD (A1 + 1) 0) (sb2.getD (A2 + 1) 0))) = chgN d f (cmbL 0 l1 l2 n) n := by
    rw [hse, ← hef]
    exact aligned_two 0 s q n 2 A1 A2 d sb1 sb2 l1 l2 hD hS1 hS2 hs8 (by omega) (by omega) (by omega) hfit (by omega) (by omega) hl1 hl2
  have hx18 := hS1.get (A1 + 1)
  have hy18 := hS2.get (A2 + 1)
  have ho18 := hD.get (q + 1)
  have cx1 := unhide K1 (A1 + 1) (by omega) (by omega)
  have cy1 := unhide K2 (A2 + 1) (by omega) (by omega)
  have htl := trl_lt ((sf1 + n) % 8)
  have hor := hide (fun (hE : (sf1 + n) % 8 ≠ 0) => (show trl ((sf1 + n) % 8) = 256 - 2 ^ ((sf1 + n) % 8) from by unfold trl; rw [if_neg hE]))
  have hor0 := hide (fun (hE : (sf1 + n) % 8 = 0) => (show trl ((sf1 + n) % 8) = 0 from by rw [hE]; rfl))
  have hmb1 := hide (mixb_bits (trl ((sf1 + n) % 8)) (d.getD (q + 1) 0) (bOp 0 (sb1.getD (A1 + 1) 0) (sb2.getD (A2 + 1) 0)) htl ho18 (bOp_lt 0 _ _ hx18 hy18))
  generalize hdd1 : d.set q (mixb (2 ^ s - 1) (d.getD q 0) (bOp 0 (sb1.getD A1 0) (sb2.getD A2 0))) = d1 at *
  rw [← hmb] at hst
  have HST := hide hst
  have hfin := hide hfin
  have hd1 := hide hd1
  clear hst hmb hl1 hl2 hse hsn hsn' hfit hef hS1 hS2 hD cka hdd1
  generalize 2 ^ s - 1 = p0 at *
  generalize d.getD q 0 = o at *
  generalize sb1.getD A1 0 = x at *
  generalize sb2.getD A2 0 = y at *
  go_upto_region 24 with (fail)
  go_cut [] (fun wx => wx.ownsRow B 5 1 (.slice (some ⟨G, 0, none⟩) N cap) N (bv d1) ∧ Mod [G] w1 wx)
  case first =>
    clear ce cx1 cy1
    refine wp_region_K (S := fun W' => W'.cell? ⟨G, q, none⟩ = some (.int .u8 ((o : Nat) : Int)) ∧ W'.cell? ⟨b0, 1, none⟩ = some (fnV 36) ∧ W'.cell? ⟨S1, A1, none⟩ = some (.int .u8 ((x : Nat) : Int)) ∧ W'.cell? ⟨S2, A2, none⟩ = some (.int .u8 ((y : Nat) : Int)) ∧ W'.frozen? ⟨G, q, none⟩ = false ∧ W' = w1.drew) (k := 19) (by kernel_rfl) ⟨co0, ck, cx, cy, fo0, rfl⟩ (fun hHeld => ?_)
    have HSV := hide (⟨hHeld.1, hHeld.2.1, hHeld.2.2.1, hHeld.2.2.2.1, hHeld.2.2.2.2.1⟩ : _ ∧ _ ∧ _ ∧ _ ∧ _)
    refine wpAnyK_take (i := 0) (oi := _) (v := ?_) rfl (by kernel_rfl) (by kernel_rfl) (by kernel_rfl) (by kernel_rfl) (fun _ _ _ h => h) (Or.inl ⟨by rfl, ?_⟩) (by assumption) ?_
    rotate_left
    · intro w hSw; (try dsimp only at hSw); go_simp; (try with_reducible rfl)
    try simp only [Act.put, List.setIfInBounds_toArray, List.set_cons_zero, List.set_cons_succ]
    refine wpAnyK_take (i := 1) (oi := _) (v := ?_) rfl (by kernel_rfl) (by kernel_rfl) (by kernel_rfl) (by kernel_rfl) (fun _ _ _ h => h) (Or.inl ⟨by rfl, ?_⟩) (by assumption) ?_
    rotate_left
    · intro w hSw; (try dsimp only at hSw); go_simp; (try with_reducible rfl)
    try simp only [Act.put, List.setIfInBounds_toArray, List.set_cons_zero, List.set_cons_succ]
    refine wpAnyK_take (i := 2) (oi := _) (v := ?_) rfl (by kernel_rfl) (by kernel_rfl) (by kernel_rfl) (by kernel_rfl) (fun _ _ _ h => h) (Or.inl ⟨by rfl, ?_⟩) (by assumption) ?_
    rotate_left
    · intro w hSw; (try dsimp only at hSw); go_simp; (try with_reducible rfl)
    try simp only [Act.put, List.setIfInBounds_toArray, List.set_cons_zero, List.set_cons_succ]
    refine wpAnyK_take (i := 3) (oi := _) (v := ?_) rfl (by kernel_rfl) (by kernel_rfl) (by kernel_rfl) (by kernel_rfl) (fun _ _ _ h => h) (Or.inl ⟨by rfl, ?_⟩) (by assumption) ?_
    rotate_left
    · intro w hSw; (try dsimp only at hSw); go_simp; (try with_reducible rfl)
    try simp only [Act.put, List.setIfInBounds_toArray, List.set_cons_zero, List.set_cons_succ]
    refine wpAnyK_take (i := 4) (oi := _) (v := ?_) rfl (by kernel_rfl) (by kernel_rfl) (by kernel_rfl) (by kernel_rfl) (fun _ _ _ h => h) (Or.inl ⟨by rfl, ?_⟩) (by assumption) ?_
    rotate_left
    · intro w hSw; (try dsimp only at hSw); go_simp; (try with_reducible rfl)
    try simp only [Act.put, List.setIfInBounds_toArray, List.set_cons_zero, List.set_cons_succ]
    refine wpAnyK_take (i := 5) (oi := _) (v := ?_) rfl (by kernel_rfl) (by kernel_rfl) (by kernel_rfl) (by kernel_rfl) (fun _ _ _ h => h) (Or.inl ⟨by rfl, ?_⟩) (by assumption) ?_
    rotate_left
    · intro w hSw; (try dsimp only at hSw); go_simp; (try with_reducible rfl)
    try simp only [Act.put, List.setIfInBounds_toArray, List.set_cons_zero, List.set_cons_succ]
    refine wpAnyK_take (i := 6) (oi := _) (v := ?_) rfl (by kernel_rfl) (by kernel_rfl) (by kernel_rfl) (by kernel_rfl) (fun _ _ _ h => h) (Or.inl ⟨by rfl, ?_⟩) (by assumption) ?_
    rotate_left
    · intro w hSw; (try dsimp only at hSw); go_simp; (try with_reducible rfl)
    try simp only [Act.put, List.setIfInBounds_toArray, List.set_cons_zero, List.set_cons_succ]
    refine wpAnyK_take (i := 7) (oi := _) (v := ?_) rfl (by kernel_rfl) (by kernel_rfl) (by kernel_rfl) (by kernel_rfl) (fun _ _ _ h => h) (Or.inl ⟨by rfl, ?_⟩) (by assumption) ?_
    rotate_left
    · intro w hSw; (try dsimp only at hSw); go_simp; (try with_reducible rfl)
    try simp only [Act.put, List.setIfInBounds_toArray, List.set_cons_zero, List.set_cons_succ]
    refine wpAnyK_take (i := 8) (oi := _) (v := ?_) rfl (by kernel_rfl) (by kernel_rfl) (by kernel_rfl) (by kernel_rfl) (fun _ _ _ h => h) (Or.inl ⟨by rfl, ?_⟩) (by assumption) ?_
    rotate_left
    · intro w hSw; (try dsimp only at hSw); go_simp; (try with_reducible rfl)
    try simp only [Act.put, List.setIfInBounds_toArray, List.set_cons_zero, List.set_cons_succ]
    refine wpAnyK_take (i := 9) (oi := _) (v := ?_) rfl (by kernel_rfl) (by kernel_rfl) (by kernel_rfl) (by kernel_rfl) (fun _ _ _ h => h) (Or.inl ⟨by rfl, ?_⟩) (by assumption) ?_
    rotate_left
    · intro w hSw; (try dsimp only at hSw); go_simp; (try with_reducible rfl)
    try simp only [Act.put, List.setIfInBounds_toArray, List.set_cons_zero, List.set_cons_succ]
    refine wpAnyK_take (i := 10) (oi := _) (v := ?_) rfl (by kernel_rfl) (by kernel_rfl) (by kernel_rfl) (by kernel_rfl) (fun _ _ _ h => h) (Or.inl ⟨by rfl, ?_⟩) (by assumption) ?_
    rotate_left
    · intro w hSw; (try dsimp only at hSw); go_simp; (try with_reducible rfl)
    try simp only [Act.put, List.setIfInBounds_toArray, List.set_cons_zero, List.set_cons_succ]
    refine wpAnyK_take (i := 11) (oi := _) (v := ?_) rfl (by kernel_rfl) (by kernel_rfl) (by kernel_rfl) (by kernel_rfl) (fun _ _ _ h => h) (Or.inl ⟨by rfl, ?_⟩) (by assumption) ?_
    rotate_left
    · intro w hSw; (try dsimp only at hSw); go_simp; (try with_reducible rfl)
    try simp only [Act.put, List.setIfInBounds_toArray, List.set_cons_zero, List.set_cons_succ]
    refine wpAnyK_take (i := 12) (oi := _) (v := ?_) rfl (by kernel_rfl) (by kernel_rfl) (by kernel_rfl) (by kernel_rfl) (fun _ _ _ h => h) (Or.inl ⟨by rfl, ?_⟩) (by assumption) ?_
    rotate_left
    · intro w hSw; (try dsimp only at hSw); go_simp; (try with_reducible rfl)
    try simp only [Act.put, List.setIfInBounds_toArray, List.set_cons_zero, List.set_cons_succ]
    refine wpAnyK_take (i := 13) (oi := _) (v := ?_) rfl (by kernel_rfl) (by kernel_rfl) (by kernel_rfl) (by kernel_rfl) (fun _ _ _ h => h) (Or.inl ⟨by rfl, ?_⟩) (by assumption) ?_
    rotate_left
    · intro w hSw; (try dsimp only at hSw); go_simp; (try with_reducible rfl)
    try simp only [Act.put, List.setIfInBounds_toArray, List.set_cons_zero, List.set_cons_succ]
    refine wpAnyK_take (i := 15) (oi := _) (v := ?_) rfl (by kernel_rfl) (by kernel_rfl) (by kernel_rfl) (by kernel_rfl) (fun _ _ _ h => h) (Or.inl ⟨by rfl, ?_⟩) (by assumption) ?_
    rotate_left
    · intro w hSw; (try dsimp only at hSw); go_simp; (try with_reducible rfl)
    try simp only [Act.put, List.setIfInBounds_toArray, List.set_cons_zero, List.set_cons_succ]
    refine wpAnyK_one (i := 14) (o := _) (by kernel_rfl) rfl (fun K hK => ?_)
    go_simp
    (go_at_call 36; (with_reducible refine (unhide hBh _ x y hx8 hy8).mono ?_); rintro e w6 ⟨rfl, rfl⟩; go_wp2_with fail)
    refine hK.out _ _ (by exact ⟨(unhide HSV).1, (unhide HSV).2.1, (unhide HSV).2.2.1, (unhide HSV).2.2.2.1, (unhide HSV).2.2.2.2, rfl⟩) (fun hHeld => ?_)
    clear hK K
    refine wpAnyK_take (i := 16) (oi := _) (v := ?_) rfl (by kernel_rfl) (by kernel_rfl) (by kernel_rfl) (by kernel_rfl) (fun _ _ _ h => h) (Or.inl ⟨by rfl, ?_⟩) (by assumption) ?_
    rotate_left
    · intro w hSw; (try dsimp only at hSw); go_simp; (try with_reducible rfl)
    try simp only [Act.put, List.setIfInBounds_toArray, List.set_cons_zero, List.set_cons_succ]
    refine wpAnyK_take (i := 17) (oi := _) (v := ?_) rfl (by kernel_rfl) (by kernel_rfl) (by kernel_rfl) (by kernel_rfl) (fun _ _ _ h => h) (Or.inl ⟨by rfl, ?_⟩) (by assumption) ?_
    rotate_left
    · intro w hSw; (try dsimp only at hSw); go_simp; (try with_reducible rfl)
    try simp only [Act.put, List.setIfInBounds_toArray, List.set_cons_zero, List.set_cons_succ]
    refine wpAnyK_take (i := 18) (oi := _) (v := ?_) rfl (by kernel_rfl) (by kernel_rfl) (by kernel_rfl) (by kernel_rfl) (fun _ _ _ h => h) (Or.inl ⟨by rfl, ?_⟩) (by assumption) ?_
    rotate_left
    · intro w hSw; (try dsimp only at hSw); go_simp; (try with_reducible rfl)
    try simp only [Act.put, List.setIfInBounds_toArray, List.set_cons_zero, List.set_cons_succ]
    refine wpAnyK_end (o := _) (by kernel_rfl) rfl (fun K hK => ?_)
    go_simp
    refine hK.out _ _ ?_
    clear hK K
    refine wpAnyK_done (by kernel_rfl) ?_ _
    clear hHeld
    go_wp2_with fail
    go_meet
    exact ⟨unhide HST, ((Mod.refl [G] w1).drew).setCell (by simp) _⟩
  case rest =>
    obtain ⟨hO1, hM1⟩ := hcut
    have c1x := hM1.cell cx1 (by simpa using hG1)
    have c1y := hM1.cell cy1 (by simpa using hG2)
    have c1k := hM1.cell ck (by simpa using hb0G)
    have c1e := hM1.cell ce (by simpa using fun e : 1 = G => hGo e.symm)
    have c1o := own_cell hO1 (q + 1) (by omega)
    rw [unhide hd1] at c1o
    have f1o := own_frozen hO1 (q + 1)
    have hst := own_set (own_D hO1) (q + 1) (mixb (trl ((sf1 + n) % 8)) (d.getD (q + 1) 0) (bOp 0 (sb1.getD (A1 + 1) 0) (sb2.getD (A2 + 1) 0))) (by omega)
    rw [unhide hfin, ← unhide hmb1] at hst
    have HST1 := hide hst
    have KM1 := hide (((unhide KM).any [G]).trans hM1 (by simp))
    clear hst hfin hmb1 HST hO1 hM1 KM KO hd1 cx cy ck ce cx1 cy1 co0 fo0 hx8 hy8
    have hx8 := hx18
    have hy8 := hy18
    clear hx18 hy18
    generalize d.getD (q + 1) 0 = o1 at *
    generalize sb1.getD (A1 + 1) 0 = x1 at *
    generalize sb2.getD (A2 + 1) 0 = y1 at *
    by_cases hE : (sf1 + n) % 8 = 0
    · have hEi : ((sf1 : Int) + (n : Int)) % 8 = 0 := by omega
      rw [unhide hor0 hE] at HST1
      clear hE c1e hor hor0
      go_upto_region 28 with (fail)
      refine wp_region_K (S := fun W' => W'.cell? ⟨G, q + 1, none⟩ = some (.int .u8 ((o1 : Nat) : Int)) ∧ W'.cell? ⟨b0, 1, none⟩ = some (fnV 36) ∧ W'.cell? ⟨S1, A1 + 1, none⟩ = some (.int .u8 ((x1 : Nat) : Int)) ∧ W'.cell? ⟨S2, A2 + 1, none⟩ = some (.int .u8 ((y1 : Nat) : Int)) ∧ W'.frozen? ⟨G, q + 1, none⟩ = false ∧ W' = wc.drew) (k := 19) (by kernel_rfl) ⟨c1o, c1k, c1x, c1y, f1o, rfl⟩ (fun hHeld => ?_)
      have HSV := hide (⟨hHeld.1, hHeld.2.1, hHeld.2.2.1, hHeld.2.2.2.1, hHeld.2.2.2.2.1⟩ : _ ∧ _ ∧ _ ∧ _ ∧ _)
      refine wpAnyK_take (i := 0) (oi := _) (v := ?_) rfl (by kernel_rfl) (by kernel_rfl) (by kernel_rfl) (by kernel_rfl) (fun _ _ _ h => h) (Or.inl ⟨by rfl, ?_⟩) (by assumption) ?_
      rotate_left
      · intro w hSw; (try dsimp only at hSw); go_simp; (try with_reducible rfl)
      try simp only [Act.put, List.setIfInBounds_toArray, List.set_cons_zero, List.set_cons_succ]
      refine wpAnyK_take (i := 1) (oi := _) (v := ?_) rfl (by kernel_rfl) (by kernel_rfl) (by kernel_rfl) (by kernel_rfl) (fun _ _ _ h => h) (Or.inl ⟨by rfl, ?_⟩) (by assumption) ?_
      rotate_left
      · intro w hSw; (try dsimp only at hSw); go_simp; (try with_reducible rfl)
      try simp only [Act.put, List.setIfInBounds_toArray, List.set_cons_zero, List.set_cons_succ]
      refine wpAnyK_take (i := 2) (oi := _) (v := ?_) rfl (by kernel_rfl) (by kernel_rfl) (by kernel_rfl) (by kernel_rfl) (fun _ _ _ h => h) (Or.inl ⟨by rfl, ?_⟩) (by assumption) ?_
      rotate_left
      · intro w hSw; (try dsimp only at hSw); go_simp; (try with_reducible rfl)
      try simp only [Act.put, List.setIfInBounds_toArray, List.set_cons_zero, List.set_cons_succ]
      refine wpAnyK_take (i := 3) (oi := _) (v := ?_) rfl (by kernel_rfl) (by kernel_rfl) (by kernel_rfl) (by kernel_rfl) (fun _ _ _ h => h) (Or.inl ⟨by rfl, ?_⟩) (by assumption) ?_
      rotate_left
      · intro w hSw; (try dsimp only at hSw); go_simp; (try with_reducible rfl)
      try simp only [Act.put, List.setIfInBounds_toArray, List.set_cons_zero, List.set_cons_succ]
      refine wpAnyK_take (i := 4) (oi := _) (v := ?_) rfl (by kernel_rfl) (by kernel_rfl) (by kernel_rfl) (by kernel_rfl) (fun _ _ _ h => h) (Or.inl ⟨by rfl, ?_⟩) (by assumption) ?_
      rotate_left
      · intro w hSw; (try dsimp only at hSw); go_simp; (try with_reducible rfl)
      try simp only [Act.put, List.setIfInBounds_toArray, List.set_cons_zero, List.set_cons_succ]
      refine wpAnyK_take (i := 5) (oi := _) (v := ?_) rfl (by kernel_rfl) (by kernel_rfl) (by kernel_rfl) (by kernel_rfl) (fun _ _ _ h => h) (Or.inl ⟨by rfl, ?_⟩) (by assumption) ?_
      rotate_left
      · intro w hSw; (try dsimp only at hSw); go_simp; (try with_reducible rfl)
      try simp only [Act.put, List.setIfInBounds_toArray, List.set_cons_zero, List.set_cons_succ]
      refine wpAnyK_take (i := 6) (oi := _) (v := ?_) rfl (by kernel_rfl) (by kernel_rfl) (by kernel_rfl) (by kernel_rfl) (fun _ _ _ h => h) (Or.inl ⟨by rfl, ?_⟩) (by assumption) ?_
      rotate_left
      · intro w hSw; (try dsimp only at hSw); go_simp; (try with_reducible rfl)
      try simp only [Act.put, List.setIfInBounds_toArray, List.set_cons_zero, List.set_cons_succ]
      refine wpAnyK_take (i := 7) (oi := _) (v := ?_) rfl (by kernel_rfl) (by kernel_rfl) (by kernel_rfl) (by kernel_rfl) (fun _ _ _ h => h) (Or.inl ⟨by rfl, ?_⟩) (by assumption) ?_
      rotate_left
      · intro w hSw; (try dsimp only at hSw); go_simp; (try with_reducible rfl)
      try simp only [Act.put, List.setIfInBounds_toArray, List.set_cons_zero, List.set_cons_succ]
      refine wpAnyK_take (i := 8) (oi := _) (v := ?_) rfl (by kernel_rfl) (by kernel_rfl) (by kernel_rfl) (by kernel_rfl) (fun _ _ _ h => h) (Or.inl ⟨by rfl, ?_⟩) (by assumption) ?_
      rotate_left
      · intro w hSw; (try dsimp only at hSw); go_simp; (try with_reducible rfl)
      try simp only [Act.put, List.setIfInBounds_toArray, List.set_cons_zero, List.set_cons_succ]
      refine wpAnyK_take (i := 9) (oi := _) (v := ?_) rfl (by kernel_rfl) (by kernel_rfl) (by kernel_rfl) (by kernel_rfl) (fun _ _ _ h => h) (Or.inl ⟨by rfl, ?_⟩) (by assumption) ?_
      rotate_left
      · intro w hSw; (try dsimp only at hSw); go_simp; (try with_reducible rfl)
      try simp only [Act.put, List.setIfInBounds_toArray, List.set_cons_zero, List.set_cons_succ]
      refine wpAnyK_take (i := 10) (oi := _) (v := ?_) rfl (by kernel_rfl) (by kernel_rfl) (by kernel_rfl) (by kernel_rfl) (fun _ _ _ h => h) (Or.inl ⟨by rfl, ?_⟩) (by assumption) ?_
      rotate_left
      · intro w hSw; (try dsimp only at hSw); go_simp; (try with_reducible rfl)
      try simp only [Act.put, List.setIfInBounds_toArray, List.set_cons_zero, List.set_cons_succ]
      refine wpAnyK_take (i := 11) (oi := _) (v := ?_) rfl (by kernel_rfl) (by kernel_rfl) (by kernel_rfl) (by kernel_rfl) (fun _ _ _ h => h) (Or.inl ⟨by rfl, ?_⟩) (by assumption) ?_
      rotate_left
      · intro w hSw; (try dsimp only at hSw); go_simp; (try with_reducible rfl)
      try simp only [Act.put, List.setIfInBounds_toArray, List.set_cons_zero, List.set_cons_succ]
      refine wpAnyK_take (i := 12) (oi := _) (v := ?_) rfl (by kernel_rfl) (by kernel_rfl) (by kernel_rfl) (by kernel_rfl) (fun _ _ _ h => h) (Or.inl ⟨by rfl, ?_⟩) (by assumption) ?_
      rotate_left
      · intro w hSw; (try dsimp only at hSw); go_simp; (try with_reducible rfl)
      try simp only [Act.put, List.setIfInBounds_toArray, List.set_cons_zero, List.set_cons_succ]
      refine wpAnyK_take (i := 13) (oi := _) (v := ?_) rfl (by kernel_rfl) (by kernel_rfl) (by kernel_rfl) (by kernel_rfl) (fun _ _ _ h => h) (Or.inl ⟨by rfl, ?_⟩) (by assumption) ?_
      rotate_left
      · intro w hSw; (try dsimp only at hSw); go_simp; (try with_reducible rfl)
      try simp only [Act.put, List.setIfInBounds_toArray, List.set_cons_zero, List.set_cons_succ]
      refine wpAnyK_take (i := 15) (oi := _) (v := ?_) rfl (by kernel_rfl) (by kernel_rfl) (by kernel_rfl) (by kernel_rfl) (fun _ _ _ h => h) (Or.inl ⟨by rfl, ?_⟩) (by assumption) ?_
      rotate_left
      · intro w hSw; (try dsimp only at hSw); go_simp; (try with_reducible rfl)
      try simp only [Act.put, List.setIfInBounds_toArray, List.set_cons_zero, List.set_cons_succ]
      refine wpAnyK_one (i := 14) (o := _) (by kernel_rfl) rfl (fun K hK => ?_)
      go_simp
      (go_at_call 36; (with_reducible refine (unhide hBh _ x1 y1 hx8 hy8).mono ?_); rintro e w6 ⟨rfl, rfl⟩; go_wp2_with fail)
      refine hK.out _ _ (by exact ⟨(unhide HSV).1, (unhide HSV).2.1, (unhide HSV).2.2.1, (unhide HSV).2.2.2.1, (unhide HSV).2.2.2.2, rfl⟩) (fun hHeld => ?_)
      clear hK K
      refine wpAnyK_take (i := 16) (oi := _) (v := ?_) rfl (by kernel_rfl) (by kernel_rfl) (by kernel_rfl) (by kernel_rfl) (fun _ _ _ h => h) (Or.inl ⟨by rfl, ?_⟩) (by assumption) ?_
      rotate_left
      · intro w hSw; (try dsimp only at hSw); go_simp; (try with_reducible rfl)
      try simp only [Act.put, List.setIfInBounds_toArray, List.set_cons_zero, List.set_cons_succ]
      refine wpAnyK_take (i := 17) (oi := _) (v := ?_) rfl (by kernel_rfl) (by kernel_rfl) (by kernel_rfl) (by kernel_rfl) (fun _ _ _ h => h) (Or.inl ⟨by rfl, ?_⟩) (by assumption) ?_
      rotate_left
      · intro w hSw; (try dsimp only at hSw); go_simp; (try with_reducible rfl)
      try simp only [Act.put, List.setIfInBounds_toArray, List.set_cons_zero, List.set_cons_succ]
      refine wpAnyK_take (i := 18) (oi := _) (v := ?_) rfl (by kernel_rfl) (by kernel_rfl) (by kernel_rfl) (by kernel_rfl) (fun _ _ _ h => h) (Or.inl ⟨by rfl, ?_⟩) (by assumption) ?_
      rotate_left
      · intro w hSw; (try dsimp only at hSw); go_simp; (try with_reducible rfl)
      try simp only [Act.put, List.setIfInBounds_toArray, List.set_cons_zero, List.set_cons_succ]
      refine wpAnyK_end (o := _) (by kernel_rfl) rfl (fun K hK => ?_)
      go_simp
      refine hK.out _ _ ?_
      clear hK K
      refine wpAnyK_done (by kernel_rfl) ?_ _
      clear hHeld
      go_wp2_with fail
      go_returns
      exact ⟨rfl, unhide HST1, ((unhide KM1).drew).setCell (by simp) _⟩
    · have hEi : ¬ ((sf1 : Int) + (n : Int)) % 8 = 0 := by omega
      rw [← unhide hor hE] at c1e
      clear hE hor hor0
      generalize trl ((sf1 + n) % 8) = te at *
      go_upto_region 28 with (fail)
      clear c1e
      refine wp_region_K (S := fun W' => W'.cell? ⟨G, q + 1, none⟩ = some (.int .u8 ((o1 : Nat) : Int)) ∧ W'.cell? ⟨b0, 1, none⟩ = some (fnV 36) ∧ W'.cell? ⟨S1, A1 + 1, none⟩ = some (.int .u8 ((x1 : Nat) : Int)) ∧ W'.cell? ⟨S2, A2 + 1, none⟩ = some (.int .u8 ((y1 : Nat) : Int)) ∧ W'.frozen? ⟨G, q + 1, none⟩ = false ∧ W' = wc.drew) (k := 19) (by kernel_rfl) ⟨c1o, c1k, c1x, c1y, f1o, rfl⟩ (fun hHeld => ?_)
      have HSV := hide (⟨hHeld.1, hHeld.2.1, hHeld.2.2.1, hHeld.2.2.2.1, hHeld.2.2.2.2.1⟩ : _ ∧ _ ∧ _ ∧ _ ∧ _)
      refine wpAnyK_take (i := 0) (oi := _) (v := ?_) rfl (by kernel_rfl) (by kernel_rfl) (by kernel_rfl) (by kernel_rfl) (fun _ _ _ h => h) (Or.inl ⟨by rfl, ?_⟩) (by assumption) ?_
      rotate_left
      · intro w hSw; (try dsimp only at hSw); go_simp; (try with_reducible rfl)
      try simp only [Act.put, List.setIfInBounds_toArray, List.set_cons_zero, List.set_cons_succ]
      refine wpAnyK_take (i := 1) (oi := _) (v := ?_) rfl (by kernel_rfl) (by kernel_rfl) (by kernel_rfl) (by kernel_rfl) (fun _ _ _ h => h) (Or.inl ⟨by rfl, ?_⟩) (by assumption) ?_
      rotate_left
      · intro w hSw; (try dsimp only at hSw); go_simp; (try with_reducible rfl)
      try simp only [Act.put, List.setIfInBounds_toArray, List.set_cons_zero, List.set_cons_succ]
      refine wpAnyK_take (i := 2) (oi := _) (v := ?_) rfl (by kernel_rfl) (by kernel_rfl) (by kernel_rfl) (by kernel_rfl) (fun _ _ _ h => h) (Or.inl ⟨by rfl, ?_⟩) (by assumption) ?_
      rotate_left
      · intro w hSw; (try dsimp only at hSw); go_simp; (try with_reducible rfl)
      try simp only [Act.put, List.setIfInBounds_toArray, List.set_cons_zero, List.set_cons_succ]
      refine wpAnyK_take (i := 3) (oi := _) (v := ?_) rfl (by kernel_rfl) (by kernel_rfl) (by kernel_rfl) (by kernel_rfl) (fun _ _ _ h => h) (Or.inl ⟨by rfl, ?_⟩) (by assumption) ?_
      rotate_left
      · intro w hSw; (try dsimp only at hSw); go_simp; (try with_reducible rfl)
      try simp only [Act.put, List.setIfInBounds_toArray, List.set_cons_zero, List.set_cons_succ]
      refine wpAnyK_take (i := 4) (oi := _) (v := ?_) rfl (by kernel_rfl) (by kernel_rfl) (by kernel_rfl) (by kernel_rfl) (fun _ _ _ h => h) (Or.inl ⟨by rfl, ?_⟩) (by assumption) ?_
      rotate_left
      · intro w hSw; (try dsimp only at hSw); go_simp; (try with_reducible rfl)
      try simp only [Act.put, List.setIfInBounds_toArray, List.set_cons_zero, List.set_cons_succ]
      refine wpAnyK_take (i := 5) (oi := _) (v := ?_) rfl (by kernel_rfl) (by kernel_rfl) (by kernel_rfl) (by kernel_rfl) (fun _ _ _ h => h) (Or.inl ⟨by rfl, ?_⟩) (by assumption) ?_
      rotate_left
      · intro w hSw; (try dsimp only at hSw); go_simp; (try with_reducible rfl)
      try simp only [Act.put, List.setIfInBounds_toArray, List.set_cons_zero, List.set_cons_succ]
      refine wpAnyK_take (i := 6) (oi := _) (v := ?_) rfl (by kernel_rfl) (by kernel_rfl) (by kernel_rfl) (by kernel_rfl) (fun _ _ _ h => h) (Or.inl ⟨by rfl, ?_⟩) (by assumption) ?_
      rotate_left
      · intro w hSw; (try dsimp only at hSw); go_simp; (try with_reducible rfl)
      try simp only [Act.put, List.setIfInBounds_toArray, List.set_cons_zero, List.set_cons_succ]
      refine wpAnyK_take (i := 7) (oi := _) (v := ?_) rfl (by kernel_rfl) (by kernel_rfl) (by kernel_rfl) (by kernel_rfl) (fun _ _ _ h => h) (Or.inl ⟨by rfl, ?_⟩) (by assumption) ?_
      rotate_left
      · intro w hSw; (try dsimp only at hSw); go_simp; (try with_reducible rfl)
      try simp only [Act.put, List.setIfInBounds_toArray, List.set_cons_zero, List.set_cons_succ]
      refine wpAnyK_take (i := 8) (oi := _) (v := ?_) rfl (by kernel_rfl) (by kernel_rfl) (by kernel_rfl) (by kernel_rfl) (fun _ _ _ h => h) (Or.inl ⟨by rfl, ?_⟩) (by assumption) ?_
      rotate_left
      · intro w hSw; (try dsimp only at hSw); go_simp; (try with_reducible rfl)
      try simp only [Act.put, List.setIfInBounds_toArray, List.set_cons_zero, List.set_cons_succ]
      refine wpAnyK_take (i := 9) (oi := _) (v := ?_) rfl (by kernel_rfl) (by kernel_rfl) (by kernel_rfl) (by kernel_rfl) (fun _ _ _ h => h) (Or.inl ⟨by rfl, ?_⟩) (by assumption) ?_
      rotate_left
      · intro w hSw; (try dsimp only at hSw); go_simp; (try with_reducible rfl)
      try simp only [Act.put, List.setIfInBounds_toArray, List.set_cons_zero, List.set_cons_succ]
      refine wpAnyK_take (i := 10) (oi := _) (v := ?_) rfl (by kernel_rfl) (by kernel_rfl) (by kernel_rfl) (by kernel_rfl) (fun _ _ _ h => h) (Or.inl ⟨by rfl, ?_⟩) (by assumption) ?_
      rotate_left
      · intro w hSw; (try dsimp only at hSw); go_simp; (try with_reducible rfl)
      try simp only [Act.put, List.setIfInBounds_toArray, List.set_cons_zero, List.set_cons_succ]
      refine wpAnyK_take (i := 11) (oi := _) (v := ?_) rfl (by kernel_rfl) (by kernel_rfl) (by kernel_rfl) (by kernel_rfl) (fun _ _ _ h => h) (Or.inl ⟨by rfl, ?_⟩) (by assumption) ?_
      rotate_left
      · intro w hSw; (try dsimp only at hSw); go_simp; (try with_reducible rfl)
      try simp only [Act.put, List.setIfInBounds_toArray, List.set_cons_zero, List.set_cons_succ]
      refine wpAnyK_take (i := 12) (oi := _) (v := ?_) rfl (by kernel_rfl) (by kernel_rfl) (by kernel_rfl) (by kernel_rfl) (fun _ _ _ h => h) (Or.inl ⟨by rfl, ?_⟩) (by assumption) ?_
      rotate_left
      · intro w hSw; (try dsimp only at hSw); go_simp; (try with_reducible rfl)
      try simp only [Act.put, List.setIfInBounds_toArray, List.set_cons_zero, List.set_cons_succ]
      refine wpAnyK_take (i := 13) (oi := _) (v := ?_) rfl (by kernel_rfl) (by kernel_rfl) (by kernel_rfl) (by kernel_rfl) (fun _ _ _ h => h) (Or.inl ⟨by rfl, ?_⟩) (by assumption) ?_
      rotate_left
      · intro w hSw; (try dsimp only at hSw); go_simp; (try with_reducible rfl)
      try simp only [Act.put, List.setIfInBounds_toArray, List.set_cons_zero, List.set_cons_succ]
      refine wpAnyK_take (i := 15) (oi := _) (v := ?_) rfl (by kernel_rfl) (by kernel_rfl) (by kernel_rfl) (by kernel_rfl) (fun _ _ _ h => h) (Or.inl ⟨by rfl, ?_⟩) (by assumption) ?_
      rotate_left
      · intro w hSw; (try dsimp only at hSw); go_simp; (try with_reducible rfl)
      try simp only [Act.put, List.setIfInBounds_toArray, List.set_cons_zero, List.set_cons_succ]
      refine wpAnyK_one (i := 14) (o := _) (by kernel_rfl) rfl (fun K hK => ?_)
      go_simp
      (go_at_call 36; (with_reducible refine (unhide hBh _ x1 y1 hx8 hy8).mono ?_); rintro e w6 ⟨rfl, rfl⟩; go_wp2_with fail)
      refine hK.out _ _ (by exact ⟨(unhide HSV).1, (unhide HSV).2.1, (unhide HSV).2.2.1, (unhide HSV).2.2.2.1, (unhide HSV).2.2.2.2, rfl⟩) (fun hHeld => ?_)
      clear hK K
      refine wpAnyK_take (i := 16) (oi := _) (v := ?_) rfl (by kernel_rfl) (by kernel_rfl) (by kernel_rfl) (by kernel_rfl) (fun _ _ _ h => h) (Or.inl ⟨by rfl, ?_⟩) (by assumption) ?_
      rotate_left
      · intro w hSw; (try dsimp only at hSw); go_simp; (try with_reducible rfl)
      try simp only [Act.put, List.setIfInBounds_toArray, List.set_cons_zero, List.set_cons_succ]
      refine wpAnyK_take (i := 17) (oi := _) (v := ?_) rfl (by kernel_rfl) (by kernel_rfl) (by kernel_rfl) (by kernel_rfl) (fun _ _ _ h => h) (Or.inl ⟨by rfl, ?_⟩) (by assumption) ?_
      rotate_left
      · intro w hSw; (try dsimp only at hSw); go_simp; (try with_reducible rfl)
      try simp only [Act.put, List.setIfInBounds_toArray, List.set_cons_zero, List.set_cons_succ]
      refine wpAnyK_take (i := 18) (oi := _) (v := ?_) rfl (by kernel_rfl) (by kernel_rfl) (by kernel_rfl) (by kernel_rfl) (fun _ _ _ h => h) (Or.inl ⟨by rfl, ?_⟩) (by assumption) ?_
      rotate_left
      · intro w hSw; (try dsimp only at hSw); go_simp; (try with_reducible rfl)
      try simp only [Act.put, List.setIfInBounds_toArray, List.set_cons_zero, List.set_cons_succ]
      refine wpAnyK_end (o := _) (by kernel_rfl) rfl (fun K hK => ?_)
      go_simp
      refine hK.out _ _ ?_
      clear hK K
      refine wpAnyK_done (by kernel_rfl) ?_ _
      clear hHeld
      go_wp2_with fail
      go_returns
      exact ⟨rfl, unhide HST1, ((unhide KM1).drew).setCell (by simp) _⟩
set_option maxRecDepth 100000 in
set_option maxHeartbeats 4000000 in
theorem aligC_0 (w : World) (B S1 S2 G N cap so1 sn1 sc1 sf1 so2 sn2 sc2 sf2 f n : Nat) (sb1 sb2 d : List Nat) (l1 l2 : List Bool)
    (hS1 : Small sb1) (hS2 : Small sb2) (hD : Small d) (hd : d.length = N) (hN : N ≤ 4096) (hfn : f + n ≤ 8 * N) (hnX : 3 ≤ (f % 8 + n + 7) / 8) (hcap : N ≤ cap) (hGz : G ≠ 0) (hGo : G ≠ 1) (hG1 : S1 ≠ G) (hG2 : S2 ≠ G)
    (hsf1 : sf1 < 65536) (he1 : sf1 % 8 = f % 8) (hsn1 : sf1 / 8 + (sf1 % 8 + n + 7) / 8 ≤ sn1) (hsc1 : sn1 ≤ sc1) (hsb1 : so1 + sf1 / 8 + (sf1 % 8 + n + 7) / 8 ≤ sb1.length) (hl1 : ∀ j, j < n → l1.getD j false = bitAt sb1 (8 * (so1 + sf1 / 8) + sf1 % 8 + j))
    (hsf2 : sf2 < 65536) (he2 : sf2 % 8 = f % 8) (hsn2 : sf2 / 8 + (sf2 % 8 + n + 7) / 8 ≤ sn2) (hsc2 : sn2 ≤ sc2) (hsb2 : so2 + sf2 / 8 + (sf2 % 8 + n + 7) / 8 ≤ sb2.length) (hl2 : ∀ j, j < n → l2.getD j false = bitAt sb2 (8 * (so2 + sf2 / 8) + sf2 % 8 + j))
    (hP : Prc w) (hT : Trl w) (hr1 : Rdb w S1 sb1 so1) (hr2 : Rdb w S2 sb2 so2) (hown : w.ownsRow B 5 1 (.slice (some ⟨G, 0, none⟩) N cap) N (bv d)) :
    Calls Tryd.prog 33 #[.agg #[fnV 35, fnV 36, fnV 37], .slice (some ⟨S1, so1, none⟩) sn1 sc1, .slice (some ⟨S2, so2, none⟩) sn2 sc2, .int .i64 sf1, .int .i64 sf2, .slice (some ⟨G, 0, none⟩) N cap, .int .i64 f, .int .i64 n] w fun e w' =>
      e = .returned (.tuple #[]) ∧ w'.ownsRow B 5 1 (.slice (some ⟨G, 0, none⟩) N cap) N (bv (chgN d f (cmbL 0 l1 l2 n) n)) ∧ Mod [G] w w' := by
  have hn0 : 0 < (f % 8 + n + 7) / 8 := by omega
  have hBBF := hide (fun (W : World) => bfb_i W ((n : Int) + (sf1 : Int) % 8) (f % 8 + n) (by omega) (by omega))
  have hBox := (Mod.refl [] w).alloc (.cells #[fnV 35, fnV 36, fnV 37] 47)
  have kBox := Blk.new (w := w) (g := w.heap.size) 47 #[fnV 35, fnV 36, fnV 37] rfl
  have g1 := hr1.mod hBox (by simp)
  have g2 := hr2.mod hBox (by simp)
  have gO := own_mod hown hBox (by simp)
  have gP := hP.mod hBox (by simp)
  have gT := hT.mod hBox (by simp)
  have hgl := own_lt' hown
  have hz : (w.alloc (.cells #[fnV 35, fnV 36, fnV 37] 47)).heap.size = w.heap.size + 1 := by simp
  have hf8 : f / 8 < N := by omega
  rw [he1] at hsn1 hsb1 hl1
  rw [he2] at hsn2 hsb2 hl2
  generalize hnb : (f % 8 + n + 7) / 8 = nb at *
  have KB := hide kBox
  have KM := hide hBox
  have K1 := hide g1
  have K2 := hide g2
  have KO := hide gO
  have KP := hide gP
  have KT := hide gT
  clear hr1 hr2 hown hP hT g1 g2 gO gP gT kBox hBox
  have hq1 : ¬ sc1 - sf1 / 8 = 0 := by omega
  have hq2 : ¬ sc2 - sf2 / 8 = 0 := by omega
  have hq3 : ¬ cap - f / 8 = 0 := by omega
  go_enter Tryd.func33, Tryd.ntmps33
  go_upto_region 8 with (first | (go_at_call 52; (with_reducible refine (unhide hBBF _).mono ?_); rintro e w' ⟨rfl, rfl⟩) | (go_at_call 53; with_reducible refine (assert_any _ _ _).mono ?_; rintro e w6 ⟨rfl, rfl⟩) | fail)
  have hA1 : so1 + sf1 / 8 + nb ≤ sb1.length := hsb1
  have hM1 : nb ≤ sn1 - sf1 / 8 := by omega
  have hC1 : sn1 - sf1 / 8 ≤ sc1 - sf1 / 8 := by omega
  have hA2 : so2 + sf2 / 8 + nb ≤ sb2.length := hsb2
  have hM2 : nb ≤ sn2 - sf2 / 8 := by omega
  have hC2 : sn2 - sf2 / 8 ≤ sc2 - sf2 / 8 := by omega
  have hMo : nb ≤ N - f / 8 := by omega
  have hCo : N - f / 8 ≤ cap - f / 8 := by omega
  have hLo1 : so1 ≤ so1 + sf1 / 8 := by omega
  have hLo2 : so2 ≤ so2 + sf2 / 8 := by omega
  have hqN : f / 8 + nb ≤ N := by omega
  have hef : 8 * (f / 8) + f % 8 = f := by omega
  have hfit : 8 * (f / 8) + f % 8 + n ≤ 8 * d.length := by omega
  have hs8 : f % 8 < 8 := by omega
  have hsn : f % 8 + n ≤ 8 * nb := by omega
  have hsn' : 8 * nb < f % 8 + n + 8 := by omega
  have hse : (sf1 + n) % 8 = (f % 8 + n) % 8 := by omega
  have hse8 : (sf1 + n) % 8 < 8 := by omega
  have hn5 : n < 65536 := by omega
  generalize so1 + sf1 / 8 = A1 at *
  generalize so2 + sf2 / 8 = A2 at *
  generalize f / 8 = q at *
  generalize sn1 - sf1 / 8 = m1 at *
  generalize sc1 - sf1 / 8 = c1 at *
  generalize sn2 - sf2 / 8 = m2 at *
  generalize sc2 - sf2 / 8 = c2 at *
  generalize N - q = mo at *
  generalize cap - q = co at *
  generalize hs : f % 8 = s at *
  clear hsn1 hsb1 hsn2 hsb2 hq1 hq2 hq3 hfn hsc1 hsc2 hBBF hf8
  have hGb : G < (w.alloc (.cells #[fnV 35, fnV 36, fnV 37] 47)).heap.size := by rw [hz]; omega
  generalize hw1 : w.alloc (.cells #[fnV 35, fnV 36, fnV 37] 47) = w1 at *
  have hb0G : w.heap.size ≠ G := by omega
  generalize hb0 : w.heap.size = b0 at *
  clear hw1 hb0
  have gP := unhide KP
  have gT := unhide KT
  have ce := gT ((sf1 + n) % 8) hse8
  have cs := gP s hs8
  have ck := (unhide KB).cell 1
  have cka := (unhide KB).cell 2
  have cx := unhide K1 A1 hLo1 (by omega)
  have cy := unhide K2 A2 hLo2 (by omega)
  have co0 := own_cell (unhide KO) q (by omega)
  have fo0 := own_frozen (unhide KO) q
  have hx8 := hS1.get A1
  have hy8 := hS2.get A2
  have ho8 := hD.get q
  have hBh := hide (fun W x y hx hy => opB_0 W x y hx hy)
  have hp := pow_lt8 hs8
  clear gP gT
  have hm0 : 0 < m1 ∧ 0 < m2 ∧ 0 < mo ∧ 1 < m1 ∧ 1 < m2 ∧ 1 < mo := by omega
  obtain ⟨hm0a, hm0b, hm0c, hm0d, hm0e, hm0f⟩ := hm0
  have hnI : (3 : Int) ≤ (nb : Int) := by omega
  have t0 : ((nb : Int) == 0) = false := by rw [beq_eq_false_iff_ne]; omega
  have t1 : ((nb : Int) == 1) = false := by rw [beq_eq_false_iff_ne]; omega
  have t2 : ((nb : Int) == 2) = false := by rw [beq_eq_false_iff_ne]; omega
  have z1 : (nb : Int) - 1 < (m1 : Int) := by omega
  have z2 : (nb : Int) - 1 < (m2 : Int) := by omega
  have z3 : (nb : Int) - 1 < (mo : Int) := by omega
  have z4 : ((nb : Int) - 1).toNat = nb - 1 := by omega
  have z9 : IntKind.i64.wrap ((nb : Int) - 1) = (nb : Int) - 1 := (IntWalk.i64_left _).trans (IntWalk.wrap64_in _ (by omega))
  have z10 : (0 : Int) ≤ (nb : Int) - 1 := by omega
  have z11 : (1 : Int) ≤ (nb : Int) := by omega
  have hmb := mixb_bits (2 ^ s - 1) (d.getD q 0) (bOp 0 (sb1.getD A1 0) (sb2.getD A2 0)) (by omega) ho8 (bOp_lt 0 _ _ hx8 hy8)
  have hst := own_set (own_D (unhide KO)) q (mixb (2 ^ s - 1) (d.getD q 0) (bOp 0 (sb1.getD A1 0) (sb2.getD A2 0))) (by omega)
  have hv0 := mixb_lt (2 ^ s - 1) _ _ ho8 (bOp_lt 0 _ _ hx8 hy8)
  have hd1s := hD.set q _ hv0
  have hd1l : (d.set q (mixb (2 ^ s - 1) (d.getD q 0) (bOp 0 (sb1.getD A1 0) (sb2.getD A2 0)))).length = N := by rw [List.length_set]; exact hd
  have hd1 : (d.set q (mixb (2 ^ s - 1) (d.getD q 0) (bOp 0 (sb1.getD A1 0) (sb2.getD A2 0)))).getD (q + (nb - 1)) 0 = d.getD (q + (nb - 1)) 0 := by rw [getD_set _ _ _ _ (by omega), if_neg (by omega)]
  have hfin : (alB 0 (d.set q (mixb (2 ^ s - 1) (d.getD q 0) (bOp 0 (sb1.getD A1 0) (sb2.getD A2 0)))) (q + 1) (win0 sb1 (A1 + 1) (nb - 2)) (win0 sb2 (A2 + 1) (nb - 2)) (nb - 2)).set (q + (nb - 1)) (mixb (trl ((sf1 + n) % 8)) (d.getD (q + (nb - 1)) 0) (bOp 0 (sb1.getD (A1 + (nb - 1)) 0) (sb2.getD (A2 + (nb - 1)) 0))) = chgN d f (cmbL 0 l1 l2 n) n := by
    rw [hse, ← hef]
    exact aligned_two 0 s q n nb A1 A2 d sb1 sb2 l1 l2 hD hS1 hS2 hs8 (by omega) (by omega) (by omega) hfit (by omega) (by omega) hl1 hl2
  have hx18 := hS1.get (A1 + (nb - 1))
  have hy18 := hS2.get (A2 + (nb - 1))
  have ho18 := hD.get (q + (nb - 1))
  have cx1 := unhide K1 (A1 + (nb - 1)) (by omega) (by omega)
  have cy1 := unhide K2 (A2 + (nb - 1)) (by omega) (by omega)
  have htl := trl_lt ((sf1 + n) % 8)
  have hor := hide (fun (hE : (sf1 + n) % 8 ≠ 0) => (show trl ((sf1 + n) % 8) = 256 - 2 ^ ((sf1 + n) % 8) from by unfold trl; rw [if_neg hE]))
  have hor0 := hide (fun (hE : (sf1 + n) % 8 = 0) => (show trl ((sf1 + n) % 8) = 0 from by rw [hE]; rfl))
  have hmb1 := hide (mixb_bits (trl ((sf1 + n) % 8)) (d.getD (q + (nb - 1)) 0) (bOp 0 (sb1.getD (A1 + (nb - 1)) 0) (sb2.getD (A2 + (nb - 1)) 0)) htl ho18 (bOp_lt 0 _ _ hx18 hy18))
  have hKS1 := hide hS1
  have hKS2 := hide hS2
  generalize hdd1 : d.set q (mixb (2 ^ s - 1) (d.getD q 0) (bOp 0 (sb1.getD A1 0) (sb2.getD A2 0))) = d1 at *
  rw [← hmb] at hst
  have HST := hide hst
  have hfin := hide hfin
  have hd1 := hide hd1
  clear hst hmb hl1 hl2 hse hsn hsn' hfit hef hS1 hS2 hD hdd1
  generalize 2 ^ s - 1 = p0 at *
  generalize d.getD q 0 = o at *
  generalize sb1.getD A1 0 = x at *
  generalize sb2.getD A2 0 = y at *
  go_upto_region 10 with (fail)
  go_cut [] (fun wx => wx.ownsRow B 5 1 (.slice (some ⟨G, 0, none⟩) N cap) N (bv d1) ∧ Mod [G] w1 wx)
  case first =>
    clear ce cx1 cy1 cka
    refine wp_region_K (S := fun W' => W'.cell? ⟨G, q, none⟩ = some (.int .u8 ((o : Nat) : Int)) ∧ W'.cell? ⟨b0, 1, none⟩ = some (fnV 36) ∧ W'.cell? ⟨S1, A1, none⟩ = some (.int .u8 ((x : Nat) : Int)) ∧ W'.cell? ⟨S2, A2, none⟩ = some (.int .u8 ((y : Nat) : Int)) ∧ W'.frozen? ⟨G, q, none⟩ = false ∧ W' = w1.drew) (k := 19) (by kernel_rfl) ⟨co0, ck, cx, cy, fo0, rfl⟩ (fun hHeld => ?_)
    have HSV := hide (⟨hHeld.1, hHeld.2.1, hHeld.2.2.1, hHeld.2.2.2.1, hHeld.2.2.2.2.1⟩ : _ ∧ _ ∧ _ ∧ _ ∧ _)
    refine wpAnyK_take (i := 0) (oi := _) (v := ?_) rfl (by kernel_rfl) (by kernel_rfl) (by kernel_rfl) (by kernel_rfl) (fun _ _ _ h => h) (Or.inl ⟨by rfl, ?_⟩) (by assumption) ?_
    rotate_left
    · intro w hSw; (try dsimp only at hSw); go_simp; (try with_reducible rfl)
    try simp only [Act.put, List.setIfInBounds_toArray, List.set_cons_zero, List.set_cons_succ]
    refine wpAnyK_take (i := 1) (oi := _) (v := ?_) rfl (by kernel_rfl) (by kernel_rfl) (by kernel_rfl) (by kernel_rfl) (fun _ _ _ h => h) (Or.inl ⟨by rfl, ?_⟩) (by assumption) ?_
    rotate_left
    · intro w hSw; (try dsimp only at hSw); go_simp; (try with_reducible rfl)
    try simp only [Act.put, List.setIfInBounds_toArray, List.set_cons_zero, List.set_cons_succ]
    refine wpAnyK_take (i := 2) (oi := _) (v := ?_) rfl (by kernel_rfl) (by kernel_rfl) (by kernel_rfl) (by kernel_rfl) (fun _ _ _ h => h) (Or.inl ⟨by rfl, ?_⟩) (by assumption) ?_
    rotate_left
    · intro w hSw; (try dsimp only at hSw); go_simp; (try with_reducible rfl)
    try simp only [Act.put, List.setIfInBounds_toArray, List.set_cons_zero, List.set_cons_succ]
    refine wpAnyK_take (i := 3) (oi := _) (v := ?_) rfl (by kernel_rfl) (by kernel_rfl) (by kernel_rfl) (by kernel_rfl) (fun _ _ _ h => h) (Or.inl ⟨by rfl, ?_⟩) (by assumption) ?_
    rotate_left
    · intro w hSw; (try dsimp only at hSw); go_simp; (try with_reducible rfl)
    try simp only [Act.put, List.setIfInBounds_toArray, List.set_cons_zero, List.set_cons_succ]
    refine wpAnyK_take (i := 4) (oi := _) (v := ?_) rfl (by kernel_rfl) (by kernel_rfl) (by kernel_rfl) (by kernel_rfl) (fun _ _ _ h => h) (Or.inl ⟨by rfl, ?_⟩) (by assumption) ?_
    rotate_left
    · intro w hSw; (try dsimp only at hSw); go_simp; (try with_reducible rfl)
    try simp only [Act.put, List.setIfInBounds_toArray, List.set_cons_zero, List.set_cons_succ]
    refine wpAnyK_take (i := 5) (oi := _) (v := ?_) rfl (by kernel_rfl) (by kernel_rfl) (by kernel_rfl) (by kernel_rfl) (fun _ _ _ h => h) (Or.inl ⟨by rfl, ?_⟩) (by assumption) ?_
    rotate_left
    · intro w hSw; (try dsimp only at hSw); go_simp; (try with_reducible rfl)
    try simp only [Act.put, List.setIfInBounds_toArray, List.set_cons_zero, List.set_cons_succ]
    refine wpAnyK_take (i := 6) (oi := _) (v := ?_) rfl (by kernel_rfl) (by kernel_rfl) (by kernel_rfl) (by kernel_rfl) (fun _ _ _ h => h) (Or.inl ⟨by rfl, ?_⟩) (by assumption) ?_
    rotate_left
    · intro w hSw; (try dsimp only at hSw); go_simp; (try with_reducible rfl)
    try simp only [Act.put, List.setIfInBounds_toArray, List.set_cons_zero, List.set_cons_succ]
    refine wpAnyK_take (i := 7) (oi := _) (v := ?_) rfl (by kernel_rfl) (by kernel_rfl) (by kernel_rfl) (by kernel_rfl) (fun _ _ _ h => h) (Or.inl ⟨by rfl, ?_⟩) (by assumption) ?_
    rotate_left
    · intro w hSw; (try dsimp only at hSw); go_simp; (try with_reducible rfl)
    try simp only [Act.put, List.setIfInBounds_toArray, List.set_cons_zero, List.set_cons_succ]
    refine wpAnyK_take (i := 8) (oi := _) (v := ?_) rfl (by kernel_rfl) (by kernel_rfl) (by kernel_rfl) (by kernel_rfl) (fun _ _ _ h => h) (Or.inl ⟨by rfl, ?_⟩) (by assumption) ?_
    rotate_left
    · intro w hSw; (try dsimp only at hSw); go_simp; (try with_reducible rfl)
    try simp only [Act.put, List.setIfInBounds_toArray, List.set_cons_zero, List.set_cons_succ]
    refine wpAnyK_take (i := 9) (oi := _) (v := ?_) rfl (by kernel_rfl) (by kernel_rfl) (by kernel_rfl) (by kernel_rfl) (fun _ _ _ h => h) (Or.inl ⟨by rfl, ?_⟩) (by assumption) ?_
    rotate_left
    · intro w hSw; (try dsimp only at hSw); go_simp; (try with_reducible rfl)
    try simp only [Act.put, List.setIfInBounds_toArray, List.set_cons_zero, List.set_cons_succ]
    refine wpAnyK_take (i := 10) (oi := _) (v := ?_) rfl (by kernel_rfl) (by kernel_rfl) (by kernel_rfl) (by kernel_rfl) (fun _ _ _ h => h) (Or.inl ⟨by rfl, ?_⟩) (by assumption) ?_
    rotate_left
    · intro w hSw; (try dsimp only at hSw); go_simp; (try with_reducible rfl)
    try simp only [Act.put, List.setIfInBounds_toArray, List.set_cons_zero, List.set_cons_succ]
    refine wpAnyK_take (i := 11) (oi := _) (v := ?_) rfl (by kernel_rfl) (by kernel_rfl) (by kernel_rfl) (by kernel_rfl) (fun _ _ _ h => h) (Or.inl ⟨by rfl, ?_⟩) (by assumption) ?_
    rotate_left
    · intro w hSw; (try dsimp only at hSw); go_simp; (try with_reducible rfl)
    try simp only [Act.put, List.setIfInBounds_toArray, List.set_cons_zero, List.set_cons_succ]
    refine wpAnyK_take (i := 12) (oi := _) (v := ?_) rfl (by kernel_rfl) (by kernel_rfl) (by kernel_rfl) (by kernel_rfl) (fun _ _ _ h => h) (Or.inl ⟨by rfl, ?_⟩) (by assumption) ?_
    rotate_left
    · intro w hSw; (try dsimp only at hSw); go_simp; (try with_reducible rfl)
    try simp only [Act.put, List.setIfInBounds_toArray, List.set_cons_zero, List.set_cons_succ]
    refine wpAnyK_take (i := 13) (oi := _) (v := ?_) rfl (by kernel_rfl) (by kernel_rfl) (by kernel_rfl) (by kernel_rfl) (fun _ _ _ h => h) (Or.inl ⟨by rfl, ?_⟩) (by assumption) ?_
    rotate_left
    · intro w hSw; (try dsimp only at hSw); go_simp; (try with_reducible rfl)
    try simp only [Act.put, List.setIfInBounds_toArray, List.set_cons_zero, List.set_cons_succ]
    refine wpAnyK_take (i := 15) (oi := _) (v := ?_) rfl (by kernel_rfl) (by kernel_rfl) (by kernel_rfl) (by kernel_rfl) (fun _ _ _ h => h) (Or.inl ⟨by rfl, ?_⟩) (by assumption) ?_
    rotate_left
    · intro w hSw; (try dsimp only at hSw); go_simp; (try with_reducible rfl)
    try simp only [Act.put, List.setIfInBounds_toArray, List.set_cons_zero, List.set_cons_succ]
    refine wpAnyK_one (i := 14) (o := _) (by kernel_rfl) rfl (fun K hK => ?_)
    go_simp
    (go_at_call 36; (with_reducible refine (unhide hBh _ x y hx8 hy8).mono ?_); rintro e w6 ⟨rfl, rfl⟩; go_wp2_with fail)
    refine hK.out _ _ (by exact ⟨(unhide HSV).1, (unhide HSV).2.1, (unhide HSV).2.2.1, (unhide HSV).2.2.2.1, (unhide HSV).2.2.2.2, rfl⟩) (fun hHeld => ?_)
    clear hK K
    refine wpAnyK_take (i := 16) (oi := _) (v := ?_) rfl (by kernel_rfl) (by kernel_rfl) (by kernel_rfl) (by kernel_rfl) (fun _ _ _ h => h) (Or.inl ⟨by rfl, ?_⟩) (by assumption) ?_
    rotate_left
    · intro w hSw; (try dsimp only at hSw); go_simp; (try with_reducible rfl)
    try simp only [Act.put, List.setIfInBounds_toArray, List.set_cons_zero, List.set_cons_succ]
    refine wpAnyK_take (i := 17) (oi := _) (v := ?_) rfl (by kernel_rfl) (by kernel_rfl) (by kernel_rfl) (by kernel_rfl) (fun _ _ _ h => h) (Or.inl ⟨by rfl, ?_⟩) (by assumption) ?_
    rotate_left
    · intro w hSw; (try dsimp only at hSw); go_simp; (try with_reducible rfl)
    try simp only [Act.put, List.setIfInBounds_toArray, List.set_cons_zero, List.set_cons_succ]
    refine wpAnyK_take (i := 18) (oi := _) (v := ?_) rfl (by kernel_rfl) (by kernel_rfl) (by kernel_rfl) (by kernel_rfl) (fun _ _ _ h => h) (Or.inl ⟨by rfl, ?_⟩) (by assumption) ?_
    rotate_left
    · intro w hSw; (try dsimp only at hSw); go_simp; (try with_reducible rfl)
    try simp only [Act.put, List.setIfInBounds_toArray, List.set_cons_zero, List.set_cons_succ]
    refine wpAnyK_end (o := _) (by kernel_rfl) rfl (fun K hK => ?_)
    go_simp
    refine hK.out _ _ ?_
    clear hK K
    refine wpAnyK_done (by kernel_rfl) ?_ _
    clear hHeld
    go_wp2_with fail
    go_meet
    exact ⟨unhide HST, ((Mod.refl [G] w1).drew).setCell (by simp) _⟩
  case rest =>
    obtain ⟨hO1, hM1⟩ := hcut
    have c1x := hM1.cell cx1 (by simpa using hG1)
    have c1y := hM1.cell cy1 (by simpa using hG2)
    have c1k := hM1.cell ck (by simpa using hb0G)
    have c1a := hM1.cell cka (by simpa using hb0G)
    have c1e := hM1.cell ce (by simpa using fun e : 1 = G => hGo e.symm)
    have KM1 := hide (((unhide KM).any [G]).trans hM1 (by simp))
    have hAl := hide (fun (W : World) (hm : Mod [] wc W) => al_0 W B G N cap (q + 1) (nb - 2) (co - 1) S1 (A1 + 1) (c1 - 1) S2 (A2 + 1) (c2 - 1) sb1 sb2 d1 (unhide hKS1) (unhide hKS2) hd1s hd1l hN (by omega) (by omega) (by omega) (by omega) (by omega) (by omega) (by omega) hG1 hG2 (Rdb.mod (Rdb.mod (unhide K1) hM1 (by simpa using hG1)) hm (by simp)) (Rdb.mod (Rdb.mod (unhide K2) hM1 (by simpa using hG2)) hm (by simp)) (own_mod hO1 hm (by simp)))
    have HO1 := hide hO1
    clear HST hO1 hM1 KM KO cx cy ck ce cx1 cy1 co0 fo0 hx8 hy8 cka
    go_upto_region 11 with (fail)
    go_cut [] (fun wx => wx.ownsRow B 5 1 (.slice (some ⟨G, 0, none⟩) N cap) N (bv (alB 0 d1 (q + 1) (win0 sb1 (A1 + 1) (nb - 2)) (win0 sb2 (A2 + 1) (nb - 2)) (nb - 2))) ∧ Mod [G] wc wx)
    case first =>
      clear c1x c1y c1e c1k
      have z5 : (1 : Int) ≤ (nb : Int) - 1 := by omega
      have z6 : (nb : Int) - 1 ≤ (c1 : Int) := by omega
      have z7 : (nb : Int) - 1 ≤ (c2 : Int) := by omega
      have z8 : (nb : Int) - 1 ≤ (co : Int) := by omega
      have y1 : ¬ c1 - 1 = 0 := by omega
      have y2 : ¬ c2 - 1 = 0 := by omega
      have y3 : ¬ co - 1 = 0 := by omega
      have y4 : ¬ c1 = 1 := by omega
      have y5 : ¬ c2 = 1 := by omega
      have y6 : ¬ co = 1 := by omega
      have y7 : nb - 1 - 1 = nb - 2 := by omega
      go_region_with (first | (go_at_call 37; go_loud (with_reducible refine (unhide hAl _ (by (repeat' (first | (with_reducible exact Mod.refl _ _) | (with_reducible assumption) | (with_reducible refine Mod.drew ?_) | (with_reducible refine Mod.drewN ?_ _) | (with_reducible refine Mod.alloc ?_ _) | (with_reducible refine Mod.setCell ?_ ?_ _) | (left; simp; done) | (right; first | omega | (simp; omega) | (simp; done)))))).mono ?_); rintro e w6 ⟨rfl, ho6, hm6⟩; have hm06 := Mod.trans (S := [G]) (T := [G]) (a := wc) (by (repeat' (first | (with_reducible exact Mod.refl _ _) | (with_reducible assumption) | (with_reducible refine Mod.drew ?_) | (with_reducible refine Mod.drewN ?_ _) | (with_reducible refine Mod.alloc ?_ _) | (with_reducible refine Mod.setCell ?_ ?_ _) | (left; simp; done) | (right; first | omega | (simp; omega) | (simp; done))))) hm6 (by simp)))
      all_goals (go_wp2_with fail; go_meet)
      all_goals exact ⟨ho6, hm06⟩
    case rest =>
      obtain ⟨hO2, hM2⟩ := hcut
      have c2x := hM2.cell c1x (by simpa using hG1)
      have c2y := hM2.cell c1y (by simpa using hG2)
      have c2k := hM2.cell c1k (by simpa using hb0G)
      have c2e := hM2.cell c1e (by simpa using fun e : 1 = G => hGo e.symm)
      have c2o := own_cell hO2 (q + (nb - 1)) (by omega)
      rw [alB_far 0 (q + 1) _ _ (nb - 2) (by rw [hd1l]; omega) _ (by omega), unhide hd1] at c2o
      have f2o := own_frozen hO2 (q + (nb - 1))
      have hst := own_set (own_D hO2) (q + (nb - 1)) (mixb (trl ((sf1 + n) % 8)) (d.getD (q + (nb - 1)) 0) (bOp 0 (sb1.getD (A1 + (nb - 1)) 0) (sb2.getD (A2 + (nb - 1)) 0))) (by omega)
      rw [unhide hfin, ← unhide hmb1] at hst
      have HST1 := hide hst
      have KM2 := hide ((unhide KM1).trans hM2 (by simp))
      clear hst hfin hmb1 hAl HO1 hO2 hM2 KM1 hd1 hKS1 hKS2 hd1s hd1l c1x c1y c1k c1a c1e K1 K2 KP KT KB
      have hx8 := hx18
      have hy8 := hy18
      clear hx18 hy18
      generalize d.getD (q + (nb - 1)) 0 = o1 at *
      generalize sb1.getD (A1 + (nb - 1)) 0 = x1 at *
      generalize sb2.getD (A2 + (nb - 1)) 0 = y1 at *
      by_cases hE : (sf1 + n) % 8 = 0
      · have hEi : ((sf1 : Int) + (n : Int)) % 8 = 0 := by omega
        rw [unhide hor0 hE] at HST1
        clear hE c2e hor hor0
        go_upto_region 15 with (fail)
        refine wp_region_K (S := fun W' => W'.cell? ⟨G, q + (nb - 1), none⟩ = some (.int .u8 ((o1 : Nat) : Int)) ∧ W'.cell? ⟨b0, 1, none⟩ = some (fnV 36) ∧ W'.cell? ⟨S1, A1 + (nb - 1), none⟩ = some (.int .u8 ((x1 : Nat) : Int)) ∧ W'.cell? ⟨S2, A2 + (nb - 1), none⟩ = some (.int .u8 ((y1 : Nat) : Int)) ∧ W'.frozen? ⟨G, q + (nb - 1), none⟩ = false ∧ W' = wc.drew) (k := 27) (by kernel_rfl) ⟨c2o, c2k, c2x, c2y, f2o, rfl⟩ (fun hHeld => ?_)
        have HSV := hide (⟨hHeld.1, hHeld.2.1, hHeld.2.2.1, hHeld.2.2.2.1, hHeld.2.2.2.2.1⟩ : _ ∧ _ ∧ _ ∧ _ ∧ _)
        refine wpAnyK_take (i := 0) (oi := _) (v := ?_) rfl (by kernel_rfl) (by kernel_rfl) (by kernel_rfl) (by kernel_rfl) (fun _ _ _ h => h) (Or.inl ⟨by rfl, ?_⟩) (by assumption) ?_
        rotate_left
        · intro w hSw; (try dsimp only at hSw); go_simp; (try with_reducible rfl)
        try simp only [Act.put, List.setIfInBounds_toArray, List.set_cons_zero, List.set_cons_succ]
        refine wpAnyK_take (i := 1) (oi := _) (v := ?_) rfl (by kernel_rfl) (by kernel_rfl) (by kernel_rfl) (by kernel_rfl) (fun _ _ _ h => h) (Or.inl ⟨by rfl, ?_⟩) (by assumption) ?_
        rotate_left
        · intro w hSw; (try dsimp only at hSw); go_simp; (try with_reducible rfl)
        try simp only [Act.put, List.setIfInBounds_toArray, List.set_cons_zero, List.set_cons_succ]
        refine wpAnyK_take (i := 2) (oi := _) (v := ?_) rfl (by kernel_rfl) (by kernel_rfl) (by kernel_rfl) (by kernel_rfl) (fun _ _ _ h => h) (Or.inl ⟨by rfl, ?_⟩) (by assumption) ?_
        rotate_left
        · intro w hSw; (try dsimp only at hSw); go_simp; (try with_reducible rfl)
        try simp only [Act.put, List.setIfInBounds_toArray, List.set_cons_zero, List.set_cons_succ]
        refine wpAnyK_take (i := 3) (oi := _) (v := ?_) rfl (by kernel_rfl) (by kernel_rfl) (by kernel_rfl) (by kernel_rfl) (fun _ _ _ h => h) (Or.inl ⟨by rfl, ?_⟩) (by assumption) ?_
        rotate_left
        · intro w hSw; (try dsimp only at hSw); go_simp; (try with_reducible rfl)
        try simp only [Act.put, List.setIfInBounds_toArray, List.set_cons_zero, List.set_cons_succ]
        refine wpAnyK_take (i := 4) (oi := _) (v := ?_) rfl (by kernel_rfl) (by kernel_rfl) (by kernel_rfl) (by kernel_rfl) (fun _ _ _ h => h) (Or.inl ⟨by rfl, ?_⟩) (by assumption) ?_
        rotate_left
        · intro w hSw; (try dsimp only at hSw); go_simp; (try with_reducible rfl)
        try simp only [Act.put, List.setIfInBounds_toArray, List.set_cons_zero, List.set_cons_succ]
        refine wpAnyK_take (i := 5) (oi := _) (v := ?_) rfl (by kernel_rfl) (by kernel_rfl) (by kernel_rfl) (by kernel_rfl) (fun _ _ _ h => h) (Or.inl ⟨by rfl, ?_⟩) (by assumption) ?_
        rotate_left
        · intro w hSw; (try dsimp only at hSw); go_simp; (try with_reducible rfl)
        try simp only [Act.put, List.setIfInBounds_toArray, List.set_cons_zero, List.set_cons_succ]
        refine wpAnyK_take (i := 6) (oi := _) (v := ?_) rfl (by kernel_rfl) (by kernel_rfl) (by kernel_rfl) (by kernel_rfl) (fun _ _ _ h => h) (Or.inl ⟨by rfl, ?_⟩) (by assumption) ?_
        rotate_left
        · intro w hSw; (try dsimp only at hSw); go_simp; (try with_reducible rfl)
        try simp only [Act.put, List.setIfInBounds_toArray, List.set_cons_zero, List.set_cons_succ]
        refine wpAnyK_take (i := 7) (oi := _) (v := ?_) rfl (by kernel_rfl) (by kernel_rfl) (by kernel_rfl) (by kernel_rfl) (fun _ _ _ h => h) (Or.inl ⟨by rfl, ?_⟩) (by assumption) ?_
        rotate_left
        · intro w hSw; (try dsimp only at hSw); go_simp; (try with_reducible rfl)
        try simp only [Act.put, List.setIfInBounds_toArray, List.set_cons_zero, List.set_cons_succ]
        refine wpAnyK_take (i := 8) (oi := _) (v := ?_) rfl (by kernel_rfl) (by kernel_rfl) (by kernel_rfl) (by kernel_rfl) (fun _ _ _ h => h) (Or.inl ⟨by rfl, ?_⟩) (by assumption) ?_
        rotate_left
        · intro w hSw; (try dsimp only at hSw); go_simp; (try with_reducible rfl)
        try simp only [Act.put, List.setIfInBounds_toArray, List.set_cons_zero, List.set_cons_succ]
        refine wpAnyK_take (i := 9) (oi := _) (v := ?_) rfl (by kernel_rfl) (by kernel_rfl) (by kernel_rfl) (by kernel_rfl) (fun _ _ _ h => h) (Or.inl ⟨by rfl, ?_⟩) (by assumption) ?_
        rotate_left
        · intro w hSw; (try dsimp only at hSw); go_simp; (try with_reducible rfl)
        try simp only [Act.put, List.setIfInBounds_toArray, List.set_cons_zero, List.set_cons_succ]
        refine wpAnyK_take (i := 10) (oi := _) (v := ?_) rfl (by kernel_rfl) (by kernel_rfl) (by kernel_rfl) (by kernel_rfl) (fun _ _ _ h => h) (Or.inl ⟨by rfl, ?_⟩) (by assumption) ?_
        rotate_left
        · intro w hSw; (try dsimp only at hSw); go_simp; (try with_reducible rfl)
        try simp only [Act.put, List.setIfInBounds_toArray, List.set_cons_zero, List.set_cons_succ]
        refine wpAnyK_take (i := 11) (oi := _) (v := ?_) rfl (by kernel_rfl) (by kernel_rfl) (by kernel_rfl) (by kernel_rfl) (fun _ _ _ h => h) (Or.inl ⟨by rfl, ?_⟩) (by assumption) ?_
        rotate_left
        · intro w hSw; (try dsimp only at hSw); go_simp; (try with_reducible rfl)
        try simp only [Act.put, List.setIfInBounds_toArray, List.set_cons_zero, List.set_cons_succ]
        refine wpAnyK_take (i := 12) (oi := _) (v := ?_) rfl (by kernel_rfl) (by kernel_rfl) (by kernel_rfl) (by kernel_rfl) (fun _ _ _ h => h) (Or.inl ⟨by rfl, ?_⟩) (by assumption) ?_
        rotate_left
        · intro w hSw; (try dsimp only at hSw); go_simp; (try with_reducible rfl)
        try simp only [Act.put, List.setIfInBounds_toArray, List.set_cons_zero, List.set_cons_succ]
        refine wpAnyK_take (i := 13) (oi := _) (v := ?_) rfl (by kernel_rfl) (by kernel_rfl) (by kernel_rfl) (by kernel_rfl) (fun _ _ _ h => h) (Or.inl ⟨by rfl, ?_⟩) (by assumption) ?_
        rotate_left
        · intro w hSw; (try dsimp only at hSw); go_simp; (try with_reducible rfl)
        try simp only [Act.put, List.setIfInBounds_toArray, List.set_cons_zero, List.set_cons_succ]
        refine wpAnyK_take (i := 14) (oi := _) (v := ?_) rfl (by kernel_rfl) (by kernel_rfl) (by kernel_rfl) (by kernel_rfl) (fun _ _ _ h => h) (Or.inl ⟨by rfl, ?_⟩) (by assumption) ?_
        rotate_left
        · intro w hSw; (try dsimp only at hSw); go_simp; (try with_reducible rfl)
        try simp only [Act.put, List.setIfInBounds_toArray, List.set_cons_zero, List.set_cons_succ]
        refine wpAnyK_take (i := 15) (oi := _) (v := ?_) rfl (by kernel_rfl) (by kernel_rfl) (by kernel_rfl) (by kernel_rfl) (fun _ _ _ h => h) (Or.inl ⟨by rfl, ?_⟩) (by assumption) ?_
        rotate_left
        · intro w hSw; (try dsimp only at hSw); go_simp; (try with_reducible rfl)
        try simp only [Act.put, List.setIfInBounds_toArray, List.set_cons_zero, List.set_cons_succ]
        refine wpAnyK_take (i := 16) (oi := _) (v := ?_) rfl (by kernel_rfl) (by kernel_rfl) (by kernel_rfl) (by kernel_rfl) (fun _ _ _ h => h) (Or.inl ⟨by rfl, ?_⟩) (by assumption) ?_
        rotate_left
        · intro w hSw; (try dsimp only at hSw); go_simp; (try with_reducible rfl)
        try simp only [Act.put, List.setIfInBounds_toArray, List.set_cons_zero, List.set_cons_succ]
        refine wpAnyK_take (i := 17) (oi := _) (v := ?_) rfl (by kernel_rfl) (by kernel_rfl) (by kernel_rfl) (by kernel_rfl) (fun _ _ _ h => h) (Or.inl ⟨by rfl, ?_⟩) (by assumption) ?_
        rotate_left
        · intro w hSw; (try dsimp only at hSw); go_simp; (try with_reducible rfl)
        try simp only [Act.put, List.setIfInBounds_toArray, List.set_cons_zero, List.set_cons_succ]
        refine wpAnyK_take (i := 18) (oi := _) (v := ?_) rfl (by kernel_rfl) (by kernel_rfl) (by kernel_rfl) (by kernel_rfl) (fun _ _ _ h => h) (Or.inl ⟨by rfl, ?_⟩) (by assumption) ?_
        rotate_left
        · intro w hSw; (try dsimp only at hSw); go_simp; (try with_reducible rfl)
        try simp only [Act.put, List.setIfInBounds_toArray, List.set_cons_zero, List.set_cons_succ]
        refine wpAnyK_take (i := 19) (oi := _) (v := ?_) rfl (by kernel_rfl) (by kernel_rfl) (by kernel_rfl) (by kernel_rfl) (fun _ _ _ h => h) (Or.inl ⟨by rfl, ?_⟩) (by assumption) ?_
        rotate_left
        · intro w hSw; (try dsimp only at hSw); go_simp; (try with_reducible rfl)
        try simp only [Act.put, List.setIfInBounds_toArray, List.set_cons_zero, List.set_cons_succ]
        refine wpAnyK_take (i := 20) (oi := _) (v := ?_) rfl (by kernel_rfl) (by kernel_rfl) (by kernel_rfl) (by kernel_rfl) (fun _ _ _ h => h) (Or.inl ⟨by rfl, ?_⟩) (by assumption) ?_
        rotate_left
        · intro w hSw; (try dsimp only at hSw); go_simp; (try with_reducible rfl)
        try simp only [Act.put, List.setIfInBounds_toArray, List.set_cons_zero, List.set_cons_succ]
        refine wpAnyK_take (i := 21) (oi := _) (v := ?_) rfl (by kernel_rfl) (by kernel_rfl) (by kernel_rfl) (by kernel_rfl) (fun _ _ _ h => h) (Or.inl ⟨by rfl, ?_⟩) (by assumption) ?_
        rotate_left
        · intro w hSw; (try dsimp only at hSw); go_simp; (try with_reducible rfl)
        try simp only [Act.put, List.setIfInBounds_toArray, List.set_cons_zero, List.set_cons_succ]
        refine wpAnyK_take (i := 23) (oi := _) (v := ?_) rfl (by kernel_rfl) (by kernel_rfl) (by kernel_rfl) (by kernel_rfl) (fun _ _ _ h => h) (Or.inl ⟨by rfl, ?_⟩) (by assumption) ?_
        rotate_left
        · intro w hSw; (try dsimp only at hSw); go_simp; (try with_reducible rfl)
        try simp only [Act.put, List.setIfInBounds_toArray, List.set_cons_zero, List.set_cons_succ]
        refine wpAnyK_one (i := 22) (o := _) (by kernel_rfl) rfl (fun K hK => ?_)
        go_simp
        (go_at_call 36; (with_reducible refine (unhide hBh _ x1 y1 hx8 hy8).mono ?_); rintro e w6 ⟨rfl, rfl⟩; go_wp2_with fail)
        refine hK.out _ _ (by exact ⟨(unhide HSV).1, (unhide HSV).2.1, (unhide HSV).2.2.1, (unhide HSV).2.2.2.1, (unhide HSV).2.2.2.2, rfl⟩) (fun hHeld => ?_)
        clear hK K
        refine wpAnyK_take (i := 24) (oi := _) (v := ?_) rfl (by kernel_rfl) (by kernel_rfl) (by kernel_rfl) (by kernel_rfl) (fun _ _ _ h => h) (Or.inl ⟨by rfl, ?_⟩) (by assumption) ?_
        rotate_left
        · intro w hSw; (try dsimp only at hSw); go_simp; (try with_reducible rfl)
        try simp only [Act.put, List.setIfInBounds_toArray, List.set_cons_zero, List.set_cons_succ]
        refine wpAnyK_take (i := 25) (oi := _) (v := ?_) rfl (by kernel_rfl) (by kernel_rfl) (by kernel_rfl) (by kernel_rfl) (fun _ _ _ h => h) (Or.inl ⟨by rfl, ?_⟩) (by assumption) ?_
        rotate_left
        · intro w hSw; (try dsimp only at hSw); go_simp; (try with_reducible rfl)
        try simp only [Act.put, List.setIfInBounds_toArray, List.set_cons_zero, List.set_cons_succ]
        refine wpAnyK_take (i := 26) (oi := _) (v := ?_) rfl (by kernel_rfl) (by kernel_rfl) (by kernel_rfl) (by kernel_rfl) (fun _ _ _ h => h) (Or.inl ⟨by rfl, ?_⟩) (by assumption) ?_
        rotate_left
        · intro w hSw; (try dsimp only at hSw); go_simp; (try with_reducible rfl)
        try simp only [Act.put, List.setIfInBounds_toArray, List.set_cons_zero, List.set_cons_succ]
        refine wpAnyK_end (o := _) (by kernel_rfl) rfl (fun K hK => ?_)
        go_simp
        refine hK.out _ _ ?_
        clear hK K
        refine wpAnyK_done (by kernel_rfl) ?_ _
        clear hHeld
        go_wp2_with fail
        go_returns
        exact ⟨rfl, unhide HST1, ((unhide KM2).drew).setCell (by simp) _⟩
      · have hEi : ¬ ((sf1 : Int) + (n : Int)) % 8 = 0 := by omega
        rw [← unhide hor hE] at c2e
        clear hE hor hor0
        generalize trl ((sf1 + n) % 8) = te at *
        go_upto_region 15 with (fail)
        clear c2e
        refine wp_region_K (S := fun W' => W'.cell? ⟨G, q + (nb - 1), none⟩ = some (.int .u8 ((o1 : Nat) : Int)) ∧ W'.cell? ⟨b0, 1, none⟩ = some (fnV 36) ∧ W'.cell? ⟨S1, A1 + (nb - 1), none⟩ = some (.int .u8 ((x1 : Nat) : Int)) ∧ W'.cell? ⟨S2, A2 + (nb - 1), none⟩ = some (.int .u8 ((y1 : Nat) : Int)) ∧ W'.frozen? ⟨G, q + (nb - 1), none⟩ = false ∧ W' = wc.drew) (k := 27) (by kernel_rfl) ⟨c2o, c2k, c2x, c2y, f2o, rfl⟩ (fun hHeld => ?_)
        have HSV := hide (⟨hHeld.1, hHeld.2.1, hHeld.2.2.1, hHeld.2.2.2.1, hHeld.2.2.2.2.1⟩ : _ ∧ _ ∧ _ ∧ _ ∧ _)
        refine wpAnyK_take (i := 0) (oi := _) (v := ?_) rfl (by kernel_rfl) (by kernel_rfl) (by kernel_rfl) (by kernel_rfl) (fun _ _ _ h => h) (Or.inl ⟨by rfl, ?_⟩) (by assumption) ?_
        rotate_left
        · intro w hSw; (try dsimp only at hSw); go_simp; (try with_reducible rfl)
        try simp only [Act.put, List.setIfInBounds_toArray, List.set_cons_zero, List.set_cons_succ]
        refine wpAnyK_take (i := 1) (oi := _) (v := ?_) rfl (by kernel_rfl) (by kernel_rfl) (by kernel_rfl) (by kernel_rfl) (fun _ _ _ h => h) (Or.inl ⟨by rfl, ?_⟩) (by assumption) ?_
        rotate_left
        · intro w hSw; (try dsimp only at hSw); go_simp; (try with_reducible rfl)
        try simp only [Act.put, List.setIfInBounds_toArray, List.set_cons_zero, List.set_cons_succ]
        refine wpAnyK_take (i := 2) (oi := _) (v := ?_) rfl (by kernel_rfl) (by kernel_rfl) (by kernel_rfl) (by kernel_rfl) (fun _ _ _ h => h) (Or.inl ⟨by rfl, ?_⟩) (by assumption) ?_
        rotate_left
        · intro w hSw; (try dsimp only at hSw); go_simp; (try with_reducible rfl)
        try simp only [Act.put, List.setIfInBounds_toArray, List.set_cons_zero, List.set_cons_succ]
        refine wpAnyK_take (i := 3) (oi := _) (v := ?_) rfl (by kernel_rfl) (by kernel_rfl) (by kernel_rfl) (by kernel_rfl) (fun _ _ _ h => h) (Or.inl ⟨by rfl, ?_⟩) (by assumption) ?_
        rotate_left
        · intro w hSw; (try dsimp only at hSw); go_simp; (try with_reducible rfl)
        try simp only [Act.put, List.setIfInBounds_toArray, List.set_cons_zero, List.set_cons_succ]
        refine wpAnyK_take (i := 4) (oi := _) (v := ?_) rfl (by kernel_rfl) (by kernel_rfl) (by kernel_rfl) (by kernel_rfl) (fun _ _ _ h => h) (Or.inl ⟨by rfl, ?_⟩) (by assumption) ?_
        rotate_left
        · intro w hSw; (try dsimp only at hSw); go_simp; (try with_reducible rfl)
        try simp only [Act.put, List.setIfInBounds_toArray, List.set_cons_zero, List.set_cons_succ]
        refine wpAnyK_take (i := 5) (oi := _) (v := ?_) rfl (by kernel_rfl) (by kernel_rfl) (by kernel_rfl) (by kernel_rfl) (fun _ _ _ h => h) (Or.inl ⟨by rfl, ?_⟩) (by assumption) ?_
        rotate_left
        · intro w hSw; (try dsimp only at hSw); go_simp; (try with_reducible rfl)
        try simp only [Act.put, List.setIfInBounds_toArray, List.set_cons_zero, List.set_cons_succ]
        refine wpAnyK_take (i := 6) (oi := _) (v := ?_) rfl (by kernel_rfl) (by kernel_rfl) (by kernel_rfl) (by kernel_rfl) (fun _ _ _ h => h) (Or.inl ⟨by rfl, ?_⟩) (by assumption) ?_
        rotate_left
        · intro w hSw; (try dsimp only at hSw); go_simp; (try with_reducible rfl)
        try simp only [Act.put, List.setIfInBounds_toArray, List.set_cons_zero, List.set_cons_succ]
        refine wpAnyK_take (i := 7) (oi := _) (v := ?_) rfl (by kernel_rfl) (by kernel_rfl) (by kernel_rfl) (by kernel_rfl) (fun _ _ _ h => h) (Or.inl ⟨by rfl, ?_⟩) (by assumption) ?_
        rotate_left
        · intro w hSw; (try dsimp only at hSw); go_simp; (try with_reducible rfl)
        try simp only [Act.put, List.setIfInBounds_toArray, List.set_cons_zero, List.set_cons_succ]
        refine wpAnyK_take (i := 8) (oi := _) (v := ?_) rfl (by kernel_rfl) (by kernel_rfl) (by kernel_rfl) (by kernel_rfl) (fun _ _ _ h => h) (Or.inl ⟨by rfl, ?_⟩) (by assumption) ?_
        rotate_left
        · intro w hSw; (try dsimp only at hSw); go_simp; (try with_reducible rfl)
        try simp only [Act.put, List.setIfInBounds_toArray, List.set_cons_zero, List.set_cons_succ]
        refine wpAnyK_take (i := 9) (oi := _) (v := ?_) rfl (by kernel_rfl) (by kernel_rfl) (by kernel_rfl) (by kernel_rfl) (fun _ _ _ h => h) (Or.inl ⟨by rfl, ?_⟩) (by assumption) ?_
        rotate_left
        · intro w hSw; (try dsimp only at hSw); go_simp; (try with_reducible rfl)
        try simp only [Act.put, List.setIfInBounds_toArray, List.set_cons_zero, List.set_cons_succ]
        refine wpAnyK_take (i := 10) (oi := _) (v := ?_) rfl (by kernel_rfl) (by kernel_rfl) (by kernel_rfl) (by kernel_rfl) (fun _ _ _ h => h) (Or.inl ⟨by rfl, ?_⟩) (by assumption) ?_
        rotate_left
        · intro w hSw; (try dsimp only at hSw); go_simp; (try with_reducible rfl)
        try simp only [Act.put, List.setIfInBounds_toArray, List.set_cons_zero, List.set_cons_succ]
        refine wpAnyK_take (i := 11) (oi := _) (v := ?_) rfl (by kernel_rfl) (by kernel_rfl) (by kernel_rfl) (by kernel_rfl) (fun _ _ _ h => h) (Or.inl ⟨by rfl, ?_⟩) (by assumption) ?_
        rotate_left
        · intro w hSw; (try dsimp only at hSw); go_simp; (try with_reducible rfl)
        try simp only [Act.put, List.setIfInBounds_toArray, List.set_cons_zero, List.set_cons_succ]
        refine wpAnyK_take (i := 12) (oi := _) (v := ?_) rfl (by kernel_rfl) (by kernel_rfl) (by kernel_rfl) (by kernel_rfl) (fun _ _ _ h => h) (Or.inl ⟨by rfl, ?_⟩) (by assumption) ?_
        rotate_left
        · intro w hSw; (try dsimp only at hSw); go_simp; (try with_reducible rfl)
        try simp only [Act.put, List.setIfInBounds_toArray, List.set_cons_zero, List.set_cons_succ]
        refine wpAnyK_take (i := 13) (oi := _) (v := ?_) rfl (by kernel_rfl) (by kernel_rfl) (by kernel_rfl) (by kernel_rfl) (fun _ _ _ h => h) (Or.inl ⟨by rfl, ?_⟩) (by assumption) ?_
        rotate_left
        · intro w hSw; (try dsimp only at hSw); go_simp; (try with_reducible rfl)
        try simp only [Act.put, List.setIfInBounds_toArray, List.set_cons_zero, List.set_cons_succ]
        refine wpAnyK_take (i := 14) (oi := _) (v := ?_) rfl (by kernel_rfl) (by kernel_rfl) (by kernel_rfl) (by kernel_rfl) (fun _ _ _ h => h) (Or.inl ⟨by rfl, ?_⟩) (by assumption) ?_
        rotate_left
        · intro w hSw; (try dsimp only at hSw); go_simp; (try with_reducible rfl)
        try simp only [Act.put, List.setIfInBounds_toArray, List.set_cons_zero, List.set_cons_succ]
        refine wpAnyK_take (i := 15) (oi := _) (v := ?_) rfl (by kernel_rfl) (by kernel_rfl) (by kernel_rfl) (by kernel_rfl) (fun _ _ _ h => h) (Or.inl ⟨by rfl, ?_⟩) (by assumption) ?_
        rotate_left
        · intro w hSw; (try dsimp only at hSw); go_simp; (try with_reducible rfl)
        try simp only [Act.put, List.setIfInBounds_toArray, List.set_cons_zero, List.set_cons_succ]
        refine wpAnyK_take (i := 16) (oi := _) (v := ?_) rfl (by kernel_rfl) (by kernel_rfl) (by kernel_rfl) (by kernel_rfl) (fun _ _ _ h => h) (Or.inl ⟨by rfl, ?_⟩) (by assumption) ?_
        rotate_left
        · intro w hSw; (try dsimp only at hSw); go_simp; (try with_reducible rfl)
        try simp only [Act.put, List.setIfInBounds_toArray, List.set_cons_zero, List.set_cons_succ]
        refine wpAnyK_take (i := 17) (oi := _) (v := ?_) rfl (by kernel_rfl) (by kernel_rfl) (by kernel_rfl) (by kernel_rfl) (fun _ _ _ h => h) (Or.inl ⟨by rfl, ?_⟩) (by assumption) ?_
        rotate_left
        · intro w hSw; (try dsimp only at hSw); go_simp; (try with_reducible rfl)
        try simp only [Act.put, List.setIfInBounds_toArray, List.set_cons_zero, List.set_cons_succ]
        refine wpAnyK_take (i := 18) (oi := _) (v := ?_) rfl (by kernel_rfl) (by kernel_rfl) (by kernel_rfl) (by kernel_rfl) (fun _ _ _ h => h) (Or.inl ⟨by rfl, ?_⟩) (by assumption) ?_
        rotate_left
        · intro w hSw; (try dsimp only at hSw); go_simp; (try with_reducible rfl)
        try simp only [Act.put, List.setIfInBounds_toArray, List.set_cons_zero, List.set_cons_succ]
        refine wpAnyK_take (i := 19) (oi := _) (v := ?_) rfl (by kernel_rfl) (by kernel_rfl) (by kernel_rfl) (by kernel_rfl) (fun _ _ _ h => h) (Or.inl ⟨by rfl, ?_⟩) (by assumption) ?_
        rotate_left
        · intro w hSw; (try dsimp only at hSw); go_simp; (try with_reducible rfl)
        try simp only [Act.put, List.setIfInBounds_toArray, List.set_cons_zero, List.set_cons_succ]
        refine wpAnyK_take (i := 20) (oi := _) (v := ?_) rfl (by kernel_rfl) (by kernel_rfl) (by kernel_rfl) (by kernel_rfl) (fun _ _ _ h => h) (Or.inl ⟨by rfl, ?_⟩) (by assumption) ?_
        rotate_left
        · intro w hSw; (try dsimp only at hSw); go_simp; (try with_reducible rfl)
        try simp only [Act.put, List.setIfInBounds_toArray, List.set_cons_zero, List.set_cons_succ]
        refine wpAnyK_take (i := 21) (oi := _) (v := ?_) rfl (by kernel_rfl) (by kernel_rfl) (by kernel_rfl) (by kernel_rfl) (fun _ _ _ h => h) (Or.inl ⟨by rfl, ?_⟩) (by assumption) ?_
        rotate_left
        · intro w hSw; (try dsimp only at hSw); go_simp; (try with_reducible rfl)
        try simp only [Act.put, List.setIfInBounds_toArray, List.set_cons_zero, List.set_cons_succ]
        refine wpAnyK_take (i := 23) (oi := _) (v := ?_) rfl (by kernel_rfl) (by kernel_rfl) (by kernel_rfl) (by kernel_rfl) (fun _ _ _ h => h) (Or.inl ⟨by rfl, ?_⟩) (by assumption) ?_
        rotate_left
        · intro w hSw; (try dsimp only at hSw); go_simp; (try with_reducible rfl)
        try simp only [Act.put, List.setIfInBounds_toArray, List.set_cons_zero, List.set_cons_succ]
        refine wpAnyK_one (i := 22) (o := _) (by kernel_rfl) rfl (fun K hK => ?_)
        go_simp
        (go_at_call 36; (with_reducible refine (unhide hBh _ x1 y1 hx8 hy8).mono ?_); rintro e w6 ⟨rfl, rfl⟩; go_wp2_with fail)
        refine hK.out _ _ (by exact ⟨(unhide HSV).1, (unhide HSV).2.1, (unhide HSV).2.2.1, (unhide HSV).2.2.2.1, (unhide HSV).2.2.2.2, rfl⟩) (fun hHeld => ?_)
        clear hK K
        refine wpAnyK_take (i := 24) (oi := _) (v := ?_) rfl (by kernel_rfl) (by kernel_rfl) (by kernel_rfl) (by kernel_rfl) (fun _ _ _ h => h) (Or.inl ⟨by rfl, ?_⟩) (by assumption) ?_
        rotate_left
        · intro w hSw; (try dsimp only at hSw); go_simp; (try with_reducible rfl)
        try simp only [Act.put, List.setIfInBounds_toArray, List.set_cons_zero, List.set_cons_succ]
        refine wpAnyK_take (i := 25) (oi := _) (v := ?_) rfl (by kernel_rfl) (by kernel_rfl) (by kernel_rfl) (by kernel_rfl) (fun _ _ _ h => h) (Or.inl ⟨by rfl, ?_⟩) (by assumption) ?_
        rotate_left
        · intro w hSw; (try dsimp only at hSw); go_simp; (try with_reducible rfl)
        try simp only [Act.put, List.setIfInBounds_toArray, List.set_cons_zero, List.set_cons_succ]
        refine wpAnyK_take (i := 26) (oi := _) (v := ?_) rfl (by kernel_rfl) (by kernel_rfl) (by kernel_rfl) (by kernel_rfl) (fun _ _ _ h => h) (Or.inl ⟨by rfl, ?_⟩) (by assumption) ?_
        rotate_left
        · intro w hSw; (try dsimp only at hSw); go_simp; (try with_reducible rfl)
        try simp only [Act.put, List.setIfInBounds_toArray, List.set_cons_zero, List.set_cons_succ]
        refine wpAnyK_end (o := _) (by kernel_rfl) rfl (fun K hK => ?_)
        go_simp
        refine hK.out _ _ ?_
        clear hK K
        refine wpAnyK_done (by kernel_rfl) ?_ _
        clear hHeld
        go_wp2_with fail
        go_returns
        exact ⟨rfl, unhide HST1, ((unhide KM2).drew).setCell (by simp) _⟩
theorem alig_0 (w : World) (B S1 S2 G N cap so1 sn1 sc1 sf1 so2 sn2 sc2 sf2 f n : Nat) (sb1 sb2 d : List Nat) (l1 l2 : List Bool)
    (hS1 : Small sb1) (hS2 : Small sb2) (hD : Small d) (hd : d.length = N) (hN : N ≤ 4096) (hfn : f + n ≤ 8 * N) (hn0 : 0 < (f % 8 + n + 7) / 8) (hcap : N ≤ cap) (hGz : G ≠ 0) (hGo : G ≠ 1) (hG1 : S1 ≠ G) (hG2 : S2 ≠ G)
    (hsf1 : sf1 < 65536) (he1 : sf1 % 8 = f % 8) (hsn1 : sf1 / 8 + (sf1 % 8 + n + 7) / 8 ≤ sn1) (hsc1 : sn1 ≤ sc1) (hsb1 : so1 + sf1 / 8 + (sf1 % 8 + n + 7) / 8 ≤ sb1.length) (hl1 : ∀ j, j < n → l1.getD j false = bitAt sb1 (8 * (so1 + sf1 / 8) + sf1 % 8 + j))
    (hsf2 : sf2 < 65536) (he2 : sf2 % 8 = f % 8) (hsn2 : sf2 / 8 + (sf2 % 8 + n + 7) / 8 ≤ sn2) (hsc2 : sn2 ≤ sc2) (hsb2 : so2 + sf2 / 8 + (sf2 % 8 + n + 7) / 8 ≤ sb2.length) (hl2 : ∀ j, j < n → l2.getD j false = bitAt sb2 (8 * (so2 + sf2 / 8) + sf2 % 8 + j))
    (hP : Prc w) (hT : Trl w) (hr1 : Rdb w S1 sb1 so1) (hr2 : Rdb w S2 sb2 so2) (hown : w.ownsRow B 5 1 (.slice (some ⟨G, 0, none⟩) N cap) N (bv d)) :
    Calls Tryd.prog 33 #[.agg #[fnV 35, fnV 36, fnV 37], .slice (some ⟨S1, so1, none⟩) sn1 sc1, .slice (some ⟨S2, so2, none⟩) sn2 sc2, .int .i64 sf1, .int .i64 sf2, .slice (some ⟨G, 0, none⟩) N cap, .int .i64 f, .int .i64 n] w fun e w' =>
      e = .returned (.tuple #[]) ∧ w'.ownsRow B 5 1 (.slice (some ⟨G, 0, none⟩) N cap) N (bv (chgN d f (cmbL 0 l1 l2 n) n)) ∧ Mod [G] w w' := by
  have hnbr : (f % 8 + n + 7) / 8 = 1 ∨ (f % 8 + n + 7) / 8 = 2 ∨ 3 ≤ (f % 8 + n + 7) / 8 := by omega
  have a1 := @aligA_0 w B S1 S2 G N cap so1 sn1 sc1 sf1 so2 sn2 sc2 sf2 f n sb1 sb2 d l1 l2 hS1 hS2 hD hd hN hfn
  have a2 := @aligB_0 w B S1 S2 G N cap so1 sn1 sc1 sf1 so2 sn2 sc2 sf2 f n sb1 sb2 d l1 l2 hS1 hS2 hD hd hN hfn
  have a3 := @aligC_0 w B S1 S2 G N cap so1 sn1 sc1 sf1 so2 sn2 sc2 sf2 f n sb1 sb2 d l1 l2 hS1 hS2 hD hd hN hfn
  rcases hnbr with h | h | h
  · exact a1 h hcap hGz hGo hG1 hG2 hsf1 he1 hsn1 hsc1 hsb1 hl1 hsf2 he2 hsn2 hsc2 hsb2 hl2 hP hT hr1 hr2 hown
  · exact a2 h hcap hGz hGo hG1 hG2 hsf1 he1 hsn1 hsc1 hsb1 hl1 hsf2 he2 hsn2 hsc2 hsb2 hl2 hP hT hr1 hr2 hown
  · exact a3 h hcap hGz hGo hG1 hG2 hsf1 he1 hsn1 hsc1 hsb1 hl1 hsf2 he2 hsn2 hsc2 hsb2 hl2 hP hT hr1 hr2 hown
end Go.Proofs.YtjfbojmeccdchaaDoor
