/- Fields of arrow's. (YtconkcjcjdmidaaGreatDoor) -/
import Derived.Test.YtconkcjcjdmidaaGreatDoorTE
import Derived.OwnWalk
set_option linter.unusedVariables false
set_option linter.unusedSimpArgs false
namespace Go.Proofs.YtconkcjcjdmidaaGreatDoor
open Go.RowKit Go.ChangeShapes Go.WideShapes Go.ChangeAt Go
/-- one of arrow's fields. -/
structure Ar where
  nm : ByteArray
  tid : TypeId
  p : Addr
  nl : Bool
  A : Option Addr
  A' : Option Addr
  c : Nat
  c' : Nat
abbrev Ar.cells (r : Ar) : List Value := [.string r.nm, .iface r.tid (.pointer (some r.p)), .bool r.nl, .slice r.A 0 r.c, .slice r.A' 0 r.c']
def dA : Ar := ⟨⟨#[]⟩, 0, ⟨0, 0, none⟩, false, none, none, 0, 0⟩
def rowsA (l : List Ar) : List Value := l.flatMap Ar.cells
theorem rowsA_len (l : List Ar) : (rowsA l).length = l.length * 5 := by
  induction l with
  | nil => rfl
  | cons r l ih => simp only [rowsA, List.flatMap_cons, List.length_append] at ih ⊢; rw [ih]; simp; omega
theorem rowsA_snoc (l : List Ar) (r : Ar) : rowsA (l ++ [r]) = rowsA l ++ r.cells := by simp [rowsA]
theorem info_af : (Tryz.prog.info? 67).map (fun i => (i.zero, i.size, i.bytes)) = some (some (.agg #[.string ⟨#[]⟩, .nilIface, .bool false, .slice none 0 0, .slice none 0 0]), 5, 88) := by kernel_rfl
/-- they say what the fields that came in say. -/
def Like (w0 : World) (a : Option Addr) (l : List Ar) : Prop := ∀ j, j < l.length → (l.getD j dA).nm = (fAt w0 a j).nm ∧ (l.getD j dA).nl = (fAt w0 a j).nl
theorem Like.snoc {w0 : World} {a : Option Addr} {l : List Ar} {r : Ar} (h : Like w0 a l) (h1 : r.nm = (fAt w0 a l.length).nm) (h2 : r.nl = (fAt w0 a l.length).nl) : Like w0 a (l ++ [r]) := by
  intro j hj
  simp only [List.length_append, List.length_singleton] at hj
  rcases Nat.lt_or_ge j l.length with h3 | h3
  · have := h j h3
    rwa [List.getD_eq_getElem?_getD, List.getElem?_append_left h3, ← List.getD_eq_getElem?_getD]
  · obtain rfl : j = l.length := by omega
    rw [List.getD_eq_getElem?_getD, List.getElem?_append_right (Nat.le_refl _)]
    simp [h1, h2]
def PAfs (w0 : World) (a : Option Addr) (n : Nat) (w : World) (e : Ending) (w' : World) : Prop :=
  ∃ (v : Value) (l : List Ar), e = .returned v ∧ l.length = n ∧ Like w0 a l ∧ w'.ownsRow w.heap.size 67 5 v n (rowsA l) ∧ Below w.heap.size w w'
def AFR (w0 : World) (a : Option Addr) (n : Nat) (w : World) (v3 v8 : Value) (wr : World) : Prop :=
  ∃ l : List Ar, v8 = .int .i64 (l.length : Int) ∧ l.length ≤ n ∧ Like w0 a l ∧ wr.ownsRow w.heap.size 67 5 v3 l.length (rowsA l) ∧ Below w.heap.size w wr
theorem new_cells (W : World) (cs : Array Value) (t : TypeId) (l : List Value) (h : l = cs.toList) : ∀ j u, l[j]? = some u → (W.alloc (.cells cs t)).cell? ((⟨W.heap.size, 0, none⟩ : Addr).add j) = some u := by
  subst h
  intro j u hu
  have e : (⟨W.heap.size, 0, none⟩ : Addr).add j = ⟨W.heap.size, 0 + j, none⟩ := by unfold Addr.add; split <;> simp_all
  rw [e, Nat.zero_add, (Blk.new (w := W) (g := W.heap.size) t cs rfl).cell j]
  simpa using hu
theorem af_below {w wr w2 w4 : World} {v : Value} {k : Nat} {xs : List Value} {o1 o2 : Obj} (hB : Below w.heap.size w wr) (hBn : Below w.heap.size w (wr.alloc o1)) (hb2 : Below (wr.alloc o1).heap.size (wr.alloc o1) w2) (hown : wr.ownsRow w.heap.size 67 5 v k xs) (hg : (w2.alloc o2).grownBy w4 v.ownBlock) : Below w.heap.size w w4 := by
  have h3 := below_tr hBn hb2 hBn.size
  refine (h3.alloc h3.size o2).grown hg (h3.alloc h3.size o2).size ?_
  intro b hb
  exact (own_lt hown hb).1
set_option maxRecDepth 100000 in
set_option maxHeartbeats 4000000 in
theorem arrowFields_of (w0 w : World) (a : Option Addr) (n c : Nat) (hs : Fs w0 a n c) (hb : Below w0.heap.size w0 w) (hn : n ≤ 1000)
    (hT : ∀ (k : Nat), k < n → ∀ W : World, Below w.heap.size w W → Calls Tryz.prog 27 #[.agg (fAt w0 a k).row] W (PAf W (fAt w0 a k))) :
    Calls Tryz.prog 20 #[.slice a n c] w (PAfs w0 a n w) := by
  have hsz := hb.size
  have h00 := hide (show AFR w0 a n w (.slice none 0 0) (.int .i64 0) w from ⟨[], rfl, by simp, fun j hj => absurd hj (by simp), World.ownsRow_nil _ _ _ _, Below.refl _ _⟩)
  rcases Nat.eq_zero_or_pos n with hz | hz
  · subst hz
    have hF := hide (show PAfs w0 a 0 w (.returned (.slice none 0 0)) w from ⟨_, [], rfl, rfl, fun j hj => absurd hj (by simp), World.ownsRow_nil _ _ _ _, Below.refl _ _⟩)
    clear hT h00 hb hs
    go_enter Tryz.func20, Tryz.ntmps20
    go_wp2_with fail
    refine wp_loop_rounds 1 ?_
    rw [rounds_succ]
    go_wp2_with fail
    go_ret
    exact unhide hF
  · obtain ⟨b, o, rfl, hcs⟩ := hs.base hz
    have hC := hide (fun (W : World) (hB : Below w.heap.size w W) (k : Nat) (hk : k < n) => hcs W (below_tr hb hB hsz) k hk)
    replace hT := hide hT
    clear hcs hs hb
    obtain ⟨i0, hi, hz0, hz1, hz2⟩ := info_parts info_af
    go_enter Tryz.func20, Tryz.ntmps20
    go_wp2_with fail
    go_loopw [3, 8] (AFR w0 (some ⟨b, o, none⟩) n w) (fun _ v _ => n - (intOf v).toNat)
    case atStart => exact unhide h00
    case round =>
      obtain ⟨l, rfl, hl, hlk, hown, hB⟩ := hrel
      by_cases hlt : l.length < n
      · obtain ⟨hfc, hns⟩ := (unhide hC) wr hB l.length hlt
        have hBn := hB.alloc hB.size (.cells (fAt w0 (some ⟨b, o, none⟩) l.length).row 32)
        have hcall := (unhide hT) l.length hlt _ hBn
        have hlt' : (l.length : Int) < (n : Int) := by omega
        have hw1 : IntKind.i64.wrap ((l.length : Int) + 1) = (l.length : Int) + 1 := (IntWalk.i64_left _).trans (IntWalk.wrap64_in _ (by omega))
        generalize hfe : fAt w0 (some ⟨b, o, none⟩) l.length = f at hfc hcall hns hBn
        replace hcall := hide hcall
        obtain ⟨d0, d1, d2, d3, d4, d5, d6, d7, d8, d9, d10, d11, d12⟩ := hfc
        have hnx := hide (fun (w2 w4 : World) (v' : Value) (tid : TypeId) (p : Addr) (A A' : Option Addr) (c1 c2 : Nat) (hb2 : Below (wr.alloc (.cells f.row 32)).heap.size (wr.alloc (.cells f.row 32)) w2) (ho : w4.ownsRow w.heap.size 67 5 v' (l.length + 1) (rowsA l ++ [.string f.nm, .iface tid (.pointer (some p)), .bool f.nl, .slice A 0 c1, .slice A' 0 c2]))
            (hg : (w2.alloc (.cells #[.string f.nm, .iface tid (.pointer (some p)), .bool f.nl, .slice A 0 c1, .slice A' 0 c2] 67)).grownBy w4 u3.ownBlock) =>
          (show AFR w0 (some ⟨b, o, none⟩) n w v' (.int .i64 ((l.length : Int) + 1)) w4 from
            ⟨l ++ [⟨f.nm, tid, p, f.nl, A, A', c1, c2⟩], by simp, by simp; omega, hlk.snoc (by rw [hfe]) (by rw [hfe]), by rw [rowsA_snoc]; simpa using ho,
              af_below hB hBn hb2 hown hg⟩))
        have hown' := hide (fun (w2 : World) (o : Obj) (hb2 : Below (wr.alloc (.cells f.row 32)).heap.size (wr.alloc (.cells f.row 32)) w2) => (own_below (hown.alloc (.cells f.row 32)) hb2).alloc o)
        have hle := hide (fun (w2 : World) (o : Obj) (hb2 : Below (wr.alloc (.cells f.row 32)).heap.size (wr.alloc (.cells f.row 32)) w2) => (show w.heap.size ≤ (w2.alloc o).heap.size from by have h1 := hb2.size; have h2 := hB.size; simp at h1 ⊢; omega))
        have hl1000 : l.length ≤ 1000 := by omega
        clear hfe hlk hB hBn hC hT hown
        go_wp2_with (first
          | (go_at_call 27; (with_reducible refine (unhide hcall).mono ?_); rintro e w2 ⟨tid, p, A, A', c1, c2, rfl, hb2⟩)
          | (at_builtin; refine wpList_append_own _ rfl _ _ 52 rfl w.heap.size 67 i0 _ 5 88 Tryz.underlying52 hi hz0 hz1 hz2 rfl (by decide) _ _ _ rfl (unhide hown' w2 _ hb2) ⟨w2.heap.size, 0, none⟩ 1 1 [.string f.nm, .iface tid (.pointer (some p)), .bool f.nl, .slice A 0 c1, .slice A' 0 c2] rfl rfl (new_cells _ _ _ _ rfl) (by intro u hu; simp at hu; rcases hu with rfl | rfl | rfl | rfl | rfl <;> rfl) (by unfold maxLen; omega) (by omega) (unhide hle w2 _ hb2) ?_; intro v' w4 hown4 hgrow4 hnil4)
          | fail)
        exact ⟨unhide hnx w2 w4 v' tid p A A' c1 c2 hb2 hown4 hgrow4, by show n - (intOf (Value.int IntKind.i64 ((l.length : Int) + 1))).toNat < n - (intOf (Value.int IntKind.i64 (l.length : Int))).toNat; simp only [intOf]; omega⟩
      · have hlt' : ¬ (l.length : Int) < (n : Int) := by omega
        have hF := hide (show PAfs w0 (some ⟨b, o, none⟩) n w (.returned u3) wr from ⟨_, l, rfl, by omega, hlk, by rw [show n = l.length by omega]; exact hown, hB⟩)
        clear hown hB hlk hC hT
        go_wp2_with fail
        go_ret
        exact unhide hF
end Go.Proofs.YtconkcjcjdmidaaGreatDoor
