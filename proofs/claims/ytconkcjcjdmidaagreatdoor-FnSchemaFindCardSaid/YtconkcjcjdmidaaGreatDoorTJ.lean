/- Maps of lists of places; rows of fields. (YtconkcjcjdmidaaGreatDoor) -/
import Derived.Test.YtconkcjcjdmidaaGreatDoorTF
import Derived.Test.YtconkcjcjdmidaaGreatDoorLJ
import Derived.Maps.OwnRows
import Derived.Maps.GroupsBeside
import Derived.Laws.MakeOwn
import Derived.Laws.CopyOwn
set_option linter.unusedVariables false
set_option linter.unusedSimpArgs false
namespace Go
open Go.ChangeMaps Go.MapKept Go.ChangeShapes Go.RowKit
open Go.WideElems (Fit rd rg pl rd_val elemAt)
open Go.Maps (Keyed)
namespace Proofs.YtconkcjcjdmidaaGreatDoor
section
variable {P : Program} {w : World} {base b n : Nat} {e k : TypeId} {q : IntKind} {D : DataW Unit}
/-- what a look-up gives, in all worlds that hold the same map. -/
theorem groups_look {t E : TypeId} {key : Value} {kl : Lit} (c : Bool) (h : w.ownsGroups P k base e q b n D) (K : Keyed P k) (ht : P.underlying t = some (.map k E)) (hz : ∀ W : World, (zeroValue E).run P W = .ok (.slice none 0 0) W) (hn : n < maxLen) (hkey : keyOf P k key = some kl) :
    ∃ v zs ok, (∀ W : World, W.heap[b]? = w.heap[b]? → (Instr.lookup t (.map (some b)) key c).run P W = .ok (if c then .tuple #[v, .bool ok] else v) W) ∧ D.atKey kl .nil = rowDatum q v zs ∧ w.ownsInts base e q v zs ∧ zs.length ≤ n ∧ w.groupBack P t k base e q b n D key kl v ∧ (∀ g, v.ownBlock = some g → base ≤ g) := by
  obtain ⟨es, clock, hb, F, hs, rfl, hbb, hlen, hap⟩ := h
  by_cases hx : ∃ x ∈ es.toList, x.key = key
  · obtain ⟨e0, hm0, h3⟩ := hx
    have huniq : ∀ x ∈ es.toList, x.key = key → x = e0 := fun x hx hk => by
      have hp := ((stamped_iff es clock).1 F.stamped).2.2
      rcases List.pairwise_iff_getElem.1 hp with hp
      obtain ⟨i, hi, rfl⟩ := List.mem_iff_getElem.1 hx
      obtain ⟨j, hj, rfl⟩ := List.mem_iff_getElem.1 hm0
      rcases Nat.lt_trichotomy i j with h | h | h
      · exact absurd (hk.trans h3.symm) (hp i j hi hj h)
      · subst h; rfl
      · exact absurd (h3.trans hk.symm) (hp j i hj hi h)
    have look : ∀ W : World, W.heap[b]? = w.heap[b]? → (Instr.lookup t (.map (some b)) key c).run P W = .ok (if c then .tuple #[e0.val, .bool true] else e0.val) W := fun W hW => by
      rcases Maps.fit_look (R := rowElem (H := Unit) w base e q) c K ht (hz W) (hW.trans hb) F hkey with ⟨_, h2, _⟩ | ⟨e1, y, hm1, h4, hrun, _⟩
      · exact absurd h3 (h2 e0 hm0)
      · rw [huniq e1 hm1 h4] at hrun
        exact hrun
    rcases Maps.fit_look false K ht (hz w) hb F hkey with ⟨_, h2, _⟩ | ⟨e1, y, hm1, h4, _, hR, hat, _⟩
    · exact absurd h3 (h2 e0 hm0)
    · have he := huniq e1 hm1 h4
      subst he
      obtain ⟨zs, ho, rfl⟩ := rowElem_inv hR
      refine ⟨e1.val, zs, true, look, hat _, ho, hlen e1 hm1 zs ho, groups_back K ht hb F hs hn hbb hlen hap hkey (fun x hx hne => hap x hx e1 hm1 (by rw [h4]; exact hne)) (fun e2 => ?_), fun g hg => (ho.1.lt g hg).1⟩
      have := (ho.1.lt b e2).1
      omega
  · have look : ∀ W : World, W.heap[b]? = w.heap[b]? → (Instr.lookup t (.map (some b)) key c).run P W = .ok (if c then .tuple #[.slice none 0 0, .bool false] else .slice none 0 0) W := fun W hW => by
      rcases Maps.fit_look (R := rowElem (H := Unit) w base e q) c K ht (hz W) (hW.trans hb) F hkey with ⟨hrun, _, _⟩ | ⟨e1, y, hm1, h4, hrun, _⟩
      · exact hrun
      · exact absurd ⟨e1, hm1, h4⟩ hx
    rcases Maps.fit_look false K ht (hz w) hb F hkey with ⟨_, h2, hat⟩ | ⟨e1, y, hm1, h4, _, hR, hat, _⟩
    · refine ⟨.slice none 0 0, [], false, look, hat _, World.ownsInts_nil _ _ _ _, Nat.zero_le _, groups_back K ht hb F hs hn hbb hlen hap hkey (fun x _ _ => ?_) (by simp [Value.ownBlock]), fun g hg => nomatch hg⟩
      cases x.val.ownBlock <;> simp [Value.ownBlock]
    · exact absurd ⟨e1, hm1, h4⟩ hx
/-- a new map, above which any rows may come to lie. -/
theorem groups_new {base : Nat} (W : World) (P : Program) (k e : TypeId) (q : IntKind) (b clock : Nat) (hb : W.heap[b]? = some (.map #[] 0)) (h : b < base) : W.ownsGroups (H := Unit) P k base e q b 0 (.map []) :=
  ⟨#[], 0, hb, ⟨by simp, stamped_empty 0, by simp⟩, Nat.le_refl _, rfl, h, by simp, by simp⟩
/-- one number in a block of its own. -/
theorem one_own (W : World) (base : Nat) (z : Int) (hz : (Lit.int .i64 z).wf = true) (hB : base ≤ W.heap.size) : (W.alloc (.cells #[.int .i64 z] 3)).ownsInts base 3 .i64 (.slice (some ⟨W.heap.size, 0, none⟩) 1 1) [z] :=
  ⟨⟨rfl, .inr ⟨W.heap.size, 1, #[.int .i64 z], rfl, hB, heap_alloc_new W _, Nat.le_refl _, by decide, rfl, rfl⟩⟩, fun x hx => by simp at hx; subst hx; exact hz⟩
theorem step_mapUpdate_back {ops : Array Oper} {o : Oper} {a : Act} {w : World} {K : Act → World → Prop} {Q : Exit → Act → World → Prop} {E : Prop} (hgd : o.guard = none) (m x v : Operand) (t : TypeId) (hop : o.op = Op.mapUpdate t m x v)
    {w0 : World} {key : Value} {kl : Lit} {u v' : Value} {zs' : List Int}
    (hback : w0.groupBack P t k base e q b n D key kl u) (hm : a.eval m = .map (some b)) (hx : a.eval x = key) (hv : a.eval v = v')
    (hgr : w0.grownBy w u.ownBlock) (hown' : w.ownsInts base e q v' zs') (hl' : zs'.length ≤ n + 1) (hloc : v'.ownBlock = u.ownBlock ∨ ∃ g, v'.ownBlock = some g ∧ w0.heap.size ≤ g)
    (hK : ∀ w2, w2.ownsGroups P k base e q b (n + 1) (D.put kl (rowDatum q v' zs')) → w.grownBy w2 (some b) → K (a.put o.dst undef) w2) :
    if Region.wanted o (yielded ops a.tmps) = true then Oper.wp P o a w K Q else E := by
  have hw : Region.wanted o (yielded ops a.tmps) = true := by simp [Region.wanted, hgd]
  rw [if_pos hw]
  obtain ⟨w2, hrun, r1, r2⟩ := hback w v' zs' hgr hown' hl' hloc
  unfold Oper.wp
  simp [execOp, hop, hm, hx, hv, hrun, Result.andThen]
  exact hK w2 r1 r2
theorem step_append_own_at {ops : Array Oper} {o : Oper} {a : Act} {w : World} {K : Act → World → Prop} {Q : Exit → Act → World → Prop} {E : Prop} (hgd : o.guard = none) (s x : Operand) (t : TypeId)
    (ho : o.op = .call { callee := .builtin .append, args := #[s, x], argTypes := #[t, t] })
    (base : Nat) (e : TypeId) (i : TypeInfo) (z : Value) (size bytes : Nat) (ht : P.underlying t = some (.slice e)) (hi : P.info? e = some i) (hz : i.zero = some z)
    (hsize : i.size = size) (hby : i.bytes = bytes) (hzs : z.cells.size = size) (hsz : 0 < size)
    (v : Value) (n : Nat) (xs : List Value) (hs : a.eval s = v) (hown : w.ownsRow base e size v n xs)
    (ad : Addr) (m c : Nat) (news : List Value) (hx : a.eval x = .slice (some ad) m c) (hl : news.length = m * size) (hnews : ∀ j u, news[j]? = some u → w.cell? (ad.add j) = some u) (h1 : ∀ u ∈ news, u.oneCell' = true)
    (h63 : n + m ≤ maxLen) (hbytes : (n + m) * bytes ≤ 140737488355328) (hbase : base ≤ w.heap.size)
    (h : ∀ v' w', w'.ownsRow base e size v' (n + m) (xs ++ news) → w.grownBy w' v.ownBlock → (v'.ownBlock = v.ownBlock ∨ v'.ownBlock = some w.heap.size) → K (a.put o.dst v') w') :
    if Region.wanted o (yielded ops a.tmps) = true then Oper.wp P o a w K Q else E := by
  have hw : Region.wanted o (yielded ops a.tmps) = true := by simp [Region.wanted, hgd]
  rw [if_pos hw]
  obtain ⟨v', w', hr, h2, h3, h4, h5⟩ := run_append_own_at (P := P) w base t o.type e i z size bytes ht hi hz hsize hby hzs hsz v n xs hown ad m c news hl hnews h1 h63 hbytes hbase
  unfold Oper.wp execOp
  simp only [ho, resolve, invoke, builtin, Sem.run_bind, Sem.run_pure, Result.andThen_ok, List.map_toArray, List.map_cons, List.map_nil, hs, hx, hr]
  exact h v' w' h2 h3 h5
/-- a copy of elements of many cells into the row that is known whole. -/
theorem run_copy_wide (w : World) (dT sT ty elem : TypeId) (g dLen dCap : Nat) (a : Addr) (sLen sCap s : Nat) (cur : Array Value) (t : TypeId) (cs : List Value)
    (hu : P.underlying dT = some (.slice elem)) (hs : (P.info? elem).map (·.size) = some s)
    (hg : w.heap[g]? = some (.cells cur t (0, 0))) (hn : cs.length = Nat.min sLen dLen * s)
    (hsrc : ∀ j v, cs[j]? = some v → w.cell? (a.add j) = some v) (hfit : cs.length ≤ cur.size) (h1 : ∀ v ∈ cs, v.oneCell' = true) :
    (Builtin.copy_ #[dT, sT] ty #[.slice (some ⟨g, 0, none⟩) dLen dCap, .slice (some a) sLen sCap]).run P w =
      .ok (goInt (Nat.min sLen dLen)) (w.setRow g (cs ++ cur.toList.drop cs.length).toArray) := by
  have hl := run_loadCells_list (P := P) w a cs hsrc
  have hst := run_storeCells_at P g 0 t cs 0 cur w hg (by simpa using hfit) h1
  cases hq : P.info? elem with
  | none => simp [hq] at hs
  | some i =>
    have hi : i.size = s := by simpa [hq] using hs
    simp only [Nat.add_zero, Nat.zero_add, List.take_zero, List.nil_append] at hst
    simp [Builtin.copy_, run_underlying hu, Builtin.lenOf, Builtin.firstCells, sizeOf, typeInfo, hq, hi, ← hn, hl, hst]
theorem grown_of {w W : World} (h : Below w.heap.size w W) : w.grownBy W none := ⟨h.os, h.tape, h.output, h.size, fun k hk _ => h.block k hk⟩
theorem groups_below {W : World} (h : w.ownsGroups P k base e q b n D) (hb : Below w.heap.size w W) : W.ownsGroups P k base e q b n D :=
  h.kept (grown_of hb) (by simp) (fun es clock _ x _ => by cases x.val.ownBlock <;> simp)
theorem groups_set {a : Addr} {v : Value} (h : w.ownsGroups P k base e q b n D) (h1 : a.block ≠ b) (h2 : a.block < base) : (w.setCell a v).ownsGroups P k base e q b n D :=
  h.kept (row := some a.block) ⟨rfl, rfl, rfl, by simp, fun j hj hne => by
    exact heap_setCell_other _ _ _ _ (fun e => hne (by rw [e]))⟩ (by simpa using fun e => h1 e.symm) (h.rowsAbove (by simpa using h2))
end
/-- no metadata, once more. -/
theorem clone_any (w : World) (A A' : Option Addr) (c c' : Nat) : Calls Tryz.prog 38 #[.agg #[.slice A 0 c, .slice A' 0 c']] w fun e w' => e = .returned (.agg #[.slice none 0 0, .slice none 0 0]) ∧ Below w.heap.size w w' := by
  go_enter Tryz.func38, Tryz.ntmps38
  go_wp2_with fail
  refine bodyPost_ret (v := .agg #[.slice none 0 0, .slice none 0 0]) (by simp [results, Tryz.results38, go_sem]) rfl ?_
  exact ⟨rfl, (by repeat' (first | (with_reducible exact Below.refl _ _) | (with_reducible refine Below.setCell ?_ ?_ _) | (with_reducible refine bdrewN ?_ _) | (with_reducible refine bdrew ?_) | (with_reducible refine Below.alloc ?_ ?_ _) | exact Nat.le_refl _ | (simp; done)))⟩
end Proofs.YtconkcjcjdmidaaGreatDoor
end Go
