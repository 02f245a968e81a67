import Derived.Test.Qxb6602077aInsertA
import Derived.Lib.AppendZerosOnto
import Derived.Lib.Overlaps
namespace Go.Proofs.Qxb6602077a
open Go.ChangeShapes Go.WideShapes Go.ChangeAt Go.RowKit

/-- 'copy(d, s)' at refs, into a block that is known: its run, and what became of the block. -/
theorem copy2_run {w : World} (ty : TypeId) {g o dLen dCap : Nat} {ad : Addr} {sLen sCap n : Nat} {cs A X C : List Value} (hl : cs.length = n * 2) (hn : n = Nat.min sLen dLen)
    (hb : w.heap[g]? = some (.cells (A ++ (X ++ C)).toArray 51 (0, 0))) (hA : A.length = o) (hX : X.length = cs.length) (hsrc : ∀ j v, cs[j]? = some v → w.cell? (ad.add j) = some v) (h1 : ∀ v ∈ cs, v.oneCell' = true) :
    ∃ w', (Builtin.copy_ #[44, 44] ty #[.slice (some ⟨g, o, none⟩) dLen dCap, .slice (some ad) sLen sCap]).run Try.prog w = .ok (goInt n) w' ∧ w'.heap[g]? = some (.cells (A ++ (cs ++ C)).toArray 51 (0, 0)) ∧ w.grownBy w' (some g) ∧ w'.heap.size = w.heap.size := by
  subst hA
  refine ⟨_, run_copy2 w ty g A.length dLen dCap ad sLen sCap n cs hl hn hsrc (fun j hj => ?_) (fun j _ => frozen_of_row w g _ _ _ hb) h1, heap_setCells g 51 cs A X C w hb hX, grown_setCells _ _ _ _, (setCells_rest _ _ _ _).2.2.2⟩
  rw [cell_of_list hb, List.getElem?_eq_getElem (by simp; omega)]
  rfl

theorem wpList_copy2 {w : World} {ops : Array Oper} {rest : List Oper} {o : Oper} {a : Act} {Q : Exit → Act → World → Prop} (hgd : o.guard = none) (d s : Operand)
    (ho : o.op = .call { callee := .builtin .copy, args := #[d, s], argTypes := #[44, 44] }) (g off dLen dCap : Nat) (ad : Addr) (sLen sCap n : Nat) (hd : a.eval d = .slice (some ⟨g, off, none⟩) dLen dCap) (hs : a.eval s = .slice (some ad) sLen sCap)
    (cs A X C : List Value) (hl : cs.length = n * 2) (hn : n = Nat.min sLen dLen) (hb : w.heap[g]? = some (.cells (A ++ (X ++ C)).toArray 51 (0, 0))) (hA : A.length = off) (hX : X.length = cs.length)
    (hsrc : ∀ j v, cs[j]? = some v → w.cell? (ad.add j) = some v) (h1 : ∀ v ∈ cs, v.oneCell' = true)
    (h : ∀ w', Hid (w'.heap[g]? = some (.cells (A ++ (cs ++ C)).toArray 51 (0, 0))) → Hid (w.grownBy w' (some g)) → w'.heap.size = w.heap.size → wpList Try.prog ops Q rest (a.put o.dst (goInt n)) w') : wpList Try.prog ops Q (o :: rest) a w := by
  refine wpList_plain hgd fun K hK => ?_
  obtain ⟨w', hr, h2, h3, h4⟩ := copy2_run (ad := ad) (dCap := dCap) (sCap := sCap) o.type hl hn hb hA hX hsrc h1
  unfold Oper.wp execOp
  simp only [ho, resolve, invoke, builtin, Sem.run_bind, Sem.run_pure, Result.andThen_ok, List.map_toArray, List.map_cons, List.map_nil, hd, hs, hr]
  exact hK _ _ (h w' h2 h3 h4)

theorem step_copy2 {w : World} {ops : Array Oper} {o : Oper} {a : Act} {K : Act → World → Prop} {Q : Exit → Act → World → Prop} {E : Prop} (hgd : o.guard = none) (d s : Operand)
    (ho : o.op = .call { callee := .builtin .copy, args := #[d, s], argTypes := #[44, 44] }) (g off dLen dCap : Nat) (ad : Addr) (sLen sCap n : Nat) (hd : a.eval d = .slice (some ⟨g, off, none⟩) dLen dCap) (hs : a.eval s = .slice (some ad) sLen sCap)
    (cs A X C : List Value) (hl : cs.length = n * 2) (hn : n = Nat.min sLen dLen) (hb : w.heap[g]? = some (.cells (A ++ (X ++ C)).toArray 51 (0, 0))) (hA : A.length = off) (hX : X.length = cs.length)
    (hsrc : ∀ j v, cs[j]? = some v → w.cell? (ad.add j) = some v) (h1 : ∀ v ∈ cs, v.oneCell' = true)
    (h : ∀ w', Hid (w'.heap[g]? = some (.cells (A ++ (cs ++ C)).toArray 51 (0, 0))) → Hid (w.grownBy w' (some g)) → w'.heap.size = w.heap.size → K (a.put o.dst (goInt n)) w') :
    if Region.wanted o (yielded ops a.tmps) = true then Oper.wp Try.prog o a w K Q else E := by
  have hw : Region.wanted o (yielded ops a.tmps) = true := by simp [Region.wanted, hgd]
  rw [if_pos hw]
  obtain ⟨w', hr, h2, h3, h4⟩ := copy2_run (ad := ad) (dCap := dCap) (sCap := sCap) o.type hl hn hb hA hX hsrc h1
  unfold Oper.wp execOp
  simp only [ho, resolve, invoke, builtin, Sem.run_bind, Sem.run_pure, Result.andThen_ok, List.map_toArray, List.map_cons, List.map_nil, hd, hs, hr]
  exact h w' h2 h3 h4

theorem size_zc (n : Nat) : (Builtin.zeroCells (Value.agg #[.string ⟨#[]⟩, .string ⟨#[]⟩]).cells n).size = n * 2 := by
  simp [Builtin.zeroCells, Value.cells]

/-- 'append(s[:i], make(S, k)...)' where there is no room: a new block: what stood ahead of i, then cells of no matter which content. -/
theorem wpList_appz {w : World} {ops : Array Oper} {rest : List Oper} {o : Oper} {a : Act} {Q : Exit → Act → World → Prop} (hgd : o.guard = none) (s x : Operand)
    (ho : o.op = .call { callee := .builtin .append, args := #[s, x], argTypes := #[44, 3] }) (g i c k : Nat) (K : Int) (hK : K = (k : Int)) (hs : a.eval s = .slice (some ⟨g, 0, none⟩) i c) (hx : a.eval x = .int .i64 K)
    (olds : List Value) (hol : olds.length = i * 2) (hold : ∀ j v, olds[j]? = some v → w.cell? ⟨g, j, none⟩ = some v) (h0 : 0 < k) (hroom : c < i + k) (m : Nat) (hm : i + k = m) (hbig : i + k ≤ 2097152)
    (h : ∀ w' G Z, m ≤ G → G ≤ maxLen → Z.length = (G - i) * 2 → Hid (w'.heap[w.heap.size]? = some (.cells (olds ++ Z).toArray 51 (0, 0))) → Hid (w.grownBy w' none) → wpList Try.prog ops Q rest (a.put o.dst (.slice (some ⟨w.heap.size, 0, none⟩) m G)) w') : wpList Try.prog ops Q (o :: rest) a w := by
  subst hK hm
  refine wpList_plain hgd fun K hK => ?_
  obtain ⟨info, hinf, hz0, hz1, hz2⟩ := info_parts Try.info51
  have hf : (Builtin.firstCells info.size i (.slice (some ⟨g, 0, none⟩) i c)).run Try.prog w.drew = .ok olds.toArray w.drew := by
    rw [hz1]
    exact run_firstCells_some w.drew 2 i ⟨g, 0, none⟩ i c olds hol (fun j v hj => by rw [Addr.add_lit, Nat.zero_add]; exact hold j v hj)
  have hr := Lib.run_append_grow_zeros w 44 3 o.type 51 info _ .i64 .i64 Try.underlying44 Try.underlying3 hinf hz0 (some ⟨g, 0, none⟩) i c olds hf k h0 (by omega) hroom (by omega) (by rw [hz2]; omega)
    (by rw [hz2]; exact growslice_fits hroom (by omega))
  have g1 := grownCap_ge w (i + k) c 51
  have g2 := grownCap_le_maxLen w (i + k) c 51 (by unfold maxLen; omega)
  generalize grownCap w (i + k) c 51 = G at hr g1 g2
  unfold Oper.wp execOp
  simp only [ho, resolve, invoke, builtin, Sem.run_bind, Sem.run_pure, Result.andThen_ok, List.map_toArray, List.map_cons, List.map_nil, hs, hx, hr]
  refine hK _ _ (h _ G ((Builtin.zeroCells (Value.agg #[.string ⟨#[]⟩, .string ⟨#[]⟩]).cells k).toList ++ (Builtin.zeroCells (Value.agg #[.string ⟨#[]⟩, .string ⟨#[]⟩]).cells (G - (i + k))).toList) g1 g2 ?_ ?_ ?_)
  · simp [size_zc]; omega
  · show (World.alloc w.drew _).heap[w.drew.heap.size]? = _
    rw [heap_alloc_new]
    simp
  · exact ⟨rfl, rfl, rfl, by simp, fun j hj _ => Below.heap_alloc w.drew _ j hj⟩
end Go.Proofs.Qxb6602077a
