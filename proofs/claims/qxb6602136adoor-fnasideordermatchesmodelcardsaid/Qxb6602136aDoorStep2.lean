import Derived.Test.Qxb6602136aDoorPlain3
namespace Go.Proofs.Qxb6602136aDoor
open Go.RowKit

/-- append in a region that does not draw, inside a fence: what is known of its run. -/
theorem wpListIn_append_run {F : Fence} {n : Nat} {P : Program} {ops : Array Oper} {rest : List Oper} {o : Oper} {a : Act} {w w' : World} {Q : Exit → Act → World → Prop}
    (hg : o.guard = none) (s x : Operand) (t : TypeId) (hop : o.op = Op.call { callee := Callee.builtin Builtin.append, args := #[s, x], argTypes := #[t, t] })
    (v v' y : Value) (hs : a.eval s = v) (hx : a.eval x = y) (hrun : (Builtin.append_ #[t, t] o.type #[v, y]).run P w = .ok v' w') (h : wpListIn F n P ops Q rest (a.put o.dst v') w') :
    wpListIn F n P ops Q (o :: rest) a w := by
  refine wpListIn_plain hg fun K hK => ?_
  unfold Oper.wpIn
  refine ⟨by simp [Oper.about, hop, resolve, Target.leads, Sem.run_pure], ?_⟩
  rw [Oper.semAt_plain F _ _ (by rw [hop]; intro c hc'; cases hc')]
  simp [execOp, hop, resolve, invoke, builtin, hs, hx, hrun, Result.andThen]
  exact hK _ _ h

/-- Nothing has happened but a draw. -/
theorem drew_back (W : World) : Below W.drew.heap.size W.drew W := ⟨rfl, rfl, rfl, Nat.le_refl _, fun _ _ => rfl⟩

/-- A slice of strings of the call's own: nil where it is empty. -/
structure OwnS (B : Nat) (w : World) (v : Value) (xs : List ByteArray) : Prop where
  row : w.ownsRow B 9 1 v xs.length (xs.map Value.string)
  nil : v = .slice none 0 0 ↔ xs = []

theorem OwnS.start (B : Nat) (w : World) : OwnS B w (.slice none 0 0) [] := ⟨World.ownsRow_nil _ _ _ _, by simp⟩
theorem OwnS.kept {B : Nat} {w w' : World} {v : Value} {xs : List ByteArray} {row : Option Nat} (h : OwnS B w v xs) (hg : w.grownBy w' row) (hne : v.ownBlock = none ∨ v.ownBlock ≠ row) : OwnS B w' v xs := ⟨h.row.kept hg hne, h.nil⟩
theorem OwnS.later {B : Nat} {w w' : World} {v : Value} {xs : List ByteArray} (h : OwnS B w v xs) (hb : Below w.heap.size w w') : OwnS B w' v xs := by
  refine h.kept (grown_none hb) ?_
  cases v.ownBlock with
  | none => exact .inl rfl
  | some k => exact .inr (by simp)
theorem OwnS.form {B : Nat} {w : World} {v : Value} {xs : List ByteArray} (h : OwnS B w v xs) : ∃ p c, v = .slice p xs.length c := by
  rcases h.row.2 with ⟨rfl, h0⟩ | ⟨g, cap, cur, rfl, _⟩
  · exact ⟨none, 0, by rw [h0]⟩
  · exact ⟨_, _, rfl⟩
theorem OwnS.low {B : Nat} {w : World} {v : Value} {xs : List ByteArray} (h : OwnS B w v xs) : ∀ k, v.ownBlock = some k → B ≤ k := fun k hk => (h.row.lt k hk).1
theorem OwnS.base {B B' : Nat} {w : World} {v : Value} {xs : List ByteArray} (h : OwnS B w v xs) (hb : B' ≤ B) : OwnS B' w v xs := by
  refine ⟨⟨h.row.1, ?_⟩, h.nil⟩
  rcases h.row.2 with h | ⟨g, cap, cur, h1, h2, h3⟩
  · exact .inl h
  · exact .inr ⟨g, cap, cur, h1, Nat.le_trans hb h2, h3⟩
theorem OwnS.cells {B g cap : Nat} {w : World} {xs : List ByteArray} {n : Nat} (h : OwnS B w (.slice (some ⟨g, 0, none⟩) n cap) xs) {j : Nat} (hj : j < xs.length) : w.cell? ⟨g, j, none⟩ = some (.string xs[j]) := by
  rcases h.row.2 with ⟨h1, _⟩ | ⟨g', cap', cur, h1, _, hc, _, _, _, htk⟩
  · cases h1
  · injection h1 with h1 h2 h3
    injection h1 with h1
    injection h1 with h1
    subst h1
    rw [cell_of_row w g _ cur 9 _ hc]
    have : (cur.toList.take (xs.length * 1))[j]? = (xs.map Value.string)[j]? := by rw [htk]
    rw [List.getElem?_take_of_lt (by omega)] at this
    simp [hj] at this
    simpa using this
theorem OwnS.strs {B : Nat} {w : World} {p : Option Addr} {n c : Nat} {xs : List ByteArray} (h : OwnS B w (.slice p n c) xs) : StrsAt w p xs := by
  rcases h.row.2 with ⟨h1, h0⟩ | ⟨g', cap', cur, h1, _⟩
  · exact .inl (List.eq_nil_of_length_eq_zero h0)
  · injection h1 with h1 h2 h3
    subst h1
    exact .inr ⟨g', 0, rfl, fun j hj => by rw [Nat.zero_add]; exact h.cells hj⟩
end Go.Proofs.Qxb6602136aDoor
