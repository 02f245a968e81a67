import Derived.Test.Qxb6602136aDoorWalkM
import Derived.Test.Qxb6602136aDoorStep
namespace Go.Proofs.Qxb6602136aDoor
open Go.RowKit Go.Shelf

/-- What the loops hand on: the order's box, its row of strings, the iterator's box. -/
def Inv (n₀ : Nat) (w1 : World) (sv : Value) (xs : List ByteArray) (W : World) : Prop :=
  (∃ v, Boxed W n₀ 27 v ∧ W.ownsRow (n₀ + 2) 9 1 v xs.length (xs.map Value.string) ∧ (v = .slice none 0 0 ↔ xs = [])) ∧ (Below n₀ w1 W ∧ Boxed W (n₀ + 1) 30 sv)

section
variable {n₀ : Nat} {w1 W w2 w3 : World} {v v' sv : Value} {xs : List ByteArray} {x : ByteArray}

theorem row_drew (hrow : W.ownsRow (n₀ + 2) 9 1 v xs.length (xs.map Value.string)) (hb2 : Below W.drew.heap.size W.drew w2) : w2.ownsRow (n₀ + 2) 9 1 v xs.length (xs.map Value.string) := by
  have h : W.drew.ownsRow (n₀ + 2) 9 1 v xs.length (xs.map Value.string) := hrow
  refine h.kept (grown_none hb2) ?_
  cases v.ownBlock with
  | none => exact .inl rfl
  | some k => exact .inr (by simp)

theorem appW (hbs : Boxed W (n₀ + 1) 30 sv) (hlt : xs.length ≤ 9000) (hrow : W.ownsRow (n₀ + 2) 9 1 v xs.length (xs.map Value.string)) (hb2 : Below W.drew.heap.size W.drew w2) (x : ByteArray) :
    ∃ v' w', (Builtin.append_ #[27, 27] 27 #[v, .slice (some ⟨w2.heap.size, 0, none⟩) 1 1]).run Tryd.prog (w2.alloc (.cells #[.string x] 9)) = .ok v' w' ∧ w'.ownsRow (n₀ + 2) 9 1 v' (xs.length + 1) (xs.map Value.string ++ [.string x]) ∧ (w2.alloc (.cells #[.string x] 9)).grownBy w' v.ownBlock ∧
      (v' = .slice none 0 0 ↔ v = .slice none 0 0 ∧ 1 = 0) ∧ (v'.ownBlock = v.ownBlock ∨ v'.ownBlock = some (w2.alloc (.cells #[.string x] 9)).heap.size) := by
  obtain ⟨info, hinf, hz0, hz1, hz2⟩ := info_parts Tryd.info9
  have hl : n₀ + 1 < W.heap.size := hbs.lt
  have hs : W.heap.size ≤ w2.heap.size := hb2.size
  exact run_append_own_at (P := Tryd.prog) (w2.alloc (.cells #[.string x] 9)) (n₀ + 2) 27 27 9 info _ 1 16 Tryd.underlying27 hinf hz0 hz1 hz2 rfl (by omega) v _ _ ((row_drew hrow hb2).alloc _) ⟨w2.heap.size, 0, none⟩ 1 1 [.string x] rfl (cell_one_new _ _ _) (by simp [Value.oneCell']) (by unfold maxLen; omega) (by omega) (by simp; omega)

theorem below_all (hb2 : Below W.drew.heap.size W.drew w2) : Below W.heap.size W w2 := (below_drewN (Below.refl _ W) 1).trans hb2

theorem boxW (hv : Boxed W n₀ 27 v) (hb2 : Below W.drew.heap.size W.drew w2) (hrow : W.ownsRow (n₀ + 2) 9 1 v xs.length (xs.map Value.string)) {o : Obj} (hg : (w2.alloc o).grownBy w3 v.ownBlock) : Boxed w3 n₀ 27 v := by
  have h2 : Boxed w2 n₀ 27 v := ((below_all hb2).block n₀ hv.lt).trans hv
  exact (h2.alloc o).kept hg (fun e => by have := (hrow.lt n₀ e.symm).1; omega)

theorem otherW {t : TypeId} (hv : Boxed W (n₀ + 1) t sv) (hb2 : Below W.drew.heap.size W.drew w2) (hrow : W.ownsRow (n₀ + 2) 9 1 v xs.length (xs.map Value.string)) {o : Obj} (hg : (w2.alloc o).grownBy w3 v.ownBlock) : Boxed w3 (n₀ + 1) t sv := by
  have h2 : Boxed w2 (n₀ + 1) t sv := ((below_all hb2).block _ hv.lt).trans hv
  exact (h2.alloc o).kept hg (fun e => by have := (hrow.lt _ e.symm).1; omega)

theorem bodyB (hbs : Boxed W (n₀ + 1) 30 sv) (hb2 : Below W.drew.heap.size W.drew w2) (hrow : W.ownsRow (n₀ + 2) 9 1 v xs.length (xs.map Value.string)) {o : Obj} (hg : (w2.alloc o).grownBy w3 v.ownBlock) :
    Below n₀ W (w3.setCell ⟨n₀, 0, none⟩ v') := by
  have hl : n₀ + 1 < W.heap.size := hbs.lt
  have hs : W.heap.size ≤ w2.heap.size := hb2.size
  have h1 : Below n₀ W (w2.alloc o) := ((below_all hb2).mono (by omega)).alloc (by omega) o
  exact (h1.grown hg (by simp; omega) (fun k hk => by have := (hrow.lt k hk).1; omega)).setCell (p := ⟨n₀, 0, none⟩) (Nat.le_refl _) _

theorem bodyI (hv : Boxed W n₀ 27 v) (hbs : Boxed W (n₀ + 1) 30 sv) (hB : Below n₀ w1 W) (hb2 : Below W.drew.heap.size W.drew w2) (hrow : W.ownsRow (n₀ + 2) 9 1 v xs.length (xs.map Value.string)) {o : Obj} (hg : (w2.alloc o).grownBy w3 v.ownBlock)
    (how : w3.ownsRow (n₀ + 2) 9 1 v' (xs.length + 1) (xs.map Value.string ++ [.string x])) (hi : v' = .slice none 0 0 ↔ v = .slice none 0 0 ∧ 1 = 0) : Inv n₀ w1 sv (xs ++ [x]) (w3.setCell ⟨n₀, 0, none⟩ v') := by
  have hbox := boxW hv hb2 hrow hg
  have hoth := otherW hbs hb2 hrow hg
  refine ⟨⟨v', hbox.set v', ?_, ?_⟩, hB.trans (bodyB hbs hb2 hrow hg), ?_⟩
  · have := how.kept (grownBy_setCell' w3 n₀ v') (by
      cases hb : v'.ownBlock with
      | none => exact .inl rfl
      | some k => exact .inr (fun e => by injection e with e; have := (how.lt k hb).1; omega))
    simpa using this
  · simp at hi
    simp [hi]
  · exact hoth.kept (grownBy_setCell' w3 n₀ v') (fun e => by injection e with e; omega)
end
end Go.Proofs.Qxb6602136aDoor
