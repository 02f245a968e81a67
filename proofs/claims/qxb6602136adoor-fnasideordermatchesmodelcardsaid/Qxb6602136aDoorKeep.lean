import Derived.Test.Qxb6602136aDoorBody
namespace Go.Proofs.Qxb6602136aDoor
open Go.RowKit Go.Shelf

theorem keepW {n₀ : Nat} {W w2 w3 : World} {v v' : Value} {xs : List ByteArray} (hb2 : Below W.drew.heap.size W.drew w2) (hrow : W.ownsRow (n₀ + 2) 9 1 v xs.length (xs.map Value.string)) {o : Obj} (hg : (w2.alloc o).grownBy w3 v.ownBlock) :
    KeepsOthers W (w3.setCell ⟨n₀, 0, none⟩ v') := by
  have h1 : KeepsOthers W w2 := ⟨(below_all hb2).size, fun k ob hk _ => ((below_all hb2).block k (Array.getElem?_eq_some_iff.1 hk).1).trans hk⟩
  have hr := (row_drew hrow hb2).alloc o
  have h2 : KeepsOthers (w2.alloc o) w3 := KeepsOthers.of_grownBy hg (fun j ob hj ho => by
    rcases hr.2 with ⟨rfl, _⟩ | ⟨g, cap, cur, rfl, _, hc, _⟩
    · cases hj
    · injection hj with hj
      subst hj
      rw [hc] at ho
      injection ho with ho
      subst ho
      rfl)
  exact ((h1.trans (KeepsOthers.alloc _ _)).trans h2).trans (KeepsOthers.setCell _ _ _)
end Go.Proofs.Qxb6602136aDoor
