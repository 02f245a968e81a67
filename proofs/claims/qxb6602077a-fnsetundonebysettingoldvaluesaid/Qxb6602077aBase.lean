/-
  The shared words of the walks over this seat's program: what a slice of refs holds.
-/
import Derived.Test.Qxb6602077aRows
import Derived.Test.Qxb6602077aPlain
import Derived.WalkKit
import Derived.ProofKit
import Derived.OpenShut
import Derived.ShutString
import Derived.WalkSpells
import Derived.WalkLawsBesides
import Derived.Deep.QuietTactic
import Derived.BigQuiet
import Derived.Deep.LoopGhost
import Derived.Handy
namespace Go.Proofs.Qxb6602077a
open Go.ChangeShapes Go.WideShapes Go.ChangeAt Go.RowKit


/-- The slice at 'a' holds the refs 'rs', two cells each. -/
def RefsAt (w : World) (a : Option Addr) (rs : List Rf) : Prop :=
  rs = [] ∨ ∃ b off, a = some ⟨b, off, none⟩ ∧ ∀ j (h : j < rs.length), w.cell? ⟨b, off + j * 2, none⟩ = some (.string rs[j].1) ∧ w.cell? ⟨b, off + j * 2 + 1, none⟩ = some (.string rs[j].2)

theorem RefsAt.at {w : World} {a : Option Addr} {rs : List Rf} (h : RefsAt w a rs) {j : Nat} (hj : j < rs.length) :
    ∃ b off, a = some ⟨b, off, none⟩ ∧ w.cell? ⟨b, off + j * 2, none⟩ = some (.string rs[j].1) ∧ w.cell? ⟨b, off + j * 2 + 1, none⟩ = some (.string rs[j].2) := by
  rcases h with h | ⟨b, off, ha, hc⟩
  · subst h; simp at hj
  · exact ⟨b, off, ha, hc j hj⟩

/-- Block g holds the refs 'rs' from its head on; it has room for 'cap'. -/
def RowBlk (w : World) (g : Nat) (e : TypeId) (cap : Nat) (rs : List Rf) : Prop :=
  ∃ cs : Array Value, w.heap[g]? = some (.cells cs e (0, 0)) ∧ cs.size = cap * 2 ∧ rs.length ≤ cap ∧ ∀ j (h : j < rs.length), cs[j * 2]? = some (.string rs[j].1) ∧ cs[j * 2 + 1]? = some (.string rs[j].2)

theorem RowBlk.refs {w : World} {g : Nat} {e : TypeId} {cap : Nat} {rs : List Rf} (h : RowBlk w g e cap rs) : RefsAt w (some ⟨g, 0, none⟩) rs := by
  obtain ⟨cs, hg, hs, hl, hc⟩ := h
  refine .inr ⟨g, 0, rfl, fun j hj => ?_⟩
  rw [cell_of_row w g _ cs e _ hg, cell_of_row w g _ cs e _ hg]
  simpa using hc j hj

theorem RowBlk.lt {w : World} {g : Nat} {e : TypeId} {cap : Nat} {rs : List Rf} (h : RowBlk w g e cap rs) : g < w.heap.size := by
  obtain ⟨cs, hg, _⟩ := h
  exact (Array.getElem?_eq_some_iff.1 hg).1

/-- Each cell of the block's room is there and may be written. -/
theorem RowBlk.room {w : World} {g : Nat} {e : TypeId} {cap : Nat} {rs : List Rf} (h : RowBlk w g e cap rs) {o : Nat} (ho : o < cap * 2) : ∃ v, w.cell? ⟨g, o, none⟩ = some v ∧ w.frozen? ⟨g, o, none⟩ = false := by
  obtain ⟨cs, hg, hs, hl, hc⟩ := h
  refine ⟨cs[o]'(by omega), ?_, frozen_of_row w g o cs e hg⟩
  rw [cell_of_row w g _ cs e _ hg]
  simp [show o < cs.size by omega]

/-- One ref more, laid behind those that are there. -/
theorem RowBlk.snoc {w : World} {g : Nat} {e : TypeId} {cap : Nat} {rs : List Rf} (h : RowBlk w g e cap rs) (r : Rf) (hl : rs.length < cap) :
    RowBlk ((w.setCell ⟨g, rs.length * 2, none⟩ (.string r.1)).setCell ⟨g, rs.length * 2 + 1, none⟩ (.string r.2)) g e cap (rs ++ [r]) := by
  obtain ⟨cs, hg, hs, _, hc⟩ := h
  refine ⟨_, heap_setCell_same _ g _ _ e _ (heap_setCell_same _ g _ cs e _ hg), by simp [hs], by simp; omega, fun j hj => ?_⟩
  simp at hj
  by_cases e : j = rs.length
  · subst e
    constructor
    · simp [Array.getElem?_setIfInBounds]; omega
    · simp [Array.getElem?_setIfInBounds]; omega
  · have h2 := hc j (by omega)
    rw [List.getElem_append_left (by omega)]
    constructor
    · rw [Array.getElem?_setIfInBounds_ne (by omega), Array.getElem?_setIfInBounds_ne (by omega)]; exact h2.1
    · rw [Array.getElem?_setIfInBounds_ne (by omega), Array.getElem?_setIfInBounds_ne (by omega)]; exact h2.2

/-- A world that has the same block has the same row. -/
theorem RowBlk.kept {w w' : World} {g : Nat} {e : TypeId} {cap : Nat} {rs : List Rf} (h : RowBlk w g e cap rs) (hb : w'.heap[g]? = w.heap[g]?) : RowBlk w' g e cap rs := by
  obtain ⟨cs, hg, r⟩ := h
  exact ⟨cs, hb.trans hg, r⟩

/-- It hands back a bool; if that is false, 'p' holds. -/
def BoolF (e : Ending) (p : Prop) : Prop := ∃ b, e = .returned (.bool b) ∧ (b = false → p)
/-- It hands back a bool; if that is true, 'p' holds. -/
def BoolT (e : Ending) (p : Prop) : Prop := ∃ b, e = .returned (.bool b) ∧ (b = true → p)
theorem BoolT.triv {b : Bool} : BoolT (.returned (.bool b)) True := ⟨b, rfl, fun _ => trivial⟩
theorem BoolF.yes {p : Prop} : BoolF (.returned (.bool true)) p := ⟨true, rfl, fun h => by cases h⟩
theorem BoolF.no {p : Prop} (h : p) : BoolF (.returned (.bool false)) p := ⟨false, rfl, fun _ => h⟩

theorem Try.cells9 : Try.prog.cellsOf 9 = 1 := by kernel_rfl
theorem Try.cells39 : Try.prog.cellsOf 39 = 2 := by kernel_rfl
theorem Try.own : ownKnob Try.prog.godebug = none := by kernel_rfl
end Go.Proofs.Qxb6602077a
