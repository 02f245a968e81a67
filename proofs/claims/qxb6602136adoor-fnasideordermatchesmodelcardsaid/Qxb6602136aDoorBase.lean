/-
  The shared words of the walks: what a slice of strings holds, what the listed variables hold, and the base that a name spells.
-/
import Derived.Test.Qxb6602136aDoorRows
import Derived.Test.Qxb6602136aDoorShelf
import Derived.Test.Qxb6602136aDoorPlain
import Derived.WalkKit
import Derived.ProofKit
import Derived.OpenShut
import Derived.ShutString
import Derived.WalkSpells
import Derived.WalkLawsBesides
import Derived.Deep.QuietTactic
import Derived.BigQuiet
import Derived.BigRegion
import Derived.Deep.LoopGhost
import Derived.Handy
import Derived.Sort.OwnSortedInts
namespace Go.Proofs.Qxb6602136aDoor
open Go.ChangeShapes Go.WideShapes Go.ChangeAt Go.RowKit Go.Sort

theorem hide {p : Prop} (h : p) : Hid p := h

/-- The slice at 'a' holds the strings 'ss'. -/
def StrsAt (w : World) (a : Option Addr) (ss : List ByteArray) : Prop :=
  ss = [] ∨ ∃ b off, a = some ⟨b, off, none⟩ ∧ ∀ j (h : j < ss.length), w.cell? ⟨b, off + j, none⟩ = some (.string ss[j])

theorem StrsAt.at {w : World} {a : Option Addr} {ss : List ByteArray} (h : StrsAt w a ss) {j : Nat} (hj : j < ss.length) :
    ∃ b off, a = some ⟨b, off, none⟩ ∧ w.cell? ⟨b, off + j, none⟩ = some (.string ss[j]) := by
  rcases h with h | ⟨b, off, ha, hc⟩
  · subst h; simp at hj
  · exact ⟨b, off, ha, hc j hj⟩

theorem StrsAt.later {w w' : World} {a : Option Addr} {ss : List ByteArray} (h : StrsAt w a ss) (hb : Below w.heap.size w w') : StrsAt w' a ss := by
  rcases h with h | ⟨b, off, ha, hc⟩
  · exact .inl h
  · exact .inr ⟨b, off, ha, fun j hj => cell_later hb (hc j hj)⟩

/-- It hands back a bool; if that is true, 'p' holds. -/
def BoolT (e : Ending) (p : Prop) : Prop := ∃ b, e = .returned (.bool b) ∧ (b = true → p)
theorem BoolT.yes {p : Prop} (h : p) : BoolT (.returned (.bool true)) p := ⟨true, rfl, fun _ => h⟩
theorem BoolT.no {p : Prop} : BoolT (.returned (.bool false)) p := ⟨false, rfl, fun h => by cases h⟩

theorem below_drewN {B : Nat} {a w : World} (h : Below B a w) (n : Nat) : Below B a (w.drewN n) := h.trans ⟨rfl, rfl, rfl, Nat.le_refl _, fun _ _ => rfl⟩
theorem below_grow {w : World} (k : Nat) (os : Array Obj) : Below w.heap.size w (grow (w.drewN k) os) := by
  refine ⟨rfl, rfl, rfl, by simp [grow], fun b hb => ?_⟩
  exact heap_grow_old _ _ (by simpa using hb)

/-- An error variable holds an error. -/
def ErrAt (w : World) (g : Nat) : Prop := ∃ ev, w.cell? ⟨g, 0, none⟩ = some ev ∧ (ev = .nilIface ∨ ∃ te pe, ev = .iface te pe)
/-- What the road asks of the package-level variables. -/
structure Vars (w : World) : Prop where
  tab : Lib.TabIs Tryd.prog w "internal/strconv.uint64pow10" .u64 Lib.pow10Tab
  syn : ErrAt w 0
  rng : ErrAt w 1

theorem ErrAt.later {w w' : World} {g : Nat} (h : ErrAt w g) (hb : Below w.heap.size w w') : ErrAt w' g := by
  obtain ⟨ev, h1, h2⟩ := h
  exact ⟨ev, cell_later hb h1, h2⟩

theorem var_later {w w' : World} {name : String} {cs : Array Value} (h : w.var? Tryd.prog name = some cs) (hb : Below w.heap.size w w') : w'.var? Tryd.prog name = some cs := by
  unfold World.var? at h ⊢
  cases hg : Tryd.prog.globalNamed name with
  | none => rw [hg] at h; cases h
  | some g =>
    rw [hg] at h
    simp only [Option.bind_some] at h ⊢
    by_cases hl : g < w.heap.size
    · rw [hb.block g hl]; exact h
    · rw [Array.getElem?_eq_none (by omega)] at h; cases h

theorem Vars.later {w w' : World} (h : Vars w) (hb : Below w.heap.size w w') : Vars w' := ⟨var_later h.tab hb, h.syn.later hb, h.rng.later hb⟩

/-- The base that a name spells behind a prefix. -/
def baseQ (s p : List UInt8) : Option Int := if Lib.hasPrefix s p = true then baseP (Lib.trimPrefix s p) else none
/-- Two results: the number and whether there is one. -/
def Bs (e : Ending) (o : Option Int) : Prop := e = .returned (.tuple #[.int .i64 (o.getD 0), .bool o.isSome])

theorem Tryd.cells9 : Tryd.prog.cellsOf 9 = 1 := by kernel_rfl
theorem Tryd.cells27 : Tryd.prog.cellsOf 27 = 1 := by kernel_rfl
theorem Tryd.own : ownKnob Tryd.prog.godebug = none := by kernel_rfl
theorem Tryd.laidOut : laidOutB Tryd.prog = true := by kernel_rfl
end Go.Proofs.Qxb6602136aDoor
