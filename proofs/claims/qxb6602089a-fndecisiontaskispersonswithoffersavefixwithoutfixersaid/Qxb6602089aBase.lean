/-
  The shared words of the walks over this seat's program: what a slice of strings and a slice of task definitions hold.
-/
import Derived.Test.Qxb6602089aRows
import Derived.WalkKit
import Derived.ProofKit
import Derived.OpenShut
import Derived.ShutString
import Derived.WalkSpells
import Derived.WalkLawsBesides
import Derived.Deep.QuietTactic
import Derived.BigQuiet
import Derived.BigRegion
import Derived.Deep.LoopGhost
import Derived.Handy
namespace Go.Proofs.Qxb6602089a
open Go.ChangeShapes Go.WideShapes Go.ChangeAt Go.RowKit

theorem hide {p : Prop} (h : p) : Hid p := h

/-- The slice at 'a' holds the strings 'ss'. -/
def StrsAt (w : World) (a : Option Addr) (ss : List ByteArray) : Prop :=
  ss = [] ∨ ∃ b off, a = some ⟨b, off, none⟩ ∧ ∀ j (h : j < ss.length), w.cell? ⟨b, off + j, none⟩ = some (.string ss[j])

theorem StrsAt.at {w : World} {a : Option Addr} {ss : List ByteArray} (h : StrsAt w a ss) {j : Nat} (hj : j < ss.length) :
    ∃ b off, a = some ⟨b, off, none⟩ ∧ w.cell? ⟨b, off + j, none⟩ = some (.string ss[j]) := by
  rcases h with h | ⟨b, off, ha, hc⟩
  · subst h; simp at hj
  · exact ⟨b, off, ha, hc j hj⟩

theorem StrsAt.later {w w' : World} {a : Option Addr} {ss : List ByteArray} (h : StrsAt w a ss) (hb : Below w.heap.size w w') : StrsAt w' a ss := by
  rcases h with h | ⟨b, off, ha, hc⟩
  · exact .inl h
  · exact .inr ⟨b, off, ha, fun j hj => cell_later hb (hc j hj)⟩

/-- One task's cells: role, kind, phase, and the slice of those that it waits on. -/
structure Tk where
  role : ByteArray
  kind : ByteArray
  phase : ByteArray
  wa : Option Addr
  wc : Nat
  ws : List ByteArray

/-- The slice at 'a' holds the tasks 'ts', four cells each. -/
def TasksAt (w : World) (a : Option Addr) (ts : List Tk) : Prop :=
  ts = [] ∨ ∃ b off, a = some ⟨b, off, none⟩ ∧ ∀ j (h : j < ts.length), w.cell? ⟨b, off + j * 4, none⟩ = some (.string ts[j].role) ∧ w.cell? ⟨b, off + j * 4 + 1, none⟩ = some (.string ts[j].kind) ∧ w.cell? ⟨b, off + j * 4 + 2, none⟩ = some (.string ts[j].phase) ∧
    w.cell? ⟨b, off + j * 4 + 3, none⟩ = some (.slice ts[j].wa ts[j].ws.length ts[j].wc) ∧ StrsAt w ts[j].wa ts[j].ws ∧ (ts[j].wa = none → ts[j].ws = [] ∧ ts[j].wc = 0) ∧ ts[j].ws.length ≤ maxLen

theorem TasksAt.at {w : World} {a : Option Addr} {ts : List Tk} (h : TasksAt w a ts) {j : Nat} (hj : j < ts.length) :
    ∃ b off, a = some ⟨b, off, none⟩ ∧ w.cell? ⟨b, off + j * 4, none⟩ = some (.string ts[j].role) ∧ w.cell? ⟨b, off + j * 4 + 1, none⟩ = some (.string ts[j].kind) ∧ w.cell? ⟨b, off + j * 4 + 2, none⟩ = some (.string ts[j].phase) ∧
    w.cell? ⟨b, off + j * 4 + 3, none⟩ = some (.slice ts[j].wa ts[j].ws.length ts[j].wc) ∧ StrsAt w ts[j].wa ts[j].ws ∧ (ts[j].wa = none → ts[j].ws = [] ∧ ts[j].wc = 0) ∧ ts[j].ws.length ≤ maxLen := by
  rcases h with h | ⟨b, off, ha, hc⟩
  · subst h; simp at hj
  · exact ⟨b, off, ha, hc j hj⟩

theorem TasksAt.later {w w' : World} {a : Option Addr} {ts : List Tk} (h : TasksAt w a ts) (hb : Below w.heap.size w w') : TasksAt w' a ts := by
  rcases h with h | ⟨b, off, ha, hc⟩
  · exact .inl h
  · refine .inr ⟨b, off, ha, fun j hj => ?_⟩
    obtain ⟨h1, h2, h3, h4, h5, h6, h7⟩ := hc j hj
    exact ⟨cell_later hb h1, cell_later hb h2, cell_later hb h3, cell_later hb h4, h5.later hb, h6, h7⟩

/-- It hands back a bool; if that is true, 'p' holds. -/
def BoolT (e : Ending) (p : Prop) : Prop := ∃ b, e = .returned (.bool b) ∧ (b = true → p)
theorem BoolT.yes {p : Prop} (h : p) : BoolT (.returned (.bool true)) p := ⟨true, rfl, fun _ => h⟩
theorem BoolT.no {p : Prop} : BoolT (.returned (.bool false)) p := ⟨false, rfl, fun h => by cases h⟩
/-- It hands back some int. -/
def SomeInt (e : Ending) : Prop := ∃ z, e = .returned (.int .i64 z)

theorem below_drewN {B : Nat} {a w : World} (h : Below B a w) (n : Nat) : Below B a (w.drewN n) := h.trans ⟨rfl, rfl, rfl, Nat.le_refl _, fun _ _ => rfl⟩
theorem Try.cells9 : Try.prog.cellsOf 9 = 1 := by kernel_rfl
theorem Try.cells30 : Try.prog.cellsOf 30 = 1 := by kernel_rfl
theorem Try.cells33 : Try.prog.cellsOf 33 = 4 := by kernel_rfl
theorem Try.own : ownKnob Try.prog.godebug = none := by kernel_rfl
theorem Try.laidOut : laidOutB Try.prog = true := by kernel_rfl
end Go.Proofs.Qxb6602089a
