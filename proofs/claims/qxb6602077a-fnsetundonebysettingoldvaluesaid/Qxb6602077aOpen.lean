import Derived.Test.Qxb6602077aWalkH
import Derived.Deep.SlicePairs
namespace Go.Proofs.Qxb6602077a
open Go.ChangeShapes Go.WideShapes Go.ChangeAt Go.RowKit Go.Deep

theorem Try.laidOut : laidOutB Try.prog = true := by kernel_rfl

/-- A slice of refs that came in, opened. -/
theorem open_refs {H : Type} {enc : TypeId × Value → H} {W : World} {a : Option Addr} {n c : Nat} {d : DataW H} {ps : List MemPlace}
    (h : DataW.Trod enc Try.prog W 0 (fun _ => true) true 22 (.slice a n c) d ps) : ∃ rs : List Rf, n = rs.length ∧ RefsAt W a rs ∧ rs.length ≤ maxLen := by
  obtain ⟨fuel, hf⟩ := h
  rcases open_slice_pairs Try.underlying22 Try.underlying39 Try.cells39 rfl rfl Try.cells9 Try.cells9 hf with ⟨hcs, _⟩ | ⟨x, l, cp, m, k, V0, V1, D0, D1, P0, P1, hcs, _, hl, hm, hz, _, hx⟩
  · simp [Value.cells] at hcs
    obtain ⟨rfl, rfl, rfl⟩ := hcs
    exact ⟨[], rfl, .inl rfl, by simp⟩
  · simp [Value.cells] at hcs
    obtain ⟨rfl, rfl, rfl⟩ := hcs
    simp only [if_true] at hz
    subst hz
    have each : ∀ i, i < n → ∃ r : Rf, W.cell? (x.add (i * 2)) = some (.string r.1) ∧ W.cell? (x.add (i * 2 + 1)) = some (.string r.2) := by
      intro i hi
      obtain ⟨c1, c2, t1, t2⟩ := hx i (by omega)
      obtain ⟨s1, e1, _, _⟩ := DataW.trod_string Try.underlying9 t1
      obtain ⟨s2, e2, _, _⟩ := DataW.trod_string Try.underlying9 t2
      simp at e1 e2
      exact ⟨(s1, s2), by rw [c1, e1], by rw [c2, e2]⟩
    obtain ⟨F, hF⟩ := choose_lt (α := Rf) each
    refine ⟨(List.range n).map F, by simp, ?_, by simp; omega⟩
    by_cases h0 : n = 0
    · left; simp [h0]
    · obtain ⟨b, off, spot⟩ := x
      have hspot : spot = none := by simpa [Addr.add] using World.cell?_spot (hF 0 (by omega)).1
      subst hspot
      refine .inr ⟨b, off, rfl, fun j hj => ?_⟩
      have := hF j (by simpa using hj)
      rw [add_plain, add_plain] at this
      simpa [Nat.add_assoc] using this
end Go.Proofs.Qxb6602077a
