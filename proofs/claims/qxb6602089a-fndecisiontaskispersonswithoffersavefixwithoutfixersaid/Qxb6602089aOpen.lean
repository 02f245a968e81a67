import Derived.Test.Qxb6602089aBase
import Derived.Deep.Slices
namespace Go.Proofs.Qxb6602089a
open Go.ChangeShapes Go.WideShapes Go.ChangeAt Go.RowKit Go.Deep

section
variable {H : Type} {enc : TypeId × Value → H} {W : World}

/-- A slice of strings, opened where it lies. -/
theorem strs_of {fuel : Nat} {v : Value} {x : DataW H × List MemPlace} (hf : DataW.trod enc Try.prog W 0 (fun _ => true) true fuel 30 [v] = some x) :
    ∃ (a : Option Addr) (c : Nat) (ss : List ByteArray), v = .slice a ss.length c ∧ StrsAt W a ss ∧ (a = none → ss = [] ∧ c = 0) ∧ ss.length ≤ maxLen := by
  rcases open_slice1 Try.underlying30 Try.cells9 hf with ⟨hcs, _⟩ | ⟨x, l, cp, m, k, V, D, Pl, hcs, _, hl, hm, hz, _, hx⟩
  · simp at hcs
    subst hcs
    exact ⟨none, 0, [], rfl, .inl rfl, fun _ => ⟨rfl, rfl⟩, by simp⟩
  · simp at hcs
    subst hcs
    simp only [if_true] at hz
    subst hz
    have each : ∀ i, i < l → ∃ r : ByteArray, W.cell? (x.add i) = some (.string r) := by
      intro i hi
      obtain ⟨c1, t1⟩ := hx i (by omega)
      obtain ⟨s1, e1, _, _⟩ := DataW.trod_string Try.underlying9 t1
      simp at e1
      exact ⟨s1, by rw [c1, e1]⟩
    obtain ⟨F, hF⟩ := choose_lt (α := ByteArray) each
    refine ⟨some x, m, (List.range l).map F, by simp, ?_, (fun h => by cases h), by simp; omega⟩
    by_cases h0 : l = 0
    · left; simp [h0]
    · obtain ⟨b, off, spot⟩ := x
      have hspot : spot = none := by simpa [Addr.add] using World.cell?_spot (hF 0 (by omega))
      subst hspot
      refine .inr ⟨b, off, rfl, fun j hj => ?_⟩
      have := hF j (by simpa using hj)
      rw [add_plain] at this
      simpa using this

/-- A slice of strings that came in. -/
theorem open_strs' {a : Option Addr} {n c : Nat} {d : DataW H} {ps : List MemPlace} (h : DataW.Trod enc Try.prog W 0 (fun _ => true) true 30 (.slice a n c) d ps) :
    ∃ ss : List ByteArray, n = ss.length ∧ StrsAt W a ss ∧ (a = none → ss = [] ∧ c = 0) ∧ ss.length ≤ maxLen := by
  obtain ⟨fuel, hf⟩ := h
  obtain ⟨a', c', ss, e, h1, h2, h3⟩ := strs_of (v := .slice a n c) (by simpa [Value.cells] using hf)
  simp at e
  obtain ⟨rfl, rfl, rfl⟩ := e
  exact ⟨ss, rfl, h1, h2, h3⟩

/-- A slice of tasks that came in. -/
theorem open_tasks {a : Option Addr} {n c : Nat} {d : DataW H} {ps : List MemPlace} (h : DataW.Trod enc Try.prog W 0 (fun _ => true) true 22 (.slice a n c) d ps) :
    ∃ ts : List Tk, n = ts.length ∧ TasksAt W a ts ∧ (a = none → ts = [] ∧ c = 0) ∧ ts.length ≤ maxLen := by
  obtain ⟨fuel, hf⟩ := h
  rcases open_slice Try.underlying22 hf with ⟨hcs, _⟩ | ⟨x, l, cp, m, k, D, Pl, hcs, _, hl, hm, hz, _, hx⟩
  · simp [Value.cells] at hcs
    obtain ⟨rfl, rfl, rfl⟩ := hcs
    exact ⟨[], rfl, .inl rfl, fun _ => ⟨rfl, rfl⟩, by simp⟩
  · simp [Value.cells] at hcs
    obtain ⟨rfl, rfl, rfl⟩ := hcs
    simp only [if_true] at hz
    subst hz
    have each : ∀ i, i < n → ∃ t : Tk, W.cell? (x.add (i * 4)) = some (.string t.role) ∧ W.cell? (x.add (i * 4 + 1)) = some (.string t.kind) ∧ W.cell? (x.add (i * 4 + 2)) = some (.string t.phase) ∧ W.cell? (x.add (i * 4 + 3)) = some (.slice t.wa t.ws.length t.wc) ∧
        StrsAt W t.wa t.ws ∧ (t.wa = none → t.ws = [] ∧ t.wc = 0) ∧ t.ws.length ≤ maxLen := by
      intro i hi
      obtain ⟨cs', g1, g2⟩ := hx i (by omega)
      rw [Try.cells33] at g1
      obtain ⟨_, hlen, hcell⟩ := World.cells?_some g1
      obtain ⟨xs, kk, hk, hxy, _, hxl, hfld⟩ := DataW.trod_struct Try.underlying33 g2
      match xs, hxl, cs', hlen with
      | [y0, y1, y2, y3], _, [v0, v1, v2, v3], _ =>
        have t0 := hfld 0 _ rfl
        have t1 := hfld 1 _ rfl
        have t2 := hfld 2 _ rfl
        have t3 := hfld 3 _ rfl
        simp [Try.cells9, Try.cells30] at t0 t1 t2 t3
        have e0 := hcell 0 (by omega)
        have e1 := hcell 1 (by omega)
        have e2 := hcell 2 (by omega)
        have e3 := hcell 3 (by omega)
        rw [add_add] at e0 e1 e2 e3
        obtain ⟨s0, q0, _, _⟩ := DataW.trod_string Try.underlying9 t0
        obtain ⟨s1, q1, _, _⟩ := DataW.trod_string Try.underlying9 t1
        obtain ⟨s2, q2, _, _⟩ := DataW.trod_string Try.underlying9 t2
        obtain ⟨wa, wc, ws, q3, r1, r2, r3⟩ := strs_of t3
        simp at q0 q1 q2
        subst q0 q1 q2 q3
        exact ⟨⟨s0, s1, s2, wa, wc, ws⟩, by simpa using e0, by simpa using e1, by simpa using e2, by simpa using e3, r1, r2, r3⟩
    have inh : Inhabited Tk := ⟨⟨⟨#[]⟩, ⟨#[]⟩, ⟨#[]⟩, none, 0, []⟩⟩
    obtain ⟨F, hF⟩ := choose_lt (α := Tk) each
    refine ⟨(List.range n).map F, by simp, ?_, (fun h => by cases h), by simp; omega⟩
    by_cases h0 : n = 0
    · left; simp [h0]
    · obtain ⟨b, off, spot⟩ := x
      have hspot : spot = none := by simpa [Addr.add] using World.cell?_spot (hF 0 (by omega)).1
      subst hspot
      refine .inr ⟨b, off, rfl, fun j hj => ?_⟩
      have := hF j (by simpa using hj)
      rw [add_plain, add_plain, add_plain, add_plain] at this
      simpa [Nat.add_assoc] using this
end
end Go.Proofs.Qxb6602089a
