import Derived.Test.Qxb6602136aDoorBase
import Derived.Deep.Slices
import Derived.LaidMore
import Derived.Lib.LaidTab
import Derived.Stop.Joined
namespace Go.Proofs.Qxb6602136aDoor
open Go.ChangeShapes Go.WideShapes Go.ChangeAt Go.RowKit Go.Deep

section
variable {H : Type} {enc : TypeId × Value → H} {W : World}

/-- A slice of strings, opened where it lies. -/
theorem strs_of {fuel : Nat} {v : Value} {x : DataW H × List MemPlace} (hf : DataW.trod enc Tryd.prog W 0 (fun _ => true) true fuel 27 [v] = some x) :
    ∃ (a : Option Addr) (c : Nat) (ss : List ByteArray), v = .slice a ss.length c ∧ StrsAt W a ss ∧ (a = none → ss = [] ∧ c = 0) ∧ ss.length ≤ maxLen := by
  rcases open_slice1 Tryd.underlying27 Tryd.cells9 hf with ⟨hcs, _⟩ | ⟨x, l, cp, m, k, V, D, Pl, hcs, _, hl, hm, hz, _, hx⟩
  · simp at hcs
    subst hcs
    exact ⟨none, 0, [], rfl, .inl rfl, fun _ => ⟨rfl, rfl⟩, by simp⟩
  · simp at hcs
    subst hcs
    simp only [if_true] at hz
    subst hz
    have each : ∀ i, i < l → ∃ r : ByteArray, W.cell? (x.add i) = some (.string r) := by
      intro i hi
      obtain ⟨c1, t1⟩ := hx i (by omega)
      obtain ⟨s1, e1, _, _⟩ := DataW.trod_string Tryd.underlying9 t1
      simp at e1
      exact ⟨s1, by rw [c1, e1]⟩
    obtain ⟨F, hF⟩ := choose_lt (α := ByteArray) each
    refine ⟨some x, m, (List.range l).map F, by simp, ?_, (fun h => by cases h), by simp; omega⟩
    by_cases h0 : l = 0
    · left; simp [h0]
    · obtain ⟨b, off, spot⟩ := x
      have hspot : spot = none := by simpa [Addr.add] using World.cell?_spot (hF 0 (by omega))
      subst hspot
      refine .inr ⟨b, off, rfl, fun j hj => ?_⟩
      have := hF j (by simpa using hj)
      rw [add_plain] at this
      simpa using this

/-- A slice of strings that came in. -/
theorem open_strs' {a : Option Addr} {n c : Nat} {d : DataW H} {ps : List MemPlace} (h : DataW.Trod enc Tryd.prog W 0 (fun _ => true) true 27 (.slice a n c) d ps) :
    ∃ ss : List ByteArray, n = ss.length ∧ StrsAt W a ss ∧ (a = none → ss = [] ∧ c = 0) ∧ ss.length ≤ maxLen := by
  obtain ⟨fuel, hf⟩ := h
  obtain ⟨a', c', ss, e, h1, h2, h3⟩ := strs_of (v := .slice a n c) (by simpa [Value.cells] using hf)
  simp at e
  obtain ⟨rfl, rfl, rfl⟩ := e
  exact ⟨ss, rfl, h1, h2, h3⟩

end

theorem gSyn : Tryd.prog.globalNamed "strconv.ErrSyntax" = some 0 := by kernel_rfl
theorem gRng : Tryd.prog.globalNamed "strconv.ErrRange" = some 1 := by kernel_rfl
theorem gTab : Tryd.prog.globalNamed "internal/strconv.uint64pow10" = some 2 := by kernel_rfl
theorem tSyn : (Tryd.prog.globals[0]?).map (·.type) = some 42 := by kernel_rfl
theorem tRng : (Tryd.prog.globals[1]?).map (·.type) = some 42 := by kernel_rfl
theorem tTab : (Tryd.prog.globals[2]?).map (·.type) = some 90 := by kernel_rfl
theorem cTab : Tryd.prog.cellsOf 90 = 20 := by kernel_rfl

/-- What the rows list. -/
abbrev laid5 : List (String × DataW Unit) := Rows.fnLogFilesMatchesModelRow.laid

theorem iface_of {W : World} {fuel : Nat} {t : TypeId} {ms : Array (String × TypeId)} {cs : List Value} {x : DataW Unit × List MemPlace} (ht : Tryd.prog.underlying t = some (.interface ms))
    (h : DataW.trod (fun _ => ()) Tryd.prog W 0 (fun _ => true) false fuel t cs = some x) : cs = [.nilIface] ∨ ∃ u v, cs = [.iface u v] := by
  cases fuel with
  | zero => simp [DataW.trod] at h
  | succ fuel =>
    simp only [DataW.trod, ht] at h
    split at h <;> first | (exact .inl rfl) | (exact .inr ⟨_, _, rfl⟩) | (simp_all; done)

theorem err_at {W : World} {name : String} {g : Nat} {fuel : Nat} {t : TypeId} {ms : Array (String × TypeId)} {cs : Array Value} {x : DataW Unit × List MemPlace} (hg : Tryd.prog.globalNamed name = some g) (hv : W.var? Tryd.prog name = some cs)
    (ht : Tryd.prog.underlying t = some (.interface ms)) (h : DataW.trod (fun _ => ()) Tryd.prog W 0 (fun _ => true) false fuel t cs.toList = some x) : ErrAt W g := by
  have hc := World.var?_cell hg hv 0
  rcases iface_of ht h with e | ⟨u, v, e⟩
  · rw [Array.eq_one_of_toList e] at hc
    exact ⟨_, by simpa using hc, .inl rfl⟩
  · rw [Array.eq_one_of_toList e] at hc
    exact ⟨_, by simpa using hc, .inr ⟨u, v, rfl⟩⟩

/-- What the condition gives the walks. -/
theorem vars_of_laid {W : World} (h : laidMetH Tryd.prog laid5 W) : Vars W := by
  rw [MakeChecks.laidMetH_plain _ _ _ (by kernel_rfl)] at h
  obtain ⟨ps, ⟨g0, t0, cs0, f0, p0, q0, _, _, _, _, ⟨g1, t1, cs1, f1, p1, q1, _, _, _, _, ⟨g2, t2, cs2, f2, p2, q2, hg2, ht2, hv2, hd2, ⟨g3, t3, cs3, f3, p3, q3, hg3, ht3, hv3, hd3, ⟨g4, t4, cs4, f4, p4, q4, hg4, ht4, hv4, hd4, _, _⟩, _⟩, _⟩, _⟩, _⟩, _, _⟩ := h
  obtain rfl := Option.some.inj (gTab.symm.trans hg2)
  obtain rfl := Option.some.inj (gRng.symm.trans hg3)
  obtain rfl := Option.some.inj (gSyn.symm.trans hg4)
  obtain rfl := Option.some.inj (tTab.symm.trans ht2)
  obtain rfl := Option.some.inj (tRng.symm.trans ht3)
  obtain rfl := Option.some.inj (tSyn.symm.trans ht4)
  refine ⟨?_, err_at hg4 hv4 Tryd.underlying42 hd4, err_at hg3 hv3 Tryd.underlying42 hd3⟩
  have e : (Rows.laid_internal_strconv_uint64pow10 : DataW Unit) = Lib.tabData .u64 Lib.pow10Tab := by rfl
  rw [e] at hd2
  unfold Lib.TabIs
  rw [hv2, ← Lib.cells_of_tab Tryd.underlying90 Tryd.underlying36 (by kernel_rfl) cTab hd2]

/-- The door's own heap meets the condition. -/
theorem door_met (os : Os) (args : Array Value) : laidMetH Tryd.prog laid5 ((World.doorLaid Tryd.prog 400 os).forCall (fun _ _ => 0) ⟨#[], args, []⟩).memory :=
  laidMetH_of_parts3 (fuel := 8) (laidMet_of_run' 8 (by kernel_rfl) (by kernel_rfl)) (by kernel_rfl) (by kernel_rfl)
end Go.Proofs.Qxb6602136aDoor
