/-
  Rows of refs, cell by cell: what a run of stores into a block leaves; copy and clear at elements of two cells.
-/
import Derived.Test.Qxb6602077aWalkG
import Derived.Laws.IdiomCopy
import Derived.Lib.SliceRun
namespace Go.Proofs.Qxb6602077a
open Go.ChangeShapes Go.WideShapes Go.ChangeAt Go.RowKit

/-- The cells of a list of refs. -/
def flat : List Rf → List Value
  | [] => []
  | r :: rs => .string r.1 :: .string r.2 :: flat rs
theorem flat_append (a b : List Rf) : flat (a ++ b) = flat a ++ flat b := by
  induction a with
  | nil => rfl
  | cons r a ih => simp [flat, ih]
theorem flat_length (a : List Rf) : (flat a).length = a.length * 2 := by
  induction a with
  | nil => rfl
  | cons r a ih => simp [flat, ih]; omega
theorem flat_get (a : List Rf) : ∀ (j : Nat) (h : j < a.length), (flat a)[j * 2]? = some (.string a[j].1) ∧ (flat a)[j * 2 + 1]? = some (.string a[j].2) := by
  induction a with
  | nil => intro j h; simp at h
  | cons r a ih =>
    intro j h
    cases j with
    | zero => simp [flat]
    | succ j =>
      have := ih j (by simpa using h)
      rw [show (j + 1) * 2 = j * 2 + 2 by omega, show j * 2 + 2 + 1 = (j * 2 + 1) + 2 by omega]
      simpa [flat] using this
theorem flat_one (a : List Rf) : ∀ v ∈ flat a, v.oneCell' = true := by
  induction a with
  | nil => simp [flat]
  | cons r a ih =>
    intro v hv
    simp [flat] at hv
    rcases hv with rfl | rfl | hv
    · rfl
    · rfl
    · exact ih v hv

/-- The block's cells, as one list: the refs' and what lies behind them. -/
theorem RowBlk.list {w : World} {g : Nat} {e : TypeId} {cap : Nat} {rs : List Rf} (h : RowBlk w g e cap rs) : ∃ R : List Value, w.heap[g]? = some (.cells (flat rs ++ R).toArray e (0, 0)) ∧ rs.length * 2 + R.length = cap * 2 := by
  obtain ⟨cs, hg, hs, hl, hc⟩ := h
  have hle : rs.length * 2 ≤ cs.size := by omega
  refine ⟨cs.toList.drop (rs.length * 2), ?_, by simp [hs]; omega⟩
  rw [hg]
  have key : cs.toList.take (rs.length * 2) = flat rs := by
    apply List.ext_getElem?
    intro t
    by_cases ht : t < rs.length * 2
    · rw [List.getElem?_take_of_lt ht, Array.getElem?_toList]
      have hj : t / 2 < rs.length := by omega
      obtain ⟨a1, a2⟩ := hc (t / 2) hj
      obtain ⟨b1, b2⟩ := flat_get rs (t / 2) hj
      rcases Nat.mod_two_eq_zero_or_one t with h | h
      · rw [show t = t / 2 * 2 by omega, a1, b1]
      · rw [show t = t / 2 * 2 + 1 by omega, a2, b2]
    · rw [List.getElem?_eq_none (by simp; omega), List.getElem?_eq_none (by rw [flat_length]; omega)]
  rw [← key, List.take_append_drop]
theorem rowBlk_of_list {w : World} {g : Nat} {e : TypeId} {cap : Nat} {rs : List Rf} {R : List Value} (h : w.heap[g]? = some (.cells (flat rs ++ R).toArray e (0, 0))) (hl : rs.length * 2 + R.length = cap * 2) : RowBlk w g e cap rs := by
  refine ⟨_, h, by simp [flat_length, hl], by omega, fun j hj => ?_⟩
  obtain ⟨b1, b2⟩ := flat_get rs j hj
  have f := flat_length rs
  rw [List.getElem?_toArray, List.getElem?_toArray, List.getElem?_append_left (by omega), List.getElem?_append_left (by omega)]
  exact ⟨b1, b2⟩

/-- A run of stores into the middle of a block. -/
theorem heap_setCells (g : Nat) (e : TypeId) : ∀ (vs A X C : List Value) (w : World), w.heap[g]? = some (.cells (A ++ (X ++ C)).toArray e (0, 0)) → X.length = vs.length →
    (w.setCells g A.length vs).heap[g]? = some (.cells (A ++ (vs ++ C)).toArray e (0, 0))
  | [], A, X, C, w, h, hx => by
    have : X = [] := List.eq_nil_of_length_eq_zero (by simpa using hx)
    subst this
    simpa [World.setCells] using h
  | v :: vs, A, [], C, w, h, hx => by simp at hx
  | v :: vs, A, x :: X, C, w, h, hx => by
    have h1 := heap_setCell_same w g A.length _ e v h
    have e1 : ((A ++ (x :: X ++ C)).toArray.setIfInBounds A.length v) = ((A ++ [v]) ++ (X ++ C)).toArray := by
      simp
    rw [e1] at h1
    have h2 := heap_setCells g e vs (A ++ [v]) X C _ h1 (by simpa using hx)
    simp only [List.length_append, List.length_singleton] at h2
    rw [World.setCells]
    simpa using h2

theorem heap_setCells_other (g : Nat) : ∀ (vs : List Value) (o : Nat) (w : World) (k : Nat), k ≠ g → (w.setCells g o vs).heap[k]? = w.heap[k]?
  | [], _, _, _, _ => rfl
  | v :: vs, o, w, k, h => by
    rw [World.setCells, heap_setCells_other g vs (o + 1) _ k h, Below.heap_setCell _ _ _ _ h]

theorem setCells_rest (g : Nat) : ∀ (vs : List Value) (o : Nat) (w : World), (w.setCells g o vs).os = w.os ∧ (w.setCells g o vs).tape = w.tape ∧ (w.setCells g o vs).output = w.output ∧ (w.setCells g o vs).heap.size = w.heap.size
  | [], _, _ => ⟨rfl, rfl, rfl, rfl⟩
  | v :: vs, o, w => by
    obtain ⟨a, b, c, d⟩ := setCells_rest g vs (o + 1) (w.setCell ⟨g, o, none⟩ v)
    rw [World.setCells]
    exact ⟨a, b, c, by rw [d]; simp [World.setCell]⟩

theorem grown_setCells (w : World) (g o : Nat) (vs : List Value) : w.grownBy (w.setCells g o vs) (some g) := by
  obtain ⟨a, b, c, d⟩ := setCells_rest g vs o w
  exact ⟨a, b, c, by omega, fun k _ hk => heap_setCells_other g vs o w k (fun e => hk (by rw [e]))⟩

theorem grown_trans {a b c : World} {row : Option Nat} (h : a.grownBy b row) (k : b.grownBy c row) : a.grownBy c row :=
  ⟨k.os.trans h.os, k.tape.trans h.tape, k.output.trans h.output, Nat.le_trans h.size k.size, fun i hi hr => (k.block i (Nat.lt_of_lt_of_le hi h.size) hr).trans (h.block i hi hr)⟩
theorem grown_drewN (w : World) (q : Nat) (row : Option Nat) : w.grownBy (w.drewN q) row := ⟨rfl, rfl, rfl, Nat.le_refl _, fun _ _ _ => rfl⟩

theorem Try.size51 : (Try.prog.info? 51).map (·.size) = some 2 := by
  obtain ⟨i, hi, _, h1, _⟩ := info_parts Try.info51
  rw [hi]; simp [h1]

/-- 'copy(d, s)' at refs: n refs go over; ALL IS READ BEFORE ANYTHING IS WRITTEN. -/
theorem run_copy2 (w : World) (ty : TypeId) (b o dLen dCap : Nat) (a : Addr) (sLen sCap n : Nat) (cs : List Value) (hl : cs.length = n * 2) (hn : n = Nat.min sLen dLen)
    (hsrc : ∀ j v, cs[j]? = some v → w.cell? (a.add j) = some v) (hc : ∀ j, j < cs.length → (w.cell? ⟨b, o + j, none⟩).isSome = true) (hf : ∀ j, j < cs.length → w.frozen? ⟨b, o + j, none⟩ = false) (h1 : ∀ v ∈ cs, v.oneCell' = true) :
    (Builtin.copy_ #[44, 44] ty #[.slice (some ⟨b, o, none⟩) dLen dCap, .slice (some a) sLen sCap]).run Try.prog w = .ok (goInt n) (w.setCells b o cs) := by
  have hld := run_loadCells_list (P := Try.prog) w a cs hsrc
  have hst := run_storeCells_cells (P := Try.prog) b o cs 0 w (by simpa using hc) (by simpa using hf) h1
  obtain ⟨i, hi, _, h2, _⟩ := info_parts Try.info51
  rw [hl] at hld
  simp [Builtin.copy_, run_underlying Try.underlying44, Builtin.lenOf, Builtin.firstCells, sizeOf, typeInfo, hi, h2, ← hn, hld, hst]

/-- 'clear(s)', s one ref long. -/
theorem run_clear2 (w : World) (ty : TypeId) (b o c : Nat) (hc : ∀ j, j < 2 → (w.cell? ⟨b, o + j, none⟩).isSome = true) (hf : ∀ j, j < 2 → w.frozen? ⟨b, o + j, none⟩ = false) :
    (Builtin.clear_ #[44] ty #[.slice (some ⟨b, o, none⟩) 1 c]).run Try.prog w = .ok (.tuple #[]) (w.setCells b o [.string ⟨#[]⟩, .string ⟨#[]⟩]) := by
  obtain ⟨i, hi, hz, h2, _⟩ := info_parts Try.info51
  have hst := run_storeCells_cells (P := Try.prog) b o [.string ⟨#[]⟩, .string ⟨#[]⟩] 0 w (by simpa using hc) (by simpa using hf) (by simp [Value.oneCell'])
  simp only [Nat.add_zero] at hst
  have hzc : (Builtin.zeroCells (Value.agg #[.string ⟨#[]⟩, .string ⟨#[]⟩]).cells 1).toList = [.string ⟨#[]⟩, .string ⟨#[]⟩] := by simp [Builtin.zeroCells, Value.cells, Array.range]
  simp [Builtin.clear_, run_underlying Try.underlying44, zeroValue, typeInfo, hi, hz, hzc, hst]
end Go.Proofs.Qxb6602077a
