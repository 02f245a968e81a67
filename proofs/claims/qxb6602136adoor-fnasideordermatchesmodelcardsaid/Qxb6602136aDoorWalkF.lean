import Derived.Test.Qxb6602136aDoorWalkE
namespace Go.Proofs.Qxb6602136aDoor
open Go.ChangeShapes Go.WideShapes Go.ChangeAt Go.RowKit Go.Sort

/-- Block g holds the numbers L, 'n' of them, in 'cap' cells. -/
def Arr (w : World) (g n cap : Nat) (L : List Int) : Prop :=
  L.length = n ∧ ∃ cur : Array Value, w.heap[g]? = some (.cells cur 2 (0, 0)) ∧ cur.size = cap ∧ n ≤ cap ∧ ∀ j (h : j < L.length), cur[j]? = some (.int .i64 L[j])

section
variable {w : World} {g n cap : Nat} {L : List Int}
theorem Arr.cell (h : Arr w g n cap L) {j : Nat} (hj : j < L.length) : w.cell? ⟨g, j, none⟩ = some (.int .i64 L[j]) := by
  obtain ⟨_, cur, hg, _, _, hc⟩ := h
  rw [cell_of_row w g _ cur 2 _ hg]; exact hc j hj
theorem Arr.thaw (h : Arr w g n cap L) (o : Nat) : w.frozen? ⟨g, o, none⟩ = false := by
  obtain ⟨_, cur, hg, _, _, hc⟩ := h
  exact frozen_of_row w g o cur 2 hg
theorem Arr.set (h : Arr w g n cap L) (k : Nat) (x : Int) : Arr (w.setCell ⟨g, k, none⟩ (.int .i64 x)) g n cap (L.set k x) := by
  obtain ⟨h1, cur, hg, hs, hn, hc⟩ := h
  refine ⟨by rw [List.length_set]; exact h1, _, heap_setCell_same _ g _ cur 2 _ hg, by simp [hs], hn, fun j hj => ?_⟩
  rw [List.length_set] at hj
  by_cases ej : j = k
  · subst ej; rw [Array.getElem?_setIfInBounds_self_of_lt (by omega)]; simp
  · rw [Array.getElem?_setIfInBounds_ne (by omega), List.getElem_set_ne (by omega)]; exact hc j hj
theorem Arr.lt (h : Arr w g n cap L) : g < w.heap.size := by
  obtain ⟨_, cur, hg, _⟩ := h
  exact (Array.getElem?_eq_some_iff.1 hg).1
end

theorem Own.arr {B : Nat} {w : World} {g n cap : Nat} {L : List Int} (h : Own B w (.slice (some ⟨g, 0, none⟩) n cap) L) : Arr w g n cap L := by
  rcases h.row.2 with ⟨h0, _⟩ | ⟨g', cap', cur, h1, h2, h3, h4, h5, h6, h7⟩
  · cases h0
  · injection h1 with e1 e2 e3
    injection e1 with e1
    injection e1 with e1
    subst e1 e2 e3
    refine ⟨rfl, cur, h3, by omega, h4, fun j hj => ?_⟩
    have := congrArg (·[j]?) h7
    simp only [Nat.mul_one] at this
    rw [List.getElem?_take_of_lt hj, Array.getElem?_toList] at this
    rw [this]
    simp [hj]

theorem Arr.own {B : Nat} {w : World} {g n cap : Nat} {L : List Int} (h : Arr w g n cap L) (hB : B ≤ g) (hc : cap ≤ maxLen) (h0 : 0 < n) : Own B w (.slice (some ⟨g, 0, none⟩) n cap) L := by
  obtain ⟨h1, cur, hg, hs, hn, hcs⟩ := h
  subst h1
  refine ⟨⟨by simp, .inr ⟨g, cap, cur, rfl, hB, hg, hn, hc, by omega, ?_⟩⟩, ?_⟩
  · apply List.ext_getElem?
    intro j
    rw [Nat.mul_one]
    by_cases hj : j < L.length
    · rw [List.getElem?_take_of_lt hj, Array.getElem?_toList, hcs j hj]
      simp [hj]
    · rw [List.getElem?_take_eq_none (by omega), List.getElem?_eq_none (by simp; omega)]
  · constructor
    · intro h; cases h
    · intro h; subst h; simp at h0

/-- The order: descending or ascending. -/
def ord (desc : Bool) (a b : Int) : Prop := if desc = true then b ≤ a else a ≤ b
theorem ord_trans {desc : Bool} {a b c : Int} (h1 : ord desc a b) (h2 : ord desc b c) : ord desc a c := by
  unfold ord at *
  split at h1 <;> rename_i h <;> simp only [h] at * <;> simp at * <;> omega
def bef (x y : Int) (desc : Bool) : Bool := if desc = true then decide (y < x) else decide (x < y)
theorem bef_yes {x y : Int} {desc : Bool} (h : bef x y desc = true) : ord desc x y := by
  unfold bef at h; unfold ord
  split at h <;> rename_i h1 <;> simp only [h1] <;> simp at * <;> omega
theorem bef_no {x y : Int} {desc : Bool} (h : bef x y desc = false) : ord desc y x := by
  unfold bef at h; unfold ord
  split at h <;> rename_i h1 <;> simp only [h1] <;> simp at * <;> omega

theorem beforeW (x y : Int) (desc : Bool) (w : World) : Calls Tryd.prog 37 #[.int .i64 x, .int .i64 y, .bool desc] w fun e w' => e = .returned (.bool (bef x y desc)) ∧ w = w' := by
  cases desc with
  | true =>
    have e : bef x y true = decide (y < x) := rfl
    rw [e]
    go_enter Tryd.func37, Tryd.ntmps37
    go_wp2
    go_ret
    exact ⟨rfl, rfl⟩
  | false =>
    have e : bef x y false = decide (x < y) := rfl
    rw [e]
    go_enter Tryd.func37, Tryd.ntmps37
    go_wp2
    go_ret
    exact ⟨rfl, rfl⟩

/-- The inner loop's picture: A, a hole at j, C, T. -/
structure Ins (desc : Bool) (xs A C T : List Int) (x : Int) : Prop where
  perm : List.Perm (A ++ x :: (C ++ T)) xs
  srt : (A ++ C).Pairwise (ord desc)
  up : ∀ y ∈ C, ord desc x y

theorem Ins.step {desc : Bool} {xs A C T : List Int} {x y : Int} (h : Ins desc xs (A ++ [y]) C T x) (hb : bef x y desc = true) : Ins desc xs A (y :: C) T x := by
  refine ⟨?_, ?_, ?_⟩
  · refine List.Perm.trans ?_ h.perm
    rw [List.append_assoc]
    refine List.Perm.append_left A ?_
    simp only [List.cons_append, List.nil_append]
    exact List.Perm.swap _ _ _
  · have := h.srt
    rwa [List.append_assoc] at this
  · intro z hz
    rcases List.mem_cons.1 hz with rfl | hz
    · exact bef_yes hb
    · exact h.up z hz

theorem Ins.done {desc : Bool} {xs A C T : List Int} {x : Int} (h : Ins desc xs A C T x) (hA : ∀ A' y, A = A' ++ [y] → bef x y desc = false) : (A ++ x :: C).Pairwise (ord desc) := by
  have hs := List.pairwise_append.1 h.srt
  rw [List.pairwise_append]
  refine ⟨hs.1, List.pairwise_cons.2 ⟨h.up, hs.2.1⟩, fun a ha b hb => ?_⟩
  rcases List.mem_cons.1 hb with rfl | hb
  · rcases List.eq_nil_or_concat A with h0 | ⟨A', y, h0⟩
    · subst h0; cases ha
    · have h0' : A = A' ++ [y] := by simpa using h0
      have hy := bef_no (hA A' y h0')
      subst h0'
      have h2 := List.pairwise_append.1 hs.1
      rcases List.mem_append.1 ha with ha | ha
      · exact ord_trans (h2.2.2 a ha y (by simp)) hy
      · simp at ha; subst ha; exact hy
  · exact hs.2.2 a ha b hb
end Go.Proofs.Qxb6602136aDoor
