import Derived.Test.Qxb6602089aBase
namespace Go.Proofs.Qxb6602089a
open Go.ChangeShapes Go.WideShapes Go.ChangeAt Go.RowKit

/-- Block g holds the values 'f 0', 'f 1', .. from its head on, 'n' of them in use; it has 'm' cells. -/
def Blk (w : World) (g : Nat) (e : TypeId) (m : Nat) (n : Nat) (f : Nat → Value) : Prop :=
  ∃ cs : Array Value, w.heap[g]? = some (.cells cs e (0, 0)) ∧ cs.size = m ∧ ∀ j, j < n → cs[j]? = some (f j)

section
variable {w w' : World} {g : Nat} {e : TypeId} {m n : Nat} {f : Nat → Value}
theorem Blk.cell (h : Blk w g e m n f) {j : Nat} (hj : j < n) : w.cell? ⟨g, j, none⟩ = some (f j) := by
  obtain ⟨cs, hg, hs, hc⟩ := h
  rw [cell_of_row w g _ cs e _ hg]; exact hc j hj
theorem Blk.room (h : Blk w g e m n f) {o : Nat} (ho : o < m) : ∃ v, w.cell? ⟨g, o, none⟩ = some v ∧ w.frozen? ⟨g, o, none⟩ = false := by
  obtain ⟨cs, hg, hs, hc⟩ := h
  refine ⟨cs[o]'(by omega), ?_, frozen_of_row w g o cs e hg⟩
  rw [cell_of_row w g _ cs e _ hg]
  simp [show o < cs.size by omega]
theorem Blk.snoc (h : Blk w g e m n f) (hn : n < m) : Blk (w.setCell ⟨g, n, none⟩ (f n)) g e m (n + 1) f := by
  obtain ⟨cs, hg, hs, hc⟩ := h
  refine ⟨_, heap_setCell_same _ g _ cs e _ hg, by simp [hs], fun j hj => ?_⟩
  by_cases ej : j = n
  · subst ej; rw [Array.getElem?_setIfInBounds_self_of_lt (by omega)]
  · rw [Array.getElem?_setIfInBounds_ne (by omega)]; exact hc j (by omega)
theorem Blk.kept (h : Blk w g e m n f) (hb : w'.heap[g]? = w.heap[g]?) : Blk w' g e m n f := by
  obtain ⟨cs, hg, r⟩ := h
  exact ⟨cs, hb.trans hg, r⟩
theorem Blk.lt (h : Blk w g e m n f) : g < w.heap.size := by
  obtain ⟨cs, hg, _⟩ := h
  exact (Array.getElem?_eq_some_iff.1 hg).1
end

def made1 (n : Nat) : Array Value := madeCells #[.string ⟨#[]⟩] n
theorem size_made1 (n : Nat) : (made1 n).size = n := size_madeCells _ _
theorem Try.info9 : (Try.prog.info? 9).map (fun i => (i.zero, i.size, i.bytes)) = some (some (.string ⟨#[]⟩), 1, 16) := by kernel_rfl

theorem run_make1 (n : Nat) (hn : n ≤ 1048576) (w : World) :
    (Instr.makeSlice 30 (.int .i64 (n : Int)) (.int .i64 (n : Int))).run Try.prog w = .ok (.slice (some ⟨w.heap.size, 0, none⟩) n n) (w.alloc (.cells (made1 n) 9)) := by
  obtain ⟨i, hi, hz0, hz1, hz2⟩ := info_parts Try.info9
  have := run_make (P := Try.prog) w 30 9 i _ Try.underlying30 hi hz0 .i64 .i64 (n : Int) (n : Int) (by omega) (Int.le_refl _) (by rw [hz2]; omega) (by omega)
  rw [hz1] at this
  simpa [made1, Value.cells] using this

set_option maxHeartbeats 400000 in
theorem cloneStrs1 (a : Addr) (c : Nat) (ss : List ByteArray) (w : World) (hs : StrsAt w (some a) ss) (hn : ss.length ≤ 1048576) :
    Calls Try.prog 18 #[.slice (some a) ss.length c] w fun e w' => e = .returned (.slice (some ⟨w.heap.size, 0, none⟩) ss.length ss.length) ∧ Blk w' w.heap.size 9 ss.length ss.length (fun j => .string (ss.getD j ⟨#[]⟩)) ∧ Below w.heap.size w w' := by
  have HS := hide hs
  clear hs
  have hmk := run_make1 ss.length hn
  have hnil := fun w => Lib.run_eql_slice_nil (P := Try.prog) w 30 9 (some a) ss.length c 0 0 Try.underlying30
  go_enter Try.func18, Try.ntmps18
  go_wp2
  clear hmk hnil
  go_loopw [4] (fun i wr => ∃ (k : Nat), i = .int .i64 k ∧ k ≤ ss.length ∧ Hid (Blk wr w.heap.size 9 ss.length k (fun j => .string (ss.getD j ⟨#[]⟩))) ∧ Hid (Below w.heap.size w wr)) (fun i _ => ss.length - (intOf i).toNat)
  case atStart => exact ⟨0, rfl, Nat.zero_le _, ⟨made1 ss.length, heap_alloc_new w _, size_made1 _, fun j hj => absurd hj (Nat.not_lt_zero _)⟩, (Below.refl _ _).alloc (Nat.le_refl _) _⟩
  case round =>
    obtain ⟨k, rfl, hk, HK, HB⟩ := hrel
    by_cases hlt : k < ss.length
    · obtain ⟨b, off, e, h1⟩ := StrsAt.at HS.out hlt
      obtain rfl : a = ⟨b, off, none⟩ := by simpa using e
      replace h1 := cell_later HB.out h1
      obtain ⟨v, c1, f1⟩ := Blk.room HK.out (o := k) (by omega)
      clear e
      go_wp2
      go_roundw
      case rel =>
        refine ⟨k + 1, by go_num, by omega, ?_, ?_⟩
        · have := Blk.snoc HK.out (by omega)
          rw [show ss.getD k ⟨#[]⟩ = ss[k] by simp [List.getD, hlt]] at this
          exact this
        · exact HB.out.setCell (p := ⟨_, _, _⟩) (Nat.le_refl _) _
      case measure => simp [intOf]; omega
    · go_wp2
      go_ret
      obtain rfl : k = ss.length := by omega
      exact ⟨rfl, HK.out, HB.out⟩

theorem cloneStrs0 (w : World) : Calls Try.prog 18 #[.slice none 0 0] w fun e w' => e = .returned (.slice none 0 0) ∧ w = w' := by
  have hnil := fun w => Lib.run_eql_slice_nil (P := Try.prog) w 30 9 none 0 0 0 0 Try.underlying30
  go_enter Try.func18, Try.ntmps18
  go_wp2
  go_ret
  exact ⟨rfl, rfl⟩

/-- The clone of a slice of strings: the same strings. -/
theorem cloneStrsW (a : Option Addr) (c : Nat) (ss : List ByteArray) (w : World) (hs : StrsAt w a ss) (h0 : a = none → ss = [] ∧ c = 0) (hn : ss.length ≤ 1048576) :
    Calls Try.prog 18 #[.slice a ss.length c] w fun e w' => ∃ a' c', e = .returned (.slice a' ss.length c') ∧ StrsAt w' a' ss ∧ (a' = none → ss = [] ∧ c' = 0) ∧ Below w.heap.size w w' := by
  cases a with
  | none =>
    obtain ⟨rfl, rfl⟩ := h0 rfl
    refine (cloneStrs0 w).mono ?_
    rintro e w' ⟨rfl, rfl⟩
    exact ⟨none, 0, rfl, .inl rfl, fun _ => ⟨rfl, rfl⟩, Below.refl _ _⟩
  | some a =>
    refine (cloneStrs1 a c ss w hs hn).mono ?_
    rintro e w' ⟨rfl, h1, h2⟩
    refine ⟨_, _, rfl, .inr ⟨_, 0, rfl, fun j hj => ?_⟩, (fun h => by cases h), h2⟩
    rw [Nat.zero_add, h1.cell hj]
    simp [List.getD, hj]
end Go.Proofs.Qxb6602089a
