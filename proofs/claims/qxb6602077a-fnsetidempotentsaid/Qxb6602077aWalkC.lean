import Derived.Test.Qxb6602077aWalkB
namespace Go.Proofs.Qxb6602077a
open Go.ChangeShapes Go.WideShapes Go.ChangeAt Go.RowKit

theorem Try.info51 : (Try.prog.info? 51).map (fun i => (i.zero, i.size, i.bytes)) = some (some (.agg #[.string ⟨#[]⟩, .string ⟨#[]⟩]), 2, 32) := by kernel_rfl

/-- The state at block sb: its format, its head, its refs (in a block of their own, from B on). -/
def StAt (B : Nat) (w : World) (sb : Nat) (f h : ByteArray) (a : Option Addr) (c : Nat) (rs : List Rf) : Prop :=
  B ≤ sb ∧ w.heap[sb]? = some (.cells #[.string f, .string h, .slice a rs.length c, .slice none 0 0, .slice none 0 0] 48 (0, 0)) ∧ c ≤ maxLen ∧
    ((rs = [] ∧ a = none ∧ c = 0) ∨ ∃ g, a = some ⟨g, 0, none⟩ ∧ B ≤ g ∧ g ≠ sb ∧ RowBlk w g 51 c rs)

theorem StAt.refs {B : Nat} {w : World} {sb : Nat} {f h : ByteArray} {a : Option Addr} {c : Nat} {rs : List Rf} (s : StAt B w sb f h a c rs) : RefsAt w a rs := by
  obtain ⟨_, _, _, ⟨h, _⟩ | ⟨g, rfl, _, _, hr⟩⟩ := s
  · exact .inl h
  · exact hr.refs

theorem StAt.cell {B : Nat} {w : World} {sb : Nat} {f h : ByteArray} {a : Option Addr} {c : Nat} {rs : List Rf} (s : StAt B w sb f h a c rs) :
    w.cell? ⟨sb, 0, none⟩ = some (.string f) ∧ w.cell? ⟨sb, 1, none⟩ = some (.string h) ∧ w.cell? ⟨sb, 2, none⟩ = some (.slice a rs.length c) ∧ w.frozen? ⟨sb, 1, none⟩ = false ∧ w.frozen? ⟨sb, 2, none⟩ = false := by
  obtain ⟨_, hg, _⟩ := s
  refine ⟨?_, ?_, ?_, frozen_of_row w sb _ _ _ hg, frozen_of_row w sb _ _ _ hg⟩ <;> (rw [cell_of_row w sb _ _ _ _ hg]; rfl)

/-- Both blocks as they were: the state as it was. -/
theorem StAt.kept {B : Nat} {w w' : World} {sb : Nat} {f h : ByteArray} {a : Option Addr} {c : Nat} {rs : List Rf} (s : StAt B w sb f h a c rs) (hb : Below w.heap.size w w') : StAt B w' sb f h a c rs := by
  obtain ⟨h1, h2, h3, h4⟩ := s
  refine ⟨h1, (hb.block sb (Array.getElem?_eq_some_iff.1 h2).1).trans h2, h3, ?_⟩
  rcases h4 with h4 | ⟨g, e1, e2, e3, e4⟩
  · exact .inl h4
  · exact .inr ⟨g, e1, e2, e3, e4.kept (hb.block g e4.lt)⟩

set_option maxHeartbeats 400000 in
theorem makeState0 (f h : ByteArray) (w : World) :
    Calls Try.prog 12 #[.string f, .string h, .slice none 0 0] w fun e w' => e = .returned (.pointer (some ⟨w.heap.size, 0, none⟩)) ∧ StAt w.heap.size w' w.heap.size f h none 0 [] ∧ Below w.heap.size w w' := by
  go_enter Try.func12, Try.ntmps12
  go_wp2
  go_ret
  exact ⟨rfl, ⟨Nat.le_refl _, heap_alloc_new w _, Nat.zero_le _, .inl ⟨rfl, rfl, rfl⟩⟩, (Below.refl _ _).alloc (Nat.le_refl _) _⟩

set_option maxHeartbeats 400000 in
theorem makeState1 (f h : ByteArray) (a : Option Addr) (c : Nat) (rs : List Rf) (w : World) (hr : RefsAt w a rs) (hn : rs.length ≤ 32768) (h0 : 0 < rs.length) :
    Calls Try.prog 12 #[.string f, .string h, .slice a rs.length c] w fun e w' => e = .returned (.pointer (some ⟨w.heap.size, 0, none⟩)) ∧ StAt w.heap.size w' w.heap.size f h (some ⟨w.heap.size + 1, 0, none⟩) rs.length rs ∧ Below w.heap.size w w' := by
  have HR : Hid _ := hr
  clear hr
  have hmk := run_make2 Try.underlying44 Try.info51 rs.length (by omega)
  go_enter Try.func12, Try.ntmps12
  go_wp2
  clear hmk
  go_loopw [8] (fun i wr => ∃ (k : Nat), i = .int .i64 k ∧ k ≤ rs.length ∧ RowBlk wr (w.heap.size + 1) 51 rs.length (rs.take k) ∧ Hid (wr.heap[w.heap.size]? = some (.cells #[.string f, .string h, .slice (some ⟨w.heap.size + 1, 0, none⟩) rs.length rs.length, .slice none 0 0, .slice none 0 0] 48 (0, 0))) ∧ Hid (Below w.heap.size w wr)) (fun i _ => rs.length - (intOf i).toNat)
  case atStart =>
    refine ⟨0, rfl, Nat.zero_le _, by simpa using rowBlk_made (w.alloc _) rs.length 51, ?_, ?_⟩
    · show (World.heap _)[w.heap.size]? = _
      rw [Below.heap_alloc _ _ _ (by simp)]
      exact heap_alloc_new w _
    · exact ((Below.refl _ _).alloc (Nat.le_refl _) _).alloc (by simp) _
  case round =>
    obtain ⟨k, rfl, hk, hrow, HS, HB⟩ := hrel
    have g1 : wr.cell? ⟨w.heap.size, 2, none⟩ = some (.slice (some ⟨w.heap.size + 1, 0, none⟩) rs.length rs.length) := by rw [cell_of_row wr _ _ _ _ _ HS.out]; rfl
    by_cases hlt : k < rs.length
    · obtain ⟨b, off, rfl, h1, h2⟩ := RefsAt.at (Hid.out HR) hlt
      obtain ⟨v1, h3, h4⟩ := hrow.room (o := k * 2) (by omega)
      obtain ⟨v2, h5, h6⟩ := hrow.room (o := k * 2 + 1) (by omega)
      replace h1 := cell_later HB.out h1
      replace h2 := cell_later HB.out h2
      have HROW : Hid _ := hrow
      clear hrow
      go_wp2
      go_region
      go_wp2
      go_roundw
      case rel =>
        refine ⟨k + 1, by go_num, by omega, ?_, ?_, ?_⟩
        · have := RowBlk.snoc HROW.out rs[k] (by simp; omega)
          rw [List.take_succ_eq_append_getElem hlt]
          simp only [List.length_take, Nat.min_eq_left hk] at this
          exact this
        · show (World.heap _)[w.heap.size]? = _
          show (World.heap (World.setCell _ _ _))[w.heap.size]? = _
          rw [Below.heap_setCell _ _ _ _ (by simp), Below.heap_setCell _ _ _ _ (by simp)]
          exact HS.out
        · exact ((HB.out.setCell (p := ⟨_, _, _⟩) (Nat.le_succ _) _).setCell (p := ⟨_, _, _⟩) (Nat.le_succ _) _).drew
      case measure => simp [intOf]; omega
    · go_wp2
      go_ret
      have : k = rs.length := by omega
      subst this
      simp only [List.take_length] at hrow
      exact ⟨rfl, ⟨Nat.le_refl _, HS.out, by unfold maxLen; omega, .inr ⟨_, rfl, by omega, by omega, hrow⟩⟩, HB.out⟩
end Go.Proofs.Qxb6602077a
