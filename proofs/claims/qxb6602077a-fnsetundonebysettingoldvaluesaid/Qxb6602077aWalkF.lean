import Derived.Test.Qxb6602077aWalkE
namespace Go.Proofs.Qxb6602077a
open Go.ChangeShapes Go.WideShapes Go.ChangeAt Go.RowKit

section
variable {B : Nat} {w : World} {sb : Nat} {f h : ByteArray} {a : Option Addr} {c : Nat} {rs : List Rf}

/-- Another head: the state with that head. -/
theorem StAt.setHead (s : StAt B w sb f h a c rs) (h' : ByteArray) : StAt B (w.setCell ⟨sb, 1, none⟩ (.string h')) sb f h' a c rs := by
  obtain ⟨h1, h2, h3, h4⟩ := s
  refine ⟨h1, ?_, h3, ?_⟩
  · rw [heap_setCell_same w sb 1 _ _ _ h2]; rfl
  · rcases h4 with h4 | ⟨g, e1, e2, e3, e4⟩
    · exact .inl h4
    · exact .inr ⟨g, e1, e2, e3, e4.kept (Below.heap_setCell _ _ _ _ e3)⟩

theorem StAt.lt (s : StAt B w sb f h a c rs) : sb < w.heap.size := (Array.getElem?_eq_some_iff.1 s.2.1).1
theorem StAt.ge (s : StAt B w sb f h a c rs) : B ≤ sb := s.1

theorem findW (s : StAt B w sb f h a c rs) (hn : rs.length ≤ 1048576) (hs : Srt rs) (name : ByteArray) :
    Calls Try.prog 38 #[.pointer (some ⟨sb, 0, none⟩), .string name] w fun e w' => e = .returned (.tuple #[.int .i64 (pos name rs), .bool (hit name rs)]) ∧ Below w.heap.size w w' := by
  obtain ⟨-, -, h2, -, -⟩ := s.cell
  have hr := searchW a c rs name w s.refs hn hs
  have HR := hide hr
  clear hr s hs
  go_enter Try.func38, Try.ntmps38
  go_wp2_with (go_at_call 42; refine HR.out.mono ?_; rintro e w' ⟨rfl, hb⟩)
  go_ret2
  exact ⟨rfl, hb⟩

set_option maxHeartbeats 400000 in
theorem refW (s : StAt B w sb f h a c rs) (hn : rs.length ≤ 1048576) (hs : Srt rs) (name : ByteArray) :
    Calls Try.prog 36 #[.pointer (some ⟨sb, 0, none⟩), .string name] w fun e w' => (∃ x, e = .returned (.tuple #[.string x, .bool (hit name rs)])) ∧ Below w.heap.size w w' := by
  have S := hide s
  have HS := hide hs
  clear s hs
  have hp := pos_le name rs
  cases ht : hit name rs
  · go_enter Try.func36, Try.ntmps36
    go_wp2_with (go_at_call 38; refine (findW S.out hn HS.out _).mono ?_; rw [ht]; rintro e w' ⟨rfl, hb⟩)
    go_ret2
    exact ⟨⟨_, rfl⟩, hb⟩
  · have hlt : pos name rs < rs.length := by
      unfold hit at ht
      refine Decidable.byContradiction fun hh => ?_
      rw [List.getElem?_eq_none (by omega)] at ht
      cases ht
    obtain ⟨b, off, rfl, g1, g2⟩ := RefsAt.at (StAt.refs S.out) hlt
    obtain ⟨-, -, h2, -, -⟩ := StAt.cell S.out
    go_enter Try.func36, Try.ntmps36
    go_wp2_with (go_at_call 38; refine (findW S.out hn HS.out _).mono ?_; rw [ht]; rintro e w' ⟨rfl, hb⟩; replace g2 := cell_later hb g2; replace h2 := cell_later hb h2)
    go_ret2
    exact ⟨⟨_, rfl⟩, hb⟩
end

set_option maxHeartbeats 400000 in
theorem prefixW (s : ByteArray) (p : ByteArray) (w : World) :
    Calls Try.prog 41 #[.string s, .string p] w fun e w' => e = .returned (.bool (Lib.hasPrefix s.data.toList p.data.toList)) ∧ w = w' := by
  rw [← Lib.hasPrefix_of_take, ← Lib.size_eq, ← Lib.size_eq]
  go_enter Try.func41, Try.ntmps41
  go_wp2
  · rename_i h
    go_ret
    refine ⟨?_, rfl⟩
    show Ending.returned (Value.bool ((s.extract 0 p.size).toList == p.toList)) = _
    rw [Lib.extract_toList, Lib.toList_data]
    simp [h]
  · rename_i h
    go_ret
    refine ⟨?_, rfl⟩
    show Ending.returned (Value.bool false) = _
    simp [h]
end Go.Proofs.Qxb6602077a
