import Derived.Test.Qxb6602077aWalkC
namespace Go.Proofs.Qxb6602077a
open Go.ChangeShapes Go.WideShapes Go.ChangeAt Go.RowKit

theorem Try.info39 : (Try.prog.info? 39).map (fun i => (i.zero, i.size, i.bytes)) = some (some (.agg #[.string ⟨#[]⟩, .string ⟨#[]⟩]), 2, 32) := by kernel_rfl

section
variable {B : Nat} {w : World} {sb : Nat} {f h : ByteArray} {a : Option Addr} {c : Nat} {rs : List Rf}

theorem headW (s : StAt B w sb f h a c rs) : Calls Try.prog 18 #[.pointer (some ⟨sb, 0, none⟩)] w fun e w' => e = .returned (.string h) ∧ w = w' := by
  obtain ⟨h0, h1, h2, -, -⟩ := s.cell
  clear s
  go_enter Try.func18, Try.ntmps18
  go_wp2
  go_ret
  exact ⟨rfl, rfl⟩
theorem formatW (s : StAt B w sb f h a c rs) : Calls Try.prog 19 #[.pointer (some ⟨sb, 0, none⟩)] w fun e w' => e = .returned (.string f) ∧ w = w' := by
  obtain ⟨h0, h1, h2, -, -⟩ := s.cell
  clear s
  go_enter Try.func19, Try.ntmps19
  go_wp2
  go_ret
  exact ⟨rfl, rfl⟩
theorem countW (s : StAt B w sb f h a c rs) : Calls Try.prog 31 #[.pointer (some ⟨sb, 0, none⟩)] w fun e w' => e = .returned (.int .i64 rs.length) ∧ w = w' := by
  obtain ⟨h0, h1, h2, -, -⟩ := s.cell
  clear s
  go_enter Try.func31, Try.ntmps31
  go_wp2
  go_ret
  exact ⟨rfl, rfl⟩
set_option maxHeartbeats 400000 in
theorem atW (s : StAt B w sb f h a c rs) (k : Nat) (hk : k < rs.length) : Calls Try.prog 32 #[.pointer (some ⟨sb, 0, none⟩), .int .i64 k] w fun e w' => e = .returned (.tuple #[.string rs[k].1, .string rs[k].2]) ∧ ∃ q, w' = w.drewN q := by
  obtain ⟨h0, h1, h2, -, -⟩ := s.cell
  obtain ⟨b, off, rfl, g1, g2⟩ := s.refs.at hk
  clear s
  go_enter Try.func32, Try.ntmps32
  go_wp2
  go_quiet (fail)
  go_wp2
  go_ret2
  exact ⟨rfl, _, rfl⟩
end

theorem below_drewN {B : Nat} {a w : World} (h : Below B a w) (n : Nat) : Below B a (w.drewN n) := h.trans ⟨rfl, rfl, rfl, Nat.le_refl _, fun _ _ => rfl⟩

set_option maxHeartbeats 400000 in
theorem readW {B : Nat} {w : World} {sb : Nat} {f h : ByteArray} {a : Option Addr} {c : Nat} {rs : List Rf} (s : StAt B w sb f h a c rs) (hn : rs.length ≤ 1048576) :
    Calls Try.prog 16 #[.pointer (some ⟨sb, 0, none⟩)] w fun e w' => e = .returned (.slice (some ⟨w.heap.size, 0, none⟩) rs.length rs.length) ∧ RowBlk w' w.heap.size 39 rs.length rs ∧ Below w.heap.size w w' := by
  have hmk := run_make2 Try.underlying22 Try.info39 rs.length (by omega)
  have S : Hid _ := s
  clear s
  go_enter Try.func16, Try.ntmps16
  go_wp2_with (go_at_call 31; refine (countW (Hid.out S)).mono ?_; rintro e w' ⟨rfl, rfl⟩)
  clear hmk
  go_loopw [5, 6, 7] (fun i _ _ wr => ∃ (k : Nat), i = .int .i64 k ∧ k ≤ rs.length ∧ RowBlk wr w.heap.size 39 rs.length (rs.take k) ∧ Hid (Below w.heap.size w wr)) (fun i _ _ _ => rs.length - (intOf i).toNat)
  case atStart => exact ⟨0, rfl, Nat.zero_le _, rowBlk_made _ _ _, (Below.refl _ _).alloc (Nat.le_refl _) _⟩
  case round =>
    obtain ⟨k, rfl, hk, hrow, HB⟩ := hrel
    by_cases hlt : k < rs.length
    · obtain ⟨v1, h3, h4⟩ := hrow.room (o := k * 2) (by omega)
      obtain ⟨v2, h5, h6⟩ := hrow.room (o := k * 2 + 1) (by omega)
      have HROW : Hid _ := hrow
      clear hrow
      go_wp2_with (go_at_call 32; refine (atW (StAt.kept (Hid.out S) HB.out) k hlt).mono ?_; rintro e w' ⟨rfl, q, rfl⟩)
      go_roundw
      case rel =>
        refine ⟨k + 1, by go_num, by omega, ?_, ?_⟩
        · have := RowBlk.snoc HROW.out rs[k] (by simp; omega)
          rw [List.take_succ_eq_append_getElem hlt]
          simp only [List.length_take, Nat.min_eq_left hk] at this
          exact this
        · exact below_drewN ((HB.out.setCell (p := ⟨_, _, _⟩) (Nat.le_refl _) _).setCell (p := ⟨_, _, _⟩) (Nat.le_refl _) _) _
      case measure => simp [intOf]; omega
    · go_wp2
      go_ret
      have : k = rs.length := by omega
      subst this
      simp only [List.take_length] at hrow
      exact ⟨rfl, hrow, HB.out⟩

set_option maxHeartbeats 400000 in
theorem equalW (a b : Option Addr) (c d : Nat) (rs : List Rf) (w : World) (ha : RefsAt w a rs) (hb : RefsAt w b rs) (hn : rs.length ≤ maxLen) :
    Calls Try.prog 15 #[.slice a rs.length c, .slice b rs.length d] w fun e w' => e = .returned (.bool true) ∧ ∃ q, w' = w.drewN q := by
  unfold maxLen at hn
  have HA : Hid _ := ha
  have HB : Hid _ := hb
  clear ha hb
  go_enter Try.func15, Try.ntmps15
  go_wp2
  go_loopw [5] (fun i wr => ∃ (k q : Nat), i = .int .i64 k ∧ k ≤ rs.length ∧ wr = w.drewN q) (fun i _ => rs.length - (intOf i).toNat)
  case atStart => exact ⟨0, 0, rfl, Nat.zero_le _, rfl⟩
  case round =>
    obtain ⟨k, q, rfl, hk, rfl⟩ := hrel
    by_cases hlt : k < rs.length
    · obtain ⟨b1, off1, rfl, h1, h2⟩ := RefsAt.at (Hid.out HA) hlt
      obtain ⟨b2, off2, rfl, h3, h4⟩ := RefsAt.at (Hid.out HB) hlt
      go_wp2
      go_quiet (fail)
      go_wp2
      go_roundw
      case rel => exact ⟨k + 1, _, by go_num, by omega, rfl⟩
      case measure => simp [intOf]; omega
    · go_wp2
      go_ret
      exact ⟨rfl, _, rfl⟩
end Go.Proofs.Qxb6602077a
