import Derived.Test.Qxb6602077aWalkF
namespace Go.Proofs.Qxb6602077a
open Go.ChangeShapes Go.WideShapes Go.ChangeAt Go.RowKit

theorem StAt.kept' {B : Nat} {w w' : World} {sb : Nat} {f h : ByteArray} {a : Option Addr} {c : Nat} {rs : List Rf} (s : StAt B w sb f h a c rs) (hb : Below w.heap.size w w') : StAt B w' sb f h a c rs ∧ Below B w w' :=
  ⟨s.kept hb, hb.mono (Nat.le_of_lt (Nat.lt_of_le_of_lt s.ge s.lt))⟩

theorem find_at (rs : List Rf) (k : Nat) (hk : k < rs.length) (h1 : ∀ t (h : t < rs.length), t < k → isBranch rs[t] = false) (h2 : isBranch rs[k] = true) : rs.find? isBranch = some rs[k] := by
  rw [List.find?_eq_some_iff_getElem]
  exact ⟨h2, k, hk, rfl, fun j hj => by simp [h1 j (by omega) hj]⟩
theorem find_none (rs : List Rf) (h1 : ∀ t (h : t < rs.length), t < rs.length → isBranch rs[t] = false) : rs.find? isBranch = none := by
  rw [List.find?_eq_none]
  intro r hr
  obtain ⟨t, ht, rfl⟩ := List.getElem_of_mem hr
  simp [h1 t ht ht]

set_option maxHeartbeats 800000 in
theorem pickW {B : Nat} {w : World} {sb : Nat} {f h : ByteArray} {a : Option Addr} {c : Nat} {rs : List Rf} (s : StAt B w sb f h a c rs) (hn : rs.length ≤ 1048576) (hs : Srt rs) :
    Calls Try.prog 33 #[.pointer (some ⟨sb, 0, none⟩)] w fun e w' => e = .returned (.tuple #[]) ∧ StAt B w' sb f (pick h rs) a c rs ∧ Below B w w' := by
  have HS := hide hs
  obtain ⟨-, h1, -, -, -⟩ := s.cell
  have S := hide s
  clear s hs
  cases c1 : hit h rs
  · go_enter Try.func33, Try.ntmps33
    go_wp2_with fail
    refine (refW S.out hn HS.out h).mono ?_
    rw [c1]
    rintro e w1 ⟨⟨x, rfl⟩, hb1⟩
    obtain ⟨s1, b1⟩ := StAt.kept' S.out hb1
    clear hb1 h1
    obtain ⟨-, h1, -, f1, -⟩ := s1.cell
    have S1 := hide s1
    have B1 := hide b1
    clear s1 b1
    go_wp2_with fail
    have s2 := StAt.setHead S1.out ⟨#[]⟩
    have b2 := B1.out.setCell (p := ⟨sb, 1, none⟩) (StAt.ge S1.out) (.string ⟨#[]⟩)
    generalize w1.setCell ⟨sb, 1, none⟩ (.string ⟨#[]⟩) = w2 at s2 b2 ⊢
    refine (refW s2 hn HS.out mainB).mono ?_
    clear h1 f1 S1 B1
    cases c2 : hit mainB rs
    · rintro e w3 ⟨⟨x, rfl⟩, hb3⟩
      obtain ⟨s3, b3⟩ := StAt.kept' s2 hb3
      have B3 := hide (b2.trans b3)
      obtain ⟨-, h1, h2, f1, -⟩ := s3.cell
      have S3 := hide s3
      clear s2 b2 b3 hb3 s3
      go_wp2_with fail
      clear h1 h2 f1
      go_loopw [35] (fun i wr => ∃ k : Nat, i = .int .i64 k ∧ k ≤ rs.length ∧ Hid (StAt B wr sb f ⟨#[]⟩ a c rs) ∧ Hid (Below B w wr) ∧ Hid (∀ t (h : t < rs.length), t < k → isBranch rs[t] = false)) (fun i _ => rs.length - (intOf i).toNat)
      case atStart => exact ⟨0, rfl, Nat.zero_le _, S3, B3, fun t h ht => absurd ht (Nat.not_lt_zero _)⟩
      case round =>
        clear S3 B3 S
        obtain ⟨k, rfl, hk, S, HB, HI⟩ := hrel
        by_cases hlt : k < rs.length
        · obtain ⟨b, off, rfl, g1, g2⟩ := RefsAt.at (StAt.refs S.out) hlt
          obtain ⟨-, h1, h2, f1, -⟩ := StAt.cell S.out
          cases hp : isBranch rs[k]
          · have HP := hide hp
            clear hp
            go_wp2_with (go_at_call 41; refine (prefixW _ _ _).mono ?_; rw [show Lib.hasPrefix rs[k].1.data.toList _ = isBranch rs[k] from rfl, HP.out]; rintro e w' ⟨rfl, rfl⟩)
            have hb := (Below.refl wr.heap.size wr).alloc (Nat.le_refl _) (Obj.cells #[Value.string rs[k].fst, Value.string rs[k].snd] 51)
            obtain ⟨s4, b4⟩ := StAt.kept' S.out hb
            refine ⟨⟨k + 1, by go_num, by omega, s4, HB.out.trans b4, fun t h ht => ?_⟩, by simp [intOf]; omega⟩
            by_cases e : t = k
            · subst e; exact HP.out
            · exact HI.out t h (by omega)
          · have HP := hide hp
            clear hp
            have hsb := StAt.lt S.out
            go_wp2_with (go_at_call 41; refine (prefixW _ _ _).mono ?_; rw [show Lib.hasPrefix rs[k].1.data.toList _ = isBranch rs[k] from rfl, HP.out]; rintro e w' ⟨rfl, rfl⟩)
            go_returns
            have : pick h rs = rs[k].1 := by simp [pick, c1, c2, find_at rs k hlt HI.out HP.out]
            rw [this]
            have s4 := StAt.setHead S.out rs[k].1
            have hb := (Below.refl (wr.setCell ⟨sb, 1, none⟩ (.string rs[k].1)).heap.size (wr.setCell ⟨sb, 1, none⟩ (.string rs[k].1))).alloc (Nat.le_refl _) (Obj.cells #[Value.string rs[k].fst, Value.string rs[k].snd] 51)
            obtain ⟨s5, b5⟩ := StAt.kept' s4 hb
            exact ⟨rfl, s5, (HB.out.setCell (p := ⟨sb, 1, none⟩) (StAt.ge S.out) _).trans b5⟩
        · obtain rfl : k = rs.length := by omega
          go_wp2_with fail
          go_returns
          have : pick h rs = ⟨#[]⟩ := by simp [pick, c1, c2, find_none rs HI.out]
          rw [this]
          exact ⟨rfl, S.out, HB.out⟩
    · rintro e w3 ⟨⟨x, rfl⟩, hb3⟩
      obtain ⟨s3, b3⟩ := StAt.kept' s2 hb3
      have B3 := hide (b2.trans b3)
      obtain ⟨-, h1, -, f1, -⟩ := s3.cell
      have S3 := hide s3
      clear s2 b2 b3 hb3 s3
      go_wp2_with fail
      go_returns
      refine ⟨rfl, ?_, B3.out.setCell (p := ⟨sb, 1, none⟩) (StAt.ge S3.out) _⟩
      have : pick h rs = mainB := by simp [pick, c1, c2]
      rw [this]
      exact StAt.setHead S3.out mainB
  · go_enter Try.func33, Try.ntmps33
    go_wp2_with (go_at_call 36; refine (refW S.out hn HS.out _).mono ?_; rw [c1]; rintro e w' ⟨⟨x, rfl⟩, hb⟩)
    go_returns
    obtain ⟨s1, b1⟩ := StAt.kept' S.out hb
    have : pick h rs = h := by simp [pick, c1]
    rw [this]
    exact ⟨rfl, s1, b1⟩
end Go.Proofs.Qxb6602077a
