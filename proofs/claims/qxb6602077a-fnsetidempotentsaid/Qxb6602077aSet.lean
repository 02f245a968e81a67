import Derived.Test.Qxb6602077aInsertD
namespace Go.Proofs.Qxb6602077a
open Go.ChangeShapes Go.WideShapes Go.ChangeAt Go.RowKit

theorem insertW {B : Nat} {w : World} {a : Option Addr} {c : Nat} {rs : List Rf} (ho : Own B w a c rs) (hB : B ≤ w.heap.size) (hn : rs.length ≤ 1048576) (i : Nat) (hi : i ≤ rs.length) (vb : Nat) (r : Rf) (hv : w.heap[vb]? = some (.cells #[.string r.1, .string r.2] 51 (0, 0)))
    (hne : ∀ g, a = some ⟨g, 0, none⟩ → vb ≠ g) :
    Calls Try.prog 40 #[.slice a rs.length c, .int .i64 i, .slice (some ⟨vb, 0, none⟩) 1 1] w fun e w' => InsRes B w w' e (Value.slice a rs.length c).ownBlock (rs.take i ++ r :: rs.drop i) := by
  by_cases hin : i = rs.length
  · subst hin
    simpa using insertEnd ho hB hn vb r hv
  · obtain ⟨hcm, ⟨rfl, rfl, rfl⟩ | ⟨g, rfl, hBg, hr⟩⟩ := ho
    · simp at hi; exact absurd hi hin
    · obtain ⟨_, _, _, hcap, _⟩ := id hr
      by_cases hc : c = rs.length
      · subst hc
        exact insertGrow hr hB hn i (by omega) vb r hv
      · exact insertShift hr hBg hcm hn i (by omega) (by omega) vb r hv (hne g rfl)

section
variable {B : Nat} {w : World} {sb : Nat} {f h : ByteArray} {a : Option Addr} {c : Nat} {rs : List Rf}

theorem StAt.own (s : StAt B w sb f h a c rs) : Own B w a c rs := by
  obtain ⟨_, _, h3, h4⟩ := s
  rcases h4 with h4 | ⟨g, e1, e2, _, e4⟩
  · exact ⟨h3, .inl h4⟩
  · exact ⟨h3, .inr ⟨g, e1, e2, e4⟩⟩

theorem StAt.ne (s : StAt B w sb f h a c rs) : some sb ≠ (Value.slice a rs.length c).ownBlock ∧ (∀ k, (Value.slice a rs.length c).ownBlock = some k → B ≤ k ∧ k < w.heap.size) := by
  obtain ⟨_, _, h3, h4⟩ := s
  rcases h4 with ⟨rfl, rfl, rfl⟩ | ⟨g, rfl, e2, e3, e4⟩
  · exact ⟨by simp [Value.ownBlock], by simp [Value.ownBlock]⟩
  · refine ⟨fun e => e3 ?_, fun k hk => ?_⟩
    · simp [Value.ownBlock] at e; exact e.symm
    · simp [Value.ownBlock] at hk; subst hk; exact ⟨e2, e4.lt⟩

theorem StAt.blk (s : StAt B w sb f h a c rs) : w.heap[sb]? = some (.cells #[.string f, .string h, .slice a rs.length c, .slice none 0 0, .slice none 0 0] 48 (0, 0)) := s.2.1
end

/-- The refs' field stored anew. -/
theorem stAt_put {B : Nat} {w : World} {sb : Nat} {f h : ByteArray} {v : Value} (hb : w.heap[sb]? = some (.cells #[.string f, .string h, v, .slice none 0 0, .slice none 0 0] 48 (0, 0))) (hB : B ≤ sb) {g c : Nat} {rs : List Rf} (hBg : B ≤ g) (hc : c ≤ maxLen) (hr : RowBlk w g 51 c rs) :
    StAt B (w.setCell ⟨sb, 2, none⟩ (.slice (some ⟨g, 0, none⟩) rs.length c)) sb f h (some ⟨g, 0, none⟩) c rs := by
  have hne : g ≠ sb := by
    rintro rfl
    obtain ⟨cs, hg, _⟩ := hr
    rw [hb] at hg
    simp at hg
  refine ⟨hB, ?_, hc, .inr ⟨g, rfl, hBg, hne, hr.kept (Below.heap_setCell _ _ _ _ hne)⟩⟩
  rw [heap_setCell_same w sb 2 _ _ _ hb]
  rfl

/-- Of the old blocks none but the row has turned: the state's own block reads as it did. -/
theorem grown_blk {w w' : World} {row : Option Nat} {sb : Nat} {o : Obj} (hg : w.grownBy w' row) (hb : w.heap[sb]? = some o) (hne : some sb ≠ row) : w'.heap[sb]? = some o := by
  rw [hg.block sb (Array.getElem?_eq_some_iff.1 hb).1 hne]; exact hb

theorem below_of_grown {B : Nat} {w w' : World} {row : Option Nat} (hB : B ≤ w.heap.size) (hg : w.grownBy w' row) (hr : ∀ k, row = some k → B ≤ k) : Below B w w' := (Below.refl B w).grown hg hB hr

theorem cells_of_blk {w : World} {sb : Nat} {f h : ByteArray} {v : Value} (hb : w.heap[sb]? = some (.cells #[.string f, .string h, v, .slice none 0 0, .slice none 0 0] 48 (0, 0))) : w.cell? ⟨sb, 2, none⟩ = some v ∧ w.frozen? ⟨sb, 2, none⟩ = false :=
  ⟨by rw [cell_of_row w sb _ _ _ _ hb]; rfl, frozen_of_row w sb _ _ _ hb⟩

theorem isEmpty_of {id : ByteArray} : id.toList.isEmpty = decide (id.size = 0) := by
  rw [Lib.toList_data, Lib.size_eq]
  cases id.data.toList <;> simp

theorem hit_at {name : ByteArray} {rs : List Rf} (h : hit name rs = true) : ∃ hlt : pos name rs < rs.length, rs[pos name rs].1 = name := by
  unfold hit at h
  by_cases hlt : pos name rs < rs.length
  · rw [List.getElem?_eq_getElem hlt] at h
    exact ⟨hlt, (cmpR_zero name _).1 (by simpa using h)⟩
  · rw [List.getElem?_eq_none (by omega)] at h
    cases h

theorem RowBlk.setId {w : World} {g : Nat} {e : TypeId} {cap : Nat} {rs : List Rf} (h : RowBlk w g e cap rs) (p : Nat) (hp : p < rs.length) (id : ByteArray) :
    RowBlk (w.setCell ⟨g, p * 2 + 1, none⟩ (.string id)) g e cap (rs.set p (rs[p].1, id)) := by
  obtain ⟨cs, hg, hs, hl, hc⟩ := h
  refine ⟨_, heap_setCell_same _ g _ cs e _ hg, by simp [hs], by simpa using hl, fun j hj => ?_⟩
  simp at hj
  have h2 := hc j hj
  by_cases e : j = p
  · subst e
    constructor
    · rw [Array.getElem?_setIfInBounds_ne (by omega), h2.1]; simp
    · rw [Array.getElem?_setIfInBounds_self_of_lt (by omega)]; simp
  · rw [List.getElem_set_ne (by omega)]
    constructor
    · rw [Array.getElem?_setIfInBounds_ne (by omega)]; exact h2.1
    · rw [Array.getElem?_setIfInBounds_ne (by omega)]; exact h2.2

theorem StAt.setId {B : Nat} {w : World} {sb : Nat} {f h : ByteArray} {g c : Nat} {rs : List Rf} (s : StAt B w sb f h (some ⟨g, 0, none⟩) c rs) (p : Nat) (hp : p < rs.length) (id : ByteArray) :
    StAt B (w.setCell ⟨g, p * 2 + 1, none⟩ (.string id)) sb f h (some ⟨g, 0, none⟩) c (rs.set p (rs[p].1, id)) := by
  obtain ⟨h1, h2, h3, h4⟩ := s
  rcases h4 with ⟨_, e, _⟩ | ⟨g', e1, e2, e3, e4⟩
  · cases e
  · obtain rfl : g = g' := by simpa using e1
    refine ⟨h1, ?_, h3, .inr ⟨g, rfl, e2, e3, e4.setId p hp id⟩⟩
    rw [Below.heap_setCell _ _ _ _ (Ne.symm e3), h2]
    simp

/-- What find hands back, its number under a name. -/
theorem findW' {B : Nat} {w : World} {sb : Nat} {f h : ByteArray} {a : Option Addr} {c : Nat} {rs : List Rf} (s : StAt B w sb f h a c rs) (hn : rs.length ≤ 1048576) (hs : Srt rs) (name : ByteArray) (p : Nat) (b : Bool) (hp : pos name rs = p) (hb : hit name rs = b) :
    Calls Try.prog 38 #[.pointer (some ⟨sb, 0, none⟩), .string name] w fun e w' => e = .returned (.tuple #[.int .i64 p, .bool b]) ∧ Below w.heap.size w w' := by
  subst hp hb
  exact findW s hn hs name

set_option maxHeartbeats 1000000 in
theorem setW {B : Nat} {w : World} {sb : Nat} {f h : ByteArray} {a : Option Addr} {c : Nat} {rs : List Rf} (s : StAt B w sb f h a c rs) (hn : rs.length ≤ 1048576) (hs : Srt rs) (name id : ByteArray) :
    Calls Try.prog 30 #[.pointer (some ⟨sb, 0, none⟩), .string name, .string id] w fun e w' => e = .returned (.tuple #[]) ∧ (∃ a' c', StAt B w' sb f h a' c' (setP name id rs)) ∧ Below B w w' := by
  have S := hide s
  have HS := hide hs
  clear s hs
  have hp := hide (pos_le name rs)
  by_cases hz : id.size = 0
  · have hE : id.toList.isEmpty = true := by rw [isEmpty_of]; simp [hz]
    cases ht : hit name rs
    · -- nothing to do
      go_enter Try.func30, Try.ntmps30
      go_wp2_with (go_at_call 38; refine (findW S.out hn HS.out _).mono ?_; rw [ht]; rintro e w1 ⟨rfl, hb⟩)
      go_returns
      obtain ⟨s1, b1⟩ := StAt.kept' S.out hb
      have : setP name id rs = rs := by simp [setP, ht, hz]
      rw [this]
      exact ⟨rfl, ⟨_, _, s1⟩, b1⟩
    · -- the ref is taken away
      obtain ⟨hlt, hnm⟩ := hit_at ht
      obtain ⟨hcm, ⟨rfl, rfl, rfl⟩ | ⟨g, rfl, hBg, hr⟩⟩ := StAt.own S.out
      · simp at hlt
      have hfin : setP name id rs = rs.eraseIdx (pos name rs) := by simp [setP, ht, hz]
      have hlen : (rs.eraseIdx (pos name rs)).length = rs.length - 1 := List.length_eraseIdx_of_lt hlt
      rw [hfin]
      obtain ⟨p, hpp⟩ : ∃ p, pos name rs = p := ⟨_, rfl⟩
      rw [hpp] at hlt hlen ⊢
      have HF := hide hlen
      have HP := hide hpp
      have HT := hide ht
      clear hfin hlen hnm hr hp hpp ht
      go_enter Try.func30, Try.ntmps30
      go_wp2_with fail
      refine (findW' S.out hn HS.out name p true HP.out HT.out).mono ?_
      rintro e w1 ⟨rfl, hb⟩
      obtain ⟨s1, b1⟩ := StAt.kept' S.out hb
      obtain ⟨-, -, h2, -, f2⟩ := s1.cell
      obtain ⟨-, ⟨-, e, -⟩ | ⟨g', e, -, hr1⟩⟩ := s1.own
      · cases e
      obtain rfl : g = g' := by simpa using e
      have hbk := hide s1.blk
      have hne := hide s1.ne
      have hsz := hide (Nat.le_of_lt (Nat.lt_of_le_of_lt s1.ge s1.lt))
      have hge := hide s1.ge
      have HR := hide hr1
      have B1 := hide b1
      clear hb s1 hr1 b1
      go_wp2_with fail
      refine (deleteW HR.out hcm p hlt).mono ?_
      rintro e w2 ⟨rfl, hr2, hg2⟩
      have hbk2 := hide (grown_blk hg2 hbk.out (by simpa [Value.ownBlock] using hne.out.1))
      obtain ⟨c2, f2'⟩ := cells_of_blk hbk2.out
      rw [← HF.out] at *
      have fin := hide (stAt_put hbk2.out hge.out hBg hcm hr2)
      have b2 := hide (B1.out.trans (below_of_grown hsz.out hg2 (by intro k hk; simp at hk; omega)))
      clear hr2 hg2 h2 f2
      go_wp2_with fail
      go_returns
      exact ⟨rfl, ⟨_, _, fin.out⟩, b2.out.setCell (p := ⟨sb, 2, none⟩) hge.out _⟩
  · have hE : id.toList.isEmpty = false := by rw [isEmpty_of]; simp [hz]
    cases ht : hit name rs
    · -- the ref is laid in
      have hfin : setP name id rs = rs.take (pos name rs) ++ (name, id) :: rs.drop (pos name rs) := by simp [setP, ht, hz]
      rw [hfin]
      obtain ⟨p, hpp⟩ : ∃ p, pos name rs = p := ⟨_, rfl⟩
      rw [hpp] at hp ⊢
      obtain ⟨rs', hrs⟩ : ∃ rs', rs.take p ++ (name, id) :: rs.drop p = rs' := ⟨_, rfl⟩
      rw [hrs]
      have HF := hide hrs
      have HP := hide hpp
      have HT := hide ht
      clear hfin hrs hpp ht
      go_enter Try.func30, Try.ntmps30
      go_wp2_with fail
      refine (findW' S.out hn HS.out name p false HP.out HT.out).mono ?_
      rintro e w1 ⟨rfl, hb⟩
      obtain ⟨s1, b1⟩ := StAt.kept' S.out hb
      obtain ⟨-, -, h2, -, f2⟩ := s1.cell
      have S1 := hide s1
      have B1 := hide b1
      clear hb s1 b1 S
      go_wp2_with fail
      have al := (Below.refl w1.heap.size w1).alloc (Nat.le_refl _) (Obj.cells #[Value.string name, Value.string id] 51)
      obtain ⟨s2, b2⟩ := StAt.kept' S1.out al
      have hvb : (w1.alloc (Obj.cells #[Value.string name, Value.string id] 51)).heap[w1.heap.size]? = some (.cells #[Value.string name, Value.string id] 51 (0, 0)) := heap_alloc_new w1 _
      have B2 := hide (B1.out.trans b2)
      have hvn : ∀ g, a = some ⟨g, 0, none⟩ → w1.heap.size ≠ g := by
        intro g e
        have := (StAt.ne S1.out).2 g (by rw [e]; rfl)
        omega
      generalize w1.alloc (Obj.cells #[Value.string name, Value.string id] 51) = w2 at *
      have hins := insertW s2.own (Nat.le_of_lt (Nat.lt_of_le_of_lt s2.ge s2.lt)) hn p hp.out w1.heap.size (name, id) hvb hvn
      rw [HF.out] at hins
      refine hins.mono ?_
      clear hins
      rintro e w3 ⟨g3, c3, rfl, hBg, hcm, hr3, hg3⟩
      have hge := s2.ge
      have hbk := hide (grown_blk hg3 s2.blk s2.ne.1)
      obtain ⟨c2, f2'⟩ := cells_of_blk hbk.out
      have fin := hide (stAt_put hbk.out s2.ge hBg hcm hr3)
      have b3 := hide (B2.out.trans (below_of_grown (Nat.le_of_lt (Nat.lt_of_le_of_lt s2.ge s2.lt)) hg3 (fun k hk => (s2.ne.2 k hk).1)))
      have HGE := hide hge
      clear hr3 hg3 hvb hvn s2 al b2 h2 f2 hge
      go_wp2_with fail
      go_returns
      exact ⟨rfl, ⟨_, _, fin.out⟩, b3.out.setCell (p := ⟨sb, 2, none⟩) HGE.out _⟩
    · -- the ref's id is set
      obtain ⟨hlt, hnm⟩ := hit_at ht
      obtain ⟨hcm, ⟨rfl, rfl, rfl⟩ | ⟨g, rfl, hBg, hr⟩⟩ := StAt.own S.out
      · simp at hlt
      have hfin : setP name id rs = rs.set (pos name rs) (rs[pos name rs].1, id) := by rw [hnm]; simp [setP, ht, hz]
      obtain ⟨p, hpp, hlt, hfin⟩ : ∃ p, pos name rs = p ∧ ∃ h : p < rs.length, setP name id rs = rs.set p (rs[p].1, id) := ⟨_, rfl, hlt, hfin⟩
      rw [hfin]
      have HP := hide hpp
      have HT := hide ht
      clear hfin hnm hr hp hpp ht
      go_enter Try.func30, Try.ntmps30
      go_wp2_with fail
      refine (findW' S.out hn HS.out name p true HP.out HT.out).mono ?_
      rintro e w1 ⟨rfl, hb⟩
      obtain ⟨s1, b1⟩ := StAt.kept' S.out hb
      obtain ⟨-, -, h2, -, f2⟩ := s1.cell
      obtain ⟨-, ⟨-, e, -⟩ | ⟨g', e, -, hr1⟩⟩ := s1.own
      · cases e
      obtain rfl : g = g' := by simpa using e
      obtain ⟨v, cv, fv⟩ := hr1.room (o := p * 2 + 1) (by obtain ⟨_, _, _, hcap, _⟩ := hr1; omega)
      have S1 := hide s1
      have B1 := hide b1
      clear hb s1 b1 S hr1
      go_wp2_with fail
      go_returns
      exact ⟨rfl, ⟨_, _, StAt.setId S1.out p hlt id⟩, B1.out.setCell (p := ⟨g, _, none⟩) hBg _⟩
end Go.Proofs.Qxb6602077a
