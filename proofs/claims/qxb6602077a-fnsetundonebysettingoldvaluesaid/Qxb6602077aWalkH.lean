import Derived.Test.Qxb6602077aWalkG
import Derived.Test.Qxb6602077aWalkA
import Derived.Test.Qxb6602077aWalkA2
namespace Go.Proofs.Qxb6602077a
open Go.ChangeShapes Go.WideShapes Go.ChangeAt Go.RowKit

theorem less_iff : ∀ (x y : List UInt8), Op.bytesLess x y = true ↔ x < y
  | [], [] => by simp [Op.bytesLess]
  | _ :: _, [] => by simp [Op.bytesLess]
  | [], _ :: _ => by simp [Op.bytesLess]
  | a :: x, b :: y => by
    have ih := less_iff x y
    simp [Op.bytesLess, List.cons_lt_cons_iff, ih]

theorem srt_of_asc {rs : List Rf} (h : Asc rs rs.length) : Srt rs := by
  have h' : ∀ i (h : i + 1 < rs.length), rs[i].1.data.toList < rs[i + 1].1.data.toList := by
    intro i hi
    have := h i hi hi
    rw [less_iff, Lib.toList_data, Lib.toList_data] at this
    exact this
  have h2 : ∀ d i (hi : i + d + 1 < rs.length), rs[i].1.data.toList < rs[i + d + 1].1.data.toList := by
    intro d
    induction d with
    | zero => intro i hi; exact h' i hi
    | succ d ih => intro i hi; exact lt_tr (ih i (by omega)) (h' (i + d + 1) hi)
  refine List.pairwise_iff_getElem.2 fun i j hi hj hij => ?_
  obtain ⟨d, rfl⟩ : ∃ d, j = i + d + 1 := ⟨j - i - 1, by omega⟩
  exact h2 d i hj

theorem toProj0 (a : Option Addr) (c : Nat) (w : World) :
    Calls Try.prog 13 #[.slice a 0 c] w fun e w' => e = .returned (.slice none 0 0) ∧ w = w' := by
  go_enter Try.func13, Try.ntmps13
  go_wp2
  go_ret
  exact ⟨rfl, rfl⟩

/-- The refs handed over, the state made: one block of its own each. -/
theorem toProjW (a : Option Addr) (c : Nat) (rs : List Rf) (w : World) (hr : RefsAt w a rs) (hn : rs.length ≤ 32768) :
    Calls Try.prog 13 #[.slice a rs.length c] w fun e w' => ∃ a' c', e = .returned (.slice a' rs.length c') ∧ RefsAt w' a' rs ∧ (rs = [] → a' = none ∧ c' = 0) ∧ Below w.heap.size w w' := by
  by_cases h0 : rs.length = 0
  · have := List.eq_nil_of_length_eq_zero h0
    subst this
    refine (toProj0 a c w).mono ?_
    rintro e w' ⟨rfl, rfl⟩
    exact ⟨none, 0, rfl, .inl rfl, fun _ => ⟨rfl, rfl⟩, Below.refl _ _⟩
  · refine (toProj a c rs w hr hn (by omega)).mono ?_
    rintro e w' ⟨rfl, h1, h2⟩
    exact ⟨_, _, rfl, h1.refs, fun e => absurd (by rw [e]; rfl) h0, h2⟩

theorem makeW (f h : ByteArray) (a : Option Addr) (c : Nat) (rs : List Rf) (w : World) (hr : RefsAt w a rs) (hn : rs.length ≤ 32768) (h0 : rs = [] → a = none ∧ c = 0) :
    Calls Try.prog 12 #[.string f, .string h, .slice a rs.length c] w fun e w' => e = .returned (.pointer (some ⟨w.heap.size, 0, none⟩)) ∧ (∃ a' c', StAt w.heap.size w' w.heap.size f h a' c' rs ∧ c' ≤ 32768) ∧ Below w.heap.size w w' := by
  by_cases h1 : rs.length = 0
  · have := List.eq_nil_of_length_eq_zero h1
    subst this
    obtain ⟨rfl, rfl⟩ := h0 rfl
    refine (makeState0 f h w).mono ?_
    rintro e w' ⟨rfl, h1, h2⟩
    exact ⟨rfl, ⟨_, _, h1, by omega⟩, h2⟩
  · refine (makeState1 f h a c rs w hr hn (by omega)).mono ?_
    rintro e w' ⟨rfl, h1, h2⟩
    exact ⟨rfl, ⟨_, _, h1, hn⟩, h2⟩

theorem zzPickW {B : Nat} {w : World} {sb : Nat} {f h : ByteArray} {a : Option Addr} {c : Nat} {rs : List Rf} (s : StAt B w sb f h a c rs) (hn : rs.length ≤ 1048576) (hs : Srt rs) :
    Calls Try.prog 22 #[.pointer (some ⟨sb, 0, none⟩)] w fun e w' => e = .returned (.tuple #[]) ∧ StAt B w' sb f (pick h rs) a c rs ∧ Below B w w' := by
  have S := hide s
  have HS := hide hs
  clear s hs
  go_enter Try.func22, Try.ntmps22
  go_wp2_with (go_at_call 33; refine (pickW S.out hn HS.out).mono ?_; rintro e w' ⟨rfl, h1, h2⟩)
  go_returns
  exact ⟨rfl, h1, h2⟩

theorem RefsAt.later {w w' : World} {a : Option Addr} {rs : List Rf} (h : RefsAt w a rs) (hb : Below w.heap.size w w') : RefsAt w' a rs := by
  rcases h with h | ⟨b, off, ha, hc⟩
  · exact .inl h
  · exact .inr ⟨b, off, ha, fun j hj => ⟨cell_later hb (hc j hj).1, cell_later hb (hc j hj).2⟩⟩

set_option maxHeartbeats 800000 in
theorem pickLaw (f h : ByteArray) (a : Option Addr) (c : Nat) (rs : List Rf) (w : World) (hr : RefsAt w a rs) (hf : f.size ≤ maxLen) (hh : h.size ≤ maxLen) (hn : rs.length ≤ maxLen) :
    Calls Try.prog 6 #[.string f, .string h, .slice a rs.length c] w fun e w' => e = .returned (.bool true) ∧ Below w.heap.size w w' := by
  have HR := hide hr
  clear hr
  go_enter Try.func6, Try.ntmps6
  go_wp2_with fail
  refine (zzBytesP f h a c rs w HR.out hf hh hn).mono ?_
  rintro e w' ⟨⟨b, rfl, -⟩, rfl⟩
  cases b
  · go_wp2
    go_ret
    exact ⟨rfl, Below.refl _ _⟩
  go_wp2_with fail
  refine (zzOver f h _ _ a c rs w HR.out hf hh (by decide) (by decide) hn).mono ?_
  rintro e w' ⟨⟨b, rfl, hb⟩, rfl⟩
  cases b
  case true =>
    go_wp2
    go_ret
    exact ⟨rfl, Below.refl _ _⟩
  have hn2 := hb rfl
  clear hb
  go_wp2_with fail
  refine (sortedW a c rs w HR.out hn).mono ?_
  rintro e w' ⟨⟨b, rfl, hb⟩, q, rfl⟩
  cases b
  · go_wp2
    go_ret
    exact ⟨rfl, below_drewN (Below.refl _ _) _⟩
  have HS := hide (srt_of_asc (hb rfl))
  clear hb
  have B0 := hide (below_drewN (Below.refl w.heap.size w) q)
  have HR0 := hide (RefsAt.later HR.out B0.out)
  go_wp2_with fail
  generalize w.drewN q = w0 at *
  refine (toProjW a c rs w0 HR0.out hn2).mono ?_
  rintro e w1 ⟨a1, c1, rfl, hr1, h01, hb1⟩
  have HR1 := hide hr1
  have H01 := hide h01
  have B1 := hide (B0.out.trans (hb1.mono B0.out.size))
  clear hr1 h01 hb1
  go_wp2_with fail
  refine (makeW f h a1 c1 rs w1 HR1.out hn2 H01.out).mono ?_
  rintro e w2 ⟨rfl, ⟨a2, c2, s2, hc2⟩, hb2⟩
  have S2 := hide s2
  have B2 := hide (B1.out.trans (hb2.mono B1.out.size))
  clear s2 hb2
  go_wp2_with fail
  refine (zzPickW S2.out (by omega) HS.out).mono ?_
  rintro e w3 ⟨rfl, s3, hb3⟩
  have S3 := hide s3
  have B3 := hide (B2.out.trans (hb3.mono B1.out.size))
  clear s3 hb3
  go_wp2_with fail
  refine (readW S3.out (by omega)).mono ?_
  rintro e w4 ⟨rfl, hr4, hb4⟩
  have S4 := hide (StAt.kept S3.out hb4)
  have B4 := hide (B3.out.trans (hb4.mono B3.out.size))
  have HR4 := hide hr4.refs
  clear hr4 hb4
  go_wp2_with fail
  refine (equalW _ _ _ _ rs w4 HR4.out (RefsAt.later HR.out B4.out) hn).mono ?_
  rintro e w5 ⟨rfl, q5, rfl⟩
  have S5 := hide (StAt.kept S4.out (below_drewN (Below.refl _ _) q5))
  have B5 := hide (below_drewN B4.out q5)
  generalize w4.drewN q5 = w5 at *
  go_wp2_with fail
  refine (formatW S5.out).mono ?_
  rintro e w' ⟨rfl, rfl⟩
  go_wp2_with fail
  refine (headW S5.out).mono ?_
  rintro e w' ⟨rfl, rfl⟩
  go_wp2_with fail
  refine (zzPickW S5.out (by omega) HS.out).mono ?_
  rintro e w6 ⟨rfl, s6, hb6⟩
  rw [pick_idem HS.out] at s6
  have S6 := hide s6
  have B6 := hide (B5.out.trans (hb6.mono B1.out.size))
  clear s6 hb6
  go_wp2_with fail
  refine (headW S6.out).mono ?_
  rintro e w' ⟨rfl, rfl⟩
  go_wp2_with fail
  refine (readW S6.out (by omega)).mono ?_
  rintro e w7 ⟨rfl, hr7, hb7⟩
  have S7 := hide (StAt.kept S6.out hb7)
  have B7 := hide (B6.out.trans (hb7.mono B6.out.size))
  have HR7 := hide hr7.refs
  clear hr7 hb7
  go_wp2_with fail
  refine (equalW _ _ _ _ rs w7 HR7.out (RefsAt.later HR.out B7.out) hn).mono ?_
  rintro e w8 ⟨rfl, q8, rfl⟩
  have S8 := hide (StAt.kept S7.out (below_drewN (Below.refl _ _) q8))
  have B8 := hide (below_drewN B7.out q8)
  generalize w7.drewN q8 = w8 at *
  go_wp2_with fail
  refine (formatW S8.out).mono ?_
  rintro e w' ⟨rfl, rfl⟩
  go_wp2_with fail
  go_ret
  exact ⟨by simp, B8.out⟩
end Go.Proofs.Qxb6602077a
