import Derived.Test.Qxb6602077aSet
import Derived.Test.Qxb6602077aWalkH
import Derived.Test.Qxb6602077aWalkA3
namespace Go.Proofs.Qxb6602077a
open Go.ChangeShapes Go.WideShapes Go.ChangeAt Go.RowKit

/-- The state's blocks lie below K. -/
def Lies (K sb : Nat) (a : Option Addr) : Prop := sb < K ∧ ∀ g, a = some ⟨g, 0, none⟩ → g < K

section
variable {B : Nat} {w w' : World} {sb : Nat} {f h : ByteArray} {a : Option Addr} {c : Nat} {rs : List Rf}
theorem StAt.lies (s : StAt B w sb f h a c rs) : Lies w.heap.size sb a := ⟨s.lt, fun g e => (s.ne.2 g (by rw [e]; rfl)).2⟩
theorem Lies.mono {K K' : Nat} (h : Lies K sb a) (hk : K ≤ K') : Lies K' sb a := ⟨Nat.lt_of_lt_of_le h.1 hk, fun g e => Nat.lt_of_lt_of_le (h.2 g e) hk⟩
theorem StAt.keptB {K : Nat} (s : StAt B w sb f h a c rs) (hl : Lies K sb a) (hb : Below K w w') : StAt B w' sb f h a c rs := by
  obtain ⟨h1, h2, h3, h4⟩ := s
  refine ⟨h1, (hb.block sb hl.1).trans h2, h3, ?_⟩
  rcases h4 with h4 | ⟨g, e1, e2, e3, e4⟩
  · exact .inl h4
  · exact .inr ⟨g, e1, e2, e3, e4.kept (hb.block g (hl.2 g e1))⟩
end

theorem setP_length (name id : ByteArray) (rs : List Rf) : (setP name id rs).length ≤ rs.length + 1 := by
  unfold setP
  split
  · split
    · have := List.length_eraseIdx_le rs (pos name rs); omega
    · simp
  · split
    · omega
    · simp; omega

theorem zzSetW {B : Nat} {w : World} {sb : Nat} {f h : ByteArray} {a : Option Addr} {c : Nat} {rs : List Rf} (s : StAt B w sb f h a c rs) (hn : rs.length ≤ 1048576) (hs : Srt rs) (name id : ByteArray) :
    Calls Try.prog 14 #[.pointer (some ⟨sb, 0, none⟩), .string name, .string id] w fun e w' => e = .returned (.tuple #[]) ∧ (∃ a' c', StAt B w' sb f h a' c' (setP name id rs)) ∧ Below B w w' := by
  have S := hide s
  have HS := hide hs
  clear s hs
  go_enter Try.func14, Try.ntmps14
  go_wp2_with (go_at_call 30; refine (setW S.out hn HS.out name id).mono ?_; rintro e w' ⟨rfl, h1, h2⟩)
  go_returns
  exact ⟨rfl, h1, h2⟩

set_option maxHeartbeats 1000000 in
theorem setIdemLaw (f h nm id : ByteArray) (a : Option Addr) (c : Nat) (rs : List Rf) (w : World) (hr : RefsAt w a rs) (hf : f.size ≤ maxLen) (hh : h.size ≤ maxLen) (hnm : nm.size ≤ maxLen) (hid : id.size ≤ maxLen) (hn : rs.length ≤ maxLen) :
    Calls Try.prog 4 #[.string f, .string h, .slice a rs.length c, .string nm, .string id] w fun e w' => e = .returned (.bool true) ∧ Below w.heap.size w w' := by
  have HR := hide hr
  clear hr
  go_enter Try.func4, Try.ntmps4
  go_wp2_with fail
  refine (zzBytesI f h nm id a c rs w HR.out hf hh hnm hid hn).mono ?_
  rintro e w' ⟨⟨b, rfl, -⟩, rfl⟩
  cases b
  · go_wp2
    go_ret
    exact ⟨rfl, Below.refl _ _⟩
  go_wp2_with fail
  refine (zzOver f h nm id a c rs w HR.out hf hh hnm hid hn).mono ?_
  rintro e w' ⟨⟨b, rfl, hb⟩, rfl⟩
  cases b
  case true =>
    go_wp2
    go_ret
    exact ⟨rfl, Below.refl _ _⟩
  have hn2 := hb rfl
  clear hb
  go_wp2_with fail
  refine (sortedW a c rs w HR.out hn).mono ?_
  rintro e w' ⟨⟨b, rfl, hb⟩, q, rfl⟩
  cases b
  · go_wp2
    go_ret
    exact ⟨rfl, below_drewN (Below.refl _ _) _⟩
  have HS := hide (srt_of_asc (hb rfl))
  clear hb
  have B0 := hide (below_drewN (Below.refl w.heap.size w) q)
  have HR0 := hide (RefsAt.later HR.out B0.out)
  go_wp2_with fail
  generalize w.drewN q = w0 at *
  refine (toProjW a c rs w0 HR0.out hn2).mono ?_
  rintro e w1 ⟨a1, c1, rfl, hr1, h01, hb1⟩
  have HR1 := hide hr1
  have H01 := hide h01
  have B1 := hide (B0.out.trans (hb1.mono B0.out.size))
  clear hr1 h01 hb1
  go_wp2_with fail
  refine (makeW f h a1 c1 rs w1 HR1.out hn2 H01.out).mono ?_
  rintro e w2 ⟨rfl, ⟨a2, c2, s2, hc2⟩, hb2⟩
  have S2 := hide s2
  have B2 := hide (B1.out.trans (hb2.mono B1.out.size))
  clear s2 hb2 HR1 H01
  go_wp2_with fail
  refine (zzSetW S2.out (by omega) HS.out nm id).mono ?_
  rintro e w3 ⟨rfl, ⟨a3, c3, s3⟩, hb3⟩
  have S3 := hide s3
  have B3 := hide (B2.out.trans (hb3.mono B1.out.size))
  clear s3 hb3 S2
  go_wp2_with fail
  refine (toProjW a c rs w3 (RefsAt.later HR.out B3.out) hn2).mono ?_
  rintro e w4 ⟨a4, c4, rfl, hr4, h04, hb4⟩
  have HR4 := hide hr4
  have H04 := hide h04
  have S4 := hide (StAt.kept S3.out hb4)
  have B4 := hide (B3.out.trans (hb4.mono B3.out.size))
  clear hr4 h04 hb4 S3
  go_wp2_with fail
  refine (makeW f h a4 c4 rs w4 HR4.out hn2 H04.out).mono ?_
  rintro e w5 ⟨rfl, ⟨a5, c5, s5, hc5⟩, hb5⟩
  have T5 := hide s5
  have LI := hide (StAt.lies S4.out)
  have S5 := hide (StAt.kept S4.out hb5)
  have B5 := hide (B4.out.trans (hb5.mono B4.out.size))
  clear s5 hb5 HR4 H04 S4
  go_wp2_with fail
  refine (zzSetW T5.out (by omega) HS.out nm id).mono ?_
  rintro e w6 ⟨rfl, ⟨a6, c6, s6⟩, hb6⟩
  have T6 := hide s6
  have S6 := hide (StAt.keptB S5.out LI.out hb6)
  have B6 := hide (B5.out.trans (hb6.mono B4.out.size))
  clear s6 hb6 S5 T5
  have hln := setP_length nm id rs
  go_wp2_with fail
  refine (zzSetW T6.out (by omega) (setP_srt HS.out nm id) nm id).mono ?_
  rw [setP_idem HS.out]
  rintro e w7 ⟨rfl, ⟨a7, c7, s7⟩, hb7⟩
  have T7 := hide s7
  have S7 := hide (StAt.keptB S6.out LI.out hb7)
  have B7 := hide (B6.out.trans (hb7.mono B4.out.size))
  clear s7 hb7 S6 T6
  generalize setP nm id rs = rs' at *
  go_wp2_with fail
  refine (readW S7.out (by omega)).mono ?_
  rintro e w8 ⟨rfl, hr8, hb8⟩
  have S8 := hide (StAt.kept S7.out hb8)
  have T8 := hide (StAt.kept T7.out hb8)
  have B8 := hide (B7.out.trans (hb8.mono B7.out.size))
  have HR8 := hide hr8.refs
  clear hr8 hb8 S7 T7
  go_wp2_with fail
  refine (readW T8.out (by omega)).mono ?_
  rintro e w9 ⟨rfl, hr9, hb9⟩
  have S9 := hide (StAt.kept S8.out hb9)
  have T9 := hide (StAt.kept T8.out hb9)
  have B9 := hide (B8.out.trans (hb9.mono B8.out.size))
  have HR8' := hide (RefsAt.later HR8.out hb9)
  have HR9 := hide hr9.refs
  clear hr9 hb9 S8 T8 HR8
  go_wp2_with fail
  refine (equalW _ _ _ _ rs' w9 HR8'.out HR9.out (by unfold maxLen; omega)).mono ?_
  rintro e w10 ⟨rfl, q10, rfl⟩
  have SA := hide (StAt.kept S9.out (below_drewN (Below.refl _ _) q10))
  have TA := hide (StAt.kept T9.out (below_drewN (Below.refl _ _) q10))
  have BA := hide (below_drewN B9.out q10)
  generalize w9.drewN q10 = wA at *
  go_wp2_with fail
  refine (headW SA.out).mono ?_
  rintro e w' ⟨rfl, rfl⟩
  go_wp2_with fail
  refine (headW TA.out).mono ?_
  rintro e w' ⟨rfl, rfl⟩
  go_wp2_with fail
  refine (formatW SA.out).mono ?_
  rintro e w' ⟨rfl, rfl⟩
  go_wp2_with fail
  refine (formatW TA.out).mono ?_
  rintro e w' ⟨rfl, rfl⟩
  go_wp2_with fail
  go_ret
  exact ⟨by simp, BA.out⟩
end Go.Proofs.Qxb6602077a
