import Derived.Test.Qxb6602077aWalkI
namespace Go.Proofs.Qxb6602077a
open Go.ChangeShapes Go.WideShapes Go.ChangeAt Go.RowKit

/-- What the law's own loop keeps: no ref of that name among the first k, or just the one whose id it holds. -/
def OldTo (nm : ByteArray) (rs : List Rf) (k : Nat) (old : ByteArray) : Prop := old = oldOf nm (rs.take k) ∧ ∀ r ∈ rs.take k, r.1 = nm → r.2.size ≠ 0

theorem eq_of_beq {x y : ByteArray} (h : (x.toList == y.toList) = true) : x = y := by
  rw [Lib.toList_data, Lib.toList_data] at h
  exact WideShapes.bytes_inj (by simpa using h)
theorem ne_of_beq {x y : ByteArray} (h : (x.toList == y.toList) = false) : x ≠ y := by
  rintro rfl
  simp at h

theorem oldTo_hit {nm : ByteArray} {rs : List Rf} {k : Nat} {old : ByteArray} (hs : Srt rs) (h : OldTo nm rs k old) (hk : k < rs.length) (h1 : rs[k].1 = nm) (h2 : rs[k].2.size ≠ 0) : OldTo nm rs (k + 1) rs[k].2 := by
  have hno : ∀ r ∈ rs.take k, r.1 ≠ nm := by
    intro r hr e
    obtain ⟨t, ht, rfl⟩ := List.getElem_of_mem hr
    simp at ht
    have := hs.lt (show t < k by omega) hk
    rw [List.getElem_take] at e
    rw [e, h1] at this
    exact lt_ir this
  have e := List.take_succ_eq_append_getElem hk
  refine ⟨?_, ?_⟩
  · unfold oldOf
    rw [e, List.find?_append, List.find?_eq_none.2 (fun r hr => by simpa using hno r hr)]
    simp [h1]
  · intro r hr er
    rw [e] at hr
    rcases List.mem_append.1 hr with hr | hr
    · exact h.2 r hr er
    · simp at hr; subst hr; exact h2

theorem oldTo_miss {nm : ByteArray} {rs : List Rf} {k : Nat} {old : ByteArray} (h : OldTo nm rs k old) (hk : k < rs.length) (h1 : rs[k].1 ≠ nm) : OldTo nm rs (k + 1) old := by
  have e := List.take_succ_eq_append_getElem hk
  refine ⟨?_, ?_⟩
  · rw [h.1]
    unfold oldOf
    rw [e, List.find?_append]
    cases hf : (rs.take k).find? (fun r => decide (r.1 = nm)) <;> simp [h1]
  · intro r hr er
    rw [e] at hr
    rcases List.mem_append.1 hr with hr | hr
    · exact h.2 r hr er
    · simp at hr; subst hr; exact absurd er h1

theorem undo_plain {nm id old : ByteArray} {rs : List Rf} (hs : Srt rs) (h : OldTo nm rs rs.length old) : setP nm old (setP nm id rs) = rs := by
  obtain ⟨h1, h2⟩ := h
  rw [List.take_length] at h1 h2
  rw [setP_twice hs, h1]
  exact setP_old hs nm h2

set_option maxHeartbeats 1000000 in
theorem setUndoLaw (f h nm id : ByteArray) (a : Option Addr) (c : Nat) (rs : List Rf) (w : World) (hr : RefsAt w a rs) (hf : f.size ≤ maxLen) (hh : h.size ≤ maxLen) (hnm : nm.size ≤ maxLen) (hid : id.size ≤ maxLen) (hn : rs.length ≤ maxLen) :
    Calls Try.prog 7 #[.string f, .string h, .slice a rs.length c, .string nm, .string id] w fun e w' => e = .returned (.bool true) ∧ Below w.heap.size w w' := by
  have HR := hide hr
  clear hr
  go_enter Try.func7, Try.ntmps7
  go_wp2_with fail
  refine (zzBytesU f h nm id a c rs w HR.out hf hh hnm hid hn).mono ?_
  rintro e w' ⟨⟨b, rfl, -⟩, rfl⟩
  cases b
  · go_wp2
    go_ret
    exact ⟨rfl, Below.refl _ _⟩
  go_wp2_with fail
  refine (zzOver f h nm id a c rs w HR.out hf hh hnm hid hn).mono ?_
  rintro e w' ⟨⟨b, rfl, hb⟩, rfl⟩
  cases b
  case true =>
    go_wp2
    go_ret
    exact ⟨rfl, Below.refl _ _⟩
  have hn2 := hb rfl
  clear hb
  go_wp2_with fail
  refine (sortedW a c rs w HR.out hn).mono ?_
  rintro e w' ⟨⟨b, rfl, hb⟩, q, rfl⟩
  cases b
  · go_wp2
    go_ret
    exact ⟨rfl, below_drewN (Below.refl _ _) _⟩
  have HS := hide (srt_of_asc (hb rfl))
  clear hb
  have B0 := hide (below_drewN (Below.refl w.heap.size w) q)
  have HR0 := hide (RefsAt.later HR.out B0.out)
  go_wp2_with fail
  generalize w.drewN q = w0 at *
  go_loop [11, 12] (fun o i => ∃ (old : ByteArray) (k : Nat), k ≤ rs.length ∧ i = .int .i64 k ∧ o = .string old ∧ Hid (OldTo nm rs k old)) (fun _ i => rs.length - (intOf i).toNat)
  case atStart => exact ⟨_, 0, Nat.zero_le _, rfl, rfl, by simp [Hid, OldTo, oldOf]⟩
  case round =>
    obtain ⟨old, k, hk, rfl, rfl, HO⟩ := hrel
    by_cases hlt : k < rs.length
    · obtain ⟨b, off, rfl, h1, h2⟩ := RefsAt.at (Hid.out HR0) hlt
      go_wp2
      · go_ret
        exact ⟨rfl, B0.out⟩
      · rename_i g1 g2
        refine ⟨⟨_, k + 1, by omega, by go_num, rfl, oldTo_hit HS.out HO.out hlt (eq_of_beq g1) (by rw [isEmpty_of] at g2; simpa using g2)⟩, by simp [intOf]; omega⟩
      · rename_i g1
        refine ⟨⟨_, k + 1, by omega, by go_num, rfl, oldTo_miss HO.out hlt (ne_of_beq g1)⟩, by simp [intOf]; omega⟩
    · obtain rfl : k = rs.length := by omega
      have HU := fun i => undo_plain (id := i) HS.out HO.out
      have HUN := hide HU
      clear HU
      go_wp2_with fail
      refine (toProjW a c rs w0 HR0.out hn2).mono ?_
      rintro e w1 ⟨a1, c1, rfl, hr1, h01, hb1⟩
      have HR1 := hide hr1
      have H01 := hide h01
      have B1 := hide (B0.out.trans (hb1.mono B0.out.size))
      clear hr1 h01 hb1
      go_wp2_with fail
      refine (makeW f h a1 c1 rs w1 HR1.out hn2 H01.out).mono ?_
      rintro e w2 ⟨rfl, ⟨a2, c2, s2, hc2⟩, hb2⟩
      have S2 := hide s2
      have B2 := hide (B1.out.trans (hb2.mono B1.out.size))
      clear s2 hb2 HR1 H01
      go_wp2_with fail
      refine (zzSetW S2.out (by omega) HS.out nm id).mono ?_
      rintro e w3 ⟨rfl, ⟨a3, c3, s3⟩, hb3⟩
      have S3 := hide s3
      have B3 := hide (B2.out.trans (hb3.mono B1.out.size))
      clear s3 hb3 S2
      have hln := setP_length nm id rs
      go_wp2_with fail
      refine (zzSetW S3.out (by omega) (setP_srt HS.out nm id) nm old).mono ?_
      rw [HUN.out id]
      rintro e w4 ⟨rfl, ⟨a4, c4, s4⟩, hb4⟩
      have S4 := hide s4
      have B4 := hide (B3.out.trans (hb4.mono B1.out.size))
      clear s4 hb4 S3 hln
      go_wp2_with fail
      refine (readW S4.out (by omega)).mono ?_
      rintro e w5 ⟨rfl, hr5, hb5⟩
      have S5 := hide (StAt.kept S4.out hb5)
      have B5 := hide (B4.out.trans (hb5.mono B4.out.size))
      have HR5 := hide hr5.refs
      clear hr5 hb5 S4
      go_wp2_with fail
      refine (equalW _ _ _ _ rs w5 HR5.out (RefsAt.later HR.out B5.out) hn).mono ?_
      rintro e w6 ⟨rfl, q6, rfl⟩
      have S6 := hide (StAt.kept S5.out (below_drewN (Below.refl _ _) q6))
      have B6 := hide (below_drewN B5.out q6)
      generalize w5.drewN q6 = w6 at *
      go_wp2_with fail
      refine (headW S6.out).mono ?_
      rintro e w' ⟨rfl, rfl⟩
      go_wp2_with fail
      refine (formatW S6.out).mono ?_
      rintro e w' ⟨rfl, rfl⟩
      go_wp2_with fail
      go_ret
      exact ⟨by simp, B6.out⟩
end Go.Proofs.Qxb6602077a
