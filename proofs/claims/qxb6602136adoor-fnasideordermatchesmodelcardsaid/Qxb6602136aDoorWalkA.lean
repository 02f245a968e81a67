import Derived.Test.Qxb6602136aDoorBase
namespace Go.Proofs.Qxb6602136aDoor
open Go.ChangeShapes Go.WideShapes Go.ChangeAt Go.RowKit Go.Sort

theorem trim_le (s p : List UInt8) : (Lib.trimPrefix s p).length ≤ s.length := by
  unfold Lib.trimPrefix
  split
  · simp
  · exact Nat.le_refl _

theorem baseP_cases {d : List UInt8} {v : Int} (hp : Lib.parseIntB 64 d = .ok v) : baseP d = if 0 < v ∧ Lib.itoa v = d then some v else none := by
  have hiff := baseP_iff d v hp (parse_rng hp).2
  by_cases h : 0 < v ∧ Lib.itoa v = d
  · rw [if_pos h]; exact hiff.1 h
  · rw [if_neg h]
    cases hb : baseP d with
    | none => rfl
    | some u =>
      exfalso
      have hu : Lib.parseIntB 64 d = .ok u := by
        unfold baseP at hb
        split at hb
        · rename_i hc
          injection hb with hb
          rw [← hb]
          exact parse_canon hc.1 hc.2
        · cases hb
      rw [hp] at hu
      injection hu with hu
      subst hu
      exact h (hiff.2 hb)

set_option maxHeartbeats 1000000 in
theorem baseAfterW (s p : ByteArray) (w : World) (hv : Vars w) (hs : s.size ≤ 1048576) :
    Calls Tryd.prog 26 #[.string s, .string p] w fun e w' => Bs e (baseQ s.data.toList p.data.toList) ∧ Below w.heap.size w w' := by
  have HV := hide hv
  clear hv
  have HC := hide (Tryd.strings_CutPrefix s p w)
  obtain ⟨o, ho⟩ : ∃ o, baseQ s.data.toList p.data.toList = o := ⟨_, rfl⟩
  rw [ho]
  have hd : (Lib.trimPrefix s.data.toList p.data.toList).length ≤ 1048576 := Nat.le_trans (trim_le _ _) (by rw [Array.length_toList]; exact hs)
  unfold baseQ at ho
  generalize Lib.hasPrefix s.data.toList p.data.toList = ok at *
  generalize Lib.trimPrefix s.data.toList p.data.toList = d at *
  have HO := hide ho
  clear ho
  go_enter Tryd.func26, Tryd.ntmps26
  go_wp2_with fail
  refine HC.out.mono ?_
  rintro e w' ⟨rfl, rfl⟩
  clear HC
  go_wp2_with fail
  cases hp : Lib.parseIntB 64 d with
  | ok v =>
    refine (Tryd.strconv_ParseInt_10_at64_ok ⟨d.toArray⟩ (by show d.toArray.size ≤ _; simp; omega) v (by simpa using hp) w').mono ?_
    rintro e w1 ⟨rfl, hw⟩
    have B1 : Hid (Below w'.heap.size w' w1) := by
      rcases hw with rfl | ⟨t, rfl⟩
      · exact Below.refl _ _
      · exact Lib.bytesWorld_below _ _ _
    clear hw
    obtain ⟨hr1, hr2⟩ := parse_rng hp
    have hiff := hide (baseP_cases hp)
    clear hp
    cases ok with
    | false =>
      have ho : o = none := HO.out.symm
      subst ho
      clear HO hiff
      go_wp2_with fail
      go_returns
      exact ⟨rfl, B1.out⟩
    | true =>
      have ho : Hid (baseP d = o) := HO.out
      clear HO
      by_cases hpos : v ≤ 0
      · have ho2 : o = none := by rw [← ho.out, hiff.out, if_neg (fun h => by have := h.1; omega)]
        subst ho2
        clear ho hiff
        go_wp2_with fail
        go_returns
        exact ⟨rfl, B1.out⟩
      · go_wp2_with fail
        refine (Tryd.strconv_FormatInt_10 v hr1 hr2 w1 (HV.out.later B1.out).tab).mono ?_
        rintro e w2 ⟨rfl, k, os, hw2⟩
        have B2 : Hid (Below w'.heap.size w' w2) := B1.out.trans (by rw [hw2]; exact (below_grow k os).mono B1.out.size)
        clear hw2
        by_cases hit : Lib.itoa v = d
        · have ho2 : o = some v := by rw [← ho.out, hiff.out, if_pos ⟨by omega, hit⟩]
          subst ho2
          rw [hit]
          clear ho hiff hit
          go_wp2_with fail
          go_returns
          exact ⟨rfl, B2.out⟩
        · have ho2 : o = none := by rw [← ho.out, hiff.out, if_neg (fun h => hit h.2)]
          subst ho2
          clear ho hiff
          generalize Lib.itoa v = t at *
          have hbe : (t == d) = false := beq_eq_false_iff_ne.2 hit
          clear hit
          go_wp2_with fail
          go_returns
          exact ⟨rfl, B2.out⟩
  | «syntax» =>
    have ho : o = none := by rw [← HO.out]; split; exact baseP_none (fun v h => by rw [hp] at h; cases h); rfl
    subst ho
    clear HO
    obtain ⟨ev, he1, he2⟩ := HV.out.syn
    refine (Tryd.strconv_ParseInt_10_at64_syntax ⟨d.toArray⟩ (by show d.toArray.size ≤ _; simp; omega) (by simpa using hp) ev w' he1 he2).mono ?_
    rintro e w1 ⟨N, rfl, -, -, B1⟩
    have HB := hide B1
    clear B1 he1 he2 hp
    cases ok with
    | false =>
      go_wp2_with fail
      go_returns
      exact ⟨rfl, HB.out⟩
    | true =>
      go_wp2_with fail
      go_returns
      exact ⟨rfl, HB.out⟩
  | range =>
    have ho : o = none := by rw [← HO.out]; split; exact baseP_none (fun v h => by rw [hp] at h; cases h); rfl
    subst ho
    clear HO
    obtain ⟨ev, he1, he2⟩ := HV.out.rng
    refine (Tryd.strconv_ParseInt_10_at64_range ⟨d.toArray⟩ (by show d.toArray.size ≤ _; simp; omega) (by simpa using hp) ev w' he1 he2).mono ?_
    rintro e w1 ⟨N, rfl, -, -, B1⟩
    have HB := hide B1
    clear B1 he1 he2 hp
    cases ok with
    | false =>
      go_wp2_with fail
      go_returns
      exact ⟨rfl, HB.out⟩
    | true =>
      go_wp2_with fail
      go_returns
      exact ⟨rfl, HB.out⟩
end Go.Proofs.Qxb6602136aDoor
