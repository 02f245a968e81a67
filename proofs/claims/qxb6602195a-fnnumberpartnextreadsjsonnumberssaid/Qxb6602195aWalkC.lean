import Derived.Test.Qxb6602195aWalkB
namespace Go.Proofs.Qxb6602195a
open Go.ChangeShapes Go.WideShapes Go.ChangeAt Go.RowKit

theorem digitW (c : UInt8) (w : World) : Calls Try.prog 16 #[.int .u8 (c.toNat : Int)] w fun e w' => e = .returned (.bool (dig c)) ∧ w = w' := by
  by_cases h1 : 48 ≤ (c.toNat : Int)
  · by_cases h2 : (c.toNat : Int) ≤ 57
    · have : dig c = true := by unfold dig; exact decide_eq_true ⟨h1, h2⟩
      rw [this]
      go_enter Try.func16, Try.ntmps16
      go_wp2
      go_ret
      exact ⟨rfl, rfl⟩
    · have : dig c = false := by unfold dig; exact decide_eq_false (fun h => h2 h.2)
      rw [this]
      go_enter Try.func16, Try.ntmps16
      go_wp2
      go_ret
      exact ⟨rfl, rfl⟩
  · have : dig c = false := by unfold dig; exact decide_eq_false (fun h => h1 h.1)
    rw [this]
    go_enter Try.func16, Try.ntmps16
    go_wp2
    go_ret
    exact ⟨rfl, rfl⟩

theorem digs_cons_yes {c : UInt8} {l : List UInt8} (h : dig c = true) : digs (c :: l) = digs l := by unfold digs; rw [List.dropWhile_cons, if_pos h]
theorem digs_cons_no {c : UInt8} {l : List UInt8} (h : dig c = false) : digs (c :: l) = c :: l := by unfold digs; rw [List.dropWhile_cons, if_neg (by simp [h])]
theorem drop_end (s : ByteArray) : s.data.toList.drop s.size = [] := List.drop_of_length_le (by rw [← Lib.size_eq]; exact Nat.le_refl _)

theorem intp_zero {c : UInt8} {l : List UInt8} (h : (c.toNat : Int) = 48) : intp (c :: l) = frac l := by simp only [intp, B]; rw [if_pos h]
theorem intp_dig {c : UInt8} {l : List UInt8} (h : ¬ (c.toNat : Int) = 48) (hd : 49 ≤ (c.toNat : Int) ∧ (c.toNat : Int) ≤ 57) : intp (c :: l) = frac (digs l) := by simp only [intp, B]; rw [if_neg h, if_pos hd]
theorem intp_no {c : UInt8} {l : List UInt8} (h : ¬ (c.toNat : Int) = 48) (hd : ¬ (49 ≤ (c.toNat : Int) ∧ (c.toNat : Int) ≤ 57)) : intp (c :: l) = false := by simp only [intp, B]; rw [if_neg h, if_neg hd]
theorem frac_dot_nil {c : UInt8} (h : (c.toNat : Int) = 46) : frac [c] = false := by simp only [frac, B]; rw [if_pos h]
theorem frac_dot {c d : UInt8} {l : List UInt8} (h : (c.toNat : Int) = 46) : frac (c :: d :: l) = (dig d && expo (digs l)) := by simp only [frac, B]; rw [if_pos h]
theorem frac_no {c : UInt8} {l : List UInt8} (h : ¬ (c.toNat : Int) = 46) : frac (c :: l) = expo (c :: l) := by simp only [frac, B]; rw [if_neg h]
theorem expo_no {c : UInt8} {l : List UInt8} (h : ¬ ((c.toNat : Int) = 101 ∨ (c.toNat : Int) = 69)) : expo (c :: l) = false := by simp only [expo, B]; rw [if_neg h]
theorem expo_nil {c : UInt8} (h : (c.toNat : Int) = 101 ∨ (c.toNat : Int) = 69) : expo [c] = false := by simp only [expo, B]; rw [if_pos h]
theorem expo_sign {c d : UInt8} {l : List UInt8} (h : (c.toNat : Int) = 101 ∨ (c.toNat : Int) = 69) (hd : (d.toNat : Int) = 43 ∨ (d.toNat : Int) = 45) : expo (c :: d :: l) = pow l := by simp only [expo, B]; rw [if_pos h, if_pos hd]
theorem expo_plain {c d : UInt8} {l : List UInt8} (h : (c.toNat : Int) = 101 ∨ (c.toNat : Int) = 69) (hd : ¬ ((d.toNat : Int) = 43 ∨ (d.toNat : Int) = 45)) : expo (c :: d :: l) = pow (d :: l) := by simp only [expo, B]; rw [if_pos h, if_neg hd]
theorem pow_yes {c : UInt8} {l : List UInt8} (h : dig c = true) : pow (c :: l) = (digs l).isEmpty := by simp only [pow]; rw [h]; rfl
theorem pow_no {c : UInt8} {l : List UInt8} (h : dig c = false) : pow (c :: l) = false := by simp only [pow]; rw [h]; rfl

set_option maxHeartbeats 4000000 in
set_option maxRecDepth 100000 in
theorem isNumW (s : ByteArray) (w : World) (hs : s.size ≤ maxLen) :
    Calls Try.prog 8 #[.string s] w fun e w' => e = .returned (.bool (intp (strip s.data.toList))) ∧ w = w' := by
  unfold maxLen at hs
  obtain ⟨k0, hk0, hst, hcase⟩ := strip_at s
  rw [hst]
  clear hst
  generalize hT : intp (s.data.toList.drop k0) = T
  have HT := hide hT
  clear hT
  by_cases hp : 0 < s.size
  · have hcases : (k0 = 1 ∧ ((s[0].toNat : Int) == 45) = true) ∨ (k0 = 0 ∧ ((s[0].toNat : Int) == 45) = false) := by
      rcases hcase with ⟨h1, hp, h2⟩ | ⟨h1, h2⟩
      · exact .inl ⟨h1, beq_iff_eq.2 h2⟩
      · exact .inr ⟨h1, beq_eq_false_iff_ne.2 (h2 hp)⟩
    have HCS := hide hcases
    clear hcase hcases
    go_enter Try.func8, Try.ntmps8
    go_upto_if 15 with fail
    go_cut [4] (fun i wr => i = .int .i64 k0 ∧ w = wr)
    case first =>
      rcases HCS.out with ⟨rfl, hb⟩ | ⟨rfl, hb⟩
      all_goals
        go_wp2_with fail
        go_meet
        exact ⟨rfl, rfl⟩
    case rest =>
      obtain ⟨rfl, rfl⟩ := hcut
      clear HCS
      by_cases hk : k0 < s.size
      · have hT := HT.out
        rw [drop_at s k0 hk] at hT
        have hbr := byte_rng s[k0]
        have HI := hide hT
        have hdec : decide (s.size ≤ k0) = false := decide_eq_false (by omega)
        clear hT HT
        go_upto_if 24 with fail
        go_cut [4] (fun i wr => ∃ k, k ≤ s.size ∧ i = .int .i64 k ∧ Hid (frac (s.data.toList.drop k) = T) ∧ w = wr)
        case first =>
          by_cases h48 : (s[k0].toNat : Int) = 48
          · have hb : ((s[k0].toNat : Int) == 48) = true := beq_iff_eq.2 h48
            have HF : Hid (frac (s.data.toList.drop (k0 + 1)) = T) := by
              have := HI.out; rw [intp_zero h48] at this; exact this
            clear h48
            go_wp2_with fail
            go_meet
            exact ⟨k0 + 1, hk, by go_num, HF, rfl⟩
          · have hb : ((s[k0].toNat : Int) == 48) = false := beq_eq_false_iff_ne.2 h48
            by_cases hd : 49 ≤ (s[k0].toNat : Int) ∧ (s[k0].toNat : Int) ≤ 57
            · have HF : Hid (frac (digs (s.data.toList.drop (k0 + 1))) = T) := by
                have := HI.out; rw [intp_dig h48 hd] at this; exact this
              obtain ⟨hd1, hd2⟩ := hd
              clear h48 HI
              go_wp2_with fail
              simp only [hb]
              clear hb hd1 hd2
              go_loopg [4] s.size (fun g i wr => ∃ k, k ≤ s.size ∧ s.size - k ≤ g ∧ i = .int .i64 k ∧ Hid (frac (digs (s.data.toList.drop k)) = T) ∧ w = wr)
              case atStart => exact ⟨k0 + 1, hk, by omega, by go_num, HF, rfl⟩
              case round =>
                clear HF
                obtain ⟨k, hkk, hg, rfl, HF, rfl⟩ := hrel
                by_cases hlt : k < s.size
                · have hF := HF.out
                  rw [drop_at s k hlt] at hF
                  have HD := hide (digitW s[k] w)
                  cases hdg : dig s[k] with
                  | true =>
                    rw [digs_cons_yes hdg] at hF
                    rw [hdg] at HD
                    have HF2 := hide hF
                    clear hF hdg HF
                    go_wp2_with (go_at_call 16; refine HD.out.mono ?_; rintro e w' ⟨rfl, rfl⟩)
                    go_roundg (s.size - (k + 1))
                    case measure => omega
                    case rel => exact ⟨k + 1, hlt, by omega, by go_num, HF2, rfl⟩
                  | false =>
                    rw [digs_cons_no hdg, ← drop_at s k hlt] at hF
                    rw [hdg] at HD
                    have HF2 := hide hF
                    clear hF hdg HF
                    go_wp2_with (go_at_call 16; refine HD.out.mono ?_; rintro e w' ⟨rfl, rfl⟩)
                    go_meet
                    exact ⟨k, hkk, rfl, HF2, rfl⟩
                · obtain rfl : k = s.size := by omega
                  have hF := HF.out
                  rw [drop_end] at hF
                  have HF2 : Hid (frac (s.data.toList.drop s.size) = T) := by rw [drop_end]; exact hF
                  clear hF HF
                  go_wp2_with fail
                  go_meet
                  exact ⟨s.size, hkk, rfl, HF2, rfl⟩
            · have HF : Hid (false = T) := by
                have := HI.out; rw [intp_no h48 hd] at this; exact this
              clear h48 HI
              by_cases hd1 : 49 ≤ (s[k0].toNat : Int)
              · have hd2 : ¬ (s[k0].toNat : Int) ≤ 57 := fun h => hd ⟨hd1, h⟩
                clear hd
                go_wp2
                go_ret
                exact ⟨by rw [← HF.out]; rfl, rfl⟩
              · clear hd
                go_wp2
                go_ret
                exact ⟨by rw [← HF.out]; rfl, rfl⟩
        case rest =>
          clear HI hbr
          obtain ⟨k, hkk, rfl, HF, rfl⟩ := hcut
          by_cases hlt : k < s.size
          · have hF := HF.out
            rw [drop_at s k hlt] at hF
            have hbr := byte_rng s[k]
            have HI := hide hF
            clear hF HF
            go_upto_if 58 with fail
            go_cut [4] (fun i wr => ∃ k, k ≤ s.size ∧ i = .int .i64 k ∧ Hid (expo (s.data.toList.drop k) = T) ∧ w = wr)
            case first =>
              by_cases h46 : (s[k].toNat : Int) = 46
              · have hb : ((s[k].toNat : Int) == 46) = true := beq_iff_eq.2 h46
                by_cases hl1 : k + 1 < s.size
                · have hF := HI.out
                  rw [drop_at s (k + 1) hl1, frac_dot h46] at hF
                  have HD := hide (digitW s[k + 1] w)
                  have hge : ¬ (s.size : Int) ≤ (k : Int) + 1 := by omega
                  cases hdg : dig s[k + 1] with
                  | true =>
                    rw [hdg] at HD
                    rw [hdg, Bool.true_and] at hF
                    have HF : Hid (expo (digs (s.data.toList.drop (k + 1))) = T) := by rw [drop_at s (k + 1) hl1, digs_cons_yes hdg]; exact hF
                    clear hF hdg HI h46
                    go_wp2_with (go_at_call 16; refine HD.out.mono ?_; rintro e w' ⟨rfl, rfl⟩)
                    go_loopg [4] s.size (fun g i wr => ∃ k, k ≤ s.size ∧ s.size - k ≤ g ∧ i = .int .i64 k ∧ Hid (expo (digs (s.data.toList.drop k)) = T) ∧ w = wr)
                    case atStart => exact ⟨k + 1, by omega, by omega, by go_num, HF, rfl⟩
                    case round =>
                      clear HF HD
                      obtain ⟨k, hkk, hg, rfl, HF, rfl⟩ := hrel
                      by_cases hlt : k < s.size
                      · have hF := HF.out
                        rw [drop_at s k hlt] at hF
                        have HD := hide (digitW s[k] w)
                        cases hdg : dig s[k] with
                        | true =>
                          rw [digs_cons_yes hdg] at hF
                          rw [hdg] at HD
                          have HF2 := hide hF
                          clear hF hdg HF
                          go_wp2_with (go_at_call 16; refine HD.out.mono ?_; rintro e w' ⟨rfl, rfl⟩)
                          go_roundg (s.size - (k + 1))
                          case measure => omega
                          case rel => exact ⟨k + 1, hlt, by omega, by go_num, HF2, rfl⟩
                        | false =>
                          rw [digs_cons_no hdg, ← drop_at s k hlt] at hF
                          rw [hdg] at HD
                          have HF2 := hide hF
                          clear hF hdg HF
                          go_wp2_with (go_at_call 16; refine HD.out.mono ?_; rintro e w' ⟨rfl, rfl⟩)
                          go_meet
                          exact ⟨k, hkk, rfl, HF2, rfl⟩
                      · obtain rfl : k = s.size := by omega
                        have hF := HF.out
                        rw [drop_end] at hF
                        have HF2 : Hid (expo (s.data.toList.drop s.size) = T) := by rw [drop_end]; exact hF
                        clear hF HF
                        go_wp2_with fail
                        go_meet
                        exact ⟨s.size, hkk, rfl, HF2, rfl⟩
                  | false =>
                    rw [hdg] at HD
                    rw [hdg, Bool.false_and] at hF
                    have HF := hide hF
                    clear hF hdg HI h46
                    go_wp2_with (go_at_call 16; refine HD.out.mono ?_; rintro e w' ⟨rfl, rfl⟩)
                    go_ret
                    exact ⟨by rw [← HF.out]; rfl, rfl⟩
                · have hF := HI.out
                  have he : k + 1 = s.size := by omega
                  rw [he, drop_end, frac_dot_nil h46] at hF
                  have HF := hide hF
                  have hge : (s.size : Int) ≤ (k : Int) + 1 := by omega
                  clear hF he HI h46
                  go_wp2
                  go_ret
                  exact ⟨by rw [← HF.out]; rfl, rfl⟩
              · have hb : ((s[k].toNat : Int) == 46) = false := beq_eq_false_iff_ne.2 h46
                have HF : Hid (expo (s.data.toList.drop k) = T) := by
                  have := HI.out; rw [frac_no h46, ← drop_at s k hlt] at this; exact this
                clear h46 HI
                go_wp2_with fail
                go_meet
                exact ⟨k, hkk, rfl, HF, rfl⟩
            case rest =>
              clear HI hbr hlt hkk
              obtain ⟨k, hkk, rfl, HF, rfl⟩ := hcut
              by_cases hlt : k < s.size
              · have hbr := byte_rng s[k]
                have hF := HF.out
                rw [drop_at s k hlt] at hF
                clear HF
                by_cases hE : (s[k].toNat : Int) = 101 ∨ (s[k].toNat : Int) = 69
                · have hEb : ((s[k].toNat : Int) == 101) = true ∨ (((s[k].toNat : Int) == 101) = false ∧ ((s[k].toNat : Int) == 69) = true) := by
                    by_cases h1 : (s[k].toNat : Int) = 101
                    · exact .inl (beq_iff_eq.2 h1)
                    · exact .inr ⟨beq_eq_false_iff_ne.2 h1, beq_iff_eq.2 (by omega)⟩
                  by_cases hl1 : k + 1 < s.size
                  · have hsg : ∃ k2, k2 ≤ s.size ∧ Hid (pow (s.data.toList.drop k2) = T) ∧ ((k2 = k + 1 + 1 ∧ ((s[k + 1].toNat : Int) == 43) = true) ∨ (k2 = k + 1 + 1 ∧ ((s[k + 1].toNat : Int) == 43) = false ∧ ((s[k + 1].toNat : Int) == 45) = true) ∨ (k2 = k + 1 ∧ ((s[k + 1].toNat : Int) == 43) = false ∧ ((s[k + 1].toNat : Int) == 45) = false)) := by
                      rw [drop_at s (k + 1) hl1] at hF
                      by_cases h1 : (s[k + 1].toNat : Int) = 43
                      · exact ⟨k + 1 + 1, by omega, by rw [expo_sign hE (.inl h1)] at hF; exact hF, .inl ⟨rfl, beq_iff_eq.2 h1⟩⟩
                      · by_cases h2 : (s[k + 1].toNat : Int) = 45
                        · exact ⟨k + 1 + 1, by omega, by rw [expo_sign hE (.inr h2)] at hF; exact hF, .inr (.inl ⟨rfl, beq_eq_false_iff_ne.2 h1, beq_iff_eq.2 h2⟩)⟩
                        · exact ⟨k + 1, by omega, by rw [expo_plain hE (by omega), ← drop_at s (k + 1) hl1] at hF; exact hF, .inr (.inr ⟨rfl, beq_eq_false_iff_ne.2 h1, beq_eq_false_iff_ne.2 h2⟩)⟩
                    obtain ⟨k2, hk2, HP, hsg⟩ := hsg
                    have hl1' : (k : Int) + 1 < (s.size : Int) := by omega
                    obtain ⟨sg, hsg2⟩ : ∃ sg : Bool, (sg = true ∧ k2 = k + 1 + 1) ∨ (sg = false ∧ k2 = k + 1) := by
                      rcases hsg with ⟨h, _⟩ | ⟨h, _⟩ | ⟨h, _⟩
                      · exact ⟨true, .inl ⟨rfl, h⟩⟩
                      · exact ⟨true, .inl ⟨rfl, h⟩⟩
                      · exact ⟨false, .inr ⟨rfl, h⟩⟩
                    have HEB := hide hEb
                    have HSG := hide hsg
                    have HSG2 := hide hsg2
                    clear hF hE hbr hEb hsg hsg2
                    go_upto_region 20 with fail
                    go_cut [96] (fun v wr => v = .bool true ∧ w = wr)
                    case first =>
                      rcases HEB.out with hb1 | ⟨hb1, hb2⟩
                      all_goals
                        go_wp2_with fail
                        go_meet
                        exact ⟨rfl, rfl⟩
                    case rest =>
                    obtain ⟨rfl, rfl⟩ := hcut
                    clear HEB
                    go_upto_region 22 with fail
                    go_cut [113] (fun v wr => v = .bool sg ∧ w = wr)
                    case first =>
                      rcases HSG2.out with ⟨rfl, e2⟩ | ⟨rfl, e2⟩
                      · rcases HSG.out with ⟨h, hc1⟩ | ⟨h, hc1, hc2⟩ | ⟨h, hc1, hc2⟩
                        · clear e2 h
                          go_wp2_with fail
                          go_meet
                          exact ⟨rfl, rfl⟩
                        · clear e2 h
                          go_wp2_with fail
                          go_meet
                          exact ⟨rfl, rfl⟩
                        · omega
                      · rcases HSG.out with ⟨h, hc1⟩ | ⟨h, hc1, hc2⟩ | ⟨h, hc1, hc2⟩
                        · omega
                        · omega
                        · clear e2 h
                          go_wp2_with fail
                          go_meet
                          exact ⟨rfl, rfl⟩
                    case rest =>
                    obtain ⟨rfl, rfl⟩ := hcut
                    clear HSG
                    go_upto_if 113 with fail
                    go_cut [4] (fun i wr => i = .int .i64 k2 ∧ w = wr)
                    case first =>
                      rcases HSG2.out with ⟨rfl, rfl⟩ | ⟨rfl, rfl⟩
                      · go_wp2_with fail
                        go_meet
                        exact ⟨by go_num, rfl⟩
                      · go_wp2_with fail
                        go_meet
                        exact ⟨by go_num, rfl⟩
                    case rest =>
                      obtain ⟨rfl, rfl⟩ := hcut
                      clear HSG2
                      generalize k2 = k3 at *
                      by_cases hk3 : k3 < s.size
                      · have hP := HP.out
                        rw [drop_at s k3 hk3] at hP
                        have HD := hide (digitW s[k3] w)
                        have hge : ¬ (s.size : Int) ≤ (k3 : Int) := by omega
                        have hdec : decide (s.size ≤ k3) = false := decide_eq_false (by omega)
                        cases hdg : dig s[k3] with
                        | true =>
                          rw [hdg] at HD
                          rw [pow_yes hdg] at hP
                          have HP2 : Hid ((digs (s.data.toList.drop k3)).isEmpty = T) := by rw [drop_at s k3 hk3, digs_cons_yes hdg]; exact hP
                          clear hP hdg HP
                          go_wp2_with (go_at_call 16; refine HD.out.mono ?_; rintro e w' ⟨rfl, rfl⟩)
                          go_loopg [4] s.size (fun g i wr => ∃ k, k ≤ s.size ∧ s.size - k ≤ g ∧ i = .int .i64 k ∧ Hid ((digs (s.data.toList.drop k)).isEmpty = T) ∧ w = wr)
                          case atStart => exact ⟨k3, by omega, by omega, rfl, HP2, rfl⟩
                          case round =>
                            clear HP2 HD
                            obtain ⟨k4, hkk, hg, rfl, HF, rfl⟩ := hrel
                            by_cases hlt4 : k4 < s.size
                            · have hF := HF.out
                              rw [drop_at s k4 hlt4] at hF
                              have HD := hide (digitW s[k4] w)
                              cases hdg : dig s[k4] with
                              | true =>
                                rw [digs_cons_yes hdg] at hF
                                rw [hdg] at HD
                                have HF2 := hide hF
                                clear hF hdg HF
                                go_wp2_with (go_at_call 16; refine HD.out.mono ?_; rintro e w' ⟨rfl, rfl⟩)
                                go_roundg (s.size - (k4 + 1))
                                case measure => omega
                                case rel => exact ⟨k4 + 1, hlt4, by omega, by go_num, HF2, rfl⟩
                              | false =>
                                rw [digs_cons_no hdg] at hF
                                rw [hdg] at HD
                                have HF2 : Hid (false = T) := hF
                                have hne : ((k4 : Int) == (s.size : Int)) = false := beq_eq_false_iff_ne.2 (by omega)
                                clear hF hdg HF
                                go_wp2_with (go_at_call 16; refine HD.out.mono ?_; rintro e w' ⟨rfl, rfl⟩)
                                go_ret
                                exact ⟨by rw [← HF2.out]; rfl, rfl⟩
                            · obtain rfl : k4 = s.size := by omega
                              have hF := HF.out
                              rw [drop_end] at hF
                              have HF2 : Hid (true = T) := hF
                              clear hF HF
                              go_wp2
                              go_ret
                              exact ⟨by rw [← HF2.out]; simp, rfl⟩
                        | false =>
                          rw [hdg] at HD
                          rw [pow_no hdg] at hP
                          have HF2 := hide hP
                          clear hP hdg HP
                          go_wp2_with (go_at_call 16; refine HD.out.mono ?_; rintro e w' ⟨rfl, rfl⟩)
                          go_ret
                          exact ⟨by rw [← HF2.out]; rfl, rfl⟩
                      · obtain rfl : k3 = s.size := by omega
                        have HF2 : Hid (false = T) := by
                          have := HP.out; rw [drop_end] at this; exact this
                        clear HP
                        go_wp2
                        go_ret
                        exact ⟨by rw [← HF2.out]; rfl, rfl⟩
                  · have HF2 : Hid (false = T) := by
                      have he : k + 1 = s.size := by omega
                      rw [he, drop_end, expo_nil hE] at hF; exact hF
                    have hge : (s.size : Int) ≤ (k : Int) + 1 := by omega
                    clear hF hE hbr
                    rcases hEb with hb1 | ⟨hb1, hb2⟩
                    all_goals
                      go_wp2
                      go_ret
                      exact ⟨by rw [← HF2.out]; rfl, rfl⟩
                · have hb1 : ((s[k].toNat : Int) == 101) = false := beq_eq_false_iff_ne.2 (by omega)
                  have hb2 : ((s[k].toNat : Int) == 69) = false := beq_eq_false_iff_ne.2 (by omega)
                  have hne : ((k : Int) == (s.size : Int)) = false := beq_eq_false_iff_ne.2 (by omega)
                  have HF2 : Hid (false = T) := by rw [expo_no hE] at hF; exact hF
                  clear hF hE hbr
                  go_wp2
                  go_ret
                  exact ⟨by rw [← HF2.out]; rfl, rfl⟩
              · obtain rfl : k = s.size := by omega
                have HF2 : Hid (true = T) := by
                  have := HF.out; rw [drop_end] at this; exact this
                clear HF
                go_wp2
                go_ret
                exact ⟨by rw [← HF2.out]; simp, rfl⟩
          · obtain rfl : k = s.size := by omega
            have HF2 : Hid (true = T) := by
              have := HF.out; rw [drop_end] at this; exact this
            clear HF
            go_wp2
            go_ret
            exact ⟨by rw [← HF2.out]; simp, rfl⟩
      · obtain rfl : k0 = s.size := by omega
        have HF : Hid (false = T) := by
          have := HT.out; rw [drop_end] at this; exact this
        clear HT
        go_wp2
        go_ret
        exact ⟨by rw [← HF.out]; rfl, rfl⟩
  · have hz : s.size = 0 := by omega
    have hk : k0 = 0 := by omega
    have HF : Hid (false = T) := by
      have := HT.out; rw [hk, ← hz, drop_end] at this; exact this
    clear HT hcase
    go_enter Try.func8, Try.ntmps8
    go_wp2
    go_ret
    exact ⟨by rw [← HF.out]; rfl, rfl⟩
end Go.Proofs.Qxb6602195a
