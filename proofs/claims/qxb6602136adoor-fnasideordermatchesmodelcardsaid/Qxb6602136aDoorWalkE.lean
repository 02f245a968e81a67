import Derived.Test.Qxb6602136aDoorWalkD
import Derived.Test.Qxb6602136aDoorPlain2
import Derived.Deep.DeepCutAuto
namespace Go.Proofs.Qxb6602136aDoor
open Go.ChangeShapes Go.WideShapes Go.ChangeAt Go.RowKit Go.Sort

theorem byte_rng (c : UInt8) : 0 ≤ (c.toNat : Int) ∧ (c.toNat : Int) ≤ 255 := by have := c.toNat_lt; omega

theorem extract_list (s : ByteArray) (n : Nat) (_h : n ≤ s.size) : (s.extract n s.size).data.toList = s.data.toList.drop n := by
  rw [ByteArray.data_extract, Array.toList_extract]
  exact List.take_of_length_le (by rw [List.length_drop, Array.length_toList]; exact Nat.le_refl _)

theorem prefix_le {s p : ByteArray} (h : Lib.hasPrefix s.data.toList p.data.toList = true) : p.size ≤ s.size := by
  apply Nat.le_of_not_lt
  intro hl
  rw [prefix_short hl] at h
  cases h

theorem list_get (s : ByteArray) (k : Nat) (h : k < s.size) : s.data.toList[k]'(by rw [Array.length_toList]; exact h) = s[k] := rfl

set_option maxHeartbeats 2000000 in
set_option maxRecDepth 100000 in
theorem modelBaseW (s p : ByteArray) (w : World) (hs : s.size ≤ 1048576) :
    Calls Tryd.prog 11 #[.string s, .string p] w fun e w' => Bs e (baseQ s.data.toList p.data.toList) ∧ ∃ q, w' = w.drewN q := by
  have HC := hide (hasPrefixW s p w hs)
  obtain ⟨o, ho⟩ : ∃ o, baseQ s.data.toList p.data.toList = o := ⟨_, rfl⟩
  rw [ho]
  unfold baseQ at ho
  cases hp : Lib.hasPrefix s.data.toList p.data.toList with
  | false =>
    rw [hp] at HC ho
    have ho2 : o = none := ho.symm
    subst ho2
    go_enter Tryd.func11, Tryd.ntmps11
    go_wp2_with fail
    refine HC.out.mono ?_
    rintro e w' ⟨rfl, q, rfl⟩
    go_wp2_with fail
    go_returns
    exact ⟨rfl, q, rfl⟩
  | true =>
    have hle := prefix_le hp
    rw [if_pos hp, Lib.trimPrefix, if_pos hp, Array.length_toList] at ho
    rw [show p.data.size = p.size from rfl, ← extract_list s p.size hle] at ho
    have hsz : (s.extract p.size s.size).size ≤ 1048576 := by rw [ByteArray.size_extract]; omega
    rw [hp] at HC
    have HO := hide ho
    clear ho hp
    go_enter Tryd.func11, Tryd.ntmps11
    go_wp2_with fail
    refine HC.out.mono ?_
    rintro e w' ⟨rfl, q0, rfl⟩
    clear HC
    go_upto_region 4 with fail
    generalize s.extract p.size s.size = D at *
    have hl : D.data.toList.length = D.size := Array.length_toList
    by_cases h0 : D.size = 0
    · have ho : o = none := by rw [← HO.out]; exact base_none (fun h => by have := List.eq_nil_of_length_eq_zero (hl.trans h0); rw [this] at h; cases h)
      subst ho
      have hb : ((D.size : Int) == 0) = true := by rw [h0]; rfl
      go_wp2_with fail
      go_returns
      exact ⟨rfl, q0, rfl⟩
    have hb0 : ((D.size : Int) == 0) = false := beq_eq_false_iff_ne.2 (by omega)
    by_cases h19 : 19 < D.size
    · have ho : o = none := by rw [← HO.out]; exact long_none (by omega)
      subst ho
      have hb : (19 : Int) < D.size := by omega
      go_wp2_with fail
      go_returns
      exact ⟨rfl, q0, rfl⟩
    have hb19 : ¬ (19 : Int) < D.size := by omega
    have hp0 : 0 < D.size := by omega
    by_cases hf : 49 ≤ D[0].toNat ∧ D[0].toNat ≤ 57
    · have hf1 : ¬ (D[0].toNat : Int) < 49 := by omega
      have hf2 : ¬ (57 : Int) < D[0].toNat := by omega
      have HF := hide hf
      clear hf
      go_wp2_with fail
      clear hf1 hf2
      go_loop [7] (fun i => ∃ (k : Nat), i = .int .i64 k ∧ k ≤ D.size ∧ Hid (∀ j (h : j < D.size), j < k → isDig D[j] = true)) (fun i => D.size - (intOf i).toNat)
      case atStart => exact ⟨0, rfl, Nat.zero_le _, fun j h h2 => by omega⟩
      case round =>
        obtain ⟨k, rfl, hk, HJ⟩ := hrel
        by_cases hlt : k < D.size
        · have hrg := byte_rng D[k]
          by_cases hd : isDig D[k] = true
          · have HJ2 : Hid (∀ j (h : j < D.size), j < k + 1 → isDig D[j] = true) := by
              intro j h h2
              by_cases hjk : j = k
              · subst hjk; exact hd
              · exact HJ.out j h (by omega)
            have h1 : ¬ (D[k].toNat : Int) < 48 := by unfold isDig at hd; simp at hd; omega
            have h2 : ¬ (57 : Int) < D[k].toNat := by unfold isDig at hd; simp at hd; omega
            clear HJ hd
            go_wp2_with fail
            go_round
            case rel => exact ⟨k + 1, by go_num, by omega, HJ2⟩
            case measure => simp [intOf]; omega
          · have ho : o = none := by
              rw [← HO.out]
              exact base_none (fun h => hd (by have := dig_at (canon_dig h) k (by omega); exact this))
            subst ho
            clear HO HJ
            by_cases h1 : (D[k].toNat : Int) < 48
            · clear hd
              go_wp2_with fail
              go_returns
              exact ⟨rfl, q0, rfl⟩
            · have h2 : (57 : Int) < D[k].toNat := by unfold isDig at hd; simp at hd; omega
              clear hd
              go_wp2_with fail
              go_returns
              exact ⟨rfl, q0, rfl⟩
        · obtain rfl : k = D.size := by omega
          have hall : D.data.toList.all isDig = true := by
            rw [List.all_eq_true]
            intro x hx
            obtain ⟨j, hj, rfl⟩ := List.mem_iff_getElem.1 hx
            exact HJ.out j (by omega) (by omega)
          have HA := hide hall
          have HCN := hide (canon_of (by omega) HF.out hall)
          have hD := hide (And.intro hl h19)
          clear hall HJ hk hlt hl h0 h19 hb0 hb19
          go_upto_if 55 with fail
          go_cut [8] (fun i wr => ∃ q, Hid (val D.data.toList ≤ top) ∧ wr = w.drewN q)
          case first =>
            by_cases h9 : D.size = 19
            · have hb9 : ((D.size : Int) == 19) = true := by rw [h9]; rfl
              have H9 := hide h9
              clear h9
              go_wp2_with fail
              go_loopw [8] (fun i wr => ∃ (k q : Nat), i = .int .i64 k ∧ k ≤ 19 ∧ Hid (D.data.toList.take k = maxT.take k) ∧ wr = w.drewN q) (fun i _ => 19 - (intOf i).toNat)
              case atStart => exact ⟨0, q0, rfl, Nat.zero_le _, rfl, rfl⟩
              case round =>
                obtain ⟨k, q, rfl, hk, HJ, rfl⟩ := hrel
                by_cases hlt : k < 19
                · have hlD : k < D.size := by have := H9.out; omega
                  have hlM : k < (⟨#[57, 50, 50, 51, 51, 55, 50, 48, 51, 54, 56, 53, 52, 55, 55, 53, 56, 48, 55]⟩ : ByteArray).size := hlt
                  rcases Nat.lt_trichotomy D[k].toNat (⟨#[57, 50, 50, 51, 51, 55, 50, 48, 51, 54, 56, 53, 52, 55, 55, 53, 56, 48, 55]⟩ : ByteArray)[k].toNat with hc | hc | hc
                  · have HV := hide (cmp_lt (by have := hD.out.1; have := H9.out; omega) HA.out k hlt HJ.out hc)
                    go_wp2_with fail
                    go_quiet (fail)
                    go_wp2_with fail
                    go_meet
                    exact ⟨q + nq, HV, World.drewN_drewN _ _ _⟩
                  · have HJ2 : Hid (D.data.toList.take (k + 1) = maxT.take (k + 1)) := by
                      show _ = _
                      have h1 : k < D.data.toList.length := by have := hD.out.1; omega
                      have h2 : k < maxT.length := hlt
                      rw [List.take_succ_eq_append_getElem h1, List.take_succ_eq_append_getElem h2, HJ.out]
                      congr 2
                      exact UInt8.toNat_inj.1 hc
                    clear HJ
                    go_wp2_with fail
                    go_quiet (fail)
                    go_wp2_with fail
                    go_quiet (fail)
                    go_wp2_with fail
                    go_roundw
                    case rel => exact ⟨k + 1, _, by go_num, by omega, HJ2, rfl⟩
                    case measure => simp [intOf]; omega
                  · have ho : o = none := by
                      rw [← HO.out]
                      exact base_big (cmp_gt (by have := hD.out.1; have := H9.out; omega) k hlt HJ.out hc)
                    subst ho
                    go_wp2_with fail
                    go_quiet (fail)
                    go_wp2_with fail
                    go_quiet (fail)
                    go_wp2_with fail
                    go_returns
                    refine ⟨rfl, ?_, ?_⟩
                    rotate_left
                    · rw [World.drewN_drewN, World.drewN_drewN]
                · obtain rfl : k = 19 := by omega
                  have HV : Hid (val D.data.toList ≤ top) := by
                    have h1 := HJ.out
                    rw [List.take_of_length_le (by have := hD.out.1; have := H9.out; omega), List.take_of_length_le (by decide)] at h1
                    show _ ≤ _
                    rw [h1, val_maxT]
                    exact Nat.le_refl _
                  go_wp2_with fail
                  go_meet
                  exact ⟨q, HV, rfl⟩
            · have hb9 : ((D.size : Int) == 19) = false := beq_eq_false_iff_ne.2 (by omega)
              have HV := hide (short_le HA.out (by have := hD.out; omega))
              clear h9
              go_wp2_with fail
              go_meet
              exact ⟨q0, HV, rfl⟩
          case rest =>
            obtain ⟨q, HV, rfl⟩ := hcut
            have ho : o = some (val D.data.toList : Int) := by rw [← HO.out]; exact base_some HCN.out HV.out
            subst ho
            clear HO HCN HF
            go_wp2_with fail
            go_loop [9, 10] (fun v i => ∃ (k : Nat), i = .int .i64 k ∧ k ≤ D.size ∧ v = .int .i64 (val (D.data.toList.take k) : Nat)) (fun _ i => D.size - (intOf i).toNat)
            case atStart => exact ⟨0, rfl, Nat.zero_le _, rfl⟩
            case round =>
              obtain ⟨k, rfl, hk, rfl⟩ := hrel
              by_cases hlt : k < D.size
              · have hrg := byte_rng D[k]
                have hd : isDig D[k] = true := dig_at HA.out k (by have := hD.out.1; omega)
                have hst := hide (val_take_succ D.data.toList k (by have := hD.out.1; omega))
                have htop := Nat.le_trans (val_take_le D.data.toList (k + 1)) HV.out
                rw [hst.out] at htop
                have h48 : 48 ≤ D[k].toNat ∧ D[k].toNat ≤ 57 := by unfold isDig at hd; simpa using hd
                have hvt : val (D.data.toList.take k) * 10 + (D[k].toNat - 48) ≤ 9223372036854775807 := htop
                have hst2 : Hid (val (D.data.toList.take (k + 1)) = val (D.data.toList.take k) * 10 + (D[k].toNat - 48)) := hst.out
                clear hd hst htop
                generalize val (D.data.toList.take k) = V at *
                go_wp2_with fail
                go_round
                case rel => exact ⟨k + 1, by go_num, by omega, by rw [hst2.out]; go_num⟩
                case measure => simp [intOf]; omega
              · obtain rfl : k = D.size := by omega
                rw [show D.data.toList.take D.size = D.data.toList from List.take_of_length_le (by have := hD.out.1; omega)]
                clear hk hlt
                go_wp2_with fail
                go_returns
                exact ⟨rfl, q, rfl⟩
    · have ho : o = none := by rw [← HO.out]; exact base_none (fun h => hf (canon_first (by omega) h))
      subst ho
      clear HO
      by_cases hf1 : (D[0].toNat : Int) < 49
      · clear hf
        go_wp2_with fail
        go_returns
        exact ⟨rfl, q0, rfl⟩
      · have hf2 : (57 : Int) < D[0].toNat := by omega
        clear hf
        go_wp2_with fail
        go_returns
        exact ⟨rfl, q0, rfl⟩
end Go.Proofs.Qxb6602136aDoor
