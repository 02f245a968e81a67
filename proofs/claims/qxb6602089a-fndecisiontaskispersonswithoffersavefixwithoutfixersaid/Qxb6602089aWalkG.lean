import Derived.Test.Qxb6602089aWalkF
namespace Go.Proofs.Qxb6602089a
open Go.ChangeShapes Go.WideShapes Go.ChangeAt Go.RowKit

theorem kept_le (keep : Bool) (ss : List ByteArray) (k : Nat) : (kept keep (ss.take k)).length ≤ k := by
  have := List.length_filter_le (keeps keep) (ss.take k)
  rw [List.length_take] at this
  unfold kept
  omega

theorem zzDecisionW (nm fx rn : ByteArray) (x : Option Addr) (y z : Nat) (a : Option Addr) (c : Nat) (ss : List ByteArray) (w : World) (hs : StrsAt w a ss) (hn : ss.length ≤ 4096) (keep : Bool) (hkp : fx.toList.isEmpty = !keep) :
    Calls Try.prog 19 #[.agg #[.string nm, .string fx, .slice x y z], .string rn, .slice a ss.length c] w fun e w' => ∃ g v, e = .returned (.pointer (some ⟨g, 0, none⟩)) ∧ (∃ B, Choices B w' v (kept keep ss)) ∧
      w'.heap[g]? = some (.cells #[.string ⟨#[]⟩, .string ⟨#[112, 101, 114, 115, 111, 110]⟩, .string ⟨#[100, 101, 99, 105, 115, 105, 111, 110]⟩, .string ⟨#[]⟩, .string ⟨#[]⟩, .slice none 0 0, .string rn, .string ⟨#[]⟩, v, .string ⟨#[]⟩, .pointer none, .pointer none] 45 (0, 0)) ∧ Below w.heap.size w w' := by
  have HS := hide hs
  have HK := hide hkp
  clear hs hkp
  go_enter Try.func19, Try.ntmps19
  go_wp2_with fail
  have al := (Below.refl w.heap.size w).alloc (Nat.le_refl _) (Obj.cells #[Value.string nm, Value.string fx, Value.slice x y z] 28)
  refine (decisionW nm fx rn x y z a c ss _ (StrsAt.later HS.out al) hn keep HK.out).mono ?_
  rintro e w2 ⟨g, v, rfl, h1, h2, h3⟩
  have H2 := hide h2
  clear h2
  go_wp2_with fail
  go_ret
  exact ⟨g, v, rfl, ⟨_, h1⟩, H2.out, al.trans (h3.mono (by simp))⟩

set_option maxHeartbeats 400000 in
theorem keptCountW (a : Option Addr) (c : Nat) (ss : List ByteArray) (w : World) (hs : StrsAt w a ss) (hn : ss.length ≤ 4096) (keep : Bool) :
    Calls Try.prog 20 #[.slice a ss.length c, .bool keep] w fun e w' => e = .returned (.int .i64 (kept keep ss).length) ∧ w = w' := by
  have HS := hide hs
  clear hs
  go_enter Try.func20, Try.ntmps20
  go_wp2
  go_loop [5, 6] (fun t i => ∃ (k : Nat), k ≤ ss.length ∧ i = .int .i64 k ∧ t = .int .i64 (kept keep (ss.take k)).length) (fun _ i => ss.length - (intOf i).toNat)
  case atStart => exact ⟨0, Nat.zero_le _, rfl, rfl⟩
  case round =>
    obtain ⟨k, hk, rfl, rfl⟩ := hrel
    by_cases hlt : k < ss.length
    · obtain ⟨b, off, rfl, g1⟩ := StrsAt.at HS.out hlt
      have hsn := hide (kept_snoc keep ss k hlt)
      have hkl := kept_le keep ss k
      by_cases hkq : keeps keep ss[k] = true
      · have hnext : Hid ((kept keep (ss.take (k + 1))).length = (kept keep (ss.take k)).length + 1) := by
          have := hsn.out; rw [if_pos hkq] at this; show _ = _; rw [this]; simp
        cases keep with
        | true =>
          clear hkq hsn
          generalize (kept true (ss.take k)).length = n at *
          go_wp2
          go_round
          case rel => exact ⟨k + 1, by omega, by go_num, by rw [hnext.out]; go_num⟩
          case measure => simp [intOf]; omega
        | false =>
          have hq : (ss[k].toList == [102, 105, 120]) = false := by unfold keeps at hkq; simpa using hkq
          clear hkq hsn
          generalize (kept false (ss.take k)).length = n at *
          go_wp2
          go_round
          case rel => exact ⟨k + 1, by omega, by go_num, by rw [hnext.out]; go_num⟩
          case measure => simp [intOf]; omega
      · have hnext : Hid ((kept keep (ss.take (k + 1))).length = (kept keep (ss.take k)).length) := by
          have := hsn.out; rw [if_neg hkq, List.append_nil] at this; show _ = _; rw [this]
        obtain ⟨rfl, hq⟩ := keeps_no hkq
        clear hkq hsn
        generalize (kept false (ss.take k)).length = n at *
        go_wp2
        go_round
        case rel => exact ⟨k + 1, by omega, by go_num, by rw [hnext.out]⟩
        case measure => simp [intOf]; omega
    · obtain rfl : k = ss.length := by omega
      go_wp2
      go_ret
      exact ⟨rfl, rfl⟩

/-- The n-th that is kept. -/
theorem kept_get (keep : Bool) (ss : List ByteArray) (k : Nat) (hk : k < ss.length) (h : keeps keep ss[k] = true) : (kept keep ss)[(kept keep (ss.take k)).length]? = some ss[k] := by
  have e : kept keep ss = kept keep (ss.take k) ++ (ss[k] :: kept keep (ss.drop (k + 1))) := by
    unfold kept
    conv => lhs; rw [← List.take_append_drop k ss, List.filter_append, List.drop_eq_getElem_cons hk, List.filter_cons_of_pos h]
  rw [e, List.getElem?_append_right (Nat.le_refl _)]
  simp

set_option maxHeartbeats 400000 in
theorem nthKeptW (a : Option Addr) (c : Nat) (ss : List ByteArray) (w : World) (hs : StrsAt w a ss) (hn : ss.length ≤ 4096) (keep : Bool) (i : Nat) (hi : i < (kept keep ss).length) :
    Calls Try.prog 21 #[.slice a ss.length c, .int .i64 i, .bool keep] w fun e w' => e = .returned (.string (kept keep ss)[i]) ∧ w = w' := by
  have HS := hide hs
  clear hs
  obtain ⟨r, hr⟩ : ∃ r, (kept keep ss)[i] = r := ⟨_, rfl⟩
  rw [hr]
  have HRr : Hid ((kept keep ss)[i]? = some r) := by show _ = _; rw [List.getElem?_eq_getElem hi, hr]
  have HI := hide hi
  clear hr hi
  go_enter Try.func21, Try.ntmps21
  go_wp2
  go_loop [7, 8] (fun t j => ∃ (k : Nat), k ≤ ss.length ∧ j = .int .i64 k ∧ t = .int .i64 (kept keep (ss.take k)).length ∧ (kept keep (ss.take k)).length ≤ i) (fun _ i => ss.length - (intOf i).toNat)
  case atStart => exact ⟨0, Nat.zero_le _, rfl, rfl, Nat.zero_le _⟩
  case round =>
    obtain ⟨k, hk, rfl, rfl, hki⟩ := hrel
    by_cases hlt : k < ss.length
    · obtain ⟨b, off, rfl, g1⟩ := StrsAt.at HS.out hlt
      have hsn := hide (kept_snoc keep ss k hlt)
      have hkl := kept_le keep ss k
      by_cases hkq : keeps keep ss[k] = true
      · have hnext : Hid ((kept keep (ss.take (k + 1))).length = (kept keep (ss.take k)).length + 1) := by
          have := hsn.out; rw [if_pos hkq] at this; show _ = _; rw [this]; simp
        have hget := kept_get keep ss k hlt hkq
        by_cases hni : (kept keep (ss.take k)).length = i
        · have hrk : ss[k] = r := by
            rw [hni, HRr.out] at hget; simpa using hget.symm
          have HRK := hide hrk
          clear hget hrk
          have hbe : (((kept keep (ss.take k)).length : Int) == (i : Int)) = true := beq_iff_eq.2 (by omega)
          cases keep with
          | true =>
            clear hkq hsn
            generalize (kept true (ss.take k)).length = n at *
            go_wp2
            go_ret
            exact ⟨by rw [← HRK.out]; rfl, rfl⟩
          | false =>
            have hq : (ss[k].toList == [102, 105, 120]) = false := by unfold keeps at hkq; simpa using hkq
            clear hkq hsn
            generalize (kept false (ss.take k)).length = n at *
            go_wp2
            go_ret
            exact ⟨by rw [← HRK.out]; rfl, rfl⟩
        · have hbe : (((kept keep (ss.take k)).length : Int) == (i : Int)) = false := beq_eq_false_iff_ne.2 (by omega)
          clear hget
          cases keep with
          | true =>
            clear hkq hsn
            generalize (kept true (ss.take k)).length = n at *
            go_wp2
            go_round
            case rel => exact ⟨k + 1, by omega, by go_num, by rw [hnext.out]; go_num, by rw [hnext.out]; omega⟩
            case measure => simp [intOf]; omega
          | false =>
            have hq : (ss[k].toList == [102, 105, 120]) = false := by unfold keeps at hkq; simpa using hkq
            clear hkq hsn
            generalize (kept false (ss.take k)).length = n at *
            go_wp2
            go_round
            case rel => exact ⟨k + 1, by omega, by go_num, by rw [hnext.out]; go_num, by rw [hnext.out]; omega⟩
            case measure => simp [intOf]; omega
      · have hnext : Hid ((kept keep (ss.take (k + 1))).length = (kept keep (ss.take k)).length) := by
          have := hsn.out; rw [if_neg hkq, List.append_nil] at this; show _ = _; rw [this]
        obtain ⟨rfl, hq⟩ := keeps_no hkq
        clear hkq hsn
        generalize (kept false (ss.take k)).length = n at *
        go_wp2
        go_round
        case rel => exact ⟨k + 1, by omega, by go_num, by rw [hnext.out], by rw [hnext.out]; exact hki⟩
        case measure => simp [intOf]; omega
    · exfalso
      obtain rfl : k = ss.length := by omega
      rw [List.take_length] at hki
      have := HI.out
      omega
end Go.Proofs.Qxb6602089a
