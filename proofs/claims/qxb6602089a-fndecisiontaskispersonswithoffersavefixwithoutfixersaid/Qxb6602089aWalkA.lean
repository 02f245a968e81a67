import Derived.Test.Qxb6602089aBase
namespace Go.Proofs.Qxb6602089a
open Go.ChangeShapes Go.WideShapes Go.ChangeAt Go.RowKit

set_option maxHeartbeats 400000 in
theorem addW (x y : Int) (w : World) : Calls Try.prog 16 #[.int .i64 x, .int .i64 y] w fun e w' => SomeInt e ∧ w = w' := by
  go_enter Try.func16, Try.ntmps16
  go_wp2
  all_goals
    go_ret
    exact ⟨⟨_, rfl⟩, rfl⟩

set_option maxHeartbeats 400000 in
theorem strsBytesW (x : Int) (a : Option Addr) (c : Nat) (ss : List ByteArray) (w : World) (hs : StrsAt w a ss) (hn : ss.length ≤ maxLen) : Calls Try.prog 17 #[.int .i64 x, .slice a ss.length c] w fun e w' => SomeInt e ∧ w = w' := by
  unfold maxLen at hn
  have HS := hide hs
  clear hs
  go_enter Try.func17, Try.ntmps17
  go_wp2_with (go_at_call 16; refine (addW _ _ _).mono ?_; rintro e w' ⟨⟨z, rfl⟩, rfl⟩)
  · go_ret
    exact ⟨⟨_, rfl⟩, rfl⟩
  go_loop [0, 5] (fun t i => ∃ (x : Int) (k : Nat), k ≤ ss.length ∧ i = .int .i64 k ∧ t = .int .i64 x) (fun _ i => ss.length - (intOf i).toNat)
  case atStart => exact ⟨_, 0, Nat.zero_le _, rfl, rfl⟩
  case round =>
    obtain ⟨x, k, hk, rfl, rfl⟩ := hrel
    by_cases hlt : k < ss.length
    · obtain ⟨b, off, rfl, h1⟩ := StrsAt.at HS.out hlt
      by_cases hx : x ≤ 1048576
      · go_wp2_with (go_at_call 16; refine (addW _ _ _).mono ?_; rintro e w' ⟨⟨z, rfl⟩, rfl⟩)
        go_round
        case rel => exact ⟨_, k + 1, by omega, by go_num, rfl⟩
        case measure => simp [intOf]; omega
      · go_wp2
        go_ret
        exact ⟨⟨_, rfl⟩, rfl⟩
    · go_wp2
      go_ret
      exact ⟨⟨_, rfl⟩, rfl⟩

set_option maxHeartbeats 600000 in
theorem defBytesW (nm fx : ByteArray) (a : Option Addr) (c : Nat) (ts : List Tk) (w : World) (ht : TasksAt w a ts) (hn : ts.length ≤ maxLen) : Calls Try.prog 9 #[.string nm, .string fx, .slice a ts.length c] w fun e w' => SomeInt e ∧ w = w' := by
  unfold maxLen at hn
  have HT := hide ht
  clear ht
  go_enter Try.func9, Try.ntmps9
  go_wp2_with (go_at_call 16; refine (addW _ _ _).mono ?_; rintro e w' ⟨⟨z, rfl⟩, rfl⟩)
  · go_ret
    exact ⟨⟨_, rfl⟩, rfl⟩
  go_loop [7, 8] (fun t i => ∃ (x : Int) (k : Nat), k ≤ ts.length ∧ i = .int .i64 k ∧ t = .int .i64 x) (fun _ i => ts.length - (intOf i).toNat)
  case atStart => exact ⟨_, 0, Nat.zero_le _, rfl, rfl⟩
  case round =>
    obtain ⟨x, k, hk, rfl, rfl⟩ := hrel
    by_cases hlt : k < ts.length
    · obtain ⟨b, off, rfl, h1, h2, h3, h4, h5, h6, h7⟩ := TasksAt.at HT.out hlt
      have H5 := hide h5
      have H7 := hide h7
      clear h5 h6 h7
      by_cases hx : x ≤ 1048576
      · go_wp2_with (first
          | (go_at_call 16; refine (addW _ _ _).mono ?_; rintro e w' ⟨⟨z, rfl⟩, rfl⟩)
          | (go_at_call 17; refine (strsBytesW _ _ _ _ _ H5.out H7.out).mono ?_; rintro e w' ⟨⟨z, rfl⟩, rfl⟩))
        go_round
        case rel => exact ⟨_, k + 1, by omega, by go_num, rfl⟩
        case measure => simp [intOf]; omega
      · go_wp2
        go_ret
        exact ⟨⟨_, rfl⟩, rfl⟩
    · go_wp2
      go_ret
      exact ⟨⟨_, rfl⟩, rfl⟩
end Go.Proofs.Qxb6602089a
