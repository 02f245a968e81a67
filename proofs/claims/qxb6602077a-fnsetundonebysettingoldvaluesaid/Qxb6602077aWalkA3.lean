import Derived.Test.Qxb6602077aBase
namespace Go.Proofs.Qxb6602077a
open Go.ChangeShapes Go.WideShapes Go.ChangeAt Go.RowKit
set_option linter.unusedVariables false
set_option maxHeartbeats 400000 in
theorem zzBytesI (f h nm id : ByteArray) (a : Option Addr) (c : Nat) (rs : List Rf) (w : World) (hr : RefsAt w a rs) (hf : f.size ≤ maxLen) (hh : h.size ≤ maxLen) (hnm : nm.size ≤ maxLen) (hid : id.size ≤ maxLen) (hn : rs.length ≤ maxLen)  :
    Calls Try.prog 20 #[.string f, .string h, .slice a rs.length c, .string nm, .string id] w fun e w' => BoolT e True ∧ w = w' := by
  unfold maxLen at hf hh hn hnm hid
  have HR : Hid _ := hr
  clear hr
  go_enter Try.func20, Try.ntmps20
  go_wp2
  all_goals (try (go_ret; exact ⟨BoolT.triv, rfl⟩))
  go_loop [11, 12] (fun z i => ∃ (x : Int) (k : Nat), k ≤ rs.length ∧ i = .int .i64 k ∧ z = .int .i64 x) (fun _ i => rs.length - (intOf i).toNat)
  case atStart => exact ⟨_, 0, Nat.zero_le _, rfl, rfl⟩
  case round =>
    obtain ⟨x, k, hk, rfl, rfl⟩ := hrel
    by_cases hlt : k < rs.length
    · obtain ⟨b, off, rfl, h1, h2⟩ := RefsAt.at (Hid.out HR) hlt
      go_wp2
      all_goals (try (go_ret; exact ⟨BoolT.triv, rfl⟩))
      go_round
      case rel => exact ⟨_, k + 1, by omega, by go_num, rfl⟩
      case measure => simp [intOf]; omega
    · go_wp2
      all_goals
        go_ret
        exact ⟨BoolT.triv, rfl⟩
set_option maxHeartbeats 400000 in
theorem zzBytesU (f h nm id : ByteArray) (a : Option Addr) (c : Nat) (rs : List Rf) (w : World) (hr : RefsAt w a rs) (hf : f.size ≤ maxLen) (hh : h.size ≤ maxLen) (hnm : nm.size ≤ maxLen) (hid : id.size ≤ maxLen) (hn : rs.length ≤ maxLen)  :
    Calls Try.prog 25 #[.string f, .string h, .slice a rs.length c, .string nm, .string id] w fun e w' => BoolT e True ∧ w = w' := by
  unfold maxLen at hf hh hn hnm hid
  have HR : Hid _ := hr
  clear hr
  go_enter Try.func25, Try.ntmps25
  go_wp2
  all_goals (try (go_ret; exact ⟨BoolT.triv, rfl⟩))
  go_loop [11, 12] (fun z i => ∃ (x : Int) (k : Nat), k ≤ rs.length ∧ i = .int .i64 k ∧ z = .int .i64 x) (fun _ i => rs.length - (intOf i).toNat)
  case atStart => exact ⟨_, 0, Nat.zero_le _, rfl, rfl⟩
  case round =>
    obtain ⟨x, k, hk, rfl, rfl⟩ := hrel
    by_cases hlt : k < rs.length
    · obtain ⟨b, off, rfl, h1, h2⟩ := RefsAt.at (Hid.out HR) hlt
      go_wp2
      all_goals (try (go_ret; exact ⟨BoolT.triv, rfl⟩))
      go_round
      case rel => exact ⟨_, k + 1, by omega, by go_num, rfl⟩
      case measure => simp [intOf]; omega
    · go_wp2
      all_goals
        go_ret
        exact ⟨BoolT.triv, rfl⟩
end Go.Proofs.Qxb6602077a
