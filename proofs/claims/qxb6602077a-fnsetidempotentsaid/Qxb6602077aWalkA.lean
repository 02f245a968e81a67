import Derived.Test.Qxb6602077aBase
namespace Go.Proofs.Qxb6602077a
open Go.ChangeShapes Go.WideShapes Go.ChangeAt Go.RowKit
set_option maxHeartbeats 400000 in
theorem zzBytesP (f h : ByteArray) (a : Option Addr) (c : Nat) (rs : List Rf) (w : World) (hr : RefsAt w a rs) (hf : f.size ≤ maxLen) (hh : h.size ≤ maxLen) (hn : rs.length ≤ maxLen)  :
    Calls Try.prog 24 #[.string f, .string h, .slice a rs.length c] w fun e w' => BoolT e True ∧ w = w' := by
  unfold maxLen at hf hh hn
  have HR : Hid _ := hr
  clear hr
  go_enter Try.func24, Try.ntmps24
  go_wp2
  all_goals (try (go_ret; exact ⟨BoolT.triv, rfl⟩))
  go_loop [7, 8] (fun z i => ∃ (x : Int) (k : Nat), k ≤ rs.length ∧ i = .int .i64 k ∧ z = .int .i64 x) (fun _ i => rs.length - (intOf i).toNat)
  case atStart => exact ⟨_, 0, Nat.zero_le _, rfl, rfl⟩
  case round =>
    obtain ⟨x, k, hk, rfl, rfl⟩ := hrel
    by_cases hlt : k < rs.length
    · obtain ⟨b, off, rfl, h1, h2⟩ := RefsAt.at (Hid.out HR) hlt
      go_wp2
      all_goals (try (go_ret; exact ⟨BoolT.triv, rfl⟩))
      go_round
      case rel => exact ⟨_, k + 1, by omega, by go_num, rfl⟩
      case measure => simp [intOf]; omega
    · go_wp2
      go_ret
      exact ⟨BoolT.triv, rfl⟩
set_option maxHeartbeats 400000 in
theorem zzOver (f h nm id : ByteArray) (a : Option Addr) (c : Nat) (rs : List Rf) (w : World) (hr : RefsAt w a rs) (hf : f.size ≤ maxLen) (hh : h.size ≤ maxLen) (hnm : nm.size ≤ maxLen) (hid : id.size ≤ maxLen) (hn : rs.length ≤ maxLen)  :
    Calls Try.prog 10 #[.string f, .string h, .string nm, .string id, .slice a rs.length c, .slice none 0 0] w fun e w' => BoolF e (rs.length ≤ 32768) ∧ w = w' := by
  unfold maxLen at hf hh hn hnm hid
  have HR : Hid _ := hr
  clear hr
  go_enter Try.func10, Try.ntmps10
  go_wp2
  all_goals (try (go_ret; exact ⟨BoolF.yes, rfl⟩))
  all_goals (have hn2 : rs.length ≤ 32768 := by omega)
  go_loop [13, 14] (fun z i => ∃ (x : Int) (k : Nat), k ≤ rs.length ∧ i = .int .i64 k ∧ z = .int .i64 x) (fun _ i => rs.length - (intOf i).toNat)
  case atStart => exact ⟨_, 0, Nat.zero_le _, rfl, rfl⟩
  case round =>
    obtain ⟨x, k, hk, rfl, rfl⟩ := hrel
    by_cases hlt : k < rs.length
    · obtain ⟨b, off, rfl, h1, h2⟩ := RefsAt.at (Hid.out HR) hlt
      go_wp2
      all_goals (try (go_ret; exact ⟨BoolF.yes, rfl⟩))
      go_round
      case rel => exact ⟨_, k + 1, by omega, by go_num, rfl⟩
      case measure => simp [intOf]; omega
    · go_wp2
      go_rounds 1
      go_ret
      exact ⟨BoolF.no hn2, rfl⟩
end Go.Proofs.Qxb6602077a
