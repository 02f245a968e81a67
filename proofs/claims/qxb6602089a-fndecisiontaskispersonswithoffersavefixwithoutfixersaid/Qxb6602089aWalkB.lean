import Derived.Test.Qxb6602089aWalkA
namespace Go.Proofs.Qxb6602089a
open Go.ChangeShapes Go.WideShapes Go.ChangeAt Go.RowKit
set_option linter.unusedVariables false

/-- The first k tasks wait on no more than 2^20 others each. -/
def Small (ts : List Tk) (k : Nat) : Prop := ∀ j (h : j < ts.length), j < k → ts[j].ws.length ≤ 1048576

/-- .. and no more than 2^20 are offered. -/
def Fits (ts : List Tk) (ss : List ByteArray) : Prop := Small ts ts.length ∧ ss.length ≤ 1048576

set_option maxHeartbeats 2000000 in
set_option maxRecDepth 100000 in
theorem zzBytesW (nm fx rn : ByteArray) (a : Option Addr) (c : Nat) (ts : List Tk) (a' : Option Addr) (c' : Nat) (ss : List ByteArray) (w : World) (ht : TasksAt w a ts) (hs : StrsAt w a' ss)
    (h1 : nm.size ≤ maxLen) (h2 : fx.size ≤ maxLen) (h3 : rn.size ≤ maxLen) (hn : ts.length ≤ maxLen) (hm : ss.length ≤ maxLen) :
    Calls Try.prog 15 #[.string nm, .string fx, .slice a ts.length c, .string rn, .slice a' ss.length c'] w fun e w' => BoolT e (Fits ts ss) ∧ w = w' := by
  unfold maxLen at h1 h2 h3 hn hm
  have HT := hide ht
  have HS := hide hs
  clear ht hs
  go_enter Try.func15, Try.ntmps15
  go_wp2
  all_goals (try (go_ret; exact ⟨BoolT.no, rfl⟩))
  go_loop [11, 12] (fun z i => ∃ (x : Int) (k : Nat), k ≤ ts.length ∧ i = .int .i64 k ∧ z = .int .i64 x ∧ Hid (Small ts k)) (fun _ i => ts.length - (intOf i).toNat)
  case atStart => exact ⟨_, 0, Nat.zero_le _, rfl, rfl, fun j _ h => absurd h (Nat.not_lt_zero _)⟩
  case round =>
    obtain ⟨x, k, hk, rfl, rfl, HK⟩ := hrel
    by_cases hlt : k < ts.length
    · obtain ⟨b, off, rfl, g1, g2, g3, g4, g5, g6, g7⟩ := TasksAt.at HT.out hlt
      have hsm : ts[k].ws.length ≤ 1048576 → Small ts (k + 1) := fun h j hj hjk => by
        by_cases e : j = k
        · subst e; exact h
        · exact HK.out j hj (by omega)
      have HSM := hide hsm
      have H5 := hide g5
      unfold maxLen at g7
      clear g5 g6 hsm
      generalize ts[k].wa = wa at *
      generalize ts[k].wc = wc at *
      generalize ts[k].ws = ws at *
      generalize ts[k].role = r1 at *
      generalize ts[k].kind = r2 at *
      generalize ts[k].phase = r3 at *
      go_wp2
      all_goals (try (go_ret; exact ⟨BoolT.no, rfl⟩))
      have hws : ws.length ≤ 1048576 := by omega
      go_loop [11, 13] (fun z i => ∃ (x : Int) (k2 : Nat), k2 ≤ ws.length ∧ i = .int .i64 k2 ∧ z = .int .i64 x) (fun _ i => ws.length - (intOf i).toNat)
      case atStart => exact ⟨_, 0, Nat.zero_le _, rfl, rfl⟩
      case round =>
        obtain ⟨x2, k2, hk2, rfl, rfl⟩ := hrel
        by_cases hlt2 : k2 < ws.length
        · obtain ⟨b2, off2, rfl, g8⟩ := StrsAt.at H5.out hlt2
          go_wp2
          all_goals (try (go_ret; exact ⟨BoolT.no, rfl⟩))
          go_round
          case rel => exact ⟨_, k2 + 1, by omega, by go_num, rfl⟩
          case measure => simp [intOf]; omega
        · go_wp2
          go_round
          case rel => exact ⟨_, k + 1, by omega, by go_num, rfl, HSM.out hws⟩
          case measure => simp [intOf]; omega
    · obtain rfl : k = ts.length := by omega
      go_wp2
      all_goals (try (go_ret; exact ⟨BoolT.no, rfl⟩))
      have hss : ss.length ≤ 1048576 := by omega
      go_loop [11, 14] (fun z i => ∃ (x : Int) (k2 : Nat), k2 ≤ ss.length ∧ i = .int .i64 k2 ∧ z = .int .i64 x) (fun _ i => ss.length - (intOf i).toNat)
      case atStart => exact ⟨_, 0, Nat.zero_le _, rfl, rfl⟩
      case round =>
        obtain ⟨x2, k2, hk2, rfl, rfl⟩ := hrel
        by_cases hlt2 : k2 < ss.length
        · obtain ⟨b2, off2, rfl, g8⟩ := StrsAt.at HS.out hlt2
          go_wp2
          all_goals (try (go_ret; exact ⟨BoolT.no, rfl⟩))
          go_round
          case rel => exact ⟨_, k2 + 1, by omega, by go_num, rfl⟩
          case measure => simp [intOf]; omega
        · go_wp2
          go_ret
          exact ⟨BoolT.yes ⟨HK.out, hss⟩, rfl⟩
end Go.Proofs.Qxb6602089a
