import Derived.Test.Qxb6602077aBase
namespace Go.Proofs.Qxb6602077a
open Go.ChangeShapes Go.WideShapes Go.ChangeAt Go.RowKit

/-- Strictly ascending by name. -/
def Asc (rs : List Rf) (k : Nat) : Prop := ∀ i, i + 1 < k → (h : i + 1 < rs.length) → Op.bytesLess rs[i].1.toList rs[i + 1].1.toList = true

set_option maxHeartbeats 400000 in
theorem sortedW (a : Option Addr) (c : Nat) (rs : List Rf) (w : World) (hr : RefsAt w a rs) (hn : rs.length ≤ maxLen)  :
    Calls Try.prog 11 #[.slice a rs.length c] w fun e w' => BoolT e (Asc rs rs.length) ∧ ∃ q, w' = w.drewN q := by
  unfold maxLen at hn
  have HR : Hid _ := hr
  clear hr
  go_enter Try.func11, Try.ntmps11
  go_wp2
  go_loopw [3] (fun i wr => ∃ (k q : Nat), i = .int .i64 (k + 1) ∧ Hid (Asc rs (k + 1)) ∧ wr = w.drewN q) (fun i _ => rs.length + 1 - (intOf i).toNat)
  case atStart => exact ⟨0, 0, rfl, fun i h => by omega, rfl⟩
  case round =>
    obtain ⟨k, q, rfl, HA, rfl⟩ := hrel
    by_cases hlt : k + 1 < rs.length
    · obtain ⟨b, off, rfl, h1, -⟩ := RefsAt.at (Hid.out HR) hlt
      obtain ⟨b', off', e, h3, -⟩ := RefsAt.at (Hid.out HR) (show k < rs.length by omega)
      obtain ⟨rfl, rfl⟩ : b' = b ∧ off' = off := by simp at e; omega
      go_wp2
      go_quiet (fail)
      go_wp2
      · go_ret
        exact ⟨⟨false, rfl, fun h => by cases h⟩, _, World.drewN_drewN _ _ _⟩
      · go_roundw
        case rel => exact ⟨k + 1, _, by go_num, fun i h1 h2 => by
          by_cases e : i = k
          · subst e; simpa using ‹(!Op.bytesLess _ _) = false›
          · exact HA.out i (by omega) h2, rfl⟩
        case measure => simp [intOf]; omega
    · go_wp2
      go_ret
      exact ⟨⟨true, rfl, fun _ i h1 h2 => HA.out i (by omega) h2⟩, _, rfl⟩
end Go.Proofs.Qxb6602077a
