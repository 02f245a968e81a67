import Derived.Test.Qxb6602195aWalkA
import Derived.Lib.Strings
namespace Go.Proofs.Qxb6602195a
open Go.ChangeShapes Go.WideShapes Go.ChangeAt Go.RowKit

theorem nx_rng (p : Nat) (c : Int) (h : (nx p c).2 = true) : 1 ≤ (nx p c).1 ∧ (nx p c).1 ≤ 8 := by
  revert h
  unfold nx
  repeat' split
  all_goals simp

theorem nextW (p : Nat) (h1 : 1 ≤ p) (h8 : p ≤ 8) (c : Int) (hc0 : 0 ≤ c) (hc1 : c ≤ 255) (w : World) : Calls Try.prog 19 #[.int .i64 p, .int .u8 c] w fun e w' => Nx e p c ∧ w = w' := by
  match p, h1, h8 with
  | 1, _, _ => exact next1 c hc0 hc1 w
  | 2, _, _ => exact next2 c hc0 hc1 w
  | 3, _, _ => exact next3 c hc0 hc1 w
  | 4, _, _ => exact next4 c hc0 hc1 w
  | 5, _, _ => exact next5 c hc0 hc1 w
  | 6, _, _ => exact next6 c hc0 hc1 w
  | 7, _, _ => exact next7 c hc0 hc1 w
  | 8, _, _ => exact next8 c hc0 hc1 w

set_option maxHeartbeats 400000 in
theorem partNextW (p : Nat) (h1 : 1 ≤ p) (h8 : p ≤ 8) (c : Int) (hc0 : 0 ≤ c) (hc1 : c ≤ 255) (w : World) (q : Nat) (b : Bool) (hq : nx p c = (q, b)) :
    Calls Try.prog 15 #[.int .i64 p, .int .u8 c] w fun e w' => e = .returned (.tuple #[.int .i64 q, .bool b]) ∧ w = w' := by
  have HN : Hid (Calls Try.prog 19 #[.int .i64 p, .int .u8 c] w fun e w' => e = .returned (.tuple #[.int .i64 q, .bool b]) ∧ w = w') := by
    refine (nextW p h1 h8 c hc0 hc1 w).mono ?_
    rintro e w' ⟨he, hw⟩
    unfold Nx at he
    rw [hq] at he
    exact ⟨he, hw⟩
  clear hq
  go_enter Try.func15, Try.ntmps15
  go_wp2_with (go_at_call 19; refine HN.out.mono ?_; rintro e w' ⟨rfl, rfl⟩)
  go_ret2
  exact ⟨rfl, rfl⟩

theorem run_step {p q : Nat} {b : Bool} {c : UInt8} {l : List UInt8} (h : nx p (B c) = (q, b)) : A p (c :: l) = if b then A q l else false := by
  rw [A_cons, h]
theorem A_nil (p : Nat) : A p [] = fine p := rfl
theorem drop_at (s : ByteArray) (k : Nat) (h : k < s.size) : s.data.toList.drop k = s[k] :: s.data.toList.drop (k + 1) := by
  rw [List.drop_eq_getElem_cons (by simpa using h)]
  rfl
theorem nx_le (p : Nat) (h8 : p ≤ 8) (c : Int) : (nx p c).1 ≤ 8 := by
  unfold nx
  repeat' split
  all_goals (first | omega | (simp; omega) | simp)

/-- Where the reading begins. -/
theorem strip_at (s : ByteArray) : ∃ k0, k0 ≤ s.size ∧ strip s.data.toList = s.data.toList.drop k0 ∧ ((k0 = 1 ∧ ∃ h : 0 < s.size, (s[0].toNat : Int) = 45) ∨ (k0 = 0 ∧ ∀ h : 0 < s.size, ¬ (s[0].toNat : Int) = 45)) := by
  by_cases h : 0 < s.size
  · have e := drop_at s 0 h
    rw [List.drop_zero] at e
    by_cases h45 : (s[0].toNat : Int) = 45
    · refine ⟨1, h, ?_, .inl ⟨rfl, h, h45⟩⟩
      conv => lhs; rw [e]
      simp [strip, B, h45]
    · refine ⟨0, Nat.zero_le _, ?_, .inr ⟨rfl, fun _ => h45⟩⟩
      conv => lhs; rw [e]
      rw [List.drop_zero]
      simp only [strip, B]
      rw [if_neg h45, ← e]
  · refine ⟨0, Nat.zero_le _, ?_, .inr ⟨rfl, fun h' => absurd h' h⟩⟩
    have : s.data.toList = [] := List.eq_nil_of_length_eq_zero (by rw [← Lib.size_eq]; omega)
    rw [this]
    rfl

theorem byte_rng (c : UInt8) : 0 ≤ (c.toNat : Int) ∧ (c.toNat : Int) ≤ 255 := by have := c.toNat_lt; omega

set_option maxHeartbeats 1000000 in
theorem autoW (s : ByteArray) (w : World) (hs : s.size ≤ maxLen) :
    Calls Try.prog 7 #[.string s] w fun e w' => e = .returned (.bool (A 1 (strip s.data.toList))) ∧ w = w' := by
  unfold maxLen at hs
  obtain ⟨k0, hk0, hst, hcase⟩ := strip_at s
  rw [hst]
  have HST := hide hst
  clear hst
  generalize hT : A 1 (s.data.toList.drop k0) = T
  have HT := hide hT
  clear hT
  have hcases : (k0 = 1 ∧ ∃ h : 0 < s.size, ((s[0].toNat : Int) == 45) = true) ∨ (k0 = 0 ∧ ∃ h : 0 < s.size, ((s[0].toNat : Int) == 45) = false) ∨ (k0 = 0 ∧ s.size = 0) := by
    rcases hcase with ⟨h1, hp, h2⟩ | ⟨h1, h2⟩
    · exact .inl ⟨h1, hp, beq_iff_eq.2 h2⟩
    · by_cases hp : 0 < s.size
      · exact .inr (.inl ⟨h1, hp, beq_eq_false_iff_ne.2 (h2 hp)⟩)
      · exact .inr (.inr ⟨h1, by omega⟩)
  clear hcase
  rcases hcases with ⟨rfl, hp, hb⟩ | ⟨rfl, hp, hb⟩ | ⟨rfl, hb⟩
  all_goals
    go_enter Try.func7, Try.ntmps7
    go_wp2
    go_loopg [3, 4, 5, 6] s.size (fun g p i _ _ wr => ∃ (q k : Nat), 1 ≤ q ∧ q ≤ 8 ∧ k ≤ s.size ∧ s.size - k ≤ g ∧ p = .int .i64 q ∧ i = .int .i64 k ∧ Hid (A q (s.data.toList.drop k) = T) ∧ w = wr)
    case atStart => first | exact ⟨1, 1, by omega, by omega, hk0, by omega, rfl, rfl, HT, rfl⟩ | exact ⟨1, 0, by omega, by omega, hk0, by omega, rfl, rfl, HT, rfl⟩
    case round =>
      clear HT HST hb
      obtain ⟨q, k, hq1, hq8, hk, hg, rfl, rfl, HA, rfl⟩ := hrel
      by_cases hlt : k < s.size
      · obtain ⟨⟨q2, b2⟩, hn⟩ : ∃ r, nx q (B s[k]) = r := ⟨_, rfl⟩
        have hbr := byte_rng s[k]
        have C15 := hide (partNextW q hq1 hq8 (s[k].toNat : Int) hbr.1 hbr.2 w q2 b2 hn)
        have hA := HA.out
        rw [drop_at s k hlt, run_step hn] at hA
        have hrg : b2 = true → 1 ≤ q2 ∧ q2 ≤ 8 := fun h => by have := nx_rng q (B s[k]) (by rw [hn]; exact h); rw [hn] at this; exact this
        clear hbr hn HA
        cases b2 with
        | false =>
          have HA2 := hide hA
          clear hA hrg
          go_wp2_with (go_at_call 15; refine C15.out.mono ?_; rintro e w' ⟨rfl, rfl⟩)
          go_ret
          exact ⟨by rw [← HA2.out]; rfl, rfl⟩
        | true =>
          have HA2 := hide hA
          obtain ⟨hq21, hq28⟩ := hrg rfl
          clear hA hrg
          go_wp2_with (go_at_call 15; refine C15.out.mono ?_; rintro e w' ⟨rfl, rfl⟩)
          go_roundg (s.size - (k + 1))
          case measure => omega
          case rel => exact ⟨q2, k + 1, hq21, hq28, by omega, by omega, rfl, by go_num, HA2.out, rfl⟩
      · obtain rfl : k = s.size := by omega
        have hA : fine q = T := by
          have := HA.out
          rw [List.drop_of_length_le (by rw [← Lib.size_eq]; exact Nat.le_refl _), A_nil] at this
          exact this
        have HA2 := hide hA
        clear hA HA
        rcases (show q = 1 ∨ q = 2 ∨ q = 3 ∨ q = 4 ∨ q = 5 ∨ q = 6 ∨ q = 7 ∨ q = 8 by omega) with rfl | rfl | rfl | rfl | rfl | rfl | rfl | rfl
        all_goals
          go_wp2
          go_ret
          exact ⟨by rw [← HA2.out]; rfl, rfl⟩
end Go.Proofs.Qxb6602195a
