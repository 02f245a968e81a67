import Derived.Test.Qxb6602195aRows
import Derived.Test.Qxb6602195aPlain
import Derived.ProofKit
import Derived.OpenShut
import Derived.ShutString
import Derived.WalkSpells
import Derived.WalkLawsBesides
import Derived.Deep.LoopGhost
import Derived.Deep.DeepCutAuto
import Derived.Handy
namespace Go.Proofs.Qxb6602195a
open Go.ChangeShapes Go.WideShapes Go.ChangeAt Go.RowKit

set_option linter.unusedSimpArgs false

theorem hide {p : Prop} (h : p) : Hid p := h

/-- It hands back what the step says. -/
def Nx (e : Ending) (p : Nat) (c : Int) : Prop := e = .returned (.tuple #[.int .i64 (nx p c).1, .bool (nx p c).2])
theorem Nx.mk {p q : Nat} {c : Int} {b : Bool} (h : nx p c = (q, b)) : Nx (.returned (.tuple #[.int .i64 q, .bool b])) p c := by unfold Nx; rw [h]

set_option maxHeartbeats 1000000 in
theorem next1 (c : Int) (h0 : 0 ≤ c) (h1 : c ≤ 255) (w : World) : Calls Try.prog 19 #[.int .i64 1, .int .u8 c] w fun e w' => Nx e 1 c ∧ w = w' := by
  go_enter Try.func19, Try.ntmps19
  go_wp2
  all_goals
    go_ret2
    refine ⟨Nx.mk ?_, rfl⟩
    try simp only [beq_iff_eq, beq_eq_false_iff_ne] at *
    unfold nx
    repeat' split
    all_goals (first | rfl | (exfalso; omega))
set_option maxHeartbeats 1000000 in
theorem next2 (c : Int) (h0 : 0 ≤ c) (h1 : c ≤ 255) (w : World) : Calls Try.prog 19 #[.int .i64 2, .int .u8 c] w fun e w' => Nx e 2 c ∧ w = w' := by
  go_enter Try.func19, Try.ntmps19
  go_wp2
  all_goals
    go_ret2
    refine ⟨Nx.mk ?_, rfl⟩
    try simp only [beq_iff_eq, beq_eq_false_iff_ne] at *
    unfold nx
    repeat' split
    all_goals (first | rfl | (exfalso; omega))
set_option maxHeartbeats 1000000 in
theorem next3 (c : Int) (h0 : 0 ≤ c) (h1 : c ≤ 255) (w : World) : Calls Try.prog 19 #[.int .i64 3, .int .u8 c] w fun e w' => Nx e 3 c ∧ w = w' := by
  go_enter Try.func19, Try.ntmps19
  go_wp2
  all_goals
    go_ret2
    refine ⟨Nx.mk ?_, rfl⟩
    try simp only [beq_iff_eq, beq_eq_false_iff_ne] at *
    unfold nx
    repeat' split
    all_goals (first | rfl | (exfalso; omega))
set_option maxHeartbeats 1000000 in
theorem next4 (c : Int) (h0 : 0 ≤ c) (h1 : c ≤ 255) (w : World) : Calls Try.prog 19 #[.int .i64 4, .int .u8 c] w fun e w' => Nx e 4 c ∧ w = w' := by
  go_enter Try.func19, Try.ntmps19
  go_wp2
  all_goals
    go_ret2
    refine ⟨Nx.mk ?_, rfl⟩
    try simp only [beq_iff_eq, beq_eq_false_iff_ne] at *
    unfold nx
    repeat' split
    all_goals (first | rfl | (exfalso; omega))
set_option maxHeartbeats 1000000 in
theorem next5 (c : Int) (h0 : 0 ≤ c) (h1 : c ≤ 255) (w : World) : Calls Try.prog 19 #[.int .i64 5, .int .u8 c] w fun e w' => Nx e 5 c ∧ w = w' := by
  go_enter Try.func19, Try.ntmps19
  go_wp2
  all_goals
    go_ret2
    refine ⟨Nx.mk ?_, rfl⟩
    try simp only [beq_iff_eq, beq_eq_false_iff_ne] at *
    unfold nx
    repeat' split
    all_goals (first | rfl | (exfalso; omega))
set_option maxHeartbeats 1000000 in
theorem next6 (c : Int) (h0 : 0 ≤ c) (h1 : c ≤ 255) (w : World) : Calls Try.prog 19 #[.int .i64 6, .int .u8 c] w fun e w' => Nx e 6 c ∧ w = w' := by
  go_enter Try.func19, Try.ntmps19
  go_wp2
  all_goals
    go_ret2
    refine ⟨Nx.mk ?_, rfl⟩
    try simp only [beq_iff_eq, beq_eq_false_iff_ne] at *
    unfold nx
    repeat' split
    all_goals (first | rfl | (exfalso; omega))
set_option maxHeartbeats 1000000 in
theorem next7 (c : Int) (h0 : 0 ≤ c) (h1 : c ≤ 255) (w : World) : Calls Try.prog 19 #[.int .i64 7, .int .u8 c] w fun e w' => Nx e 7 c ∧ w = w' := by
  go_enter Try.func19, Try.ntmps19
  go_wp2
  all_goals
    go_ret2
    refine ⟨Nx.mk ?_, rfl⟩
    try simp only [beq_iff_eq, beq_eq_false_iff_ne] at *
    unfold nx
    repeat' split
    all_goals (first | rfl | (exfalso; omega))
set_option maxHeartbeats 1000000 in
theorem next8 (c : Int) (h0 : 0 ≤ c) (h1 : c ≤ 255) (w : World) : Calls Try.prog 19 #[.int .i64 8, .int .u8 c] w fun e w' => Nx e 8 c ∧ w = w' := by
  go_enter Try.func19, Try.ntmps19
  go_wp2
  all_goals
    go_ret2
    refine ⟨Nx.mk ?_, rfl⟩
    try simp only [beq_iff_eq, beq_eq_false_iff_ne] at *
    unfold nx
    repeat' split
    all_goals (first | rfl | (exfalso; omega))
end Go.Proofs.Qxb6602195a
