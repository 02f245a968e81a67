import Derived.Test.Qxb6602089aWalkD
namespace Go.Proofs.Qxb6602089a
open Go.ChangeShapes Go.WideShapes Go.ChangeAt Go.RowKit

theorem cloneTasks0 (w : World) : Calls Try.prog 10 #[.slice none 0 0] w fun e w' => e = .returned (.slice none 0 0) ∧ w = w' := by
  have hnil := fun w => Lib.run_eql_slice_nil (P := Try.prog) w 22 33 none 0 0 0 0 Try.underlying22
  go_enter Try.func10, Try.ntmps10
  go_wp2
  go_ret
  exact ⟨rfl, rfl⟩

theorem cloneTasksW (a : Option Addr) (c : Nat) (ts : List Tk) (w : World) (ht : TasksAt w a ts) (h0 : a = none → ts = [] ∧ c = 0) (hn : ts.length ≤ 4096) (hsm : Small ts ts.length) :
    Calls Try.prog 10 #[.slice a ts.length c] w fun e w' => (e = .returned (.slice none 0 0) ∨ ∃ g n, e = .returned (.slice (some ⟨g, 0, none⟩) n n) ∧ n ≤ 4096 ∧ TkBlk w' g 33 n n) ∧ Below w.heap.size w w' := by
  cases a with
  | none =>
    obtain ⟨rfl, rfl⟩ := h0 rfl
    refine (cloneTasks0 w).mono ?_
    rintro e w' ⟨rfl, rfl⟩
    exact ⟨.inl rfl, Below.refl _ _⟩
  | some a =>
    refine (cloneTasks1 a c ts w ht hn hsm).mono ?_
    rintro e w' ⟨rfl, h1, h2⟩
    exact ⟨.inr ⟨_, _, rfl, hn, h1⟩, h2⟩

set_option maxHeartbeats 1000000 in
theorem definition0 (nm fx : ByteArray) (w : World) : Calls Try.prog 11 #[.string nm, .string fx, .slice none 0 0] w fun e w' => (∃ x y z, e = .returned (.agg #[.string nm, .string fx, .slice x y z])) ∧ Below w.heap.size w w' := by
  have hnil := fun w => run_neq_slice_nil_any (P := Try.prog) w 22 33 none 0 0 0 0 Try.underlying22
  go_enter Try.func11, Try.ntmps11
  go_wp2
  go_rounds 1
  go_returns
  exact ⟨⟨_, _, _, rfl⟩, (Below.refl _ _).alloc (Nat.le_refl _) _⟩

set_option maxHeartbeats 1000000 in
theorem definition1 (nm fx : ByteArray) (g n : Nat) (w : World) (hn : n ≤ 4096) (ht : TkBlk w g 33 n n) : Calls Try.prog 11 #[.string nm, .string fx, .slice (some ⟨g, 0, none⟩) n n] w fun e w' => (∃ x y z, e = .returned (.agg #[.string nm, .string fx, .slice x y z])) ∧ Below w.heap.size w w' := by
  have HT := hide ht
  clear ht
  have hmk := run_make4 Try.underlying26 Try.info59 n (by omega)
  have hnil := fun w => run_neq_slice_nil_any (P := Try.prog) w 22 33 (some ⟨g, 0, none⟩) n n 0 0 Try.underlying22
  go_enter Try.func11, Try.ntmps11
  go_wp2
  clear hmk hnil
  go_loopw [8] (fun i wr => ∃ (k : Nat), i = .int .i64 k ∧ k ≤ n ∧ Hid (TkBlk wr (w.heap.size + 1) 59 n k) ∧ Hid (wr.heap[w.heap.size]? = some (.cells #[.string ⟨#[]⟩, .string ⟨#[]⟩, .slice none 0 0] 28 (0, 0))) ∧ Hid (Below w.heap.size w wr)) (fun i _ => n - (intOf i).toNat)
  case atStart =>
    refine ⟨0, rfl, Nat.zero_le _, ?_, ?_, ((Below.refl _ _).alloc (Nat.le_refl _) _).alloc (by simp) _⟩
    · have := tkBlk_made (w.alloc (Obj.cells #[Value.string { data := #[] }, Value.string { data := #[] }, Value.slice none 0 0] 28)) n 59
      simpa [Hid] using this
    · show (World.heap _)[w.heap.size]? = _
      rw [Below.heap_alloc _ _ _ (by simp)]
      exact heap_alloc_new w _
  case round =>
    obtain ⟨k, rfl, hk, HK, HRS, HB⟩ := hrel
    by_cases hlt : k < n
    · obtain ⟨r, q, p, x, y, z, g1, g2, g3, g4⟩ := TkBlk.cell HT.out hlt
      replace g1 := cell_later HB.out g1
      replace g2 := cell_later HB.out g2
      replace g3 := cell_later HB.out g3
      replace g4 := cell_later HB.out g4
      obtain ⟨v0, d0, e0⟩ := TkBlk.room HK.out (o := k * 4) (by omega)
      obtain ⟨v1, d1, e1⟩ := TkBlk.room HK.out (o := k * 4 + 1) (by omega)
      obtain ⟨v2, d2, e2⟩ := TkBlk.room HK.out (o := k * 4 + 2) (by omega)
      obtain ⟨v3, d3, e3⟩ := TkBlk.room HK.out (o := k * 4 + 3) (by omega)
      go_wp2
      go_region
      go_wp2
      go_roundw
      case rel =>
        refine ⟨k + 1, by go_num, by omega, ?_, ?_, ?_⟩
        · exact TkBlk.snoc HK.out hlt r q p x y z
        · show (World.heap (World.setCell _ _ _))[w.heap.size]? = _
          rw [Below.heap_setCell _ _ _ _ (by simp), Below.heap_setCell _ _ _ _ (by simp), Below.heap_setCell _ _ _ _ (by simp), Below.heap_setCell _ _ _ _ (by simp)]
          exact HRS.out
        · exact ((((HB.out.setCell (p := ⟨_, _, _⟩) (Nat.le_succ _) _).setCell (p := ⟨_, _, _⟩) (Nat.le_succ _) _).setCell (p := ⟨_, _, _⟩) (Nat.le_succ _) _).setCell (p := ⟨_, _, _⟩) (Nat.le_succ _) _).drew
      case measure => simp [intOf]; omega
    · have c0 : wr.cell? ⟨w.heap.size, 0, none⟩ = some (.string ⟨#[]⟩) := by rw [cell_of_row wr _ _ _ _ _ HRS.out]; rfl
      have c1 : wr.cell? ⟨w.heap.size, 1, none⟩ = some (.string ⟨#[]⟩) := by rw [cell_of_row wr _ _ _ _ _ HRS.out]; rfl
      have c2 : wr.cell? ⟨w.heap.size, 2, none⟩ = some (.slice none 0 0) := by rw [cell_of_row wr _ _ _ _ _ HRS.out]; rfl
      have f0 : wr.frozen? ⟨w.heap.size, 0, none⟩ = false := frozen_of_row wr _ _ _ _ HRS.out
      have f1 : wr.frozen? ⟨w.heap.size, 1, none⟩ = false := frozen_of_row wr _ _ _ _ HRS.out
      have f2 : wr.frozen? ⟨w.heap.size, 2, none⟩ = false := frozen_of_row wr _ _ _ _ HRS.out
      go_wp2
      refine bodyPost_ret (v := .agg #[.string nm, .string fx, .slice (some ⟨w.heap.size + 1, 0, none⟩) n n]) (by simp [results, Try.results11, go_sem, c0, c1, c2]) rfl ?_
      exact ⟨⟨_, _, _, rfl⟩, ((HB.out.setCell (p := ⟨_, _, _⟩) (Nat.le_refl _) _).setCell (p := ⟨_, _, _⟩) (Nat.le_refl _) _).setCell (p := ⟨_, _, _⟩) (Nat.le_refl _) _⟩
end Go.Proofs.Qxb6602089a
