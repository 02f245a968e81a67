import Derived.Test.Qxb6602077aBase
namespace Go.Proofs.Qxb6602077a
open Go.ChangeShapes Go.WideShapes Go.ChangeAt Go.RowKit

theorem Try.info49 : (Try.prog.info? 49).map (fun i => (i.zero, i.size, i.bytes)) = some (some (.agg #[.string ⟨#[]⟩, .string ⟨#[]⟩]), 2, 32) := by kernel_rfl

def made2 (n : Nat) : Array Value := madeCells #[.string ⟨#[]⟩, .string ⟨#[]⟩] (n * 2)
theorem size_made2 (n : Nat) : (made2 n).size = n * 2 := size_madeCells _ _

theorem run_make2 {t e : TypeId} (ht : Try.prog.underlying t = some (.slice e)) (hi : (Try.prog.info? e).map (fun i => (i.zero, i.size, i.bytes)) = some (some (.agg #[.string ⟨#[]⟩, .string ⟨#[]⟩]), 2, 32)) (n : Nat) (hn : n ≤ 1048576) (w : World) :
    (Instr.makeSlice t (.int .i64 (n : Int)) (.int .i64 (n : Int))).run Try.prog w = .ok (.slice (some ⟨w.heap.size, 0, none⟩) n n) (w.alloc (.cells (made2 n) e)) := by
  obtain ⟨i, hi, hz0, hz1, hz2⟩ := info_parts hi
  have := run_make (P := Try.prog) w t e i _ ht hi hz0 .i64 .i64 (n : Int) (n : Int) (by omega) (Int.le_refl _) (by rw [hz2]; omega) (by omega)
  rw [hz1] at this
  simpa [made2, Value.cells] using this

theorem rowBlk_made (w : World) (n : Nat) (e : TypeId) : RowBlk (w.alloc (.cells (made2 n) e)) w.heap.size e n [] :=
  ⟨made2 n, heap_alloc_new w _, size_made2 n, Nat.zero_le _, fun j h => by simp at h⟩

set_option maxHeartbeats 400000 in
theorem toProj (a : Option Addr) (c : Nat) (rs : List Rf) (w : World) (hr : RefsAt w a rs) (hn : rs.length ≤ 32768) (h0 : 0 < rs.length) :
    Calls Try.prog 13 #[.slice a rs.length c] w fun e w' => e = .returned (.slice (some ⟨w.heap.size, 0, none⟩) rs.length rs.length) ∧ RowBlk w' w.heap.size 49 rs.length rs ∧ Below w.heap.size w w' := by
  have HR : Hid _ := hr
  clear hr
  have hmk := run_make2 Try.underlying28 Try.info49 rs.length (by omega)
  have he : ((rs.length : Int) == 0) = false := beq_eq_false_iff_ne.2 (by omega)
  go_enter Try.func13, Try.ntmps13
  go_wp2
  clear hmk
  go_loopw [4] (fun i wr => ∃ (k : Nat), i = .int .i64 k ∧ k ≤ rs.length ∧ RowBlk wr w.heap.size 49 rs.length (rs.take k) ∧ Hid (Below w.heap.size w wr)) (fun i _ => rs.length - (intOf i).toNat)
  case atStart => exact ⟨0, rfl, Nat.zero_le _, rowBlk_made _ _ _, (Below.refl _ _).alloc (Nat.le_refl _) _⟩
  case round =>
    obtain ⟨k, rfl, hk, hrow, HB⟩ := hrel
    by_cases hlt : k < rs.length
    · obtain ⟨b, off, rfl, h1, h2⟩ := RefsAt.at (Hid.out HR) hlt
      obtain ⟨v1, h3, h4⟩ := hrow.room (o := k * 2) (by omega)
      obtain ⟨v2, h5, h6⟩ := hrow.room (o := k * 2 + 1) (by omega)
      replace h1 := cell_later HB.out h1
      replace h2 := cell_later HB.out h2
      have HROW : Hid _ := hrow
      clear hrow
      go_wp2
      go_region
      go_wp2
      go_roundw
      case rel => 
        refine ⟨k + 1, by go_num, by omega, ?_, ?_⟩
        · have := RowBlk.snoc HROW.out rs[k] (by simp; omega)
          rw [List.take_succ_eq_append_getElem hlt]
          simp only [List.length_take, Nat.min_eq_left hk] at this
          exact this
        · exact ((HB.out.setCell (p := ⟨_, _, _⟩) (Nat.le_refl _) _).setCell (p := ⟨_, _, _⟩) (Nat.le_refl _) _).drew
      case measure => simp [intOf]; omega
    · go_wp2
      go_ret
      have : k = rs.length := by omega
      subst this
      simp only [List.take_length] at hrow
      exact ⟨rfl, hrow, HB.out⟩
end Go.Proofs.Qxb6602077a
