import Derived.Test.Qxb6602089aWalkC
import Derived.Test.Qxb6602089aWalkB
namespace Go.Proofs.Qxb6602089a
open Go.ChangeShapes Go.WideShapes Go.ChangeAt Go.RowKit

/-- Block g has room for n tasks; its first k hold three strings and a slice each. -/
def TkBlk (w : World) (g : Nat) (e : TypeId) (n k : Nat) : Prop :=
  ∃ cs : Array Value, w.heap[g]? = some (.cells cs e (0, 0)) ∧ cs.size = n * 4 ∧ ∀ j, j < k → ∃ r q p x y z, cs[j * 4]? = some (.string r) ∧ cs[j * 4 + 1]? = some (.string q) ∧ cs[j * 4 + 2]? = some (.string p) ∧ cs[j * 4 + 3]? = some (.slice x y z)

section
variable {w w' : World} {g : Nat} {e : TypeId} {n k : Nat}
theorem TkBlk.cell (h : TkBlk w g e n k) {j : Nat} (hj : j < k) : ∃ r q p x y z, w.cell? ⟨g, j * 4, none⟩ = some (.string r) ∧ w.cell? ⟨g, j * 4 + 1, none⟩ = some (.string q) ∧ w.cell? ⟨g, j * 4 + 2, none⟩ = some (.string p) ∧ w.cell? ⟨g, j * 4 + 3, none⟩ = some (.slice x y z) := by
  obtain ⟨cs, hg, hs, hc⟩ := h
  obtain ⟨r, q, p, x, y, z, h1, h2, h3, h4⟩ := hc j hj
  exact ⟨r, q, p, x, y, z, by rw [cell_of_row w g _ cs e _ hg]; exact h1, by rw [cell_of_row w g _ cs e _ hg]; exact h2, by rw [cell_of_row w g _ cs e _ hg]; exact h3, by rw [cell_of_row w g _ cs e _ hg]; exact h4⟩
theorem TkBlk.room (h : TkBlk w g e n k) {o : Nat} (ho : o < n * 4) : ∃ v, w.cell? ⟨g, o, none⟩ = some v ∧ w.frozen? ⟨g, o, none⟩ = false := by
  obtain ⟨cs, hg, hs, hc⟩ := h
  refine ⟨cs[o]'(by omega), ?_, frozen_of_row w g o cs e hg⟩
  rw [cell_of_row w g _ cs e _ hg]
  simp [show o < cs.size by omega]
theorem TkBlk.kept (h : TkBlk w g e n k) (hb : w'.heap[g]? = w.heap[g]?) : TkBlk w' g e n k := by
  obtain ⟨cs, hg, r⟩ := h
  exact ⟨cs, hb.trans hg, r⟩
theorem TkBlk.lt (h : TkBlk w g e n k) : g < w.heap.size := by
  obtain ⟨cs, hg, _⟩ := h
  exact (Array.getElem?_eq_some_iff.1 hg).1
theorem TkBlk.snoc (h : TkBlk w g e n k) (hk : k < n) (r q p : ByteArray) (x : Option Addr) (y z : Nat) :
    TkBlk ((((w.setCell ⟨g, k * 4, none⟩ (.string r)).setCell ⟨g, k * 4 + 1, none⟩ (.string q)).setCell ⟨g, k * 4 + 2, none⟩ (.string p)).setCell ⟨g, k * 4 + 3, none⟩ (.slice x y z)) g e n (k + 1) := by
  obtain ⟨cs, hg, hs, hc⟩ := h
  refine ⟨_, heap_setCell_same _ g _ _ e _ (heap_setCell_same _ g _ _ e _ (heap_setCell_same _ g _ _ e _ (heap_setCell_same _ g _ cs e _ hg))), by simp [hs], fun j hj => ?_⟩
  by_cases ej : j = k
  · subst ej
    refine ⟨r, q, p, x, y, z, ?_, ?_, ?_, ?_⟩
    · rw [Array.getElem?_setIfInBounds_ne (by omega), Array.getElem?_setIfInBounds_ne (by omega), Array.getElem?_setIfInBounds_ne (by omega), Array.getElem?_setIfInBounds_self_of_lt (by omega)]
    · rw [Array.getElem?_setIfInBounds_ne (by omega), Array.getElem?_setIfInBounds_ne (by omega), Array.getElem?_setIfInBounds_self_of_lt (by simp; omega)]
    · rw [Array.getElem?_setIfInBounds_ne (by omega), Array.getElem?_setIfInBounds_self_of_lt (by simp; omega)]
    · rw [Array.getElem?_setIfInBounds_self_of_lt (by simp; omega)]
  · obtain ⟨r, q, p, x, y, z, h1, h2, h3, h4⟩ := hc j (by omega)
    refine ⟨r, q, p, x, y, z, ?_, ?_, ?_, ?_⟩ <;> rw [Array.getElem?_setIfInBounds_ne (by omega), Array.getElem?_setIfInBounds_ne (by omega), Array.getElem?_setIfInBounds_ne (by omega), Array.getElem?_setIfInBounds_ne (by omega)] <;> assumption
end

def zero4 : Value := .agg #[.string ⟨#[]⟩, .string ⟨#[]⟩, .string ⟨#[]⟩, .slice none 0 0]
def made4 (n : Nat) : Array Value := madeCells zero4.cells (n * 4)
theorem size_made4 (n : Nat) : (made4 n).size = n * 4 := size_madeCells _ _
theorem Try.info33 : (Try.prog.info? 33).map (fun i => (i.zero, i.size, i.bytes)) = some (some zero4, 4, 72) := by kernel_rfl
theorem Try.info59 : (Try.prog.info? 59).map (fun i => (i.zero, i.size, i.bytes)) = some (some zero4, 4, 72) := by kernel_rfl

theorem run_make4 {t e : TypeId} (ht : Try.prog.underlying t = some (.slice e)) (hi : (Try.prog.info? e).map (fun i => (i.zero, i.size, i.bytes)) = some (some zero4, 4, 72)) (n : Nat) (hn : n ≤ 1048576) (w : World) :
    (Instr.makeSlice t (.int .i64 (n : Int)) (.int .i64 (n : Int))).run Try.prog w = .ok (.slice (some ⟨w.heap.size, 0, none⟩) n n) (w.alloc (.cells (made4 n) e)) := by
  obtain ⟨i, hi, hz0, hz1, hz2⟩ := info_parts hi
  have := run_make (P := Try.prog) w t e i _ ht hi hz0 .i64 .i64 (n : Int) (n : Int) (by omega) (Int.le_refl _) (by rw [hz2]; omega) (by omega)
  rw [hz1] at this
  simpa [made4] using this

theorem tkBlk_made (w : World) (n : Nat) (e : TypeId) : TkBlk (w.alloc (.cells (made4 n) e)) w.heap.size e n 0 :=
  ⟨made4 n, heap_alloc_new w _, size_made4 n, fun _ h => absurd h (Nat.not_lt_zero _)⟩

set_option maxHeartbeats 1000000 in
theorem cloneTasks1 (a : Addr) (c : Nat) (ts : List Tk) (w : World) (ht : TasksAt w (some a) ts) (hn : ts.length ≤ 4096) (hsm : Small ts ts.length) :
    Calls Try.prog 10 #[.slice (some a) ts.length c] w fun e w' => e = .returned (.slice (some ⟨w.heap.size, 0, none⟩) ts.length ts.length) ∧ TkBlk w' w.heap.size 33 ts.length ts.length ∧ Below w.heap.size w w' := by
  have HT := hide ht
  have HSM := hide hsm
  clear ht hsm
  have hmk := run_make4 Try.underlying22 Try.info33 ts.length (by omega)
  have hnil := fun w => Lib.run_eql_slice_nil (P := Try.prog) w 22 33 (some a) ts.length c 0 0 Try.underlying22
  go_enter Try.func10, Try.ntmps10
  go_wp2
  clear hmk hnil
  go_loopw [4] (fun i wr => ∃ (k : Nat), i = .int .i64 k ∧ k ≤ ts.length ∧ Hid (TkBlk wr w.heap.size 33 ts.length k) ∧ Hid (Below w.heap.size w wr)) (fun i _ => ts.length - (intOf i).toNat)
  case atStart => exact ⟨0, rfl, Nat.zero_le _, tkBlk_made _ _ _, (Below.refl _ _).alloc (Nat.le_refl _) _⟩
  case round =>
    obtain ⟨k, rfl, hk, HK, HB⟩ := hrel
    by_cases hlt : k < ts.length
    · obtain ⟨b, off, e, g1, g2, g3, g4, g5, g6, g7⟩ := TasksAt.at (TasksAt.later HT.out HB.out) hlt
      obtain rfl : a = ⟨b, off, none⟩ := by simpa using e
      have hw := hide (HSM.out k hlt hlt)
      have H5 := hide g5
      have H6 := hide g6
      clear e g5 g6 g7
      generalize ts[k].wa = wa at *
      generalize ts[k].wc = wc at *
      generalize ts[k].ws = ws at *
      generalize ts[k].role = r1 at *
      generalize ts[k].kind = r2 at *
      generalize ts[k].phase = r3 at *
      have hgl := TkBlk.lt HK.out
      go_wp2_with fail
      have al := (Below.refl wr.heap.size wr).alloc (Nat.le_refl _) (Obj.cells #[Value.string r1, Value.string r2, Value.string r3, Value.slice wa ws.length wc] 33)
      refine (cloneStrsW wa wc ws _ (StrsAt.later H5.out al) H6.out hw.out).mono ?_
      rintro e w2 ⟨a', c', rfl, h1, h2, hb⟩
      have hbx : w2.heap[wr.heap.size]? = some (.cells #[Value.string r1, Value.string r2, Value.string r3, Value.slice wa ws.length wc] 33 (0, 0)) := by
        rw [hb.block _ (by simp)]; exact heap_alloc_new wr _
      have c0 : w2.cell? ⟨wr.heap.size, 0, none⟩ = some (.string r1) := by rw [cell_of_row w2 _ _ _ _ _ hbx]; rfl
      have c1 : w2.cell? ⟨wr.heap.size, 1, none⟩ = some (.string r2) := by rw [cell_of_row w2 _ _ _ _ _ hbx]; rfl
      have c2 : w2.cell? ⟨wr.heap.size, 2, none⟩ = some (.string r3) := by rw [cell_of_row w2 _ _ _ _ _ hbx]; rfl
      have c3 : w2.cell? ⟨wr.heap.size, 3, none⟩ = some (.slice wa ws.length wc) := by rw [cell_of_row w2 _ _ _ _ _ hbx]; rfl
      have f3 : w2.frozen? ⟨wr.heap.size, 3, none⟩ = false := frozen_of_row w2 _ _ _ _ hbx
      have hb2 : Below wr.heap.size wr w2 := al.trans (hb.mono (by simp))
      have HK2 := hide (TkBlk.kept HK.out (hb2.block _ hgl))
      obtain ⟨v0, d0, e0⟩ := TkBlk.room HK2.out (o := k * 4) (by omega)
      obtain ⟨v1, d1, e1⟩ := TkBlk.room HK2.out (o := k * 4 + 1) (by omega)
      obtain ⟨v2, d2, e2⟩ := TkBlk.room HK2.out (o := k * 4 + 2) (by omega)
      obtain ⟨v3, d3, e3⟩ := TkBlk.room HK2.out (o := k * 4 + 3) (by omega)
      have HB2 := hide (HB.out.trans (hb2.mono HB.out.size))
      have hzz : w.heap.size ≠ wr.heap.size := by omega
      have hzz' : wr.heap.size ≠ w.heap.size := by omega
      clear al h1 h2 hb hbx hb2 g1 g2 g3 g4
      go_wp2
      go_roundw
      case rel =>
        refine ⟨k + 1, by go_num, by omega, ?_, ?_⟩
        · have k3 := TkBlk.kept (w' := w2.setCell ⟨wr.heap.size, 3, none⟩ (.slice a' ws.length c')) HK2.out (Below.heap_setCell _ _ _ _ hzz)
          exact TkBlk.snoc k3 hlt r1 r2 r3 a' ws.length c'
        · exact ((((HB2.out.setCell (p := ⟨_, _, _⟩) (Nat.le_of_lt hgl) _).setCell (p := ⟨_, _, _⟩) (Nat.le_refl _) _).setCell (p := ⟨_, _, _⟩) (Nat.le_refl _) _).setCell (p := ⟨_, _, _⟩) (Nat.le_refl _) _).setCell (p := ⟨_, _, _⟩) (Nat.le_refl _) _
      case measure => simp [intOf]; omega
    · go_wp2
      go_ret
      obtain rfl : k = ts.length := by omega
      exact ⟨rfl, HK.out, HB.out⟩
end Go.Proofs.Qxb6602089a
