import Derived.Test.Qxb6602077aInsertB
namespace Go.Proofs.Qxb6602077a
open Go.ChangeShapes Go.WideShapes Go.ChangeAt Go.RowKit

theorem split3 {α : Type} (l : List α) (k : Nat) (hk : k ≤ l.length) : ∃ X C, l = X ++ C ∧ X.length = k ∧ C.length = l.length - k :=
  ⟨l.take k, l.drop k, (List.take_append_drop k l).symm, by simp; omega, by simp⟩

theorem flat_take_drop (rs : List Rf) (i : Nat) : flat rs = flat (rs.take i) ++ flat (rs.drop i) := by
  rw [← flat_append, List.take_append_drop]

set_option maxHeartbeats 1000000 in
/-- The insertion ahead of the end, no room: a new block. -/
theorem insertGrow {B : Nat} {w : World} {g : Nat} {rs : List Rf} (hr : RowBlk w g 51 rs.length rs) (hB : B ≤ w.heap.size) (hn : rs.length ≤ 1048576) (i : Nat) (hi : i < rs.length) (vb : Nat) (r : Rf) (hv : w.heap[vb]? = some (.cells #[.string r.1, .string r.2] 51 (0, 0))) :
    Calls Try.prog 40 #[.slice (some ⟨g, 0, none⟩) rs.length rs.length, .int .i64 i, .slice (some ⟨vb, 0, none⟩) 1 1] w fun e w' => InsRes B w w' e (some g) (rs.take i ++ r :: rs.drop i) := by
  obtain ⟨R, hg, hR⟩ := hr.list
  obtain rfl : R = [] := List.eq_nil_of_length_eq_zero (by omega)
  rw [List.append_nil] at hg
  have hgl : g < w.heap.size := hr.lt
  have hvl : vb < w.heap.size := (Array.getElem?_eq_some_iff.1 hv).1
  have l1 : (flat (rs.take i)).length = i * 2 := by rw [flat_length]; simp; omega
  have l2 : (flat (rs.drop i)).length = (rs.length - i) * 2 := by rw [flat_length]; simp
  have sp := flat_take_drop rs i
  have hold : Hid (∀ j v, (flat (rs.take i))[j]? = some v → w.cell? ⟨g, j, none⟩ = some v) := by
    intro j v hj
    rw [cell_of_list hg, sp, List.getElem?_append_left (by have := (List.getElem?_eq_some_iff.1 hj).1; exact this)]
    exact hj
  have hdrop : Hid (∀ j v, (flat (rs.drop i))[j]? = some v → w.cell? ⟨g, i * 2 + j, none⟩ = some v) := by
    intro j v hj
    rw [cell_of_list hg, sp, List.getElem?_append_right (by omega), l1, show i * 2 + j - i * 2 = j by omega]
    exact hj
  have hnew : Hid (∀ j u, (flat [r])[j]? = some u → w.cell? ⟨vb, j, none⟩ = some u) := by
    intro j u hu
    rw [cell_of_row w vb _ _ _ _ hv]
    simpa [flat] using hu
  have s1 := hide (flat_one [r])
  have L1 := hide l1
  have L2 := hide l2
  have HB := hide hB
  have z1 : ((i : Int) == (rs.length : Int)) = false := beq_eq_false_iff_ne.2 (by omega)
  have z2 : ¬ (rs.length = i) := by omega
  have z3 : (rs.length : Int) < (rs.length : Int) + 1 := by omega
  have z4 : (i : Int) ≤ (rs.length : Int) := by omega
  have z5 : i ≤ rs.length := by omega
  clear hr hg hv l1 l2 sp hB hR
  go_enter Try.func40, Try.ntmps40
  go_wp2_with (first
    | (at_builtin; refine wpList_appz rfl _ _ rfl g i rs.length (rs.length + 1 - i) _ (by omega) rfl rfl (flat (rs.take i)) L1.out hold.out (by omega) (by omega) (rs.length + 1) (by omega) (by omega) ?_; intro w1 G Z hG hGm hZ hb1 hg1
       obtain ⟨X, C, hXC, hX, hC⟩ := split3 Z 2 (by omega)
       have q1 : ¬ (G = i) := by omega
       have q2 : ¬ (G = i + 1) := by omega
       unfold maxLen at hGm)
    | (refine wpList_copy2 rfl _ _ rfl w.heap.size (i * 2) _ _ ⟨vb, 0, none⟩ 1 1 1 rfl rfl (flat [r]) (flat (rs.take i)) X C rfl (by simp only [Nat.min_def]; split <;> omega) (by rw [← hXC]; exact hb1.out) L1.out hX (by intro j u hu; rw [Addr.add_lit, Nat.zero_add]; exact hg1.out.cell (hnew.out j u hu) (by simp)) s1.out ?_; intro w2 hb2 hg2 hs2))
  obtain ⟨X2, C2, hXC2, hX2, hC2⟩ := split3 C ((rs.length - i) * 2) (by omega)
  have j1 : (0 : Int) ≤ (i : Int) + 1 := by omega
  have j2 : IntKind.i64.wrap ((i : Int) + 1) = (i : Int) + 1 := by rw [IntKind.wrap_i64]; omega
  have j3 : (i : Int) ≤ (rs.length : Int) := by omega
  have j4 : ((i : Int) + 1).toNat = i + 1 := by omega
  have hb3 : Hid (w2.heap[w.heap.size]? = some (.cells ((flat (rs.take i) ++ flat [r]) ++ (X2 ++ C2)).toArray 51 (0, 0))) := by
    have := hb2.out
    rw [hXC2] at this
    rw [List.append_assoc]
    exact this
  have hsrc : Hid (∀ j v, (flat (rs.drop i))[j]? = some v → w2.drew.cell? ((⟨g, i * 2, none⟩ : Addr).add j) = some v) := by
    intro j v hj
    rw [Addr.add_lit]
    exact hg2.out.cell (hg1.out.cell (hdrop.out j v hj) (by simp)) (by simp; omega)
  have FO := hide (flat_one (rs.drop i))
  have L3 : Hid ((flat (rs.take i) ++ flat [r]).length = (i + 1) * 2) := by show _ = _; rw [List.length_append, L1.out]; simp [flat]; omega
  have L4 : Hid (X2.length = (flat (rs.drop i)).length) := by rw [L2.out]; exact hX2
  clear hb2 hdrop hold hnew
  go_region_law (refine step_copy2 rfl (.tmp 50) (.tmp 53) rfl w.heap.size ((i + 1) * 2) (rs.length - i) (G - (i + 1)) ⟨g, i * 2, none⟩ (rs.length - i) (rs.length - i) (rs.length - i) (by simp [Act.eval, Act.put]) (by simp [Act.eval, Act.put]) (flat (rs.drop i)) (flat (rs.take i) ++ flat [r]) X2 C2 L2.out (by simp only [Nat.min_def]; split <;> omega) hb3.out L3.out L4.out hsrc.out FO.out ?_; intro w3 hb4 hg4 hs4)
  go_wp2
  go_ret
  have fe : flat (rs.take i ++ r :: rs.drop i) = (flat (rs.take i) ++ flat [r]) ++ flat (rs.drop i) := by
    rw [show rs.take i ++ r :: rs.drop i = (rs.take i ++ [r]) ++ rs.drop i by simp, flat_append, flat_append]
  have len : (rs.take i ++ r :: rs.drop i).length = rs.length + 1 := by simp; omega
  refine ⟨w.heap.size, G, by rw [len]; rfl, HB.out, by unfold maxLen; omega, ?_, ?_⟩
  · refine rowBlk_of_list (R := C2) (by rw [fe, List.append_assoc]; exact hb4.out) ?_
    rw [len]
    omega
  · have a1 : w.grownBy w1 (some g) := ⟨hg1.out.os, hg1.out.tape, hg1.out.output, hg1.out.size, fun k hk _ => hg1.out.block k hk (by simp)⟩
    have a2 : w.grownBy w2 (some g) := ⟨hg2.out.os.trans a1.os, hg2.out.tape.trans a1.tape, hg2.out.output.trans a1.output, by have := a1.size; omega, fun k hk hr => (hg2.out.block k (by have := a1.size; omega) (by simp; omega)).trans (a1.block k hk hr)⟩
    exact ⟨hg4.out.os.trans a2.os, hg4.out.tape.trans a2.tape, hg4.out.output.trans a2.output, Nat.le_trans a2.size hg4.out.size, fun k hk hr => (hg4.out.block k (Nat.lt_of_lt_of_le hk a2.size) (by simp; omega)).trans (a2.block k hk hr)⟩
end Go.Proofs.Qxb6602077a
