import Derived.Test.Qxb6602077aInsertC
import Derived.Laws.Externs
namespace Go.Proofs.Qxb6602077a
open Go.ChangeShapes Go.WideShapes Go.ChangeAt Go.RowKit

theorem shape_of {w : World} {g : Nat} {cs : Array Value} {e : TypeId} (h : w.heap[g]? = some (.cells cs e (0, 0))) : w.shape? g = some (e, cs.size) := by simp [World.shape?, h]

theorem Try.sizeOf51' (w : World) : (Go.sizeOf 51).run Try.prog w = .ok 2 w := by
  obtain ⟨i, hi, _, h1, _⟩ := info_parts Try.info51
  simp [Go.sizeOf, typeInfo, hi, h1]

set_option maxRecDepth 100000 in
theorem overlapsRun {w : World} {vb g : Nat} {vs cs : Array Value} (hv : w.heap[vb]? = some (.cells vs 51 (0, 0))) (hg : w.heap[g]? = some (.cells cs 51 (0, 0))) (hc : cs.size ≠ 0) (hne : vb ≠ g) (o la ca lb cb : Nat) :
    (callFunc 45 #[.slice (some ⟨vb, 0, none⟩) la ca, .slice (some ⟨g, o, none⟩) lb cb]).run Try.prog w = .ok (.value (.bool false)) w := by
  rw [run_callFunc_extern Try.func45 (by kernel_rfl) (by kernel_rfl) (by kernel_rfl) (e := Extern.SlicesOverlaps.overlaps #[44, 44] #[4]) (by kernel_rfl),
    Lib.run_overlaps_apart w 44 4 51 Try.underlying44 2 Try.sizeOf51' ⟨vb, 0, none⟩ ⟨g, o, none⟩ la ca lb cb hne 51 51 vs.size cs.size (shape_of hv) (shape_of hg) hc (frozen_of_row w vb _ _ _ hv) (frozen_of_row w vb _ _ _ hv)]
  rfl

set_option maxHeartbeats 1000000 in
/-- The insertion ahead of the end, in place. -/
theorem insertShift {B : Nat} {w : World} {g c : Nat} {rs : List Rf} (hr : RowBlk w g 51 c rs) (hBg : B ≤ g) (hcm : c ≤ maxLen) (hn : rs.length ≤ 1048576) (i : Nat) (hi : i < rs.length) (hroom : rs.length + 1 ≤ c) (vb : Nat) (r : Rf) (hv : w.heap[vb]? = some (.cells #[.string r.1, .string r.2] 51 (0, 0))) (hne : vb ≠ g) :
    Calls Try.prog 40 #[.slice (some ⟨g, 0, none⟩) rs.length c, .int .i64 i, .slice (some ⟨vb, 0, none⟩) 1 1] w fun e w' => InsRes B w w' e (some g) (rs.take i ++ r :: rs.drop i) := by
  obtain ⟨R, hg, hR⟩ := hr.list
  have l1 : (flat (rs.take i)).length = i * 2 := by rw [flat_length]; simp; omega
  have l2 : (flat (rs.drop i)).length = (rs.length - i) * 2 := by rw [flat_length]; simp
  have sp := flat_take_drop rs i
  have hov := fun lb cb => overlapsRun hv hg (by simp [flat_length]; omega) hne ((i + 1) * 2) 1 1 lb cb
  obtain ⟨Y, Z, hYZ, hY, hZ⟩ := split3 (flat (rs.drop i) ++ R) 2 (by simp; omega)
  obtain ⟨X, C, hXC, hX, hC⟩ := split3 Z ((rs.length - i) * 2) (by rw [hZ]; simp; omega)
  have hb0 : Hid (w.drew.heap[g]? = some (.cells ((flat (rs.take i) ++ Y) ++ (X ++ C)).toArray 51 (0, 0))) := by
    show w.heap[g]? = _
    rw [hg, sp, List.append_assoc, hYZ, hXC, List.append_assoc]
  have hsrc : Hid (∀ j v, (flat (rs.drop i))[j]? = some v → w.drew.cell? ((⟨g, i * 2, none⟩ : Addr).add j) = some v) := by
    intro j v hj
    have hj' := (List.getElem?_eq_some_iff.1 hj).1
    rw [Addr.add_lit]
    show w.cell? _ = _
    rw [cell_of_list hg, List.getElem?_append_left (by rw [flat_length]; omega), sp, List.getElem?_append_right (by omega), l1, show i * 2 + j - i * 2 = j by omega]
    exact hj
  have hnew : Hid (∀ j u, (flat [r])[j]? = some u → w.cell? ⟨vb, j, none⟩ = some u) := by
    intro j u hu
    rw [cell_of_row w vb _ _ _ _ hv]
    simpa [flat] using hu
  have s1 := hide (flat_one [r])
  have FO := hide (flat_one (rs.drop i))
  have L1 := hide l1
  have L2 := hide l2
  have L3 : Hid ((flat (rs.take i) ++ Y).length = (i + 1) * 2) := by show _ = _; rw [List.length_append, l1, hY]; omega
  have L4 : Hid (X.length = (flat (rs.drop i)).length) := by rw [l2]; exact hX
  have HYZ := hide hY
  have HC : Hid (C.length + (rs.length + 1) * 2 = c * 2) := by
    show _ = _
    rw [hC, hZ]; simp; omega
  have HB := hide hBg
  have HN := hide hne
  unfold maxLen at hcm
  have z1 : ((i : Int) == (rs.length : Int)) = false := beq_eq_false_iff_ne.2 (by omega)
  have z2 : ¬ (c = i) := by omega
  have z6 : ¬ (c = i + 1) := by omega
  have z3 : ¬ (c : Int) < (rs.length : Int) + 1 := by omega
  have z4 : (i : Int) ≤ (rs.length : Int) := by omega
  have z5 : i ≤ rs.length := by omega
  have z7 : (rs.length : Int) + 1 ≤ (c : Int) := by omega
  have j1 : (0 : Int) ≤ (i : Int) + 1 := by omega
  have j2 : IntKind.i64.wrap ((i : Int) + 1) = (i : Int) + 1 := by rw [IntKind.wrap_i64]; omega
  have j4 : ((i : Int) + 1).toNat = i + 1 := by omega
  clear hr hg hv l1 l2 sp hR hYZ hXC hY hZ hX hC hne hBg
  go_enter Try.func40, Try.ntmps40
  go_wp2_with (simp only [hov])
  clear hov
  have z8 : (i : Int) ≤ (rs.length : Int) + 1 := by omega
  go_region_law (refine step_copy2 rfl (.tmp 73) (.tmp 76) rfl g ((i + 1) * 2) (rs.length - i) (c - (i + 1)) ⟨g, i * 2, none⟩ (rs.length + 1 - i) (c - i) (rs.length - i) (by simp [Act.eval, Act.put]) (by simp [Act.eval, Act.put]) (flat (rs.drop i)) (flat (rs.take i) ++ Y) X C L2.out (by simp only [Nat.min_def]; split <;> omega) hb0.out L3.out L4.out hsrc.out FO.out ?_; intro w1 hb1 hg1 hs1)
  have hb2 : Hid (w1.heap[g]? = some (.cells (flat (rs.take i) ++ (Y ++ (flat (rs.drop i) ++ C))).toArray 51 (0, 0))) := by
    have := hb1.out
    rw [List.append_assoc] at this
    exact this
  go_wp2_with (refine wpList_copy2 rfl _ _ rfl g (i * 2) _ _ ⟨vb, 0, none⟩ 1 1 1 rfl rfl (flat [r]) (flat (rs.take i)) Y (flat (rs.drop i) ++ C) rfl (by simp only [Nat.min_def]; split <;> omega) hb2.out L1.out HYZ.out (by intro j u hu; rw [Addr.add_lit, Nat.zero_add]; exact hg1.out.cell (hnew.out j u hu) (by simp [HN.out])) s1.out ?_; intro w2 hb3 hg2 hs2)
  go_ret
  have fe : flat (rs.take i ++ r :: rs.drop i) = flat (rs.take i) ++ (flat [r] ++ flat (rs.drop i)) := by
    rw [show rs.take i ++ r :: rs.drop i = rs.take i ++ ([r] ++ rs.drop i) by simp, flat_append, flat_append]
  have len : (rs.take i ++ r :: rs.drop i).length = rs.length + 1 := by simp; omega
  refine ⟨g, c, by rw [len]; rfl, HB.out, by unfold maxLen; omega, ?_, ?_⟩
  · refine rowBlk_of_list (R := C) (by rw [fe, List.append_assoc, List.append_assoc]; exact hb3.out) ?_
    rw [len]
    have := HC.out
    omega
  · exact grown_trans (grown_trans (grown_drewN w 1 _) hg1.out) hg2.out
end Go.Proofs.Qxb6602077a
