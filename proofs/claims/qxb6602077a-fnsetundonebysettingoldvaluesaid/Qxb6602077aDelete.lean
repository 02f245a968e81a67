import Derived.Test.Qxb6602077aCells
import Derived.Deep.RegionLaw
namespace Go.Proofs.Qxb6602077a
open Go.ChangeShapes Go.WideShapes Go.ChangeAt Go.RowKit

theorem cell_of_list {w : World} {g : Nat} {e : TypeId} {L : List Value} (h : w.heap[g]? = some (.cells L.toArray e (0, 0))) (o : Nat) : w.cell? ⟨g, o, none⟩ = L[o]? := by
  rw [cell_of_row w g o _ e _ h]; simp

theorem flat_split (rs : List Rf) (i : Nat) (hi : i < rs.length) : flat rs = flat (rs.take i) ++ (flat [rs[i]] ++ flat (rs.drop (i + 1))) := by
  rw [← flat_append, ← flat_append]
  congr 1
  simp

theorem erase_eq (rs : List Rf) (i : Nat) : rs.eraseIdx i = rs.take i ++ rs.drop (i + 1) := List.eraseIdx_eq_take_drop_succ ..

set_option maxHeartbeats 1000000 in
theorem deleteW {w : World} {g c : Nat} {rs : List Rf} (hr : RowBlk w g 51 c rs) (hc : c ≤ maxLen) (i : Nat) (hi : i < rs.length) :
    Calls Try.prog 39 #[.slice (some ⟨g, 0, none⟩) rs.length c, .int .i64 i, .int .i64 (i + 1)] w fun e w' => e = .returned (.slice (some ⟨g, 0, none⟩) (rs.length - 1) c) ∧ RowBlk w' g 51 c (rs.eraseIdx i) ∧ w.grownBy w' (some g) := by
  have hc0 : c ≤ 9223372036854775807 := by unfold maxLen at hc; omega
  obtain ⟨_, _, _, hcap, _⟩ := id hr
  obtain ⟨R, hg, hR⟩ := hr.list
  have hflat := flat_split rs i hi
  have fl := flat_length rs
  obtain ⟨info, hinf, hz0, hz1, hz2⟩ := info_parts Try.info51
  obtain ⟨news, hnews⟩ : ∃ news, news = flat (rs.drop (i + 1)) := ⟨_, rfl⟩
  have hlen : news.length = (rs.length - (i + 1)) * 2 := by rw [hnews, flat_length]; simp
  have hl1 : (flat (rs.take i)).length = i * 2 := by rw [flat_length]; simp; omega
  obtain ⟨A, hA, hsrc⟩ : ∃ A : Addr, (if c = i + 1 then some (⟨g, 0, none⟩ : Addr) else some ⟨g, (i + 1) * 2, none⟩) = some A ∧ Hid (∀ t u, news[t]? = some u → w.drew.cell? (A.add t) = some u) := by
    by_cases h : c = i + 1
    · refine ⟨⟨g, 0, none⟩, by simp [h], fun t u hu => ?_⟩
      have h0 : news.length = 0 := by rw [hlen]; omega
      rw [List.length_eq_zero_iff.1 h0] at hu
      simp at hu
    · refine ⟨⟨g, (i + 1) * 2, none⟩, by simp [h], fun t u hu => ?_⟩
      have ht : t < (rs.length - (i + 1)) * 2 := by
        have := (List.getElem?_eq_some_iff.1 hu).1
        rwa [hlen] at this
      rw [Addr.add_lit]
      show w.cell? _ = _
      rw [cell_of_list hg, hflat, hnews.symm, List.append_assoc, List.append_assoc, List.getElem?_append_right (by omega), List.getElem?_append_right (by simp [flat]; omega), List.getElem?_append_left (by simp [flat]; omega)]
      rw [show (i + 1) * 2 + t - (flat (rs.take i)).length - (flat [rs[i]]).length = t by rw [hl1]; simp [flat]; omega]
      exact hu
  have s1 : Hid (news.length = (rs.length - (i + 1)) * 2) := hlen
  have s2 : Hid (∀ u ∈ news, u.oneCell' = true) := by rw [hnews]; exact flat_one _
  have s3 : Hid (∀ t, t < news.length → (w.drew.cell? ⟨g, 0 + i * 2 + t, none⟩).isSome = true ∧ w.drew.frozen? ⟨g, 0 + i * 2 + t, none⟩ = false) := by
    intro t ht
    obtain ⟨v, hv, hf⟩ := hr.room (o := 0 + i * 2 + t) (by omega)
    exact ⟨by show (w.cell? _).isSome = true; rw [hv]; rfl, hf⟩
  -- the world behind the append
  obtain ⟨W1, hW1⟩ : ∃ W1, W1 = w.drew.setCells g (0 + i * 2) news := ⟨_, rfl⟩
  have hnl : (flat [rs[i]]).length = 2 := rfl
  obtain ⟨X, C, hXC, hX, hC⟩ : ∃ X C, (flat [rs[i]] ++ news) ++ R = X ++ C ∧ X.length = news.length ∧ C.length = 2 + R.length := ⟨_, _, (List.take_append_drop news.length _).symm, by simp; omega, by simp; omega⟩
  have hb1 : W1.heap[g]? = some (.cells (flat (rs.take i) ++ (news ++ C)).toArray 51 (0, 0)) := by
    have h0 : w.drew.heap[g]? = some (.cells (flat (rs.take i) ++ (X ++ C)).toArray 51 (0, 0)) := by
      rw [← hXC, hnews, ← List.append_assoc, ← hflat]; exact hg
    have := heap_setCells g 51 news (flat (rs.take i)) X C w.drew h0 hX
    rw [hl1] at this
    rw [hW1, Nat.zero_add]; exact this
  have hone : rs.length - (i + (rs.length - (i + 1))) = 1 := by omega
  have hcl : ∀ ty cc, (Builtin.clear_ #[44] ty #[.slice (some ⟨g, (i + (rs.length - (i + 1))) * 2, none⟩) (rs.length - (i + (rs.length - (i + 1)))) cc]).run Try.prog W1 = .ok (.tuple #[]) (W1.setCells g ((i + (rs.length - (i + 1))) * 2) [.string ⟨#[]⟩, .string ⟨#[]⟩]) := fun ty cc => by
    rw [hone]
    exact run_clear2 W1 ty g _ cc (fun j hj => by
      rw [cell_of_list hb1, List.getElem?_eq_getElem (by simp; omega)]; rfl) (fun j hj => frozen_of_row W1 g _ _ _ hb1)
  have hfin : RowBlk (W1.setCells g ((i + (rs.length - (i + 1))) * 2) [.string ⟨#[]⟩, .string ⟨#[]⟩]) g 51 c (rs.eraseIdx i) := by
    obtain ⟨Y, D, hYD, hY, hD⟩ : ∃ Y D, C = Y ++ D ∧ Y.length = 2 ∧ D.length = R.length := ⟨_, _, (List.take_append_drop 2 _).symm, by simp; omega, by simp; omega⟩
    rw [hYD, ← List.append_assoc] at hb1
    have h2 := heap_setCells g 51 [.string ⟨#[]⟩, .string ⟨#[]⟩] (flat (rs.take i) ++ news) Y D W1 hb1 hY
    rw [show (flat (rs.take i) ++ news).length = (i + (rs.length - (i + 1))) * 2 by simp; omega, hnews, ← flat_append, ← erase_eq] at h2
    refine rowBlk_of_list h2 ?_
    rw [List.length_eraseIdx_of_lt hi]
    simp
    omega
  have HF : Hid (RowBlk (W1.setCells g ((i + (rs.length - (i + 1))) * 2) [.string ⟨#[]⟩, .string ⟨#[]⟩]) g 51 c (rs.eraseIdx i) ∧ w.grownBy (W1.setCells g ((i + (rs.length - (i + 1))) * 2) [.string ⟨#[]⟩, .string ⟨#[]⟩]) (some g)) :=
    ⟨hfin, grown_trans (grown_trans (grown_drewN w 1 _) (by rw [hW1]; exact grown_setCells _ _ _ _)) (grown_setCells _ _ _ _)⟩
  have hW : Hid (W1 = w.drew.setCells g (0 + i * 2) news) := hW1
  have hne : ((i : Int) == (i : Int) + 1) = false := beq_eq_false_iff_ne.2 (by omega)
  have hic : i ≤ c := by omega
  have hjc : i + 1 ≤ c := by omega
  have hj1 : (0 : Int) ≤ (i : Int) + 1 := by omega
  have hj2 : (i : Int) + 1 ≤ (rs.length : Int) := by omega
  clear hone hW1 hb1 hfin hr hg hflat hnews hlen hl1 hXC hX hC hR fl hnl
  go_enter Try.func39, Try.ntmps39
  go_wp2_with fail
  go_region_law (refine step_append_room rfl (.tmp 22) (.tmp 25) 44 rfl 51 info 2 Try.underlying44 hinf hz1 g 0 i c (by simp [Act.eval, Act.put]) A (rs.length - (i + 1)) (c - (i + 1)) news (by simp [Act.eval, Act.put]) s1.out hsrc.out s2.out (by omega) s3.out ?_; rw [← hW.out])
  go_wp2
  go_ret
  exact ⟨by rw [show rs.length - 1 = i + (rs.length - (i + 1)) by omega]; rfl, HF.out⟩
end Go.Proofs.Qxb6602077a
