import Derived.Test.Qxb6602077aDelete
namespace Go.Proofs.Qxb6602077a
open Go.ChangeShapes Go.WideShapes Go.ChangeAt Go.RowKit

/-- A slice of refs of the call's own: nil, or at the head of a block from B on. -/
def Own (B : Nat) (w : World) (a : Option Addr) (c : Nat) (rs : List Rf) : Prop :=
  c ≤ maxLen ∧ ((rs = [] ∧ a = none ∧ c = 0) ∨ ∃ g, a = some ⟨g, 0, none⟩ ∧ B ≤ g ∧ RowBlk w g 51 c rs)

/-- What an insertion hands back: a slice of the call's own that holds 'rs'; of the old blocks none but 'row' has turned. -/
def InsRes (B : Nat) (w w' : World) (e : Ending) (row : Option Nat) (rs : List Rf) : Prop :=
  ∃ g c, e = .returned (.slice (some ⟨g, 0, none⟩) rs.length c) ∧ B ≤ g ∧ c ≤ maxLen ∧ RowBlk w' g 51 c rs ∧ w.grownBy w' row

theorem Own.owns {B : Nat} {w : World} {a : Option Addr} {c : Nat} {rs : List Rf} (h : Own B w a c rs) : w.ownsRow B 51 2 (.slice a rs.length c) rs.length (flat rs) := by
  refine ⟨flat_length rs, ?_⟩
  rcases h with ⟨hm, ⟨rfl, rfl, rfl⟩ | ⟨g, rfl, hB, hr⟩⟩
  · exact .inl ⟨rfl, rfl⟩
  · obtain ⟨R, hg, hl⟩ := hr.list
    exact .inr ⟨g, c, _, rfl, hB, hg, by omega, hm, by simp [flat_length, hl], by simp [← flat_length rs]⟩

theorem row_of_owns {B : Nat} {w : World} {v : Value} {rs : List Rf} (h : w.ownsRow B 51 2 v rs.length (flat rs)) (h0 : 0 < rs.length) : ∃ g c, v = .slice (some ⟨g, 0, none⟩) rs.length c ∧ B ≤ g ∧ c ≤ maxLen ∧ RowBlk w g 51 c rs := by
  rcases h.2 with ⟨_, h⟩ | ⟨g, c, cur, rfl, hB, hg, hn, hm, hs, ht⟩
  · omega
  · refine ⟨g, c, rfl, hB, hm, ?_⟩
    have e : cur = (flat rs ++ cur.toList.drop (rs.length * 2)).toArray := by rw [← ht, List.take_append_drop]
    rw [e] at hg
    exact rowBlk_of_list hg (by simp [hs]; omega)

theorem ins_of_owns {B : Nat} {w w' : World} {v : Value} {row : Option Nat} {rs : List Rf} {r : Rf} (ho : w'.ownsRow B 51 2 v (rs.length + 1) (flat rs ++ [.string r.1, .string r.2])) (hg : w.grownBy w' row) : InsRes B w w' (.returned v) row (rs ++ [r]) := by
  have e : flat (rs ++ [r]) = flat rs ++ [.string r.1, .string r.2] := by rw [flat_append]; rfl
  obtain ⟨g, c, rfl, h1, h2, h3⟩ := row_of_owns (rs := rs ++ [r]) (by rw [e]; simpa using ho) (by simp)
  exact ⟨g, c, rfl, h1, h2, h3, hg⟩

set_option maxHeartbeats 1000000 in
/-- The insertion at the end. -/
theorem insertEnd {B : Nat} {w : World} {a : Option Addr} {c : Nat} {rs : List Rf} (ho : Own B w a c rs) (hB : B ≤ w.heap.size) (hn : rs.length ≤ 1048576) (vb : Nat) (r : Rf) (hv : w.heap[vb]? = some (.cells #[.string r.1, .string r.2] 51 (0, 0))) :
    Calls Try.prog 40 #[.slice a rs.length c, .int .i64 rs.length, .slice (some ⟨vb, 0, none⟩) 1 1] w fun e w' => InsRes B w w' e (Value.slice a rs.length c).ownBlock (rs ++ [r]) := by
  obtain ⟨info, hinf, hz0, hz1, hz2⟩ := info_parts Try.info51
  have hown := hide ho.owns
  have hlc : rs.length ≤ c := by
    rcases ho with ⟨hm, ⟨rfl, rfl, rfl⟩ | ⟨g, rfl, hB, hr⟩⟩
    · simp
    · obtain ⟨_, _, _, hcap, _⟩ := hr; exact hcap
  have hcm := ho.1
  unfold maxLen at hcm
  have hnew : Hid (∀ j u, [Value.string r.1, Value.string r.2][j]? = some u → w.cell? ((⟨vb, 0, none⟩ : Addr).add j) = some u) := by
    intro j u hu
    rw [Addr.add_lit, cell_of_row w vb _ _ _ _ hv]
    simpa using hu
  have s1 : Hid (∀ u ∈ [Value.string r.1, Value.string r.2], u.oneCell' = true) := by intro u hu; simp at hu; rcases hu with rfl | rfl <;> rfl
  have HB := hide hB
  clear ho hv hB
  by_cases hcn : c = rs.length
  · subst hcn
    go_enter Try.func40, Try.ntmps40
    go_wp2_with (at_builtin; refine wpList_append_own _ rfl _ _ 44 rfl B 51 info _ 2 32 Try.underlying44 hinf hz0 hz1 hz2 rfl (by omega) (Value.slice a rs.length rs.length) rs.length (flat rs) rfl hown.out ⟨vb, 0, none⟩ 1 1 [.string r.1, .string r.2] rfl rfl hnew.out s1.out (by unfold maxLen; omega) (by omega) HB.out ?_; intro v' w' ho' hg' _)
    go_ret
    exact ins_of_owns ho' hg'
  · go_enter Try.func40, Try.ntmps40
    go_wp2_with (at_builtin; refine wpList_append_own _ rfl _ _ 44 rfl B 51 info _ 2 32 Try.underlying44 hinf hz0 hz1 hz2 rfl (by omega) (Value.slice a rs.length c) rs.length (flat rs) rfl hown.out ⟨vb, 0, none⟩ 1 1 [.string r.1, .string r.2] rfl rfl hnew.out s1.out (by unfold maxLen; omega) (by omega) HB.out ?_; intro v' w' ho' hg' _)
    go_ret
    exact ins_of_owns ho' hg'
end Go.Proofs.Qxb6602077a
