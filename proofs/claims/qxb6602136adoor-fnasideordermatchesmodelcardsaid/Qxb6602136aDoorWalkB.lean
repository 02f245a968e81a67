import Derived.Test.Qxb6602136aDoorWalkA
namespace Go.Proofs.Qxb6602136aDoor
open Go.ChangeShapes Go.WideShapes Go.ChangeAt Go.RowKit Go.Sort

/-- "snapshot.", "log.", "log". -/
def sP : List UInt8 := [115, 110, 97, 112, 115, 104, 111, 116, 46]
def lP : List UInt8 := [108, 111, 103, 46]
def lN : List UInt8 := [108, 111, 103]
def snapB (s : ByteArray) : Option Int := baseQ s.data.toList sP
def segB (s : ByteArray) : Option Int := if s.data.toList = lN then some 0 else baseQ s.data.toList lP

theorem snapW (s : ByteArray) (w : World) (hv : Vars w) (hs : s.size ≤ 1048576) :
    Calls Tryd.prog 34 #[.string s] w fun e w' => Bs e (snapB s) ∧ Below w.heap.size w w' := by
  have HC := hide (baseAfterW s ⟨#[115, 110, 97, 112, 115, 104, 111, 116, 46]⟩ w hv hs)
  have e : baseQ s.data.toList (⟨#[115, 110, 97, 112, 115, 104, 111, 116, 46]⟩ : ByteArray).data.toList = snapB s := rfl
  rw [e] at HC
  clear e hv
  generalize snapB s = o at *
  go_enter Tryd.func34, Tryd.ntmps34
  go_wp2_with fail
  refine HC.out.mono ?_
  rintro e w' ⟨rfl, hb⟩
  have HB := hide hb
  clear hb HC
  go_wp2_with fail
  go_returns
  exact ⟨rfl, HB.out⟩

theorem segW (s : ByteArray) (w : World) (hv : Vars w) (hs : s.size ≤ 1048576) :
    Calls Tryd.prog 35 #[.string s] w fun e w' => Bs e (segB s) ∧ Below w.heap.size w w' := by
  have HC := hide (baseAfterW s ⟨#[108, 111, 103, 46]⟩ w hv hs)
  have e : baseQ s.data.toList (⟨#[108, 111, 103, 46]⟩ : ByteArray).data.toList = baseQ s.data.toList lP := rfl
  rw [e] at HC
  clear e hv
  by_cases h : s.data.toList = lN
  · have e : segB s = some 0 := if_pos h
    rw [e]
    have hs' : s = ⟨#[108, 111, 103]⟩ := by
      rcases s with ⟨⟨l⟩⟩
      simp only [lN] at h
      rw [h]
    subst hs'
    clear e h HC
    go_enter Tryd.func35, Tryd.ntmps35
    go_wp2_with fail
    go_returns
    exact ⟨rfl, Below.refl _ _⟩
  · have e : segB s = baseQ s.data.toList lP := if_neg h
    rw [e]
    have hne : (s.toList == [108, 111, 103]) = false := by rw [ByteArray.toList_eq]; exact beq_eq_false_iff_ne.2 h
    clear e h
    generalize baseQ s.data.toList lP = o at *
    go_enter Tryd.func35, Tryd.ntmps35
    go_wp2_with fail
    refine HC.out.mono ?_
    rintro e w' ⟨rfl, hb⟩
    have HB := hide hb
    clear hb HC
    go_wp2_with fail
    go_returns
    exact ⟨rfl, HB.out⟩

theorem list_at (s : ByteArray) (k : Nat) (h : k < s.size) : s.data.toList[k]? = some s[k] := by
  rw [Array.getElem?_toList]
  exact Array.getElem?_eq_some_iff.2 ⟨h, rfl⟩

theorem prefix_no {s p : ByteArray} {k : Nat} (h1 : k < s.size) (h2 : k < p.size) (h : s[k] ≠ p[k]) : Lib.hasPrefix s.data.toList p.data.toList = false := by
  unfold Lib.hasPrefix
  rw [Bool.eq_false_iff]
  intro hp
  rw [List.isPrefixOf_iff_prefix] at hp
  obtain ⟨t, ht⟩ := hp
  have e1 := list_at s k h1
  rw [← ht, List.getElem?_append_left (by rw [Array.length_toList]; exact h2), list_at p k h2] at e1
  injection e1 with e1
  exact h e1.symm

theorem prefix_short {s p : ByteArray} (h : s.size < p.size) : Lib.hasPrefix s.data.toList p.data.toList = false := by
  unfold Lib.hasPrefix
  rw [Bool.eq_false_iff]
  intro hp
  rw [List.isPrefixOf_iff_prefix] at hp
  have := hp.length_le
  rw [Array.length_toList, Array.length_toList] at this
  exact absurd h (Nat.not_lt.2 this)

theorem prefix_yes {s p : ByteArray} (h : ∀ j, j < p.size → s.data.toList[j]? = p.data.toList[j]?) : Lib.hasPrefix s.data.toList p.data.toList = true := by
  unfold Lib.hasPrefix
  rw [List.isPrefixOf_iff_prefix, List.prefix_iff_getElem?]
  intro i hi
  rw [h i (by rw [Array.length_toList] at hi; exact hi)]
  exact List.getElem?_eq_some_iff.2 ⟨hi, rfl⟩

set_option maxHeartbeats 400000 in
theorem hasPrefixW (s p : ByteArray) (w : World) (hs : s.size ≤ 1048576) :
    Calls Tryd.prog 27 #[.string s, .string p] w fun e w' => e = .returned (.bool (Lib.hasPrefix s.data.toList p.data.toList)) ∧ ∃ q, w' = w.drewN q := by
  by_cases hsz : s.size < p.size
  · have hsz' : (s.size : Int) < p.size := by omega
    rw [prefix_short hsz]
    go_enter Tryd.func27, Tryd.ntmps27
    go_wp2
    go_ret
    exact ⟨rfl, 0, rfl⟩
  · obtain ⟨o, ho⟩ : ∃ o, Lib.hasPrefix s.data.toList p.data.toList = o := ⟨_, rfl⟩
    rw [ho]
    have HO := hide ho
    clear ho
    have hsz' : ¬ (s.size : Int) < p.size := by omega
    go_enter Tryd.func27, Tryd.ntmps27
    go_wp2
    go_loopw [5] (fun i wr => ∃ (k q : Nat), i = .int .i64 k ∧ k ≤ p.size ∧ Hid (∀ j, j < k → s.data.toList[j]? = p.data.toList[j]?) ∧ wr = w.drewN q) (fun i _ => p.size - (intOf i).toNat)
    case atStart => exact ⟨0, 0, rfl, Nat.zero_le _, (fun j h => by omega), rfl⟩
    case round =>
      obtain ⟨k, q, rfl, hk, HJ, rfl⟩ := hrel
      by_cases hlt : k < p.size
      · have hlt2 : k < s.size := by omega
        by_cases he : s[k] = p[k]
        · have he' : ((s[k].toNat : Int) == (p[k].toNat : Int)) = true := by rw [he]; simp
          have HJ2 : Hid (∀ j, j < k + 1 → s.data.toList[j]? = p.data.toList[j]?) := by
            intro j hj
            by_cases hjk : j = k
            · subst hjk; rw [list_at s j hlt2, list_at p j hlt, he]
            · exact HJ.out j (by omega)
          clear he HJ
          go_wp2
          go_quiet (fail)
          go_wp2
          go_roundw
          case rel => exact ⟨k + 1, q + nq, by go_num, by omega, HJ2, rfl⟩
          case measure => simp [intOf]; omega
        · have ho : o = false := by rw [← HO.out]; exact prefix_no hlt2 hlt he
          subst ho
          have he' : ((s[k].toNat : Int) == (p[k].toNat : Int)) = false := by
            rw [beq_eq_false_iff_ne]
            intro h
            exact he (UInt8.toNat_inj.1 (by omega))
          clear he HJ HO
          go_wp2
          go_quiet (fail)
          go_wp2
          go_ret
          exact ⟨rfl, q + nq, World.drewN_drewN _ _ _⟩
      · have ho : o = true := by rw [← HO.out]; exact prefix_yes (fun j h => HJ.out j (by omega))
        subst ho
        clear HJ HO
        go_wp2
        go_ret
        exact ⟨rfl, q, rfl⟩
end Go.Proofs.Qxb6602136aDoor
