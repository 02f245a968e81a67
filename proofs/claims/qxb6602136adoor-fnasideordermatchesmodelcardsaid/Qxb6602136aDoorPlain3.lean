import Derived.Test.Qxb6602136aDoorMore
namespace Go.Proofs.Qxb6602136aDoor
open Go.RowKit

/-- The name of the snapshot in the making. -/
def tmpN : ByteArray := ⟨#[115, 110, 97, 112, 115, 104, 111, 116, 46, 116, 109, 112]⟩
def tmpL (ss : List ByteArray) : List ByteArray := if Lib.containsS ss tmpN = true then [tmpN] else []
/-- What asideOrder answers. -/
def asideL (ss : List ByteArray) : List ByteArray := (srt (snaps ss)).reverse.map snapN ++ tmpL ss ++ (srt (segs ss)).map segN

theorem baseP_itoa {x : Int} (h0 : 0 < x) (h1 : x ≤ 9223372036854775807) : baseP (Lib.itoa x) = some x := by
  obtain ⟨n, rfl⟩ := Int.eq_ofNat_of_zero_le (Int.le_of_lt h0)
  rw [Lib.itoa_nonneg]
  have hc := dec_canon n (by omega)
  rw [base_some hc.1 (by rw [hc.2]; unfold top; omega), hc.2]

theorem pre_yes (p l : List UInt8) : Lib.hasPrefix (p ++ l) p = true := by
  unfold Lib.hasPrefix
  rw [List.isPrefixOf_iff_prefix]
  exact List.prefix_append p l
theorem trim_yes (p l : List UInt8) : Lib.trimPrefix (p ++ l) p = l := by
  unfold Lib.trimPrefix
  rw [if_pos (pre_yes p l), List.drop_left]

theorem snapB_snapN {x : Int} (h0 : 0 < x) (h1 : x ≤ 9223372036854775807) : snapB (snapN x) = some x := by
  unfold snapB snapN baseQ
  show (if Lib.hasPrefix (sP ++ Lib.itoa x) sP = true then _ else _) = _
  rw [if_pos (pre_yes _ _)]
  show baseP (Lib.trimPrefix (sP ++ Lib.itoa x) sP) = _
  rw [trim_yes]
  exact baseP_itoa h0 h1
theorem segB'_snapN {x : Int} (h0 : 0 < x) (h1 : x ≤ 9223372036854775807) : segB' (snapN x) = none := by
  unfold segB'
  rw [snapB_snapN h0 h1]
  rfl
theorem snapB_tmp : snapB tmpN = none := by
  unfold snapB baseQ
  show (if Lib.hasPrefix (sP ++ [116, 109, 112]) sP = true then _ else _) = _
  rw [if_pos (pre_yes _ _)]
  show baseP (Lib.trimPrefix (sP ++ [116, 109, 112]) sP) = _
  rw [trim_yes]
  exact base_none (by decide)
theorem segB'_tmp : segB' tmpN = none := by
  unfold segB'
  rw [snapB_tmp]
  show segB tmpN = none
  unfold segB
  rw [if_neg (by decide)]
  unfold baseQ
  rw [if_neg (by decide)]
theorem snapB_segN {x : Int} : snapB (segN x) = none := by
  by_cases hx : x = 0
  · subst hx
    exact lN_snap rfl
  · unfold segN
    rw [if_neg hx]
    unfold snapB baseQ
    rw [if_neg]
    simp [Lib.hasPrefix, lP, sP, List.isPrefixOf]
theorem segB'_segN {x : Int} (h0 : 0 ≤ x) (h1 : x ≤ 9223372036854775807) : segB' (segN x) = some x := by
  unfold segB'
  rw [snapB_segN]
  show segB (segN x) = some x
  by_cases hx : x = 0
  · subst hx
    exact if_pos rfl
  · unfold segN
    rw [if_neg hx]
    unfold segB
    rw [if_neg (by simp [lP, lN])]
    unfold baseQ
    show (if Lib.hasPrefix (lP ++ Lib.itoa x) lP = true then _ else _) = _
    rw [if_pos (pre_yes _ _)]
    show baseP (Lib.trimPrefix (lP ++ Lib.itoa x) lP) = _
    rw [trim_yes]
    exact baseP_itoa (by omega) h1

theorem fm_map {α : Type} (f : ByteArray → Option α) (g : α → ByteArray) (l : List α) (h : ∀ x ∈ l, f (g x) = some x) : (l.map g).filterMap f = l := by
  induction l with
  | nil => rfl
  | cons a l ih =>
    rw [List.map_cons, List.filterMap_cons_some (h a (by simp)), ih (fun x hx => h x (by simp [hx]))]
theorem fm_none {α β : Type} (f : ByteArray → Option α) (g : β → ByteArray) (l : List β) (h : ∀ x ∈ l, f (g x) = none) : (l.map g).filterMap f = [] := by
  induction l with
  | nil => rfl
  | cons a l ih =>
    rw [List.map_cons, List.filterMap_cons_none (h a (by simp)), ih (fun x hx => h x (by simp [hx]))]

theorem snaps_aside (ss : List ByteArray) : snaps (asideL ss) = (srt (snaps ss)).reverse := by
  unfold asideL snaps
  rw [List.filterMap_append, List.filterMap_append, fm_map snapB snapN _ (fun x hx => by
    have := snaps_pos ss x (List.mem_reverse.1 hx)
    exact snapB_snapN this.1 this.2), fm_none snapB segN _ (fun x _ => snapB_segN)]
  have : (tmpL ss).filterMap snapB = [] := by
    unfold tmpL
    split
    · rw [List.filterMap_cons_none snapB_tmp]; rfl
    · rfl
  rw [this]
  simp
theorem segs_aside (ss : List ByteArray) : segs (asideL ss) = srt (segs ss) := by
  unfold asideL segs
  rw [List.filterMap_append, List.filterMap_append, fm_none segB' snapN _ (fun x hx => by
    have := snaps_pos ss x (List.mem_reverse.1 hx)
    exact segB'_snapN this.1 this.2), fm_map segB' segN _ (fun x hx => by
    have := segs_rng ss x hx
    exact segB'_segN this.1 this.2)]
  have : (tmpL ss).filterMap segB' = [] := by
    unfold tmpL
    split
    · rw [List.filterMap_cons_none segB'_tmp]; rfl
    · rfl
  rw [this]
  simp

theorem srt_of_perm {xs ys : List Int} (h : List.Perm xs ys) : srt xs = srt ys :=
  perm_unique (((srt_perm xs).trans h).trans (srt_perm ys).symm) (srt_sorted xs) (srt_sorted ys)
theorem srt_snaps_aside (ss : List ByteArray) : srt (snaps (asideL ss)) = srt (snaps ss) := by
  rw [snaps_aside]
  exact srt_of_perm ((List.reverse_perm _).trans (srt_perm _))
theorem srt_segs_aside (ss : List ByteArray) : srt (segs (asideL ss)) = srt (segs ss) := by
  rw [segs_aside]
  exact srt_of_perm (srt_perm _)

theorem tmpL_len (ss : List ByteArray) : (tmpL ss).length ≤ 1 := by unfold tmpL; split <;> simp
theorem parts_len (ss : List ByteArray) : (snaps ss).length + (segs ss).length ≤ ss.length := by
  induction ss with
  | nil => simp [snaps, segs]
  | cons s ss ih =>
    unfold snaps segs at ih ⊢
    cases h1 : snapB s with
    | some x =>
      rw [List.filterMap_cons_some h1, List.filterMap_cons_none (show segB' s = none by unfold segB'; rw [h1]; rfl)]
      simp only [List.length_cons]
      omega
    | none =>
      rw [List.filterMap_cons_none h1]
      cases h2 : segB' s with
      | some x => rw [List.filterMap_cons_some h2]; simp only [List.length_cons]; omega
      | none => rw [List.filterMap_cons_none h2]; simp only [List.length_cons]; omega
theorem parts_len_tmp (ss : List ByteArray) (h : tmpN ∈ ss) : (snaps ss).length + (segs ss).length + 1 ≤ ss.length := by
  induction ss with
  | nil => cases h
  | cons s ss ih =>
    rcases List.mem_cons.1 h with e | h'
    · subst e
      have := parts_len ss
      unfold snaps segs at this ⊢
      rw [List.filterMap_cons_none snapB_tmp, List.filterMap_cons_none segB'_tmp, List.length_cons]
      omega
    · have ih := ih h'
      unfold snaps segs at ih ⊢
      cases h1 : snapB s with
      | some x =>
        rw [List.filterMap_cons_some h1, List.filterMap_cons_none (show segB' s = none by unfold segB'; rw [h1]; rfl)]
        simp only [List.length_cons]
        omega
      | none =>
        rw [List.filterMap_cons_none h1]
        cases h2 : segB' s with
        | some x => rw [List.filterMap_cons_some h2]; simp only [List.length_cons]; omega
        | none => rw [List.filterMap_cons_none h2]; simp only [List.length_cons]; omega
theorem aside_len (ss : List ByteArray) : (asideL ss).length ≤ ss.length := by
  unfold asideL
  rw [List.length_append, List.length_append, List.length_map, List.length_map, List.length_reverse, srt_len, srt_len]
  unfold tmpL
  split
  · rename_i h
    have := parts_len_tmp ss ((Lib.containsS_iff ss tmpN).1 h)
    simp only [List.length_cons, List.length_nil]
    omega
  · have := parts_len ss
    simp only [List.length_nil]
    omega

theorem snapN_size {x : Int} (h0 : 0 < x) (h1 : x ≤ 9223372036854775807) : (snapN x).size ≤ 28 := by
  have := itoa_len h0 h1
  show (sP ++ Lib.itoa x).toArray.size ≤ 28
  rw [List.size_toArray, List.length_append]
  have : sP.length = 9 := rfl
  omega
theorem segN_size {x : Int} (h0 : 0 ≤ x) (h1 : x ≤ 9223372036854775807) : (segN x).size ≤ 28 := by
  unfold segN
  split
  · decide
  · have := itoa_len (show 0 < x by omega) h1
    show (lP ++ Lib.itoa x).toArray.size ≤ 28
    rw [List.size_toArray, List.length_append]
    have : lP.length = 4 := rfl
    omega
theorem aside_size (ss : List ByteArray) : ∀ s ∈ asideL ss, s.size ≤ 28 := by
  intro s hs
  unfold asideL at hs
  rcases List.mem_append.1 hs with hs | hs
  · rcases List.mem_append.1 hs with hs | hs
    · obtain ⟨x, hx, rfl⟩ := List.mem_map.1 hs
      have := snaps_pos ss x (List.mem_reverse.1 hx)
      exact snapN_size this.1 this.2
    · unfold tmpL at hs
      split at hs
      · rw [List.mem_singleton.1 hs]; decide
      · cases hs
  · obtain ⟨x, hx, rfl⟩ := List.mem_map.1 hs
    have := segs_rng ss x hx
    exact segN_size this.1 this.2
end Go.Proofs.Qxb6602136aDoor
