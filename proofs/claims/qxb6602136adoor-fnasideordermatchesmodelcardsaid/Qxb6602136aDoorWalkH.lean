import Derived.Test.Qxb6602136aDoorWalkG
namespace Go.Proofs.Qxb6602136aDoor
open Go.ChangeShapes Go.WideShapes Go.ChangeAt Go.RowKit Go.Sort

theorem sortNilW (desc : Bool) (w : World) : Calls Tryd.prog 29 #[.slice none 0 0, .bool desc] w fun e w' => e = .returned (.tuple #[]) ∧ w = w' := by
  go_enter Tryd.func29, Tryd.ntmps29
  go_wp2_with fail
  go_rounds 1
  go_returns
  exact ⟨rfl, rfl⟩

theorem sort64W (B : Nat) (w : World) (v : Value) (xs : List Int) (desc : Bool) (h : Own B w v xs) (hn : xs.length ≤ 4096) :
    Calls Tryd.prog 29 #[v, .bool desc] w fun e w' => e = .returned (.tuple #[]) ∧ (∃ ys, Own B w' v ys ∧ List.Perm ys xs ∧ ys.Pairwise (ord desc)) ∧ w.grownBy w' v.ownBlock := by
  by_cases h0 : xs = []
  · have hv := h.nil.2 h0
    subst hv
    subst h0
    refine (sortNilW desc w).mono ?_
    rintro e w' ⟨rfl, rfl⟩
    exact ⟨rfl, ⟨[], h, List.Perm.refl _, List.Pairwise.nil⟩, ⟨rfl, rfl, rfl, Nat.le_refl _, fun _ _ _ => rfl⟩⟩
  · have hp : 0 < xs.length := List.length_pos_iff.2 h0
    rcases h.row.2 with ⟨h1, h2⟩ | ⟨g, cap, cur, rfl, hB, hcur, hc1, hc2, hc3, htk⟩
    · omega
    · refine (sortInW g xs.length cap xs desc w h.arr hp hn).mono ?_
      rintro e w' ⟨rfl, L', h1, h2, h3, h4⟩
      exact ⟨rfl, ⟨L', h1.own hB hc2 hp, h2, h3⟩, h4⟩

theorem perm_unique {xs ys : List Int} (hp : List.Perm xs ys) (h1 : xs.Pairwise (· ≤ ·)) (h2 : ys.Pairwise (· ≤ ·)) : xs = ys := by
  induction xs generalizing ys with
  | nil => exact (List.Perm.nil_eq hp)
  | cons a xs ih =>
    cases ys with
    | nil => exact absurd hp.length_eq (by simp)
    | cons b ys =>
      have e : a = b := by
        have ha : a ∈ b :: ys := hp.mem_iff.1 (by simp)
        have hb : b ∈ a :: xs := hp.mem_iff.2 (by simp)
        rcases List.mem_cons.1 ha with h | h
        · exact h
        · rcases List.mem_cons.1 hb with h' | h'
          · exact h'.symm
          · have q1 := (List.pairwise_cons.1 h2).1 a h
            have q2 := (List.pairwise_cons.1 h1).1 b h'
            omega
      subst e
      rw [ih (List.Perm.cons_inv hp) (List.pairwise_cons.1 h1).2 (List.pairwise_cons.1 h2).2]

theorem srt_perm (xs : List Int) : List.Perm (srt xs) xs := List.mergeSort_perm _ _
theorem srt_sorted (xs : List Int) : (srt xs).Pairwise (· ≤ ·) := by
  have := List.pairwise_mergeSort (le := fun x y : Int => decide (x ≤ y)) (by intro a b c; simp; omega) (by intro a b; simp; omega) xs
  exact this.imp (by intro a b h; simpa using h)
theorem asc_srt {xs ys : List Int} (hp : List.Perm ys xs) (h : ys.Pairwise (ord false)) : ys = srt xs :=
  perm_unique (hp.trans (srt_perm xs).symm) (h.imp (by intro a b h; simpa [ord] using h)) (srt_sorted xs)
theorem desc_srt {xs ys : List Int} (hp : List.Perm ys xs) (h : ys.Pairwise (ord true)) : ys = (srt xs).reverse := by
  have h1 : ys.reverse = srt xs := perm_unique ((List.reverse_perm ys).trans (hp.trans (srt_perm xs).symm)) (List.pairwise_reverse.2 (h.imp (by intro a b h; simpa [ord] using h))) (srt_sorted xs)
  rw [← h1, List.reverse_reverse]

/-- A snapshot's name is no segment's. -/
theorem snap_seg {s : ByteArray} {x : Int} (h : snapB s = some x) : s.data.toList ≠ lN ∧ baseQ s.data.toList lP = none := by
  unfold snapB baseQ at h
  split at h
  · rename_i hp
    unfold Lib.hasPrefix at hp
    rw [List.isPrefixOf_iff_prefix] at hp
    obtain ⟨t, ht⟩ := hp
    rw [← ht]
    refine ⟨by simp [sP, lN], ?_⟩
    unfold baseQ
    rw [if_neg]
    simp [Lib.hasPrefix, sP, lP, List.isPrefixOf]
  · cases h
theorem lN_none : baseQ lN lP = none := by
  unfold baseQ
  rw [if_neg]
  simp [Lib.hasPrefix, lN, lP, List.isPrefixOf]
theorem lN_snap {s : ByteArray} (h : s.data.toList = lN) : snapB s = none := by
  unfold snapB baseQ
  rw [h, if_neg]
  simp [Lib.hasPrefix, lN, sP, List.isPrefixOf]

set_option maxHeartbeats 1000000 in
theorem eq64W (v u : Value) (xs ys : List Int) (B : Nat) (w : World) (h1 : Own B w v xs) (h2 : Own B w u ys) (hn : xs.length ≤ 4096) (hm : ys.length ≤ 4096) (he : xs = ys) :
    Calls Tryd.prog 19 #[v, u] w fun e w' => e = .returned (.bool true) ∧ ∃ q, w' = w.drewN q := by
  subst he
  by_cases h0 : xs = []
  · have e1 := h1.nil.2 h0
    have e2 := h2.nil.2 h0
    subst e1 e2
    have hq := fun w => Lib.run_eql_slice_nil (P := Tryd.prog) w 30 2 none 0 0 0 0 Tryd.underlying30
    clear h1 h2
    go_enter Tryd.func19, Tryd.ntmps19
    go_wp2
    go_rounds 1
    go_ret
    exact ⟨rfl, 0, rfl⟩
  · have hp : 0 < xs.length := List.length_pos_iff.2 h0
    rcases h1.row.2 with ⟨_, h⟩ | ⟨g, cap, cur, rfl, -, -, -, -, -, -⟩
    · omega
    rcases h2.row.2 with ⟨_, h⟩ | ⟨g', cap', cur', rfl, -, -, -, -, -, -⟩
    · omega
    have A1 := hide h1.arr
    have A2 := hide h2.arr
    clear h1 h2 h0
    have hq1 := fun w => Lib.run_eql_slice_nil (P := Tryd.prog) w 30 2 (some ⟨g, 0, none⟩) xs.length cap 0 0 Tryd.underlying30
    have hq2 := fun w => Lib.run_eql_slice_nil (P := Tryd.prog) w 30 2 (some ⟨g', 0, none⟩) xs.length cap' 0 0 Tryd.underlying30
    go_enter Tryd.func19, Tryd.ntmps19
    go_wp2
    clear hq1 hq2
    go_loopw [5] (fun i wr => ∃ (k q : Nat), i = .int .i64 k ∧ k ≤ xs.length ∧ wr = w.drewN q) (fun i _ => xs.length - (intOf i).toNat)
    case atStart => exact ⟨0, 0, rfl, Nat.zero_le _, rfl⟩
    case round =>
      obtain ⟨k, q, rfl, hk, rfl⟩ := hrel
      by_cases hlt : k < xs.length
      · have c1 : (w.drewN q).cell? ⟨g, k, none⟩ = some (.int .i64 xs[k]) := A1.out.cell hlt
        have c2 : (w.drewN q).cell? ⟨g', k, none⟩ = some (.int .i64 xs[k]) := A2.out.cell hlt
        generalize xs[k] = x at *
        generalize hwq : w.drewN q = wq at *
        have HWQ := hide hwq
        clear hwq
        go_wp2
        go_quiet (fail)
        go_wp2
        go_roundw
        case rel => exact ⟨k + 1, q + nq, by go_num, by omega, by rw [← HWQ.out, World.drewN_drewN]⟩
        case measure => simp [intOf]; omega
      · go_wp2
        go_ret
        exact ⟨rfl, q, rfl⟩
end Go.Proofs.Qxb6602136aDoor
