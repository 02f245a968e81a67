import Derived.Test.Qxb6602136aDoorWalkF
namespace Go.Proofs.Qxb6602136aDoor
open Go.ChangeShapes Go.WideShapes Go.ChangeAt Go.RowKit Go.Sort

theorem grown_set {w0 w : World} {g : Nat} (h : w0.grownBy w (some g)) (k : Nat) (x : Value) : w0.grownBy (w.setCell ⟨g, k, none⟩ x) (some g) :=
  ⟨h.os, h.tape, h.output, Nat.le_trans h.size (by simp), fun b hb hne => by rw [Below.heap_setCell _ _ _ _ (fun e => hne (by rw [e]))]; exact h.block b hb hne⟩

/-- What the inner loop hands on. -/
structure Mid (w wr : World) (g n cap k : Nat) (desc : Bool) (L A C T : List Int) (x z : Int) : Prop where
  arr : Arr wr g n cap (A ++ z :: (C ++ T))
  ins : Ins desc L A C T x
  grown : w.grownBy wr (some g)
  len : A.length + C.length = k

theorem Mid.step {w wr : World} {g n cap k : Nat} {desc : Bool} {L A C T : List Int} {x y z : Int} (h : Mid w wr g n cap k desc L (A ++ [y]) C T x z) (hb : bef x y desc = true) :
    Mid w (wr.setCell ⟨g, A.length + 1, none⟩ (.int .i64 y)) g n cap k desc L A (y :: C) T x y := by
  refine ⟨?_, h.ins.step hb, grown_set h.grown _ _, by have := h.len; simp at this ⊢; omega⟩
  have := h.arr.set (A.length + 1) y
  rwa [show A.length + 1 = (A ++ [y]).length by simp, List.set_append_right _ _ (Nat.le_refl _), Nat.sub_self, List.set_cons_zero, List.append_assoc, ← show A.length + 1 = (A ++ [y]).length by simp] at this

/-- What the outer loop hands on. -/
structure Out (w wr : World) (g n cap k : Nat) (desc : Bool) (L S T : List Int) : Prop where
  arr : Arr wr g n cap (S ++ T)
  perm : List.Perm (S ++ T) L
  srt : S.Pairwise (ord desc)
  grown : w.grownBy wr (some g)
  len : S.length = k

theorem Mid.done {w wr : World} {g n cap k : Nat} {desc : Bool} {L A C T : List Int} {x z : Int} (h : Mid w wr g n cap k desc L A C T x z) (hA : ∀ A' y, A = A' ++ [y] → bef x y desc = false) :
    Out w (wr.setCell ⟨g, A.length, none⟩ (.int .i64 x)) g n cap (k + 1) desc L (A ++ x :: C) T := by
  refine ⟨?_, ?_, h.ins.done hA, grown_set h.grown _ _, by have := h.len; simp; omega⟩
  · have := h.arr.set A.length x
    rwa [List.set_append_right _ _ (Nat.le_refl _), Nat.sub_self, List.set_cons_zero, ← List.cons_append, ← List.append_assoc] at this
  · have := h.ins.perm
    rwa [← List.cons_append, ← List.append_assoc] at this

theorem Out.mid {w wr : World} {g n cap k : Nat} {desc : Bool} {L S T : List Int} {x : Int} (h : Out w wr g n cap k desc L S (x :: T)) : Mid w wr g n cap k desc L S [] T x x :=
  ⟨h.arr, ⟨h.perm, by simpa using h.srt, fun y hy => by cases hy⟩, h.grown, by simpa using h.len⟩

set_option maxHeartbeats 2000000 in
theorem sortInW (g n cap : Nat) (L : List Int) (desc : Bool) (w : World) (h : Arr w g n cap L) (h1 : 0 < n) (hn : n ≤ 4096) :
    Calls Tryd.prog 29 #[.slice (some ⟨g, 0, none⟩) n cap, .bool desc] w fun e w' => e = .returned (.tuple #[]) ∧ ∃ L', Arr w' g n cap L' ∧ List.Perm L' L ∧ L'.Pairwise (ord desc) ∧ w.grownBy w' (some g) := by
  have HR := hide h
  clear h
  go_enter Tryd.func29, Tryd.ntmps29
  go_wp2_with fail
  go_loopw [4] (fun i wr => ∃ (k : Nat) (S T : List Int), i = .int .i64 k ∧ k ≤ n ∧ Hid (Out w wr g n cap k desc L S T)) (fun i _ => n - (intOf i).toNat)
  case atStart =>
    refine ⟨1, L.take 1, L.drop 1, rfl, h1, ?_, ?_, ?_, ⟨rfl, rfl, rfl, Nat.le_refl _, fun _ _ _ => rfl⟩, ?_⟩
    · rw [List.take_append_drop]; exact HR.out
    · rw [List.take_append_drop]
    · have := HR.out.1
      cases L with
      | nil => simp
      | cons a l => simp
    · have := HR.out.1
      rw [List.length_take]; omega
  case round =>
    obtain ⟨k, S, T, rfl, hk, HO⟩ := hrel
    by_cases hlt : k < n
    · have hT : S.length + T.length = n := by have := HO.out.arr.1; rwa [List.length_append] at this
      cases T with
      | nil => exfalso; have := HO.out.len; simp at hT; omega
      | cons x T =>
        have HM := hide HO.out.mid
        have hcx : wr.cell? ⟨g, k, none⟩ = some (.int .i64 x) := by
          have hj : k < (S ++ x :: T).length := by have := HO.out.arr.1; omega
          have := HO.out.arr.cell hj
          rw [this]
          congr 2
          rw [List.getElem_append_right (by have := HO.out.len; omega)]
          simp [HO.out.len]
        have HL := hide HO.out.len
        clear HO hT
        go_wp2_with fail
        clear hcx
        go_loopw [6] (fun j wr => ∃ (A C : List Int) (z : Int) (m : Nat), j = .int .i64 m ∧ m = A.length ∧ Hid (Mid w wr g n cap k desc L A C T x z)) (fun j _ => (intOf j).toNat)
        case atStart => exact ⟨S, [], x, k, rfl, HL.out.symm, HM.out⟩
        case round =>
          clear HM HL
          obtain ⟨A, C, z, m, rfl, hm, HM⟩ := hrel
          rcases List.eq_nil_or_concat A with h0 | ⟨A', y, h0⟩
          · subst h0
            obtain rfl : m = 0 := hm
            have HD := hide (HM.out.done (fun A' y h => by simp at h))
            have hcz : wr.cell? ⟨g, 0, none⟩ = some (.int .i64 z) := HM.out.arr.cell (j := 0) (by simp)
            have hfz : wr.frozen? ⟨g, 0, none⟩ = false := HM.out.arr.thaw 0
            clear HM
            go_wp2_with fail
            go_roundw
            case rel => exact ⟨k + 1, _, T, by go_num, by omega, HD.out⟩
            case measure => simp [intOf]; omega
          · obtain rfl : A = A' ++ [y] := by simpa using h0
            have hm' : m = A'.length + 1 := by rw [hm]; simp
            clear h0 hm
            have hAn : A'.length + 1 < n := by have := HM.out.arr.1; simp at this; omega
            have hcy : wr.cell? ⟨g, A'.length, none⟩ = some (.int .i64 y) := by
              have hj : A'.length < ((A' ++ [y]) ++ z :: (C ++ T)).length := by simp
              rw [HM.out.arr.cell hj]
              simp
            have hcz : wr.cell? ⟨g, A'.length + 1, none⟩ = some (.int .i64 z) := by
              have hj : A'.length + 1 < ((A' ++ [y]) ++ z :: (C ++ T)).length := by simp
              rw [HM.out.arr.cell hj]
              simp
            have hfz : wr.frozen? ⟨g, A'.length + 1, none⟩ = false := HM.out.arr.thaw _
            have HC := hide (beforeW x y desc wr)
            cases hb : bef x y desc with
            | true =>
              have HS := hide (HM.out.step hb)
              rw [hb] at HC
              clear HM hb
              obtain ⟨a, ha⟩ : ∃ a, A'.length = a := ⟨_, rfl⟩
              rw [ha] at hm' hAn hcy hcz hfz HS
              subst hm'
              have HLa := hide ha
              clear ha
              go_wp2_with (go_at_call 37; refine HC.out.mono ?_; rintro e w' ⟨rfl, rfl⟩)
              go_roundw
              case rel => exact ⟨A', y :: C, y, a, by go_num, HLa.out.symm, HS.out⟩
              case measure => simp [intOf]
            | false =>
              have HD := hide (HM.out.done (fun A2 y2 h => by
                have := List.append_inj' h rfl
                have h2 := this.2
                injection h2 with h2
                rw [← h2]; exact hb))
              rw [List.length_append, List.length_singleton] at HD
              rw [hb] at HC
              clear HM hb
              obtain ⟨a, ha⟩ : ∃ a, A'.length = a := ⟨_, rfl⟩
              rw [ha] at hm' hAn hcy hcz hfz HD
              subst hm'
              clear ha
              go_wp2_with (go_at_call 37; refine HC.out.mono ?_; rintro e w' ⟨rfl, rfl⟩)
              go_roundw
              case rel => exact ⟨k + 1, _, T, by go_num, by omega, HD.out⟩
              case measure => simp [intOf]; omega
    · obtain rfl : k = n := by omega
      have hl : T = [] := by
        have h1 := HO.out.arr.1
        have h2 := HO.out.len
        rw [List.length_append] at h1
        exact List.eq_nil_of_length_eq_zero (by omega)
      subst hl
      have HA := hide HO.out
      clear HO hk hlt
      go_wp2_with fail
      go_returns
      have ho := HA.out
      have ha := ho.arr
      have hp := ho.perm
      rw [List.append_nil] at ha hp
      exact ⟨rfl, S, ha, hp, ho.srt, ho.grown⟩
end Go.Proofs.Qxb6602136aDoor
