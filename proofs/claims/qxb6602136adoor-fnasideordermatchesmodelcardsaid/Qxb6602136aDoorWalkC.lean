import Derived.Test.Qxb6602136aDoorWalkB
import Derived.Maps.AppendAt
namespace Go.Proofs.Qxb6602136aDoor
open Go.ChangeShapes Go.WideShapes Go.ChangeAt Go.RowKit Go.Sort

/-- A slice of int64 of the call's own: nil where it is empty. -/
structure Own (B : Nat) (w : World) (v : Value) (xs : List Int) : Prop where
  row : w.ownsRow B 2 1 v xs.length (xs.map (Value.int .i64))
  nil : v = .slice none 0 0 ↔ xs = []

theorem Own.start (B : Nat) (w : World) : Own B w (.slice none 0 0) [] := ⟨World.ownsRow_nil _ _ _ _, by simp⟩

theorem Own.kept {B : Nat} {w w' : World} {v : Value} {xs : List Int} {row : Option Nat} (h : Own B w v xs) (hg : w.grownBy w' row) (hne : v.ownBlock = none ∨ v.ownBlock ≠ row) : Own B w' v xs := ⟨h.row.kept hg hne, h.nil⟩

theorem grown_none {w w' : World} (hb : Below w.heap.size w w') : w.grownBy w' none := ⟨hb.os, hb.tape, hb.output, hb.size, fun k hk _ => hb.block k hk⟩

theorem Own.later {B : Nat} {w w' : World} {v : Value} {xs : List Int} (h : Own B w v xs) (hb : Below w.heap.size w w') : Own B w' v xs := by
  refine h.kept (grown_none hb) ?_
  cases v.ownBlock with
  | none => exact .inl rfl
  | some k => exact .inr (by simp)

theorem Own.form {B : Nat} {w : World} {v : Value} {xs : List Int} (h : Own B w v xs) : ∃ p c, v = .slice p xs.length c := by
  rcases h.row.2 with ⟨rfl, h0⟩ | ⟨g, cap, cur, rfl, _⟩
  · exact ⟨none, 0, by rw [h0]⟩
  · exact ⟨_, _, rfl⟩

theorem Own.low {B : Nat} {w : World} {v : Value} {xs : List Int} (h : Own B w v xs) : ∀ k, v.ownBlock = some k → B ≤ k := fun k hk => (h.row.lt k hk).1

/-- Two such slices in blocks apart. -/
structure Two (B : Nat) (w : World) (v u : Value) (xs ys : List Int) : Prop where
  a : Own B w v xs
  b : Own B w u ys
  ne : ∀ g, v.ownBlock = some g → u.ownBlock ≠ some g

theorem Two.later {B : Nat} {w w' : World} {v u : Value} {xs ys : List Int} (h : Two B w v u xs ys) (hb : Below w.heap.size w w') : Two B w' v u xs ys := ⟨h.a.later hb, h.b.later hb, h.ne⟩

theorem Two.swap {B : Nat} {w : World} {v u : Value} {xs ys : List Int} (h : Two B w v u xs ys) : Two B w u v ys xs := ⟨h.b, h.a, fun g h1 h2 => h.ne g h2 h1⟩

theorem Two.app {B : Nat} {w w' : World} {v v' u : Value} {xs ys : List Int} {x : Int} {o : Obj} (h : Two B w v u xs ys) (ho : w'.ownsRow B 2 1 v' (xs.length + 1) (xs.map (Value.int .i64) ++ [.int .i64 x]))
    (hg : (w.alloc o).grownBy w' v.ownBlock) (hi : v' = .slice none 0 0 ↔ v = .slice none 0 0 ∧ 1 = 0) (hat : v'.ownBlock = v.ownBlock ∨ v'.ownBlock = some (w.alloc o).heap.size) : Two B w' v' u (xs ++ [x]) ys := by
  have hal := h.later (w' := w.alloc o) ((Below.refl _ _).alloc (Nat.le_refl _) o)
  refine ⟨⟨by simpa using ho, ?_⟩, hal.b.kept hg ?_, ?_⟩
  · simp at hi
    simp [hi]
  · cases hu : u.ownBlock with
    | none => exact .inl rfl
    | some g => exact .inr (fun e => h.ne g e.symm hu)
  · intro g h1 h2
    rcases hat with e | e
    · rw [e] at h1; exact h.ne g h1 h2
    · rw [h1] at e
      injection e with e
      have := (hal.b.row.lt g h2).2
      omega

theorem below_app {B : Nat} {w0 w w' : World} {v : Value} {xs : List Int} {o : Obj} (hb : Below B w0 w) (h : Own B w v xs) (hle : B ≤ w.heap.size) (hg : (w.alloc o).grownBy w' v.ownBlock) : Below B w0 w' :=
  (hb.alloc hle o).grown hg (by simp; omega) h.low

def srt (l : List Int) : List Int := l.mergeSort fun x y => decide (x ≤ y)

theorem srt_nil : srt [] = [] := by simp [srt]

/-- slices.Sort of such a slice. -/
theorem sortW (B : Nat) (w : World) (v : Value) (xs : List Int) (h : Own B w v xs) (hn : xs.length ≤ 4096) :
    Calls Tryd.prog 36 #[v] w fun e w' => e = .returned (.tuple #[]) ∧ Own B w' v (srt xs) ∧ w.grownBy w' v.ownBlock := by
  have hl : (srt xs).length = xs.length := List.length_mergeSort _
  rcases h.row.2 with ⟨rfl, h0⟩ | ⟨g, cap, cur, rfl, hB, hcur, hc1, hc2, hc3, htk⟩
  · have hx : xs = [] := List.eq_nil_of_length_eq_zero h0
    subst hx
    refine (Tryd.slices_Sort_i64_none none 0 w).mono ?_
    rintro e w' ⟨rfl, rfl⟩
    exact ⟨rfl, by rw [srt_nil]; exact h, ⟨rfl, rfl, rfl, Nat.le_refl _, fun _ _ _ => rfl⟩⟩
  · refine (Tryd.slices_Sort_i64 g 0 cap xs w (holds_of_blockI hcur (by simpa using htk)) (Array.getElem?_eq_some_iff.1 hcur).1 (by omega)).mono ?_
    rintro e w' ⟨rfl, n, os, rfl⟩
    refine ⟨rfl, ⟨?_, ?_⟩, grownBy_sortedI _⟩
    · rw [hl]; exact ownsRow_sortedI hl hB hcur hc1 hc2 hc3
    · have := h.nil
      rw [this]
      constructor
      · intro h; rw [h]; exact srt_nil
      · intro h; rw [h] at hl; exact List.eq_nil_of_length_eq_zero hl.symm

theorem Two.sort {B : Nat} {w w' : World} {v u : Value} {xs ys xs' : List Int} (h : Two B w v u xs ys) (h1 : Own B w' v xs') (hg : w.grownBy w' v.ownBlock) : Two B w' v u xs' ys := by
  refine ⟨h1, h.b.kept hg ?_, h.ne⟩
  cases hu : u.ownBlock with
  | none => exact .inl rfl
  | some g => exact .inr (fun e => h.ne g e.symm hu)
end Go.Proofs.Qxb6602136aDoor
