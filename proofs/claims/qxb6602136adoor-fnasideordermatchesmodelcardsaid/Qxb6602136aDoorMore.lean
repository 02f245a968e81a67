import Derived.Test.Qxb6602136aDoorKeep
namespace Go.Proofs.Qxb6602136aDoor
open Go.RowKit Go.Shelf

theorem Own.ints {B : Nat} {w : World} {v : Value} {xs : List Int} (h : Own B w v xs) : Ints w.heap.size w v xs := by
  rcases h.row.2 with ⟨rfl, h0⟩ | ⟨g, cap, cur, rfl, _, hc, _⟩
  · exact .inl ⟨rfl, List.eq_nil_of_length_eq_zero h0⟩
  · refine .inr ⟨g, cap, rfl, (Array.getElem?_eq_some_iff.1 hc).1, fun j hj => ?_⟩
    rw [h.arr.cell hj]
    simp [hj]

theorem baseP_rng {d : List UInt8} {v : Int} (h : baseP d = some v) : 0 < v ∧ v ≤ 9223372036854775807 := by
  unfold baseP at h
  split at h
  · rename_i hc
    injection h with h
    have h1 := Nat.le_trans (Nat.one_le_pow (d.length - 1) 10 (by decide)) (val_ge hc.1)
    have h2 := hc.2
    unfold top at h2
    omega
  · cases h
theorem snaps_pos (ss : List ByteArray) : Pos (srt (snaps ss)) := by
  intro x hx
  rw [(srt_perm _).mem_iff] at hx
  obtain ⟨s, _, hs⟩ := List.mem_filterMap.1 hx
  unfold snapB baseQ at hs
  split at hs
  · exact baseP_rng hs
  · cases hs

theorem segs_rng (ss : List ByteArray) : ∀ x ∈ srt (segs ss), 0 ≤ x ∧ x ≤ 9223372036854775807 := by
  intro x hx
  rw [(srt_perm _).mem_iff] at hx
  obtain ⟨s, _, hs⟩ := List.mem_filterMap.1 hx
  unfold segB' at hs
  split at hs
  · cases hs
  · unfold segB at hs
    split at hs
    · injection hs with hs; omega
    · unfold baseQ at hs
      split at hs
      · have := baseP_rng hs; omega
      · cases hs

theorem containsW (a : Option Addr) (c : Nat) (ss : List ByteArray) (x : ByteArray) (w : World) (hs : StrsAt w a ss) (hn : ss.length ≤ 4096) :
    Calls Tryd.prog 40 #[.slice a ss.length c, .string x] w fun e w' => e = .returned (.bool (Lib.containsS ss x)) ∧ w = w' := by
  rcases hs with rfl | ⟨b, off, rfl, hc⟩
  · refine (Tryd.slices_Contains_string_empty a c x w).mono ?_
    rintro e w' ⟨rfl, rfl⟩
    exact ⟨rfl, rfl⟩
  · refine (Tryd.slices_Contains_string b off ss.length c ss x w (Nat.le_refl _) (by omega) (fun j hj => by rw [hc j hj]; simp [List.getD, hj])).mono ?_
    rintro e w' ⟨rfl, rfl⟩
    exact ⟨by rw [List.take_length], rfl⟩
end Go.Proofs.Qxb6602136aDoor
