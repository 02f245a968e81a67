import Derived.Test.Qxb6602136aDoorRows
import Derived.WalkKit
import Derived.ProofKit
import Derived.OpenShut
import Derived.ShutString
import Derived.WalkSpells
import Derived.WalkLawsBesides
import Derived.Deep.QuietTactic
import Derived.BigQuiet
import Derived.BigRegion
import Derived.Deep.LoopGhost
import Derived.Handy
import Derived.Laws.BytesArg
namespace Go.Proofs.Qxb6602136aDoor
open Go.ChangeShapes Go.WideShapes Go.ChangeAt Go.RowKit

theorem hide' {p : Prop} (h : p) : Hid p := h

/-- The last digits lie at the buffer's end. -/
def Buf (w : World) (g p : Nat) (T : List Int) : Prop :=
  ∃ cs : Array Value, w.heap[g]? = some (.cells cs 35 (0, 0)) ∧ cs.size = 20 ∧ ∀ j (h : j < T.length), cs[p + j]? = some (.int .u8 T[j])

section
variable {w : World} {g p : Nat} {T : List Int}
theorem Buf.room (h : Buf w g p T) {o : Nat} (ho : o < 20) : ∃ v, w.cell? ⟨g, o, none⟩ = some v ∧ w.frozen? ⟨g, o, none⟩ = false := by
  obtain ⟨cs, hg, hs, hc⟩ := h
  refine ⟨cs[o]'(by omega), ?_, frozen_of_row w g o cs 35 hg⟩
  rw [cell_of_row w g _ cs 35 _ hg]
  simp [show o < cs.size by omega]
theorem Buf.cell (h : Buf w g p T) {j : Nat} (hj : j < T.length) : w.cell? ⟨g, p + j, none⟩ = some (.int .u8 T[j]) := by
  obtain ⟨cs, hg, hs, hc⟩ := h
  rw [cell_of_row w g _ cs 35 _ hg]; exact hc j hj
theorem Buf.push (h : Buf w g (p + 1) T) (hp : p < 20) (x : Int) : Buf (w.setCell ⟨g, p, none⟩ (.int .u8 x)) g p (x :: T) := by
  obtain ⟨cs, hg, hs, hc⟩ := h
  refine ⟨_, heap_setCell_same _ g _ cs 35 _ hg, by simp [hs], fun j hj => ?_⟩
  cases j with
  | zero => rw [Nat.add_zero, Array.getElem?_setIfInBounds_self_of_lt (by omega)]; rfl
  | succ j =>
    rw [Array.getElem?_setIfInBounds_ne (by omega)]
    have := hc j (by simpa using hj)
    rw [show p + (j + 1) = p + 1 + j by omega]
    simpa using this
end

theorem Tryd.len35 : Tryd.prog.arrayLen 35 = 20 := by kernel_rfl
theorem Tryd.elem35 : Tryd.prog.elem 35 = 5 := by kernel_rfl
theorem Tryd.size5 (w : World) : (Go.sizeOf 5).run Tryd.prog w = .ok 1 w := by kernel_rfl
theorem run_buf (q g : Nat) (hq : q < 20) (w : World) : (Instr.sliceAt 35 (.pointer (some ⟨g, 0, none⟩)) (some (.int .i64 (q : Int))) none none).run Tryd.prog w = .ok (.slice (some ⟨g, q, none⟩) (20 - q) (20 - q)) w := by
  have := run_sliceAt_array_l (P := Tryd.prog) w 35 ⟨g, 0, none⟩ (by rw [Tryd.len35, Tryd.elem35]; exact Tryd.underlying35) .i64 (q : Int) (by omega) (by rw [Tryd.len35]; omega)
  rw [this, Tryd.len35, Tryd.elem35, Tryd.size5]
  simp only [Result.andThen, slicedAt, Int.toNat_natCast]
  rw [if_neg (by omega)]
  simp [Addr.add]
  omega

set_option maxRecDepth 100000 in
set_option maxHeartbeats 1000000 in
theorem itoaD (D : Nat → List UInt8) (hD1 : ∀ n, n < 10 → D n = [UInt8.ofNat (48 + n)]) (hD2 : ∀ n, ¬ n < 10 → D n = D (n / 10) ++ [UInt8.ofNat (48 + n % 10)]) (n : Nat) (h0 : 0 < n) (h1 : n ≤ 9223372036854775807) (hl : (D n).length ≤ 19) (w : World) :
    Calls Tryd.prog 13 #[.int .i64 (n : Int)] w fun e w' => e = .returned (.string ⟨(D n).toArray⟩) ∧ Below w.heap.size w w' := by
  have HD1 := hide' hD1
  have HD2 := hide' hD2
  clear hD1 hD2
  go_enter Tryd.func13, Tryd.ntmps13
  go_wp2
  go_loopw [4, 5] (fun i u wr => ∃ (m p : Nat) (T : List Int), u = .int .u64 m ∧ 0 < m ∧ m ≤ n ∧ i = .int .i64 (p : Int) ∧ p + T.length = 20 ∧ Hid (D n = D m ++ T.map fun x => UInt8.ofNat x.toNat) ∧ Hid (Buf wr w.heap.size p T) ∧ Hid (Below w.heap.size w wr)) (fun _ u _ => (intOf u).toNat)
  case atStart => exact ⟨n, 20, [], rfl, h0, Nat.le_refl _, rfl, rfl, (List.append_nil _).symm, ⟨_, heap_alloc_new w _, rfl, fun j hj => absurd hj (Nat.not_lt_zero _)⟩, (Below.refl _ _).alloc (Nat.le_refl _) _⟩
  case round =>
    obtain ⟨m, p, T, rfl, hm, hmn, rfl, hp, HE, HK, HB⟩ := hrel
    have hT : T.length ≤ 18 := by
      have e := congrArg List.length HE.out
      rw [List.length_append, List.length_map] at e
      by_cases hlt : m < 10
      · rw [HD1.out m hlt, List.length_singleton] at e; omega
      · rw [HD2.out m hlt, List.length_append, List.length_singleton] at e; omega
    obtain ⟨q, rfl⟩ : ∃ q, p = q + 1 := ⟨p - 1, by omega⟩
    obtain ⟨v, hc, hf⟩ := Buf.room HK.out (o := q) (by omega)
    have HK' := hide' (Buf.push HK.out (by omega) ((48 : Int) + m % 10))
    have hi : ((q + 1 : Nat) : Int) - 1 = (q : Int) := by omega
    by_cases hlt : m < 10
    · have hE2 : D n = ((48 + (m : Int) % 10) :: T).map fun x => UInt8.ofNat x.toNat := by
        rw [HE.out, HD1.out m hlt, List.map_cons, show ((48 : Int) + (m : Int) % 10).toNat = 48 + m by omega]
        rfl
      have hlen : (((48 + (m : Int) % 10) :: T)).length = 20 - q := by rw [List.length_cons]; omega
      have hcv := run_convert_bytes_arg (P := Tryd.prog) (wr.setCell ⟨w.heap.size, q, none⟩ (.int .u8 (48 + (m : Int) % 10))) 37 5 Tryd.underlying37 Tryd.underlying5 w.heap.size q (20 - q) (20 - q) _ hlen (fun i hi => by rw [HK'.out.cell (by rw [hlen]; exact hi)]; rw [List.getD_eq_getElem?_getD, List.getElem?_eq_getElem (by rw [hlen]; exact hi)]; rfl) 9 Tryd.underlying9
      have hsl := fun w' => run_buf q w.heap.size (by omega) w'
      go_wp2
      go_ret
      refine ⟨?_, HB.out.setCell (p := ⟨_, _, _⟩) (Nat.le_refl _) _⟩
      rw [hE2]
      rfl
    · go_wp2
      have hE2 : D n = D (m / 10) ++ ((48 + (m : Int) % 10) :: T).map fun x => UInt8.ofNat x.toNat := by
        rw [HE.out, HD2.out m hlt, List.map_cons, show ((48 : Int) + (m : Int) % 10).toNat = 48 + m % 10 by omega, List.append_assoc]
        rfl
      exact ⟨⟨m / 10, q, (48 + (m : Int) % 10) :: T, by norm_cast, by omega, by omega, rfl, by rw [List.length_cons]; omega, hE2, HK'.out, HB.out.setCell (p := ⟨_, _, _⟩) (Nat.le_refl _) _⟩, by simp [intOf]; omega⟩
end Go.Proofs.Qxb6602136aDoor
