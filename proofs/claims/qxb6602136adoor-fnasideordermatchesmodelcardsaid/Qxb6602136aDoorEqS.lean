import Derived.Test.Qxb6602136aDoorStep2
import Derived.Test.Qxb6602136aDoorItoa
namespace Go.Proofs.Qxb6602136aDoor
open Go.ChangeShapes Go.WideShapes Go.ChangeAt Go.RowKit Go.Sort

theorem itoaW (x : Int) (h0 : 0 < x) (h1 : x ≤ 9223372036854775807) (w : World) :
    Calls Tryd.prog 13 #[.int .i64 x] w fun e w' => e = .returned (.string ⟨(Lib.itoa x).toArray⟩) ∧ Below w.heap.size w w' := by
  have hl := itoa_len h0 h1
  obtain ⟨n, rfl⟩ := Int.eq_ofNat_of_zero_le (Int.le_of_lt h0)
  rw [Lib.itoa_nonneg] at hl ⊢
  exact itoaD Lib.decDigits (fun n h => by rw [Lib.decDigits, dif_pos h]) (fun n h => by rw [Lib.decDigits, dif_neg h]) n (by omega) (by omega) hl w

set_option maxHeartbeats 1000000 in
/-- zzEqStrings of two such slices with the same strings. -/
theorem eqSW (v u : Value) (xs ys : List ByteArray) (B : Nat) (w : World) (h1 : OwnS B w v xs) (h2 : OwnS B w u ys) (hn : xs.length ≤ 4096) (he : xs = ys) :
    Calls Tryd.prog 24 #[v, u] w fun e w' => e = .returned (.bool true) ∧ ∃ q, w' = w.drewN q := by
  subst he
  by_cases h0 : xs = []
  · have e1 := h1.nil.2 h0
    have e2 := h2.nil.2 h0
    subst e1 e2
    have hq := fun w => Lib.run_eql_slice_nil (P := Tryd.prog) w 27 9 none 0 0 0 0 Tryd.underlying27
    clear h1 h2
    go_enter Tryd.func24, Tryd.ntmps24
    go_wp2
    go_rounds 1
    go_ret
    exact ⟨rfl, 0, rfl⟩
  · have hp : 0 < xs.length := List.length_pos_iff.2 h0
    rcases h1.row.2 with ⟨_, h⟩ | ⟨g, cap, cur, rfl, -, -, -, -, -, -⟩
    · omega
    rcases h2.row.2 with ⟨_, h⟩ | ⟨g', cap', cur', rfl, -, -, -, -, -, -⟩
    · omega
    have A1 := hide h1
    have A2 := hide h2
    clear h1 h2 h0
    have hq1 := fun w => Lib.run_eql_slice_nil (P := Tryd.prog) w 27 9 (some ⟨g, 0, none⟩) xs.length cap 0 0 Tryd.underlying27
    have hq2 := fun w => Lib.run_eql_slice_nil (P := Tryd.prog) w 27 9 (some ⟨g', 0, none⟩) xs.length cap' 0 0 Tryd.underlying27
    go_enter Tryd.func24, Tryd.ntmps24
    go_wp2
    clear hq1 hq2
    go_loopw [5] (fun i wr => ∃ (k q : Nat), i = .int .i64 k ∧ k ≤ xs.length ∧ wr = w.drewN q) (fun i _ => xs.length - (intOf i).toNat)
    case atStart => exact ⟨0, 0, rfl, Nat.zero_le _, rfl⟩
    case round =>
      obtain ⟨k, q, rfl, hk, rfl⟩ := hrel
      by_cases hlt : k < xs.length
      · have c1 : (w.drewN q).cell? ⟨g, k, none⟩ = some (.string xs[k]) := A1.out.cells hlt
        have c2 : (w.drewN q).cell? ⟨g', k, none⟩ = some (.string xs[k]) := A2.out.cells hlt
        generalize xs[k] = x at *
        generalize hwq : w.drewN q = wq at *
        have HWQ := hide hwq
        clear hwq
        go_wp2
        go_quiet (fail)
        go_wp2
        go_roundw
        case rel => exact ⟨k + 1, q + nq, by go_num, by omega, by rw [← HWQ.out, World.drewN_drewN]⟩
        case measure => simp [intOf]; omega
      · go_wp2
        go_ret
        exact ⟨rfl, q, rfl⟩
end Go.Proofs.Qxb6602136aDoor
