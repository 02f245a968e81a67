import Derived.Test.Qxb6602136aDoorWalkJ
namespace Go.Proofs.Qxb6602136aDoor
open Go.ChangeShapes Go.WideShapes Go.ChangeAt Go.RowKit Go.Sort

theorem Own.base {B B' : Nat} {w : World} {v : Value} {xs : List Int} (h : Own B w v xs) (hb : B' ≤ B) : Own B' w v xs := by
  refine ⟨⟨h.row.1, ?_⟩, h.nil⟩
  rcases h.row.2 with h | ⟨g, cap, cur, h1, h2, h3⟩
  · exact .inl h
  · exact .inr ⟨g, cap, cur, h1, Nat.le_trans hb h2, h3⟩

theorem srt_len (xs : List Int) : (srt xs).length = xs.length := List.length_mergeSort _
theorem snaps_len (ss : List ByteArray) : (snaps ss).length ≤ ss.length := List.length_filterMap_le _ _
theorem segs_len (ss : List ByteArray) : (segs ss).length ≤ ss.length := List.length_filterMap_le _ _

set_option maxHeartbeats 1000000 in
theorem law5W (a : Option Addr) (c : Nat) (ss : List ByteArray) (w : World) (hv : Vars w) (hs : StrsAt w a ss) (h0 : a = none → ss = [] ∧ c = 0) (hn : ss.length ≤ maxLen) :
    Calls Tryd.prog 5 #[.slice a ss.length c] w fun e w' => e = .returned (.bool true) ∧ Below w.heap.size w w' := by
  have HV := hide hv
  have HS := hide hs
  have H0 := hide h0
  clear hv hs h0
  go_enter Tryd.func5, Tryd.ntmps5
  go_wp2_with fail
  refine (bytes14W a c ss w HS.out hn).mono ?_
  rintro e w' ⟨⟨b, rfl, hfit⟩, rfl⟩
  cases b
  · go_wp2_with fail
    go_ret
    exact ⟨rfl, Below.refl _ _⟩
  have HF := hide (hfit rfl)
  clear hfit
  go_wp2_with fail
  refine (tooBigW a c ss w HS.out hn HF.out).mono ?_
  rintro e w' ⟨⟨b, rfl, h4⟩, rfl⟩
  cases b
  case true =>
    go_wp2_with fail
    go_ret
    exact ⟨rfl, Below.refl _ _⟩
  have hn4 := h4 rfl
  clear h4
  go_wp2_with fail
  refine (cloneStrsW a c ss w HS.out H0.out (by omega)).mono ?_
  rintro e w1 ⟨a1, c1, rfl, hs1, hb1⟩
  have HS1 := hide hs1
  have HB1 := hide hb1
  clear hs1 hb1 HS H0
  go_wp2_with fail
  refine (zzLogFilesW a1 c1 ss w1 (HV.out.later HB1.out) HS1.out hn4 HF.out).mono ?_
  rintro e w2 ⟨v, u, rfl, ht, hb⟩
  obtain ⟨p1, k1, rfl⟩ := ht.a.form
  obtain ⟨p2, k2, rfl⟩ := ht.b.form
  have HT := hide ht
  have HS2 := hide (HS1.out.later hb)
  have HB2 := hide (HB1.out.trans (hb.mono HB1.out.size))
  have hsz := hb.size
  clear ht hb HS1 HB1
  go_wp2_with fail
  refine (modelLogFilesW a1 c1 ss w2 HS2.out hn4 (fun j h => HF.out j h h)).mono ?_
  rintro e w3 ⟨v', u', rfl, ht, hb⟩
  obtain ⟨p3, k3, rfl⟩ := ht.a.form
  obtain ⟨p4, k4, rfl⟩ := ht.b.form
  have HA := hide (HT.out.a.later hb)
  have HA2 := hide (HT.out.b.later hb)
  have HC := hide (ht.a.base hsz)
  have HC2 := hide (ht.b.base hsz)
  have HB3 := hide (HB2.out.trans (hb.mono HB2.out.size))
  have l1 : (srt (snaps ss)).length ≤ 4096 := by rw [srt_len]; exact Nat.le_trans (snaps_len ss) hn4
  have l2 : (srt (segs ss)).length ≤ 4096 := by rw [srt_len]; exact Nat.le_trans (segs_len ss) hn4
  clear ht hb HT HS2 HB2 HV hsz
  have E1 := hide (eq64W _ _ _ _ _ w3 HA.out HC.out l1 l1 rfl)
  have E2 := hide (fun q => eq64W _ _ _ _ _ (w3.drewN q) (HA2.out.later (below_drewN (Below.refl _ _) q)) (HC2.out.later (below_drewN (Below.refl _ _) q)) l2 l2 rfl)
  clear l1 l2
  go_wp2_with fail
  refine E1.out.mono ?_
  rintro e w4 ⟨rfl, q, rfl⟩
  go_wp2_with fail
  refine (E2.out q).mono ?_
  rintro e w4 ⟨rfl, q2, rfl⟩
  go_wp2_with fail
  go_ret
  exact ⟨rfl, below_drewN HB3.out _⟩
end Go.Proofs.Qxb6602136aDoor
