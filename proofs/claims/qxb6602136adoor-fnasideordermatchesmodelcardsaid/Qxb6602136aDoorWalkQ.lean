import Derived.Test.Qxb6602136aDoorWalkN
namespace Go.Proofs.Qxb6602136aDoor
open Go.ChangeShapes Go.WideShapes Go.ChangeAt Go.RowKit Go.Sort

theorem zzAsideW (a : Option Addr) (c : Nat) (ss : List ByteArray) (w : World) (hv : Vars w) (hs : StrsAt w a ss) (hn : ss.length ≤ 4096) (hf : Fit ss ss.length) :
    Calls Tryd.prog 21 #[.slice a ss.length c] w fun e w' => ∃ v, e = .returned v ∧ OwnS w.heap.size w' v (asideL ss) ∧ Below w.heap.size w w' := by
  have HC := hide (asideW a c ss w hv hs hn (fun j h => hf j h h))
  clear hv hs hf
  go_enter Tryd.func21, Tryd.ntmps21
  go_wp2_with fail
  refine HC.out.mono ?_
  rintro e w1 ⟨v, rfl, h1, h2⟩
  obtain ⟨p1, c1, rfl⟩ := h1.form
  have H1 := hide h1
  have H2 := hide h2
  clear h1 h2 HC
  go_wp2_with fail
  go_ret
  exact ⟨_, rfl, H1.out, H2.out⟩

theorem aside_fit (ss : List ByteArray) : Fit (asideL ss) (asideL ss).length := fun j h _ => Nat.le_trans (aside_size ss _ (List.getElem_mem h)) (by decide)

set_option maxHeartbeats 1000000 in
theorem law6W (a : Option Addr) (c : Nat) (ss : List ByteArray) (w : World) (hv : Vars w) (hs : StrsAt w a ss) (h0 : a = none → ss = [] ∧ c = 0) (hn : ss.length ≤ maxLen) :
    Calls Tryd.prog 6 #[.slice a ss.length c] w fun e w' => e = .returned (.bool true) ∧ Below w.heap.size w w' := by
  have HV := hide hv
  have HS := hide hs
  have H0 := hide h0
  clear hv hs h0
  go_enter Tryd.func6, Tryd.ntmps6
  go_wp2_with fail
  refine (bytes20W a c ss w HS.out hn).mono ?_
  rintro e w' ⟨⟨b, rfl, hfit⟩, rfl⟩
  cases b
  · go_wp2_with fail
    go_ret
    exact ⟨rfl, Below.refl _ _⟩
  have HF := hide (hfit rfl)
  clear hfit
  go_wp2_with fail
  refine (tooBigW a c ss w HS.out hn HF.out).mono ?_
  rintro e w' ⟨⟨b, rfl, h4⟩, rfl⟩
  cases b
  case true =>
    go_wp2_with fail
    go_ret
    exact ⟨rfl, Below.refl _ _⟩
  have hn4 := h4 rfl
  clear h4
  go_wp2_with fail
  refine (cloneStrsW a c ss w HS.out H0.out (by omega)).mono ?_
  rintro e w1 ⟨a1, c1, rfl, hs1, hb1⟩
  have HS1 := hide hs1
  have HB1 := hide hb1
  clear hs1 hb1 HS H0
  go_wp2_with fail
  refine (zzLogFilesW a1 c1 ss w1 (HV.out.later HB1.out) HS1.out hn4 HF.out).mono ?_
  rintro e w2 ⟨v, u, rfl, ht, hb⟩
  obtain ⟨p1, k1, rfl⟩ := ht.a.form
  obtain ⟨p2, k2, rfl⟩ := ht.b.form
  have HT := hide ht
  have HS2 := hide (HS1.out.later hb)
  have HB2 := hide (HB1.out.trans (hb.mono HB1.out.size))
  have hsz := hb.size
  clear ht hb HS1 HB1
  go_wp2_with fail
  refine (zzAsideW a1 c1 ss w2 (HV.out.later HB2.out) HS2.out hn4 HF.out).mono ?_
  rintro e w3 ⟨v, rfl, ho, hb⟩
  obtain ⟨p3, k3, rfl⟩ := ho.form
  have HO := hide ho.strs
  have HA := hide (HT.out.later hb)
  have HB3 := hide (HB2.out.trans (hb.mono HB2.out.size))
  have hsz3 := Nat.le_trans hsz hb.size
  clear ho hb HT HS2 HB2 hsz
  have hl3 : (asideL ss).length ≤ 4096 := Nat.le_trans (aside_len ss) hn4
  have e1 := srt_snaps_aside ss
  have e2 := srt_segs_aside ss
  have C3 := hide (zzLogFilesW p3 k3 (asideL ss) w3 (HV.out.later HB3.out) HO.out hl3 (aside_fit ss))
  rw [e1, e2] at C3
  clear e1 e2 HO
  generalize (asideL ss).length = al at *
  go_wp2_with fail
  refine C3.out.mono ?_
  rintro e w4 ⟨v', u', rfl, ht, hb⟩
  obtain ⟨p4, k4, rfl⟩ := ht.a.form
  obtain ⟨p5, k5, rfl⟩ := ht.b.form
  have HA1 := hide (HA.out.a.later hb)
  have HA2 := hide (HA.out.b.later hb)
  have HC1 := hide (ht.a.base hsz3)
  have HC2 := hide (ht.b.base hsz3)
  have HB4 := hide (HB3.out.trans (hb.mono HB3.out.size))
  have l1 : (srt (snaps ss)).length ≤ 4096 := by rw [srt_len]; exact Nat.le_trans (snaps_len ss) hn4
  have l2 : (srt (segs ss)).length ≤ 4096 := by rw [srt_len]; exact Nat.le_trans (segs_len ss) hn4
  clear ht hb HA HB3 HV C3 hsz3
  have E1 := hide (eq64W _ _ _ _ _ w4 HA1.out HC1.out l1 l1 rfl)
  have E2 := hide (fun q => eq64W _ _ _ _ _ (w4.drewN q) (HA2.out.later (below_drewN (Below.refl _ _) q)) (HC2.out.later (below_drewN (Below.refl _ _) q)) l2 l2 rfl)
  clear l1 l2
  go_wp2_with fail
  refine E1.out.mono ?_
  rintro e w5 ⟨rfl, q, rfl⟩
  go_wp2_with fail
  refine (E2.out q).mono ?_
  rintro e w5 ⟨rfl, q2, rfl⟩
  go_wp2_with fail
  go_ret
  exact ⟨rfl, below_drewN HB4.out _⟩

set_option maxHeartbeats 1000000 in
theorem law7W (a : Option Addr) (c : Nat) (ss : List ByteArray) (w : World) (hv : Vars w) (hs : StrsAt w a ss) (h0 : a = none → ss = [] ∧ c = 0) (hn : ss.length ≤ maxLen) :
    Calls Tryd.prog 7 #[.slice a ss.length c] w fun e w' => e = .returned (.bool true) ∧ Below w.heap.size w w' := by
  have HV := hide hv
  have HS := hide hs
  have H0 := hide h0
  clear hv hs h0
  go_enter Tryd.func7, Tryd.ntmps7
  go_wp2_with fail
  refine (bytes22W a c ss w HS.out hn).mono ?_
  rintro e w' ⟨⟨b, rfl, hfit⟩, rfl⟩
  cases b
  · go_wp2_with fail
    go_ret
    exact ⟨rfl, Below.refl _ _⟩
  have HF := hide (hfit rfl)
  clear hfit
  go_wp2_with fail
  refine (tooBigW a c ss w HS.out hn HF.out).mono ?_
  rintro e w' ⟨⟨b, rfl, h4⟩, rfl⟩
  cases b
  case true =>
    go_wp2_with fail
    go_ret
    exact ⟨rfl, Below.refl _ _⟩
  have hn4 := h4 rfl
  clear h4
  go_wp2_with fail
  refine (cloneStrsW a c ss w HS.out H0.out (by omega)).mono ?_
  rintro e w1 ⟨a1, c1, rfl, hs1, hb1⟩
  have HS1 := hide hs1
  have HB1 := hide hb1
  clear hs1 hb1 HS H0
  go_wp2_with fail
  refine (zzAsideW a1 c1 ss w1 (HV.out.later HB1.out) HS1.out hn4 HF.out).mono ?_
  rintro e w2 ⟨v, rfl, ho, hb⟩
  obtain ⟨p1, k1, rfl⟩ := ho.form
  have HO := hide ho
  have HS2 := hide (HS1.out.later hb)
  have HB2 := hide (HB1.out.trans (hb.mono HB1.out.size))
  have hsz := hb.size
  clear ho hb HS1 HB1
  go_wp2_with fail
  refine (modelAsideW a1 c1 ss w2 HS2.out hn4 (fun j h => HF.out j h h)).mono ?_
  rintro e w3 ⟨u, rfl, ho, hb⟩
  obtain ⟨p2, k2, rfl⟩ := ho.form
  have HA := hide (HO.out.later hb)
  have HC := hide (ho.base hsz)
  have HB3 := hide (HB2.out.trans (hb.mono HB2.out.size))
  have hl3 : (asideL ss).length ≤ 4096 := Nat.le_trans (aside_len ss) hn4
  clear ho hb HO HS2 HB2 HV hsz
  have E1 := hide (eqSW _ _ _ _ _ w3 HA.out HC.out hl3 rfl)
  generalize (asideL ss).length = al at *
  go_wp2_with fail
  refine E1.out.mono ?_
  rintro e w4 ⟨rfl, q, rfl⟩
  go_wp2_with fail
  go_ret
  exact ⟨rfl, below_drewN HB3.out _⟩
end Go.Proofs.Qxb6602136aDoor
