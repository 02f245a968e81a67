import Derived.Test.Qxb6602089aWalkE
import Derived.Test.Qxb6602089aWalkG
namespace Go.Proofs.Qxb6602089a
open Go.ChangeShapes Go.WideShapes Go.ChangeAt Go.RowKit

theorem definitionW (nm fx : ByteArray) (v : Value) (w : World) (hv : v = .slice none 0 0 ∨ ∃ g n, v = .slice (some ⟨g, 0, none⟩) n n ∧ n ≤ 4096 ∧ TkBlk w g 33 n n) :
    Calls Try.prog 11 #[.string nm, .string fx, v] w fun e w' => (∃ x y z, e = .returned (.agg #[.string nm, .string fx, .slice x y z])) ∧ Below w.heap.size w w' := by
  rcases hv with rfl | ⟨g, n, rfl, hn, ht⟩
  · exact definition0 nm fx w
  · exact definition1 nm fx g n w hn ht

theorem TkBlk.later {w w' : World} {g : Nat} {e : TypeId} {n k : Nat} (h : TkBlk w g e n k) (hb : Below w.heap.size w w') : TkBlk w' g e n k := h.kept (hb.block g h.lt)

theorem StrsAt.drewN {w : World} {a : Option Addr} {ss : List ByteArray} {n : Nat} (h : StrsAt w a ss) : StrsAt (w.drewN n) a ss := h.later (below_drewN (Below.refl _ _) _)

/-- The decision's task as it lies in memory. -/
def TaskAt (w : World) (g : Nat) (rn : ByteArray) (v : Value) : Prop :=
  w.heap[g]? = some (.cells #[.string ⟨#[]⟩, .string ⟨#[112, 101, 114, 115, 111, 110]⟩, .string ⟨#[100, 101, 99, 105, 115, 105, 111, 110]⟩, .string ⟨#[]⟩, .string ⟨#[]⟩, .slice none 0 0, .string rn, .string ⟨#[]⟩, v, .string ⟨#[]⟩, .pointer none, .pointer none] 45 (0, 0))

set_option maxHeartbeats 2000000 in
set_option maxRecDepth 100000 in
theorem decisionLaw (nm fx rn : ByteArray) (a : Option Addr) (c : Nat) (ts : List Tk) (a' : Option Addr) (c' : Nat) (ss : List ByteArray) (w : World) (ht : TasksAt w a ts) (hs : StrsAt w a' ss) (ht0 : a = none → ts = [] ∧ c = 0) (hs0 : a' = none → ss = [] ∧ c' = 0)
    (h1 : nm.size ≤ maxLen) (h2 : fx.size ≤ maxLen) (h3 : rn.size ≤ maxLen) (hn : ts.length ≤ maxLen) (hm : ss.length ≤ maxLen) :
    Calls Try.prog 5 #[.string nm, .string fx, .slice a ts.length c, .string rn, .slice a' ss.length c'] w fun e w' => e = .returned (.bool true) ∧ Below w.heap.size w w' := by
  have HT := hide ht
  have HS := hide hs
  have HT0 := hide ht0
  have HS0 := hide hs0
  clear ht hs ht0 hs0
  obtain ⟨keep, hkp⟩ : ∃ keep, fx.toList.isEmpty = !keep := ⟨!fx.toList.isEmpty, by simp⟩
  have HKP := hide hkp
  go_enter Try.func5, Try.ntmps5
  go_wp2_with fail
  refine (zzBytesW nm fx rn a c ts a' c' ss w HT.out HS.out h1 h2 h3 hn hm).mono ?_
  rintro e w' ⟨⟨b, rfl, hfit⟩, rfl⟩
  cases b
  · go_wp2
    go_ret
    exact ⟨rfl, Below.refl _ _⟩
  obtain ⟨hsm, hsl⟩ := hfit rfl
  have HSM := hide hsm
  have HSL := hide hsl
  clear hfit hsm hsl
  go_wp2_with fail
  refine (defBytesW nm fx a c ts w HT.out hn).mono ?_
  rintro e w' ⟨⟨z1, rfl⟩, rfl⟩
  go_wp2_with fail
  refine (addW z1 rn.size w).mono ?_
  rintro e w' ⟨⟨z2, rfl⟩, rfl⟩
  go_wp2_with fail
  refine (strsBytesW z2 a' c' ss w HS.out hm).mono ?_
  rintro e w' ⟨⟨z3, rfl⟩, rfl⟩
  by_cases hz3 : 1048576 < z3
  · go_wp2
    go_ret
    exact ⟨rfl, Below.refl _ _⟩
  by_cases hl1 : 4096 < ts.length
  · have hl1' : (4096 : Int) < (ts.length : Int) := by omega
    go_wp2
    go_ret
    exact ⟨rfl, Below.refl _ _⟩
  by_cases hl2 : 4096 < ss.length
  · have hl2' : (4096 : Int) < (ss.length : Int) := by omega
    have hl1' : ¬ (4096 : Int) < (ts.length : Int) := by omega
    go_wp2
    go_ret
    exact ⟨rfl, Below.refl _ _⟩
  have hl1' : ¬ (4096 : Int) < (ts.length : Int) := by omega
  have hl2' : ¬ (4096 : Int) < (ss.length : Int) := by omega
  go_wp2_with fail
  refine (cloneTasksW a c ts w HT.out HT0.out (by omega) HSM.out).mono ?_
  rintro e w1 ⟨hv1, B1⟩
  obtain ⟨v1, rfl, hw1⟩ : ∃ v1, e = .returned v1 ∧ (v1 = .slice none 0 0 ∨ ∃ g n, v1 = .slice (some ⟨g, 0, none⟩) n n ∧ n ≤ 4096 ∧ TkBlk w1 g 33 n n) := by
    rcases hv1 with rfl | ⟨g, n, rfl, r⟩
    · exact ⟨_, rfl, .inl rfl⟩
    · exact ⟨_, rfl, .inr ⟨g, n, rfl, r⟩⟩
  have HV1 := hide hw1
  have HB1 := hide B1
  clear hv1 hw1 B1
  go_wp2_with fail
  refine (cloneStrsW a' c' ss w1 (StrsAt.later HS.out HB1.out) HS0.out HSL.out).mono ?_
  rintro e w2 ⟨a2, c2, rfl, hs2, -, B2⟩
  have HV2 : Hid (v1 = .slice none 0 0 ∨ ∃ g n, v1 = .slice (some ⟨g, 0, none⟩) n n ∧ n ≤ 4096 ∧ TkBlk w2 g 33 n n) := by
    rcases HV1.out with h | ⟨g, n, h, hn, hk⟩
    · exact .inl h
    · exact .inr ⟨g, n, h, hn, hk.later B2⟩
  have HS2 := hide hs2
  have HB2 := hide (HB1.out.trans (B2.mono HB1.out.size))
  clear hs2 B2 HV1
  go_wp2_with fail
  refine (definitionW nm fx v1 w2 HV2.out).mono ?_
  rintro e w3 ⟨⟨x, y, z, rfl⟩, B3⟩
  have HS3 := hide (StrsAt.later HS2.out B3)
  have HB3 := hide (HB2.out.trans (B3.mono HB2.out.size))
  clear B3 HS2
  go_wp2_with fail
  have al := (Below.refl w3.heap.size w3).alloc (Nat.le_refl _) (Obj.cells #[Value.string nm, Value.string fx, Value.slice x y z] 28)
  have HS4 := hide (StrsAt.later HS3.out al)
  have HB4 := hide (HB3.out.trans (al.mono HB3.out.size))
  clear al HS3
  generalize w3.alloc (Obj.cells #[Value.string nm, Value.string fx, Value.slice x y z] 28) = w4 at *
  refine (zzDecisionW nm fx rn x y z a2 c2 ss w4 HS4.out (by omega) keep HKP.out).mono ?_
  rintro e w5 ⟨g, v, rfl, ⟨B, hch⟩, hta, B5⟩
  have HS5 := hide (StrsAt.later HS4.out B5)
  have HB5 := hide (HB4.out.trans (B5.mono HB4.out.size))
  have t0 : w5.cell? ⟨g, 0, none⟩ = some (.string ⟨#[]⟩) := by rw [cell_of_row w5 _ _ _ _ _ hta]; rfl
  have t1 : w5.cell? ⟨g, 1, none⟩ = some (.string ⟨#[112, 101, 114, 115, 111, 110]⟩) := by rw [cell_of_row w5 _ _ _ _ _ hta]; rfl
  have t2 : w5.cell? ⟨g, 2, none⟩ = some (.string ⟨#[100, 101, 99, 105, 115, 105, 111, 110]⟩) := by rw [cell_of_row w5 _ _ _ _ _ hta]; rfl
  have t3 : w5.cell? ⟨g, 3, none⟩ = some (.string ⟨#[]⟩) := by rw [cell_of_row w5 _ _ _ _ _ hta]; rfl
  have t4 : w5.cell? ⟨g, 4, none⟩ = some (.string ⟨#[]⟩) := by rw [cell_of_row w5 _ _ _ _ _ hta]; rfl
  have t5 : w5.cell? ⟨g, 5, none⟩ = some (.slice none 0 0) := by rw [cell_of_row w5 _ _ _ _ _ hta]; rfl
  have t6 : w5.cell? ⟨g, 6, none⟩ = some (.string rn) := by rw [cell_of_row w5 _ _ _ _ _ hta]; rfl
  have t7 : w5.cell? ⟨g, 7, none⟩ = some (.string ⟨#[]⟩) := by rw [cell_of_row w5 _ _ _ _ _ hta]; rfl
  have t8 : w5.cell? ⟨g, 8, none⟩ = some v := by rw [cell_of_row w5 _ _ _ _ _ hta]; rfl
  have t9 : w5.cell? ⟨g, 9, none⟩ = some (.string ⟨#[]⟩) := by rw [cell_of_row w5 _ _ _ _ _ hta]; rfl
  have t10 : w5.cell? ⟨g, 10, none⟩ = some (.pointer none) := by rw [cell_of_row w5 _ _ _ _ _ hta]; rfl
  have t11 : w5.cell? ⟨g, 11, none⟩ = some (.pointer none) := by rw [cell_of_row w5 _ _ _ _ _ hta]; rfl
  have hq1 := fun w => run_neq_slice_nil_any (P := Try.prog) w 30 9 none 0 0 0 0 Try.underlying30
  have HCH := hide hch
  clear hta B5 hch HS4
  go_wp2_with fail
  refine (keptCountW a2 c2 ss w5 HS5.out (by omega) keep).mono ?_
  rintro e w' ⟨rfl, rfl⟩
  obtain ⟨hown, hiff⟩ := HCH.out
  have hkl : (kept keep ss).length ≤ 4096 := by have := kept_le keep ss ss.length; rw [List.take_length] at this; omega
  by_cases hk0 : kept keep ss = []
  · have hv : v = .slice none 0 0 := hiff.2 hk0
    subst hv
    have hq2 := fun w => Lib.run_eql_slice_nil (P := Try.prog) w 30 9 none 0 0 0 0 Try.underlying30
    rw [hk0]
    clear hown hiff HCH hkl
    go_wp2
    go_rounds 1
    go_ret
    exact ⟨rfl, HB5.out⟩
  · have hpos : 0 < (kept keep ss).length := List.length_pos_iff.2 hk0
    have hr : ∃ gg cap, v = .slice (some ⟨gg, 0, none⟩) (kept keep ss).length cap ∧ ∀ j (h : j < (kept keep ss).length), w5.cell? ⟨gg, j, none⟩ = some (.string (kept keep ss)[j]) := by
      rcases hown.2 with ⟨e, _⟩ | ⟨gg, cap, cur, e, _⟩
      · exact absurd (hiff.1 e) hk0
      · refine ⟨gg, cap, e, fun j hj => ?_⟩
        have := hown.cells (g := gg) (by rw [e]; rfl) j (.string (kept keep ss)[j]) (by simp [hj])
        rwa [Addr.add_lit, Nat.zero_add] at this
    obtain ⟨gg, cap, rfl, hcells⟩ := hr
    have PK : ∀ j, j < (kept keep ss).length → ∃ r, w5.cell? ⟨gg, j, none⟩ = some (.string r) ∧ ∀ w, StrsAt w a2 ss → Calls Try.prog 21 #[.slice a2 ss.length c2, .int .i64 j, .bool keep] w fun e w' => e = .returned (.string r) ∧ w' = w := fun j hj =>
      ⟨(kept keep ss)[j], hcells j hj, fun w hs => (nthKeptW a2 c2 ss w hs (by omega) keep j hj).mono fun e w' ⟨h1, h2⟩ => ⟨h1, h2.symm⟩⟩
    have HPK := hide PK
    have hne : (((kept keep ss).length : Int) == 0) = false := beq_eq_false_iff_ne.2 (by omega)
    have hq2 := fun w n => Lib.run_eql_slice_nil (P := Try.prog) w 30 9 (some ⟨gg, 0, none⟩) n cap 0 0 Try.underlying30
    clear hcells hown hiff HCH hk0 PK
    generalize (kept keep ss).length = m at *
    go_wp2
    go_loopw [16] (fun i wr => ∃ (k q : Nat), i = .int .i64 k ∧ k ≤ m ∧ wr = w5.drewN q) (fun i _ => m - (intOf i).toNat)
    case atStart => exact ⟨0, 0, rfl, Nat.zero_le _, rfl⟩
    case round =>
      obtain ⟨k, q, rfl, hk, rfl⟩ := hrel
      by_cases hlt : k < m
      · obtain ⟨r, hce, hnt⟩ := HPK.out k hlt
        have HNT := hide hnt
        have hce' : (w5.drewN q).cell? ⟨gg, k, none⟩ = some (.string r) := hce
        have t8' : (w5.drewN q).cell? ⟨g, 8, none⟩ = some (.slice (some ⟨gg, 0, none⟩) m cap) := t8
        have HS6 := hide (StrsAt.drewN (n := q) HS5.out)
        clear hnt hce t0 t1 t2 t3 t4 t5 t6 t7 t8 t9 t10 t11
        generalize hwq : w5.drewN q = wq at *
        have HWQ := hide hwq
        clear hwq
        go_wp2
        go_quiet ((go_at_call 21; exact Calls.quiet_of_same (HNT.out _ (StrsAt.drewN HS6.out))))
        go_wp2
        go_roundw
        case rel => exact ⟨k + 1, q + nq, by go_num, by omega, by rw [← HWQ.out, World.drewN_drewN]⟩
        case measure => simp [intOf]; omega
      · go_wp2
        go_ret
        exact ⟨rfl, below_drewN HB5.out q⟩
end Go.Proofs.Qxb6602089a
