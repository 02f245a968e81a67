import Derived.Test.Qxb6602136aDoorWalkC
namespace Go.Proofs.Qxb6602136aDoor
open Go.ChangeShapes Go.WideShapes Go.ChangeAt Go.RowKit Go.Sort

def snaps (ss : List ByteArray) : List Int := ss.filterMap snapB
def segB' (s : ByteArray) : Option Int := if (snapB s).isSome then none else segB s
def segs (ss : List ByteArray) : List Int := ss.filterMap segB'

theorem fm_snoc (f : ByteArray → Option Int) (ss : List ByteArray) (k : Nat) (hk : k < ss.length) : (ss.take (k + 1)).filterMap f = (ss.take k).filterMap f ++ (f ss[k]).toList := by
  rw [List.take_succ_eq_append_getElem hk, List.filterMap_append]
  cases h : f ss[k] <;> simp [h]
theorem fm_le (f : ByteArray → Option Int) (ss : List ByteArray) (k : Nat) : ((ss.take k).filterMap f).length ≤ k := by
  have := List.length_filterMap_le f (ss.take k)
  rw [List.length_take] at this
  omega
theorem Tryd.info2 : (Tryd.prog.info? 2).map (fun i => (i.zero, i.size, i.bytes)) = some (some (.int .i64 0), 1, 8) := by kernel_rfl

set_option maxHeartbeats 1000000 in
theorem logFilesW (a : Option Addr) (c : Nat) (ss : List ByteArray) (w : World) (hv : Vars w) (hs : StrsAt w a ss) (hn : ss.length ≤ 4096) (hsz : ∀ j (h : j < ss.length), ss[j].size ≤ 1048576) :
    Calls Tryd.prog 28 #[.slice a ss.length c] w fun e w' => ∃ v u, e = .returned (.tuple #[v, u]) ∧ Two w.heap.size w' v u (srt (snaps ss)) (srt (segs ss)) ∧ Below w.heap.size w w' := by
  obtain ⟨info, hinf, hz0, hz1, hz2⟩ := info_parts Tryd.info2
  have HS := hide hs
  have HV := hide hv
  have HZ := hide hsz
  clear hs hv hsz
  go_enter Tryd.func28, Tryd.ntmps28
  go_wp2
  go_loopw [2, 3, 12] (fun v u i wr => ∃ (k : Nat), i = .int .i64 k ∧ k ≤ ss.length ∧ Hid (Two w.heap.size wr v u (snaps (ss.take k)) (segs (ss.take k))) ∧ Hid (Below w.heap.size w wr)) (fun _ _ i _ => ss.length - (intOf i).toNat)
  case atStart => exact ⟨0, rfl, Nat.zero_le _, ⟨Own.start _ _, Own.start _ _, fun g h => by cases h⟩, Below.refl _ _⟩
  case round =>
    obtain ⟨k, rfl, hk, HT, HB⟩ := hrel
    by_cases hlt : k < ss.length
    · obtain ⟨b, off, rfl, g1⟩ := StrsAt.at HS.out hlt
      replace g1 := cell_later HB.out g1
      have hle := HB.out.size
      have n1 := fm_le snapB ss k
      have n2 := fm_le segB' ss k
      have e1 := hide (fm_snoc snapB ss k hlt)
      have e2 := hide (fm_snoc segB' ss k hlt)
      have C1 := hide (snapW ss[k] wr (HV.out.later HB.out) (HZ.out k hlt))
      cases hb1 : snapB ss[k] with
      | some x =>
        have hq1 : Hid (snaps (ss.take (k + 1)) = snaps (ss.take k) ++ [x]) := by have := e1.out; rw [hb1] at this; exact this
        have hq2 : Hid (segs (ss.take (k + 1)) = segs (ss.take k)) := by
          have := e2.out
          rw [show segB' ss[k] = none by unfold segB'; rw [hb1]; rfl, Option.toList_none, List.append_nil] at this
          exact this
        rw [hb1] at C1
        clear e1 e2 hb1
        generalize hX : snaps (ss.take k) = X at *
        generalize hY : segs (ss.take k) = Y at *
        have hX1 : X.length ≤ k := by rw [← hX]; exact n1
        have hY1 : Y.length ≤ k := by rw [← hY]; exact n2
        clear hX hY n1 n2
        go_wp2_with fail
        refine C1.out.mono ?_
        rintro e w1 ⟨rfl, hb⟩
        have HT1 := hide (HT.out.later hb)
        have HB1 := hide (HB.out.trans (hb.mono hle))
        have hle1 : w.heap.size ≤ w1.heap.size := HB1.out.size
        have hnews : Hid (∀ j u, [Value.int .i64 x][j]? = some u → (w1.alloc (Obj.cells #[Value.int .i64 x] 2)).cell? ((⟨w1.heap.size, 0, none⟩ : Addr).add j) = some u) := cell_one_new _ _ _
        clear hb C1 HT HB hle
        go_wp2_with (at_builtin; refine wpList_append_own_at _ rfl _ _ 30 rfl w.heap.size 2 info _ 1 8 Tryd.underlying30 hinf hz0 hz1 hz2 rfl (by omega) u2 X.length (X.map (Value.int .i64)) rfl (HT1.out.a.row.alloc _) ⟨w1.heap.size, 0, none⟩ 1 1 [.int .i64 x] rfl rfl hnews.out (by simp [Value.oneCell']) (by unfold maxLen; omega) (by omega) (by simp; omega) ?_; intro v' w' ho' hg' hi' hat')
        exact ⟨⟨k + 1, by go_num, by omega, by rw [hq1.out, hq2.out]; exact HT1.out.app ho' hg' hi' hat', below_app HB1.out HT1.out.a hle1 hg'⟩, by simp [intOf]; omega⟩
      | none =>
        have hq1 : Hid (snaps (ss.take (k + 1)) = snaps (ss.take k)) := by have := e1.out; rw [hb1, Option.toList_none, List.append_nil] at this; exact this
        have hsg : segB' ss[k] = segB ss[k] := by unfold segB'; rw [hb1]; rfl
        rw [hb1] at C1
        rw [hsg] at e2
        have C2 := hide (fun w1 (h : Vars w1) => segW ss[k] w1 h (HZ.out k hlt))
        clear hsg hb1 e1
        cases hb2 : segB ss[k] with
        | some x =>
          have hq2 : Hid (segs (ss.take (k + 1)) = segs (ss.take k) ++ [x]) := by have := e2.out; rw [hb2] at this; exact this
          rw [hb2] at C2
          clear e2 hb2
          generalize hX : snaps (ss.take k) = X at *
          generalize hY : segs (ss.take k) = Y at *
          have hX1 : X.length ≤ k := by rw [← hX]; exact n1
          have hY1 : Y.length ≤ k := by rw [← hY]; exact n2
          clear hX hY n1 n2
          go_wp2_with fail
          refine C1.out.mono ?_
          rintro e w1 ⟨rfl, hb⟩
          have HT1 := hide (HT.out.later hb)
          have HB1 := hide (HB.out.trans (hb.mono hle))
          have hle1 : w.heap.size ≤ w1.heap.size := HB1.out.size
          clear hb C1 HT HB hle
          go_wp2_with fail
          refine (C2.out w1 (HV.out.later HB1.out)).mono ?_
          rintro e w2 ⟨rfl, hb⟩
          have HT2 := hide (HT1.out.later hb)
          have HB2 := hide (HB1.out.trans (hb.mono hle1))
          have hle2 : w.heap.size ≤ w2.heap.size := HB2.out.size
          have hnews : Hid (∀ j u, [Value.int .i64 x][j]? = some u → (w2.alloc (Obj.cells #[Value.int .i64 x] 2)).cell? ((⟨w2.heap.size, 0, none⟩ : Addr).add j) = some u) := cell_one_new _ _ _
          clear hb C2 HT1 HB1 hle1
          go_wp2_with (at_builtin; refine wpList_append_own_at _ rfl _ _ 30 rfl w.heap.size 2 info _ 1 8 Tryd.underlying30 hinf hz0 hz1 hz2 rfl (by omega) u3 Y.length (Y.map (Value.int .i64)) rfl (HT2.out.b.row.alloc _) ⟨w2.heap.size, 0, none⟩ 1 1 [.int .i64 x] rfl rfl hnews.out (by simp [Value.oneCell']) (by unfold maxLen; omega) (by omega) (by simp; omega) ?_; intro v' w' ho' hg' hi' hat')
          exact ⟨⟨k + 1, by go_num, by omega, by rw [hq1.out, hq2.out]; exact (HT2.out.swap.app ho' hg' hi' hat').swap, below_app HB2.out HT2.out.b hle2 hg'⟩, by simp [intOf]; omega⟩
        | none =>
          have hq2 : Hid (segs (ss.take (k + 1)) = segs (ss.take k)) := by have := e2.out; rw [hb2, Option.toList_none, List.append_nil] at this; exact this
          rw [hb2] at C2
          clear e2 hb2
          generalize snaps (ss.take k) = X at *
          generalize segs (ss.take k) = Y at *
          clear n1 n2
          go_wp2_with fail
          refine C1.out.mono ?_
          rintro e w1 ⟨rfl, hb⟩
          have HT1 := hide (HT.out.later hb)
          have HB1 := hide (HB.out.trans (hb.mono hle))
          have hle1 : w.heap.size ≤ w1.heap.size := HB1.out.size
          clear hb C1 HT HB hle
          go_wp2_with fail
          refine (C2.out w1 (HV.out.later HB1.out)).mono ?_
          rintro e w2 ⟨rfl, hb⟩
          have HT2 := hide (HT1.out.later hb)
          have HB2 := hide (HB1.out.trans (hb.mono hle1))
          clear hb C2 HT1 HB1 hle1
          go_wp2_with fail
          exact ⟨⟨k + 1, by go_num, by omega, by rw [hq1.out, hq2.out]; exact HT2.out, HB2.out⟩, by simp [intOf]; omega⟩
    · obtain rfl : k = ss.length := by omega
      rw [List.take_length] at HT
      obtain ⟨p1, c1, rfl⟩ := HT.out.a.form
      obtain ⟨p2, c2, rfl⟩ := HT.out.b.form
      have n1 := fm_le snapB ss ss.length
      have n2 := fm_le segB' ss ss.length
      rw [List.take_length] at n1 n2
      have n1' : (snaps ss).length ≤ 4096 := Nat.le_trans n1 hn
      have n2' : (segs ss).length ≤ 4096 := Nat.le_trans n2 hn
      clear n1 n2
      have C1 := hide (sortW _ _ _ _ HT.out.a n1')
      go_wp2_with fail
      refine C1.out.mono ?_
      rintro e w1 ⟨rfl, h1, h2⟩
      have HT1 := hide (HT.out.sort h1 h2)
      have HB1 := hide (HB.out.grown h2 HB.out.size HT.out.a.low)
      clear h1 h2 C1 HT HB
      have C2 := hide (sortW _ _ _ _ HT1.out.b n2')
      go_wp2_with fail
      refine C2.out.mono ?_
      rintro e w2 ⟨rfl, h1, h2⟩
      have HT2 := hide (HT1.out.swap.sort h1 h2).swap
      have HB2 := hide (HB1.out.grown h2 HB1.out.size HT1.out.b.low)
      clear h1 h2 C2 HT1 HB1
      go_wp2_with fail
      go_returns
      exact ⟨_, _, rfl, HT2.out, HB2.out⟩
end Go.Proofs.Qxb6602136aDoor
