import Derived.Test.Qxb6602136aDoorWalkP
namespace Go.Proofs.Qxb6602136aDoor
open Go.RowKit Go.Shelf

attribute [local go_sem] Oper.semAt_some

set_option maxRecDepth 100000 in
set_option maxHeartbeats 4000000 in
theorem asideW (a : Option Addr) (c : Nat) (ss : List ByteArray) (w : World) (hv : Vars w) (hs : StrsAt w a ss) (hn : ss.length ≤ 4096) (hsz : ∀ j (h : j < ss.length), ss[j].size ≤ 1048576) :
    Calls Tryd.prog 30 #[.slice a ss.length c] w fun e w' => ∃ v, e = .returned v ∧ OwnS w.heap.size w' v (asideL ss) ∧ Below w.heap.size w w' := by
  have HL := hide (logFilesW a c ss w hv hs hn hsz)
  have HVV := hide hv
  have HSS := hide hs
  have HA : Hid (asideL ss = (srt (snaps ss)).reverse.map snapN ++ tmpL ss ++ (srt (segs ss)).map segN) := hide rfl
  have HYP := hide (segs_rng ss)
  clear hv hs
  obtain ⟨X, hX⟩ : ∃ X, srt (snaps ss) = X := ⟨_, rfl⟩
  obtain ⟨Y, hY⟩ : ∃ Y, srt (segs ss) = Y := ⟨_, rfl⟩
  have hXl : X.length ≤ 4096 := by rw [← hX, srt_len]; exact Nat.le_trans (snaps_len ss) hn
  have hYl : Y.length ≤ 4096 := by rw [← hY, srt_len]; exact Nat.le_trans (segs_len ss) hn
  have hXp : Pos X := by rw [← hX]; exact snaps_pos ss
  rw [hX, hY] at HL HA
  rw [hY] at HYP
  obtain ⟨AS, hAS⟩ : ∃ AS, asideL ss = AS := ⟨_, rfl⟩
  rw [hAS] at HA ⊢
  clear hAS
  refine (callsIn_wide (n := 6)).1 ?_
  refine callsIn_of_wp_marks Tryd.func30 rfl trivial ?_ rfl
  simp only [Tryd.ntmps30, List.size_toArray, List.length_cons, List.length_nil, Nat.reduceAdd, Nat.reduceSub, Array.replicate_succ, Array.replicate_zero, List.push_toArray, List.append_toArray, List.nil_append, List.cons_append]
  gi_wp2_with (refine ⟨trivial, ?_⟩; gi_at_call 28; refine (callsIn_wide.2 HL.out).mono ?_)
  rintro e w1 ⟨v, u, rfl, ht, hb⟩
  have hI : Ints w1.heap.size w1 v X := ht.a.ints
  have HIY := hide ht.b.ints
  obtain ⟨p1, k1, rfl⟩ := ht.a.form
  obtain ⟨p2, k2, rfl⟩ := ht.b.form
  have HT := hide ht
  have HB := hide hb
  clear ht hb HL
  gi_wp2_with (refine ⟨trivial, ?_⟩; gi_at_call 38; refine (back_in Fence.wide _ trivial rfl _ _ _ _).mono ?_; rintro e w' ⟨rfl, rfl⟩)
  have bO := Boxed.new w1 27 (.slice none 0 0)
  have bN := Boxed.new (w1.alloc (.cells #[.slice none 0 0] 27)) 30 (.slice p1 X.length k1)
  rw [World.size_alloc] at bN
  have hB0 : Below w1.heap.size w1 ((w1.alloc (.cells #[.slice none 0 0] 27)).alloc (.cells #[.slice p1 X.length k1] 30)) := ((Below.refl _ w1).alloc (Nat.le_refl _) _).alloc (by simp) _
  refine wpIn_rangeFunc_ownG rfl (by omega) (gf := 48) (lb := #[.pointer (some ⟨w1.heap.size + 1, 0, none⟩)]) rfl trivial (enters_of Tryd.func48 (by kernel_rfl) rfl)
    (back_stops Fence.wide _ trivial rfl (by omega) (w1.heap.size + 1) w1.heap.size _ X hXp hXl _ (by simp) (by simp; omega) bN.cell (hI.below hB0)) kb_t (kb_b (by simp; omega) (by simp)) (Below.refl _ _) (fun _ => rfl)
    (fun pre W => Inv w1.heap.size w1 (.slice p1 X.length k1) (pre.map fun x => snapN x.1.2) W)
    (fun _ _ _ => False)
    ?hI
    (fun _ _ _ _ _ hs _ _ => hs)
    ⟨⟨_, bO.alloc _, World.ownsRow_nil _ _ _ _, by simp⟩, hB0, bN⟩
    (fun x => { tmps := #[.slice a ss.length c, undef, .slice none 0 0, .slice p1 X.length k1, .slice p2 Y.length k2, .pointer (some ⟨w1.heap.size, 0, none⟩), undef, .int .i64 x.1.2, undef, undef, .tuple #[.slice p1 X.length k1, .slice p2 Y.length k2], .slice a ss.length c, .tuple #[.slice p1 X.length k1, .slice p2 Y.length k2], .slice p1 X.length k1, .slice p2 Y.length k2, .slice p1 X.length k1, .func (.func 48) #[] #[.pointer (some ⟨w1.heap.size + 1, 0, none⟩)], .int .i64 x.1.1, .int .i64 x.1.2, undef, undef, undef, undef, undef, undef, undef, undef, undef, undef, undef, undef, undef, undef, undef, undef, undef, undef, undef, undef, undef, undef, undef], defers := [] }) ?assign ?body ?done ?stop
  case hI => exact OwnFrom.and (Go.Own.from (holdsRow_own (w1.heap.size + 2) w1.heap.size 27 9 1 (fun pre : List P64 => (pre.map fun x => snapN x.1.2).length) (fun pre => (pre.map fun x => snapN x.1.2).map Value.string) (fun pre v => v = .slice none 0 0 ↔ (pre.map fun x => snapN x.1.2) = [])) _) (OwnFrom.and (ownFrom_below (Nat.le_refl _) (by simp; omega)) (Go.Own.from (boxed_own _ _ _) _))
  case assign =>
    intro l x W K hK
    gi_wp2
    exact hK
  case body =>
    rintro l pre x W ⟨⟨v, hv, hrow, hnil⟩, hB, hbs⟩ hlt
    have HC := hide (snapFileW x.1.2 x.2.1 x.2.2)
    have HVW := hide ((HVV.out.later HB.out).later hB)
    have hc := hv.cell
    have hlt' : (pre.map fun x => snapN x.1.2).length ≤ 9000 := by rw [List.length_map]; omega
    have hmx : Tryd.prog.follows .mixedOrders = true := by kernel_rfl
    gi_wp2
    refine wpIn_region_any hmx ?_
    change wpAnyIn _ _ _ _ _ _ _ _ _ (World.drew _)
    refine wpAnyIn_ready (rs := [0, 1]) (by kernel_rfl) (by simp) (AllReadyIn.cons rfl (fun K hK => ?_) (AllReadyIn.cons rfl (fun K hK => ?_) AllReadyIn.nil))
    · go_simp
      refine hK _ _ ?_
      clear hK K
      refine wpAnyIn_ready (rs := [1]) (by kernel_rfl) (by simp) (AllReadyIn.cons rfl (fun K hK => ?_) AllReadyIn.nil)
      go_simp
      refine hK _ _ ?_
      clear hK K
      refine wpAnyIn_ready (rs := [2]) (by kernel_rfl) (by simp) (AllReadyIn.cons rfl (fun K hK => ?_) AllReadyIn.nil)
      go_simp
      refine ⟨trivial, (CallsIn.inRound l (callsIn_wide.2 (HC.out _ (HVW.out.later (below_drewN (Below.refl _ _) 1))))).mono ?_⟩
      rintro e w2 ⟨rfl, hb2⟩
      refine hK _ _ ?_
      clear hK K
      have hc2 := cell_later hb2 hc
      have hc4 := cell_later ((Below.refl _ _).alloc (Nat.le_refl _) (Obj.cells #[Value.string (snapN x.1.2)] 9)) hc2
      refine wpAnyIn_ready (rs := [3]) (by kernel_rfl) (by simp) (AllReadyIn.cons rfl (fun K hK => ?_) AllReadyIn.nil)
      go_simp
      refine hK _ _ ?_
      clear hK K
      obtain ⟨v', w3, hrun, how, hg, hi, hat⟩ := appW hbs hlt' hrow hb2 (snapN x.1.2)
      obtain ⟨g', cap', rfl⟩ := ownsRow_succ how
      have hcb := boxW hv hb2 hrow hg
      have hc3 := hcb.cell
      have hf3 := hcb.frozen
      refine wpAnyIn_ready (rs := [4]) (by kernel_rfl) (by simp) (AllReadyIn.cons rfl (fun K hK => ?_) AllReadyIn.nil)
      refine stepIn_append rfl (.tmp 19) (.tmp 22) 27 rfl v _ _ rfl rfl hrun (hK _ _ ?_)
      clear hK K
      refine wpAnyIn_ready (rs := [5]) (by kernel_rfl) (by simp) (AllReadyIn.cons rfl (fun K hK => ?_) AllReadyIn.nil)
      go_simp
      refine hK _ _ ?_
      clear hK K
      refine wpAnyIn_done (by kernel_rfl) ?_ _
      exact ⟨(keepW hb2 hrow hg).from _, ⟨bodyB hbs hb2 hrow hg, ((otherW hbs hb2 hrow hg).kept (grownBy_setCell' w3 _ _) (fun e => by injection e with e; omega)).trans hbs.symm⟩, by have hbi := bodyI hv hbs hB hb2 hrow hg how hi; rw [List.length_map] at hbi; show Inv _ _ _ _ _; rw [List.map_append]; exact hbi⟩
    · go_simp
      refine hK _ _ ?_
      clear hK K
      refine wpAnyIn_ready (rs := [0, 2]) (by kernel_rfl) (by simp) (AllReadyIn.cons rfl (fun K hK => ?_) (AllReadyIn.cons rfl (fun K hK => ?_) AllReadyIn.nil))
      · go_simp
        refine hK _ _ ?_
        clear hK K
        refine wpAnyIn_ready (rs := [2]) (by kernel_rfl) (by simp) (AllReadyIn.cons rfl (fun K hK => ?_) AllReadyIn.nil)
        go_simp
        refine ⟨trivial, (CallsIn.inRound l (callsIn_wide.2 (HC.out _ (HVW.out.later (below_drewN (Below.refl _ _) 1))))).mono ?_⟩
        rintro e w2 ⟨rfl, hb2⟩
        refine hK _ _ ?_
        clear hK K
        have hc2 := cell_later hb2 hc
        have hc4 := cell_later ((Below.refl _ _).alloc (Nat.le_refl _) (Obj.cells #[Value.string (snapN x.1.2)] 9)) hc2
        refine wpAnyIn_ready (rs := [3]) (by kernel_rfl) (by simp) (AllReadyIn.cons rfl (fun K hK => ?_) AllReadyIn.nil)
        go_simp
        refine hK _ _ ?_
        clear hK K
        obtain ⟨v', w3, hrun, how, hg, hi, hat⟩ := appW hbs hlt' hrow hb2 (snapN x.1.2)
        obtain ⟨g', cap', rfl⟩ := ownsRow_succ how
        have hcb := boxW hv hb2 hrow hg
        have hc3 := hcb.cell
        have hf3 := hcb.frozen
        refine wpAnyIn_ready (rs := [4]) (by kernel_rfl) (by simp) (AllReadyIn.cons rfl (fun K hK => ?_) AllReadyIn.nil)
        refine stepIn_append rfl (.tmp 19) (.tmp 22) 27 rfl v _ _ rfl rfl hrun (hK _ _ ?_)
        clear hK K
        refine wpAnyIn_ready (rs := [5]) (by kernel_rfl) (by simp) (AllReadyIn.cons rfl (fun K hK => ?_) AllReadyIn.nil)
        go_simp
        refine hK _ _ ?_
        clear hK K
        refine wpAnyIn_done (by kernel_rfl) ?_ _
        exact ⟨(keepW hb2 hrow hg).from _, ⟨bodyB hbs hb2 hrow hg, ((otherW hbs hb2 hrow hg).kept (grownBy_setCell' w3 _ _) (fun e => by injection e with e; omega)).trans hbs.symm⟩, by have hbi := bodyI hv hbs hB hb2 hrow hg how hi; rw [List.length_map] at hbi; show Inv _ _ _ _ _; rw [List.map_append]; exact hbi⟩
      · go_simp
        refine ⟨trivial, (CallsIn.inRound l (callsIn_wide.2 (HC.out _ (HVW.out.later (below_drewN (Below.refl _ _) 1))))).mono ?_⟩
        rintro e w2 ⟨rfl, hb2⟩
        refine hK _ _ ?_
        clear hK K
        have hc2 := cell_later hb2 hc
        have hc4 := cell_later ((Below.refl _ _).alloc (Nat.le_refl _) (Obj.cells #[Value.string (snapN x.1.2)] 9)) hc2
        refine wpAnyIn_ready (rs := [0, 3]) (by kernel_rfl) (by simp) (AllReadyIn.cons rfl (fun K hK => ?_) (AllReadyIn.cons rfl (fun K hK => ?_) AllReadyIn.nil))
        · go_simp
          refine hK _ _ ?_
          clear hK K
          refine wpAnyIn_ready (rs := [3]) (by kernel_rfl) (by simp) (AllReadyIn.cons rfl (fun K hK => ?_) AllReadyIn.nil)
          go_simp
          refine hK _ _ ?_
          clear hK K
          obtain ⟨v', w3, hrun, how, hg, hi, hat⟩ := appW hbs hlt' hrow hb2 (snapN x.1.2)
          obtain ⟨g', cap', rfl⟩ := ownsRow_succ how
          have hcb := boxW hv hb2 hrow hg
          have hc3 := hcb.cell
          have hf3 := hcb.frozen
          refine wpAnyIn_ready (rs := [4]) (by kernel_rfl) (by simp) (AllReadyIn.cons rfl (fun K hK => ?_) AllReadyIn.nil)
          refine stepIn_append rfl (.tmp 19) (.tmp 22) 27 rfl v _ _ rfl rfl hrun (hK _ _ ?_)
          clear hK K
          refine wpAnyIn_ready (rs := [5]) (by kernel_rfl) (by simp) (AllReadyIn.cons rfl (fun K hK => ?_) AllReadyIn.nil)
          go_simp
          refine hK _ _ ?_
          clear hK K
          refine wpAnyIn_done (by kernel_rfl) ?_ _
          exact ⟨(keepW hb2 hrow hg).from _, ⟨bodyB hbs hb2 hrow hg, ((otherW hbs hb2 hrow hg).kept (grownBy_setCell' w3 _ _) (fun e => by injection e with e; omega)).trans hbs.symm⟩, by have hbi := bodyI hv hbs hB hb2 hrow hg how hi; rw [List.length_map] at hbi; show Inv _ _ _ _ _; rw [List.map_append]; exact hbi⟩
        · go_simp
          refine hK _ _ ?_
          clear hK K
          refine wpAnyIn_ready (rs := [0]) (by kernel_rfl) (by simp) (AllReadyIn.cons rfl (fun K hK => ?_) AllReadyIn.nil)
          go_simp
          refine hK _ _ ?_
          clear hK K
          obtain ⟨v', w3, hrun, how, hg, hi, hat⟩ := appW hbs hlt' hrow hb2 (snapN x.1.2)
          obtain ⟨g', cap', rfl⟩ := ownsRow_succ how
          have hcb := boxW hv hb2 hrow hg
          have hc3 := hcb.cell
          have hf3 := hcb.frozen
          refine wpAnyIn_ready (rs := [4]) (by kernel_rfl) (by simp) (AllReadyIn.cons rfl (fun K hK => ?_) AllReadyIn.nil)
          refine stepIn_append rfl (.tmp 19) (.tmp 22) 27 rfl v _ _ rfl rfl hrun (hK _ _ ?_)
          clear hK K
          refine wpAnyIn_ready (rs := [5]) (by kernel_rfl) (by simp) (AllReadyIn.cons rfl (fun K hK => ?_) AllReadyIn.nil)
          go_simp
          refine hK _ _ ?_
          clear hK K
          refine wpAnyIn_done (by kernel_rfl) ?_ _
          exact ⟨(keepW hb2 hrow hg).from _, ⟨bodyB hbs hb2 hrow hg, ((otherW hbs hb2 hrow hg).kept (grownBy_setCell' w3 _ _) (fun e => by injection e with e; omega)).trans hbs.symm⟩, by have hbi := bodyI hv hbs hB hb2 hrow hg how hi; rw [List.length_map] at hbi; show Inv _ _ _ _ _; rw [List.map_append]; exact hbi⟩
  case done =>
    rintro D ys W hD rfl hInv hK
    have hInv2 : Inv w1.heap.size w1 (.slice p1 X.length k1) (X.reverse.map snapN) W := by
      have e : (upto (bk X hXp) X.length).map (fun x => snapN x.1.2) = X.reverse.map snapN := by rw [← back_vals X hXp, List.map_map]; rfl
      rw [e] at hInv
      exact hInv
    clear hInv
    obtain ⟨A, hA⟩ : ∃ A, X.reverse.map snapN = A := ⟨_, rfl⟩
    rw [hA] at hInv2 HA
    have hAl : A.length ≤ 4096 := by rw [← hA]; simpa using hXl
    clear hA
    have HCN := hide (containsW a c ss ⟨#[115, 110, 97, 112, 115, 104, 111, 116, 46, 116, 109, 112]⟩ W ((HSS.out.later HB.out).later hInv2.2.1) hn)
    have hTL : tmpL ss = if Lib.containsS ss ⟨#[115, 110, 97, 112, 115, 104, 111, 116, 46, 116, 109, 112]⟩ = true then [⟨#[115, 110, 97, 112, 115, 104, 111, 116, 46, 116, 109, 112]⟩] else [] := rfl
    obtain ⟨bT, hbT⟩ : ∃ bT, Lib.containsS ss ⟨#[115, 110, 97, 112, 115, 104, 111, 116, 46, 116, 109, 112]⟩ = bT := ⟨_, rfl⟩
    rw [hbT] at HCN hTL
    clear hbT
    have HKD := hide hK
    have HIN := hide hInv2
    clear hK hInv2
    cases bT
    case false =>
      have HTL : tmpL ss = [] := hTL
      obtain ⟨L, hL⟩ : ∃ L, A ++ [] = L := ⟨_, rfl⟩
      have hL' : A = L := by rw [← hL, List.append_nil]
      rw [hL'] at HIN
      gi_wp2_with (refine ⟨trivial, ?_⟩; gi_at_call 40; refine (callsIn_wide.2 HCN.out).mono ?_; rintro e w' ⟨rfl, rfl⟩)
      have hLl : L.length ≤ 4097 := by rw [← hL]; simp; omega
      gi_loopw [31] (fun i wr => ∃ k : Nat, k ≤ Y.length ∧ i = .int .i64 k ∧ Hid (Inv w1.heap.size w1 (.slice p1 X.length k1) (L ++ (Y.take k).map segN) wr) ∧ Hid (wr.heap[D]? = some (.deferred (some [])))) (fun i _ => Y.length - (intOf i).toNat)
      case atStart => exact ⟨0, Nat.zero_le _, rfl, by rw [List.take_zero, List.map_nil, List.append_nil]; exact HIN.out, HKD.out⟩
      case round =>
        obtain ⟨k, hk, rfl, HIv, HDf⟩ := hrel
        by_cases hlt : k < Y.length
        · obtain ⟨b, rfl, hcy⟩ := Ints.at (HIY.out.below HIv.out.2.1) hlt
          have hyr := HYP.out Y[k] (List.getElem_mem hlt)
          have HSN := hide (take_snoc segN Y k hlt L)
          have hlt' := take_le segN Y k L
          have HC := hide (segFileW Y[k] hyr.1 hyr.2)
          have HVW := hide ((HVV.out.later HB.out).later HIv.out.2.1)
          obtain ⟨LL, hLL⟩ : ∃ LL, L ++ (Y.take k).map segN = LL := ⟨_, rfl⟩
          rw [hLL] at HSN hlt' HIv
          clear hLL
          replace hlt' : LL.length ≤ 9000 := by omega
          clear hyr
          obtain ⟨y, hy⟩ : ∃ y, Y[k] = y := ⟨_, rfl⟩
          rw [hy] at hcy HSN HC
          clear hy
          obtain ⟨⟨v, hv, hrow, hnil⟩, hB, hbs⟩ := HIv.out
          have hc := hv.cell
          have hmx : Tryd.prog.follows .mixedOrders = true := by kernel_rfl
          gi_wp2
          refine wpIn_region_any hmx ?_
          change wpAnyIn _ _ _ _ _ _ _ _ _ (World.drew _)
          refine wpAnyIn_ready (rs := [0, 1]) (by kernel_rfl) (by simp) (AllReadyIn.cons rfl (fun K hK => ?_) (AllReadyIn.cons rfl (fun K hK => ?_) AllReadyIn.nil))
          · go_simp
            refine hK _ _ ?_
            clear hK K
            refine wpAnyIn_ready (rs := [1]) (by kernel_rfl) (by simp) (AllReadyIn.cons rfl (fun K hK => ?_) AllReadyIn.nil)
            go_simp
            refine hK _ _ ?_
            clear hK K
            refine wpAnyIn_ready (rs := [2]) (by kernel_rfl) (by simp) (AllReadyIn.cons rfl (fun K hK => ?_) AllReadyIn.nil)
            go_simp
            refine ⟨trivial, (callsIn_wide.2 (HC.out _ (HVW.out.later (below_drewN (Below.refl _ _) 1)))).mono ?_⟩
            rintro e w2 ⟨rfl, hb2⟩
            refine hK _ _ ?_
            clear hK K
            have hc2 := cell_later hb2 hc
            have hc4 := cell_later ((Below.refl _ _).alloc (Nat.le_refl _) (Obj.cells #[Value.string (segN y)] 9)) hc2
            refine wpAnyIn_ready (rs := [3]) (by kernel_rfl) (by simp) (AllReadyIn.cons rfl (fun K hK => ?_) AllReadyIn.nil)
            go_simp
            refine hK _ _ ?_
            clear hK K
            obtain ⟨v', w3, hrun, how, hg, hi, hat⟩ := appW hbs hlt' hrow hb2 (segN y)
            obtain ⟨g', cap', rfl⟩ := ownsRow_succ how
            have hcb := boxW hv hb2 hrow hg
            have hc3 := hcb.cell
            have hf3 := hcb.frozen
            refine wpAnyIn_ready (rs := [4]) (by kernel_rfl) (by simp) (AllReadyIn.cons rfl (fun K hK => ?_) AllReadyIn.nil)
            refine stepIn_append rfl (.tmp 35) (.tmp 38) 27 rfl v _ _ rfl rfl hrun (hK _ _ ?_)
            clear hK K
            refine wpAnyIn_ready (rs := [5]) (by kernel_rfl) (by simp) (AllReadyIn.cons rfl (fun K hK => ?_) AllReadyIn.nil)
            go_simp
            refine hK _ _ ?_
            clear hK K
            refine wpAnyIn_done (by kernel_rfl) ?_ _
            have hbi := hide (bodyI hv hbs hB hb2 hrow hg how hi)
            have hKK := hide ((keepW (v' := .slice (some ⟨g', 0, none⟩) (LL.length + 1) cap') hb2 hrow hg).same D _ HDf.out rfl)
            gi_wp2
            go_roundw
            case rel => exact ⟨k + 1, by omega, by go_num, by rw [HSN.out]; exact hbi.out, hKK.out⟩
            case measure => simp [intOf]; omega
          · go_simp
            refine hK _ _ ?_
            clear hK K
            refine wpAnyIn_ready (rs := [0, 2]) (by kernel_rfl) (by simp) (AllReadyIn.cons rfl (fun K hK => ?_) (AllReadyIn.cons rfl (fun K hK => ?_) AllReadyIn.nil))
            · go_simp
              refine hK _ _ ?_
              clear hK K
              refine wpAnyIn_ready (rs := [2]) (by kernel_rfl) (by simp) (AllReadyIn.cons rfl (fun K hK => ?_) AllReadyIn.nil)
              go_simp
              refine ⟨trivial, (callsIn_wide.2 (HC.out _ (HVW.out.later (below_drewN (Below.refl _ _) 1)))).mono ?_⟩
              rintro e w2 ⟨rfl, hb2⟩
              refine hK _ _ ?_
              clear hK K
              have hc2 := cell_later hb2 hc
              have hc4 := cell_later ((Below.refl _ _).alloc (Nat.le_refl _) (Obj.cells #[Value.string (segN y)] 9)) hc2
              refine wpAnyIn_ready (rs := [3]) (by kernel_rfl) (by simp) (AllReadyIn.cons rfl (fun K hK => ?_) AllReadyIn.nil)
              go_simp
              refine hK _ _ ?_
              clear hK K
              obtain ⟨v', w3, hrun, how, hg, hi, hat⟩ := appW hbs hlt' hrow hb2 (segN y)
              obtain ⟨g', cap', rfl⟩ := ownsRow_succ how
              have hcb := boxW hv hb2 hrow hg
              have hc3 := hcb.cell
              have hf3 := hcb.frozen
              refine wpAnyIn_ready (rs := [4]) (by kernel_rfl) (by simp) (AllReadyIn.cons rfl (fun K hK => ?_) AllReadyIn.nil)
              refine stepIn_append rfl (.tmp 35) (.tmp 38) 27 rfl v _ _ rfl rfl hrun (hK _ _ ?_)
              clear hK K
              refine wpAnyIn_ready (rs := [5]) (by kernel_rfl) (by simp) (AllReadyIn.cons rfl (fun K hK => ?_) AllReadyIn.nil)
              go_simp
              refine hK _ _ ?_
              clear hK K
              refine wpAnyIn_done (by kernel_rfl) ?_ _
              have hbi := hide (bodyI hv hbs hB hb2 hrow hg how hi)
              have hKK := hide ((keepW (v' := .slice (some ⟨g', 0, none⟩) (LL.length + 1) cap') hb2 hrow hg).same D _ HDf.out rfl)
              gi_wp2
              go_roundw
              case rel => exact ⟨k + 1, by omega, by go_num, by rw [HSN.out]; exact hbi.out, hKK.out⟩
              case measure => simp [intOf]; omega
            · go_simp
              refine ⟨trivial, (callsIn_wide.2 (HC.out _ (HVW.out.later (below_drewN (Below.refl _ _) 1)))).mono ?_⟩
              rintro e w2 ⟨rfl, hb2⟩
              refine hK _ _ ?_
              clear hK K
              have hc2 := cell_later hb2 hc
              have hc4 := cell_later ((Below.refl _ _).alloc (Nat.le_refl _) (Obj.cells #[Value.string (segN y)] 9)) hc2
              refine wpAnyIn_ready (rs := [0, 3]) (by kernel_rfl) (by simp) (AllReadyIn.cons rfl (fun K hK => ?_) (AllReadyIn.cons rfl (fun K hK => ?_) AllReadyIn.nil))
              · go_simp
                refine hK _ _ ?_
                clear hK K
                refine wpAnyIn_ready (rs := [3]) (by kernel_rfl) (by simp) (AllReadyIn.cons rfl (fun K hK => ?_) AllReadyIn.nil)
                go_simp
                refine hK _ _ ?_
                clear hK K
                obtain ⟨v', w3, hrun, how, hg, hi, hat⟩ := appW hbs hlt' hrow hb2 (segN y)
                obtain ⟨g', cap', rfl⟩ := ownsRow_succ how
                have hcb := boxW hv hb2 hrow hg
                have hc3 := hcb.cell
                have hf3 := hcb.frozen
                refine wpAnyIn_ready (rs := [4]) (by kernel_rfl) (by simp) (AllReadyIn.cons rfl (fun K hK => ?_) AllReadyIn.nil)
                refine stepIn_append rfl (.tmp 35) (.tmp 38) 27 rfl v _ _ rfl rfl hrun (hK _ _ ?_)
                clear hK K
                refine wpAnyIn_ready (rs := [5]) (by kernel_rfl) (by simp) (AllReadyIn.cons rfl (fun K hK => ?_) AllReadyIn.nil)
                go_simp
                refine hK _ _ ?_
                clear hK K
                refine wpAnyIn_done (by kernel_rfl) ?_ _
                have hbi := hide (bodyI hv hbs hB hb2 hrow hg how hi)
                have hKK := hide ((keepW (v' := .slice (some ⟨g', 0, none⟩) (LL.length + 1) cap') hb2 hrow hg).same D _ HDf.out rfl)
                gi_wp2
                go_roundw
                case rel => exact ⟨k + 1, by omega, by go_num, by rw [HSN.out]; exact hbi.out, hKK.out⟩
                case measure => simp [intOf]; omega
              · go_simp
                refine hK _ _ ?_
                clear hK K
                refine wpAnyIn_ready (rs := [0]) (by kernel_rfl) (by simp) (AllReadyIn.cons rfl (fun K hK => ?_) AllReadyIn.nil)
                go_simp
                refine hK _ _ ?_
                clear hK K
                obtain ⟨v', w3, hrun, how, hg, hi, hat⟩ := appW hbs hlt' hrow hb2 (segN y)
                obtain ⟨g', cap', rfl⟩ := ownsRow_succ how
                have hcb := boxW hv hb2 hrow hg
                have hc3 := hcb.cell
                have hf3 := hcb.frozen
                refine wpAnyIn_ready (rs := [4]) (by kernel_rfl) (by simp) (AllReadyIn.cons rfl (fun K hK => ?_) AllReadyIn.nil)
                refine stepIn_append rfl (.tmp 35) (.tmp 38) 27 rfl v _ _ rfl rfl hrun (hK _ _ ?_)
                clear hK K
                refine wpAnyIn_ready (rs := [5]) (by kernel_rfl) (by simp) (AllReadyIn.cons rfl (fun K hK => ?_) AllReadyIn.nil)
                go_simp
                refine hK _ _ ?_
                clear hK K
                refine wpAnyIn_done (by kernel_rfl) ?_ _
                have hbi := hide (bodyI hv hbs hB hb2 hrow hg how hi)
                have hKK := hide ((keepW (v' := .slice (some ⟨g', 0, none⟩) (LL.length + 1) cap') hb2 hrow hg).same D _ HDf.out rfl)
                gi_wp2
                go_roundw
                case rel => exact ⟨k + 1, by omega, by go_num, by rw [HSN.out]; exact hbi.out, hKK.out⟩
                case measure => simp [intOf]; omega
        · obtain rfl : k = Y.length := by omega
          rw [List.take_length] at HIv
          obtain ⟨⟨v, hv, hrow, hnil⟩, hB, hbs⟩ := HIv.out
          have hc := hv.cell
          have HAS : Hid (AS = L ++ Y.map segN) := by
            show AS = _
            rw [HA.out, ← hL, HTL]
          gi_wp2
          refine ⟨by simp, .inl ⟨_, _, rfl, run_takeDeferred HDf.out, ?_⟩⟩
          have hDs : w1.heap.size ≤ D := by simp at hD; omega
          have hle : w.heap.size ≤ w1.heap.size + 2 := Nat.le_trans HB.out.size (Nat.le_add_right _ _)
          refine ⟨_, results_tmp rfl _ _ _, v, rfl, ?_, ?_⟩
          · rw [HAS.out]
            exact OwnS.base ⟨ownsRow_putObj hrow _ HDf.out rfl, hnil⟩ hle
          · exact HB.out.trans ((hB.trans (belowK_b (Nat.le_refl _) wr D _ _ hDs HDf.out rfl rfl)).mono HB.out.size)
    case true =>
      have HTL : tmpL ss = [⟨#[115, 110, 97, 112, 115, 104, 111, 116, 46, 116, 109, 112]⟩] := hTL
      obtain ⟨L, hL⟩ : ∃ L, A ++ [⟨#[115, 110, 97, 112, 115, 104, 111, 116, 46, 116, 109, 112]⟩] = L := ⟨_, rfl⟩
      obtain ⟨⟨v, hv, hrow, hnil⟩, hB, hbs⟩ := HIN.out
      have hc := hv.cell
      have hc4 := cell_later ((Below.refl _ _).alloc (Nat.le_refl _) (Obj.cells #[Value.string ⟨#[115, 110, 97, 112, 115, 104, 111, 116, 46, 116, 109, 112]⟩] 9)) hc
      obtain ⟨v', w3, hrun, how, hg, hi, hat⟩ := appW hbs (by omega) hrow (drew_back W) ⟨#[115, 110, 97, 112, 115, 104, 111, 116, 46, 116, 109, 112]⟩
      obtain ⟨g', cap', rfl⟩ := ownsRow_succ how
      have hcb := boxW hv (drew_back W) hrow hg
      have hc3 := hcb.cell
      have hf3 := hcb.frozen
      have HIN' := hide (bodyI hv hbs hB (drew_back W) hrow hg how hi)
      have HKD' := hide ((keepW (v' := .slice (some ⟨g', 0, none⟩) (A.length + 1) cap') (drew_back W) hrow hg).same D _ HKD.out rfl)
      rw [hL] at HIN'
      gi_wp2_with (first | (refine ⟨trivial, ?_⟩; gi_at_call 40; refine (callsIn_wide.2 HCN.out).mono ?_; rintro e w' ⟨rfl, rfl⟩) | (gi_at_builtin; refine wpListIn_append_run rfl _ _ 27 rfl _ _ _ rfl rfl hrun ?_))
      clear hv hrow hnil hB hbs hc hc4 hrun how hg hi hat hcb hc3 hf3 HIN HKD
      have HIN := HIN'
      have HKD := HKD'
      clear HIN' HKD'
      have hLl : L.length ≤ 4097 := by rw [← hL]; simp; omega
      gi_loopw [31] (fun i wr => ∃ k : Nat, k ≤ Y.length ∧ i = .int .i64 k ∧ Hid (Inv w1.heap.size w1 (.slice p1 X.length k1) (L ++ (Y.take k).map segN) wr) ∧ Hid (wr.heap[D]? = some (.deferred (some [])))) (fun i _ => Y.length - (intOf i).toNat)
      case atStart => exact ⟨0, Nat.zero_le _, rfl, by rw [List.take_zero, List.map_nil, List.append_nil]; exact HIN.out, HKD.out⟩
      case round =>
        obtain ⟨k, hk, rfl, HIv, HDf⟩ := hrel
        by_cases hlt : k < Y.length
        · obtain ⟨b, rfl, hcy⟩ := Ints.at (HIY.out.below HIv.out.2.1) hlt
          have hyr := HYP.out Y[k] (List.getElem_mem hlt)
          have HSN := hide (take_snoc segN Y k hlt L)
          have hlt' := take_le segN Y k L
          have HC := hide (segFileW Y[k] hyr.1 hyr.2)
          have HVW := hide ((HVV.out.later HB.out).later HIv.out.2.1)
          obtain ⟨LL, hLL⟩ : ∃ LL, L ++ (Y.take k).map segN = LL := ⟨_, rfl⟩
          rw [hLL] at HSN hlt' HIv
          clear hLL
          replace hlt' : LL.length ≤ 9000 := by omega
          clear hyr
          obtain ⟨y, hy⟩ : ∃ y, Y[k] = y := ⟨_, rfl⟩
          rw [hy] at hcy HSN HC
          clear hy
          obtain ⟨⟨v, hv, hrow, hnil⟩, hB, hbs⟩ := HIv.out
          have hc := hv.cell
          have hmx : Tryd.prog.follows .mixedOrders = true := by kernel_rfl
          gi_wp2
          refine wpIn_region_any hmx ?_
          change wpAnyIn _ _ _ _ _ _ _ _ _ (World.drew _)
          refine wpAnyIn_ready (rs := [0, 1]) (by kernel_rfl) (by simp) (AllReadyIn.cons rfl (fun K hK => ?_) (AllReadyIn.cons rfl (fun K hK => ?_) AllReadyIn.nil))
          · go_simp
            refine hK _ _ ?_
            clear hK K
            refine wpAnyIn_ready (rs := [1]) (by kernel_rfl) (by simp) (AllReadyIn.cons rfl (fun K hK => ?_) AllReadyIn.nil)
            go_simp
            refine hK _ _ ?_
            clear hK K
            refine wpAnyIn_ready (rs := [2]) (by kernel_rfl) (by simp) (AllReadyIn.cons rfl (fun K hK => ?_) AllReadyIn.nil)
            go_simp
            refine ⟨trivial, (callsIn_wide.2 (HC.out _ (HVW.out.later (below_drewN (Below.refl _ _) 1)))).mono ?_⟩
            rintro e w2 ⟨rfl, hb2⟩
            refine hK _ _ ?_
            clear hK K
            have hc2 := cell_later hb2 hc
            have hc4 := cell_later ((Below.refl _ _).alloc (Nat.le_refl _) (Obj.cells #[Value.string (segN y)] 9)) hc2
            refine wpAnyIn_ready (rs := [3]) (by kernel_rfl) (by simp) (AllReadyIn.cons rfl (fun K hK => ?_) AllReadyIn.nil)
            go_simp
            refine hK _ _ ?_
            clear hK K
            obtain ⟨v', w3, hrun, how, hg, hi, hat⟩ := appW hbs hlt' hrow hb2 (segN y)
            obtain ⟨g', cap', rfl⟩ := ownsRow_succ how
            have hcb := boxW hv hb2 hrow hg
            have hc3 := hcb.cell
            have hf3 := hcb.frozen
            refine wpAnyIn_ready (rs := [4]) (by kernel_rfl) (by simp) (AllReadyIn.cons rfl (fun K hK => ?_) AllReadyIn.nil)
            refine stepIn_append rfl (.tmp 35) (.tmp 38) 27 rfl v _ _ rfl rfl hrun (hK _ _ ?_)
            clear hK K
            refine wpAnyIn_ready (rs := [5]) (by kernel_rfl) (by simp) (AllReadyIn.cons rfl (fun K hK => ?_) AllReadyIn.nil)
            go_simp
            refine hK _ _ ?_
            clear hK K
            refine wpAnyIn_done (by kernel_rfl) ?_ _
            have hbi := hide (bodyI hv hbs hB hb2 hrow hg how hi)
            have hKK := hide ((keepW (v' := .slice (some ⟨g', 0, none⟩) (LL.length + 1) cap') hb2 hrow hg).same D _ HDf.out rfl)
            gi_wp2
            go_roundw
            case rel => exact ⟨k + 1, by omega, by go_num, by rw [HSN.out]; exact hbi.out, hKK.out⟩
            case measure => simp [intOf]; omega
          · go_simp
            refine hK _ _ ?_
            clear hK K
            refine wpAnyIn_ready (rs := [0, 2]) (by kernel_rfl) (by simp) (AllReadyIn.cons rfl (fun K hK => ?_) (AllReadyIn.cons rfl (fun K hK => ?_) AllReadyIn.nil))
            · go_simp
              refine hK _ _ ?_
              clear hK K
              refine wpAnyIn_ready (rs := [2]) (by kernel_rfl) (by simp) (AllReadyIn.cons rfl (fun K hK => ?_) AllReadyIn.nil)
              go_simp
              refine ⟨trivial, (callsIn_wide.2 (HC.out _ (HVW.out.later (below_drewN (Below.refl _ _) 1)))).mono ?_⟩
              rintro e w2 ⟨rfl, hb2⟩
              refine hK _ _ ?_
              clear hK K
              have hc2 := cell_later hb2 hc
              have hc4 := cell_later ((Below.refl _ _).alloc (Nat.le_refl _) (Obj.cells #[Value.string (segN y)] 9)) hc2
              refine wpAnyIn_ready (rs := [3]) (by kernel_rfl) (by simp) (AllReadyIn.cons rfl (fun K hK => ?_) AllReadyIn.nil)
              go_simp
              refine hK _ _ ?_
              clear hK K
              obtain ⟨v', w3, hrun, how, hg, hi, hat⟩ := appW hbs hlt' hrow hb2 (segN y)
              obtain ⟨g', cap', rfl⟩ := ownsRow_succ how
              have hcb := boxW hv hb2 hrow hg
              have hc3 := hcb.cell
              have hf3 := hcb.frozen
              refine wpAnyIn_ready (rs := [4]) (by kernel_rfl) (by simp) (AllReadyIn.cons rfl (fun K hK => ?_) AllReadyIn.nil)
              refine stepIn_append rfl (.tmp 35) (.tmp 38) 27 rfl v _ _ rfl rfl hrun (hK _ _ ?_)
              clear hK K
              refine wpAnyIn_ready (rs := [5]) (by kernel_rfl) (by simp) (AllReadyIn.cons rfl (fun K hK => ?_) AllReadyIn.nil)
              go_simp
              refine hK _ _ ?_
              clear hK K
              refine wpAnyIn_done (by kernel_rfl) ?_ _
              have hbi := hide (bodyI hv hbs hB hb2 hrow hg how hi)
              have hKK := hide ((keepW (v' := .slice (some ⟨g', 0, none⟩) (LL.length + 1) cap') hb2 hrow hg).same D _ HDf.out rfl)
              gi_wp2
              go_roundw
              case rel => exact ⟨k + 1, by omega, by go_num, by rw [HSN.out]; exact hbi.out, hKK.out⟩
              case measure => simp [intOf]; omega
            · go_simp
              refine ⟨trivial, (callsIn_wide.2 (HC.out _ (HVW.out.later (below_drewN (Below.refl _ _) 1)))).mono ?_⟩
              rintro e w2 ⟨rfl, hb2⟩
              refine hK _ _ ?_
              clear hK K
              have hc2 := cell_later hb2 hc
              have hc4 := cell_later ((Below.refl _ _).alloc (Nat.le_refl _) (Obj.cells #[Value.string (segN y)] 9)) hc2
              refine wpAnyIn_ready (rs := [0, 3]) (by kernel_rfl) (by simp) (AllReadyIn.cons rfl (fun K hK => ?_) (AllReadyIn.cons rfl (fun K hK => ?_) AllReadyIn.nil))
              · go_simp
                refine hK _ _ ?_
                clear hK K
                refine wpAnyIn_ready (rs := [3]) (by kernel_rfl) (by simp) (AllReadyIn.cons rfl (fun K hK => ?_) AllReadyIn.nil)
                go_simp
                refine hK _ _ ?_
                clear hK K
                obtain ⟨v', w3, hrun, how, hg, hi, hat⟩ := appW hbs hlt' hrow hb2 (segN y)
                obtain ⟨g', cap', rfl⟩ := ownsRow_succ how
                have hcb := boxW hv hb2 hrow hg
                have hc3 := hcb.cell
                have hf3 := hcb.frozen
                refine wpAnyIn_ready (rs := [4]) (by kernel_rfl) (by simp) (AllReadyIn.cons rfl (fun K hK => ?_) AllReadyIn.nil)
                refine stepIn_append rfl (.tmp 35) (.tmp 38) 27 rfl v _ _ rfl rfl hrun (hK _ _ ?_)
                clear hK K
                refine wpAnyIn_ready (rs := [5]) (by kernel_rfl) (by simp) (AllReadyIn.cons rfl (fun K hK => ?_) AllReadyIn.nil)
                go_simp
                refine hK _ _ ?_
                clear hK K
                refine wpAnyIn_done (by kernel_rfl) ?_ _
                have hbi := hide (bodyI hv hbs hB hb2 hrow hg how hi)
                have hKK := hide ((keepW (v' := .slice (some ⟨g', 0, none⟩) (LL.length + 1) cap') hb2 hrow hg).same D _ HDf.out rfl)
                gi_wp2
                go_roundw
                case rel => exact ⟨k + 1, by omega, by go_num, by rw [HSN.out]; exact hbi.out, hKK.out⟩
                case measure => simp [intOf]; omega
              · go_simp
                refine hK _ _ ?_
                clear hK K
                refine wpAnyIn_ready (rs := [0]) (by kernel_rfl) (by simp) (AllReadyIn.cons rfl (fun K hK => ?_) AllReadyIn.nil)
                go_simp
                refine hK _ _ ?_
                clear hK K
                obtain ⟨v', w3, hrun, how, hg, hi, hat⟩ := appW hbs hlt' hrow hb2 (segN y)
                obtain ⟨g', cap', rfl⟩ := ownsRow_succ how
                have hcb := boxW hv hb2 hrow hg
                have hc3 := hcb.cell
                have hf3 := hcb.frozen
                refine wpAnyIn_ready (rs := [4]) (by kernel_rfl) (by simp) (AllReadyIn.cons rfl (fun K hK => ?_) AllReadyIn.nil)
                refine stepIn_append rfl (.tmp 35) (.tmp 38) 27 rfl v _ _ rfl rfl hrun (hK _ _ ?_)
                clear hK K
                refine wpAnyIn_ready (rs := [5]) (by kernel_rfl) (by simp) (AllReadyIn.cons rfl (fun K hK => ?_) AllReadyIn.nil)
                go_simp
                refine hK _ _ ?_
                clear hK K
                refine wpAnyIn_done (by kernel_rfl) ?_ _
                have hbi := hide (bodyI hv hbs hB hb2 hrow hg how hi)
                have hKK := hide ((keepW (v' := .slice (some ⟨g', 0, none⟩) (LL.length + 1) cap') hb2 hrow hg).same D _ HDf.out rfl)
                gi_wp2
                go_roundw
                case rel => exact ⟨k + 1, by omega, by go_num, by rw [HSN.out]; exact hbi.out, hKK.out⟩
                case measure => simp [intOf]; omega
        · obtain rfl : k = Y.length := by omega
          rw [List.take_length] at HIv
          obtain ⟨⟨v, hv, hrow, hnil⟩, hB, hbs⟩ := HIv.out
          have hc := hv.cell
          have HAS : Hid (AS = L ++ Y.map segN) := by
            show AS = _
            rw [HA.out, ← hL, HTL]
          gi_wp2
          refine ⟨by simp, .inl ⟨_, _, rfl, run_takeDeferred HDf.out, ?_⟩⟩
          have hDs : w1.heap.size ≤ D := by simp at hD; omega
          have hle : w.heap.size ≤ w1.heap.size + 2 := Nat.le_trans HB.out.size (Nat.le_add_right _ _)
          refine ⟨_, results_tmp rfl _ _ _, v, rfl, ?_, ?_⟩
          · rw [HAS.out]
            exact OwnS.base ⟨ownsRow_putObj hrow _ HDf.out rfl, hnil⟩ hle
          · exact HB.out.trans ((hB.trans (belowK_b (Nat.le_refl _) wr D _ _ hDs HDf.out rfl rfl)).mono HB.out.size)
  case stop =>
    rintro D c pre W _ _ h _
    exact h.elim
end Go.Proofs.Qxb6602136aDoor
