import Derived.Test.Qxb6602136aDoorEqS
namespace Go.Proofs.Qxb6602136aDoor
open Go.ChangeShapes Go.WideShapes Go.ChangeAt Go.RowKit Go.Sort

theorem Ints.at {n₀ : Nat} {W : World} {p : Option Addr} {len c : Nat} {zs : List Int} (h : Ints n₀ W (.slice p len c) zs) {k : Nat} (hk : k < zs.length) :
    ∃ b, p = some ⟨b, 0, none⟩ ∧ W.cell? ⟨b, k, none⟩ = some (.int .i64 zs[k]) := by
  rcases h with ⟨_, rfl⟩ | ⟨b, cap, e, _, hc⟩
  · exact absurd hk (Nat.not_lt_zero _)
  · injection e with e _ _
    refine ⟨b, e, ?_⟩
    rw [hc k hk]
    simp [hk]

theorem OwnS.app {B : Nat} {w' : World} {v v' : Value} {xs : List ByteArray} {x : ByteArray} (ho : w'.ownsRow B 9 1 v' (xs.length + 1) (xs.map Value.string ++ [.string x]))
    (hi : v' = .slice none 0 0 ↔ v = .slice none 0 0 ∧ 1 = 0) : OwnS B w' v' (xs ++ [x]) := by
  refine ⟨by simpa using ho, ?_⟩
  simp at hi
  simp [hi]
theorem below_appS {B : Nat} {w0 w w' : World} {v : Value} {xs : List ByteArray} {o : Obj} (hb : Below B w0 w) (h : OwnS B w v xs) (hle : B ≤ w.heap.size) (hg : (w.alloc o).grownBy w' v.ownBlock) : Below B w0 w' :=
  (hb.alloc hle o).grown hg (by simp; omega) h.low

theorem take_snoc {α β : Type} (f : α → β) (l : List α) (k : Nat) (hk : k < l.length) (r : List β) : r ++ (l.take (k + 1)).map f = (r ++ (l.take k).map f) ++ [f l[k]] := by
  rw [List.take_succ_eq_append_getElem hk, List.map_append, ← List.append_assoc]
  rfl
theorem take_le {α β : Type} (f : α → β) (l : List α) (k : Nat) (r : List β) : (r ++ (l.take k).map f).length ≤ r.length + l.length := by
  rw [List.length_append, List.length_map, List.length_take]
  omega

theorem tmp_snoc (ss : List ByteArray) (k : Nat) (hk : k < ss.length) (b : Bool) (h : b = true ↔ tmpN ∈ ss.take k) (hs : ss[k] ≠ tmpN) : b = true ↔ tmpN ∈ ss.take (k + 1) := by
  rw [List.take_succ_eq_append_getElem hk, List.mem_append, List.mem_singleton, h]
  constructor
  · exact .inl
  · rintro (h | h)
    · exact h
    · exact absurd h.symm hs
theorem tmp_hit (ss : List ByteArray) (k : Nat) (hk : k < ss.length) (hs : ss[k] = tmpN) : true = true ↔ tmpN ∈ ss.take (k + 1) := by
  rw [List.take_succ_eq_append_getElem hk, List.mem_append, List.mem_singleton]
  simp [hs]

set_option maxRecDepth 100000 in
set_option maxHeartbeats 4000000 in
theorem modelAsideW (a : Option Addr) (c : Nat) (ss : List ByteArray) (w : World) (hs : StrsAt w a ss) (hn : ss.length ≤ 4096) (hsz : ∀ j (h : j < ss.length), ss[j].size ≤ 1048576) :
    Calls Tryd.prog 23 #[.slice a ss.length c] w fun e w' => ∃ v, e = .returned v ∧ OwnS w.heap.size w' v (asideL ss) ∧ Below w.heap.size w w' := by
  obtain ⟨info, hinf, hz0, hz1, hz2⟩ := info_parts Tryd.info9
  have HL := hide (modelLogFilesW a c ss w hs hn hsz)
  have HS := hide hs
  have HA : Hid (asideL ss = (srt (snaps ss)).reverse.map snapN ++ tmpL ss ++ (srt (segs ss)).map segN) := hide rfl
  have HXP : Hid (Pos (srt (snaps ss)).reverse) := hide (fun x hx => snaps_pos ss x (List.mem_reverse.1 hx))
  have HYP := hide (segs_rng ss)
  have hX1 : (srt (snaps ss)).length ≤ 4096 := by rw [srt_len]; exact Nat.le_trans (snaps_len ss) hn
  have hY1 : (srt (segs ss)).length ≤ 4096 := by rw [srt_len]; exact Nat.le_trans (segs_len ss) hn
  have HR : Hid (srt (srt (snaps ss)) = srt (snaps ss)) := hide (srt_of_perm (srt_perm _))
  generalize asideL ss = AS at *
  generalize srt (snaps ss) = X0 at *
  generalize srt (segs ss) = Y at *
  clear hs hsz
  go_enter Tryd.func23, Tryd.ntmps23
  go_wp2_with fail
  refine HL.out.mono ?_
  rintro e w1 ⟨v, u, rfl, ht, hb⟩
  obtain ⟨p1, k1, rfl⟩ := ht.a.form
  obtain ⟨p2, k2, rfl⟩ := ht.b.form
  have HT := hide ht
  have HB := hide hb
  clear ht hb HL
  have C1 := hide (sort64W _ _ _ _ true HT.out.a hX1)
  go_wp2_with fail
  refine C1.out.mono ?_
  rintro e w2 ⟨rfl, ⟨X, h1, hp, ho⟩, h2⟩
  have hXe : X = X0.reverse := by rw [desc_srt hp ho, HR.out]
  have HT2 := hide (HT.out.sort h1 h2)
  have HB2 := hide (HB.out.grown h2 HB.out.size HT.out.a.low)
  clear h1 h2 C1 HT HB hp ho HR
  rw [← hXe] at HA HXP
  have hX2 : X.length = X0.length := by rw [hXe, List.length_reverse]
  clear hXe
  rw [← hX2] at hX1 HT2 ⊢
  clear hX2
  have HI1 := hide HT2.out.a.ints
  have HI2 := hide HT2.out.b.ints
  have hle2 : w.heap.size ≤ w2.heap.size := HB2.out.size
  have HS2 := hide (HS.out.later HB2.out)
  clear HT2 HS
  go_wp2_with fail
  go_loop [5, 6] (fun t i => ∃ (b : Bool) (k : Nat), k ≤ ss.length ∧ i = .int .i64 k ∧ t = .bool b ∧ Hid (b = true ↔ tmpN ∈ ss.take k)) (fun _ i => ss.length - (intOf i).toNat)
  case atStart => exact ⟨false, 0, Nat.zero_le _, rfl, rfl, by show _ ↔ _; simp⟩
  case round =>
    obtain ⟨b, k, hk, rfl, rfl, HK⟩ := hrel
    by_cases hlt : k < ss.length
    · obtain ⟨bl, off, rfl, g1⟩ := StrsAt.at HS2.out hlt
      by_cases hs' : ss[k] = tmpN
      · have HK2 := hide (tmp_hit ss k hlt hs')
        rw [hs'] at g1
        unfold tmpN at g1
        go_wp2
        go_round
        case rel => exact ⟨true, k + 1, by omega, by go_num, rfl, HK2⟩
        case measure => simp [intOf]; omega
      · have HK2 := hide (tmp_snoc ss k hlt b HK.out hs')
        have hne : (ss[k].toList == [115, 110, 97, 112, 115, 104, 111, 116, 46, 116, 109, 112]) = false := by rw [ByteArray.toList_eq]; exact beq_eq_false_iff_ne.2 (fun h => hs' (bytes_inj h))
        clear hs' HK
        generalize ss[k] = s at *
        go_wp2
        go_round
        case rel => exact ⟨b, k + 1, by omega, by go_num, rfl, HK2⟩
        case measure => simp [intOf]; omega
    · obtain rfl : k = ss.length := by omega
      rw [List.take_length] at HK
      have HTm : Hid (tmpL ss = if b = true then [tmpN] else []) := by
        show tmpL ss = _
        unfold tmpL
        have : Lib.containsS ss tmpN = b := by
          have h1 := Lib.containsS_iff ss tmpN
          have h2 := HK.out
          cases b <;> cases hq : Lib.containsS ss tmpN <;> simp_all
        rw [this]
      clear HK hlt
      generalize tmpL ss = TM at *
      go_wp2
      go_loopw [7, 8] (fun o i wr => ∃ k : Nat, k ≤ X.length ∧ i = .int .i64 k ∧ Hid (OwnS w2.heap.size wr o ([] ++ (X.take k).map snapN)) ∧ Hid (Below w2.heap.size w2 wr)) (fun _ i _ => X.length - (intOf i).toNat)
      case atStart => exact ⟨0, Nat.zero_le _, rfl, OwnS.start _ _, Below.refl _ _⟩
      case round =>
        obtain ⟨k, hk, rfl, HO, HBr⟩ := hrel
        by_cases hlt : k < X.length
        · obtain ⟨bl, rfl, hcx⟩ := Ints.at (HI1.out.below HBr.out) hlt
          have hxr := HXP.out X[k] (List.getElem_mem hlt)
          have HSN := hide (take_snoc snapN X k hlt [])
          have hln := take_le snapN X k []
          rw [List.length_nil] at hln
          have HC := hide (itoaW X[k] hxr.1 hxr.2)
          have hil := itoa_len hxr.1 hxr.2
          have e : snapN X[k] = ⟨#[115, 110, 97, 112, 115, 104, 111, 116, 46]⟩ ++ ⟨(Lib.itoa X[k]).toArray⟩ := by rw [cat]; rfl
          rw [e] at HSN
          clear e hxr
          obtain ⟨L, hL⟩ : ∃ L, [] ++ (X.take k).map snapN = L := ⟨_, rfl⟩
          rw [hL] at HSN hln HO
          clear hL
          generalize Lib.itoa X[k] = t at *
          generalize X[k] = x at *
          go_wp2_with fail
          refine (HC.out _).mono ?_
          rintro e w3 ⟨rfl, hb⟩
          have HO1 := hide (HO.out.later hb)
          have HB1 := hide (HBr.out.trans (hb.mono HBr.out.size))
          have hle3 : w2.heap.size ≤ w3.heap.size := HB1.out.size
          have hnews : Hid (∀ j u, [Value.string (⟨#[115, 110, 97, 112, 115, 104, 111, 116, 46]⟩ ++ ⟨t.toArray⟩)][j]? = some u → (w3.alloc (Obj.cells #[Value.string (⟨#[115, 110, 97, 112, 115, 104, 111, 116, 46]⟩ ++ ⟨t.toArray⟩)] 9)).cell? ((⟨w3.heap.size, 0, none⟩ : Addr).add j) = some u) := cell_one_new _ _ _
          clear hb HO HBr HC
          go_wp2_with (at_builtin; refine wpList_append_own_at _ rfl _ _ 27 rfl w2.heap.size 9 info _ 1 16 Tryd.underlying27 hinf hz0 hz1 hz2 rfl (by omega) u7 L.length (L.map Value.string) rfl (HO1.out.row.alloc _) ⟨w3.heap.size, 0, none⟩ 1 1 [.string (⟨#[115, 110, 97, 112, 115, 104, 111, 116, 46]⟩ ++ ⟨t.toArray⟩)] rfl rfl hnews.out (by simp [Value.oneCell']) (by unfold maxLen; omega) (by omega) (by simp; omega) ?_; intro v' w' ho' hg' hi' hat')
          exact ⟨⟨k + 1, by omega, by go_num, by rw [HSN.out]; exact OwnS.app ho' hi', below_appS HB1.out HO1.out hle3 hg'⟩, by simp [intOf]; omega⟩
        · obtain rfl : k = X.length := by omega
          rw [List.take_length, List.nil_append] at HO
          have hml : (X.map snapN).length ≤ 4096 := by rw [List.length_map]; exact hX1
          obtain ⟨L, hL⟩ : ∃ L, X.map snapN = L := ⟨_, rfl⟩
          rw [hL] at HO hml HA
          clear hL
          have hle3 : w2.heap.size ≤ wr.heap.size := HBr.out.size
          cases b
          case false =>
            obtain ⟨M, hM⟩ : ∃ M, L = M := ⟨_, rfl⟩
            have HEM : Hid (AS = M ++ Y.map segN) := by
              have h1 := HA.out
              have h2 := HTm.out
              simp only [Bool.false_eq_true, if_false] at h2
              rw [h2, List.append_nil, hM] at h1
              exact h1
            rw [hM] at HO hml
            have HM := HO
            have HBM := HBr
            clear HO HBr hM HA HTm
            go_wp2
            go_loopw [7, 9] (fun o i wr => ∃ k : Nat, k ≤ Y.length ∧ i = .int .i64 k ∧ Hid (OwnS w2.heap.size wr o (M ++ (Y.take k).map segN)) ∧ Hid (Below w2.heap.size w2 wr)) (fun _ i _ => Y.length - (intOf i).toNat)
            case atStart => exact ⟨0, Nat.zero_le _, rfl, by rw [List.take_zero, List.map_nil, List.append_nil]; exact HM.out, HBM.out⟩
            case round =>
              obtain ⟨k, hk, rfl, HO, HBr⟩ := hrel
              by_cases hlt : k < Y.length
              · obtain ⟨bl, rfl, hcx⟩ := Ints.at (HI2.out.below HBr.out) hlt
                have hxr := HYP.out Y[k] (List.getElem_mem hlt)
                have HSN := hide (take_snoc segN Y k hlt M)
                have hln := take_le segN Y k M
                obtain ⟨L, hL⟩ : ∃ L, M ++ (Y.take k).map segN = L := ⟨_, rfl⟩
                rw [hL] at HSN hln HO
                clear hL
                obtain ⟨x, hx⟩ : ∃ x, Y[k] = x := ⟨_, rfl⟩
                rw [hx] at hcx hxr HSN
                clear hx
                by_cases hx0 : x = 0
                · subst hx0
                  rw [show segN 0 = ⟨#[108, 111, 103]⟩ from rfl] at HSN
                  have hle3 : w2.heap.size ≤ wr.heap.size := HBr.out.size
                  have hnews : Hid (∀ j u, [Value.string ⟨#[108, 111, 103]⟩][j]? = some u → (wr.alloc (Obj.cells #[Value.string ⟨#[108, 111, 103]⟩] 9)).cell? ((⟨wr.heap.size, 0, none⟩ : Addr).add j) = some u) := cell_one_new _ _ _
                  clear hxr
                  go_wp2_with (at_builtin; refine wpList_append_own_at _ rfl _ _ 27 rfl w2.heap.size 9 info _ 1 16 Tryd.underlying27 hinf hz0 hz1 hz2 rfl (by omega) u7 L.length (L.map Value.string) rfl (HO.out.row.alloc _) ⟨wr.heap.size, 0, none⟩ 1 1 [.string (⟨#[108, 111, 103]⟩)] rfl rfl hnews.out (by simp [Value.oneCell']) (by unfold maxLen; omega) (by omega) (by simp; omega) ?_; intro v' w' ho' hg' hi' hat')
                  exact ⟨⟨k + 1, by omega, by go_num, by rw [HSN.out]; exact OwnS.app ho' hi', below_appS HBr.out HO.out hle3 hg'⟩, by simp [intOf]; omega⟩
                · have h1 : 0 < x := by omega
                  have HC := hide (itoaW x h1 hxr.2)
                  have hil := itoa_len h1 hxr.2
                  have e : segN x = ⟨#[108, 111, 103, 46]⟩ ++ ⟨(Lib.itoa x).toArray⟩ := by rw [cat]; exact if_neg hx0
                  have hb0 : (x == 0) = false := beq_eq_false_iff_ne.2 hx0
                  rw [e] at HSN
                  clear e hxr h1 hx0
                  generalize Lib.itoa x = t at *
                  go_wp2_with fail
                  refine (HC.out _).mono ?_
                  rintro e w3 ⟨rfl, hb⟩
                  have HO1 := hide (HO.out.later hb)
                  have HB1 := hide (HBr.out.trans (hb.mono HBr.out.size))
                  have hle3 : w2.heap.size ≤ w3.heap.size := HB1.out.size
                  have hnews : Hid (∀ j u, [Value.string (⟨#[108, 111, 103, 46]⟩ ++ ⟨t.toArray⟩)][j]? = some u → (w3.alloc (Obj.cells #[Value.string (⟨#[108, 111, 103, 46]⟩ ++ ⟨t.toArray⟩)] 9)).cell? ((⟨w3.heap.size, 0, none⟩ : Addr).add j) = some u) := cell_one_new _ _ _
                  clear hb HO HBr HC
                  go_wp2_with (at_builtin; refine wpList_append_own_at _ rfl _ _ 27 rfl w2.heap.size 9 info _ 1 16 Tryd.underlying27 hinf hz0 hz1 hz2 rfl (by omega) u7 L.length (L.map Value.string) rfl (HO1.out.row.alloc _) ⟨w3.heap.size, 0, none⟩ 1 1 [.string (⟨#[108, 111, 103, 46]⟩ ++ ⟨t.toArray⟩)] rfl rfl hnews.out (by simp [Value.oneCell']) (by unfold maxLen; omega) (by omega) (by simp; omega) ?_; intro v' w' ho' hg' hi' hat')
                  exact ⟨⟨k + 1, by omega, by go_num, by rw [HSN.out]; exact OwnS.app ho' hi', below_appS HB1.out HO1.out hle3 hg'⟩, by simp [intOf]; omega⟩
              · obtain rfl : k = Y.length := by omega
                rw [List.take_length] at HO
                have HAS : Hid (AS = M ++ Y.map segN) := HEM.out
                rw [← HAS.out] at HO
                clear HAS
                obtain ⟨pf, cf, rfl⟩ := HO.out.form
                have HF := hide (HB2.out.trans (HBr.out.mono hle2))
                have HO2 := hide (HO.out.base hle2)
                go_wp2
                go_ret
                exact ⟨_, rfl, HO2.out, HF.out⟩
          case true =>
            obtain ⟨M, hM⟩ : ∃ M, L ++ [⟨#[115, 110, 97, 112, 115, 104, 111, 116, 46, 116, 109, 112]⟩] = M := ⟨_, rfl⟩
            have HEM : Hid (AS = M ++ Y.map segN) := by
              have h1 := HA.out
              have h2 := HTm.out
              simp only [if_true] at h2
              rw [h2] at h1
              rw [← hM]
              exact h1
            have hnews : Hid (∀ j u, [Value.string ⟨#[115, 110, 97, 112, 115, 104, 111, 116, 46, 116, 109, 112]⟩][j]? = some u → (wr.alloc (Obj.cells #[Value.string ⟨#[115, 110, 97, 112, 115, 104, 111, 116, 46, 116, 109, 112]⟩] 9)).cell? ((⟨wr.heap.size, 0, none⟩ : Addr).add j) = some u) := cell_one_new _ _ _
            have hMl : M.length ≤ 4097 := by rw [← hM, List.length_append]; simp; omega
            go_wp2_with (at_builtin; refine wpList_append_own_at _ rfl _ _ 27 rfl w2.heap.size 9 info _ 1 16 Tryd.underlying27 hinf hz0 hz1 hz2 rfl (by omega) u7 L.length (L.map Value.string) rfl (HO.out.row.alloc _) ⟨wr.heap.size, 0, none⟩ 1 1 [.string (⟨#[115, 110, 97, 112, 115, 104, 111, 116, 46, 116, 109, 112]⟩)] rfl rfl hnews.out (by simp [Value.oneCell']) (by unfold maxLen; omega) (by omega) (by simp; omega) ?_; intro v' w' ho' hg' hi' hat')
            have HM := hide (OwnS.app ho' hi')
            have HBM := hide (below_appS HBr.out HO.out hle3 hg')
            rw [hM] at HM
            clear HO HBr hM HA HTm ho' hg' hi' hat' hnews hml hle3
            go_wp2
            go_loopw [7, 9] (fun o i wr => ∃ k : Nat, k ≤ Y.length ∧ i = .int .i64 k ∧ Hid (OwnS w2.heap.size wr o (M ++ (Y.take k).map segN)) ∧ Hid (Below w2.heap.size w2 wr)) (fun _ i _ => Y.length - (intOf i).toNat)
            case atStart => exact ⟨0, Nat.zero_le _, rfl, by rw [List.take_zero, List.map_nil, List.append_nil]; exact HM.out, HBM.out⟩
            case round =>
              obtain ⟨k, hk, rfl, HO, HBr⟩ := hrel
              by_cases hlt : k < Y.length
              · obtain ⟨bl, rfl, hcx⟩ := Ints.at (HI2.out.below HBr.out) hlt
                have hxr := HYP.out Y[k] (List.getElem_mem hlt)
                have HSN := hide (take_snoc segN Y k hlt M)
                have hln := take_le segN Y k M
                obtain ⟨L, hL⟩ : ∃ L, M ++ (Y.take k).map segN = L := ⟨_, rfl⟩
                rw [hL] at HSN hln HO
                clear hL
                obtain ⟨x, hx⟩ : ∃ x, Y[k] = x := ⟨_, rfl⟩
                rw [hx] at hcx hxr HSN
                clear hx
                by_cases hx0 : x = 0
                · subst hx0
                  rw [show segN 0 = ⟨#[108, 111, 103]⟩ from rfl] at HSN
                  have hle3 : w2.heap.size ≤ wr.heap.size := HBr.out.size
                  have hnews : Hid (∀ j u, [Value.string ⟨#[108, 111, 103]⟩][j]? = some u → (wr.alloc (Obj.cells #[Value.string ⟨#[108, 111, 103]⟩] 9)).cell? ((⟨wr.heap.size, 0, none⟩ : Addr).add j) = some u) := cell_one_new _ _ _
                  clear hxr
                  go_wp2_with (at_builtin; refine wpList_append_own_at _ rfl _ _ 27 rfl w2.heap.size 9 info _ 1 16 Tryd.underlying27 hinf hz0 hz1 hz2 rfl (by omega) u7 L.length (L.map Value.string) rfl (HO.out.row.alloc _) ⟨wr.heap.size, 0, none⟩ 1 1 [.string (⟨#[108, 111, 103]⟩)] rfl rfl hnews.out (by simp [Value.oneCell']) (by unfold maxLen; omega) (by omega) (by simp; omega) ?_; intro v' w' ho' hg' hi' hat')
                  exact ⟨⟨k + 1, by omega, by go_num, by rw [HSN.out]; exact OwnS.app ho' hi', below_appS HBr.out HO.out hle3 hg'⟩, by simp [intOf]; omega⟩
                · have h1 : 0 < x := by omega
                  have HC := hide (itoaW x h1 hxr.2)
                  have hil := itoa_len h1 hxr.2
                  have e : segN x = ⟨#[108, 111, 103, 46]⟩ ++ ⟨(Lib.itoa x).toArray⟩ := by rw [cat]; exact if_neg hx0
                  have hb0 : (x == 0) = false := beq_eq_false_iff_ne.2 hx0
                  rw [e] at HSN
                  clear e hxr h1 hx0
                  generalize Lib.itoa x = t at *
                  go_wp2_with fail
                  refine (HC.out _).mono ?_
                  rintro e w3 ⟨rfl, hb⟩
                  have HO1 := hide (HO.out.later hb)
                  have HB1 := hide (HBr.out.trans (hb.mono HBr.out.size))
                  have hle3 : w2.heap.size ≤ w3.heap.size := HB1.out.size
                  have hnews : Hid (∀ j u, [Value.string (⟨#[108, 111, 103, 46]⟩ ++ ⟨t.toArray⟩)][j]? = some u → (w3.alloc (Obj.cells #[Value.string (⟨#[108, 111, 103, 46]⟩ ++ ⟨t.toArray⟩)] 9)).cell? ((⟨w3.heap.size, 0, none⟩ : Addr).add j) = some u) := cell_one_new _ _ _
                  clear hb HO HBr HC
                  go_wp2_with (at_builtin; refine wpList_append_own_at _ rfl _ _ 27 rfl w2.heap.size 9 info _ 1 16 Tryd.underlying27 hinf hz0 hz1 hz2 rfl (by omega) u7 L.length (L.map Value.string) rfl (HO1.out.row.alloc _) ⟨w3.heap.size, 0, none⟩ 1 1 [.string (⟨#[108, 111, 103, 46]⟩ ++ ⟨t.toArray⟩)] rfl rfl hnews.out (by simp [Value.oneCell']) (by unfold maxLen; omega) (by omega) (by simp; omega) ?_; intro v' w' ho' hg' hi' hat')
                  exact ⟨⟨k + 1, by omega, by go_num, by rw [HSN.out]; exact OwnS.app ho' hi', below_appS HB1.out HO1.out hle3 hg'⟩, by simp [intOf]; omega⟩
              · obtain rfl : k = Y.length := by omega
                rw [List.take_length] at HO
                have HAS : Hid (AS = M ++ Y.map segN) := HEM.out
                rw [← HAS.out] at HO
                clear HAS
                obtain ⟨pf, cf, rfl⟩ := HO.out.form
                have HF := hide (HB2.out.trans (HBr.out.mono hle2))
                have HO2 := hide (HO.out.base hle2)
                go_wp2
                go_ret
                exact ⟨_, rfl, HO2.out, HF.out⟩
end Go.Proofs.Qxb6602136aDoor
