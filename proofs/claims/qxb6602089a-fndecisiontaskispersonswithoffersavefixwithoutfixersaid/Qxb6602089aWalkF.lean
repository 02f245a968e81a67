import Derived.Test.Qxb6602089aWalkC
namespace Go.Proofs.Qxb6602089a
open Go.ChangeShapes Go.WideShapes Go.ChangeAt Go.RowKit

/-- What is kept of an offer: all but the word 'fix', or all. -/
def keeps (keep : Bool) (c : ByteArray) : Bool := keep || !decide (c.toList = [102, 105, 120])
def kept (keep : Bool) (ss : List ByteArray) : List ByteArray := ss.filter (keeps keep)

theorem keeps_no {keep : Bool} {c : ByteArray} (h : ¬ keeps keep c = true) : keep = false ∧ c.toList = [102, 105, 120] := by
  unfold keeps at h
  cases keep <;> simp at h
  exact ⟨rfl, h⟩
theorem kept_snoc (keep : Bool) (ss : List ByteArray) (k : Nat) (hk : k < ss.length) : kept keep (ss.take (k + 1)) = kept keep (ss.take k) ++ (if keeps keep ss[k] then [ss[k]] else []) := by
  unfold kept
  rw [List.take_succ_eq_append_getElem hk, List.filter_append]
  simp [List.filter_cons]

/-- What the slice of the kept ones is: nil where there is none; else a row of the call's own. -/
def Choices (B : Nat) (w : World) (v : Value) (xs : List ByteArray) : Prop := w.ownsRow B 9 1 v xs.length (xs.map Value.string) ∧ (v = .slice none 0 0 ↔ xs = [])

theorem choices_snoc {B : Nat} {w w' : World} {v v' : Value} {xs ys : List ByteArray} {c : ByteArray} (e : ys = xs ++ [c]) (_h : Choices B w v xs) (ho : w'.ownsRow B 9 1 v' (xs.length + 1) (xs.map Value.string ++ [.string c])) (hi : v' = .slice none 0 0 ↔ v = .slice none 0 0 ∧ 1 = 0) : Choices B w' v' ys := by
  subst e
  refine ⟨by simpa using ho, ?_⟩
  simp at hi
  simp [hi]

theorem choices_form {B : Nat} {w : World} {v : Value} {xs : List ByteArray} (h : Choices B w v xs) : ∃ p q r, v = .slice p q r := by
  rcases h.1.2 with ⟨rfl, _⟩ | ⟨g, cap, cur, rfl, _⟩
  · exact ⟨_, _, _, rfl⟩
  · exact ⟨_, _, _, rfl⟩

theorem ownsRow_base {w : World} {B B' : Nat} {e : TypeId} {size : Nat} {v : Value} {n : Nat} {xs : List Value} (h : w.ownsRow B e size v n xs) (hb : B' ≤ B) : w.ownsRow B' e size v n xs := by
  refine ⟨h.1, ?_⟩
  rcases h.2 with h | ⟨g, cap, cur, h1, h2, h3⟩
  · exact .inl h
  · exact .inr ⟨g, cap, cur, h1, Nat.le_trans hb h2, h3⟩

/-- A block below the row's is as it was, behind a new block and an append. -/
theorem grown_old {N : Nat} {w w' : World} {e : TypeId} {size : Nat} {v : Value} {n : Nat} {xs : List Value} {o ob : Obj} (h : w.ownsRow (N + 1) e size v n xs) (hx : w.heap[N]? = some ob) (hg : (w.alloc o).grownBy w' v.ownBlock) : w'.heap[N]? = some ob := by
  have hlt := (Array.getElem?_eq_some_iff.1 hx).1
  rw [hg.block N (by simp; omega) (fun e => by have := (h.lt N e.symm).1; omega), Below.heap_alloc _ _ _ hlt]
  exact hx

theorem below_step {N : Nat} {w0 w w' : World} {e : TypeId} {size : Nat} {v : Value} {n : Nat} {xs : List Value} {o : Obj} (hb : Below N w0 w) (h : w.ownsRow (N + 1) e size v n xs) (hle : N + 1 ≤ w.heap.size) (hg : (w.alloc o).grownBy w' v.ownBlock) : Below N w0 w' :=
  (hb.alloc (by omega) o).grown hg (by simp; omega) (fun k hk => by have := (h.lt k hk).1; omega)

set_option maxHeartbeats 1000000 in
theorem decisionW (nm fx rn : ByteArray) (x : Option Addr) (y z : Nat) (a : Option Addr) (c : Nat) (ss : List ByteArray) (w : World) (hs : StrsAt w a ss) (hn : ss.length ≤ 4096) (keep : Bool) (hkp : fx.toList.isEmpty = !keep) :
    Calls Try.prog 29 #[.agg #[.string nm, .string fx, .slice x y z], .string rn, .slice a ss.length c] w fun e w' => ∃ g v, e = .returned (.pointer (some ⟨g, 0, none⟩)) ∧ Choices w.heap.size w' v (kept keep ss) ∧
      w'.heap[g]? = some (.cells #[.string ⟨#[]⟩, .string ⟨#[112, 101, 114, 115, 111, 110]⟩, .string ⟨#[100, 101, 99, 105, 115, 105, 111, 110]⟩, .string ⟨#[]⟩, .string ⟨#[]⟩, .slice none 0 0, .string rn, .string ⟨#[]⟩, v, .string ⟨#[]⟩, .pointer none, .pointer none] 45 (0, 0)) ∧ Below w.heap.size w w' := by
  obtain ⟨info, hinf, hz0, hz1, hz2⟩ := info_parts Try.info9
  have HS := hide hs
  clear hs
  go_enter Try.func29, Try.ntmps29
  go_wp2
  go_loopw [7, 12] (fun v i wr => ∃ (k : Nat), i = .int .i64 k ∧ k ≤ ss.length ∧ Hid (Choices (w.heap.size + 1) wr v (kept keep (ss.take k))) ∧ Hid (wr.heap[w.heap.size]? = some (.cells #[.string nm, .string fx, .slice x y z] 28 (0, 0))) ∧ Hid (Below w.heap.size w wr)) (fun _ i _ => ss.length - (intOf i).toNat)
  case atStart => exact ⟨0, rfl, Nat.zero_le _, ⟨World.ownsRow_nil _ _ _ _, by simp [kept]⟩, heap_alloc_new w _, (Below.refl _ _).alloc (Nat.le_refl _) _⟩
  case round =>
    obtain ⟨k, rfl, hk, HC, HX, HB⟩ := hrel
    by_cases hlt : k < ss.length
    · obtain ⟨b, off, rfl, g1⟩ := StrsAt.at HS.out hlt
      replace g1 := cell_later HB.out g1
      have c1 : wr.cell? ⟨w.heap.size, 1, none⟩ = some (.string fx) := by rw [cell_of_row wr _ _ _ _ _ HX.out]; rfl
      have hkl : (kept keep (ss.take k)).length ≤ k := by
        have := List.length_filter_le (keeps keep) (ss.take k)
        rw [List.length_take] at this
        unfold kept
        omega
      have hsn := hide (kept_snoc keep ss k hlt)
      have hle : w.heap.size + 1 ≤ wr.heap.size := (Array.getElem?_eq_some_iff.1 HX.out).1
      by_cases hkq : keeps keep ss[k] = true
      · -- it is kept
        have hnext : Hid (kept keep (ss.take (k + 1)) = kept keep (ss.take k) ++ [ss[k]]) := by
          have := hsn.out; rw [if_pos hkq] at this; exact this
        have hnews : Hid (∀ j u, [Value.string ss[k]][j]? = some u → (wr.alloc (Obj.cells #[Value.string ss[k]] 9)).cell? ((⟨wr.heap.size, 0, none⟩ : Addr).add j) = some u) := cell_one_new _ _ _
        by_cases hq : ss[k].toList = [102, 105, 120]
        · have hk1 : keep = true := by unfold keeps at hkq; simpa [hq] using hkq
          clear hkq hsn
          subst hk1
          go_wp2_with (at_builtin; refine wpList_append_own _ rfl _ _ 30 rfl (w.heap.size + 1) 9 info _ 1 16 Try.underlying30 hinf hz0 hz1 hz2 rfl (by omega) u7 _ _ rfl (HC.out.1.alloc _) ⟨wr.heap.size, 0, none⟩ 1 1 [.string ss[k]] rfl rfl hnews.out (by simp [Value.oneCell']) (by unfold maxLen; omega) (by omega) (by simp; omega) ?_; intro v' w' ho' hg' hi')
          exact ⟨⟨k + 1, by go_num, by omega, choices_snoc hnext.out HC.out ho' hi', grown_old HC.out.1 HX.out hg', below_step HB.out HC.out.1 hle hg'⟩, by simp [intOf]; omega⟩
        · clear hkq hsn
          go_wp2_with (at_builtin; refine wpList_append_own _ rfl _ _ 30 rfl (w.heap.size + 1) 9 info _ 1 16 Try.underlying30 hinf hz0 hz1 hz2 rfl (by omega) u7 _ _ rfl (HC.out.1.alloc _) ⟨wr.heap.size, 0, none⟩ 1 1 [.string ss[k]] rfl rfl hnews.out (by simp [Value.oneCell']) (by unfold maxLen; omega) (by omega) (by simp; omega) ?_; intro v' w' ho' hg' hi')
          exact ⟨⟨k + 1, by go_num, by omega, choices_snoc hnext.out HC.out ho' hi', grown_old HC.out.1 HX.out hg', below_step HB.out HC.out.1 hle hg'⟩, by simp [intOf]; omega⟩
      · -- it is left out
        have hnext : Hid (kept keep (ss.take (k + 1)) = kept keep (ss.take k)) := by
          have := hsn.out; rw [if_neg hkq, List.append_nil] at this; exact this
        obtain ⟨hk2, hq⟩ := keeps_no hkq
        clear hkq hsn
        subst hk2
        go_wp2
        exact ⟨⟨k + 1, by go_num, by omega, by rw [hnext.out]; exact HC.out, HX.out, HB.out⟩, by simp [intOf]; omega⟩
    · obtain rfl : k = ss.length := by omega
      obtain ⟨p, q, r, rfl⟩ := choices_form HC.out
      go_wp2
      go_ret
      have hc := HC.out
      rw [List.take_length] at hc
      refine ⟨wr.heap.size, _, rfl, ⟨(ownsRow_base hc.1 (by omega)).alloc _, hc.2⟩, heap_alloc_new wr _, HB.out.alloc HB.out.size _⟩
end Go.Proofs.Qxb6602089a
