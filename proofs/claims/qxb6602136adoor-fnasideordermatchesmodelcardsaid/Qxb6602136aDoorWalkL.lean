/-
  slices.Backward at []int64: its contract, after the guide's text on slices.All.
-/
import Derived.RangeFuncBox
import Derived.RangeFuncLeaves
import Derived.RangeFuncNested
import Derived.RangeFuncBound
import Derived.RangeFuncCalls
import Derived.Shelf.Abstract
import Derived.Shelf.RegionOpen
import Derived.WalkKit
import Derived.OwnWalkIn
import Derived.TacticsInMore
import Derived.LoopNIn
import Derived.LoopIn
import Derived.Maps.AppendAt
import Derived.Test.Qxb6602136aDoorBase
namespace Go.Proofs.Qxb6602136aDoor
open Go.RowKit Go.Shelf

attribute [local go_sem] Oper.semAt_some

/-- What has come when k rounds are over. -/
def upto {α : Type} (f : Nat → α) (k : Nat) : List α := (List.range k).map f
theorem upto_succ {α : Type} (f : Nat → α) (k : Nat) : upto f (k + 1) = upto f k ++ [f k] := by simp [upto, List.range_succ]
theorem upto_length {α : Type} (f : Nat → α) (k : Nat) : (upto f k).length = k := by simp [upto]

/-- What a round keeps: what lay below n₀, and the iterator's own box. -/
def Kb (n₀ Bs : Nat) (A B : World) : Prop := Below n₀ A B ∧ B.heap[Bs]? = A.heap[Bs]?
theorem kb_t {n₀ Bs : Nat} {A B C : World} (h : Kb n₀ Bs A B) (k : Kb n₀ Bs B C) : Kb n₀ Bs A C := ⟨h.1.trans k.1, k.2.trans h.2⟩
theorem kb_refl (n₀ Bs : Nat) (A : World) : Kb n₀ Bs A A := ⟨Below.refl _ _, rfl⟩
theorem kb_b {n₀ Bs : Nat} {w : World} (hn : n₀ ≤ w.heap.size) (hb : Bs < w.heap.size) (W : World) (l : Nat) (o o' : Obj) (hl : w.heap.size ≤ l) (h : W.heap[l]? = some o) (h1 : o.isCells = false) (h2 : o.isWalk = false) : Kb n₀ Bs W (W.putObj l o') := by
  refine ⟨belowK_b hn W l o o' hl h h1 h2, ?_⟩
  have hlt := (Array.getElem?_eq_some_iff.1 h).1
  exact (grownBy_putObj' W l o').block Bs (by omega) (fun e => by injection e with e; omega)
theorem Kb.cell {n₀ Bs : Nat} {A B : World} (h : Kb n₀ Bs A B) : B.cell? ⟨Bs, 0, none⟩ = A.cell? ⟨Bs, 0, none⟩ := World.cell?_of_block h.2

/-- The j-th that comes: the last first. -/
abbrev P64 : Type := { x : Nat × Int // 0 < x.2 ∧ x.2 ≤ 9223372036854775807 }
def Pos (zs : List Int) : Prop := ∀ x ∈ zs, 0 < x ∧ x ≤ 9223372036854775807
theorem Pos.at {zs : List Int} (h : Pos zs) (k : Nat) : 0 < zs[k]?.getD 1 ∧ zs[k]?.getD 1 ≤ 9223372036854775807 := by
  by_cases hk : k < zs.length
  · rw [List.getElem?_eq_getElem hk]; exact h _ (List.getElem_mem hk)
  · rw [List.getElem?_eq_none (by omega)]; decide
def bk (zs : List Int) (hz : Pos zs) (j : Nat) : P64 := ⟨(zs.length - 1 - j, zs[zs.length - 1 - j]?.getD 1), hz.at _⟩

set_option maxRecDepth 100000 in
set_option maxHeartbeats 2000000 in
/-- The closure of slices.Backward: for every loop body that keeps what lay below n₀ and the iterator's box. -/
theorem back1_in (F : Fence) (n : Nat) (h8 : F.fn 48) (hro : F.round = none) (hn : 1 ≤ n) (l Bs n₀ b cap : Nat) (zs : List Int) (hz : Pos zs) (hreach : zs.length ≤ 4096) (hb : b < n₀) (J Jx : List P64 → World → Prop)
    (hY : ∀ pre x W, J pre W → pre.length < zs.length → YieldAt F (n - 1) Tryd.prog l #[.int .i64 (x.1.1 : Int), .int .i64 x.1.2] W fun e W' =>
      (e = .returned (.bool true) ∧ J (pre ++ [x]) W' ∧ Kb n₀ Bs W W') ∨ (e = .returned (.bool false) ∧ Jx (pre ++ [x]) W'))
    (W : World) (hBs : W.cell? ⟨Bs, 0, none⟩ = some (.slice (some ⟨b, 0, none⟩) zs.length cap)) (hc : ∀ j, j < zs.length → W.cell? ⟨b, j, none⟩ = some (.int .i64 (zs[j]?.getD 1))) (h0 : J [] W) :
    CallsIn F n Tryd.prog 48 #[.func (.yield l) #[] #[], .pointer (some ⟨Bs, 0, none⟩)] W fun e W' => (∃ v, e = .returned v) ∧
      ((∃ ys, ys = upto (bk zs hz) zs.length ∧ J ys W') ∨ (∃ pre, (∃ k, k ≤ zs.length ∧ pre = upto (bk zs hz) k) ∧ Jx pre W')) := by
  refine callsIn_of_wp Tryd.func48 rfl h8 ?_ hro
  simp only [Tryd.ntmps48, List.size_toArray, List.length_cons, List.length_nil, Nat.reduceAdd, Nat.reduceSub, Array.replicate_succ, Array.replicate_zero, List.push_toArray, List.append_toArray, List.nil_append, List.cons_append]
  gi_wp2
  gi_loopw [3] (fun i wr => ∃ k : Nat, k ≤ zs.length ∧ i = .int .i64 ((zs.length : Int) - 1 - k) ∧ J (upto (bk zs hz) k) wr ∧ Kb n₀ Bs W wr)
    (fun i _ => (intOf i + 1).toNat)
  case atStart => exact ⟨0, Nat.zero_le _, by simp, h0, kb_refl _ _ _⟩
  case round =>
    obtain ⟨k, hk, rfl, hJs, hnx⟩ := hrel
    by_cases hlt : k < zs.length
    · have hcx : wr.cell? ⟨b, zs.length - 1 - k, none⟩ = some (.int .i64 (zs[zs.length - 1 - k]?.getD 1)) := (hnx.1.cell (p := ⟨b, zs.length - 1 - k, none⟩) hb).trans (hc _ (by omega))
      have hBw := hnx.cell.trans hBs
      obtain ⟨fn, tmps, assign, body, hy, hR⟩ := hY _ (bk zs hz k) wr hJs (by rw [upto_length]; exact hlt)
      rw [← upto_succ] at hR
      unfold bk at hy
      dsimp only at hy
      obtain ⟨m, hm⟩ : ∃ m : Nat, zs.length - 1 - k = m := ⟨_, rfl⟩
      have e1 : ((zs.length : Int) - 1 - k) = (m : Int) := by omega
      have hml : m < zs.length := by omega
      rw [hm] at hcx hy
      rw [e1]
      have hm2 : Hid (m + k + 1 = zs.length) := show _ = _ by omega
      clear hm e1
      generalize zs[m]?.getD 1 = x at *
      gi_wp2
      refine hR.mono ?_
      rintro e W3 (⟨rfl, hJ3, hk3⟩ | ⟨rfl, hJx3⟩)
      · gi_wp2
        go_roundw
        case rel => exact ⟨k + 1, hlt, by have := hm2.out; congr 1; omega, hJ3, kb_t hnx hk3⟩
        case measure => simp [intOf]
      · gi_wp2
        refine bodyPost_ret (results_none rfl _ _ _) rfl ?_
        exact ⟨⟨_, rfl⟩, .inr ⟨_, ⟨k + 1, hlt, rfl⟩, hJx3⟩⟩
    · obtain rfl : k = zs.length := by omega
      have e1 : ((zs.length : Int) - 1 - zs.length) = -1 := by omega
      rw [e1]
      gi_wp2
      go_end0
      exact ⟨⟨_, rfl⟩, .inl ⟨_, rfl, hJs⟩⟩

set_option maxRecDepth 100000 in
set_option maxHeartbeats 1000000 in
/-- .. at the nil slice: no round. -/
theorem back1_nil_in (F : Fence) (n : Nat) (h8 : F.fn 48) (hro : F.round = none) (l Bs : Nat) (J : List P64 → World → Prop) (W : World) (hBs : W.cell? ⟨Bs, 0, none⟩ = some (.slice none 0 0)) (h0 : J [] W) :
    CallsIn F n Tryd.prog 48 #[.func (.yield l) #[] #[], .pointer (some ⟨Bs, 0, none⟩)] W fun e W' => (∃ v, e = .returned v) ∧ J [] W' := by
  refine callsIn_of_wp Tryd.func48 rfl h8 ?_ hro
  simp only [Tryd.ntmps48, List.size_toArray, List.length_cons, List.length_nil, Nat.reduceAdd, Nat.reduceSub, Array.replicate_succ, Array.replicate_zero, List.push_toArray, List.append_toArray, List.nil_append, List.cons_append]
  gi_wp2
  gi_loopw [3] (fun i wr => i = .int .i64 (-1) ∧ J [] wr) (fun _ _ => 0)
  case atStart => exact ⟨rfl, h0⟩
  case round =>
    obtain ⟨rfl, hJs⟩ := hrel
    gi_wp2
    go_end0
    exact ⟨⟨_, rfl⟩, hJs⟩

set_option maxHeartbeats 1000000 in
/-- slices.Backward(s): the slice value is boxed; the function value captures the box. -/
theorem back_in (F : Fence) (n : Nat) (h6 : F.fn 38) (hro : F.round = none) (a : Option Addr) (len cap : Nat) (w : World) :
    CallsIn F n Tryd.prog 38 #[.slice a len cap] w fun e w' => e = .returned (.func (.func 48) #[] #[.pointer (some ⟨w.heap.size, 0, none⟩)]) ∧ w' = w.alloc (.cells #[.slice a len cap] 30) := by
  refine callsIn_of_wp Tryd.func38 rfl h6 ?_ hro
  simp only [Tryd.ntmps38, List.size_toArray, List.length_cons, List.length_nil, Nat.reduceAdd, Nat.reduceSub, Array.replicate_succ, Array.replicate_zero, List.push_toArray, List.append_toArray, List.nil_append, List.cons_append]
  gi_wp2
  go_ret
  exact ⟨rfl, rfl⟩

/-- The slice value sv holds zs, in a block below n₀; or it is nil and there are none. -/
def Ints (n₀ : Nat) (W : World) (sv : Value) (zs : List Int) : Prop :=
  (sv = .slice none 0 0 ∧ zs = []) ∨ ∃ b cap, sv = .slice (some ⟨b, 0, none⟩) zs.length cap ∧ b < n₀ ∧ ∀ j, j < zs.length → W.cell? ⟨b, j, none⟩ = some (.int .i64 (zs[j]?.getD 1))
theorem Ints.below {n₀ : Nat} {A B : World} (h : Below n₀ A B) {sv : Value} {zs : List Int} : Ints n₀ A sv zs → Ints n₀ B sv zs
  | .inl e => .inl e
  | .inr ⟨b, cap, e, hb, hc⟩ => .inr ⟨b, cap, e, hb, fun j hj => (h.cell (p := ⟨b, j, none⟩) hb).trans (hc j hj)⟩

/-- What slices.Backward(s) hands back: all, the last first; or the first k of them. -/
theorem back_stops (F : Fence) (n : Nat) (h8 : F.fn 48) (hro : F.round = none) (hn : 1 ≤ n) (Bs n₀ : Nat) (sv : Value) (zs : List Int) (hz : Pos zs) (hreach : zs.length ≤ 4096) (w : World) (hBs : Bs < w.heap.size) (hn₀ : n₀ ≤ w.heap.size)
    (hc : w.cell? ⟨Bs, 0, none⟩ = some sv) (hI : Ints n₀ w sv zs) :
    SeqStopsK F n Tryd.prog 48 #[.pointer (some ⟨Bs, 0, none⟩)] (fun x : P64 => #[Value.int .i64 (x.1.1 : Int), Value.int .i64 x.1.2]) (Kb n₀ Bs) (fun ys => ys = upto (bk zs hz) zs.length)
      (fun pre => ∃ k, k ≤ zs.length ∧ pre = upto (bk zs hz) k) zs.length w := fun l J Jx W hW _ _ hY h0 => by
  have hc' := (hW.cell (p := ⟨Bs, 0, none⟩) hBs).trans hc
  rcases hI.below (hW.mono hn₀) with ⟨rfl, rfl⟩ | ⟨b, cap, rfl, hb, hcs⟩
  · exact (back1_nil_in F n h8 hro l Bs J W hc' h0).mono fun e W' ⟨he, hj⟩ => ⟨he, .inl ⟨_, rfl, hj⟩⟩
  · exact back1_in F n h8 hro hn l Bs n₀ b cap zs hz hreach hb J Jx hY W hc' hcs h0

theorem back_vals (zs : List Int) (hz : Pos zs) : (upto (bk zs hz) zs.length).map (·.1.2) = zs.reverse := by
  apply List.ext_getElem
  · simp [upto]
  · intro i h1 h2
    simp [upto] at h1
    have h3 : zs.length - 1 - i < zs.length := by omega
    simp [upto, bk, h3]
end Go.Proofs.Qxb6602136aDoor
