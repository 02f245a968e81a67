import Derived.Test.Qxb6602136aDoorWalkI
namespace Go.Proofs.Qxb6602136aDoor
open Go.ChangeShapes Go.WideShapes Go.ChangeAt Go.RowKit Go.Sort

/-- It hands back a bool; if that is false, 'p' holds. -/
def BoolF (e : Ending) (p : Prop) : Prop := ∃ b, e = .returned (.bool b) ∧ (b = false → p)
theorem BoolF.yes {p : Prop} : BoolF (.returned (.bool true)) p := ⟨true, rfl, fun h => by cases h⟩
theorem BoolF.no {p : Prop} (h : p) : BoolF (.returned (.bool false)) p := ⟨false, rfl, fun _ => h⟩
/-- Each of the first k names is short. -/
def Fit (ss : List ByteArray) (k : Nat) : Prop := ∀ j (h : j < ss.length), j < k → ss[j].size ≤ 1048576
theorem Fit.zero (ss : List ByteArray) : Fit ss 0 := fun j _ h => by omega
theorem Fit.succ {ss : List ByteArray} {k : Nat} (h : Fit ss k) (hk : k < ss.length) (hs : ss[k].size ≤ 1048576) : Fit ss (k + 1) := by
  intro j hj hjk
  by_cases e : j = k
  · subst e; exact hs
  · exact h j hj (by omega)

set_option maxHeartbeats 400000 in
theorem bytes14W (a : Option Addr) (c : Nat) (ss : List ByteArray) (w : World) (hs : StrsAt w a ss) (hn : ss.length ≤ maxLen) :
    Calls Tryd.prog 14 #[.slice a ss.length c] w fun e w' => BoolT e (Fit ss ss.length) ∧ w = w' := by
  unfold maxLen at hn
  have HS := hide hs
  clear hs
  go_enter Tryd.func14, Tryd.ntmps14
  go_wp2
  all_goals (try (go_ret; exact ⟨BoolT.no, rfl⟩))
  go_loop [3, 4] (fun z i => ∃ (x : Int) (k : Nat), k ≤ ss.length ∧ i = .int .i64 k ∧ z = .int .i64 x ∧ 0 ≤ x ∧ x ≤ 1048576 ∧ Hid (Fit ss k)) (fun _ i => ss.length - (intOf i).toNat)
  case atStart => exact ⟨_, 0, Nat.zero_le _, rfl, rfl, by omega, by omega, Fit.zero ss⟩
  case round =>
    obtain ⟨x, k, hk, rfl, rfl, hx0, hx1, HF⟩ := hrel
    by_cases hlt : k < ss.length
    · obtain ⟨b, off, rfl, g1⟩ := StrsAt.at HS.out hlt
      by_cases hsz : ss[k].size ≤ 1048576
      · have HF2 := hide (HF.out.succ hlt hsz)
        clear HF
        generalize ss[k] = s at *
        go_wp2
        all_goals (try (go_ret; exact ⟨BoolT.no, rfl⟩))
        go_round
        case rel => exact ⟨_, k + 1, by omega, by go_num, rfl, by omega, by omega, HF2⟩
        case measure => simp [intOf]; omega
      · generalize ss[k] = s at *
        go_wp2
        go_ret
        exact ⟨BoolT.no, rfl⟩
    · obtain rfl : k = ss.length := by omega
      go_wp2
      go_ret
      exact ⟨BoolT.yes HF.out, rfl⟩

set_option maxHeartbeats 400000 in
theorem bytes20W (a : Option Addr) (c : Nat) (ss : List ByteArray) (w : World) (hs : StrsAt w a ss) (hn : ss.length ≤ maxLen) :
    Calls Tryd.prog 20 #[.slice a ss.length c] w fun e w' => BoolT e (Fit ss ss.length) ∧ w = w' := by
  unfold maxLen at hn
  have HS := hide hs
  clear hs
  go_enter Tryd.func20, Tryd.ntmps20
  go_wp2
  all_goals (try (go_ret; exact ⟨BoolT.no, rfl⟩))
  go_loop [3, 4] (fun z i => ∃ (x : Int) (k : Nat), k ≤ ss.length ∧ i = .int .i64 k ∧ z = .int .i64 x ∧ 0 ≤ x ∧ x ≤ 1048576 ∧ Hid (Fit ss k)) (fun _ i => ss.length - (intOf i).toNat)
  case atStart => exact ⟨_, 0, Nat.zero_le _, rfl, rfl, by omega, by omega, Fit.zero ss⟩
  case round =>
    obtain ⟨x, k, hk, rfl, rfl, hx0, hx1, HF⟩ := hrel
    by_cases hlt : k < ss.length
    · obtain ⟨b, off, rfl, g1⟩ := StrsAt.at HS.out hlt
      by_cases hsz : ss[k].size ≤ 1048576
      · have HF2 := hide (HF.out.succ hlt hsz)
        clear HF
        generalize ss[k] = s at *
        go_wp2
        all_goals (try (go_ret; exact ⟨BoolT.no, rfl⟩))
        go_round
        case rel => exact ⟨_, k + 1, by omega, by go_num, rfl, by omega, by omega, HF2⟩
        case measure => simp [intOf]; omega
      · generalize ss[k] = s at *
        go_wp2
        go_ret
        exact ⟨BoolT.no, rfl⟩
    · obtain rfl : k = ss.length := by omega
      go_wp2
      go_ret
      exact ⟨BoolT.yes HF.out, rfl⟩

set_option maxHeartbeats 400000 in
theorem bytes22W (a : Option Addr) (c : Nat) (ss : List ByteArray) (w : World) (hs : StrsAt w a ss) (hn : ss.length ≤ maxLen) :
    Calls Tryd.prog 22 #[.slice a ss.length c] w fun e w' => BoolT e (Fit ss ss.length) ∧ w = w' := by
  unfold maxLen at hn
  have HS := hide hs
  clear hs
  go_enter Tryd.func22, Tryd.ntmps22
  go_wp2
  all_goals (try (go_ret; exact ⟨BoolT.no, rfl⟩))
  go_loop [3, 4] (fun z i => ∃ (x : Int) (k : Nat), k ≤ ss.length ∧ i = .int .i64 k ∧ z = .int .i64 x ∧ 0 ≤ x ∧ x ≤ 1048576 ∧ Hid (Fit ss k)) (fun _ i => ss.length - (intOf i).toNat)
  case atStart => exact ⟨_, 0, Nat.zero_le _, rfl, rfl, by omega, by omega, Fit.zero ss⟩
  case round =>
    obtain ⟨x, k, hk, rfl, rfl, hx0, hx1, HF⟩ := hrel
    by_cases hlt : k < ss.length
    · obtain ⟨b, off, rfl, g1⟩ := StrsAt.at HS.out hlt
      by_cases hsz : ss[k].size ≤ 1048576
      · have HF2 := hide (HF.out.succ hlt hsz)
        clear HF
        generalize ss[k] = s at *
        go_wp2
        all_goals (try (go_ret; exact ⟨BoolT.no, rfl⟩))
        go_round
        case rel => exact ⟨_, k + 1, by omega, by go_num, rfl, by omega, by omega, HF2⟩
        case measure => simp [intOf]; omega
      · generalize ss[k] = s at *
        go_wp2
        go_ret
        exact ⟨BoolT.no, rfl⟩
    · obtain rfl : k = ss.length := by omega
      go_wp2
      go_ret
      exact ⟨BoolT.yes HF.out, rfl⟩

set_option maxHeartbeats 400000 in
theorem tooBigW (a : Option Addr) (c : Nat) (ss : List ByteArray) (w : World) (hs : StrsAt w a ss) (hn : ss.length ≤ maxLen) (hf : Fit ss ss.length) :
    Calls Tryd.prog 15 #[.slice a ss.length c] w fun e w' => BoolF e (ss.length ≤ 4096) ∧ w = w' := by
  unfold maxLen at hn
  have HS := hide hs
  have HF := hide hf
  clear hs hf
  by_cases h4 : 4096 < ss.length
  · have h4' : (4096 : Int) < ss.length := by omega
    go_enter Tryd.func15, Tryd.ntmps15
    go_wp2
    go_ret
    exact ⟨BoolF.yes, rfl⟩
  have h4' : ¬ (4096 : Int) < ss.length := by omega
  have h5 : ss.length ≤ 4096 := by omega
  go_enter Tryd.func15, Tryd.ntmps15
  go_wp2
  go_loop [3, 4] (fun z i => ∃ (x : Int) (k : Nat), k ≤ ss.length ∧ i = .int .i64 k ∧ z = .int .i64 x ∧ 0 ≤ x ∧ x ≤ 1048576) (fun _ i => ss.length - (intOf i).toNat)
  case atStart => exact ⟨_, 0, Nat.zero_le _, rfl, rfl, by omega, by omega⟩
  case round =>
    obtain ⟨x, k, hk, rfl, rfl, hx0, hx1⟩ := hrel
    by_cases hlt : k < ss.length
    · obtain ⟨b, off, rfl, g1⟩ := StrsAt.at HS.out hlt
      have hsz := HF.out k hlt hlt
      generalize ss[k] = s at *
      go_wp2
      all_goals (try (go_ret; exact ⟨BoolF.yes, rfl⟩))
      go_round
      case rel => exact ⟨_, k + 1, by omega, by go_num, rfl, by omega, by omega⟩
      case measure => simp [intOf]; omega
    · obtain rfl : k = ss.length := by omega
      go_wp2
      go_ret
      exact ⟨⟨_, rfl, fun _ => trivial⟩, rfl⟩

/-- Block g holds the strings 'f 0', 'f 1', .. from its head on, 'n' of them laid; it has 'm' cells. -/
def Blk (w : World) (g : Nat) (m : Nat) (n : Nat) (f : Nat → Value) : Prop :=
  ∃ cs : Array Value, w.heap[g]? = some (.cells cs 9 (0, 0)) ∧ cs.size = m ∧ ∀ j, j < n → cs[j]? = some (f j)

section
variable {w w' : World} {g : Nat} {m n : Nat} {f : Nat → Value}
theorem Blk.cell (h : Blk w g m n f) {j : Nat} (hj : j < n) : w.cell? ⟨g, j, none⟩ = some (f j) := by
  obtain ⟨cs, hg, hs, hc⟩ := h
  rw [cell_of_row w g _ cs 9 _ hg]; exact hc j hj
theorem Blk.room (h : Blk w g m n f) {o : Nat} (ho : o < m) : ∃ v, w.cell? ⟨g, o, none⟩ = some v ∧ w.frozen? ⟨g, o, none⟩ = false := by
  obtain ⟨cs, hg, hs, hc⟩ := h
  refine ⟨cs[o]'(by omega), ?_, frozen_of_row w g o cs 9 hg⟩
  rw [cell_of_row w g _ cs 9 _ hg]
  simp [show o < cs.size by omega]
theorem Blk.snoc (h : Blk w g m n f) (hn : n < m) : Blk (w.setCell ⟨g, n, none⟩ (f n)) g m (n + 1) f := by
  obtain ⟨cs, hg, hs, hc⟩ := h
  refine ⟨_, heap_setCell_same _ g _ cs 9 _ hg, by simp [hs], fun j hj => ?_⟩
  by_cases ej : j = n
  · subst ej; rw [Array.getElem?_setIfInBounds_self_of_lt (by omega)]
  · rw [Array.getElem?_setIfInBounds_ne (by omega)]; exact hc j (by omega)
end

def made1 (n : Nat) : Array Value := madeCells #[.string ⟨#[]⟩] n
theorem size_made1 (n : Nat) : (made1 n).size = n := size_madeCells _ _
theorem Tryd.info9 : (Tryd.prog.info? 9).map (fun i => (i.zero, i.size, i.bytes)) = some (some (.string ⟨#[]⟩), 1, 16) := by kernel_rfl

theorem run_make1 (n : Nat) (hn : n ≤ 1048576) (w : World) :
    (Instr.makeSlice 27 (.int .i64 (n : Int)) (.int .i64 (n : Int))).run Tryd.prog w = .ok (.slice (some ⟨w.heap.size, 0, none⟩) n n) (w.alloc (.cells (made1 n) 9)) := by
  obtain ⟨i, hi, hz0, hz1, hz2⟩ := info_parts Tryd.info9
  have := run_make (P := Tryd.prog) w 27 9 i _ Tryd.underlying27 hi hz0 .i64 .i64 (n : Int) (n : Int) (by omega) (Int.le_refl _) (by rw [hz2]; omega) (by omega)
  rw [hz1] at this
  simpa [made1, Value.cells] using this

set_option maxHeartbeats 400000 in
theorem cloneStrs1 (a : Addr) (c : Nat) (ss : List ByteArray) (w : World) (hs : StrsAt w (some a) ss) (hn : ss.length ≤ 1048576) :
    Calls Tryd.prog 16 #[.slice (some a) ss.length c] w fun e w' => e = .returned (.slice (some ⟨w.heap.size, 0, none⟩) ss.length ss.length) ∧ Blk w' w.heap.size ss.length ss.length (fun j => .string (ss.getD j ⟨#[]⟩)) ∧ Below w.heap.size w w' := by
  have HS := hide hs
  clear hs
  have hmk := run_make1 ss.length hn
  have hnil := fun w => Lib.run_eql_slice_nil (P := Tryd.prog) w 27 9 (some a) ss.length c 0 0 Tryd.underlying27
  go_enter Tryd.func16, Tryd.ntmps16
  go_wp2
  clear hmk hnil
  go_loopw [4] (fun i wr => ∃ (k : Nat), i = .int .i64 k ∧ k ≤ ss.length ∧ Hid (Blk wr w.heap.size ss.length k (fun j => .string (ss.getD j ⟨#[]⟩))) ∧ Hid (Below w.heap.size w wr)) (fun i _ => ss.length - (intOf i).toNat)
  case atStart => exact ⟨0, rfl, Nat.zero_le _, ⟨made1 ss.length, heap_alloc_new w _, size_made1 _, fun j hj => absurd hj (Nat.not_lt_zero _)⟩, (Below.refl _ _).alloc (Nat.le_refl _) _⟩
  case round =>
    obtain ⟨k, rfl, hk, HK, HB⟩ := hrel
    by_cases hlt : k < ss.length
    · obtain ⟨b, off, e, h1⟩ := StrsAt.at HS.out hlt
      obtain rfl : a = ⟨b, off, none⟩ := by simpa using e
      replace h1 := cell_later HB.out h1
      obtain ⟨v, c1, f1⟩ := Blk.room HK.out (o := k) (by omega)
      clear e
      go_wp2
      go_roundw
      case rel =>
        refine ⟨k + 1, by go_num, by omega, ?_, ?_⟩
        · have := Blk.snoc HK.out (by omega)
          rw [show ss.getD k ⟨#[]⟩ = ss[k] by simp [List.getD, hlt]] at this
          exact this
        · exact HB.out.setCell (p := ⟨_, _, _⟩) (Nat.le_refl _) _
      case measure => simp [intOf]; omega
    · go_wp2
      go_ret
      obtain rfl : k = ss.length := by omega
      exact ⟨rfl, HK.out, HB.out⟩

theorem cloneStrs0 (w : World) : Calls Tryd.prog 16 #[.slice none 0 0] w fun e w' => e = .returned (.slice none 0 0) ∧ w = w' := by
  have hnil := fun w => Lib.run_eql_slice_nil (P := Tryd.prog) w 27 9 none 0 0 0 0 Tryd.underlying27
  go_enter Tryd.func16, Tryd.ntmps16
  go_wp2
  go_ret
  exact ⟨rfl, rfl⟩

/-- The clone of a slice of strings: the same strings. -/
theorem cloneStrsW (a : Option Addr) (c : Nat) (ss : List ByteArray) (w : World) (hs : StrsAt w a ss) (h0 : a = none → ss = [] ∧ c = 0) (hn : ss.length ≤ 1048576) :
    Calls Tryd.prog 16 #[.slice a ss.length c] w fun e w' => ∃ a' c', e = .returned (.slice a' ss.length c') ∧ StrsAt w' a' ss ∧ Below w.heap.size w w' := by
  cases a with
  | none =>
    obtain ⟨rfl, rfl⟩ := h0 rfl
    refine (cloneStrs0 w).mono ?_
    rintro e w' ⟨rfl, rfl⟩
    exact ⟨none, 0, rfl, .inl rfl, Below.refl _ _⟩
  | some a =>
    refine (cloneStrs1 a c ss w hs hn).mono ?_
    rintro e w' ⟨rfl, h1, h2⟩
    refine ⟨_, _, rfl, .inr ⟨_, 0, rfl, fun j hj => ?_⟩, h2⟩
    rw [Nat.zero_add, h1.cell hj]
    simp [List.getD, hj]

theorem zzLogFilesW (a : Option Addr) (c : Nat) (ss : List ByteArray) (w : World) (hv : Vars w) (hs : StrsAt w a ss) (hn : ss.length ≤ 4096) (hf : Fit ss ss.length) :
    Calls Tryd.prog 17 #[.slice a ss.length c] w fun e w' => ∃ v u, e = .returned (.tuple #[v, u]) ∧ Two w.heap.size w' v u (srt (snaps ss)) (srt (segs ss)) ∧ Below w.heap.size w w' := by
  have HC := hide (logFilesW a c ss w hv hs hn (fun j h => hf j h h))
  clear hv hs hf
  go_enter Tryd.func17, Tryd.ntmps17
  go_wp2_with fail
  refine HC.out.mono ?_
  rintro e w1 ⟨v, u, rfl, h1, h2⟩
  obtain ⟨p1, c1, rfl⟩ := h1.a.form
  obtain ⟨p2, c2, rfl⟩ := h1.b.form
  have H1 := hide h1
  have H2 := hide h2
  clear h1 h2 HC
  go_wp2_with fail
  go_returns
  exact ⟨_, _, rfl, H1.out, H2.out⟩
end Go.Proofs.Qxb6602136aDoor
