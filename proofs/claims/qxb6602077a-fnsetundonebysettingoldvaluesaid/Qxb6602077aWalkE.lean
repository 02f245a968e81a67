import Derived.Test.Qxb6602077aWalkD
namespace Go.Proofs.Qxb6602077a
open Go.ChangeShapes Go.WideShapes Go.ChangeAt Go.RowKit

theorem ret_pos {a b : Int} {c d : Bool} (h1 : a = b) (h2 : c = d) : Ending.returned (.tuple #[.int .i64 a, .bool c]) = .returned (.tuple #[.int .i64 b, .bool d]) := by rw [h1, h2]
theorem hide {p : Prop} (h : p) : Hid p := h

set_option maxRecDepth 100000 in
theorem cmpStr (a b : ByteArray) (w : World) :
    Calls Try.prog 48 #[.string a, .string b] w fun e w' => e = .returned (.int .i64 (Lib.compareBytes a.data.toList b.data.toList)) ∧ w = w' := by
  go_enter Try.func48, Try.ntmps48
  go_wp2
  rw [run_callFunc_extern Try.func50 (by kernel_rfl) (by kernel_rfl) (by kernel_rfl) (e := Extern.BytealgCompare.compare) (by kernel_rfl), Lib.run_compareString]
  simp only [Result.andThen]
  rw [Oper.upon_value]
  go_wp2
  go_ret
  exact ⟨rfl, rfl⟩

theorem compareW (a b : ByteArray) (w : World) :
    Calls Try.prog 44 #[.string a, .string b] w fun e w' => e = .returned (.int .i64 (Lib.compareBytes a.data.toList b.data.toList)) ∧ w = w' := by
  go_enter Try.func44, Try.ntmps44
  go_wp2_with (go_at_call 48; refine (cmpStr _ _ _).mono ?_; rintro e w' ⟨rfl, rfl⟩)
  go_ret
  exact ⟨rfl, rfl⟩

theorem closureW (r : Rf) (name : ByteArray) (w : World) :
    Calls Try.prog 43 #[.agg #[.string r.1, .string r.2], .string name] w fun e w' => e = .returned (.int .i64 (cmpR name r)) ∧ ∃ o, w.alloc o = w' := by
  go_enter Try.func43, Try.ntmps43
  go_wp2_with (go_at_call 44; refine (compareW _ _ _).mono ?_; rintro e w' ⟨rfl, rfl⟩)
  go_ret
  exact ⟨rfl, _, rfl⟩

set_option maxHeartbeats 800000 in
theorem searchW (a : Option Addr) (c : Nat) (rs : List Rf) (name : ByteArray) (w : World) (hr : RefsAt w a rs) (hn : rs.length ≤ 1048576) (hs : Srt rs) :
    Calls Try.prog 42 #[.slice a rs.length c, .string name, .func (.func 43) #[] #[]] w fun e w' => e = .returned (.tuple #[.int .i64 (pos name rs), .bool (hit name rs)]) ∧ Below w.heap.size w w' := by
  have HR : Hid _ := hr
  have HS : Hid _ := hs
  clear hr hs
  go_enter Try.func42, Try.ntmps42
  go_wp2
  go_loopg [9, 10] rs.length (fun kx s9 s10 wr => ∃ lo hi : Nat, s9 = .int .i64 lo ∧ s10 = .int .i64 hi ∧ lo ≤ hi ∧ hi ≤ rs.length ∧ hi - lo ≤ kx ∧ Hid (Below w.heap.size w wr) ∧
    Hid ((∀ t (h : t < rs.length), t < lo → cmpR name rs[t] < 0) ∧ (∀ t (h : t < rs.length), hi ≤ t → 0 ≤ cmpR name rs[t])))
  case atStart => exact ⟨0, rs.length, rfl, rfl, Nat.zero_le _, Nat.le_refl _, by omega, Below.refl _ _, fun t h ht => absurd ht (Nat.not_lt_zero _), fun t h1 h2 => absurd h2 (by omega)⟩
  case round =>
    obtain ⟨lo, hi, rfl, rfl, hlh, hin, hg, HB, HI⟩ := hrel
    by_cases hlt : lo < hi
    · have hm : (lo + hi) / 2 < rs.length := by omega
      obtain ⟨b, off, rfl, h1, h2⟩ := RefsAt.at (Hid.out HR) hm
      replace h1 := cell_later HB.out h1
      replace h2 := cell_later HB.out h2
      by_cases hc : cmpR name rs[(lo + hi) / 2] < 0
      · go_wp2_with (go_at_call 43; refine (closureW _ _ _).mono ?_; rintro e w' ⟨rfl, o, rfl⟩)
        go_roundg (hi - ((lo + hi) / 2 + 1))
        case measure => omega
        case rel =>
          refine ⟨(lo + hi) / 2 + 1, hi, by rw [show ((lo : Int) + (hi : Int)) / 2 + 1 = (((lo + hi) / 2 + 1 : Nat) : Int) by omega], rfl, by omega, hin, Nat.le_refl _, HB.out.alloc HB.out.size _, fun t h ht => ?_, HI.out.2⟩
          exact Srt.mono HS.out name (show t ≤ (lo + hi) / 2 by omega) hm hc
      · go_wp2_with (go_at_call 43; refine (closureW _ _ _).mono ?_; rintro e w' ⟨rfl, o, rfl⟩)
        go_roundg ((lo + hi) / 2 - lo)
        case measure => omega
        case rel =>
          refine ⟨lo, (lo + hi) / 2, rfl, by rw [show ((lo : Int) + (hi : Int)) / 2 = (((lo + hi) / 2 : Nat) : Int) by omega], by omega, by omega, Nat.le_refl _, HB.out.alloc HB.out.size _, HI.out.1, fun t h ht => ?_⟩
          refine Int.not_lt.1 fun hh => ?_
          have := Srt.mono HS.out name ht h hh
          omega
    · obtain rfl : hi = lo := by omega
      have hp : pos name rs = hi := pos_of name rs hi hin HI.out.1 (fun h => HI.out.2 hi h (Nat.le_refl _))
      have HP := hide hp
      clear hp
      by_cases hl : hi < rs.length
      · obtain ⟨b, off, rfl, h1, h2⟩ := RefsAt.at (Hid.out HR) hl
        replace h1 := cell_later HB.out h1
        replace h2 := cell_later HB.out h2
        go_wp2_with (go_at_call 43; refine (closureW _ _ _).mono ?_; rintro e w' ⟨rfl, o, rfl⟩)
        go_ret2
        refine ⟨?_, HB.out.alloc HB.out.size _⟩
        have : hit name rs = (cmpR name rs[hi] == 0) := by
          unfold hit; rw [HP.out]; simp [hl]; rfl
        exact ret_pos (by rw [HP.out]) this.symm
      · go_wp2
        go_ret2
        refine ⟨?_, HB.out⟩
        have : hit name rs = false := by
          unfold hit; rw [HP.out]; simp [hl]
        exact ret_pos (by rw [HP.out]) this.symm
end Go.Proofs.Qxb6602077a
