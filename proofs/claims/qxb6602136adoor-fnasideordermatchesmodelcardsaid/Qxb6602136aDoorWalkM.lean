import Derived.Test.Qxb6602136aDoorWalkL
import Derived.Test.Qxb6602136aDoorWalkK
namespace Go.Proofs.Qxb6602136aDoor
open Go.ChangeShapes Go.WideShapes Go.ChangeAt Go.RowKit Go.Sort

/-- The names of a snapshot and of a segment. -/
def snapN (x : Int) : ByteArray := ⟨(sP ++ Lib.itoa x).toArray⟩
def segN (x : Int) : ByteArray := if x = 0 then ⟨lN.toArray⟩ else ⟨(lP ++ Lib.itoa x).toArray⟩

theorem cat (p : Array UInt8) (l : List UInt8) : (⟨p⟩ ++ ⟨l.toArray⟩ : ByteArray) = ⟨(p.toList ++ l).toArray⟩ := by
  apply bytes_inj
  rw [ByteArray.data_append]
  simp

theorem itoa_len {x : Int} (h0 : 0 < x) (h1 : x ≤ 9223372036854775807) : (Lib.itoa x).length ≤ 19 := by
  obtain ⟨n, rfl⟩ := Int.eq_ofNat_of_zero_le (Int.le_of_lt h0)
  rw [Lib.itoa_nonneg]
  have hc := dec_canon n (by omega)
  have hg := val_ge hc.1
  rw [hc.2] at hg
  apply Nat.le_of_not_lt
  intro hl
  have h4 : 10 ^ 19 ≤ 10 ^ ((Lib.decDigits n).length - 1) := Nat.pow_le_pow_right (by decide) (by omega)
  omega

theorem snapFileW (x : Int) (h0 : 0 < x) (h1 : x ≤ 9223372036854775807) (w : World) (hv : Vars w) :
    Calls Tryd.prog 39 #[.int .i64 x] w fun e w' => e = .returned (.string (snapN x)) ∧ Below w.heap.size w w' := by
  have HC := hide (Tryd.strconv_FormatInt_10 x (by omega) h1 w hv.tab)
  clear hv
  have e : snapN x = ⟨#[115, 110, 97, 112, 115, 104, 111, 116, 46]⟩ ++ ⟨(Lib.itoa x).toArray⟩ := by rw [cat]; rfl
  rw [e]
  clear e
  have hl := itoa_len h0 h1
  generalize Lib.itoa x = t at *
  go_enter Tryd.func39, Tryd.ntmps39
  go_wp2_with fail
  refine HC.out.mono ?_
  rintro e w1 ⟨rfl, k, os, hw⟩
  have HB : Hid (Below w.heap.size w w1) := by rw [hw]; exact below_grow k os
  clear hw HC
  go_wp2_with fail
  go_ret
  exact ⟨rfl, HB.out⟩

theorem segFileW (x : Int) (h0 : 0 ≤ x) (h1 : x ≤ 9223372036854775807) (w : World) (hv : Vars w) :
    Calls Tryd.prog 41 #[.int .i64 x] w fun e w' => e = .returned (.string (segN x)) ∧ Below w.heap.size w w' := by
  have HC := hide (Tryd.strconv_FormatInt_10 x (by omega) h1 w hv.tab)
  clear hv
  by_cases hx : x = 0
  · subst hx
    have e : segN 0 = ⟨#[108, 111, 103]⟩ := rfl
    rw [e]
    go_enter Tryd.func41, Tryd.ntmps41
    go_wp2_with fail
    go_ret
    exact ⟨rfl, Below.refl _ _⟩
  · have e : segN x = ⟨#[108, 111, 103, 46]⟩ ++ ⟨(Lib.itoa x).toArray⟩ := by rw [cat]; exact if_neg hx
    rw [e]
    clear e
    have hb : (x == 0) = false := beq_eq_false_iff_ne.2 hx
    have hl := itoa_len (show 0 < x by omega) h1
    clear hx
    generalize Lib.itoa x = t at *
    go_enter Tryd.func41, Tryd.ntmps41
    go_wp2_with fail
    refine HC.out.mono ?_
    rintro e w1 ⟨rfl, k, os, hw⟩
    have HB : Hid (Below w.heap.size w w1) := by rw [hw]; exact below_grow k os
    clear hw HC
    go_wp2_with fail
    go_ret
    exact ⟨rfl, HB.out⟩
end Go.Proofs.Qxb6602136aDoor
