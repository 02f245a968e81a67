/-
  THE PLAIN LAWS of the model's reading: digits, at most nineteen, compared with the greatest int64's text.
-/
import Derived.Test.Qxb6602136aDoorPlain
namespace Go.Proofs.Qxb6602136aDoor

def maxT : List UInt8 := [57, 50, 50, 51, 51, 55, 50, 48, 51, 54, 56, 53, 52, 55, 55, 53, 56, 48, 55]
theorem val_maxT : val maxT = top := by
  unfold val maxT
  simp only [valA_cons, valA_nil]
  rfl

theorem lex_lt (l : List UInt8) (c d : UInt8) (ra rb : List UInt8) (hl : ra.length = rb.length) (ha : ra.all isDig = true) (hc : isDig c = true) (h : c.toNat < d.toNat) : val (l ++ c :: ra) < val (l ++ d :: rb) := by
  unfold val
  rw [valA_append, valA_append, valA_cons, valA_cons, valA_mul, valA_mul _ rb, ← hl]
  have h1 : valA 0 ra < 10 ^ ra.length := val_lt ra ha
  have h2 : (valA 0 l * 10 + (c.toNat - 48) + 1) * 10 ^ ra.length ≤ (valA 0 l * 10 + (d.toNat - 48)) * 10 ^ ra.length := Nat.mul_le_mul_right _ (by
    unfold isDig at hc; simp at hc; omega)
  rw [Nat.add_mul _ 1, Nat.one_mul] at h2
  omega

theorem split_at (l : List UInt8) (k : Nat) (h : k < l.length) : l = l.take k ++ l[k] :: l.drop (k + 1) := by
  rw [← List.drop_eq_getElem_cons h, List.take_append_drop]

theorem maxT_dig : maxT.all isDig = true := by decide

theorem dig_at {l : List UInt8} (h : l.all isDig = true) (k : Nat) (hk : k < l.length) : isDig l[k] = true := by
  rw [List.all_eq_true] at h
  exact h _ (List.getElem_mem hk)

theorem all_drop {l : List UInt8} (h : l.all isDig = true) (k : Nat) : (l.drop k).all isDig = true := by
  rw [List.all_eq_true] at h ⊢
  exact fun x hx => h x (List.mem_of_mem_drop hx)

theorem cmp_lt {d : List UInt8} (hl : d.length = 19) (hd : d.all isDig = true) (k : Nat) (hk : k < 19) (he : d.take k = maxT.take k) (h : (d[k]'(by omega)).toNat < (maxT[k]'(by show k < 19; exact hk)).toNat) : val d ≤ top := by
  have hk1 : k < d.length := by omega
  have hk2 : k < maxT.length := hk
  have h1 := lex_lt (d.take k) d[k] maxT[k] (d.drop (k + 1)) (maxT.drop (k + 1)) (by rw [List.length_drop, List.length_drop, hl]; rfl) (all_drop hd _) (dig_at hd k hk1) h
  rw [← split_at d k hk1, he, ← split_at maxT k hk2, val_maxT] at h1
  omega

theorem cmp_gt {d : List UInt8} (hl : d.length = 19) (k : Nat) (hk : k < 19) (he : d.take k = maxT.take k) (h : (maxT[k]'(by show k < 19; exact hk)).toNat < (d[k]'(by omega)).toNat) : ¬ val d ≤ top := by
  have hk1 : k < d.length := by omega
  have hk2 : k < maxT.length := hk
  have h1 := lex_lt (maxT.take k) maxT[k] d[k] (maxT.drop (k + 1)) (d.drop (k + 1)) (by rw [List.length_drop, List.length_drop, hl]; rfl) (all_drop maxT_dig _) (dig_at maxT_dig k hk2) h
  rw [← split_at maxT k hk2, ← he, ← split_at d k hk1, val_maxT] at h1
  omega

theorem short_le {d : List UInt8} (hd : d.all isDig = true) (h : d.length < 19) : val d ≤ top := by
  have h1 := val_lt d hd
  have h2 : 10 ^ d.length ≤ 10 ^ 18 := Nat.pow_le_pow_right (by decide) (by omega)
  unfold top
  omega

theorem long_none {d : List UInt8} (h : 19 < d.length) : baseP d = none := by
  unfold baseP
  rw [if_neg]
  rintro ⟨h1, h2⟩
  have h3 := val_ge h1
  have h4 : 10 ^ 19 ≤ 10 ^ (d.length - 1) := Nat.pow_le_pow_right (by decide) (by omega)
  unfold top at h2
  omega

theorem base_none {d : List UInt8} (h : canon d ≠ true) : baseP d = none := by
  unfold baseP
  rw [if_neg]
  rintro ⟨h1, _⟩
  exact h h1

theorem base_big {d : List UInt8} (h : ¬ val d ≤ top) : baseP d = none := by
  unfold baseP
  rw [if_neg]
  rintro ⟨_, h1⟩
  exact h h1

theorem base_some {d : List UInt8} (h : canon d = true) (h1 : val d ≤ top) : baseP d = some (val d : Int) := by
  unfold baseP
  rw [if_pos ⟨h, h1⟩]

theorem val_take_le (d : List UInt8) (k : Nat) : val (d.take k) ≤ val d := by
  conv => rhs; rw [← List.take_append_drop k d]
  unfold val
  rw [valA_append]
  exact valA_le _ _

theorem val_take_succ (d : List UInt8) (k : Nat) (h : k < d.length) : val (d.take (k + 1)) = val (d.take k) * 10 + (d[k].toNat - 48) := by
  rw [List.take_succ_eq_append_getElem h]
  exact valA_snoc _ _ _

theorem canon_of {d : List UInt8} (h0 : 0 < d.length) (h1 : 49 ≤ d[0].toNat ∧ d[0].toNat ≤ 57) (h : d.all isDig = true) : canon d = true := by
  cases d with
  | nil => simp at h0
  | cons c l =>
    rw [List.all_cons, Bool.and_eq_true] at h
    simp only [canon, Bool.and_eq_true, decide_eq_true_eq]
    exact ⟨h1, h.2⟩

theorem canon_first {d : List UInt8} (h0 : 0 < d.length) (h : canon d = true) : 49 ≤ d[0].toNat ∧ d[0].toNat ≤ 57 := by
  cases d with
  | nil => simp at h0
  | cons c l =>
    simp only [canon, Bool.and_eq_true, decide_eq_true_eq] at h
    exact h.1
end Go.Proofs.Qxb6602136aDoor
