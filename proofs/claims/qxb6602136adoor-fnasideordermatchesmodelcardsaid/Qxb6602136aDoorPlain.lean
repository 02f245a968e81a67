/-
  THE PLAIN LAWS: canonical decimals; no Go in sight.
-/
import Derived.Lib.ParseIntB
import Derived.Lib.ItoaMem
namespace Go.Proofs.Qxb6602136aDoor

def isDig (c : UInt8) : Bool := decide (48 ≤ c.toNat ∧ c.toNat ≤ 57)
/-- What the digits spell, behind 'acc'. -/
def valA (a : Nat) (l : List UInt8) : Nat := l.foldl (fun a c => a * 10 + (c.toNat - 48)) a
def val (l : List UInt8) : Nat := valA 0 l
/-- Digits alone, the first no zero. -/
def canon : List UInt8 → Bool
  | [] => false
  | c :: l => decide (49 ≤ c.toNat ∧ c.toNat ≤ 57) && l.all isDig
def top : Nat := 9223372036854775807
/-- The base that a text spells: a canonical positive int64. -/
def baseP (d : List UInt8) : Option Int := if canon d = true ∧ val d ≤ top then some (val d : Int) else none

theorem valA_nil (a : Nat) : valA a [] = a := by unfold valA; rw [List.foldl_nil]
theorem valA_cons (a : Nat) (c : UInt8) (l : List UInt8) : valA a (c :: l) = valA (a * 10 + (c.toNat - 48)) l := by unfold valA; rw [List.foldl_cons]

theorem valA_append (a : Nat) (l r : List UInt8) : valA a (l ++ r) = valA (valA a l) r := by
  unfold valA
  rw [List.foldl_append]
theorem valA_snoc (a : Nat) (l : List UInt8) (c : UInt8) : valA a (l ++ [c]) = valA a l * 10 + (c.toNat - 48) := by rw [valA_append, valA_cons, valA_nil]
theorem valA_mul (a : Nat) (l : List UInt8) : valA a l = a * 10 ^ l.length + valA 0 l := by
  induction l generalizing a with
  | nil => rw [valA_nil, valA_nil]; simp
  | cons c l ih =>
    rw [valA_cons, valA_cons, List.length_cons]
    rw [ih (a * 10 + (c.toNat - 48)), ih (0 * 10 + (c.toNat - 48)), Nat.pow_succ, Nat.add_mul, Nat.zero_mul, Nat.zero_add, Nat.mul_assoc, Nat.mul_comm 10, Nat.add_assoc]
theorem valA_le (a : Nat) (l : List UInt8) : a ≤ valA a l := by
  rw [valA_mul]
  have : 1 ≤ 10 ^ l.length := Nat.one_le_pow _ _ (by decide)
  have := Nat.mul_le_mul_left a this
  omega

theorem dig_lt {c : UInt8} (h : isDig c = true) : c.toNat - 48 < 10 := by unfold isDig at h; simp at h; omega

theorem val_lt (l : List UInt8) (h : l.all isDig = true) : val l < 10 ^ l.length := by
  unfold val
  induction l with
  | nil => rw [valA_nil]; simp
  | cons c l ih =>
    rw [List.all_cons, Bool.and_eq_true] at h
    have h1 := dig_lt h.1
    have h2 := ih h.2
    rw [valA_cons, List.length_cons, valA_mul, Nat.pow_succ, Nat.zero_mul, Nat.zero_add]
    have : (c.toNat - 48) * 10 ^ l.length ≤ 9 * 10 ^ l.length := Nat.mul_le_mul_right _ (by omega)
    omega

theorem canon_dig {l : List UInt8} (h : canon l = true) : l.all isDig = true := by
  cases l with
  | nil => cases h
  | cons c l =>
    unfold canon at h
    rw [Bool.and_eq_true] at h
    rw [List.all_cons, Bool.and_eq_true]
    refine ⟨?_, h.2⟩
    have := h.1
    unfold isDig
    simp at this ⊢
    omega

theorem val_ge {l : List UInt8} (h : canon l = true) : 10 ^ (l.length - 1) ≤ val l := by
  cases l with
  | nil => cases h
  | cons c l =>
    unfold canon at h
    rw [Bool.and_eq_true] at h
    have h1 := h.1
    simp at h1
    unfold val
    rw [valA_cons, List.length_cons, Nat.add_sub_cancel, valA_mul, Nat.zero_mul, Nat.zero_add]
    have : 1 * 10 ^ l.length ≤ (c.toNat - 48) * 10 ^ l.length := Nat.mul_le_mul_right _ (by omega)
    omega

theorem canon_snoc (l : List UInt8) (c : UInt8) (h0 : l ≠ []) : canon (l ++ [c]) = (canon l && isDig c) := by
  cases l with
  | nil => exact absurd rfl h0
  | cons a l => simp [canon, List.all_append, Bool.and_assoc]

/-- The numeral of what a canonical text spells is that text. -/
theorem dec_val : ∀ (n : Nat) (l : List UInt8), l.length = n → canon l = true → Lib.decDigits (val l) = l := by
  intro n
  induction n with
  | zero =>
    intro l h0 h
    have := List.eq_nil_of_length_eq_zero h0
    subst this
    cases h
  | succ n ih =>
    intro l hl h
    obtain ⟨i, c, rfl⟩ : ∃ i c, l = i ++ [c] := by
      rcases List.eq_nil_or_concat l with h0 | ⟨i, c, h0⟩
      · subst h0; simp at hl
      · exact ⟨i, c, by simpa using h0⟩
    by_cases hi : i = []
    · subst hi
      simp only [List.nil_append] at h ⊢
      unfold canon at h
      simp at h
      have : val [c] = c.toNat - 48 := by unfold val; rw [valA_cons, valA_nil, Nat.zero_mul, Nat.zero_add]
      rw [this, Lib.decDigits, dif_pos (by omega)]
      congr 1
      rw [show 48 + (c.toNat - 48) = c.toNat by omega]
      simp
    · rw [canon_snoc i c hi, Bool.and_eq_true] at h
      have hd := dig_lt h.2
      have hv : val (i ++ [c]) = val i * 10 + (c.toNat - 48) := valA_snoc 0 i c
      have hp : 1 ≤ val i := Nat.le_trans (Nat.one_le_pow _ _ (by decide)) (val_ge h.1)
      have hlen : i.length = n := by simpa using hl
      rw [hv, Lib.decDigits, dif_neg (by omega), show (val i * 10 + (c.toNat - 48)) / 10 = val i by omega, ih i hlen h.1]
      congr 1
      have hc : 48 ≤ c.toNat := by have := h.2; unfold isDig at this; simp at this; omega
      rw [show 48 + (val i * 10 + (c.toNat - 48)) % 10 = c.toNat by omega]
      simp

/-- A positive number's numeral is canonical and spells it. -/
theorem dec_canon : ∀ (n : Nat), 0 < n → canon (Lib.decDigits n) = true ∧ val (Lib.decDigits n) = n := by
  intro n
  induction n using Nat.strongRecOn with
  | _ n ih =>
    intro hn
    by_cases h : n < 10
    · rw [Lib.decDigits, dif_pos h]
      have e : (UInt8.ofNat (48 + n)).toNat = 48 + n := by rw [UInt8.toNat_ofNat']; omega
      refine ⟨?_, ?_⟩
      · simp only [canon, e]; simp; omega
      · unfold val; rw [valA_cons, valA_nil, e]; omega
    · have h2 := ih (n / 10) (by omega) (by omega)
      rw [Lib.decDigits, dif_neg h]
      have e : (UInt8.ofNat (48 + n % 10)).toNat = 48 + n % 10 := by rw [UInt8.toNat_ofNat']; omega
      have hne : Lib.decDigits (n / 10) ≠ [] := by
        intro h0; rw [h0] at h2; cases h2.1
      refine ⟨?_, ?_⟩
      · rw [canon_snoc _ _ hne, h2.1]
        unfold isDig; rw [e]; simp
        omega
      · show valA 0 _ = _
        rw [valA_snoc, show valA 0 (Lib.decDigits (n / 10)) = n / 10 from h2.2, e]
        omega

/-- ParseUint of digits that do not overflow. -/
theorem parseU (l : List UInt8) (hd : l.all isDig = true) (acc : Nat) (hv : valA acc l ≤ top) : Lib.parseUintM (2 ^ 64 - 1) acc l = .ok (valA acc l) := by
  induction l generalizing acc with
  | nil => rw [valA_nil]; rfl
  | cons c l ih =>
    rw [List.all_cons, Bool.and_eq_true] at hd
    rw [valA_cons] at hv ⊢
    have h1 := hd.1
    unfold isDig at h1
    simp at h1
    have h2 : acc * 10 + (c.toNat - 48) ≤ top := Nat.le_trans (valA_le _ l) hv
    unfold top at h2
    simp only [Lib.parseUintM]
    rw [if_pos h1, if_neg (by omega), if_neg (by omega)]
    exact ih hd.2 _ hv

theorem parse_canon {d : List UInt8} (h : canon d = true) (hv : val d ≤ top) : Lib.parseIntB 64 d = .ok (val d : Int) := by
  cases d with
  | nil => cases h
  | cons c l =>
    have hd := canon_dig h
    have hc : 49 ≤ c.toNat ∧ c.toNat ≤ 57 := by unfold canon at h; rw [Bool.and_eq_true] at h; simpa using h.1
    have hu : Lib.parseUintB 64 (c :: l) = .ok (val (c :: l)) := by
      unfold Lib.parseUintB
      rw [if_neg (by simp)]
      exact parseU (c :: l) hd 0 hv
    simp only [Lib.parseIntB]
    rw [if_neg (by omega), hu]
    simp only
    unfold top at hv
    rw [if_neg (by omega), if_neg (by omega), if_neg (by omega)]

/-- WHAT baseAfter ASKS, AND WHAT IT COMES TO. -/
theorem baseP_iff (d : List UInt8) (v : Int) (hv : Lib.parseIntB 64 d = .ok v) (hmax : v ≤ 9223372036854775807) : (0 < v ∧ Lib.itoa v = d) ↔ baseP d = some v := by
  constructor
  · rintro ⟨h0, h1⟩
    obtain ⟨n, rfl⟩ := Int.eq_ofNat_of_zero_le (Int.le_of_lt h0)
    rw [Lib.itoa_nonneg] at h1
    have := dec_canon n (by omega)
    rw [h1] at this
    unfold baseP
    rw [if_pos ⟨this.1, by rw [this.2]; unfold top; omega⟩, this.2]
  · intro h
    unfold baseP at h
    split at h
    · rename_i hc
      injection h with h
      subst h
      refine ⟨?_, ?_⟩
      · have := Nat.le_trans (Nat.one_le_pow (d.length - 1) 10 (by decide)) (val_ge hc.1); omega
      · rw [Lib.itoa_nonneg]; exact dec_val _ d rfl hc.1
    · cases h

theorem baseP_none {d : List UInt8} (h : ∀ v, Lib.parseIntB 64 d ≠ .ok v) : baseP d = none := by
  unfold baseP
  split
  · rename_i hc
    exact absurd (parse_canon hc.1 hc.2) (h _)
  · rfl

/-- What ParseInt takes is an int64. -/
theorem parse_rng {d : List UInt8} {v : Int} (h : Lib.parseIntB 64 d = .ok v) : -9223372036854775808 ≤ v ∧ v ≤ 9223372036854775807 := by
  cases d with
  | nil => cases h
  | cons c l =>
    simp only [Lib.parseIntB] at h
    split at h
    · cases h
    · cases h
    · rename_i u _
      split at h
      · cases h
      · split at h
        · cases h
        · injection h with h
          subst h
          split <;> omega
end Go.Proofs.Qxb6602136aDoor
