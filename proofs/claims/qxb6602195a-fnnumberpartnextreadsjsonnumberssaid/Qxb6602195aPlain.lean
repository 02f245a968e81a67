/-
  THE PLAIN LAW: the automaton over the parts of a number accepts what the reader by descent accepts; no Go in sight.
-/
import Derived.WalkKit
namespace Go.Proofs.Qxb6602195a

/-- The automaton's step. -/
def nx (p : Nat) (c : Int) : Nat × Bool :=
  if 48 ≤ c ∧ c ≤ 57 then
    if p = 1 then (if c = 48 then (2, true) else (3, true))
    else if p = 3 then (3, true) else if p = 4 ∨ p = 5 then (5, true) else if p = 6 ∨ p = 7 ∨ p = 8 then (8, true) else (p, false)
  else if c = 46 then (if p = 2 ∨ p = 3 then (4, true) else (p, false))
  else if c = 101 ∨ c = 69 then (if p = 2 ∨ p = 3 ∨ p = 5 then (6, true) else (p, false))
  else if c = 43 ∨ c = 45 then (if p = 6 then (7, true) else (p, false))
  else (p, false)

abbrev B (c : UInt8) : Int := (c.toNat : Int)

/-- The automaton run from p. -/
def run : Nat → List UInt8 → Option Nat
  | p, [] => some p
  | p, c :: l => if (nx p (B c)).2 then run (nx p (B c)).1 l else none
def fine (p : Nat) : Bool := p == 2 || p == 3 || p == 5 || p == 8
def acc : Option Nat → Bool
  | some p => fine p
  | none => false
def A (p : Nat) (l : List UInt8) : Bool := acc (run p l)

def dig (c : UInt8) : Bool := decide (48 ≤ B c ∧ B c ≤ 57)
def digs (l : List UInt8) : List UInt8 := l.dropWhile dig
/-- One digit at least, and nothing but digits. -/
def pow : List UInt8 → Bool
  | [] => false
  | d :: r => dig d && (digs r).isEmpty
def expo : List UInt8 → Bool
  | [] => true
  | c :: r => if B c = 101 ∨ B c = 69 then (match r with | [] => false | s :: r' => if B s = 43 ∨ B s = 45 then pow r' else pow r) else false
def frac : List UInt8 → Bool
  | [] => true
  | c :: r => if B c = 46 then (match r with | [] => false | d :: r' => dig d && expo (digs r')) else expo (c :: r)
def intp : List UInt8 → Bool
  | [] => false
  | c :: r => if B c = 48 then frac r else if 49 ≤ B c ∧ B c ≤ 57 then frac (digs r) else false
def strip : List UInt8 → List UInt8
  | [] => []
  | c :: r => if B c = 45 then r else c :: r

theorem A_cons (p : Nat) (c : UInt8) (l : List UInt8) : A p (c :: l) = if (nx p (B c)).2 then A (nx p (B c)).1 l else false := by
  unfold A
  rw [run]
  split <;> rfl

theorem A8 : ∀ l, A 8 l = (digs l).isEmpty
  | [] => rfl
  | c :: l => by
    rw [A_cons]
    by_cases h : 48 ≤ B c ∧ B c ≤ 57
    · have : nx 8 (B c) = (8, true) := by simp [nx, h]
      rw [this]
      simp only [if_true]
      rw [A8 l]
      simp [digs, dig, h]
    · have : (nx 8 (B c)).2 = false := by unfold nx; repeat' split <;> simp_all
      rw [this]
      simp [digs, dig, h]

theorem A7 : ∀ l, A 7 l = pow l
  | [] => rfl
  | c :: l => by
    rw [A_cons]
    by_cases h : 48 ≤ B c ∧ B c ≤ 57
    · have : nx 7 (B c) = (8, true) := by simp [nx, h]
      rw [this]
      simp only [if_true]
      rw [A8 l]
      simp [pow, dig, h]
    · have : (nx 7 (B c)).2 = false := by unfold nx; repeat' split <;> simp_all
      rw [this]
      simp [pow, dig, h]

theorem A6 : ∀ l, A 6 l = (match l with | [] => false | s :: r' => if B s = 43 ∨ B s = 45 then pow r' else pow l)
  | [] => rfl
  | c :: l => by
    rw [A_cons]
    by_cases h : 48 ≤ B c ∧ B c ≤ 57
    · have : nx 6 (B c) = (8, true) := by simp [nx, h]
      have h2 : ¬ (B c = 43 ∨ B c = 45) := by omega
      rw [this]
      simp only [if_true]
      rw [A8 l, if_neg h2]
      simp [pow, dig, h]
    · by_cases h2 : B c = 43 ∨ B c = 45
      · have h3 : ¬ B c = 46 := by omega
        have h4 : ¬ (B c = 101 ∨ B c = 69) := by omega
        have : nx 6 (B c) = (7, true) := by simp [nx, h, h2, h3, h4]
        rw [this]
        simp only [if_true]
        rw [A7 l, if_pos h2]
      · have : (nx 6 (B c)).2 = false := by unfold nx; repeat' split <;> simp_all
        rw [this]
        simp only [h2, if_false]
        simp [pow, dig, h]

/-- Where no digit is, from the integer's or the fraction's digits on. -/
theorem A5_stop (c : UInt8) (l : List UInt8) (h : ¬ (48 ≤ B c ∧ B c ≤ 57)) : A 5 (c :: l) = expo (c :: l) := by
  rw [A_cons]
  by_cases h2 : B c = 101 ∨ B c = 69
  · have h3 : ¬ B c = 46 := by omega
    have : nx 5 (B c) = (6, true) := by simp [nx, h, h2, h3]
    rw [this]
    simp only [if_true]
    rw [A6 l]
    simp only [expo, h2, if_true]
  · have : (nx 5 (B c)).2 = false := by unfold nx; repeat' split <;> simp_all
    rw [this]
    simp [expo, h2]

theorem A5 : ∀ l, A 5 l = expo (digs l)
  | [] => rfl
  | c :: l => by
    by_cases h : 48 ≤ B c ∧ B c ≤ 57
    · rw [A_cons]
      have : nx 5 (B c) = (5, true) := by simp [nx, h]
      rw [this]
      simp only [if_true]
      rw [A5 l]
      simp [digs, dig, h]
    · rw [A5_stop c l h]
      simp [digs, dig, h]

theorem A4 : ∀ l, A 4 l = (match l with | [] => false | d :: r' => dig d && expo (digs r'))
  | [] => rfl
  | c :: l => by
    rw [A_cons]
    by_cases h : 48 ≤ B c ∧ B c ≤ 57
    · have : nx 4 (B c) = (5, true) := by simp [nx, h]
      rw [this]
      simp only [if_true]
      rw [A5 l]
      simp [dig, h]
    · have : (nx 4 (B c)).2 = false := by unfold nx; repeat' split <;> simp_all
      rw [this]
      simp [dig, h]

theorem A23_stop (p : Nat) (hp : p = 2 ∨ p = 3) (c : UInt8) (l : List UInt8) (h : ¬ (48 ≤ B c ∧ B c ≤ 57)) : A p (c :: l) = frac (c :: l) := by
  rw [A_cons]
  by_cases h1 : B c = 46
  · have : nx p (B c) = (4, true) := by simp [nx, h1, hp]
    rw [this]
    simp only [if_true]
    rw [A4 l]
    simp only [frac, h1, if_true]
  · by_cases h2 : B c = 101 ∨ B c = 69
    · have : nx p (B c) = (6, true) := by simp only [nx, h, if_false, h1, h2, if_true]; rcases hp with rfl | rfl <;> simp
      rw [this]
      simp only [if_true]
      rw [A6 l]
      simp only [frac, expo, h1, h2, if_true, if_false]
    · have : (nx p (B c)).2 = false := by rcases hp with rfl | rfl <;> (unfold nx; repeat' split <;> simp_all)
      rw [this]
      simp [frac, expo, h1, h2]

theorem A2 : ∀ l, A 2 l = frac l
  | [] => rfl
  | c :: l => by
    by_cases h : 48 ≤ B c ∧ B c ≤ 57
    · rw [A_cons]
      have : (nx 2 (B c)).2 = false := by simp [nx, h]
      have h1 : ¬ B c = 46 := by omega
      have h2 : ¬ (B c = 101 ∨ B c = 69) := by omega
      rw [this]
      simp [frac, expo, h1, h2]
    · exact A23_stop 2 (.inl rfl) c l h

theorem A3 : ∀ l, A 3 l = frac (digs l)
  | [] => rfl
  | c :: l => by
    by_cases h : 48 ≤ B c ∧ B c ≤ 57
    · rw [A_cons]
      have : nx 3 (B c) = (3, true) := by simp [nx, h]
      rw [this]
      simp only [if_true]
      rw [A3 l]
      simp [digs, dig, h]
    · rw [A23_stop 3 (.inr rfl) c l h]
      simp [digs, dig, h]

theorem A1 : ∀ l, A 1 l = intp l
  | [] => rfl
  | c :: l => by
    rw [A_cons]
    by_cases h0 : B c = 48
    · have : nx 1 (B c) = (2, true) := by simp [nx, h0]
      rw [this]
      simp only [if_true]
      rw [A2 l]
      simp [intp, h0]
    · by_cases h : 49 ≤ B c ∧ B c ≤ 57
      · have h' : 48 ≤ B c ∧ B c ≤ 57 := by omega
        have : nx 1 (B c) = (3, true) := by simp [nx, h', h0]
        rw [this]
        simp only [if_true]
        rw [A3 l]
        simp [intp, h0, h]
      · have h' : ¬ (48 ≤ B c ∧ B c ≤ 57) := by omega
        have : (nx 1 (B c)).2 = false := by unfold nx; repeat' split <;> simp_all
        rw [this]
        simp [intp, h0, h]

/-- THE LAW. -/
theorem law (l : List UInt8) : A 1 (strip l) = intp (strip l) := A1 _
end Go.Proofs.Qxb6602195a
