/-
  THE PLAIN LAWS: lists of refs sorted by name; no Go in sight.
-/
import Derived.Lib.Bytealg
import Derived.Lib.Strings
import Derived.WideShapes
namespace Go.Proofs.Qxb6602077a

/-- A ref: name, id. -/
abbrev Rf := ByteArray × ByteArray

theorem cb_neg : ∀ (a b : List UInt8), Lib.compareBytes a b < 0 ↔ a < b
  | [], [] => by simp [Lib.compareBytes]
  | [], _ :: _ => by simp [Lib.compareBytes]
  | _ :: _, [] => by simp [Lib.compareBytes]
  | a :: x, b :: y => by
    have ih := cb_neg x y
    simp only [Lib.compareBytes, List.cons_lt_cons_iff]
    by_cases h1 : a < b
    · simp [h1]
    · by_cases h2 : b < a
      · have : a ≠ b := fun e => by subst e; exact h1 h2
        simp [h1, h2, this]
      · have : a = b := UInt8.le_antisymm (UInt8.not_lt.1 h2) (UInt8.not_lt.1 h1)
        subst this
        simp [ih]

theorem cb_zero : ∀ (a b : List UInt8), Lib.compareBytes a b = 0 ↔ a = b
  | [], [] => by simp [Lib.compareBytes]
  | [], _ :: _ => by simp [Lib.compareBytes]
  | _ :: _, [] => by simp [Lib.compareBytes]
  | a :: x, b :: y => by
    have ih := cb_zero x y
    simp only [Lib.compareBytes, List.cons.injEq]
    by_cases h1 : a < b
    · have : a ≠ b := fun e => by subst e; exact UInt8.lt_irrefl _ h1
      simp [h1, this]
    · by_cases h2 : b < a
      · have : a ≠ b := fun e => by subst e; exact h1 h2
        simp [h1, h2, this]
      · have : a = b := UInt8.le_antisymm (UInt8.not_lt.1 h2) (UInt8.not_lt.1 h1)
        subst this
        simp [ih]

theorem cb_pos : ∀ (a b : List UInt8), 0 < Lib.compareBytes a b ↔ b < a
  | [], [] => by simp [Lib.compareBytes]
  | [], _ :: _ => by simp [Lib.compareBytes]
  | _ :: _, [] => by simp [Lib.compareBytes]
  | a :: x, b :: y => by
    have ih := cb_pos x y
    simp only [Lib.compareBytes, List.cons_lt_cons_iff]
    by_cases h1 : a < b
    · have : b ≠ a := fun e => by subst e; exact UInt8.lt_irrefl _ h1
      have : ¬ b < a := fun h => UInt8.lt_irrefl _ (UInt8.lt_trans h h1)
      simp [*]
    · by_cases h2 : b < a
      · simp [h1, h2]
      · have : a = b := UInt8.le_antisymm (UInt8.not_lt.1 h2) (UInt8.not_lt.1 h1)
        subst this
        simp [ih]

/-- A ref's name against a name. -/
def cmpR (name : ByteArray) (r : Rf) : Int := Lib.compareBytes r.1.data.toList name.data.toList
theorem cmpR_neg (name : ByteArray) (r : Rf) : cmpR name r < 0 ↔ r.1.data.toList < name.data.toList := cb_neg _ _
theorem cmpR_zero (name : ByteArray) (r : Rf) : cmpR name r = 0 ↔ r.1 = name := by
  rw [cmpR, cb_zero]
  exact ⟨fun h => WideShapes.bytes_inj h, fun h => by rw [h]⟩

def pos (name : ByteArray) (rs : List Rf) : Nat := (rs.takeWhile fun r => decide (cmpR name r < 0)).length
def hit (name : ByteArray) (rs : List Rf) : Bool := match rs[pos name rs]? with | some r => decide (cmpR name r = 0) | none => false

/-- Sorted by name, no name twice. -/
def Srt (rs : List Rf) : Prop := rs.Pairwise fun r s => r.1.data.toList < s.1.data.toList

theorem lt_tr {a b c : List UInt8} (h : a < b) (k : b < c) : a < c := List.lt_trans h k
theorem lt_ir {a : List UInt8} (h : a < a) : False := List.lt_irrefl a h

theorem pos_le (name : ByteArray) (rs : List Rf) : pos name rs ≤ rs.length := by
  unfold pos
  exact (List.takeWhile_sublist _).length_le

theorem pos_of (name : ByteArray) : ∀ (rs : List Rf) (i : Nat), i ≤ rs.length → (∀ t (h : t < rs.length), t < i → cmpR name rs[t] < 0) → (∀ h : i < rs.length, 0 ≤ cmpR name rs[i]) → pos name rs = i
  | [], i, hi, _, _ => by simp [pos]; simp at hi; exact hi.symm
  | r :: rs, 0, _, _, h2 => by
    have := h2 (by simp)
    simp at this
    simp [pos, Int.not_lt.2 this]
  | r :: rs, i + 1, hi, h1, h2 => by
    have h0 := h1 0 (by simp) (by omega)
    simp at h0
    have ih := pos_of name rs i (by simpa using hi) (fun t h ht => h1 (t + 1) (by simpa using h) (by omega)) (fun h => h2 (by simpa using h))
    unfold pos at ih ⊢
    simp [h0, ih]

theorem Srt.lt {rs : List Rf} (h : Srt rs) {a b : Nat} (hab : a < b) (hb : b < rs.length) : rs[a].1.data.toList < rs[b].1.data.toList :=
  List.pairwise_iff_getElem.1 h a b (by omega) hb hab

theorem Srt.mono {rs : List Rf} (h : Srt rs) (name : ByteArray) {a b : Nat} (hab : a ≤ b) (hb : b < rs.length) (hc : cmpR name rs[b] < 0) : cmpR name rs[a] < 0 := by
  by_cases e : a = b
  · subst e; exact hc
  · rw [cmpR_neg] at hc ⊢
    exact lt_tr (h.lt (by omega) hb) hc

/-- A sorted list about a name. -/
theorem Srt.split {rs : List Rf} (h : Srt rs) (name : ByteArray) :
    ∃ pre mid post, rs = pre ++ (mid ++ post) ∧ (∀ r ∈ pre, cmpR name r < 0) ∧ (∀ r ∈ post, 0 < cmpR name r) ∧ (mid = [] ∨ ∃ x, mid = [(name, x)]) := by
  induction rs with
  | nil => exact ⟨[], [], [], rfl, by simp, by simp, .inl rfl⟩
  | cons r rs ih =>
    have hr : ∀ s ∈ rs, r.1.data.toList < s.1.data.toList := (List.pairwise_cons.1 h).1
    obtain ⟨pre, mid, post, e, h1, h2, h3⟩ := ih (List.pairwise_cons.1 h).2
    by_cases hc : cmpR name r < 0
    · exact ⟨r :: pre, mid, post, by simp [e], by simpa [hc] using h1, h2, h3⟩
    · have hpost : ∀ s ∈ rs, 0 < cmpR name s := by
        intro s hs
        have a := hr s hs
        rcases Int.lt_trichotomy (cmpR name s) 0 with h | h | h
        · rw [cmpR_neg] at h hc
          exact absurd (lt_tr a h) hc
        · rw [cmpR_zero] at h
          rw [h] at a
          rw [cmpR_neg] at hc
          exact absurd a hc
        · exact h
      by_cases hz : cmpR name r = 0
      · exact ⟨[], [r], rs, by simp, by simp, hpost, .inr ⟨r.2, by rw [cmpR_zero] at hz; rw [← hz]⟩⟩
      · exact ⟨[], [], r :: rs, by simp, by simp, fun s hs => by
          rcases List.mem_cons.1 hs with rfl | hs
          · omega
          · exact hpost s hs, .inl rfl⟩

section
variable {name : ByteArray} {pre post : List Rf}
theorem pos_split {mid : List Rf} (h1 : ∀ r ∈ pre, cmpR name r < 0) (h2 : ∀ r ∈ post, 0 < cmpR name r) (h3 : mid = [] ∨ ∃ x, mid = [(name, x)]) : pos name (pre ++ (mid ++ post)) = pre.length := by
  refine pos_of name _ _ (by simp) (fun t h ht => ?_) (fun h => ?_)
  · rw [List.getElem_append_left ht]; exact h1 _ (List.getElem_mem _)
  · rw [List.getElem_append_right (Nat.le_refl _)]
    rcases h3 with rfl | ⟨x, rfl⟩
    · have := h2 ((([] : List Rf) ++ post)[pre.length - pre.length]'(by simp at h ⊢; omega)) (by simp)
      omega
    · simp [(cmpR_zero name (name, x)).2 rfl]
theorem hit_split_no (h1 : ∀ r ∈ pre, cmpR name r < 0) (h2 : ∀ r ∈ post, 0 < cmpR name r) : hit name (pre ++ post) = false := by
  have := pos_split (mid := []) h1 h2 (.inl rfl)
  simp only [List.nil_append] at this
  unfold hit
  rw [this]
  cases post with
  | nil => simp
  | cons r post => have := h2 r (by simp); simp; omega
theorem hit_split_yes (x : ByteArray) (h1 : ∀ r ∈ pre, cmpR name r < 0) (h2 : ∀ r ∈ post, 0 < cmpR name r) : hit name (pre ++ ([(name, x)] ++ post)) = true := by
  have := pos_split (mid := [(name, x)]) h1 h2 (.inr ⟨x, rfl⟩)
  unfold hit
  rw [this]
  simp [(cmpR_zero name (name, x)).2 rfl]
end

theorem hit_of_mem {rs : List Rf} (h : Srt rs) {r : Rf} (hr : r ∈ rs) : hit r.1 rs = true := by
  obtain ⟨pre, mid, post, e, h1, h2, h3⟩ := h.split r.1
  have z := (cmpR_zero r.1 r).2 rfl
  rcases h3 with rfl | ⟨x, rfl⟩
  · rw [e] at hr
    simp at hr
    rcases hr with hr | hr
    · have := h1 r hr; omega
    · have := h2 r hr; omega
  · rw [e]; exact hit_split_yes x h1 h2

/-! ### set -/
/-- What 'set' leaves of the refs. -/
def setP (name id : ByteArray) (rs : List Rf) : List Rf :=
  if hit name rs then (if id.size = 0 then rs.eraseIdx (pos name rs) else rs.set (pos name rs) (name, id))
  else if id.size = 0 then rs else rs.take (pos name rs) ++ (name, id) :: rs.drop (pos name rs)

def midOf (name id : ByteArray) : List Rf := if id.size = 0 then [] else [(name, id)]

theorem setP_split {name id : ByteArray} {pre mid post : List Rf} (h1 : ∀ r ∈ pre, cmpR name r < 0) (h2 : ∀ r ∈ post, 0 < cmpR name r) (h3 : mid = [] ∨ ∃ x, mid = [(name, x)]) :
    setP name id (pre ++ (mid ++ post)) = pre ++ (midOf name id ++ post) := by
  have hp := pos_split h1 h2 h3
  unfold setP
  rw [hp]
  rcases h3 with rfl | ⟨x, rfl⟩
  · rw [List.nil_append, hit_split_no h1 h2]
    unfold midOf
    by_cases hz : id.size = 0
    · simp [hz]
    · simp only [hz, if_false]
      simp
  · rw [hit_split_yes x h1 h2]
    unfold midOf
    by_cases hz : id.size = 0
    · simp only [hz, if_true]
      rw [List.eraseIdx_append_of_length_le (Nat.le_refl _)]
      simp
    · simp only [hz, if_true, if_false]
      rw [List.set_append_right _ _ (Nat.le_refl _)]
      simp

theorem midOf_or (name id : ByteArray) : midOf name id = [] ∨ ∃ x, midOf name id = [(name, x)] := by
  unfold midOf
  split
  · exact .inl rfl
  · exact .inr ⟨_, rfl⟩

theorem setP_twice {rs : List Rf} (h : Srt rs) (name a b : ByteArray) : setP name b (setP name a rs) = setP name b rs := by
  obtain ⟨pre, mid, post, rfl, h1, h2, h3⟩ := h.split name
  rw [setP_split h1 h2 h3, setP_split h1 h2 (midOf_or _ _), setP_split h1 h2 h3]

theorem setP_idem {rs : List Rf} (h : Srt rs) (name id : ByteArray) : setP name id (setP name id rs) = setP name id rs := setP_twice h name id id

theorem setP_srt {rs : List Rf} (h : Srt rs) (name id : ByteArray) : Srt (setP name id rs) := by
  obtain ⟨pre, mid, post, rfl, h1, h2, h3⟩ := h.split name
  rw [setP_split h1 h2 h3]
  have hp : ∀ r ∈ post, name.data.toList < r.1.data.toList := by
    intro r hr
    have := h2 r hr
    exact (cb_pos _ _).1 this
  have hpre : ∀ r ∈ pre, r.1.data.toList < name.data.toList := fun r hr => (cmpR_neg name r).1 (h1 r hr)
  unfold Srt at h ⊢
  rw [List.pairwise_append] at h ⊢
  obtain ⟨a, b, c⟩ := h
  rw [List.pairwise_append] at b
  refine ⟨a, ?_, ?_⟩
  · unfold midOf
    split
    · simpa using b.2.1
    · simp only [List.cons_append, List.nil_append, List.pairwise_cons]
      exact ⟨fun r hr => hp r hr, b.2.1⟩
  · intro r hr s hs
    rcases List.mem_append.1 hs with hs | hs
    · unfold midOf at hs
      split at hs
      · simp at hs
      · simp at hs; subst hs; exact hpre r hr
    · exact c r hr s (List.mem_append.2 (.inr hs))

/-- The id that the name has; none: nothing. -/
def oldOf (name : ByteArray) (rs : List Rf) : ByteArray := match rs.find? (fun r => decide (r.1 = name)) with | some r => r.2 | none => ⟨#[]⟩

/-- Setting the old id again: the refs as they were, where no ref of that name has an empty id. -/
theorem setP_old {rs : List Rf} (h : Srt rs) (name : ByteArray) (hid : ∀ r ∈ rs, r.1 = name → r.2.size ≠ 0) : setP name (oldOf name rs) rs = rs := by
  obtain ⟨pre, mid, post, rfl, h1, h2, h3⟩ := h.split name
  have a1 : ∀ r ∈ pre, r.1 ≠ name := fun r hr e => by have := h1 r hr; have := (cmpR_zero name r).2 e; omega
  have a2 : ∀ r ∈ post, r.1 ≠ name := fun r hr e => by have := h2 r hr; have := (cmpR_zero name r).2 e; omega
  have f1 : pre.find? (fun r => decide (r.1 = name)) = none := List.find?_eq_none.2 (fun r hr => by simpa using a1 r hr)
  have f2 : post.find? (fun r => decide (r.1 = name)) = none := List.find?_eq_none.2 (fun r hr => by simpa using a2 r hr)
  rw [setP_split h1 h2 h3]
  rcases h3 with rfl | ⟨x, rfl⟩
  · have : oldOf name (pre ++ ([] ++ post)) = ⟨#[]⟩ := by unfold oldOf; rw [List.find?_append, f1, List.nil_append, f2]; rfl
    rw [this]
    rfl
  · have : oldOf name (pre ++ ([(name, x)] ++ post)) = x := by unfold oldOf; rw [List.find?_append, f1]; simp
    rw [this]
    have hx := hid (name, x) (by simp) rfl
    simp only at hx
    simp [midOf, hx]

/-! ### pickHead -/
def mainB : ByteArray := ⟨#[114, 101, 102, 115, 47, 104, 101, 97, 100, 115, 47, 109, 97, 105, 110]⟩
def isBranch (r : Rf) : Bool := Lib.hasPrefix r.1.data.toList [114, 101, 102, 115, 47, 104, 101, 97, 100, 115, 47]
def pick (head : ByteArray) (rs : List Rf) : ByteArray :=
  if hit head rs then head else if hit mainB rs then mainB else match rs.find? isBranch with | some r => r.1 | none => ⟨#[]⟩

theorem pick_idem {rs : List Rf} (h : Srt rs) (head : ByteArray) : pick (pick head rs) rs = pick head rs := by
  by_cases c1 : hit head rs = true
  · have : pick head rs = head := by simp [pick, c1]
    rw [this, this]
  · by_cases c2 : hit mainB rs = true
    · have : pick head rs = mainB := by simp [pick, c1, c2]
      rw [this]
      simp [pick, c2]
    · cases hf : rs.find? isBranch with
      | some r =>
        have : pick head rs = r.1 := by simp [pick, c1, c2, hf]
        rw [this]
        have := hit_of_mem h (List.mem_of_find?_eq_some hf)
        simp [pick, this]
      | none =>
        have : pick head rs = ⟨#[]⟩ := by simp [pick, c1, c2, hf]
        rw [this]
        by_cases c3 : hit ⟨#[]⟩ rs = true
        · simp [pick, c3]
        · simp [pick, c2, c3, hf]
end Go.Proofs.Qxb6602077a
