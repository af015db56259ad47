/- The plain law of skipSpace: what the scanner skips, on lists of bytes. No Go here. -/
import Derived.Lib.Bytealg
namespace Go.Proofs.Qxb6600238a.Plain

/-- A isBlank byte. -/
def isBlank (c : UInt8) : Bool := c == 32 || c == 9 || c == 10 || c == 13

/-- How many bytes the scanner skips; the flag says whether it stands inside a comment. -/
def skipN : Bool → List UInt8 → Nat
  | _, [] => 0
  | true, c :: l => if c == 10 then skipN false l + 1 else skipN true l + 1
  | false, c :: l => if isBlank c then skipN false l + 1 else if c == 35 then skipN true l + 1 else 0

theorem skipN_le (f : Bool) (l : List UInt8) : skipN f l ≤ l.length := by
  induction l generalizing f with
  | nil => cases f <;> simp [skipN]
  | cons c l ih =>
    have a := ih true
    have b := ih false
    cases f
    · simp only [skipN, List.length_cons]; split
      · omega
      · split <;> omega
    · simp only [skipN, List.length_cons]; split <;> omega

/-- From place p on. -/
def skipTo (l : List UInt8) (p : Nat) : Nat := p + skipN false (l.drop p)

theorem skipTo_ge (l : List UInt8) (p : Nat) : p ≤ skipTo l p := by unfold skipTo; omega
theorem skipTo_le (l : List UInt8) (p : Nat) (h : p ≤ l.length) : skipTo l p ≤ l.length := by
  unfold skipTo; have := skipN_le false (l.drop p); simp at this; omega
theorem skipTo_past (l : List UInt8) (p : Nat) (h : l.length ≤ p) : skipTo l p = p := by
  unfold skipTo; rw [List.drop_eq_nil_of_le h]; simp [skipN]

theorem drop_cons (l : List UInt8) (p : Nat) (h : p < l.length) : l.drop p = l[p] :: l.drop (p + 1) := List.drop_eq_getElem_cons h

theorem skipTo_blank (l : List UInt8) (p : Nat) (h : p < l.length) (hb : isBlank l[p] = true) : skipTo l (p + 1) = skipTo l p := by
  unfold skipTo; rw [drop_cons l p h]; simp [skipN, hb]; omega

theorem skipTo_stop (l : List UInt8) (p : Nat) (h : p < l.length) (hb : isBlank l[p] = false) (hc : l[p] ≠ 35) : skipTo l p = p := by
  unfold skipTo; rw [drop_cons l p h]; simp [skipN, hb, hc]

/-- Inside a comment: up to the first newline. -/
theorem skipN_com (l : List UInt8) : (Lib.indexByte l 10 = -1 ∧ skipN true l = l.length) ∨
    (∃ e : Nat, Lib.indexByte l 10 = e ∧ e < l.length ∧ skipN true l = e + skipN false (l.drop e)) := by
  induction l with
  | nil => left; simp [Lib.indexByte, skipN]
  | cons c l ih =>
    by_cases hc : c = 10
    · right; refine ⟨0, by simp [Lib.indexByte, hc], by simp, ?_⟩
      subst hc; simp [skipN, isBlank]
    · rcases ih with ⟨h1, h2⟩ | ⟨e, h1, h2, h3⟩
      · left; simp [Lib.indexByte, hc, h1, skipN, h2]
      · right
        refine ⟨e + 1, ?_, by simp; omega, ?_⟩
        · have : ¬ ((e : Int) = -1) := by omega
          simp [Lib.indexByte, hc, h1, this]
        · simp [skipN, hc, h3]; omega

theorem indexByte_hash (l : List UInt8) : Lib.indexByte (35 :: l) 10 = if Lib.indexByte l 10 = -1 then -1 else Lib.indexByte l 10 + 1 := by
  simp [Lib.indexByte]

/-- At a '#': the newline is at place e, or there is none. -/
theorem skipTo_hash (l : List UInt8) (p : Nat) (h : p < l.length) (hc : l[p] = 35) :
    (Lib.indexByte (l.drop p) 10 = -1 ∧ skipTo l p = l.length) ∨
    (∃ e : Nat, Lib.indexByte (l.drop p) 10 = e ∧ 0 < e ∧ p + e < l.length ∧ skipTo l (p + e) = skipTo l p) := by
  have hb : isBlank 35 = false := by decide
  rcases skipN_com (l.drop (p + 1)) with ⟨h1, h2⟩ | ⟨e, h1, h2, h3⟩
  · left
    rw [drop_cons l p h, hc, indexByte_hash, h1]
    refine ⟨rfl, ?_⟩
    unfold skipTo; rw [drop_cons l p h, hc]
    simp [skipN, hb, h2]; omega
  · right
    simp at h2
    refine ⟨e + 1, ?_, by omega, by omega, ?_⟩
    · rw [drop_cons l p h, hc, indexByte_hash, h1, if_neg (by omega)]; omega
    · unfold skipTo; rw [drop_cons l p h, hc]
      rw [List.drop_drop] at h3
      rw [show p + (e + 1) = p + 1 + e from by omega]
      simp only [skipN, hb, h3]; simp; omega

/-- The model's steps: from place k on, with the flag. -/
def fromK (l : List UInt8) (f : Bool) (k : Nat) : Nat := k + skipN f (l.drop k)
theorem fromK_end (l : List UInt8) (f : Bool) (k : Nat) (h : l.length ≤ k) : fromK l f k = k := by
  unfold fromK; rw [List.drop_eq_nil_of_le h]; cases f <;> simp [skipN]
theorem fromK_nl (l : List UInt8) (k : Nat) (h : k < l.length) (hc : l[k] = 10) : fromK l false (k + 1) = fromK l true k := by
  unfold fromK; rw [drop_cons l k h]; simp [skipN, hc]; omega
theorem fromK_in (l : List UInt8) (k : Nat) (h : k < l.length) (hc : l[k] ≠ 10) : fromK l true (k + 1) = fromK l true k := by
  unfold fromK; rw [drop_cons l k h]; simp [skipN, hc]; omega
theorem fromK_blank (l : List UInt8) (k : Nat) (h : k < l.length) (hc : isBlank l[k] = true) : fromK l false (k + 1) = fromK l false k := by
  unfold fromK; rw [drop_cons l k h]; simp [skipN, hc]; omega
theorem fromK_hash (l : List UInt8) (k : Nat) (h : k < l.length) (hc : l[k] = 35) : fromK l true (k + 1) = fromK l false k := by
  unfold fromK; rw [drop_cons l k h]; simp [skipN, hc]
  have : isBlank 35 = false := by decide
  simp [this]; omega
theorem fromK_stop (l : List UInt8) (k : Nat) (h : k < l.length) (hb : isBlank l[k] = false) (hc : l[k] ≠ 35) : fromK l false k = k := by
  unfold fromK; rw [drop_cons l k h]; simp [skipN, hb, hc]

/-- Where it stops inside the text stands a byte that is no blank and no '#'. -/
theorem skipN_stop (f : Bool) (l : List UInt8) (h : skipN f l < l.length) : isBlank (l[skipN f l]'h) = false ∧ l[skipN f l]'h ≠ 35 := by
  induction l generalizing f with
  | nil => simp at h
  | cons c l ih =>
    cases f
    · by_cases hb : isBlank c = true
      · have e : skipN false (c :: l) = skipN false l + 1 := by simp [skipN, hb]
        have hh : skipN false l < l.length := by rw [e] at h; simpa using h
        have := ih false hh
        simpa only [e, List.getElem_cons_succ] using this
      · by_cases hc : c = 35
        · have e : skipN false (c :: l) = skipN true l + 1 := by simp [skipN, hc]; intro h'; subst hc; exact absurd h' hb
          have hh : skipN true l < l.length := by rw [e] at h; simpa using h
          have := ih true hh
          simpa only [e, List.getElem_cons_succ] using this
        · have e : skipN false (c :: l) = 0 := by simp [skipN, hb, hc]
          simp only [e, List.getElem_cons_zero]
          exact ⟨by simpa using hb, hc⟩
    · by_cases hc : c = 10
      · have e : skipN true (c :: l) = skipN false l + 1 := by simp [skipN, hc]
        have hh : skipN false l < l.length := by rw [e] at h; simpa using h
        have := ih false hh
        simpa only [e, List.getElem_cons_succ] using this
      · have e : skipN true (c :: l) = skipN true l + 1 := by simp [skipN, hc]
        have hh : skipN true l < l.length := by rw [e] at h; simpa using h
        have := ih true hh
        simpa only [e, List.getElem_cons_succ] using this

theorem skipTo_at (l : List UInt8) (p : Nat) (h : skipTo l p < l.length) : isBlank (l[skipTo l p]'h) = false ∧ l[skipTo l p]'h ≠ 35 := by
  have hd : skipN false (l.drop p) < (l.drop p).length := by unfold skipTo at h; simp; omega
  have := skipN_stop false (l.drop p) hd
  simp only [List.getElem_drop] at this
  exact this

theorem skipTo_idem (l : List UInt8) (p : Nat) : skipTo l (skipTo l p) = skipTo l p := by
  by_cases h : skipTo l p < l.length
  · have := skipTo_at l p h
    exact skipTo_stop l _ h this.1 this.2
  · exact skipTo_past l _ (by omega)

/-- What follows the text does not move a stop inside it. -/
theorem skipN_append (f : Bool) (l t : List UInt8) : (skipN f l < l.length → skipN f (l ++ t) = skipN f l) ∧ (skipN f l = l.length → l.length ≤ skipN f (l ++ t)) := by
  induction l generalizing f with
  | nil => simp
  | cons c l ih =>
    have a := ih true
    have b := ih false
    cases f
    · simp only [List.cons_append, skipN, List.length_cons]
      split
      · exact ⟨fun h => by rw [b.1 (by omega)], fun h => by have := b.2 (by omega); omega⟩
      · split
        · exact ⟨fun h => by rw [a.1 (by omega)], fun h => by have := a.2 (by omega); omega⟩
        · exact ⟨fun _ => rfl, fun h => by omega⟩
    · simp only [List.cons_append, skipN, List.length_cons]
      split
      · exact ⟨fun h => by rw [b.1 (by omega)], fun h => by have := b.2 (by omega); omega⟩
      · exact ⟨fun h => by rw [a.1 (by omega)], fun h => by have := a.2 (by omega); omega⟩

theorem skipTo_append (l t : List UInt8) (p : Nat) (hp : p ≤ l.length) : (skipTo l p < l.length → skipTo (l ++ t) p = skipTo l p) ∧ (skipTo l p = l.length → l.length ≤ skipTo (l ++ t) p) := by
  have h := skipN_append false (l.drop p) t
  unfold skipTo
  rw [List.drop_append_of_le_length hp]
  simp only [List.length_drop] at h
  exact ⟨fun k => by rw [h.1 (by omega)], fun k => by have := h.2 (by omega); omega⟩

end Go.Proofs.Qxb6600238a.Plain
