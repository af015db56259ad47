/- The plain law: what valueEnd's scanner passes over. No Go here. -/
import Derived.Test.Qxb6600953aPlainEnd
namespace Go.Proofs.Qxb6600953a

/-- How many backslashes stand right ahead of place q. -/
def bsRun (l : List UInt8) : Nat → Nat
  | 0 => 0
  | q + 1 => if bt l q = 92 then bsRun l q + 1 else 0

theorem bsRun_le (l : List UInt8) (q : Nat) : bsRun l q ≤ q := by
  induction q with
  | zero => simp [bsRun]
  | succ q ih => unfold bsRun; split <;> omega
theorem bsRun_esc {l : List UInt8} {q : Nat} (h : bt l q = 92) : bsRun l (q + 1) = bsRun l q + 1 := by simp [bsRun, h]
theorem bsRun_non {l : List UInt8} {q : Nat} (h : bt l q ≠ 92) : bsRun l (q + 1) = 0 := by simp [bsRun, h]
/-- Ahead of an opening quote none counts. -/
theorem bsRun_bound {l : List UInt8} {i q : Nat} (h : bt l i ≠ 92) (hq : i < q) : bsRun l q + i + 1 ≤ q := by
  induction q with
  | zero => omega
  | succ q ih =>
    by_cases e : q = i
    · subst e; rw [bsRun_non h]; omega
    · have := ih (by omega)
      unfold bsRun; split <;> omega
/-- Counting down: byte q - 1 - k is a backslash just while k is below the run. -/
theorem bsRun_at {l : List UInt8} : ∀ {q k : Nat}, k < bsRun l q → bt l (q - 1 - k) = 92
  | 0, k, h => by simp [bsRun] at h
  | q + 1, k, h => by
    by_cases e : bt l q = 92
    · rw [bsRun_esc e] at h
      cases k with
      | zero => simpa using e
      | succ k =>
        have := bsRun_at (l := l) (q := q) (k := k) (by omega)
        rw [show q + 1 - 1 - (k + 1) = q - 1 - k from by omega]; exact this
    · rw [bsRun_non e] at h; omega
theorem bsRun_end {l : List UInt8} : ∀ {q : Nat}, bsRun l q < q → bt l (q - 1 - bsRun l q) ≠ 92
  | 0, h => by omega
  | q + 1, h => by
    by_cases e : bt l q = 92
    · rw [bsRun_esc e] at h ⊢
      have := bsRun_end (l := l) (q := q) (by omega)
      rw [show q + 1 - 1 - (bsRun l q + 1) = q - 1 - bsRun l q from by omega]; exact this
    · rw [bsRun_non e]; simpa using e

/-- The string that opens at i ends at e. -/
structure StrTo (l : List UInt8) (i e : Nat) : Prop where
  lt : i + 1 < e
  len : e ≤ l.length
  first : bt l i = 34
  quote : bt l (e - 1) = 34
  even : bsRun l (e - 1) % 2 = 0
  inner : ∀ p, i < p → p < e - 1 → bt l p = 34 → bsRun l p % 2 = 1

/-- Inside a string that opens at i, at the head of a character. -/
structure SI (l : List UInt8) (i j : Nat) : Prop where
  lt : i < j
  first : bt l i = 34
  even : bsRun l j % 2 = 0
  inner : ∀ p, i < p → p < j → bt l p = 34 → bsRun l p % 2 = 1

theorem SI.start {l : List UInt8} {i : Nat} (h : bt l i = 34) : SI l i (i + 1) :=
  ⟨by omega, h, by rw [bsRun_non (by rw [h]; decide)], fun p a b => by omega⟩
theorem SI.plain {l : List UInt8} {i j : Nat} (h : SI l i j) (h1 : bt l j ≠ 34) (h2 : bt l j ≠ 92) : SI l i (j + 1) :=
  ⟨Nat.lt_succ_of_lt h.lt, h.first, by rw [bsRun_non h2], fun p a b c => by
    by_cases e : p = j
    · subst e; exact absurd c h1
    · exact h.inner p a (by omega) c⟩
theorem SI.esc {l : List UInt8} {i j : Nat} (h : SI l i j) (h1 : bt l j = 92) : SI l i (j + 2) :=
  ⟨by have := h.lt; omega, h.first, by
    have e := h.even
    by_cases h2 : bt l (j + 1) = 92
    · rw [bsRun_esc h2, bsRun_esc h1]; omega
    · rw [bsRun_non h2], fun p a b c => by
    have e := h.even
    by_cases e1 : p = j
    · subst e1; rw [h1] at c; exact absurd c (by decide)
    · by_cases e2 : p = j + 1
      · subst e2; rw [bsRun_esc h1]; omega
      · exact h.inner p a (by omega) c⟩
theorem SI.uni {l : List UInt8} {i j : Nat} (h : SI l i j) (h1 : bt l j = 92) (h2 : ∀ k, j + 2 ≤ k → k < j + 6 → bt l k ≠ 34 ∧ bt l k ≠ 92) : SI l i (j + 6) := by
  have a := h.esc h1
  have b := a.plain (h2 (j + 2) (by omega) (by omega)).1 (h2 (j + 2) (by omega) (by omega)).2
  have c := b.plain (h2 (j + 3) (by omega) (by omega)).1 (h2 (j + 3) (by omega) (by omega)).2
  have d := c.plain (h2 (j + 4) (by omega) (by omega)).1 (h2 (j + 4) (by omega) (by omega)).2
  exact d.plain (h2 (j + 5) (by omega) (by omega)).1 (h2 (j + 5) (by omega) (by omega)).2
theorem SI.done {l : List UInt8} {i j : Nat} (h : SI l i j) (hj : j < l.length) (h1 : bt l j = 34) : StrTo l i (j + 1) :=
  ⟨by have := h.lt; omega, hj, h.first, h1, h.even, h.inner⟩

/-- A byte that the scanner passes over. -/
def plainB (c : UInt8) : Bool := c != 34 && c != 123 && c != 91 && c != 125 && c != 93

/-- The scanner, at place j and depth d, answers x. -/
def Scan (l : List UInt8) : Nat → Nat → Nat → Nat → Prop
  | 0, _, _, _ => False
  | f + 1, j, d, x => j < l.length ∧
      ((bt l j = 34 ∧ ∃ e, StrTo l j e ∧ Scan l f e d x) ∨
       ((bt l j = 123 ∨ bt l j = 91) ∧ Scan l f (j + 1) (d + 1) x) ∨
       ((bt l j = 125 ∨ bt l j = 93) ∧ ((d = 1 ∧ x = j + 1) ∨ (2 ≤ d ∧ Scan l f (j + 1) (d - 1) x))) ∨
       (plainB (bt l j) = true ∧ Scan l f (j + 1) d x))

/-- From i to e the scanner comes out as deep as it went in. -/
structure Tr (l : List UInt8) (i e : Nat) : Prop where
  le : i ≤ e
  len : e ≤ l.length
  thru : ∀ f d x, 1 ≤ d → Scan l f e d x → ∃ f', Scan l f' i d x

theorem Tr.refl {l : List UInt8} {i : Nat} (h : i ≤ l.length) : Tr l i i := ⟨Nat.le_refl _, h, fun f _ _ _ s => ⟨f, s⟩⟩
theorem Tr.trans {l : List UInt8} {i m e : Nat} (a : Tr l i m) (b : Tr l m e) : Tr l i e :=
  ⟨Nat.le_trans a.le b.le, b.len, fun f d x hd s => by obtain ⟨f1, s1⟩ := b.thru f d x hd s; exact a.thru f1 d x hd s1⟩
theorem Tr.byte {l : List UInt8} {j : Nat} (h : j < l.length) (hp : plainB (bt l j) = true) : Tr l j (j + 1) :=
  ⟨by omega, h, fun f d x _ s => ⟨f + 1, h, Or.inr (Or.inr (Or.inr ⟨hp, s⟩))⟩⟩
theorem Tr.str {l : List UInt8} {j e : Nat} (h : StrTo l j e) : Tr l j e :=
  ⟨by have := h.lt; omega, h.len, fun f d x _ s => ⟨f + 1, by have := h.lt; have := h.len; omega, Or.inl ⟨h.first, e, h, s⟩⟩⟩
theorem Tr.all {l : List UInt8} {i : Nat} : ∀ {e : Nat}, i ≤ e → e ≤ l.length → (∀ k, i ≤ k → k < e → plainB (bt l k) = true) → Tr l i e
  | 0, h1, h2, _ => by obtain rfl : i = 0 := by omega
                       exact Tr.refl h2
  | e + 1, h1, h2, h3 => by
    by_cases c : i = e + 1
    · subst c; exact Tr.refl h2
    · exact (Tr.all (e := e) (by omega) (by omega) (fun k a b => h3 k a (by omega))).trans (Tr.byte (by omega) (h3 e (by omega) (by omega)))

/-- An object or an array from i to e, its inside passed over. -/
def Grp (l : List UInt8) (i e : Nat) : Prop := ∃ m, e = m + 1 ∧ m < l.length ∧ (bt l m = 125 ∨ bt l m = 93) ∧ Tr l (i + 1) m

theorem Grp.tr {l : List UInt8} {i e : Nat} (h : Grp l i e) (ho : bt l i = 123 ∨ bt l i = 91) : Tr l i e := by
  obtain ⟨m, rfl, hm, hc, ht⟩ := h
  have := ht.le
  refine ⟨by omega, by omega, fun f d x hd s => ?_⟩
  have s1 : Scan l (f + 1) m (d + 1) x := ⟨hm, Or.inr (Or.inr (Or.inl ⟨hc, Or.inr ⟨by omega, by simpa using s⟩⟩))⟩
  obtain ⟨f2, s2⟩ := ht.thru _ _ _ (by omega) s1
  exact ⟨f2 + 1, by omega, Or.inr (Or.inl ⟨ho, s2⟩)⟩
theorem Grp.scan {l : List UInt8} {i e : Nat} (h : Grp l i e) (ho : bt l i = 123 ∨ bt l i = 91) : ∃ f, Scan l f i 0 e := by
  obtain ⟨m, rfl, hm, hc, ht⟩ := h
  have := ht.le
  have s1 : Scan l 1 m 1 (m + 1) := ⟨hm, Or.inr (Or.inr (Or.inl ⟨hc, Or.inl ⟨rfl, rfl⟩⟩))⟩
  obtain ⟨f2, s2⟩ := ht.thru _ _ _ (Nat.le_refl _) s1
  exact ⟨f2 + 1, by omega, Or.inr (Or.inl ⟨ho, s2⟩)⟩

/-- A value from i to e. -/
structure Val (l : List UInt8) (i e : Nat) : Prop where
  lt : i < e
  tr : Tr l i e
  kind : (bt l i = 34 ∧ StrTo l i e) ∨ ((bt l i = 123 ∨ bt l i = 91) ∧ Grp l i e) ∨
    ((bt l i ≠ 34 ∧ bt l i ≠ 123 ∧ bt l i ≠ 91) ∧ ∀ k, i ≤ k → k < e → endsB (bt l k) = false)

theorem Val.str {l : List UInt8} {i e : Nat} (h : StrTo l i e) : Val l i e := ⟨by have := h.lt; omega, Tr.str h, Or.inl ⟨h.first, h⟩⟩
theorem Val.grp {l : List UInt8} {i e : Nat} (h : Grp l i e) (ho : bt l i = 123 ∨ bt l i = 91) : Val l i e :=
  ⟨by obtain ⟨m, rfl, _, _, ht⟩ := h; have := ht.le; omega, h.tr ho, Or.inr (Or.inl ⟨ho, h⟩)⟩
theorem Val.plain {l : List UInt8} {i e : Nat} (h : i < e) (he : e ≤ l.length) (hp : ∀ k, i ≤ k → k < e → plainB (bt l k) = true ∧ endsB (bt l k) = false) : Val l i e :=
  ⟨h, Tr.all (by omega) he (fun k a b => (hp k a b).1), Or.inr (Or.inr ⟨by
    have := (hp i (Nat.le_refl _) h).1
    simp [plainB] at this
    exact ⟨this.1.1.1.1, this.1.1.1.2, this.1.1.2⟩, fun k a b => (hp k a b).2⟩)⟩
theorem num_plain (c : UInt8) (h : numB c = true) : plainB c = true := by
  simp [numB, isDig, UInt8.le_iff_toNat_le, ← UInt8.toNat_inj] at h
  simp [plainB, ← UInt8.toNat_inj]
  omega
theorem Val.num {l : List UInt8} {i e : Nat} (h : NumTo l i e) (hi : i < e) : Val l i e :=
  Val.plain hi h.len fun k a b => ⟨num_plain _ (h.all k a b), num_not_ends _ (h.all k a b)⟩
end Go.Proofs.Qxb6600953a
