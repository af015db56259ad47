/- The plain law: fit's reading of a form, part by part, agrees with the set of the places that every parse reaches. No Go here. -/
import Derived.Lib.IndexAny
namespace Go.Proofs.Qxb6600526a.Plain

/-- Is byte j of the name among ex? -/
def xin (L ex : List UInt8) (j : Nat) : Bool := ex.contains (L.getD j 0)

section
variable (T E : Nat → List UInt8) (R : Nat → Bool) (Ls : Nat → Int)

/-- What fit answers with k parts left, at part i, the rest of the name in hand. -/
def fitK : Nat → Nat → List UInt8 → Bool × Bool
  | 0, _, rest => (rest.isEmpty, rest.isEmpty)
  | k + 1, i, rest =>
    if R i = false then
      if rest.length < (T i).length then (false, rest.isPrefixOf (T i))
      else if (T i).isPrefixOf rest = true then fitK k (i + 1) (rest.drop (T i).length) else (false, false)
    else if Lib.indexAny rest (E i) < 0 then (decide (Ls i ≤ rest.length) && decide (k = 0), true)
    else if Lib.indexAny rest (E i) < Ls i then (false, false)
    else fitK k (i + 1) (rest.drop (Lib.indexAny rest (E i)).toNat)

/-- A run that is not last is followed by a text whose first byte it excludes. -/
def Next (n i : Nat) (ex : List UInt8) : Prop := i < n → R i = false ∧ ∃ c t, T i = c :: t ∧ ex.contains c = true

/-- Every run of the form is so followed. -/
def Chain (n : Nat) : Prop := ∀ i, i < n → R i = true → Next T R n (i + 1) (E i)
end

/-- What a text makes of the places reached: the new places, and whether the name may end inside it. -/
structure TextSpec (L t : List UInt8) (cur nx : Nat → Bool) (b : Bool) : Prop where
  nx : ∀ q, q ≤ L.length → (nx q = true ↔ ∃ p, p ≤ L.length ∧ cur p = true ∧ t.length ≤ L.length - p ∧ t.isPrefixOf (L.drop p) = true ∧ q = p + t.length)
  b : b = true ↔ ∃ p, p ≤ L.length ∧ cur p = true ∧ L.length - p < t.length ∧ (L.drop p).isPrefixOf t = true

/-- What a run makes of them. -/
structure RunSpec (L ex : List UInt8) (l : Nat) (cur nx : Nat → Bool) (b : Bool) : Prop where
  nx : ∀ e, e ≤ L.length → (nx e = true ↔ ∃ p, cur p = true ∧ p + l ≤ e ∧ ∀ j, p ≤ j → j < e → xin L ex j = false)
  b : b = true ↔ ∃ p, p ≤ L.length ∧ cur p = true ∧ ∀ j, p ≤ j → j < L.length → xin L ex j = false

section
variable {T E : Nat → List UInt8} {R : Nat → Bool} {Ls : Nat → Int}

/-- The places reached, the flag, and what fit will answer, at part i with k left. -/
def Sync (T E : Nat → List UInt8) (R : Nat → Bool) (Ls : Nat → Int) (n : Nat) (L : List UInt8) (k i : Nat) (cur : Nat → Bool) (bg : Bool) (res : Bool × Bool) : Prop :=
  (∃ p, p ≤ L.length ∧ (∀ q, q ≤ L.length → (cur q = true ↔ q = p)) ∧ bg = false ∧ res = fitK T E R Ls k i (L.drop p)) ∨
  (∃ a q ex, a ≤ q ∧ q < L.length ∧ (∀ e, e ≤ L.length → (cur e = true ↔ a ≤ e ∧ e ≤ q)) ∧ bg = false ∧ res = fitK T E R Ls k i (L.drop q) ∧ (∀ j, a ≤ j → j < q → xin L ex j = false) ∧ Next T R n i ex) ∨
  ((∀ q, q ≤ L.length → cur q = false) ∧ res = (false, bg)) ∨
  (∃ a ex, (∀ e, e ≤ L.length → (cur e = true ↔ a ≤ e)) ∧ bg = true ∧ res = (decide (a ≤ L.length) && decide (k = 0), true) ∧ (∀ j, a ≤ j → j < L.length → xin L ex j = false) ∧ Next T R n i ex)

theorem drop_head (L : List UInt8) (e : Nat) (h : e < L.length) : L.drop e = L.getD e 0 :: L.drop (e + 1) := by
  rw [List.drop_eq_getElem_cons h]; simp [h]

/-- Where the byte is excluded by what goes before, a text that begins with an excluded byte neither matches nor is begun. -/
theorem no_match {L t ex : List UInt8} {c : UInt8} {e : Nat} (he : e < L.length) (hx : xin L ex e = false) (hc : ex.contains c = true) :
    (c :: t).isPrefixOf (L.drop e) = false ∧ (L.drop e).isPrefixOf (c :: t) = false := by
  have hne : L.getD e 0 ≠ c := fun h => by unfold xin at hx; rw [h, hc] at hx; cases hx
  rw [drop_head L e he]
  constructor
  · simp only [List.isPrefixOf]
    have : (c == L.getD e 0) = false := by simpa using Ne.symm hne
    rw [this]; rfl
  · simp only [List.isPrefixOf]
    have : (L.getD e 0 == c) = false := by simpa using hne
    rw [this]; rfl

theorem bool_false_of {b : Bool} (h : ¬ b = true) : b = false := by simpa using h

/-- A text, from one single place p (of all those reached only p can go on). -/
theorem text_from {L : List UInt8} {n k i p : Nat} {cur nx : Nat → Bool} {b : Bool} {res : Bool × Bool} (hr : R i = false) (hp : p ≤ L.length) (hcp : cur p = true)
    (honly : ∀ q, q ≤ L.length → cur q = true → q = p ∨ (0 < (T i).length ∧ (T i).isPrefixOf (L.drop q) = false ∧ (L.drop q).isPrefixOf (T i) = false))
    (hs : TextSpec L (T i) cur nx b) (hres : res = fitK T E R Ls (k + 1) i (L.drop p)) : Sync T E R Ls n L k (i + 1) nx b res := by
  have hnx : ∀ q, q ≤ L.length → (nx q = true ↔ (T i).length ≤ L.length - p ∧ (T i).isPrefixOf (L.drop p) = true ∧ q = p + (T i).length) := fun q hq => by
    rw [hs.nx q hq]
    constructor
    · rintro ⟨r, h1, h2, h3, h4, h5⟩
      rcases honly r h1 h2 with rfl | ⟨_, h6, _⟩
      · exact ⟨h3, h4, h5⟩
      · rw [h6] at h4; cases h4
    · rintro ⟨h3, h4, h5⟩; exact ⟨p, hp, hcp, h3, h4, h5⟩
  have hb : b = true ↔ L.length - p < (T i).length ∧ (L.drop p).isPrefixOf (T i) = true := by
    rw [hs.b]
    constructor
    · rintro ⟨r, h1, h2, h3, h4⟩
      rcases honly r h1 h2 with rfl | ⟨_, _, h6⟩
      · exact ⟨h3, h4⟩
      · rw [h6] at h4; cases h4
    · rintro ⟨h3, h4⟩; exact ⟨p, hp, hcp, h3, h4⟩
  rw [fitK, if_pos hr] at hres
  have hlen : (L.drop p).length = L.length - p := by simp
  rw [hlen] at hres
  by_cases c1 : L.length - p < (T i).length
  · rw [if_pos c1] at hres
    refine Or.inr (Or.inr (Or.inl ⟨fun q hq => bool_false_of fun h => ?_, ?_⟩))
    · have := ((hnx q hq).1 h).1; omega
    · rw [hres]
      congr 1
      rw [Bool.eq_iff_iff, hb]
      exact ⟨fun h => ⟨c1, h⟩, fun h => h.2⟩
  · rw [if_neg c1] at hres
    have hbf : b = false := bool_false_of fun h => c1 (hb.1 h).1
    by_cases c2 : (T i).isPrefixOf (L.drop p) = true
    · rw [if_pos c2, List.drop_drop] at hres
      exact Or.inl ⟨p + (T i).length, by omega, fun q hq => by rw [hnx q hq]; exact ⟨fun h => h.2.2, fun h => ⟨by omega, c2, h⟩⟩, hbf, hres⟩
    · rw [if_neg c2] at hres
      exact Or.inr (Or.inr (Or.inl ⟨fun q hq => bool_false_of fun h => c2 ((hnx q hq).1 h).2.1, by rw [hres, hbf]⟩))

theorem sync_text {L : List UInt8} {n k i : Nat} {cur nx : Nat → Bool} {bg b : Bool} {res : Bool × Bool} (hr : R i = false) (hi : i < n)
    (h : Sync T E R Ls n L (k + 1) i cur bg res) (hs : TextSpec L (T i) cur nx b) : Sync T E R Ls n L k (i + 1) nx (bg || b) res := by
  rcases h with ⟨p, hp, hc, rfl, hres⟩ | ⟨a, q, ex, haq, hq, hc, rfl, hres, hno, hnext⟩ | ⟨hc, hres⟩ | ⟨a, ex, hc, rfl, hres, hno, hnext⟩
  · have := text_from (n := n) hr hp ((hc p hp).2 rfl) (fun r hr hcr => Or.inl ((hc r hr).1 hcr)) hs hres
    simpa using this
  · obtain ⟨_, c, t, ht, hct⟩ := hnext hi
    have := text_from (n := n) (p := q) hr (by omega) ((hc q (by omega)).2 ⟨haq, Nat.le_refl _⟩) (fun r hr hcr => by
      obtain ⟨h1, h2⟩ := (hc r hr).1 hcr
      by_cases e : r = q
      · exact Or.inl e
      · right
        rw [ht]
        exact ⟨by simp, no_match (by omega) (hno r h1 (by omega)) hct⟩) hs hres
    simpa using this
  · have hbf : b = false := bool_false_of fun h => by
      obtain ⟨p, h1, h2, _⟩ := hs.b.1 h
      rw [hc p h1] at h2; cases h2
    subst hbf
    refine Or.inr (Or.inr (Or.inl ⟨fun q hq => bool_false_of fun h => ?_, by simpa using hres⟩))
    obtain ⟨p, h1, h2, _⟩ := (hs.nx q hq).1 h
    rw [hc p h1] at h2; cases h2
  · obtain ⟨_, c, t, ht, hct⟩ := hnext hi
    refine Or.inr (Or.inr (Or.inl ⟨fun q hq => bool_false_of fun h => ?_, by rw [hres]; simp⟩))
    obtain ⟨p, h1, h2, h3, h4, _⟩ := (hs.nx q hq).1 h
    have hap := (hc p h1).1 h2
    by_cases e : p = L.length
    · subst e; rw [ht] at h3; simp at h3
    · rw [ht, (no_match (by omega) (hno p hap (by omega)) hct).1] at h4; cases h4

theorem any_none {L ex : List UInt8} {p : Nat} (h : Lib.indexAny (L.drop p) ex < 0) : ∀ j, p ≤ j → j < L.length → xin L ex j = false := by
  intro j h1 h2
  cases hx : xin L ex j with
  | false => rfl
  | true =>
    exfalso
    have key : ∀ (l : List UInt8) (j : Nat), j < l.length → ex.contains (l.getD j 0) = true → 0 ≤ Lib.indexAny l ex := by
      intro l
      induction l with
      | nil => intro j hj; simp at hj
      | cons b l ih =>
        intro j hj hc
        unfold Lib.indexAny
        split
        · omega
        · rename_i hb
          cases j with
          | zero => simp at hc; exact absurd (by simpa using hc) hb
          | succ j =>
            have := ih j (by simpa using hj) (by simpa using hc)
            split
            · rename_i he; have := beq_iff_eq.1 he; omega
            · omega
    have := key (L.drop p) (j - p) (by simp; omega) (by
      unfold xin at hx
      simp only [List.getD_eq_getElem?_getD, List.getElem?_drop] at hx ⊢
      rw [show p + (j - p) = j from by omega]; exact hx)
    omega

theorem any_some {L ex : List UInt8} {p : Nat} (h : ¬ Lib.indexAny (L.drop p) ex < 0) :
    ∃ m : Nat, Lib.indexAny (L.drop p) ex = m ∧ p + m < L.length ∧ xin L ex (p + m) = true ∧ ∀ j, p ≤ j → j < p + m → xin L ex j = false := by
  have key : ∀ (l : List UInt8), 0 ≤ Lib.indexAny l ex → ∃ m : Nat, Lib.indexAny l ex = m ∧ m < l.length ∧ ex.contains (l.getD m 0) = true ∧ ∀ j, j < m → ex.contains (l.getD j 0) = false := by
    intro l
    induction l with
    | nil => intro h; simp [Lib.indexAny] at h
    | cons b l ih =>
      intro h
      unfold Lib.indexAny at h ⊢
      by_cases hb : ex.contains b = true
      · rw [if_pos hb]; exact ⟨0, rfl, by simp, by simpa using hb, fun j hj => by omega⟩
      · rw [if_neg hb] at h ⊢
        by_cases he : (Lib.indexAny l ex == -1) = true
        · rw [if_pos he] at h; omega
        · rw [if_neg he] at h ⊢
          have hge := Lib.indexAny_ge ex l
          have hne : Lib.indexAny l ex ≠ -1 := by simpa using he
          obtain ⟨m, h1, h2, h3, h4⟩ := ih (by omega)
          refine ⟨m + 1, by rw [h1]; omega, by simp; omega, by simpa using h3, fun j hj => ?_⟩
          cases j with
          | zero => simpa using hb
          | succ j => have := h4 j (by omega); simpa using this
  obtain ⟨m, h1, h2, h3, h4⟩ := key (L.drop p) (by omega)
  have hL : p + m < L.length := by simp at h2; omega
  refine ⟨m, h1, hL, ?_, fun j a b => ?_⟩
  · unfold xin; simp only [List.getD_eq_getElem?_getD, List.getElem?_drop] at h3 ⊢; exact h3
  · have := h4 (j - p) (by omega)
    unfold xin
    simp only [List.getD_eq_getElem?_getD, List.getElem?_drop] at this ⊢
    rw [show p + (j - p) = j from by omega] at this; exact this

theorem sync_run {L : List UInt8} {n k i : Nat} {cur nx : Nat → Bool} {bg b : Bool} {res : Bool × Bool} (hr : R i = true) (hi : i < n) (hch : Chain T E R n)
    (hcur : ∀ q, cur q = true → q ≤ L.length)
    (h : Sync T E R Ls n L (k + 1) i cur bg res) (hs : RunSpec L (E i) (Ls i).toNat cur nx b) : Sync T E R Ls n L k (i + 1) nx (bg || b) res := by
  have hr' : ¬ R i = false := by rw [hr]; decide
  rcases h with ⟨p, hp, hc, rfl, hres⟩ | ⟨a, q, ex, haq, hq, hc, rfl, hres, hno, hnext⟩ | ⟨hc, hres⟩ | ⟨a, ex, hc, rfl, hres, hno, hnext⟩
  · have hnx : ∀ e, e ≤ L.length → (nx e = true ↔ p + (Ls i).toNat ≤ e ∧ ∀ j, p ≤ j → j < e → xin L (E i) j = false) := fun e he => by
      rw [hs.nx e he]
      constructor
      · rintro ⟨r, h1, h2, h3⟩
        have : r = p := (hc r (hcur r h1)).1 h1
        subst this; exact ⟨h2, h3⟩
      · rintro ⟨h2, h3⟩; exact ⟨p, (hc p hp).2 rfl, h2, h3⟩
    have hb : b = true ↔ ∀ j, p ≤ j → j < L.length → xin L (E i) j = false := by
      rw [hs.b]
      constructor
      · rintro ⟨r, h1, h2, h3⟩
        have : r = p := (hc r h1).1 h2
        subst this; exact h3
      · intro h3; exact ⟨p, hp, (hc p hp).2 rfl, h3⟩
    rw [fitK, if_neg hr'] at hres
    have hlen : (L.drop p).length = L.length - p := by simp
    by_cases c1 : Lib.indexAny (L.drop p) (E i) < 0
    · rw [if_pos c1, hlen] at hres
      have hno := any_none c1
      have hbt : b = true := hb.2 hno
      subst hbt
      refine Or.inr (Or.inr (Or.inr ⟨p + (Ls i).toNat, E i, fun e he => ?_, rfl, ?_, fun j h1 h2 => hno j (by omega) h2, fun hin => hch i hi hr hin⟩))
      · rw [hnx e he]; exact ⟨fun h => h.1, fun h => ⟨h, fun j h1 h2 => hno j h1 (by omega)⟩⟩
      · rw [hres]
        have e : decide (Ls i ≤ ((L.length - p : Nat) : Int)) = decide (p + (Ls i).toNat ≤ L.length) := by
          rw [Bool.eq_iff_iff]; simp; omega
        rw [e]
    · rw [if_neg c1] at hres
      obtain ⟨m, hm, hml, hmx, hmn⟩ := any_some c1
      have hbf : b = false := bool_false_of fun h => by
        have := hb.1 h (p + m) (by omega) hml
        rw [hmx] at this; cases this
      subst hbf
      rw [hm] at hres
      have hnx2 : ∀ e, e ≤ L.length → (nx e = true ↔ p + (Ls i).toNat ≤ e ∧ e ≤ p + m) := fun e he => by
        rw [hnx e he]
        constructor
        · rintro ⟨h1, h2⟩
          refine ⟨h1, ?_⟩
          by_cases c : e ≤ p + m
          · exact c
          · have := h2 (p + m) (by omega) (by omega); rw [hmx] at this; cases this
        · rintro ⟨h1, h2⟩; exact ⟨h1, fun j a b => hmn j a (by omega)⟩
      by_cases c2 : (m : Int) < Ls i
      · rw [if_pos c2] at hres
        exact Or.inr (Or.inr (Or.inl ⟨fun q hq => bool_false_of fun h => by have := (hnx2 q hq).1 h; omega, by rw [hres]; rfl⟩))
      · rw [if_neg c2, List.drop_drop] at hres
        exact Or.inr (Or.inl ⟨p + (Ls i).toNat, p + m, E i, by omega, hml, hnx2, rfl, by simpa using hres, fun j h1 h2 => hmn j (by omega) h2, fun hin => hch i hi hr hin⟩)
  · exact absurd (hnext hi).1 hr'
  · have hbf : b = false := bool_false_of fun h => by
      obtain ⟨p, h1, h2, _⟩ := hs.b.1 h
      rw [hc p h1] at h2; cases h2
    subst hbf
    refine Or.inr (Or.inr (Or.inl ⟨fun q hq => bool_false_of fun h => ?_, by simpa using hres⟩))
    obtain ⟨p, h1, _⟩ := (hs.nx q hq).1 h
    have := hc p (hcur p h1)
    rw [h1] at this; cases this
  · exact absurd (hnext hi).1 hr'

theorem sync_end {L : List UInt8} {n i : Nat} {cur : Nat → Bool} {bg : Bool} {res : Bool × Bool} (h : Sync T E R Ls n L 0 i cur bg res) : res = (cur L.length, bg || cur L.length) := by
  rcases h with ⟨p, hp, hc, rfl, hres⟩ | ⟨a, q, ex, haq, hq, hc, rfl, hres, _, _⟩ | ⟨hc, hres⟩ | ⟨a, ex, hc, rfl, hres, _, _⟩
  · rw [hres, fitK]
    have : (L.drop p).isEmpty = cur L.length := by
      rw [Bool.eq_iff_iff, hc _ (Nat.le_refl _)]; simp; omega
    rw [this]; rfl
  · rw [hres, fitK]
    have e1 : (L.drop q).isEmpty = false := by
      apply bool_false_of; simp; omega
    have e2 : cur L.length = false := bool_false_of fun h => by have := (hc _ (Nat.le_refl _)).1 h; omega
    rw [e1, e2]; rfl
  · rw [hres, hc _ (Nat.le_refl _)]; simp
  · rw [hres]
    have : decide (a ≤ L.length) = cur L.length := by
      rw [Bool.eq_iff_iff, hc _ (Nat.le_refl _)]; simp
    rw [this]; simp

theorem sync_start {L : List UInt8} {n : Nat} : Sync T E R Ls n L n 0 (fun q => q == 0) false (fitK T E R Ls n 0 L) :=
  Or.inl ⟨0, Nat.zero_le _, fun q _ => by simp, rfl, by simp⟩
end
end Go.Proofs.Qxb6600526a.Plain
