/- The plain law, more: the model's loops, place by place. No Go here. -/
import Derived.Test.Qxb6600526aPlain
namespace Go.Proofs.Qxb6600526a.Plain

/-- One place of a set turned. -/
def upd (f : Nat → Bool) (p : Nat) (v : Bool) : Nat → Bool := fun q => if q = p then v else f q
/-- One place of a row of numbers turned. -/
def updI (f : Nat → Int) (p : Nat) (v : Int) : Nat → Int := fun q => if q = p then v else f q
theorem upd_same (f : Nat → Bool) (p : Nat) (v : Bool) : upd f p v p = v := by simp [upd]
theorem upd_other (f : Nat → Bool) (p q : Nat) (v : Bool) (h : q ≠ p) : upd f p v q = f q := by simp [upd, h]
theorem updI_same (f : Nat → Int) (p : Nat) (v : Int) : updI f p v p = v := by simp [updI]
theorem updI_other (f : Nat → Int) (p q : Nat) (v : Int) (h : q ≠ p) : updI f p v q = f q := by simp [updI, h]

/-- How many of the first k places are in the set. -/
def cntf (cur : Nat → Bool) : Nat → Nat
  | 0 => 0
  | k + 1 => cntf cur k + (if cur k = true then 1 else 0)
theorem cntf_succ (cur : Nat → Bool) (k : Nat) : cntf cur (k + 1) = cntf cur k + (if cur k = true then 1 else 0) := rfl
theorem cntf_le (cur : Nat → Bool) (k : Nat) : cntf cur k ≤ k := by
  induction k with
  | zero => simp [cntf]
  | succ k ih => simp only [cntf]; split <;> omega
theorem cntf_mono (cur : Nat → Bool) (a d : Nat) : cntf cur a ≤ cntf cur (a + d) := by
  induction d with
  | zero => simp
  | succ d ih => rw [← Nat.add_assoc, cntf_succ]; split <;> omega
theorem cntf_lt (cur : Nat → Bool) (a d : Nat) : cntf cur a < cntf cur (a + d) ↔ ∃ p, a ≤ p ∧ p < a + d ∧ cur p = true := by
  induction d with
  | zero => simp; intro p h1 h2; omega
  | succ d ih =>
    have hm := cntf_mono cur a d
    rw [← Nat.add_assoc, cntf_succ]
    by_cases c : cur (a + d) = true
    · rw [if_pos c]
      exact ⟨fun _ => ⟨a + d, by omega, by omega, c⟩, fun _ => by omega⟩
    · rw [if_neg c]
      constructor
      · intro h
        obtain ⟨p, h1, h2, h3⟩ := ih.1 (by omega)
        exact ⟨p, h1, by omega, h3⟩
      · rintro ⟨p, h1, h2, h3⟩
        have hne : p ≠ a + d := fun e => c (e ▸ h3)
        have := ih.2 ⟨p, h1, by omega, h3⟩
        omega

/-- The text's loop, up to place p. -/
structure TextUp (L t : List UInt8) (cur nx : Nat → Bool) (b : Bool) (p : Nat) : Prop where
  nx : ∀ q, q ≤ L.length → (nx q = true ↔ ∃ r, r < p ∧ r ≤ L.length ∧ cur r = true ∧ t.length ≤ L.length - r ∧ t.isPrefixOf (L.drop r) = true ∧ q = r + t.length)
  b : b = true ↔ ∃ r, r < p ∧ r ≤ L.length ∧ cur r = true ∧ L.length - r < t.length ∧ (L.drop r).isPrefixOf t = true

theorem TextUp.start {L t : List UInt8} {cur nx : Nat → Bool} (h : ∀ q, q ≤ L.length → nx q = false) : TextUp L t cur nx false 0 :=
  ⟨fun q hq => by rw [h q hq]; simp, by simp⟩
theorem TextUp.skip {L t : List UInt8} {cur nx : Nat → Bool} {b : Bool} {p : Nat} (h : TextUp L t cur nx b p) (hc : cur p = false) : TextUp L t cur nx b (p + 1) :=
  ⟨fun q hq => by
    rw [h.nx q hq]
    constructor
    · rintro ⟨r, h1, h2⟩; exact ⟨r, by omega, h2⟩
    · rintro ⟨r, h1, h2, h3, h4⟩
      have : r ≠ p := fun e => by rw [e, hc] at h3; cases h3
      exact ⟨r, by omega, h2, h3, h4⟩, by
    rw [h.b]
    constructor
    · rintro ⟨r, h1, h2⟩; exact ⟨r, by omega, h2⟩
    · rintro ⟨r, h1, h2, h3, h4⟩
      have : r ≠ p := fun e => by rw [e, hc] at h3; cases h3
      exact ⟨r, by omega, h2, h3, h4⟩⟩
theorem TextUp.short {L t : List UInt8} {cur nx : Nat → Bool} {b : Bool} {p : Nat} (h : TextUp L t cur nx b p) (hc : cur p = true) (hp : p ≤ L.length) (hs : L.length - p < t.length) :
    TextUp L t cur nx (b || (L.drop p).isPrefixOf t) (p + 1) :=
  ⟨fun q hq => by
    rw [h.nx q hq]
    constructor
    · rintro ⟨r, h1, h2⟩; exact ⟨r, by omega, h2⟩
    · rintro ⟨r, h1, h2, h3, h4, h5⟩
      have : r ≠ p := fun e => by subst e; omega
      exact ⟨r, by omega, h2, h3, h4, h5⟩, by
    rw [Bool.or_eq_true, h.b]
    constructor
    · rintro (⟨r, h1, h2⟩ | h1)
      · exact ⟨r, by omega, h2⟩
      · exact ⟨p, by omega, hp, hc, hs, h1⟩
    · rintro ⟨r, h1, h2, h3, h4, h5⟩
      by_cases e : r = p
      · subst e; exact Or.inr h5
      · exact Or.inl ⟨r, by omega, h2, h3, h4, h5⟩⟩
theorem TextUp.miss {L t : List UInt8} {cur nx : Nat → Bool} {b : Bool} {p : Nat} (h : TextUp L t cur nx b p) (hs : ¬ L.length - p < t.length) (hn : t.isPrefixOf (L.drop p) = false) : TextUp L t cur nx b (p + 1) :=
  ⟨fun q hq => by
    rw [h.nx q hq]
    constructor
    · rintro ⟨r, h1, h2⟩; exact ⟨r, by omega, h2⟩
    · rintro ⟨r, h1, h2, h3, h4, h5, h6⟩
      have : r ≠ p := fun e => by subst e; rw [hn] at h5; cases h5
      exact ⟨r, by omega, h2, h3, h4, h5, h6⟩, by
    rw [h.b]
    constructor
    · rintro ⟨r, h1, h2⟩; exact ⟨r, by omega, h2⟩
    · rintro ⟨r, h1, h2, h3, h4, h5⟩
      have : r ≠ p := fun e => by subst e; omega
      exact ⟨r, by omega, h2, h3, h4, h5⟩⟩
theorem TextUp.hit {L t : List UInt8} {cur nx : Nat → Bool} {b : Bool} {p : Nat} (h : TextUp L t cur nx b p) (hc : cur p = true) (hp : p ≤ L.length) (hs : ¬ L.length - p < t.length) (hn : t.isPrefixOf (L.drop p) = true) :
    TextUp L t cur (upd nx (p + t.length) true) b (p + 1) :=
  ⟨fun q hq => by
    by_cases e : q = p + t.length
    · subst e
      rw [upd_same]
      exact ⟨fun _ => ⟨p, by omega, hp, hc, by omega, hn, rfl⟩, fun _ => rfl⟩
    · rw [upd_other _ _ _ _ e, h.nx q hq]
      constructor
      · rintro ⟨r, h1, h2⟩; exact ⟨r, by omega, h2⟩
      · rintro ⟨r, h1, h2, h3, h4, h5, h6⟩
        have : r ≠ p := fun e2 => by subst e2; exact e h6
        exact ⟨r, by omega, h2, h3, h4, h5, h6⟩, by
    rw [h.b]
    constructor
    · rintro ⟨r, h1, h2⟩; exact ⟨r, by omega, h2⟩
    · rintro ⟨r, h1, h2, h3, h4, h5⟩
      have : r ≠ p := fun e => by subst e; omega
      exact ⟨r, by omega, h2, h3, h4, h5⟩⟩
theorem TextUp.done {L t : List UInt8} {cur nx : Nat → Bool} {b : Bool} {p : Nat} (h : TextUp L t cur nx b p) (hp : L.length < p) : TextSpec L t cur nx b :=
  ⟨fun q hq => by
    rw [h.nx q hq]
    exact ⟨fun ⟨r, _, h2⟩ => ⟨r, h2⟩, fun ⟨r, h2, h3⟩ => ⟨r, by omega, h2, h3⟩⟩, by
    rw [h.b]
    exact ⟨fun ⟨r, _, h2⟩ => ⟨r, h2⟩, fun ⟨r, h2, h3⟩ => ⟨r, by omega, h2, h3⟩⟩⟩

/-- Can a run of l or more end at e? -/
def RunNx (L ex : List UInt8) (l : Nat) (cur : Nat → Bool) (e : Nat) : Prop := ∃ p, cur p = true ∧ p + l ≤ e ∧ ∀ j, p ≤ j → j < e → xin L ex j = false

/-- The last excluded byte among the first m. -/
structure LX (L ex : List UInt8) (la : Int) (m : Nat) : Prop where
  ge : -1 ≤ la
  lt : la < m
  hit : ∀ j : Nat, (j : Int) = la → xin L ex j = true
  none : ∀ j : Nat, la < j → j < m → xin L ex j = false

theorem LX.start (L ex : List UInt8) : LX L ex (-1) 0 := ⟨by omega, by omega, fun j h => by omega, fun j _ h => by omega⟩
theorem LX.yes {L ex : List UInt8} {la : Int} {m : Nat} (h : LX L ex la m) (hx : xin L ex m = true) : LX L ex m (m + 1) :=
  ⟨by omega, by omega, fun j hj => by
    have : j = m := by omega
    subst this; exact hx, fun j h1 h2 => by omega⟩
theorem LX.no {L ex : List UInt8} {la : Int} {m : Nat} (h : LX L ex la m) (hx : xin L ex m = false) : LX L ex la (m + 1) :=
  ⟨h.ge, by have := h.lt; omega, h.hit, fun j h1 h2 => by
    by_cases e : j = m
    · subst e; exact hx
    · exact h.none j h1 (by omega)⟩

theorem LX.clear {L ex : List UInt8} {la : Int} {e : Nat} (h : LX L ex la e) (p : Nat) (_hpe : p ≤ e) : (∀ j, p ≤ j → j < e → xin L ex j = false) ↔ la + 1 ≤ p := by
  constructor
  · intro hn
    by_cases c : la + 1 ≤ p
    · exact c
    · have h1 := h.ge
      have h2 := h.lt
      obtain ⟨j, hj⟩ : ∃ j : Nat, (j : Int) = la := ⟨la.toNat, by omega⟩
      have := hn j (by omega) (by omega)
      rw [h.hit j hj] at this; cases this
  · intro hp j h1 h2; exact h.none j (by omega) h2

theorem runNx_iff {L ex : List UInt8} {la : Int} {e l : Nat} {cur : Nat → Bool} (h : LX L ex la e) : RunNx L ex l cur e ↔ ∃ p : Nat, cur p = true ∧ la + 1 ≤ p ∧ p + l ≤ e := by
  constructor
  · rintro ⟨p, h1, h2, h3⟩; exact ⟨p, h1, (h.clear p (by omega)).1 h3, h2⟩
  · rintro ⟨p, h1, h2, h3⟩; exact ⟨p, h1, h3, (h.clear p (by omega)).2 h2⟩

/-- By counting: from lo to hi. -/
theorem runNx_count {L ex : List UInt8} {la : Int} {e l lo : Nat} {cur : Nat → Bool} (h : LX L ex la e) (hlo : (lo : Int) = la + 1) (hle : l ≤ e) (hlh : lo ≤ e - l) :
    RunNx L ex l cur e ↔ cntf cur lo < cntf cur (e - l + 1) := by
  rw [runNx_iff h]
  have e1 : e - l + 1 = lo + (e - l + 1 - lo) := by omega
  rw [e1, cntf_lt]
  constructor
  · rintro ⟨p, h1, h2, h3⟩; exact ⟨p, by omega, by omega, h1⟩
  · rintro ⟨p, h1, h2, h3⟩; exact ⟨p, h3, by omega, by omega⟩
theorem runNx_short {L ex : List UInt8} {e l : Nat} {cur : Nat → Bool} (h : e < l) : ¬ RunNx L ex l cur e := by
  rintro ⟨p, _, h2, _⟩; omega
theorem runNx_out {L ex : List UInt8} {la : Int} {e l : Nat} {cur : Nat → Bool} (h : LX L ex la e) (hlh : (e : Int) - l < la + 1) : ¬ RunNx L ex l cur e := by
  rw [runNx_iff h]; rintro ⟨p, _, h2, h3⟩; omega

/-- The run's loop, up to place e. -/
def RunUp (L ex : List UInt8) (l : Nat) (cur nx : Nat → Bool) (e : Nat) : Prop := ∀ q, q ≤ L.length → (nx q = true ↔ q < e ∧ RunNx L ex l cur q)

theorem RunUp.start {L ex : List UInt8} {l : Nat} {cur nx : Nat → Bool} (h : ∀ q, q ≤ L.length → nx q = false) : RunUp L ex l cur nx 0 :=
  fun q hq => by rw [h q hq]; simp
theorem RunUp.no {L ex : List UInt8} {l : Nat} {cur nx : Nat → Bool} {e : Nat} (h : RunUp L ex l cur nx e) (hn : ¬ RunNx L ex l cur e) : RunUp L ex l cur nx (e + 1) :=
  fun q hq => by
    rw [h q hq]
    constructor
    · rintro ⟨h1, h2⟩; exact ⟨by omega, h2⟩
    · rintro ⟨h1, h2⟩
      have : q ≠ e := fun e2 => hn (e2 ▸ h2)
      exact ⟨by omega, h2⟩
theorem RunUp.yes {L ex : List UInt8} {l : Nat} {cur nx : Nat → Bool} {e : Nat} (h : RunUp L ex l cur nx e) (hn : RunNx L ex l cur e) : RunUp L ex l cur (upd nx e true) (e + 1) :=
  fun q hq => by
    by_cases c : q = e
    · subst c; rw [upd_same]; exact ⟨fun _ => ⟨by omega, hn⟩, fun _ => rfl⟩
    · rw [upd_other _ _ _ _ c, h q hq]
      exact ⟨fun ⟨h1, h2⟩ => ⟨by omega, h2⟩, fun ⟨h1, h2⟩ => ⟨by omega, h2⟩⟩
theorem RunUp.done {L ex : List UInt8} {l : Nat} {cur nx : Nat → Bool} {e lo : Nat} {la : Int} {b : Bool} (h : RunUp L ex l cur nx e) (he : L.length < e) (hx : LX L ex la L.length) (hlo : (lo : Int) = la + 1)
    (hb : b = true ↔ cntf cur lo < cntf cur (L.length + 1)) : RunSpec L ex l cur nx b :=
  ⟨fun q hq => by
    rw [h q hq]
    exact ⟨fun ⟨_, h2⟩ => h2, fun h2 => ⟨by omega, h2⟩⟩, by
    have hlt := hx.lt
    rw [hb, show L.length + 1 = lo + (L.length + 1 - lo) from by omega, cntf_lt]
    constructor
    · rintro ⟨p, h1, h2, h3⟩; exact ⟨p, by omega, h3, (hx.clear p (by omega)).2 (by omega)⟩
    · rintro ⟨p, h1, h2, h3⟩
      have := (hx.clear p h1).1 h3
      exact ⟨p, by omega, by omega, h2⟩⟩
end Go.Proofs.Qxb6600526a.Plain
