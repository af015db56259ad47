/- The contracts of validNumber and of valueEnd where a number begins. -/
import Derived.Test.Qxb6600953aBytes
import Derived.Deep.DeepCutAuto
import Derived.Deep.CutBlock
namespace Go.Proofs.Qxb6600953a
open Go.RowKit

def isDig (c : UInt8) : Bool := 48 ≤ c && c ≤ 57
/-- A byte that a number may hold. -/
def numB (c : UInt8) : Bool := isDig c || c == 45 || c == 43 || c == 46 || c == 101 || c == 69
/-- A byte that can follow a value. -/
def endsB (c : UInt8) : Bool := c == 32 || c == 9 || c == 13 || c == 10 || c == 44 || c == 93 || c == 125

theorem dig_of (c : UInt8) (h1 : (48 : Int) ≤ (c.toNat : Int)) (h2 : (c.toNat : Int) ≤ 57) : isDig c = true := by
  simp [isDig, UInt8.le_iff_toNat_le]; omega
theorem num_of_dig (c : UInt8) (h : isDig c = true) : numB c = true := by simp [numB, h]
theorem u8_eq (c : UInt8) (n : Nat) (hn : n < 256) (h : ((c.toNat : Int) == n) = true) : c = n.toUInt8 := by
  simp at h; rw [← UInt8.toNat_inj]; simp; omega
theorem num_of (c : UInt8) (h : ((c.toNat : Int) == 45) = true ∨ ((c.toNat : Int) == 43) = true ∨ ((c.toNat : Int) == 46) = true ∨ ((c.toNat : Int) == 101) = true ∨ ((c.toNat : Int) == 69) = true ∨ ((c.toNat : Int) == 48) = true) : numB c = true := by
  rcases h with h | h | h | h | h | h
  · rw [u8_eq c 45 (by omega) h]; decide
  · rw [u8_eq c 43 (by omega) h]; decide
  · rw [u8_eq c 46 (by omega) h]; decide
  · rw [u8_eq c 101 (by omega) h]; decide
  · rw [u8_eq c 69 (by omega) h]; decide
  · rw [u8_eq c 48 (by omega) h]; decide
theorem ends_int (c : UInt8) : ((c.toNat : Int) == 32 || (c.toNat : Int) == 9 || (c.toNat : Int) == 13 || (c.toNat : Int) == 10 || (c.toNat : Int) == 44 || (c.toNat : Int) == 93 || (c.toNat : Int) == 125) = endsB c := by
  unfold endsB
  rw [Bool.eq_iff_iff]; simp [← UInt8.toNat_inj]; omega
theorem num_not_ends (c : UInt8) (h : numB c = true) : endsB c = false := by
  cases he : endsB c with
  | false => rfl
  | true =>
    exfalso
    simp [numB, isDig, UInt8.le_iff_toNat_le, ← UInt8.toNat_inj] at h
    simp [endsB, ← UInt8.toNat_inj] at he
    omega
theorem num_first (c : UInt8) (h : numB c = true) : ((c.toNat : Int) == 34) = false ∧ ((c.toNat : Int) == 123) = false ∧ ((c.toNat : Int) == 91) = false := by
  simp [numB, isDig, UInt8.le_iff_toNat_le, ← UInt8.toNat_inj] at h
  refine ⟨?_, ?_, ?_⟩ <;> (simp; omega)

/-- From i up to m stand bytes of a number. -/
structure NumTo (l : List UInt8) (i m : Nat) : Prop where
  le : i ≤ m
  len : m ≤ l.length
  all : ∀ k, i ≤ k → k < m → numB (bt l k) = true

theorem NumTo.refl {l : List UInt8} {i : Nat} (h : i ≤ l.length) : NumTo l i i := ⟨Nat.le_refl _, h, fun k a b => by omega⟩
theorem NumTo.snoc {l : List UInt8} {i m : Nat} (h : NumTo l i m) (hm : m < l.length) (hb : numB (bt l m) = true) : NumTo l i (m + 1) :=
  ⟨Nat.le_succ_of_le h.le, hm, fun k a b => by
    by_cases e : k = m
    · subst e; exact hb
    · exact h.all k a (by omega)⟩
theorem NumTo.app {l : List UInt8} {i m n : Nat} (h : NumTo l i m) (k : NumTo l m n) : NumTo l i n :=
  ⟨Nat.le_trans h.le k.le, k.len, fun j a b => by
    by_cases e : j < m
    · exact h.all j a e
    · exact k.all j (by omega) b⟩

theorem lt_of {i j : Nat} (h : ((j : Int) == (i : Int)) = false) (h1 : i ≤ j) : i < j := by simp at h; omega

theorem not_dig_of (c : UInt8) (h : isDig c = false) : (c.toNat : Int) < 48 ∨ 57 < (c.toNat : Int) := by
  simp [isDig, UInt8.le_iff_toNat_le] at h; omega
theorem dig_bounds (c : UInt8) (h : isDig c = true) : (48 : Int) ≤ (c.toNat : Int) ∧ (c.toNat : Int) ≤ 57 := by
  simp [isDig, UInt8.le_iff_toNat_le] at h; omega

/-- What digits answers. -/
def DigRes (l : List UInt8) (i : Nat) (r : Int) : Prop :=
  (r = -1 ∧ (i < l.length → isDig (bt l i) = false)) ∨ ∃ j : Nat, r = j ∧ i < j ∧ NumTo l i j

theorem DigRes.stop {l : List UInt8} {i j : Nat} (h : NumTo l i j) (he : ((j : Int) == (i : Int)) = true) (hs : j < l.length → isDig (bt l j) = false) : DigRes l i (-1) := by
  have : j = i := by simp at he; omega
  subst this; exact Or.inl ⟨rfl, hs⟩
theorem DigRes.go {l : List UInt8} {i j : Nat} (h : NumTo l i j) (he : ((j : Int) == (i : Int)) = false) : DigRes l i j :=
  Or.inr ⟨j, rfl, lt_of he h.le, h⟩

theorem DigRes.pos {l : List UInt8} {i : Nat} {r : Int} (h : DigRes l i r) (hd : isDig (bt l i) = true) (hi : i < l.length) : ∃ j : Nat, r = j ∧ i < j ∧ NumTo l i j := by
  rcases h with ⟨_, h⟩ | h
  · rw [h hi] at hd; cases hd
  · exact h

set_option maxHeartbeats 1000000 in
theorem digits_any (l : List UInt8) (g cap i : Nat) (w : World) (hl : l.length ≤ 65536) (hi : i ≤ l.length) (hr : Row w g l) :
    Calls Try.prog 32 #[.slice (some ⟨g, 0, none⟩) l.length cap, .int .i64 i] w fun e w' =>
      ∃ r : Int, e = .returned (.int .i64 r) ∧ w' = w ∧ DigRes l i r := by
  have HR := hide hr
  clear hr
  go_enter Try.func32, Try.ntmps32
  go_wp2
  go_loop [5] (fun t => ∃ j : Nat, t = .int .i64 j ∧ NumTo l i j) (fun t => l.length - (intOf t).toNat)
  case atStart => exact ⟨i, rfl, NumTo.refl hi⟩
  case round =>
    obtain ⟨j, rfl, hn⟩ := hrel
    have h1 := hn.le
    have h2 := hn.len
    by_cases hlt : (j : Int) < (l.length : Int)
    · have hlt' : j < l.length := by omega
      have c0 := HR.out j hlt'
      cases hd : isDig (bt l j)
      · have hb := not_dig_of _ hd
        have HD := hide hd
        clear hd
        rcases hb with hb | hb
        all_goals
          go_wp2
          all_goals go_ret
          all_goals first
            | exact ⟨_, rfl, rfl, DigRes.stop hn ‹_› (fun _ => HD.out)⟩
            | exact ⟨_, rfl, rfl, DigRes.go hn ‹_›⟩
      · obtain ⟨hb1, hb2⟩ := dig_bounds _ hd
        have HD := hide hd
        clear hd
        go_wp2
        go_round
        case rel => exact ⟨j + 1, by go_num, hn.snoc hlt' (num_of_dig _ HD.out)⟩
        case measure => simp [intOf]; omega
    · have HE : Hid (j < l.length → isDig (bt l j) = false) := fun h => absurd h (by omega)
      go_wp2
      all_goals go_ret
      all_goals first
        | exact ⟨_, rfl, rfl, DigRes.stop hn ‹_› HE.out⟩
        | exact ⟨_, rfl, rfl, DigRes.go hn ‹_›⟩

theorem digits_at (l : List UInt8) (g cap i : Nat) (x : Int) (w : World) (hl : l.length ≤ 65536) (hi : i ≤ l.length) (hx : x = (i : Int)) (hr : Row w g l) :
    Calls Try.prog 32 #[.slice (some ⟨g, 0, none⟩) l.length cap, .int .i64 x] w fun e w' =>
      ∃ r : Int, e = .returned (.int .i64 r) ∧ w' = w ∧ DigRes l i r := by
  subst hx; exact digits_any l g cap i w hl hi hr

theorem DigRes.nonneg {l : List UInt8} {i : Nat} {r : Int} (h : DigRes l i r) (hr : 0 ≤ r) : ∃ j : Nat, r = j ∧ i < j ∧ NumTo l i j := by
  rcases h with ⟨h, _⟩ | h
  · omega
  · exact h
theorem DigRes.final {l : List UInt8} {i m : Nat} {r : Int} (h : DigRes l m r) (hm : NumTo l i m) (him : i < m) : r = -1 ∨ ∃ j : Nat, r = j ∧ i < j ∧ NumTo l i j := by
  rcases h with ⟨h, _⟩ | ⟨j, hj, hmj, hn⟩
  · exact Or.inl h
  · exact Or.inr ⟨j, hj, by omega, hm.app hn⟩
theorem num_e1 (c : UInt8) (h : (c.toNat : Int) = 101) : numB c = true := num_of c (by simp [h])
theorem num_e2 (c : UInt8) (h : ((c.toNat : Int) == 101) = true ∨ ((c.toNat : Int) == 69) = true) : numB c = true := num_of c (by rcases h with h | h <;> simp [h])
theorem num_s1 (c : UInt8) (h : (c.toNat : Int) = 43) : numB c = true := num_of c (by simp [h])
theorem num_s2 (c : UInt8) (h : ((c.toNat : Int) == 43) = true ∨ ((c.toNat : Int) == 45) = true) : numB c = true := num_of c (by rcases h with h | h <;> simp [h])

set_option maxHeartbeats 2000000 in
set_option maxRecDepth 100000 in
theorem valid_any (l : List UInt8) (g cap i : Nat) (w : World) (hl : l.length ≤ 65536) (hi : i < l.length) (hr : Row w g l) :
    Calls Try.prog 24 #[.slice (some ⟨g, 0, none⟩) l.length cap, .int .i64 i] w fun e w' =>
      ∃ r : Int, e = .returned (.int .i64 r) ∧ w' = w ∧ (r = -1 ∨ ∃ j : Nat, r = j ∧ i < j ∧ NumTo l i j) := by
  have HR := hide hr
  clear hr
  have c0 := HR.out i hi
  go_enter Try.func24, Try.ntmps24
  go_upto_if 9 with (fail)
  go_cut [1] (fun t wc => Hid (wc = w) ∧ ∃ m : Nat, t = .int .i64 m ∧ NumTo l i m)
  case first =>
    go_wp2_with fail
    · go_meet
      case rel => exact ⟨rfl, i + 1, by go_num, (NumTo.refl (by omega)).snoc hi (num_of _ (by simp [*]))⟩
    · go_meet
      case rel => exact ⟨rfl, i, rfl, NumTo.refl (by omega)⟩
  case rest =>
    obtain ⟨hw, m, rfl, hm⟩ := hcut
    have hw2 := hw.out
    subst hw2
    clear hw c0
    have hm1 := hm.le
    have hm2 := hm.len
    go_upto_block 0 with (fail)
    go_cut [1] (fun t wd => Hid (wd = wc) ∧ ∃ n : Nat, t = .int .i64 n ∧ i < n ∧ NumTo l i n)
    case first =>
      by_cases hlt : m < l.length
      · have c1 := HR.out m hlt
        have hne : ((m : Int) == (l.length : Int)) = false := by simp; omega
        go_wp2_with (go_at_call 32; refine (digits_any l g cap m _ hl (by omega) HR.out).mono ?_; rintro e w' ⟨r, rfl, rfl, hd⟩)
        · go_meet
          case rel => exact ⟨rfl, m + 1, by go_num, by omega, hm.snoc hlt (num_of _ (by simp [*]))⟩
        · obtain ⟨j, hj, hmj, hnj⟩ := hd.pos (dig_of _ (by omega) ‹_›) hlt
          go_meet
          case rel => exact ⟨rfl, j, by rw [hj], by omega, hm.app hnj⟩
        · go_ret
          exact ⟨_, rfl, rfl, Or.inl rfl⟩
        · go_ret
          exact ⟨_, rfl, rfl, Or.inl rfl⟩
      · have hne : ((m : Int) == (l.length : Int)) = true := by simp; omega
        go_wp2_with fail
        go_ret
        exact ⟨_, rfl, rfl, Or.inl rfl⟩
    case rest =>
      obtain ⟨hw, n, rfl, hin, hn⟩ := hcut
      rename_i wd _
      have hw2 := hw.out
      subst hw2
      clear hw hm hm1 hm2
      have hn2 := hn.len
      by_cases hlt : n < l.length
      · have c2 := HR.out n hlt
        have hlt' : (n : Int) < (l.length : Int) := by omega
        go_upto_if 51 with (fail)
        go_cut [1] (fun t wd => Hid (wd = wc) ∧ ∃ p : Nat, t = .int .i64 p ∧ i < p ∧ NumTo l i p)
        case first =>
          go_wp2_with (go_at_call 32; refine (digits_any l g cap (n + 1) _ hl (by omega) HR.out).mono ?_; rintro e w' ⟨r, rfl, rfl, hd⟩)
          · go_ret
            exact ⟨_, rfl, rfl, Or.inl rfl⟩
          · obtain ⟨j, hj, hmj, hnj⟩ := hd.nonneg ‹_›
            go_meet
            case rel => exact ⟨rfl, j, by rw [hj], by omega, (hn.snoc hlt (num_of _ (by simp [*]))).app hnj⟩
          · go_meet
            case rel => exact ⟨rfl, n, rfl, hin, hn⟩
        case rest =>
          obtain ⟨hw, p, rfl, hip, hp⟩ := hcut
          have hw2 := hw.out
          subst hw2
          clear hw hn hn2 c2 hlt hlt' hin
          have hp2 := hp.len
          by_cases hlt : p < l.length
          · have c3 := HR.out p hlt
            have hlt' : (p : Int) < (l.length : Int) := by omega
            by_cases hlt2 : p + 1 < l.length
            · have c4 := HR.out (p + 1) hlt2
              have hlt3 : (p : Int) + 1 < (l.length : Int) := by omega
              have D1 := hide (digits_at l g cap (p + 1) ((p : Int) + 1) wc hl (by omega) (by omega) HR.out)
              have D2 := hide (digits_at l g cap (p + 1 + 1) ((p : Int) + 1 + 1) wc hl (by omega) (by omega) HR.out)
              go_wp2_with fail
              all_goals first
                | (go_ret
                   exact ⟨_, rfl, rfl, Or.inr ⟨p, rfl, hip, hp⟩⟩)
                | (have hb1 : numB (bt l p) = true := by first | exact num_e1 _ ‹_› | exact num_e2 _ ‹_›
                   have hp1 := hp.snoc hlt hb1
                   first
                   | (have hb2 : numB (bt l (p + 1)) = true := by first | exact num_s1 _ ‹_› | exact num_s2 _ ‹_›
                      have hp3 := hp1.snoc hlt2 hb2
                      refine D2.out.mono ?_
                      rintro e w' ⟨r, rfl, rfl, hd⟩
                      go_wp2
                      go_ret
                      exact ⟨_, rfl, rfl, hd.final hp3 (by omega)⟩)
                   | (refine D1.out.mono ?_
                      rintro e w' ⟨r, rfl, rfl, hd⟩
                      go_wp2
                      go_ret
                      exact ⟨_, rfl, rfl, hd.final hp1 (by omega)⟩))
            · have hlt3 : ¬ (p : Int) + 1 < (l.length : Int) := by omega
              have D1 := hide (digits_at l g cap (p + 1) ((p : Int) + 1) wc hl (by omega) (by omega) HR.out)
              go_wp2_with fail
              all_goals first
                | (go_ret
                   exact ⟨_, rfl, rfl, Or.inr ⟨p, rfl, hip, hp⟩⟩)
                | (have hb1 : numB (bt l p) = true := by first | exact num_e1 _ ‹_› | exact num_e2 _ ‹_›
                   have hp1 := hp.snoc hlt hb1
                   refine D1.out.mono ?_
                   rintro e w' ⟨r, rfl, rfl, hd⟩
                   go_wp2
                   go_ret
                   exact ⟨_, rfl, rfl, hd.final hp1 (by omega)⟩)
          · have hlt' : ¬ (p : Int) < (l.length : Int) := by omega
            go_wp2_with fail
            go_ret
            exact ⟨_, rfl, rfl, Or.inr ⟨p, rfl, hip, hp⟩⟩
      · have hlt' : ¬ (n : Int) < (l.length : Int) := by omega
        go_wp2_with fail
        go_ret
        exact ⟨_, rfl, rfl, Or.inr ⟨n, rfl, hin, hn⟩⟩
end Go.Proofs.Qxb6600953a
