/- The model's readers of numbers, words and strings. -/
import Derived.Test.Qxb6600953aRead
namespace Go.Proofs.Qxb6600953a
open Go.RowKit

/-- What a reader of a value answers. -/
def ValP (l : List UInt8) (i : Nat) (r : Int) : Prop := r = -1 ∨ ∃ e : Nat, r = e ∧ Val l i e

theorem StepP.num {c : UInt8} {r : Int} (h : StepP c r) (hr : 0 ≤ r) : numB c = true := by
  rcases h with h | ⟨_, _, h⟩
  · omega
  · exact h

theorem drewN_two (w : World) (a b : Nat) : (w.drewN a).drewN b = w.drewN (a + b) := by simp
theorem Row.drewN {w : World} {g : Nat} {l : List UInt8} (h : Row w g l) (n : Nat) : Row (w.drewN n) g l := h

set_option maxHeartbeats 1000000 in
theorem number_any (l : List UInt8) (g i : Nat) (w : World) (hl : l.length ≤ 65536) (hi : i ≤ l.length) (hr : Row w g l) :
    Calls Try.prog 15 #[.slice (some ⟨g, 0, none⟩) l.length l.length, .int .i64 i] w fun e w' => SaysI (ValP l i) e ∧ w' = w := by
  have HR := hide hr
  clear hr
  go_enter Try.func15, Try.ntmps15
  go_wp2
  go_loop [5, 6] (fun st t => ∃ (s : Int) (j : Nat), st = .int .i64 s ∧ t = .int .i64 j ∧ NumTo l i j ∧ Hid (s = 0 ∨ i < j)) (fun _ t => l.length - (intOf t).toNat)
  case atStart => exact ⟨0, i, rfl, rfl, NumTo.refl hi, Or.inl rfl⟩
  case round =>
    obtain ⟨s, j, rfl, rfl, hn, H0⟩ := hrel
    have h1 := hn.le
    have h2 := hn.len
    by_cases hlt : (j : Int) < (l.length : Int)
    · have hlt' : j < l.length := by omega
      have c0 := HR.out j hlt'
      go_wp2_with (first | (go_at_call 25; refine (step_any _ _ _).mono ?_; rintro e w' ⟨⟨r, rfl, hr⟩, rfl⟩) | (go_at_call 26; refine (accepts_any _ _).mono ?_; rintro e w' ⟨⟨b, rfl, hb⟩, rfl⟩; cases b))
      · go_ret
        exact ⟨SaysI.mk (Or.inl rfl), rfl⟩
      · go_ret
        exact ⟨SaysI.mk (Or.inr ⟨j, rfl, Val.num hn (H0.out.resolve_left (hb (by simp)))⟩), rfl⟩
      · have hst := hr.num ‹_›
        go_round
        case rel => exact ⟨r, j + 1, rfl, by go_num, hn.snoc hlt' hst, Or.inr (by omega)⟩
        case measure => simp [intOf]; omega
    · go_wp2_with (go_at_call 26; refine (accepts_any _ _).mono ?_; rintro e w' ⟨⟨b, rfl, hb⟩, rfl⟩; cases b)
      · go_ret
        exact ⟨SaysI.mk (Or.inl rfl), rfl⟩
      · go_ret
        exact ⟨SaysI.mk (Or.inr ⟨j, rfl, Val.num hn (H0.out.resolve_left (hb (by simp)))⟩), rfl⟩

theorem ne34 (c : UInt8) (h : ((c.toNat : Int) == 34) = false) : c ≠ 34 := by intro e; subst e; simp at h
theorem bne92 (c : UInt8) (h : ((c.toNat : Int) != 92) = true) : c ≠ 92 := by intro e; subst e; simp at h
theorem is92 (c : UInt8) (h : ((c.toNat : Int) != 92) = false) : c = 92 := by
  simp at h; rw [← UInt8.toNat_inj]; simp; omega
theorem same_byte (a b : UInt8) (h : ((a.toNat : Int) != (b.toNat : Int)) = false) : a = b := by
  simp at h; rw [← UInt8.toNat_inj]; omega

/-- What zzString answers. -/
def StrP (l : List UInt8) (i : Nat) (r : Int) : Prop := r = -1 ∨ ∃ e : Nat, r = e ∧ StrTo l i e

/-- What zzWord answers. -/
def WordP (l : List UInt8) (i : Nat) (s : ByteArray) (r : Int) : Prop := r = -1 ∨ (r = ((i + s.size : Nat) : Int) ∧ i + s.size ≤ l.length ∧ ∀ k (h : k < s.size), bt l (i + k) = s[k])

set_option maxHeartbeats 1000000 in
theorem word_any (l : List UInt8) (g i : Nat) (s : ByteArray) (w : World) (hl : l.length ≤ 65536) (hi : i ≤ l.length) (hs : s.size ≤ 5) (hr : Row w g l) :
    Calls Try.prog 30 #[.slice (some ⟨g, 0, none⟩) l.length l.length, .int .i64 i, .string s] w fun e w' => SaysI (WordP l i s) e ∧ ∃ n, w' = w.drewN n := by
  have HR := hide hr
  clear hr
  by_cases hsh : (l.length : Int) - (i : Int) < (s.size : Int)
  · go_enter Try.func30, Try.ntmps30
    go_wp2
    go_ret
    exact ⟨SaysI.mk (Or.inl rfl), 0, rfl⟩
  · go_enter Try.func30, Try.ntmps30
    go_wp2
    go_loopw [7] (fun t wr => ∃ k n : Nat, t = .int .i64 k ∧ k ≤ s.size ∧ wr = w.drewN n ∧ Hid (∀ p (h : p < s.size), p < k → bt l (i + p) = s[p])) (fun t _ => s.size - (intOf t).toNat)
    case atStart => exact ⟨0, 0, rfl, Nat.zero_le _, rfl, fun p _ h => by omega⟩
    case round =>
      obtain ⟨k, n, rfl, hk, rfl, HA⟩ := hrel
      by_cases hlt : (k : Int) < (s.size : Int)
      · have hlt' : k < s.size := by omega
        have c0 := HR.out (i + k) (by omega)
        have hb : (i : Int) + (k : Int) < (l.length : Int) := by omega
        go_wp2
        go_quiet (fail)
        go_wp2
        · go_ret
          exact ⟨SaysI.mk (Or.inl rfl), _, drewN_two _ _ _⟩
        · have heq := same_byte _ _ ‹_›
          go_roundw
          case rel => exact ⟨k + 1, _, by go_num, by omega, rfl, fun p h hp => by
                              by_cases e : p = k
                              · subst e; exact heq
                              · exact HA.out p h (by omega)⟩
          case measure => simp [intOf]; omega
      · go_wp2
        go_ret
        exact ⟨SaysI.mk (Or.inr ⟨by omega, by omega, fun p h => HA.out p h (by omega)⟩), _, rfl⟩

set_option maxHeartbeats 1000000 in
theorem string_any (l : List UInt8) (g i : Nat) (w : World) (hl : l.length ≤ 65536) (hi : i < l.length) (h34 : bt l i = 34) (hr : Row w g l) :
    Calls Try.prog 27 #[.slice (some ⟨g, 0, none⟩) l.length l.length, .int .i64 i] w fun e w' => SaysI (StrP l i) e ∧ w' = w := by
  have HR := hide hr
  have HF := hide h34
  clear hr h34
  go_enter Try.func27, Try.ntmps27
  go_wp2
  go_loop [5] (fun t => ∃ j : Nat, t = .int .i64 j ∧ j ≤ l.length ∧ SI l i j) (fun t => l.length - (intOf t).toNat)
  case atStart => exact ⟨i + 1, by go_num, by omega, SI.start HF.out⟩
  case round =>
    obtain ⟨j, rfl, hj, hsi⟩ := hrel
    by_cases hlt : (j : Int) < (l.length : Int)
    · have hlt' : j < l.length := by omega
      have c0 := HR.out j hlt'
      by_cases hlt2 : j + 1 < l.length
      · have c1 := HR.out (j + 1) hlt2
        have hlt3 : ¬ (l.length : Int) ≤ (j : Int) + 1 := by omega
        go_wp2_with (go_at_call 11; refine (esc_any _ _).mono ?_; rintro e w' ⟨⟨b, rfl, hb⟩, rfl⟩; cases b)
        · go_ret
          exact ⟨SaysI.mk (Or.inr ⟨j + 1, by omega, hsi.done hlt' (u8_eq _ 34 (by omega) ‹_›)⟩), rfl⟩
        · go_ret
          exact ⟨SaysI.mk (Or.inl rfl), rfl⟩
        · go_round
          case rel => exact ⟨j + 1, by go_num, by omega, hsi.plain (ne34 _ ‹_›) (bne92 _ ‹_›)⟩
          case measure => simp [intOf]; omega
        · go_ret
          exact ⟨SaysI.mk (Or.inl rfl), rfl⟩
        · have h92 : bt l j = 92 := is92 _ ‹_›
          have H92 := hide h92
          have hroom : (4 : Int) ≤ (l.length : Int) - ((j : Int) + 2) := by assumption
          clear h92
          go_loop [8] (fun t => ∃ k : Nat, t = .int .i64 k ∧ j + 2 ≤ k ∧ k ≤ j + 6 ∧ Hid (∀ p, j + 2 ≤ p → p < k → bt l p ≠ 34 ∧ bt l p ≠ 92)) (fun t => j + 6 - (intOf t).toNat)
          case atStart => exact ⟨j + 2, by go_num, Nat.le_refl _, by omega, fun p a b => by omega⟩
          case round =>
            obtain ⟨k, rfl, hk1, hk2, HK⟩ := hrel
            by_cases hlk : (k : Int) < (j : Int) + 6
            · have c2 := HR.out k (by omega)
              have hkl : (k : Int) < (l.length : Int) := by omega
              go_wp2_with (go_at_call 33; refine (hex_any _ _).mono ?_; rintro e w' ⟨⟨b, rfl, hb⟩, rfl⟩; cases b)
              · go_ret
                exact ⟨SaysI.mk (Or.inl rfl), rfl⟩
              · go_round
                case rel => exact ⟨k + 1, by go_num, by omega, by omega, fun p a b => by
                                    by_cases e : p = k
                                    · subst e; exact hb (by simp)
                                    · exact HK.out p a (by omega)⟩
                case measure => simp [intOf]; omega
            · go_wp2
              go_round
              case rel => exact ⟨j + 6, by go_num, by omega, hsi.uni H92.out (fun p a b => HK.out p a (by omega))⟩
              case measure => simp [intOf]; omega
        · go_ret
          exact ⟨SaysI.mk (Or.inl rfl), rfl⟩
        · go_round
          case rel => exact ⟨j + 2, by go_num, by omega, hsi.esc (is92 _ ‹_›)⟩
          case measure => simp [intOf]; omega
      · have hlt3 : (l.length : Int) ≤ (j : Int) + 1 := by omega
        go_wp2
        · go_ret
          exact ⟨SaysI.mk (Or.inr ⟨j + 1, by omega, hsi.done hlt' (u8_eq _ 34 (by omega) ‹_›)⟩), rfl⟩
        · go_ret
          exact ⟨SaysI.mk (Or.inl rfl), rfl⟩
        · go_round
          case rel => exact ⟨j + 1, by go_num, by omega, hsi.plain (ne34 _ ‹_›) (bne92 _ ‹_›)⟩
          case measure => simp [intOf]; omega
        · go_ret
          exact ⟨SaysI.mk (Or.inl rfl), rfl⟩
    · go_wp2
      go_ret
      exact ⟨SaysI.mk (Or.inl rfl), rfl⟩
end Go.Proofs.Qxb6600953a
