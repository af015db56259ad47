/- The model's small readers: white space, words, hex digits, escape letters. -/
import Derived.Test.Qxb6600953aGrpEnd
import Derived.Deep.QuietTactic
import Derived.BigQuiet
namespace Go.Proofs.Qxb6600953a
open Go.RowKit

theorem ws_plain (c : UInt8) (h : ((c.toNat : Int) == 32) = true ∨ ((c.toNat : Int) == 9) = true ∨ ((c.toNat : Int) == 13) = true ∨ ((c.toNat : Int) == 10) = true) : plainB c = true := by
  rcases h with h | h | h | h
  · rw [u8_eq c 32 (by omega) h]; decide
  · rw [u8_eq c 9 (by omega) h]; decide
  · rw [u8_eq c 13 (by omega) h]; decide
  · rw [u8_eq c 10 (by omega) h]; decide

theorem ws_i (c : UInt8) (h : (c.toNat : Int) = 32 ∨ (c.toNat : Int) = 9 ∨ (c.toNat : Int) = 13 ∨ (c.toNat : Int) = 10) : plainB c = true :=
  ws_plain c (by simpa using h)
theorem ws_d (c : UInt8) (h : (((((c.toNat : Int) == 32) = true ∨ ((c.toNat : Int) == 9) = true) ∨ ((c.toNat : Int) == 13) = true) ∨ ((c.toNat : Int) == 10) = true)) : plainB c = true :=
  ws_plain c (by rcases h with ((h | h) | h) | h <;> simp [h])

set_option maxHeartbeats 1000000 in
theorem ws_any (l : List UInt8) (g i : Nat) (w : World) (hl : l.length ≤ 65536) (hi : i ≤ l.length) (hr : Row w g l) :
    Calls Try.prog 34 #[.slice (some ⟨g, 0, none⟩) l.length l.length, .int .i64 i] w fun e w' =>
      ∃ j : Nat, e = .returned (.int .i64 j) ∧ w' = w ∧ Tr l i j := by
  have HR := hide hr
  clear hr
  go_enter Try.func34, Try.ntmps34
  go_wp2
  go_loop [1] (fun t => ∃ j : Nat, t = .int .i64 j ∧ i ≤ j ∧ j ≤ l.length ∧ Tr l i j) (fun t => l.length - (intOf t).toNat)
  case atStart => exact ⟨i, rfl, Nat.le_refl _, hi, Tr.refl hi⟩
  case round =>
    obtain ⟨j, rfl, hj1, hj2, ht⟩ := hrel
    by_cases hlt : (j : Int) < (l.length : Int)
    · have hlt' : j < l.length := by omega
      have c0 := HR.out j hlt'
      go_wp2
      all_goals first
        | (go_ret
           exact ⟨j, rfl, rfl, ht⟩)
        | (have hp : plainB (bt l j) = true := by first | exact ws_i _ (by omega) | exact ws_d _ ‹_›
           go_round
           case rel => exact ⟨j + 1, by go_num, by omega, by omega, ht.trans (Tr.byte hlt' hp)⟩
           case measure => simp [intOf]; omega)
    · go_wp2
      go_ret
      exact ⟨j, rfl, rfl, ht⟩

/-- It answers a bool of which p holds. -/
def Says (p : Bool → Prop) (e : Ending) : Prop := ∃ b : Bool, e = .returned (.bool b) ∧ p b
/-- It answers an int of which p holds. -/
def SaysI (p : Int → Prop) (e : Ending) : Prop := ∃ r : Int, e = .returned (.int .i64 r) ∧ p r
theorem SaysI.mk {p : Int → Prop} {r : Int} (h : p r) : SaysI p (.returned (.int .i64 r)) := ⟨r, rfl, h⟩
theorem Says.mk {p : Bool → Prop} {b : Bool} (h : p b) : Says p (.returned (.bool b)) := ⟨b, rfl, h⟩

set_option maxHeartbeats 1000000 in
theorem hex_any (c : UInt8) (w : World) :
    Calls Try.prog 33 #[.int .u8 c.toNat] w fun e w' => Says (fun b => b = true → c ≠ 34 ∧ c ≠ 92) e ∧ w' = w := by
  by_cases h1 : c = 34
  · have h2 : (c.toNat : Int) < 48 := by subst h1; decide
    have HC := hide h1
    clear h1
    go_enter Try.func33, Try.ntmps33
    go_wp2
    go_ret
    exact ⟨Says.mk (b := false) (fun h => by cases h), rfl⟩
  by_cases h2 : c = 92
  · have h3 : (90 : Int) < (c.toNat : Int) := by subst h2; decide
    have h4 : (c.toNat : Int) < 97 := by subst h2; decide
    have HC := hide h2
    clear h1 h2
    have k1 : (48 : Int) ≤ (c.toNat : Int) := by omega
    have k2 : ¬ (c.toNat : Int) ≤ 57 := by omega
    have k3 : ¬ (97 : Int) ≤ (c.toNat : Int) := by omega
    have k4 : (65 : Int) ≤ (c.toNat : Int) := by omega
    have k5 : ¬ (c.toNat : Int) ≤ 70 := by omega
    go_enter Try.func33, Try.ntmps33
    go_wp2
    go_ret
    exact ⟨Says.mk (b := false) (fun h => by cases h), rfl⟩
  · have HC := hide (And.intro h1 h2)
    clear h1 h2
    go_enter Try.func33, Try.ntmps33
    go_wp2
    all_goals go_ret
    all_goals exact ⟨Says.mk (fun _ => HC.out), rfl⟩

set_option maxHeartbeats 1000000 in
theorem esc_any (c : UInt8) (w : World) :
    Calls Try.prog 11 #[.int .u8 c.toNat] w fun e w' => Says (fun _ => True) e ∧ w' = w := by
  go_enter Try.func11, Try.ntmps11
  go_wp2
  all_goals go_ret
  all_goals exact ⟨Says.mk trivial, rfl⟩

/-- What a step of the automaton answers. -/
def StepP (c : UInt8) (r : Int) : Prop := r = -1 ∨ (1 ≤ r ∧ r ≤ 8 ∧ numB c = true)
theorem not_num (c : UInt8) (h : numB c = false) : (((c.toNat : Int) < 48) ∨ (57 < (c.toNat : Int))) ∧ ((c.toNat : Int) == 45) = false ∧ ((c.toNat : Int) == 43) = false ∧ ((c.toNat : Int) == 46) = false ∧ ((c.toNat : Int) == 101) = false ∧ ((c.toNat : Int) == 69) = false := by
  simp [numB, isDig, UInt8.le_iff_toNat_le, ← UInt8.toNat_inj] at h
  refine ⟨by omega, ?_, ?_, ?_, ?_, ?_⟩ <;> (simp; omega)

set_option maxHeartbeats 4000000 in
theorem step_any (st : Int) (c : UInt8) (w : World) :
    Calls Try.prog 25 #[.int .i64 st, .int .u8 c.toNat] w fun e w' => SaysI (StepP c) e ∧ w' = w := by
  cases hn : numB c
  · obtain ⟨h0, t1, t2, t3, t4, t5⟩ := not_num c hn
    clear hn
    rcases h0 with h0 | h0
    · go_enter Try.func25, Try.ntmps25
      go_wp2
      all_goals go_ret
      all_goals exact ⟨SaysI.mk (Or.inl rfl), rfl⟩
    · have k1 : (48 : Int) ≤ (c.toNat : Int) := by omega
      go_enter Try.func25, Try.ntmps25
      go_wp2
      all_goals go_ret
      all_goals exact ⟨SaysI.mk (Or.inl rfl), rfl⟩
  · have HN := hide hn
    clear hn
    go_enter Try.func25, Try.ntmps25
    go_wp2
    all_goals go_ret
    all_goals first
      | exact ⟨SaysI.mk (Or.inl rfl), rfl⟩
      | exact ⟨SaysI.mk (Or.inr ⟨by decide, by decide, HN.out⟩), rfl⟩

set_option maxHeartbeats 1000000 in
theorem accepts_any (st : Int) (w : World) :
    Calls Try.prog 26 #[.int .i64 st] w fun e w' => Says (fun b => b = true → st ≠ 0) e ∧ w' = w := by
  by_cases h : st = 0
  · subst h
    go_enter Try.func26, Try.ntmps26
    go_wp2
    go_ret
    exact ⟨Says.mk (b := false) (fun h => by cases h), rfl⟩
  · have HN := hide h
    clear h
    go_enter Try.func26, Try.ntmps26
    go_wp2
    all_goals go_ret
    all_goals exact ⟨Says.mk (fun _ => HN.out), rfl⟩
end Go.Proofs.Qxb6600953a
