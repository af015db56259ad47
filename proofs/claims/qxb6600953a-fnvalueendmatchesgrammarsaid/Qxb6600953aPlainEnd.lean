/- valueEnd where the value is neither a string nor an object nor an array; endsValue, zzFollowsValue. -/
import Derived.Test.Qxb6600953aNumber
namespace Go.Proofs.Qxb6600953a
open Go.RowKit

set_option maxHeartbeats 1000000 in
theorem ends_any (c : UInt8) (w : World) :
    Calls Try.prog 36 #[.int .u8 c.toNat] w fun e w' => e = .returned (.bool (endsB c)) ∧ w' = w := by
  have hb := ends_int c
  have HB : Hid (endsB c = ((c.toNat : Int) == 32 || (c.toNat : Int) == 9 || (c.toNat : Int) == 13 || (c.toNat : Int) == 10 || (c.toNat : Int) == 44 || (c.toNat : Int) == 93 || (c.toNat : Int) == 125)) := hb.symm
  clear hb
  go_enter Try.func36, Try.ntmps36
  go_wp2
  all_goals (go_ret; exact ⟨ret_bool (by rw [HB.out]; (try simp [*])), rfl⟩)

set_option maxHeartbeats 1000000 in
theorem follows_any (c : UInt8) (w : World) :
    Calls Try.prog 20 #[.int .u8 c.toNat] w fun e w' => e = .returned (.bool (endsB c)) ∧ w' = w := by
  have hb := ends_int c
  have HB : Hid (endsB c = ((c.toNat : Int) == 32 || (c.toNat : Int) == 9 || (c.toNat : Int) == 13 || (c.toNat : Int) == 10 || (c.toNat : Int) == 44 || (c.toNat : Int) == 93 || (c.toNat : Int) == 125)) := hb.symm
  clear hb
  go_enter Try.func20, Try.ntmps20
  go_wp2
  all_goals (go_ret; exact ⟨ret_bool (by rw [HB.out]; (try simp [*])), rfl⟩)

/-- Between i and m no byte ends a value; m is the end or a byte that does. -/
structure Ended (l : List UInt8) (i m : Nat) : Prop where
  lt : i < m
  len : m ≤ l.length
  all : ∀ k, i < k → k < m → endsB (bt l k) = false
  stop : m = l.length ∨ (m < l.length ∧ endsB (bt l m) = true)

theorem Ended.unique {l : List UInt8} {i m n : Nat} (h : Ended l i m) (k : Ended l i n) : m = n := by
  have e1 : ¬ m < n := fun hlt => by
    rcases h.stop with e | ⟨_, e⟩
    · have := k.len; omega
    · rw [k.all m h.lt hlt] at e; cases e
  have e2 : ¬ n < m := fun hlt => by
    rcases k.stop with e | ⟨_, e⟩
    · have := h.len; omega
    · rw [h.all n k.lt hlt] at e; cases e
  omega

theorem Ended.of_num {l : List UInt8} {i m : Nat} (h : NumTo l i m) (hi : i < m) (hs : m = l.length ∨ (m < l.length ∧ endsB (bt l m) = true)) : Ended l i m :=
  ⟨hi, h.len, fun k a b => num_not_ends _ (h.all k (by omega) b), hs⟩

set_option maxHeartbeats 1000000 in
theorem plain_end (l : List UInt8) (g cap i : Nat) (w : World) (hl : l.length ≤ 65536) (hi : i < l.length) (hr : Row w g l)
    (h34 : (((bt l i).toNat : Int) == 34) = false) (h123 : (((bt l i).toNat : Int) == 123) = false) (h91 : (((bt l i).toNat : Int) == 91) = false) :
    Calls Try.prog 31 #[.slice (some ⟨g, 0, none⟩) l.length cap, .int .i64 i] w fun e w' =>
      ∃ m : Nat, e = .returned (.int .i64 m) ∧ w' = w ∧ Ended l i m := by
  have HR := hide hr
  clear hr
  have c0 := HR.out i hi
  go_enter Try.func31, Try.ntmps31
  go_wp2
  go_loop [7] (fun t => ∃ j : Nat, t = .int .i64 j ∧ i < j ∧ j ≤ l.length ∧ Hid (∀ k, i < k → k < j → endsB (bt l k) = false)) (fun t => l.length - (intOf t).toNat)
  case atStart => exact ⟨i + 1, by go_num, by omega, by omega, fun k a b => by omega⟩
  case round =>
    obtain ⟨j, rfl, hj1, hj2, HJ⟩ := hrel
    clear c0
    by_cases hlt : (j : Int) < (l.length : Int)
    · have hlt' : j < l.length := by omega
      have c1 := HR.out j hlt'
      cases he : endsB (bt l j)
      · go_wp2_with (go_at_call 36; refine (ends_any _ _).mono ?_; rintro e w' ⟨rfl, rfl⟩)
        go_round
        case rel => exact ⟨j + 1, by go_num, by omega, by omega, fun k a b => by
                            by_cases e : k = j
                            · subst e; exact he
                            · exact HJ.out k a (by omega)⟩
        case measure => simp [intOf]; omega
      · go_wp2_with (go_at_call 36; refine (ends_any _ _).mono ?_; rintro e w' ⟨rfl, rfl⟩)
        go_ret
        exact ⟨j, rfl, rfl, hj1, hj2, HJ.out, Or.inr ⟨hlt', he⟩⟩
    · go_wp2
      go_ret
      exact ⟨j, rfl, rfl, hj1, hj2, HJ.out, Or.inl (by omega)⟩

set_option maxHeartbeats 1000000 in
theorem zz_plain_end (l : List UInt8) (g cap i m : Nat) (w : World) (hl : l.length ≤ 65536) (hi : i < l.length) (hr : Row w g l)
    (h34 : (((bt l i).toNat : Int) == 34) = false) (h123 : (((bt l i).toNat : Int) == 123) = false) (h91 : (((bt l i).toNat : Int) == 91) = false) (hm : Ended l i m) :
    Calls Try.prog 21 #[.slice (some ⟨g, 0, none⟩) l.length cap, .int .i64 i] w fun e w' => e = .returned (.int .i64 m) ∧ w' = w := by
  go_enter Try.func21, Try.ntmps21
  go_wp2_with (go_at_call 31; refine (plain_end l g cap i _ hl hi hr h34 h123 h91).mono ?_; rintro e w' ⟨m', rfl, rfl, hm'⟩)
  have := hm.unique hm'
  subst this
  go_ret
  exact ⟨rfl, rfl⟩

set_option maxHeartbeats 1000000 in
theorem zz_valid (l : List UInt8) (g cap i : Nat) (w : World) (hl : l.length ≤ 65536) (hi : i < l.length) (hr : Row w g l) :
    Calls Try.prog 14 #[.slice (some ⟨g, 0, none⟩) l.length cap, .int .i64 i] w fun e w' =>
      ∃ r : Int, e = .returned (.int .i64 r) ∧ w' = w ∧ (r = -1 ∨ ∃ j : Nat, r = j ∧ i < j ∧ NumTo l i j) := by
  go_enter Try.func14, Try.ntmps14
  go_wp2_with (go_at_call 24; refine (valid_any l g cap i _ hl hi hr).mono ?_; rintro e w' ⟨r, rfl, rfl, hd⟩)
  go_ret
  exact ⟨r, rfl, rfl, hd⟩
end Go.Proofs.Qxb6600953a
