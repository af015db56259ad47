/- strings.IndexRune in an ASCII text, at a rune beyond ASCII: it is not there. -/
import Derived.Test.Qxb6600526aShelf
import Derived.Test.Qxb6600526aRows
import Derived.WalkKit
import Derived.WalkSpells
import Derived.WalkSmall
import Derived.WalkMore
import Derived.Deep.QuietTactic
import Derived.BigQuiet
import Derived.Deep.LoopGhost
import Derived.Lib.OthersKept
namespace Go.Proofs.Qxb6600526a
open Go.RowKit

theorem valid_of (r : Int) (h : Lib.validRune r = true) : Utf8.valid r = true := by
  simp [Lib.validRune] at h
  simp [Utf8.valid]
  omega
theorem enc_high (r : Int) (h : 128 ≤ r) (hv : Lib.validRune r = true) : ∃ E, Utf8.encode r = E ∧ ∃ n : Nat, E.size = n + 1 ∧ (1 ≤ n ∧ n ≤ 3) ∧ ∀ h : n < E.size, 128 ≤ (E[n]'h).toNat := by
  obtain ⟨a, b, c⟩ := encode_facts r (valid_of r hv) h
  exact ⟨_, rfl, (Utf8.encode r).size - 1, by omega, ⟨by omega, by omega⟩, c⟩
theorem index_neg (c : UInt8) : ∀ l : List UInt8, (∀ b ∈ l, b ≠ c) → Lib.indexByte l c = -1
  | [], _ => rfl
  | b :: l, h => by
    have h1 : b ≠ c := h b (by simp)
    have ih := index_neg c l (fun x hx => h x (by simp [hx]))
    simp [Lib.indexByte, h1, ih]
theorem index_none (s : ByteArray) (k : Nat) (x : UInt8) (hx : 128 ≤ x.toNat) (ha : ∀ (j : Nat) (h : j < s.size), (s[j]).toNat < 128) : Lib.indexByte (s.extract k s.size).data.toList x = -1 := by
  apply index_neg
  intro b hb e
  subst e
  have hb2 : b ∈ s.data.toList := by
    simp [ByteArray.data_extract] at hb
    exact List.mem_of_mem_drop (List.mem_of_mem_take hb)
  obtain ⟨j, hj, he⟩ := List.getElem_of_mem hb2
  have := ha j (by simpa using hj)
  have e2 : s[j]'(by simpa using hj) = b := he
  rw [e2] at this
  omega
theorem index_at (s : ByteArray) (k : Nat) (x : UInt8) (h : Lib.indexByte (s.extract k s.size).data.toList x = -1) (w : World) :
    Calls Try.prog 66 #[.string (s.extract k s.size), .int .u8 x.toNat] w fun e w' => e = .returned (.int .i64 (-1)) ∧ w' = w := by
  have := Try.strings_IndexByte (s.extract k s.size) x.toNat w
  rw [show ((x.toNat : Int)).toNat.toUInt8 = x from by simp, h] at this
  exact this
theorem quiet_add {P : Program} {f : FuncId} {args : Array Value} {w : World} {m n : Nat} {v : Value}
    (h : Calls P f args (w.drewN (m + n)) fun e w' => e = .returned v ∧ w' = w.drewN (m + n)) : Calls P f args (w.drewN (m + n)) fun e w'' => e = .returned v ∧ ∃ k, w'' = w.drewN (m + k) :=
  h.mono fun _ _ ⟨he, hm⟩ => ⟨he, n, hm⟩
theorem hide {p : Prop} (h : p) : Hid p := h

set_option maxHeartbeats 1000000 in
set_option maxRecDepth 1000000 in
theorem rune_error (s : ByteArray) (w : World) (ha : ∀ (j : Nat) (h : j < s.size), (s[j]).toNat < 128) :
    Calls Try.prog 55 #[.string s, .int .i32 65533] w fun e w' => e = .returned (.int .i64 (-1)) ∧ Below w.heap.size w w' := by
  have HA := hide ha
  clear ha
  go_enter Try.func55, Try.ntmps55
  go_wp2
  go_loopg [5, 6] s.size (fun g _ _ wx => ∃ i : Nat, i + g = s.size ∧ wx = w.iter s i)
  case atStart => exact ⟨0, by omega, rfl⟩
  case round =>
    obtain ⟨i, hig, rfl⟩ := hrel
    cases gk with
    | zero =>
      obtain rfl : i = s.size := by omega
      have hnx := run_next_end (P := Try.prog) w s s.size
      go_wp2
      go_ret
      exact ⟨rfl, (Below.refl _ _).alloc (Nat.le_refl _) _⟩
    | succ g =>
      have hi : i < s.size := by omega
      obtain ⟨x, hx⟩ : ∃ x : UInt8, s[i]'hi = x := ⟨_, rfl⟩
      have hx128 : x.toNat < 128 := by rw [← hx]; exact HA.out i hi
      have hnx := fun ty => run_next_ascii (P := Try.prog) w s i ty hi (by rw [hx]; exact hx128)
      rw [hx] at hnx
      clear hx
      have hne : ((x.toNat : Int) == 65533) = false := by simp; omega
      go_wp2
      go_roundg g
      case measure => omega
      case rel => exact ⟨i + 1, by omega, rfl⟩

set_option maxHeartbeats 1000000 in
set_option maxRecDepth 1000000 in
theorem rune_high (s : ByteArray) (r : Int) (w : World) (h0 : 128 ≤ r) (h1 : (r == 65533) = false) (ha : ∀ (j : Nat) (h : j < s.size), (s[j]).toNat < 128) :
    Calls Try.prog 55 #[.string s, .int .i32 r] w fun e w' => e = .returned (.int .i64 (-1)) ∧ Below w.heap.size w w' := by
  have HA := hide ha
  clear ha
  have h2 : (0 : Int) ≤ r := by omega
  have h3 : ¬ r < 128 := by omega
  cases hv : Lib.validRune r
  · go_enter Try.func55, Try.ntmps55
    go_wp2_with (go_at_call 67; refine (Try.utf8_ValidRune _ _).mono ?_; rintro e w' ⟨rfl, rfl⟩)
    go_ret
    exact ⟨rfl, Below.refl _ _⟩
  · obtain ⟨E, hE, n, hn1, ⟨hn2, hn4⟩, hn3⟩ := enc_high r h0 hv
    obtain ⟨x, hx⟩ : ∃ x : UInt8, E[n]'(by omega) = x := ⟨_, rfl⟩
    have hx2 : 128 ≤ x.toNat := by rw [← hx]; exact hn3 _
    clear hn3
    by_cases hlt : n < s.size
    · have hne : ((s[n].toNat : Int) != (x.toNat : Int)) = true := by
        have := HA.out n hlt
        simp; omega
      have hlt' : (n : Int) < (s.size : Int) := by omega
      have h5 : (0 : Int) ≤ (n : Int) + 1 := by omega
      have h6 : (n : Int) + 1 ≤ (s.size : Int) := by omega
      have h7 : ((n : Int) + 1).toNat = n + 1 := by omega
      have HI := hide (index_none s (n + 1) x hx2 HA.out)
      go_enter Try.func55, Try.ntmps55
      go_wp2_with (go_at_call 67; refine (Try.utf8_ValidRune _ _).mono ?_; rintro e w' ⟨rfl, rfl⟩)
      go_step3
      go_wp2
      go_loopw [9] (fun t wr => t = .int .i64 n ∧ wr = w') (fun _ _ => 0)
      case atStart => exact ⟨by go_num, rfl⟩
      case round =>
        obtain ⟨rfl, rfl⟩ := hrel
        go_wp2
        go_step3
        go_wp2
        go_quiet (fail)
        go_wp2
        go_quiet ((go_at_call 66; exact quiet_add (index_at s (n + 1) x HI.out _)))
        go_wp2
        simp only [Exit.noGoto_ret, Exit.inBlock]
        go_wp2
        simp only [Exit.noGoto_ret, Exit.inBlock]
        go_wp2
        go_ret
        exact ⟨rfl, below_drewN (Below.refl _ _) _⟩
    · have hlt' : ¬ (n : Int) < (s.size : Int) := by omega
      go_enter Try.func55, Try.ntmps55
      go_wp2_with (go_at_call 67; refine (Try.utf8_ValidRune _ _).mono ?_; rintro e w' ⟨rfl, rfl⟩)
      go_step3
      go_wp2
      go_loopw [9] (fun t wr => t = .int .i64 n ∧ wr = w') (fun _ _ => 0)
      case atStart => exact ⟨by go_num, rfl⟩
      case round =>
        obtain ⟨rfl, rfl⟩ := hrel
        go_wp2
        simp only [Exit.noGoto_ret, Exit.inBlock]
        go_ret
        exact ⟨rfl, Below.refl _ _⟩

/-- In an ASCII text a rune beyond ASCII is not there. -/
theorem rune_none (s : ByteArray) (r : Int) (w : World) (h0 : 128 ≤ r) (ha : ∀ (j : Nat) (h : j < s.size), (s[j]).toNat < 128) :
    Calls Try.prog 55 #[.string s, .int .i32 r] w fun e w' => e = .returned (.int .i64 (-1)) ∧ Below w.heap.size w w' := by
  cases h : (r == 65533)
  · exact rune_high s r w h0 h ha
  · have e : r = 65533 := by simpa using h
    subst e; exact rune_error s w ha
end Go.Proofs.Qxb6600526a
