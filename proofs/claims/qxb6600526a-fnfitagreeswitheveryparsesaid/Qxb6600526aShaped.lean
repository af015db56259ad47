/- formShaped. -/
import Derived.Test.Qxb6600526aGuards
namespace Go.Proofs.Qxb6600526a
open Go.RowKit Plain

/-- What formShaped asks of part i. -/
def PartOk (T : Nat → ByteArray) (R : Nat → Bool) (E : Nat → ByteArray) (n i : Nat) : Prop :=
  R i = true → (∀ (j : Nat) (h : j < (E i).size), ((E i)[j]).toNat < 128) ∧ (i + 1 < n → R (i + 1) = false ∧ ∃ h : 0 < (T (i + 1)).size, hasB (E i).data.toList ((T (i + 1))[0]) = true)

/-- What formShaped answers. -/
def ShP (T : Nat → ByteArray) (R : Nat → Bool) (E : Nat → ByteArray) (n0 n1 n2 n3 : Nat) (b : Bool) : Prop :=
  b = true → n1 = n0 ∧ n2 = n0 ∧ n3 = n0 ∧ ∀ i, i < n0 → PartOk T R E n0 i

theorem ShP.no {T : Nat → ByteArray} {R : Nat → Bool} {E : Nat → ByteArray} {n0 n1 n2 n3 : Nat} : ShP T R E n0 n1 n2 n3 false := fun h => by cases h

set_option maxHeartbeats 2000000 in
set_option maxRecDepth 100000 in
theorem shaped_eq (T : Nat → ByteArray) (R : Nat → Bool) (E : Nat → ByteArray) (a0 a1 a2 a3 : Option Addr) (n c0 c1 c2 c3 : Nat) (w : World) (hn : n ≤ 4096)
    (hT : ∀ k, k < n → (T k).size ≤ 1048576) (hE : ∀ k, k < n → (E k).size ≤ 1048576)
    (h0 : Sl w a0 n (fun k => .string (T k))) (h1 : Sl w a1 n (fun k => .bool (R k))) (h2 : Sl w a2 n (fun k => .string (E k))) :
    Calls Try.prog 19 #[.slice a0 n c0, .slice a1 n c1, .slice a2 n c2, .slice a3 n c3] w fun e w' => Says (ShP T R E n n n n) e ∧ w' = w := by
  have HTs := hide hT
  have HEs := hide hE
  clear hT hE
  go_enter Try.func19, Try.ntmps19
  go_wp2
  go_loop [9] (fun t => ∃ k : Nat, t = .int .i64 k ∧ k ≤ n ∧ Hid (∀ i, i < k → PartOk T R E n i)) (fun t => n - (intOf t).toNat)
  case atStart => exact ⟨0, rfl, Nat.zero_le _, fun i h => by omega⟩
  case round =>
    obtain ⟨k, rfl, hk, HP⟩ := hrel
    by_cases hlt : (k : Int) < (n : Int)
    · have hlt' : k < n := by omega
      obtain ⟨b0, off0, rfl, hb0, hc0⟩ := h0.at' (by omega)
      obtain ⟨b1, off1, rfl, hb1, hc1⟩ := h1.at' (by omega)
      obtain ⟨b2, off2, rfl, hb2, hc2⟩ := h2.at' (by omega)
      have r1 := hc1 k hlt'
      have e1 := hc2 k hlt'
      have HC0 := hide hc0
      have HC1 := hide hc1
      clear hc0 hc1 hc2 h0 h1 h2
      cases hR : R k
      · have HR := hide hR
        rw [hR] at r1
        clear hR
        go_wp2
        go_round
        case rel => exact ⟨k + 1, by go_num, by omega, fun i hi => by
                            by_cases e : i = k
                            · subst e; intro h; rw [HR.out] at h; cases h
                            · exact HP.out i (by omega)⟩
        case measure => simp [intOf]; omega
      · have HR := hide hR
        rw [hR] at r1
        clear hR
        have hsz := HEs.out k hlt'
        go_wp2
        go_loop [11] (fun t => ∃ j : Nat, t = .int .i64 j ∧ j ≤ (E k).size ∧ Hid (∀ (p : Nat) (h : p < (E k).size), p < j → ((E k)[p]).toNat < 128)) (fun t => (E k).size - (intOf t).toNat)
        case atStart => exact ⟨0, rfl, Nat.zero_le _, fun p _ h => by omega⟩
        case round =>
          obtain ⟨j, rfl, hj, HA⟩ := hrel
          by_cases hltj : (j : Int) < ((E k).size : Int)
          · have hltj' : j < (E k).size := by omega
            by_cases h128 : (128 : Int) ≤ (((E k)[j]).toNat : Int)
            · go_wp2
              go_ret
              exact ⟨Says.mk ShP.no, rfl⟩
            · go_wp2
              go_round
              case rel => exact ⟨j + 1, by go_num, by omega, fun p h hp => by
                                  by_cases e : p = j
                                  · subst e; omega
                                  · exact HA.out p h (by omega)⟩
              case measure => simp [intOf]; omega
          · have HASC : Hid (∀ (p : Nat) (h : p < (E k).size), ((E k)[p]).toNat < 128) := fun p h => HA.out p h (by omega)
            clear HA
            by_cases hnx : (k : Int) + 1 < (n : Int)
            · have hnx' : k + 1 < n := by omega
              have r2 := HC1.out (k + 1) hnx'
              have t2 := HC0.out (k + 1) hnx'
              have htsz := HTs.out (k + 1) hnx'
              cases hR2 : R (k + 1)
              · rw [hR2] at r2
                have HR2 := hide hR2
                clear hR2
                by_cases hz : (T (k + 1)).size = 0
                · have hz' : (((T (k + 1)).size : Int) == 0) = true := by rw [hz]; rfl
                  have HZ := hide hz
                  clear hz
                  go_wp2
                  go_ret
                  exact ⟨Says.mk ShP.no, rfl⟩
                · have hz' : (((T (k + 1)).size : Int) == 0) = false := beq_eq_false_iff_ne.2 (by omega)
                  have hz2 : (0 : Int) < ((T (k + 1)).size : Int) := by omega
                  have hz3 : 0 < (T (k + 1)).size := by omega
                  obtain ⟨x, hx⟩ : ∃ x, (T (k + 1))[0] = x := ⟨_, rfl⟩
                  cases hin : hasB (E k).data.toList x
                  · go_wp2_with (go_at_call 32; refine (byteIn_any _ _ _ hsz).mono ?_; rintro e w' ⟨rfl, rfl⟩)
                    go_ret
                    exact ⟨Says.mk ShP.no, rfl⟩
                  · have HI : Hid (hasB (E k).data.toList ((T (k + 1))[0]) = true) := by rw [hx]; exact hin
                    go_wp2_with (go_at_call 32; refine (byteIn_any _ _ _ hsz).mono ?_; rintro e w' ⟨rfl, rfl⟩)
                    go_round
                    case rel => exact ⟨k + 1, by go_num, by omega, fun i hi => by
                                        by_cases e : i = k
                                        · subst e; intro _; exact ⟨HASC.out, fun _ => ⟨HR2.out, hz3, HI.out⟩⟩
                                        · exact HP.out i (by omega)⟩
                    case measure => simp [intOf]; omega
              · rw [hR2] at r2
                clear hR2
                go_wp2
                go_ret
                exact ⟨Says.mk ShP.no, rfl⟩
            · go_wp2
              go_round
              case rel => exact ⟨k + 1, by go_num, by omega, fun i hi => by
                                  by_cases e : i = k
                                  · subst e; intro _; exact ⟨HASC.out, fun h => by omega⟩
                                  · exact HP.out i (by omega)⟩
              case measure => simp [intOf]; omega
    · go_wp2
      go_ret
      exact ⟨Says.mk (fun _ => ⟨rfl, rfl, rfl, fun i hi => HP.out i (by omega)⟩), rfl⟩

set_option maxHeartbeats 1000000 in
set_option maxRecDepth 100000 in
theorem shaped_any (T : Nat → ByteArray) (R : Nat → Bool) (E : Nat → ByteArray) (a0 a1 a2 a3 : Option Addr) (n0 n1 n2 n3 c0 c1 c2 c3 : Nat) (w : World) (hn : n0 ≤ 4096)
    (hT : ∀ k, k < n0 → (T k).size ≤ 1048576) (hE : ∀ k, k < n2 → (E k).size ≤ 1048576)
    (h0 : Sl w a0 n0 (fun k => .string (T k))) (h1 : Sl w a1 n1 (fun k => .bool (R k))) (h2 : Sl w a2 n2 (fun k => .string (E k))) :
    Calls Try.prog 19 #[.slice a0 n0 c0, .slice a1 n1 c1, .slice a2 n2 c2, .slice a3 n3 c3] w fun e w' => Says (ShP T R E n0 n1 n2 n3) e ∧ w' = w := by
  by_cases e1 : n1 = n0
  · by_cases e2 : n2 = n0
    · by_cases e3 : n3 = n0
      · subst e1; subst e2; subst e3
        exact shaped_eq T R E a0 a1 a2 a3 n3 c0 c1 c2 c3 w hn hT hE h0 h1 h2
      · subst e1; subst e2
        have t3 : ((n3 : Int) != (n2 : Int)) = true := by simp; omega
        clear h0 h1 h2 hT hE
        go_enter Try.func19, Try.ntmps19
        go_wp2
        go_ret
        exact ⟨Says.mk ShP.no, rfl⟩
    · subst e1
      have t2 : ((n2 : Int) != (n1 : Int)) = true := by simp; omega
      clear h0 h1 h2 hT hE
      go_enter Try.func19, Try.ntmps19
      go_wp2
      go_ret
      exact ⟨Says.mk ShP.no, rfl⟩
  · have t1 : ((n1 : Int) != (n0 : Int)) = true := by simp; omega
    clear h0 h1 h2 hT hE
    go_enter Try.func19, Try.ntmps19
    go_wp2
    go_ret
    exact ⟨Says.mk ShP.no, rfl⟩
end Go.Proofs.Qxb6600526a
