/- Small contracts: byteIn, startsWith, the three clones. -/
import Derived.Test.Qxb6600526aAny
import Derived.Test.Qxb6600526aPlain
namespace Go.Proofs.Qxb6600526a
open Go.RowKit Plain

/-- Is c among l? (behind a name of its own) -/
def hasB (l : List UInt8) (c : UInt8) : Bool := l.contains c
/-- Does s begin with p? (behind a name of its own) -/
def pfx (p s : List UInt8) : Bool := p.isPrefixOf s
theorem drewN_two (w : World) (a b : Nat) : (w.drewN a).drewN b = w.drewN (a + b) := by simp
theorem ret_bool {a b : Bool} (h : a = b) : Ending.returned (.bool a) = .returned (.bool b) := by rw [h]

theorem mem_at (s : ByteArray) (c : UInt8) (h : s.data.toList.contains c = true) : ∃ (j : Nat) (hj : j < s.size), s[j] = c := by
  have hm : c ∈ s.data.toList := by simpa using h
  obtain ⟨j, hj, he⟩ := List.getElem_of_mem hm
  exact ⟨j, by simpa using hj, he⟩
theorem contains_at (s : ByteArray) (j : Nat) (hj : j < s.size) : s.data.toList.contains s[j] = true := by
  have : s[j] ∈ s.data.toList := List.getElem_mem (l := s.data.toList) (n := j) (by simpa using hj)
  simpa using this
theorem same_u8 (a b : UInt8) (h : ((a.toNat : Int) == (b.toNat : Int)) = true) : a = b := by
  simp at h; rw [← UInt8.toNat_inj]; omega
theorem diff_u8 (a b : UInt8) (h : ((a.toNat : Int) == (b.toNat : Int)) = false) : a ≠ b := by
  intro e; subst e; simp at h

set_option maxHeartbeats 1000000 in
theorem byteIn_any (c : UInt8) (s : ByteArray) (w : World) (hs : s.size ≤ 1048576) :
    Calls Try.prog 32 #[.int .u8 c.toNat, .string s] w fun e w' => e = .returned (.bool (hasB s.data.toList c)) ∧ w' = w := by
  go_enter Try.func32, Try.ntmps32
  go_wp2
  go_loop [5] (fun t => ∃ k : Nat, t = .int .i64 k ∧ k ≤ s.size ∧ Hid (∀ (j : Nat) (h : j < s.size), j < k → s[j] ≠ c)) (fun t => s.size - (intOf t).toNat)
  case atStart => exact ⟨0, rfl, Nat.zero_le _, fun j _ h => by omega⟩
  case round =>
    obtain ⟨k, rfl, hk, HN⟩ := hrel
    by_cases hlt : (k : Int) < (s.size : Int)
    · have hlt' : k < s.size := by omega
      cases hc : (((s[k]).toNat : Int) == (c.toNat : Int))
      · have hne := diff_u8 _ _ hc
        have HE := hide hne
        clear hne
        go_wp2
        go_round
        case rel => exact ⟨k + 1, by go_num, by omega, fun j h hj => by
                            by_cases e : j = k
                            · subst e; exact HE.out
                            · exact HN.out j h (by omega)⟩
        case measure => simp [intOf]; omega
      · have he := same_u8 _ _ hc
        have HE : Hid (hasB s.data.toList c = true) := by rw [← he]; exact contains_at s k hlt'
        clear he
        go_wp2
        go_ret
        exact ⟨ret_bool (by rw [HE.out]), rfl⟩
    · have hno : hasB s.data.toList c = false := by
        cases h : hasB s.data.toList c with
        | false => rfl
        | true =>
          obtain ⟨j, hj, he⟩ := mem_at s c h
          exact absurd he (HN.out j hj (by omega))
      have HE := hide hno
      clear hno
      go_wp2
      go_ret
      exact ⟨ret_bool (by rw [HE.out]), rfl⟩

theorem prefix_iff : ∀ (p s : List UInt8), p.isPrefixOf s = true ↔ p.length ≤ s.length ∧ ∀ j, j < p.length → p.getD j 0 = s.getD j 0
  | [], s => by simp
  | a :: p, [] => by simp
  | a :: p, b :: s => by
    have ih := prefix_iff p s
    simp only [List.isPrefixOf, Bool.and_eq_true, ih, beq_iff_eq, List.length_cons]
    constructor
    · rintro ⟨rfl, h1, h2⟩
      refine ⟨by omega, fun j hj => ?_⟩
      cases j with
      | zero => simp
      | succ j => have := h2 j (by omega); simpa using this
    · rintro ⟨h1, h2⟩
      refine ⟨by simpa using h2 0 (by omega), by omega, fun j hj => ?_⟩
      have := h2 (j + 1) (by omega); simpa using this
theorem getD_at (s : ByteArray) (j : Nat) (h : j < s.size) : s.data.toList.getD j 0 = s[j] := by
  simp only [List.getD_eq_getElem?_getD, data_at s j h]; rfl
theorem bne_u8 (a b : UInt8) (h : ((a.toNat : Int) != (b.toNat : Int)) = false) : a = b := by
  simp at h; rw [← UInt8.toNat_inj]; omega

set_option maxHeartbeats 1000000 in
theorem starts_any (s p : ByteArray) (w : World) (hs : s.size ≤ 1048576) (_hp : p.size ≤ 1048576) :
    Calls Try.prog 34 #[.string s, .string p] w fun e w' => e = .returned (.bool (pfx p.data.toList s.data.toList)) ∧ ∃ n, w' = w.drewN n := by
  by_cases hsh : (s.size : Int) < (p.size : Int)
  · have hno : pfx p.data.toList s.data.toList = false := by
      apply bool_false_of
      unfold pfx
      rw [prefix_iff]
      rintro ⟨h1, _⟩
      simp at h1; omega
    have HE := hide hno
    clear hno
    go_enter Try.func34, Try.ntmps34
    go_wp2
    go_ret
    exact ⟨ret_bool (by rw [HE.out]), 0, rfl⟩
  · go_enter Try.func34, Try.ntmps34
    go_wp2
    go_loopw [5] (fun t wr => ∃ k n : Nat, t = .int .i64 k ∧ k ≤ p.size ∧ wr = w.drewN n ∧ Hid (∀ (j : Nat) (h : j < p.size) (h2 : j < s.size), j < k → s[j] = p[j])) (fun t _ => p.size - (intOf t).toNat)
    case atStart => exact ⟨0, 0, rfl, Nat.zero_le _, rfl, fun j _ _ h => by omega⟩
    case round =>
      obtain ⟨k, n, rfl, hk, rfl, HA⟩ := hrel
      by_cases hlt : (k : Int) < (p.size : Int)
      · have hlt' : k < p.size := by omega
        have hlt2 : k < s.size := by omega
        have hlt3 : (k : Int) < (s.size : Int) := by omega
        go_wp2
        go_quiet (fail)
        cases hc : (((s[k]).toNat : Int) != ((p[k]).toNat : Int))
        · have he := bne_u8 _ _ hc
          have HE := hide he
          clear he
          go_wp2
          go_roundw
          case rel => exact ⟨k + 1, _, by go_num, by omega, rfl, fun j h h2 hj => by
                              by_cases e : j = k
                              · subst e; exact HE.out
                              · exact HA.out j h h2 (by omega)⟩
          case measure => simp [intOf]; omega
        · have hno : pfx p.data.toList s.data.toList = false := by
            apply bool_false_of
            unfold pfx
            rw [prefix_iff]
            rintro ⟨_, h2⟩
            have := h2 k (by simpa using hlt')
            rw [getD_at p k hlt', getD_at s k hlt2] at this
            rw [this] at hc; simp at hc
          have HE := hide hno
          clear hno
          go_wp2
          go_ret
          exact ⟨ret_bool (by rw [HE.out]), _, drewN_two _ _ _⟩
      · have hyes : pfx p.data.toList s.data.toList = true := by
          unfold pfx
          rw [prefix_iff]
          refine ⟨by simp; omega, fun j hj => ?_⟩
          have hj' : j < p.size := by simpa using hj
          rw [getD_at p j hj', getD_at s j (by omega)]
          exact (HA.out j hj' (by omega) (by omega)).symm
        have HE := hide hyes
        clear hyes
        go_wp2
        go_ret
        exact ⟨ret_bool (by rw [HE.out]), _, rfl⟩

/-- What a clone has done after i rounds. -/
structure Cp (e : TypeId) (f : Nat → Value) (n : Nat) (w wr : World) (i : Nat) : Prop where
  below : Below w.heap.size w wr
  size : w.heap.size < wr.heap.size
  done : ∀ j, j < i → wr.cell? ⟨w.heap.size, j, none⟩ = some (f j)
  rest : ∀ j, j < n → ∃ v, wr.cell? ⟨w.heap.size, j, none⟩ = some v
  fz : ∀ j, wr.frozen? ⟨w.heap.size, j, none⟩ = false

theorem Cp.start (e : TypeId) (f : Nat → Value) (n : Nat) (w : World) (C : Array Value) (hC : C.size = n) : Cp e f n w (w.alloc (.cells C e)) 0 where
  below := (Below.refl _ _).alloc (Nat.le_refl _) _
  size := by simp
  done := fun j h => absurd h (Nat.not_lt_zero _)
  rest := fun j h => by
    have : j < C.size := by omega
    exact ⟨C[j], by simp [this]⟩
  fz := fun j => World.frozen?_alloc_new w _ _ _

theorem Cp.step {e : TypeId} {f : Nat → Value} {n : Nat} {w wr : World} {i : Nat} (h : Cp e f n w wr i) (hi : i < n) : Cp e f n w (wr.setCell ⟨w.heap.size, i, none⟩ (f i)) (i + 1) where
  below := h.below.setCell (Nat.le_refl _) _
  size := by simp [World.setCell]; exact h.size
  done := fun j hj => by
    obtain ⟨v, hv⟩ := h.rest i hi
    by_cases e : j = i
    · subst e; exact World.cell?_setCell_same _ _ _ hv
    · rw [World.cell?_setCell_other _ _ _ _ (fun e2 => by injection e2; omega)]; exact h.done j (by omega)
  rest := fun j hj => by
    obtain ⟨v, hv⟩ := h.rest j hj
    exact cell?_setCell_some hv
  fz := fun j => by rw [World.frozen?_setCell]; exact h.fz j

end Go.Proofs.Qxb6600526a
