/- The model's reader of arrays, from the reader of values further on. -/
import Derived.Test.Qxb6600953aRead2
namespace Go.Proofs.Qxb6600953a
open Go.RowKit

/-- What a reader of an object or an array answers. -/
def GrpP (l : List UInt8) (i : Nat) (r : Int) : Prop := r = -1 ∨ ∃ e : Nat, r = e ∧ Grp l i e

/-- The reader of values, at place i. -/
def ValueAt (l : List UInt8) (g i : Nat) : Prop := ∀ w : World, Row w g l →
  Calls Try.prog 19 #[.slice (some ⟨g, 0, none⟩) l.length l.length, .int .i64 i] w fun e w' => SaysI (ValP l i) e ∧ ∃ n, w' = w.drewN n

theorem ws_at (l : List UInt8) (g i : Nat) (x : Int) (w : World) (hl : l.length ≤ 65536) (hi : i ≤ l.length) (hx : x = (i : Int)) (hr : Row w g l) :
    Calls Try.prog 34 #[.slice (some ⟨g, 0, none⟩) l.length l.length, .int .i64 x] w fun e w' =>
      ∃ j : Nat, e = .returned (.int .i64 j) ∧ w' = w ∧ Tr l i j := by
  subst hx; exact ws_any l g i w hl hi hr

theorem comma_plain (c : UInt8) (h : ((c.toNat : Int) != 44) = false) : plainB c = true := by
  have : c = 44 := by simp at h; rw [← UInt8.toNat_inj]; simp; omega
  subst this; decide
theorem is93 (c : UInt8) (h : ((c.toNat : Int) == 93) = true) : c = 93 := u8_eq c 93 (by omega) h
theorem ValP.pos {l : List UInt8} {i : Nat} {r : Int} (h : ValP l i r) (hr : 0 ≤ r) : ∃ e : Nat, r = e ∧ Val l i e := by
  rcases h with h | h
  · omega
  · exact h

set_option maxHeartbeats 2000000 in
theorem array_of (l : List UInt8) (g i : Nat) (w : World) (hl : l.length ≤ 65536) (hi : i < l.length) (hr : Row w g l) (hV : ∀ j, i < j → ValueAt l g j) :
    Calls Try.prog 28 #[.slice (some ⟨g, 0, none⟩) l.length l.length, .int .i64 i] w fun e w' => SaysI (GrpP l i) e ∧ ∃ n, w' = w.drewN n := by
  have HR := hide hr
  have HV := hide hV
  clear hr hV
  go_enter Try.func28, Try.ntmps28
  go_wp2_with fail
  refine (ws_at l g (i + 1) _ w hl (by omega) (by omega) HR.out).mono ?_
  rintro e w' ⟨j0, rfl, rfl, ht0⟩
  have l0 := ht0.len
  have k0 := ht0.le
  have HT0 := hide ht0
  clear ht0
  by_cases hlt : j0 < l.length
  · have c0 := HR.out j0 hlt
    have hlt' : (j0 : Int) < (l.length : Int) := by omega
    cases h93 : (((bt l j0).toNat : Int) == 93)
    · go_wp2_with fail
      go_loopw [5] (fun t wr => ∃ j n : Nat, t = .int .i64 j ∧ wr = w'.drewN n ∧ i < j ∧ j ≤ l.length ∧ Tr l (i + 1) j) (fun t _ => l.length - (intOf t).toNat)
      case atStart => exact ⟨j0, 0, rfl, rfl, by omega, by omega, HT0.out⟩
      case round =>
        obtain ⟨j, n, rfl, rfl, hj1, hj2, ht⟩ := hrel
        have HT := hide ht
        clear ht c0 h93 HT0
        go_wp2_with fail
        refine (HV.out j hj1 _ (HR.out.drewN n)).mono ?_
        rintro e w'' ⟨⟨r, rfl, hr⟩, m, rfl⟩
        rcases hr with rfl | ⟨e, rfl, hv⟩
        · go_wp2_with fail
          go_ret
          exact ⟨SaysI.mk (Or.inl rfl), _, rfl⟩
        · have v1 := hv.lt
          have v2 := hv.tr.len
          have HTV := hide (HT.out.trans hv.tr)
          clear hv HT
          go_wp2_with fail
          refine (ws_at l g e _ _ hl v2 rfl (HR.out.drewN _)).mono ?_
          rintro e' w'' ⟨j1, rfl, rfl, ht1⟩
          have l1 := ht1.len
          have k1 := ht1.le
          have HT1 := hide (HTV.out.trans ht1)
          clear ht1 HTV
          by_cases hlt1 : j1 < l.length
          · have c1 := HR.out j1 hlt1
            have hlt1' : ¬ (l.length : Int) ≤ (j1 : Int) := by omega
            cases h93 : (((bt l j1).toNat : Int) == 93)
            · cases h44 : (((bt l j1).toNat : Int) != 44)
              · go_wp2_with fail
                refine (ws_at l g (j1 + 1) _ _ hl (by omega) (by omega) (HR.out.drewN _)).mono ?_
                rintro e' w'' ⟨j2, rfl, rfl, ht2⟩
                have l2 := ht2.len
                have k2 := ht2.le
                have HT2 := hide ((HT1.out.trans (Tr.byte hlt1 (comma_plain _ h44))).trans ht2)
                clear ht2
                go_wp2_with fail
                go_roundw
                case rel => exact ⟨j2, _, rfl, rfl, by omega, l2, HT2.out⟩
                case measure => simp [intOf]; omega
              · go_wp2_with fail
                go_ret
                exact ⟨SaysI.mk (Or.inl rfl), _, rfl⟩
            · go_wp2_with fail
              go_ret
              exact ⟨SaysI.mk (Or.inr ⟨j1 + 1, by omega, j1, rfl, hlt1, Or.inr (is93 _ h93), HT1.out⟩), _, rfl⟩
          · have hlt1' : (l.length : Int) ≤ (j1 : Int) := by omega
            go_wp2_with fail
            go_ret
            exact ⟨SaysI.mk (Or.inl rfl), _, rfl⟩
    · go_wp2_with fail
      go_ret
      exact ⟨SaysI.mk (Or.inr ⟨j0 + 1, by omega, j0, rfl, hlt, Or.inr (is93 _ h93), HT0.out⟩), 0, rfl⟩
  · have hlt' : ¬ (j0 : Int) < (l.length : Int) := by omega
    go_wp2_with fail
    go_loopw [5] (fun t wr => ∃ j n : Nat, t = .int .i64 j ∧ wr = w'.drewN n ∧ i < j ∧ j ≤ l.length ∧ Tr l (i + 1) j) (fun t _ => l.length - (intOf t).toNat)
    case atStart => exact ⟨j0, 0, rfl, rfl, by omega, by omega, HT0.out⟩
    case round =>
      obtain ⟨j, n, rfl, rfl, hj1, hj2, ht⟩ := hrel
      have HT := hide ht
      clear ht HT0
      go_wp2_with fail
      refine (HV.out j hj1 _ (HR.out.drewN n)).mono ?_
      rintro e w'' ⟨⟨r, rfl, hr⟩, m, rfl⟩
      rcases hr with rfl | ⟨e, rfl, hv⟩
      · go_wp2_with fail
        go_ret
        exact ⟨SaysI.mk (Or.inl rfl), _, rfl⟩
      · have v1 := hv.lt
        have v2 := hv.tr.len
        have HTV := hide (HT.out.trans hv.tr)
        clear hv HT
        go_wp2_with fail
        refine (ws_at l g e _ _ hl v2 rfl (HR.out.drewN _)).mono ?_
        rintro e' w'' ⟨j1, rfl, rfl, ht1⟩
        have l1 := ht1.len
        have k1 := ht1.le
        have HT1 := hide (HTV.out.trans ht1)
        clear ht1 HTV
        by_cases hlt1 : j1 < l.length
        · have c1 := HR.out j1 hlt1
          have hlt1' : ¬ (l.length : Int) ≤ (j1 : Int) := by omega
          cases h93 : (((bt l j1).toNat : Int) == 93)
          · cases h44 : (((bt l j1).toNat : Int) != 44)
            · go_wp2_with fail
              refine (ws_at l g (j1 + 1) _ _ hl (by omega) (by omega) (HR.out.drewN _)).mono ?_
              rintro e' w'' ⟨j2, rfl, rfl, ht2⟩
              have l2 := ht2.len
              have k2 := ht2.le
              have HT2 := hide ((HT1.out.trans (Tr.byte hlt1 (comma_plain _ h44))).trans ht2)
              clear ht2
              go_wp2_with fail
              go_roundw
              case rel => exact ⟨j2, _, rfl, rfl, by omega, l2, HT2.out⟩
              case measure => simp [intOf]; omega
            · go_wp2_with fail
              go_ret
              exact ⟨SaysI.mk (Or.inl rfl), _, rfl⟩
          · go_wp2_with fail
            go_ret
            exact ⟨SaysI.mk (Or.inr ⟨j1 + 1, by omega, j1, rfl, hlt1, Or.inr (is93 _ h93), HT1.out⟩), _, rfl⟩
        · have hlt1' : (l.length : Int) ≤ (j1 : Int) := by omega
          go_wp2_with fail
          go_ret
          exact ⟨SaysI.mk (Or.inl rfl), _, rfl⟩
end Go.Proofs.Qxb6600953a
