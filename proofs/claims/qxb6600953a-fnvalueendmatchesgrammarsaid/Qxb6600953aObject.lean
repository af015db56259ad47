/- The model's reader of objects, from the reader of values further on. -/
import Derived.Test.Qxb6600953aArray
namespace Go.Proofs.Qxb6600953a
open Go.RowKit

theorem is125 (c : UInt8) (h : ((c.toNat : Int) == 125) = true) : c = 125 := u8_eq c 125 (by omega) h
theorem colon_plain (c : UInt8) (h : ((c.toNat : Int) != 58) = false) : plainB c = true := by
  have : c = 58 := by simp at h; rw [← UInt8.toNat_inj]; simp; omega
  subst this; decide
theorem is34 (c : UInt8) (h : ((c.toNat : Int) != 34) = false) : c = 34 := by simp at h; rw [← UInt8.toNat_inj]; simp; omega
theorem value_at (l : List UInt8) (g i : Nat) (h : ValueAt l g i) (w : World) (hr : Row w g l) :
    Calls Try.prog 19 #[.slice (some ⟨g, 0, none⟩) l.length l.length, .int .i64 i] w fun e w' => SaysI (ValP l i) e ∧ ∃ n, w' = w.drewN n := h w hr

set_option maxHeartbeats 4000000 in
theorem object_of (l : List UInt8) (g i : Nat) (w : World) (hl : l.length ≤ 65536) (hi : i < l.length) (hr : Row w g l) (hV : ∀ j, i < j → ValueAt l g j) :
    Calls Try.prog 29 #[.slice (some ⟨g, 0, none⟩) l.length l.length, .int .i64 i] w fun e w' => SaysI (GrpP l i) e ∧ ∃ n, w' = w.drewN n := by
  have HR := hide hr
  have HV := hide hV
  clear hr hV
  go_enter Try.func29, Try.ntmps29
  go_wp2_with fail
  refine (ws_at l g (i + 1) _ w hl (by omega) (by omega) HR.out).mono ?_
  rintro e w' ⟨j0, rfl, rfl, ht0⟩
  have l0 := ht0.len
  have k0 := ht0.le
  have HT0 := hide ht0
  clear ht0
  by_cases hlt : j0 < l.length
  · have c0 := HR.out j0 hlt
    have hlt' : (j0 : Int) < (l.length : Int) := by omega
    cases h125 : (((bt l j0).toNat : Int) == 125)
    · go_wp2_with fail
      go_loopw [5] (fun t wr => ∃ j n : Nat, t = .int .i64 j ∧ wr = w'.drewN n ∧ i < j ∧ j ≤ l.length ∧ Tr l (i + 1) j) (fun t _ => l.length - (intOf t).toNat)
      case atStart => exact ⟨j0, 0, rfl, rfl, by omega, by omega, HT0.out⟩
      case round =>
        obtain ⟨j, n, rfl, rfl, hj1, hj2, ht⟩ := hrel
        have HT := hide ht
        clear ht c0 h125 HT0
        by_cases hlj : j < l.length
        · have cj := HR.out j hlj
          have hlj' : ¬ (l.length : Int) ≤ (j : Int) := by omega
          cases h34 : (((bt l j).toNat : Int) != 34)
          · have hq := is34 _ h34
            have HQ := hide hq
            clear hq
            go_wp2_with fail
            refine (string_any l g j _ hl hlj HQ.out (HR.out.drewN _)).mono ?_
            rintro e w'' ⟨⟨r, rfl, hr⟩, rfl⟩
            rcases hr with rfl | ⟨e, rfl, hst⟩
            · go_wp2_with fail
              go_ret
              exact ⟨SaysI.mk (Or.inl rfl), _, rfl⟩
            · have s1 := hst.lt
              have s2 := hst.len
              have HTS := hide (HT.out.trans (Tr.str hst))
              clear hst HT cj h34
              go_wp2_with fail
              refine (ws_at l g e _ _ hl s2 rfl (HR.out.drewN _)).mono ?_
              rintro e' w'' ⟨j1, rfl, rfl, ht1⟩
              have l1 := ht1.len
              have k1 := ht1.le
              have HT1 := hide (HTS.out.trans ht1)
              clear ht1 HTS
              by_cases hlt1 : j1 < l.length
              · have c1 := HR.out j1 hlt1
                have hlt1' : ¬ (l.length : Int) ≤ (j1 : Int) := by omega
                cases h58 : (((bt l j1).toNat : Int) != 58)
                · go_wp2_with fail
                  refine (ws_at l g (j1 + 1) _ _ hl (by omega) (by omega) (HR.out.drewN _)).mono ?_
                  rintro e' w'' ⟨j2, rfl, rfl, ht2⟩
                  have l2 := ht2.len
                  have k2 := ht2.le
                  have HT2 := hide ((HT1.out.trans (Tr.byte hlt1 (colon_plain _ h58))).trans ht2)
                  clear ht2 HT1 c1 h58
                  go_wp2_with fail
                  refine (value_at l g j2 (HV.out j2 (by omega)) _ (HR.out.drewN _)).mono ?_
                  rintro e' w'' ⟨⟨r, rfl, hr⟩, m, rfl⟩
                  rcases hr with rfl | ⟨e2, rfl, hv⟩
                  · go_wp2_with fail
                    go_ret
                    exact ⟨SaysI.mk (Or.inl rfl), _, rfl⟩
                  · have v1 := hv.lt
                    have v2 := hv.tr.len
                    have HT3 := hide (HT2.out.trans hv.tr)
                    clear hv HT2
                    go_wp2_with fail
                    refine (ws_at l g e2 _ _ hl v2 rfl (HR.out.drewN _)).mono ?_
                    rintro e' w'' ⟨j3, rfl, rfl, ht3⟩
                    have l3 := ht3.len
                    have k3 := ht3.le
                    have HT4 := hide (HT3.out.trans ht3)
                    clear ht3 HT3
                    by_cases hlt3 : j3 < l.length
                    · have c3 := HR.out j3 hlt3
                      have hlt3' : ¬ (l.length : Int) ≤ (j3 : Int) := by omega
                      cases h93 : (((bt l j3).toNat : Int) == 125)
                      · cases h44 : (((bt l j3).toNat : Int) != 44)
                        · go_wp2_with fail
                          refine (ws_at l g (j3 + 1) _ _ hl (by omega) (by omega) (HR.out.drewN _)).mono ?_
                          rintro e' w'' ⟨j4, rfl, rfl, ht4⟩
                          have l4 := ht4.len
                          have k4 := ht4.le
                          have HT5 := hide ((HT4.out.trans (Tr.byte hlt3 (comma_plain _ h44))).trans ht4)
                          clear ht4
                          go_wp2_with fail
                          go_roundw
                          case rel => exact ⟨j4, _, rfl, rfl, by omega, l4, HT5.out⟩
                          case measure => simp [intOf]; omega
                        · go_wp2_with fail
                          go_ret
                          exact ⟨SaysI.mk (Or.inl rfl), _, rfl⟩
                      · go_wp2_with fail
                        go_ret
                        exact ⟨SaysI.mk (Or.inr ⟨j3 + 1, by omega, j3, rfl, hlt3, Or.inl (is125 _ h93), HT4.out⟩), _, rfl⟩
                    · have hlt3' : (l.length : Int) ≤ (j3 : Int) := by omega
                      go_wp2_with fail
                      go_ret
                      exact ⟨SaysI.mk (Or.inl rfl), _, rfl⟩
                · go_wp2_with fail
                  go_ret
                  exact ⟨SaysI.mk (Or.inl rfl), _, rfl⟩
              · have hlt1' : (l.length : Int) ≤ (j1 : Int) := by omega
                go_wp2_with fail
                go_ret
                exact ⟨SaysI.mk (Or.inl rfl), _, rfl⟩
          · go_wp2_with fail
            go_ret
            exact ⟨SaysI.mk (Or.inl rfl), _, rfl⟩
        · have hlj' : (l.length : Int) ≤ (j : Int) := by omega
          go_wp2_with fail
          go_ret
          exact ⟨SaysI.mk (Or.inl rfl), _, rfl⟩
    · go_wp2_with fail
      go_ret
      exact ⟨SaysI.mk (Or.inr ⟨j0 + 1, by omega, j0, rfl, hlt, Or.inl (is125 _ h125), HT0.out⟩), 0, rfl⟩
  · have hlt' : ¬ (j0 : Int) < (l.length : Int) := by omega
    go_wp2_with fail
    go_loopw [5] (fun t wr => ∃ j n : Nat, t = .int .i64 j ∧ wr = w'.drewN n ∧ i < j ∧ j ≤ l.length ∧ Tr l (i + 1) j) (fun t _ => l.length - (intOf t).toNat)
    case atStart => exact ⟨j0, 0, rfl, rfl, by omega, by omega, HT0.out⟩
    case round =>
      obtain ⟨j, n, rfl, rfl, hj1, hj2, ht⟩ := hrel
      have HT := hide ht
      clear ht HT0
      by_cases hlj : j < l.length
      · have cj := HR.out j hlj
        have hlj' : ¬ (l.length : Int) ≤ (j : Int) := by omega
        cases h34 : (((bt l j).toNat : Int) != 34)
        · have hq := is34 _ h34
          have HQ := hide hq
          clear hq
          go_wp2_with fail
          refine (string_any l g j _ hl hlj HQ.out (HR.out.drewN _)).mono ?_
          rintro e w'' ⟨⟨r, rfl, hr⟩, rfl⟩
          rcases hr with rfl | ⟨e, rfl, hst⟩
          · go_wp2_with fail
            go_ret
            exact ⟨SaysI.mk (Or.inl rfl), _, rfl⟩
          · have s1 := hst.lt
            have s2 := hst.len
            have HTS := hide (HT.out.trans (Tr.str hst))
            clear hst HT cj h34
            go_wp2_with fail
            refine (ws_at l g e _ _ hl s2 rfl (HR.out.drewN _)).mono ?_
            rintro e' w'' ⟨j1, rfl, rfl, ht1⟩
            have l1 := ht1.len
            have k1 := ht1.le
            have HT1 := hide (HTS.out.trans ht1)
            clear ht1 HTS
            by_cases hlt1 : j1 < l.length
            · have c1 := HR.out j1 hlt1
              have hlt1' : ¬ (l.length : Int) ≤ (j1 : Int) := by omega
              cases h58 : (((bt l j1).toNat : Int) != 58)
              · go_wp2_with fail
                refine (ws_at l g (j1 + 1) _ _ hl (by omega) (by omega) (HR.out.drewN _)).mono ?_
                rintro e' w'' ⟨j2, rfl, rfl, ht2⟩
                have l2 := ht2.len
                have k2 := ht2.le
                have HT2 := hide ((HT1.out.trans (Tr.byte hlt1 (colon_plain _ h58))).trans ht2)
                clear ht2 HT1 c1 h58
                go_wp2_with fail
                refine (value_at l g j2 (HV.out j2 (by omega)) _ (HR.out.drewN _)).mono ?_
                rintro e' w'' ⟨⟨r, rfl, hr⟩, m, rfl⟩
                rcases hr with rfl | ⟨e2, rfl, hv⟩
                · go_wp2_with fail
                  go_ret
                  exact ⟨SaysI.mk (Or.inl rfl), _, rfl⟩
                · have v1 := hv.lt
                  have v2 := hv.tr.len
                  have HT3 := hide (HT2.out.trans hv.tr)
                  clear hv HT2
                  go_wp2_with fail
                  refine (ws_at l g e2 _ _ hl v2 rfl (HR.out.drewN _)).mono ?_
                  rintro e' w'' ⟨j3, rfl, rfl, ht3⟩
                  have l3 := ht3.len
                  have k3 := ht3.le
                  have HT4 := hide (HT3.out.trans ht3)
                  clear ht3 HT3
                  by_cases hlt3 : j3 < l.length
                  · have c3 := HR.out j3 hlt3
                    have hlt3' : ¬ (l.length : Int) ≤ (j3 : Int) := by omega
                    cases h93 : (((bt l j3).toNat : Int) == 125)
                    · cases h44 : (((bt l j3).toNat : Int) != 44)
                      · go_wp2_with fail
                        refine (ws_at l g (j3 + 1) _ _ hl (by omega) (by omega) (HR.out.drewN _)).mono ?_
                        rintro e' w'' ⟨j4, rfl, rfl, ht4⟩
                        have l4 := ht4.len
                        have k4 := ht4.le
                        have HT5 := hide ((HT4.out.trans (Tr.byte hlt3 (comma_plain _ h44))).trans ht4)
                        clear ht4
                        go_wp2_with fail
                        go_roundw
                        case rel => exact ⟨j4, _, rfl, rfl, by omega, l4, HT5.out⟩
                        case measure => simp [intOf]; omega
                      · go_wp2_with fail
                        go_ret
                        exact ⟨SaysI.mk (Or.inl rfl), _, rfl⟩
                    · go_wp2_with fail
                      go_ret
                      exact ⟨SaysI.mk (Or.inr ⟨j3 + 1, by omega, j3, rfl, hlt3, Or.inl (is125 _ h93), HT4.out⟩), _, rfl⟩
                  · have hlt3' : (l.length : Int) ≤ (j3 : Int) := by omega
                    go_wp2_with fail
                    go_ret
                    exact ⟨SaysI.mk (Or.inl rfl), _, rfl⟩
              · go_wp2_with fail
                go_ret
                exact ⟨SaysI.mk (Or.inl rfl), _, rfl⟩
            · have hlt1' : (l.length : Int) ≤ (j1 : Int) := by omega
              go_wp2_with fail
              go_ret
              exact ⟨SaysI.mk (Or.inl rfl), _, rfl⟩
        · go_wp2_with fail
          go_ret
          exact ⟨SaysI.mk (Or.inl rfl), _, rfl⟩
      · have hlj' : (l.length : Int) ≤ (j : Int) := by omega
        go_wp2_with fail
        go_ret
        exact ⟨SaysI.mk (Or.inl rfl), _, rfl⟩
end Go.Proofs.Qxb6600953a
