/- valueEnd at a string, an object, an array. -/
import Derived.Test.Qxb6600953aStrEnd
import Derived.Deep.LoopGhost
namespace Go.Proofs.Qxb6600953a
open Go.RowKit

theorem neOf (c : UInt8) (n : Nat) (hn : n < 256) (h : c ≠ n.toUInt8) : ((c.toNat : Int) == (n : Int)) = false := by
  cases e : ((c.toNat : Int) == (n : Int)) with
  | false => rfl
  | true => exact absurd (u8_eq c n hn e) h

theorem plain_tests (c : UInt8) (h : plainB c = true) : ((c.toNat : Int) == 34) = false ∧ ((c.toNat : Int) == 123) = false ∧ ((c.toNat : Int) == 91) = false ∧ ((c.toNat : Int) == 125) = false ∧ ((c.toNat : Int) == 93) = false := by
  simp [plainB, ← UInt8.toNat_inj] at h
  refine ⟨?_, ?_, ?_, ?_, ?_⟩ <;> (simp; omega)
theorem tests34 (c : UInt8) (h : c = 34) : ((c.toNat : Int) == 34) = true := by subst h; decide
theorem tests123 (c : UInt8) (h : c = 123) : ((c.toNat : Int) == 34) = false ∧ ((c.toNat : Int) == 123) = true := by subst h; decide
theorem tests91 (c : UInt8) (h : c = 91) : ((c.toNat : Int) == 34) = false ∧ ((c.toNat : Int) == 123) = false ∧ ((c.toNat : Int) == 91) = true := by subst h; decide
theorem tests125 (c : UInt8) (h : c = 125) : ((c.toNat : Int) == 34) = false ∧ ((c.toNat : Int) == 123) = false ∧ ((c.toNat : Int) == 91) = false ∧ ((c.toNat : Int) == 125) = true := by subst h; decide
theorem tests93 (c : UInt8) (h : c = 93) : ((c.toNat : Int) == 34) = false ∧ ((c.toNat : Int) == 123) = false ∧ ((c.toNat : Int) == 91) = false ∧ ((c.toNat : Int) == 125) = false ∧ ((c.toNat : Int) == 93) = true := by subst h; decide

set_option maxHeartbeats 2000000 in
theorem grp_end_a (l : List UInt8) (g i e f : Nat) (w : World) (hl : l.length ≤ 65536) (hi : i < l.length) (hr : Row w g l) (ho : bt l i = 123) (hs : Scan l f i 0 e) :
    Calls Try.prog 31 #[.slice (some ⟨g, 0, none⟩) l.length l.length, .int .i64 i] w fun en w' => en = .returned (.int .i64 e) ∧ w' = w := by
  have HR := hide hr
  have HS := hide hs
  have c0 := HR.out i hi
  obtain ⟨q1, q2⟩ := tests123 _ ho
  clear hr ho hs
  go_enter Try.func31, Try.ntmps31
  go_wp2
  go_loopg [5, 6] f (fun gf d j wx => ∃ (D J : Nat), wx = w ∧ d = .int .i64 D ∧ j = .int .i64 J ∧ D ≤ J ∧ J ≤ l.length ∧ Hid (Scan l gf J D e))
  case atStart => exact ⟨0, i, rfl, rfl, rfl, by omega, by omega, HS⟩
  case round =>
    obtain ⟨D, J, rfl, rfl, rfl, hDJ, hJ, HSc⟩ := hrel
    clear c0 q1 q2 HS
    cases gk with
    | zero => exact HSc.out.elim
    | succ gf =>
      obtain ⟨hJl, hcase⟩ := HSc.out
      have c1 := HR.out J hJl
      clear HSc
      rcases hcase with ⟨hb, e1, hst, hsc⟩ | ⟨hb, hsc⟩ | ⟨hb, hcl⟩ | ⟨hb, hsc⟩
      · have t1 := tests34 _ hb
        have HSC := hide hsc
        have HST := hide hst
        have l1 := hst.lt
        have l2 := hst.len
        clear hsc hst hb
        go_wp2_with (go_at_call 35; refine (str_end l g J e1 _ hl HR.out HST.out).mono ?_; rintro en w' ⟨rfl, rfl⟩)
        go_roundg gf
        case measure => omega
        case rel => exact ⟨D, e1, rfl, rfl, by go_num, by omega, by omega, HSC⟩
      · have HSC := hide hsc
        clear hsc
        rcases hb with hb | hb
        · obtain ⟨t1, t2⟩ := tests123 _ hb
          clear hb
          go_wp2
          go_roundg gf
          case measure => omega
          case rel => exact ⟨D + 1, J + 1, rfl, by go_num, by go_num, by omega, by omega, HSC⟩
        · obtain ⟨t1, t2, t3⟩ := tests91 _ hb
          clear hb
          go_wp2
          go_roundg gf
          case measure => omega
          case rel => exact ⟨D + 1, J + 1, rfl, by go_num, by go_num, by omega, by omega, HSC⟩
      · rcases hcl with ⟨rfl, rfl⟩ | ⟨hD, hsc⟩
        · rcases hb with hb | hb
          · obtain ⟨t1, t2, t3, t4⟩ := tests125 _ hb
            clear hb
            go_wp2
            go_ret
            exact ⟨ret_int (by omega), rfl⟩
          · obtain ⟨t1, t2, t3, t4, t5⟩ := tests93 _ hb
            clear hb
            go_wp2
            go_ret
            exact ⟨ret_int (by omega), rfl⟩
        · have HSC := hide hsc
          have hD0 : ((D : Int) - 1 == 0) = false := by simp; omega
          clear hsc
          rcases hb with hb | hb
          · obtain ⟨t1, t2, t3, t4⟩ := tests125 _ hb
            clear hb
            go_wp2
            go_roundg gf
            case measure => omega
            case rel => exact ⟨D - 1, J + 1, rfl, by go_num, by go_num, by omega, by omega, HSC⟩
          · obtain ⟨t1, t2, t3, t4, t5⟩ := tests93 _ hb
            clear hb
            go_wp2
            go_roundg gf
            case measure => omega
            case rel => exact ⟨D - 1, J + 1, rfl, by go_num, by go_num, by omega, by omega, HSC⟩
      · obtain ⟨t1, t2, t3, t4, t5⟩ := plain_tests _ hb
        have HSC := hide hsc
        clear hsc hb
        go_wp2
        go_roundg gf
        case measure => omega
        case rel => exact ⟨D, J + 1, rfl, rfl, by go_num, by omega, by omega, HSC⟩

set_option maxHeartbeats 2000000 in
theorem grp_end_b (l : List UInt8) (g i e f : Nat) (w : World) (hl : l.length ≤ 65536) (hi : i < l.length) (hr : Row w g l) (ho : bt l i = 91) (hs : Scan l f i 0 e) :
    Calls Try.prog 31 #[.slice (some ⟨g, 0, none⟩) l.length l.length, .int .i64 i] w fun en w' => en = .returned (.int .i64 e) ∧ w' = w := by
  have HR := hide hr
  have HS := hide hs
  have c0 := HR.out i hi
  obtain ⟨q1, q2, q3⟩ := tests91 _ ho
  clear hr ho hs
  go_enter Try.func31, Try.ntmps31
  go_wp2
  go_loopg [5, 6] f (fun gf d j wx => ∃ (D J : Nat), wx = w ∧ d = .int .i64 D ∧ j = .int .i64 J ∧ D ≤ J ∧ J ≤ l.length ∧ Hid (Scan l gf J D e))
  case atStart => exact ⟨0, i, rfl, rfl, rfl, by omega, by omega, HS⟩
  case round =>
    obtain ⟨D, J, rfl, rfl, rfl, hDJ, hJ, HSc⟩ := hrel
    clear c0 q1 q2 q3 HS
    cases gk with
    | zero => exact HSc.out.elim
    | succ gf =>
      obtain ⟨hJl, hcase⟩ := HSc.out
      have c1 := HR.out J hJl
      clear HSc
      rcases hcase with ⟨hb, e1, hst, hsc⟩ | ⟨hb, hsc⟩ | ⟨hb, hcl⟩ | ⟨hb, hsc⟩
      · have t1 := tests34 _ hb
        have HSC := hide hsc
        have HST := hide hst
        have l1 := hst.lt
        have l2 := hst.len
        clear hsc hst hb
        go_wp2_with (go_at_call 35; refine (str_end l g J e1 _ hl HR.out HST.out).mono ?_; rintro en w' ⟨rfl, rfl⟩)
        go_roundg gf
        case measure => omega
        case rel => exact ⟨D, e1, rfl, rfl, by go_num, by omega, by omega, HSC⟩
      · have HSC := hide hsc
        clear hsc
        rcases hb with hb | hb
        · obtain ⟨t1, t2⟩ := tests123 _ hb
          clear hb
          go_wp2
          go_roundg gf
          case measure => omega
          case rel => exact ⟨D + 1, J + 1, rfl, by go_num, by go_num, by omega, by omega, HSC⟩
        · obtain ⟨t1, t2, t3⟩ := tests91 _ hb
          clear hb
          go_wp2
          go_roundg gf
          case measure => omega
          case rel => exact ⟨D + 1, J + 1, rfl, by go_num, by go_num, by omega, by omega, HSC⟩
      · rcases hcl with ⟨rfl, rfl⟩ | ⟨hD, hsc⟩
        · rcases hb with hb | hb
          · obtain ⟨t1, t2, t3, t4⟩ := tests125 _ hb
            clear hb
            go_wp2
            go_ret
            exact ⟨ret_int (by omega), rfl⟩
          · obtain ⟨t1, t2, t3, t4, t5⟩ := tests93 _ hb
            clear hb
            go_wp2
            go_ret
            exact ⟨ret_int (by omega), rfl⟩
        · have HSC := hide hsc
          have hD0 : ((D : Int) - 1 == 0) = false := by simp; omega
          clear hsc
          rcases hb with hb | hb
          · obtain ⟨t1, t2, t3, t4⟩ := tests125 _ hb
            clear hb
            go_wp2
            go_roundg gf
            case measure => omega
            case rel => exact ⟨D - 1, J + 1, rfl, by go_num, by go_num, by omega, by omega, HSC⟩
          · obtain ⟨t1, t2, t3, t4, t5⟩ := tests93 _ hb
            clear hb
            go_wp2
            go_roundg gf
            case measure => omega
            case rel => exact ⟨D - 1, J + 1, rfl, by go_num, by go_num, by omega, by omega, HSC⟩
      · obtain ⟨t1, t2, t3, t4, t5⟩ := plain_tests _ hb
        have HSC := hide hsc
        clear hsc hb
        go_wp2
        go_roundg gf
        case measure => omega
        case rel => exact ⟨D, J + 1, rfl, rfl, by go_num, by omega, by omega, HSC⟩

set_option maxHeartbeats 1000000 in
theorem end_str (l : List UInt8) (g i e : Nat) (w : World) (hl : l.length ≤ 65536) (hi : i < l.length) (hr : Row w g l) (hs : StrTo l i e) :
    Calls Try.prog 31 #[.slice (some ⟨g, 0, none⟩) l.length l.length, .int .i64 i] w fun en w' => en = .returned (.int .i64 e) ∧ w' = w := by
  have HR := hide hr
  have HS := hide hs
  have c0 := HR.out i hi
  have t1 := tests34 _ hs.first
  clear hr hs
  go_enter Try.func31, Try.ntmps31
  go_wp2_with (go_at_call 35; refine (str_end l g i e _ hl HR.out HS.out).mono ?_; rintro en w' ⟨rfl, rfl⟩)
  go_ret
  exact ⟨rfl, rfl⟩

set_option maxHeartbeats 1000000 in
/-- ZZvalueEnd where valueEnd's answer is known. -/
theorem zz_end (l : List UInt8) (g i e : Nat) (w : World)
    (h : ∀ w : World, Row w g l → Calls Try.prog 31 #[.slice (some ⟨g, 0, none⟩) l.length l.length, .int .i64 i] w fun en w' => en = .returned (.int .i64 e) ∧ w' = w) (hr : Row w g l) :
    Calls Try.prog 21 #[.slice (some ⟨g, 0, none⟩) l.length l.length, .int .i64 i] w fun en w' => en = .returned (.int .i64 e) ∧ w' = w := by
  have H := hide h
  have HR := hide hr
  clear h hr
  go_enter Try.func21, Try.ntmps21
  go_wp2_with (go_at_call 31; refine (H.out _ HR.out).mono ?_; rintro en w' ⟨rfl, rfl⟩)
  go_ret
  exact ⟨rfl, rfl⟩
end Go.Proofs.Qxb6600953a
