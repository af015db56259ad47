/- The walk of FnSkipSpaceStopsAtToken where the sizes and the place are within their bounds. -/
import Derived.Test.Qxb6600238aSkip
namespace Go.Proofs.Qxb6600238a
open Go.RowKit Plain

theorem zz_at (s : ByteArray) (p r : Nat) (h : skipTo s.data.toList p = r) (w : World) (hs : s.size ≤ 1048576) (hp : p ≤ 1048576) :
    Calls Try.prog 10 #[.string s, .int .i64 p] w fun e w' => e = .returned (.int .i64 r) ∧ Grown w w' := by
  subst h; exact zz_any s p w hs (by omega)

theorem blank_at (c : UInt8) (h : isBlank c = false) (w : World) : Calls Try.prog 13 #[.int .u8 c.toNat] w fun e w' => e = .returned (.bool false) ∧ w' = w := by
  have := blank_any c w; rw [h] at this; exact this

theorem append_data (a b : ByteArray) : (a ++ b).data.toList = a.data.toList ++ b.data.toList := by simp

/-- What a call of ZZSkipSpace answers. -/
def Zz (s : ByteArray) (p r : Nat) : Prop := ∀ w : World, Calls Try.prog 10 #[.string s, .int .i64 p] w fun e w' => e = .returned (.int .i64 r) ∧ Grown w w'

set_option maxHeartbeats 1000000 in
theorem stop_in (a0 a2 : ByteArray) (p r : Nat) (w : World) (hu : a0.size + a2.size ≤ 1048576) (hp : p ≤ a0.size) (hge : p ≤ r) (hin : r < a0.size)
    (C1 : Zz a0 p r) (C2 : Zz a0 r r) (C3 : Zz (a0 ++ a2) p r) (HB : Hid (isBlank a0[r] = false)) (hni : ((a0[r].toNat : Int) == 35) = false) :
    Calls Try.prog 4 #[.string a0, .int .i64 p, .string a2] w fun e w' => e = .returned (.bool true) ∧ Grown w w' := by
  have hgt : ¬ (1048576 : Int) < (a0.size : Int) := by omega
  have hgt2 : ¬ (1048576 : Int) < (a2.size : Int) := by omega
  have hgt3 : ¬ (1048576 : Int) < (a0.size : Int) + (a2.size : Int) := by omega
  go_enter Try.func4, Try.ntmps4
  go_wp2_with (go_at_call 12; go_in)
  refine (C1 _).mono ?_
  rintro e w1 ⟨rfl, hg1⟩
  go_wp2_with fail
  refine (C2 _).mono ?_
  rintro e w2 ⟨rfl, hg2⟩
  go_wp2_with (go_at_call 13; refine (blank_at _ HB.out _).mono ?_; rintro e w' ⟨rfl, rfl⟩)
  refine (C3 _).mono ?_
  rintro e w3 ⟨rfl, hg3⟩
  go_wp2
  go_ret
  exact ⟨rfl, (Grown.trans' (Grown.trans' hg1 hg2) hg3)⟩

set_option maxHeartbeats 1000000 in
theorem stop_end (a0 a2 : ByteArray) (p r3 : Nat) (w : World) (hu : a0.size + a2.size ≤ 1048576) (hp : p ≤ a0.size) (hr3 : a0.size ≤ r3)
    (C1 : Zz a0 p a0.size) (C2 : Zz a0 a0.size a0.size) (C3 : Zz (a0 ++ a2) p r3) :
    Calls Try.prog 4 #[.string a0, .int .i64 p, .string a2] w fun e w' => e = .returned (.bool true) ∧ Grown w w' := by
  have hgt : ¬ (1048576 : Int) < (a0.size : Int) := by omega
  have hgt2 : ¬ (1048576 : Int) < (a2.size : Int) := by omega
  have hgt3 : ¬ (1048576 : Int) < (a0.size : Int) + (a2.size : Int) := by omega
  go_enter Try.func4, Try.ntmps4
  go_wp2_with (go_at_call 12; go_in)
  refine (C1 _).mono ?_
  rintro e w1 ⟨rfl, hg1⟩
  go_wp2_with fail
  refine (C2 _).mono ?_
  rintro e w2 ⟨rfl, hg2⟩
  go_wp2_with fail
  refine (C3 _).mono ?_
  rintro e w3 ⟨rfl, hg3⟩
  go_wp2
  go_ret
  exact ⟨rfl, (Grown.trans' (Grown.trans' hg1 hg2) hg3)⟩

theorem stop_any (a0 a2 : ByteArray) (p : Nat) (w : World) (hu : a0.size + a2.size ≤ 1048576) (hp : p ≤ a0.size) :
    Calls Try.prog 4 #[.string a0, .int .i64 p, .string a2] w fun e w' => e = .returned (.bool true) ∧ Grown w w' := by
  have hlen : a0.data.toList.length = a0.size := by simp
  have hge := skipTo_ge a0.data.toList p
  have hle := skipTo_le a0.data.toList p (by omega)
  have hid := skipTo_idem a0.data.toList p
  have happ := skipTo_append a0.data.toList a2.data.toList p (by omega)
  have hat := skipTo_at a0.data.toList p
  rw [← append_data] at happ
  have hsz : (a0 ++ a2).size ≤ 1048576 := by rw [ByteArray.size_append]; exact hu
  obtain ⟨r, hr⟩ : ∃ r, skipTo a0.data.toList p = r := ⟨_, rfl⟩
  obtain ⟨r3, hr3⟩ : ∃ r, skipTo (a0 ++ a2).data.toList p = r := ⟨_, rfl⟩
  simp only [hr] at hge hle hid happ hat
  rw [hr3] at happ
  have C1 : Zz a0 p r := fun w => zz_at a0 p r hr w (by omega) (by omega)
  have C2 : Zz a0 r r := fun w => zz_at a0 r r hid w (by omega) (by omega)
  have C3 : Zz (a0 ++ a2) p r3 := fun w => zz_at (a0 ++ a2) p r3 hr3 w hsz (by omega)
  rw [hlen] at hle happ
  by_cases hin : r < a0.size
  · have hb := hat (by omega)
    have hbl : isBlank a0[r] = false := hb.1
    have hne : a0[r] ≠ 35 := hb.2
    have h3 := happ.1 hin
    subst h3
    have hni : ((a0[r3].toNat : Int) == 35) = false := by
      cases h : ((a0[r3].toNat : Int) == 35) with
      | false => rfl
      | true => exact absurd (u8_of _ 35 (by omega) h) hne
    exact stop_in a0 a2 p r3 w hu hp hge hin C1 C2 C3 hbl hni
  · have e : r = a0.size := by omega
    subst e
    exact stop_end a0 a2 p r3 w hu hp (happ.2 rfl) C1 C2 C3
end Go.Proofs.Qxb6600238a
