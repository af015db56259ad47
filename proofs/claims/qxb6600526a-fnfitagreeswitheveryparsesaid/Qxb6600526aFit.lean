/- fit: it answers what fitK answers. -/
import Derived.Test.Qxb6600526aShaped
namespace Go.Proofs.Qxb6600526a
open Go.RowKit Plain

/-- The form lies in block g: part k in four cells. -/
def Form (w : World) (g n : Nat) (T : Nat → ByteArray) (R : Nat → Bool) (E : Nat → ByteArray) (Ls : Nat → Int) : Prop :=
  ∀ k, k < n → w.cell? ⟨g, k * 4, none⟩ = some (.string (T k)) ∧ w.cell? ⟨g, k * 4 + 1, none⟩ = some (.bool (R k)) ∧ w.cell? ⟨g, k * 4 + 2, none⟩ = some (.string (E k)) ∧ w.cell? ⟨g, k * 4 + 3, none⟩ = some (.int .i64 (Ls k))

def bl (f : Nat → ByteArray) (k : Nat) : List UInt8 := (f k).data.toList

/-- It answers the two bools. -/
def Says2 (r : Bool × Bool) (e : Ending) : Prop := e = .returned (.tuple #[.bool r.1, .bool r.2])

theorem Says2.of {r : Bool × Bool} {a b : Bool} (h : r = (a, b)) : Says2 r (.returned (.tuple #[.bool a, .bool b])) := by subst h; rfl
theorem extract_drop (s : ByteArray) (k : Nat) : (s.extract k s.size).data.toList = s.data.toList.drop k := by
  simp [ByteArray.data_extract, List.take_of_length_le]

theorem indexAny_lt (chars : List UInt8) : ∀ l : List UInt8, Lib.indexAny l chars < l.length
  | [] => by simp [Lib.indexAny]
  | b :: l => by
    have ih := indexAny_lt chars l
    unfold Lib.indexAny
    split
    · simp
    · split
      · simp; omega
      · simp; omega

/-- The least of the part in hand, behind the call. -/
theorem part3 {wr w1 : World} {t : ByteArray} {r : Bool} {x : ByteArray} {l : Int} (h : Below (wr.alloc (.cells #[.string t, .bool r, .string x, .int .i64 l] 48)).heap.size (wr.alloc (.cells #[.string t, .bool r, .string x, .int .i64 l] 48)) w1) :
    w1.cell? ⟨wr.heap.size, 3, none⟩ = some (.int .i64 l) := by
  rw [h.cell (p := ⟨wr.heap.size, 3, none⟩) (by simp)]
  simp

set_option maxHeartbeats 2000000 in
set_option maxRecDepth 100000 in
theorem fit_any (T : Nat → ByteArray) (R : Nat → Bool) (E : Nat → ByteArray) (Ls : Nat → Int) (g n : Nat) (name : ByteArray) (w : World) (hn : n ≤ 4096) (hname : name.size ≤ 4096) (hg : g < w.heap.size)
    (hf : Form w g n T R E Ls) (hT : ∀ k, k < n → (T k).size ≤ 1048576) (hE : ∀ k, k < n → (E k).size ≤ 1048576) (hA : ∀ k, k < n → R k = true → ∀ (j : Nat) (h : j < (E k).size), ((E k)[j]).toNat < 128) :
    Calls Try.prog 33 #[.slice (some ⟨g, 0, none⟩) n n, .string name] w fun e w' => Says2 (fitK (bl T) (bl E) R Ls n 0 name.data.toList) e ∧ Below w.heap.size w w' := by
  have HF := hide hf
  have HTs := hide hT
  have HEs := hide hE
  have HA := hide hA
  clear hf hT hE hA
  go_enter Try.func33, Try.ntmps33
  go_wp2
  go_loopw [6, 13] (fun r t wr => ∃ (k : Nat) (s : ByteArray), r = .string s ∧ t = .int .i64 k ∧ k ≤ n ∧ s.size ≤ 4096 ∧ Hid (fitK (bl T) (bl E) R Ls (n - k) k s.data.toList = fitK (bl T) (bl E) R Ls n 0 name.data.toList) ∧ Below w.heap.size w wr) (fun _ t _ => n - (intOf t).toNat)
  case atStart => exact ⟨0, name, rfl, rfl, Nat.zero_le _, hname, rfl, Below.refl _ _⟩
  case round =>
    obtain ⟨k, s, rfl, rfl, hk, hs, HK, hb⟩ := hrel
    by_cases hlt : (k : Int) < (n : Int)
    · have hlt' : k < n := by omega
      obtain ⟨f0, f1, f2, f3⟩ := HF.out k hlt'
      have q0 := (hb.cell (p := ⟨g, k * 4, none⟩) hg).trans f0
      have q1 := (hb.cell (p := ⟨g, k * 4 + 1, none⟩) hg).trans f1
      have q2 := (hb.cell (p := ⟨g, k * 4 + 2, none⟩) hg).trans f2
      have q3 := (hb.cell (p := ⟨g, k * 4 + 3, none⟩) hg).trans f3
      clear f0 f1 f2 f3
      obtain ⟨m, hm⟩ : ∃ m, n - k = m + 1 := ⟨n - k - 1, by omega⟩
      have hm2 : n - (k + 1) = m := by omega
      have hK := HK.out
      rw [hm] at hK
      have HM := hide hm2
      have HMm := hide hm
      clear hm hm2 HK
      have hTk := HTs.out k hlt'
      have hEk := HEs.out k hlt'
      have hbel : Below w.heap.size w (wr.alloc (Obj.cells #[Value.string (T k), Value.bool (R k), Value.string (E k), Value.int IntKind.i64 (Ls k)] 48)) := hb.alloc hb.size _
      have HB := hide hbel
      clear hbel
      cases hR : R k
      · rw [hR] at q1
        rw [fitK, if_pos hR] at hK
        rw [hR] at HB
        clear hR
        by_cases hsh : (s.size : Int) < ((T k).size : Int)
        · have hr : fitK (bl T) (bl E) R Ls n 0 name.data.toList = (false, Lib.hasPrefix (T k).data.toList s.data.toList) := by
            rw [← hK, if_pos (by unfold bl; simp; omega)]; rfl
          have HR := hide hr
          clear hr hK
          go_wp2_with (go_at_call 41; refine (Try.strings_HasPrefix _ _ _).mono ?_; rintro e w' ⟨rfl, rfl⟩)
          go_ret2
          exact ⟨Says2.of HR.out, HB.out⟩
        · rw [if_neg (by unfold bl; simp; omega)] at hK
          cases hpf : Lib.hasPrefix s.data.toList (T k).data.toList
          · have hpf2 : ¬ ((bl T k).isPrefixOf s.data.toList = true) := by
              unfold Lib.hasPrefix at hpf; unfold bl; rw [hpf]; decide
            rw [if_neg hpf2] at hK
            have HR := hide hK.symm
            clear hK
            go_wp2_with (go_at_call 41; refine (Try.strings_HasPrefix _ _ _).mono ?_; rintro e w' ⟨rfl, rfl⟩)
            go_ret2
            exact ⟨Says2.of HR.out, HB.out⟩
          · have hpf2 : (bl T k).isPrefixOf s.data.toList = true := hpf
            rw [if_pos hpf2] at hK
            have hr : fitK (bl T) (bl E) R Ls (n - (k + 1)) (k + 1) (s.extract (T k).size s.size).data.toList = fitK (bl T) (bl E) R Ls n 0 name.data.toList := by
              rw [← hK, HM.out, extract_drop]
              unfold bl; simp
            have HR := hide hr
            clear hr hK hpf2
            have hle : (T k).size ≤ s.size := by omega
            go_wp2_with (go_at_call 41; refine (Try.strings_HasPrefix _ _ _).mono ?_; rintro e w' ⟨rfl, rfl⟩)
            go_roundw
            case rel => exact ⟨k + 1, _, rfl, by go_num, by omega, by simp; omega, HR.out, HB.out⟩
            case measure => simp [intOf]; omega
      · rw [hR] at q1
        have hR' : ¬ (R k = false) := by rw [hR]; decide
        rw [fitK, if_neg hR'] at hK
        have hasc := HA.out k hlt' hR
        have hcall := fun w => any_ascii s (E k) w (by omega) hEk hasc
        obtain ⟨x, hx⟩ : ∃ x, Lib.indexAny s.data.toList (bl E k) = x := ⟨_, rfl⟩
        have hx2 : Lib.indexAny s.data.toList (E k).data.toList = x := hx
        have hxl := indexAny_lt (bl E k) s.data.toList
        rw [hx] at hxl
        have hxl2 : x < (s.size : Int) := by simpa using hxl
        simp only [hx2] at hcall
        simp only [hx] at hK
        have HC := hide hcall
        rw [hR] at HB
        clear hcall hx hx2 hasc hR hR' hxl
        by_cases hx0 : x < 0
        · rw [if_pos hx0] at hK
          by_cases hl : Ls k ≤ (s.size : Int)
          · have hk1 : fitK (bl T) (bl E) R Ls n 0 name.data.toList = ((k : Int) == (n : Int) - 1, true) := by
              rw [← hK]
              have e1 : decide (Ls k ≤ (s.data.toList.length : Int)) = true := by simp; exact hl
              have e2 : decide (m = 0) = ((k : Int) == (n : Int) - 1) := by
                have := HMm.out
                rw [Bool.eq_iff_iff]; simp; omega
              rw [e1, e2]; rfl
            have HR := hide hk1
            clear hk1 hK
            go_wp2_with (go_at_call 44; refine (HC.out _).mono ?_; rintro e w1 ⟨rfl, hw⟩; have c3 := part3 hw)
            go_ret2
            exact ⟨Says2.of HR.out, HB.out.trans (hw.mono HB.out.size)⟩
          · have hk1 : fitK (bl T) (bl E) R Ls n 0 name.data.toList = (false, true) := by
              rw [← hK]
              have e1 : decide (Ls k ≤ (s.data.toList.length : Int)) = false := by simp; omega
              rw [e1]; rfl
            have HR := hide hk1
            clear hk1 hK
            go_wp2_with (go_at_call 44; refine (HC.out _).mono ?_; rintro e w1 ⟨rfl, hw⟩; have c3 := part3 hw)
            go_ret2
            exact ⟨Says2.of HR.out, HB.out.trans (hw.mono HB.out.size)⟩
        · rw [if_neg hx0] at hK
          by_cases hl : x < Ls k
          · rw [if_pos hl] at hK
            have HR := hide hK.symm
            clear hK
            go_wp2_with (go_at_call 44; refine (HC.out _).mono ?_; rintro e w1 ⟨rfl, hw⟩; have c3 := part3 hw)
            go_ret2
            exact ⟨Says2.of HR.out, HB.out.trans (hw.mono HB.out.size)⟩
          · rw [if_neg hl] at hK
            obtain ⟨q, rfl⟩ : ∃ q : Nat, x = (q : Int) := ⟨x.toNat, by omega⟩
            have hr : fitK (bl T) (bl E) R Ls (n - (k + 1)) (k + 1) (s.extract q s.size).data.toList = fitK (bl T) (bl E) R Ls n 0 name.data.toList := by
              rw [← hK, HM.out, extract_drop]; simp
            have HR := hide hr
            have hqs : q ≤ s.size := by omega
            clear hr hK
            go_wp2_with (go_at_call 44; refine (HC.out _).mono ?_; rintro e w1 ⟨rfl, hw⟩; have c3 := part3 hw)
            go_roundw
            case rel => exact ⟨k + 1, _, rfl, by go_num, by omega, by simp; omega, HR.out, HB.out.trans (hw.mono HB.out.size)⟩
            case measure => simp [intOf]; omega
    · have hke : n - k = 0 := by omega
      have hK := HK.out
      rw [hke, fitK] at hK
      have hemp : s.data.toList.isEmpty = s.toList.isEmpty := by rw [Lib.toList_data]
      rw [hemp] at hK
      have HR := hide hK.symm
      clear hK hemp hke HK
      go_wp2
      go_ret2
      exact ⟨Says2.of HR.out, hb⟩
end Go.Proofs.Qxb6600526a
