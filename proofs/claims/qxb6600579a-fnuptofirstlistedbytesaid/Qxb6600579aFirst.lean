/- The walk of FnUpToFirstListedByte where the sizes and the place are within their bounds. -/
import Derived.Test.Qxb6600579aAny
namespace Go.Proofs.Qxb6600579a
open Go.RowKit

/-- The table at its start. -/
def falses : Array Value := Array.replicate 128 (.bool false)
theorem falses_at (c : Nat) (h : c < 128) : falses[c]? = some (.bool false) := by
  simp [falses, h]
theorem info23 : (Try.prog.info? 23).map (fun i => (i.zero, i.size)) = some (some (.agg falses), 128) := by kernel_rfl

/-- The table marks the first k bytes of chars. -/
structure Tab (chars : ByteArray) (w wr : World) (k : Nat) : Prop where
  below : Below w.heap.size w wr
  size : w.heap.size < wr.heap.size
  cell : ∀ c, c < 128 → wr.cell? ⟨w.heap.size, c, none⟩ = some (.bool ((chars.data.toList.take k).contains c.toUInt8))
  fz : ∀ c, wr.frozen? ⟨w.heap.size, c, none⟩ = false
  ascii : ∀ (j : Nat) (h : j < chars.size), j < k → (chars[j]).toNat < 128

theorem Tab.start (chars : ByteArray) (w : World) : Tab chars w (w.alloc (.cells falses 23)) 0 where
  below := (Below.refl _ _).alloc (Nat.le_refl _) _
  size := by simp
  cell := fun c hc => by rw [World.cell?_alloc_at _ _ _ _ rfl, falses_at c hc]; simp
  fz := fun c => World.frozen?_alloc_new w _ _ _
  ascii := fun j _ h => absurd h (Nat.not_lt_zero _)

theorem take_one (chars : ByteArray) (k : Nat) (h : k < chars.size) : chars.data.toList.take (k + 1) = chars.data.toList.take k ++ [chars[k]] := by
  rw [List.take_succ_eq_append_getElem (by simpa using h)]; rfl

theorem Tab.step {chars : ByteArray} {w wr : World} {k : Nat} (h : Tab chars w wr k) (hk : k < chars.size) (hc : (chars[k]).toNat < 128) :
    Tab chars w (wr.setCell ⟨w.heap.size, (chars[k]).toNat, none⟩ (.bool true)) (k + 1) where
  below := h.below.setCell (Nat.le_refl _) _
  size := by simp [World.setCell]; exact h.size
  cell := fun c hc2 => by
    rw [take_one chars k hk]
    by_cases e : c = (chars[k]).toNat
    · subst e
      rw [World.cell?_setCell_same _ _ _ (h.cell _ hc)]
      simp
    · rw [World.cell?_setCell_other _ _ _ _ (fun e2 => by injection e2; omega), h.cell c hc2]
      have hne : ¬ (c.toUInt8 = chars[k]) := fun e3 => e (by
        rw [← e3]; simp; omega)
      congr 2
      rw [Bool.eq_iff_iff]
      simp [hne]
  fz := fun c => by rw [World.frozen?_setCell]; exact h.fz c
  ascii := fun j hj hlt => by
    by_cases e : j = k
    · subst e; exact hc
    · exact h.ascii j hj (by omega)

theorem upTo_hit {l chars : List UInt8} {p J : Nat} {x : UInt8} (hp : p ≤ J) (hn : ∀ j b, p ≤ j → j < J → l[j]? = some b → chars.contains b = false) (hx : l[J]? = some x) (hc : chars.contains x = true) : upTo l chars p = J := by
  have h := Lib.indexAny_hit (s := l.drop p) (chars := chars) (i := J - p) (x := x) (fun j b hj hb => hn (p + j) b (by omega) (by omega) (by simpa using hb)) (by simp; rw [show p + (J - p) = J from by omega]; exact hx) hc
  unfold upTo
  rw [h, if_pos (by omega)]
  omega
theorem upTo_none {l chars : List UInt8} {p : Nat} (hn : ∀ j b, p ≤ j → l[j]? = some b → chars.contains b = false) : upTo l chars p = l.length := by
  have h := Lib.indexAny_none (s := l.drop p) (chars := chars) (fun j b hj hb => hn (p + j) b (by omega) (by simpa using hb))
  unfold upTo
  rw [h, if_neg (by omega)]

theorem zz_eq (s chars : ByteArray) (i m : Nat) (w : World) (hs : s.size ≤ 1048576) (hc : chars.size ≤ 1048576) (hi : i ≤ s.size) (ha : ∀ (j : Nat) (h : j < chars.size), (chars[j]).toNat < 128) (hm : upTo s.data.toList chars.data.toList i = m) :
    Calls Try.prog 9 #[.string s, .int .i64 i, .string chars] w fun e w' => e = .returned (.int .i64 m) ∧ Below w.heap.size w w' := by
  subst hm; exact zz_upTo s chars i w hs hc hi ha

set_option maxHeartbeats 2000000 in
set_option maxRecDepth 1000000 in
theorem first_in (a0 a2 : ByteArray) (p : Nat) (w : World) (hu : a0.size + a2.size ≤ 1048576) (hp : p ≤ a0.size) :
    Calls Try.prog 3 #[.string a0, .int .i64 p, .string a2] w fun e w' => e = .returned (.bool true) ∧ Below w.heap.size w w' := by
  have hgt : ¬ (1048576 : Int) < (a0.size : Int) := by omega
  have hgt2 : ¬ (1048576 : Int) < (a2.size : Int) := by omega
  have hgt3 : ¬ (1048576 : Int) < (a0.size : Int) + (a2.size : Int) := by omega
  have hz := (zero_of_info info23).1
  go_enter Try.func3, Try.ntmps3
  go_wp2_with (go_at_call 8; go_in)
  go_loopw [8] (fun t wr => ∃ k : Nat, t = .int .i64 k ∧ k ≤ a2.size ∧ Tab a2 w wr k) (fun t _ => a2.size - (intOf t).toNat)
  case atStart => exact ⟨0, rfl, Nat.zero_le _, Tab.start a2 w⟩
  case round =>
    obtain ⟨k, rfl, hk, ht⟩ := hrel
    clear hz
    by_cases hlt : (k : Int) < (a2.size : Int)
    · have hlt' : k < a2.size := by omega
      obtain ⟨x, hx⟩ : ∃ x : UInt8, a2[k] = x := ⟨_, rfl⟩
      by_cases hx128 : x.toNat < 128
      · have c0 := ht.cell x.toNat hx128
        have f0 := ht.fz x.toNat
        have hT := ht.step hlt' (by rw [hx]; exact hx128)
        rw [hx] at hT
        have HT := hide hT
        have hxi : ¬ (128 : Int) ≤ (x.toNat : Int) := by omega
        have hxi2 : (x.toNat : Int) < 128 := by omega
        clear hT
        go_wp2
        go_roundw
        case rel => exact ⟨k + 1, by go_num, by omega, HT.out⟩
        case measure => simp [intOf]; omega
      · have hxi : (128 : Int) ≤ (x.toNat : Int) := by omega
        go_wp2
        go_ret
        exact ⟨rfl, ht.below⟩
    · have hke : k = a2.size := by omega
      have hasc : ∀ (j : Nat) (h : j < a2.size), (a2[j]).toNat < 128 := fun j h => ht.ascii j h (by omega)
      have HA := hide hasc
      have hcell : ∀ c : Nat, c < 128 → wr.cell? ⟨w.heap.size, c, none⟩ = some (.bool (a2.data.toList.contains c.toUInt8)) := fun c hc => by
        rw [ht.cell c hc, hke, List.take_of_length_le (by simp)]
      have HC := hide hcell
      have HB := hide ht.below
      clear hasc hcell hke ht
      go_wp2
      go_loop [9, 10] (fun wt t => ∃ J : Nat, t = .int .i64 J ∧ wt = .int .i64 a0.size ∧ p ≤ J ∧ J ≤ a0.size ∧ Hid (∀ j b, p ≤ j → j < J → a0.data.toList[j]? = some b → a2.data.toList.contains b = false)) (fun _ t => a0.size - (intOf t).toNat)
      case atStart => exact ⟨p, rfl, rfl, Nat.le_refl _, hp, fun j b h1 h2 => by omega⟩
      case round =>
        obtain ⟨J, rfl, rfl, hJ1, hJ2, HN⟩ := hrel
        by_cases hltJ : (J : Int) < (a0.size : Int)
        · have hltJ' : J < a0.size := by omega
          obtain ⟨x, hx⟩ : ∃ x : UInt8, a0[J] = x := ⟨_, rfl⟩
          have hxl : a0.data.toList[J]? = some x := by rw [data_at a0 J hltJ', hx]
          have HX := hide hxl
          clear hxl
          by_cases hx128 : x.toNat < 128
          · have c1 := HC.out x.toNat hx128
            rw [show x.toNat.toUInt8 = x from by simp] at c1
            have hxi : (x.toNat : Int) < 128 := by omega
            cases hin : a2.data.toList.contains x
            · rw [hin] at c1
              have HI := hide hin
              clear hin
              go_wp2
              go_round
              case rel => exact ⟨J + 1, by go_num, rfl, by omega, by omega, fun j b h1 h2 h3 => by
                                  by_cases e : j = J
                                  · subst e
                                    rw [HX.out] at h3
                                    injection h3 with e2
                                    subst e2; exact HI.out
                                  · exact HN.out j b h1 (by omega) h3⟩
              case measure => simp [intOf]; omega
            · rw [hin] at c1
              have HU := hide (upTo_hit hJ1 HN.out HX.out hin)
              clear hin
              go_wp2_with (go_at_call 9; refine (zz_eq a0 a2 p J _ (by omega) (by omega) hp HA.out HU.out).mono ?_; rintro e w' ⟨rfl, hw⟩)
              go_ret
              exact ⟨rfl, HB.out.trans (hw.mono HB.out.size)⟩
          · have hxi : ¬ (x.toNat : Int) < 128 := by omega
            have HI := hide (not_in a2 HA.out x (by omega))
            go_wp2
            go_round
            case rel => exact ⟨J + 1, by go_num, rfl, by omega, by omega, fun j b h1 h2 h3 => by
                                by_cases e : j = J
                                · subst e
                                  rw [HX.out] at h3
                                  injection h3 with e2
                                  subst e2; exact HI.out
                                · exact HN.out j b h1 (by omega) h3⟩
            case measure => simp [intOf]; omega
        · have hup : upTo a0.data.toList a2.data.toList p = a0.size := by
            rw [upTo_none (fun j b h1 h2 => HN.out j b h1 (by
              obtain ⟨h, _⟩ := List.getElem?_eq_some_iff.1 h2
              have : j < a0.size := by simpa using h
              omega) h2)]
            simp
          have HU := hide hup
          clear hup
          go_wp2_with (go_at_call 9; refine (zz_eq a0 a2 p a0.size _ (by omega) (by omega) hp HA.out HU.out).mono ?_; rintro e w' ⟨rfl, hw⟩)
          go_ret
          exact ⟨rfl, HB.out.trans (hw.mono HB.out.size)⟩
end Go.Proofs.Qxb6600579a
