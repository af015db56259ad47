/- strings.IndexAny at ASCII chars, whatever the text: the first byte that is among chars. -/
import Derived.Test.Qxb6600526aRune
import Derived.Laws.RangeAny
import Derived.Lib.IndexAny
namespace Go.Proofs.Qxb6600526a
open Go.RowKit

theorem get_is (s : ByteArray) (j : Nat) (h : j < s.size) : s.get! j = s[j] := by
  simp [ByteArray.get!, getElem!_pos, h]; rfl

/-- Every byte of a rune beyond ASCII is beyond ASCII. -/
theorem decode_tail (s : ByteArray) (pos k : Nat) (hk : 1 ≤ k) (hk2 : k < (Utf8.decode s pos).2) : pos + k < s.size ∧ 128 ≤ (s.get! (pos + k)).toNat := by
  revert hk2
  simp only [Utf8.decode]
  repeat' split
  all_goals intro hk2
  all_goals simp only at hk2
  all_goals first
    | omega
    | (rename_i h _
       simp at h
       have e : k = 1 := by omega
       subst e; omega)
    | (rename_i h _
       simp at h
       have e : k = 1 ∨ k = 2 := by omega
       rcases e with e | e <;> (subst e; omega))
    | (rename_i h _
       simp at h
       have e : k = 1 ∨ k = 2 ∨ k = 3 := by omega
       rcases e with e | e | e <;> (subst e; omega))

theorem decode_all (s : ByteArray) (pos : Nat) (h : pos < s.size) (ha : 128 ≤ (s[pos]'h).toNat) (j : Nat) (h1 : pos ≤ j) (h2 : j < pos + (Utf8.decode s pos).2) : ∃ hj : j < s.size, 128 ≤ (s[j]'hj).toNat := by
  by_cases e : j = pos
  · subst e; exact ⟨h, ha⟩
  · obtain ⟨a, b⟩ := decode_tail s pos (j - pos) (by omega) (by omega)
    have e2 : pos + (j - pos) = j := by omega
    rw [e2] at a b
    rw [get_is s j a] at b
    exact ⟨a, b⟩

theorem data_at (s : ByteArray) (j : Nat) (h : j < s.size) : s.data.toList[j]? = some s[j] := by
  rw [List.getElem?_eq_getElem (by simpa using h)]; rfl

theorem not_in (chars : ByteArray) (ha : ∀ (j : Nat) (h : j < chars.size), (chars[j]).toNat < 128) (b : UInt8) (hb : 128 ≤ b.toNat) : chars.data.toList.contains b = false := by
  cases h : chars.data.toList.contains b with
  | false => rfl
  | true =>
    have hm : b ∈ chars.data.toList := by simpa using h
    obtain ⟨j, hj, he⟩ := List.getElem_of_mem hm
    have := ha j (by simpa using hj)
    have e2 : chars[j]'(by simpa using hj) = b := he
    rw [e2] at this; omega

theorem noAny_high {s chars : ByteArray} {pos : Nat} (hn : Lib.NoAny s.data.toList chars.data.toList pos) (h : pos < s.size) (hb : 128 ≤ (s[pos]'h).toNat)
    (ha : ∀ (j : Nat) (h : j < chars.size), (chars[j]).toNat < 128) : Lib.NoAny s.data.toList chars.data.toList (pos + (Utf8.decode s pos).2) := by
  intro j b hj hjb
  by_cases c : j < pos
  · exact hn j b c hjb
  · obtain ⟨hj2, hb2⟩ := decode_all s pos h hb j (by omega) hj
    rw [data_at s j hj2] at hjb
    injection hjb with e
    subst e
    exact not_in chars ha _ hb2

/-- IndexRune at an ASCII rune, as a byte. -/
theorem rune_byte (s : ByteArray) (x : UInt8) (hx : x.toNat < 128) (w : World) :
    Calls Try.prog 55 #[.string s, .int .i32 x.toNat] w fun e w' => e = .returned (.int .i64 (Lib.indexByte s.data.toList x)) ∧ w' = w := by
  have := Try.strings_IndexRune_ascii s x.toNat w (by omega) (by omega)
  rw [show ((x.toNat : Int)).toNat.toUInt8 = x from by simp] at this
  exact this

/-- The iterator stands at p. -/
structure It (s : ByteArray) (w wr : World) (p : Nat) : Prop where
  below : Below w.heap.size w wr
  at' : wr.heap[w.heap.size]? = some (.stringIter s p)

theorem It.start (s : ByteArray) (w : World) : It s w (w.iter s 0) 0 := ⟨(Below.refl _ _).alloc (Nat.le_refl _) _, World.iter_heap w s 0⟩
theorem It.lt {s : ByteArray} {w wr : World} {p : Nat} (h : It s w wr p) : w.heap.size < wr.heap.size := (Array.getElem?_eq_some_iff.1 h.at').1
theorem It.move {s : ByteArray} {w wr : World} {p : Nat} (h : It s w wr p) (q : Nat) : It s w (wr.iterAt w.heap.size s q) q :=
  ⟨Lib.below_iterAt h.below (Nat.le_refl _) s q, Lib.iterAt_heap wr _ s p q h.at'⟩
theorem It.kept {s : ByteArray} {w wr w' : World} {p : Nat} (h : It s w wr p) (k : Below wr.heap.size wr w') : It s w w' p :=
  ⟨h.below.trans (k.mono h.below.size), by rw [k.block _ h.lt]; exact h.at'⟩

set_option maxHeartbeats 4000000 in
set_option maxRecDepth 1000000 in
theorem any_short (s chars : ByteArray) (w : World) (h2 : 2 ≤ chars.size) (h8 : s.size ≤ 8) (ha : ∀ (j : Nat) (h : j < chars.size), (chars[j]).toNat < 128) :
    Calls Try.prog 44 #[.string s, .string chars] w fun e w' => e = .returned (.int .i64 (Lib.indexAny s.data.toList chars.data.toList)) ∧ Below w.heap.size w w' := by
  have HA := hide ha
  clear ha
  have hemp : chars.toList.isEmpty = false := by
    rw [Lib.toList_data]
    cases h : chars.data.toList with
    | nil => have := Lib.size_eq chars; rw [h, List.length_nil] at this; omega
    | cons _ _ => rfl
  have hn1 : ((chars.size : Int) == 1) = false := beq_eq_false_iff_ne.2 (by omega)
  have h8z : decide ((8 : Int) < (s.size : Int)) = false := decide_eq_false (by omega)
  go_enter Try.func44, Try.ntmps44
  go_wp2_with (go_at_call 56; refine (Try.strings_shouldUseASCIISet _ _).mono ?_; rintro e w' ⟨rfl, hw⟩; rw [hw, h8z])
  go_loopg [9, 10] s.size (fun g _ _ wx => ∃ p : Nat, s.size ≤ p + g ∧ It s w wx p ∧ Hid (Lib.NoAny s.data.toList chars.data.toList p))
  case atStart => exact ⟨0, by omega, It.start s w, Lib.NoAny.zero _ _⟩
  case round =>
    obtain ⟨p, hpg, hit, HN⟩ := hrel
    by_cases hp : p < s.size
    · obtain ⟨x, hx⟩ : ∃ x : UInt8, s[p]'hp = x := ⟨_, rfl⟩
      cases gk with
      | zero => omega
      | succ g =>
        by_cases hx128 : x.toNat < 128
        · have hnx := fun ty => Lib.run_next_ascii_at (P := Try.prog) wr w.heap.size s p ty hit.at' hp (by rw [hx]; exact hx128)
          rw [hx] at hnx
          have hxl : s.data.toList[p]? = some x := by rw [data_at s p hp, hx]
          have Hx := hide hxl
          clear hx hxl
          have hcon := Lib.contains_iff_indexByte chars.data.toList x
          have HM := hide (hit.move (p + 1))
          cases hin : chars.data.toList.contains x
          · rw [hin] at hcon
            have hlt : ¬ ((0 : Int) ≤ Lib.indexByte chars.data.toList x) := of_decide_eq_false hcon.symm
            clear hcon
            have HI := hide hin
            clear hin
            go_wp2_with (go_at_call 55; refine (rune_byte _ _ hx128 _).mono ?_; rintro e w' ⟨rfl, hw⟩; rw [hw])
            go_roundg g
            case measure => omega
            case rel => exact ⟨p + 1, by omega, HM.out, HN.out.succ Hx.out HI.out⟩
          · rw [hin] at hcon
            have hge : (0 : Int) ≤ Lib.indexByte chars.data.toList x := of_decide_eq_true hcon.symm
            clear hcon
            have HI := hide hin
            clear hin
            go_wp2_with (go_at_call 55; refine (rune_byte _ _ hx128 _).mono ?_; rintro e w' ⟨rfl, hw⟩; rw [hw])
            go_ret
            exact ⟨by rw [Lib.indexAny_hit HN.out Hx.out HI.out]; rfl, HM.out.below⟩
        · have hnx := fun ty => Lib.run_next_any_at (P := Try.prog) wr w.heap.size s p ty hit.at' hp
          obtain ⟨d1, d2⟩ := decode_high s p hp (by rw [hx]; omega)
          have hna := noAny_high HN.out hp (by rw [hx]; omega) HA.out
          have HNA := hide hna
          clear hx hna
          obtain ⟨r, hr⟩ : ∃ r, (Utf8.decode s p).1 = r := ⟨_, rfl⟩
          obtain ⟨q, hq⟩ : ∃ q, (Utf8.decode s p).2 = q := ⟨_, rfl⟩
          rw [hr, hq] at hnx
          rw [hr] at d1
          rw [hq] at d2 HNA
          clear hr hq
          have HM := hide (hit.move (p + q))
          go_wp2_with (go_at_call 55; refine (rune_none chars r _ (by omega) HA.out).mono ?_; rintro e w' ⟨rfl, hw⟩)
          go_roundg g
          case measure => omega
          case rel => exact ⟨p + q, by omega, HM.out.kept hw, HNA⟩
    · have hnx := fun ty => Lib.run_next_end_at (P := Try.prog) wr w.heap.size s p ty hit.at' hp
      go_wp2
      go_ret
      refine ⟨?_, hit.below⟩
      rw [Lib.indexAny_none (fun j b hj hb => HN.out j b (by have := Lib.size_eq s; omega) hb)]
      rfl

theorem set_info : (Try.prog.info? (Try.lays153_ren.t 116)).map (fun i => (i.zero, i.size)) = some (some (.agg (Array.replicate 256 (.bool false))), 256) := by kernel_rfl

theorem any_long (s chars : ByteArray) (w : World) (h2 : 2 ≤ chars.size) (h8 : 8 < s.size) (hs : s.size ≤ 1048576) (hc : chars.size ≤ 1048576) (ha : ∀ (j : Nat) (b : UInt8), chars.data.toList[j]? = some b → b.toNat < 128) :
    Calls Try.prog 44 #[.string s, .string chars] w fun e w' => e = .returned (.int .i64 (Lib.indexAny s.data.toList chars.data.toList)) ∧ Below w.heap.size w w' :=
  (Any.strings_IndexAny_long Try.lays153 (zero_of_info set_info).1 (zero_of_info set_info).2 s chars w h2 h8 (by omega) (by omega) ha).mono fun e w' ⟨h1, h2⟩ => ⟨h1, by
    rw [h2]; exact ((Below.refl _ _).alloc (Nat.le_refl _) _).alloc (by simp) _⟩

theorem any_ascii (s chars : ByteArray) (w : World) (hs : s.size ≤ 1048576) (hc : chars.size ≤ 1048576) (ha : ∀ (j : Nat) (h : j < chars.size), (chars[j]).toNat < 128) :
    Calls Try.prog 44 #[.string s, .string chars] w fun e w' => e = .returned (.int .i64 (Lib.indexAny s.data.toList chars.data.toList)) ∧ Below w.heap.size w w' := by
  have ha2 : ∀ (j : Nat) (b : UInt8), chars.data.toList[j]? = some b → b.toNat < 128 := fun j b hb => by
    obtain ⟨hj, he⟩ := List.getElem?_eq_some_iff.1 hb
    have := ha j (by simpa using hj)
    have e2 : chars[j]'(by simpa using hj) = b := he
    rw [e2] at this; exact this
  by_cases h0 : chars.size = 0
  · exact (Try.strings_IndexAny_none s chars w h0).mono fun e w' ⟨h1, h2⟩ => ⟨h1, h2 ▸ Below.refl _ _⟩
  by_cases h1 : chars.size = 1
  · exact (Try.strings_IndexAny_one s chars w h1 ha2).mono fun e w' ⟨h1, h2⟩ => ⟨h1, h2 ▸ Below.refl _ _⟩
  by_cases h8 : s.size ≤ 8
  · exact any_short s chars w (by omega) h8 ha
  · exact any_long s chars w (by omega) (by omega) hs hc ha2

end Go.Proofs.Qxb6600526a
