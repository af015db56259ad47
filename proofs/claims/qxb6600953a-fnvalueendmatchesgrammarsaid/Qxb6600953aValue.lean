/- The model's reader of values, by induction on what is left of the text. -/
import Derived.Test.Qxb6600953aObject
namespace Go.Proofs.Qxb6600953a
open Go.RowKit

theorem WordP.val {l : List UInt8} {i : Nat} {s : ByteArray} {r : Int} (h : WordP l i s r) (hs : 0 < s.size) (hp : ∀ k (h : k < s.size), plainB s[k] = true ∧ endsB s[k] = false) : ValP l i r := by
  rcases h with h | ⟨h1, h2, h3⟩
  · exact Or.inl h
  · refine Or.inr ⟨i + s.size, h1, Val.plain (by omega) h2 fun k a b => ?_⟩
    have e := h3 (k - i) (by omega)
    rw [show i + (k - i) = k from by omega] at e
    rw [e]; exact hp _ _

theorem GrpP.val {l : List UInt8} {i : Nat} {r : Int} (h : GrpP l i r) (ho : bt l i = 123 ∨ bt l i = 91) : ValP l i r := by
  rcases h with h | ⟨e, h, hg⟩
  · exact Or.inl h
  · exact Or.inr ⟨e, h, Val.grp hg ho⟩
theorem StrP.val {l : List UInt8} {i : Nat} {r : Int} (h : StrP l i r) : ValP l i r := by
  rcases h with h | ⟨e, h, hg⟩
  · exact Or.inl h
  · exact Or.inr ⟨e, h, Val.str hg⟩

theorem word_true : ∀ k (h : k < (⟨#[116, 114, 117, 101]⟩ : ByteArray).size), plainB ((⟨#[116, 114, 117, 101]⟩ : ByteArray)[k]) = true ∧ endsB ((⟨#[116, 114, 117, 101]⟩ : ByteArray)[k]) = false := by decide
theorem word_false : ∀ k (h : k < (⟨#[102, 97, 108, 115, 101]⟩ : ByteArray).size), plainB ((⟨#[102, 97, 108, 115, 101]⟩ : ByteArray)[k]) = true ∧ endsB ((⟨#[102, 97, 108, 115, 101]⟩ : ByteArray)[k]) = false := by decide
theorem word_null : ∀ k (h : k < (⟨#[110, 117, 108, 108]⟩ : ByteArray).size), plainB ((⟨#[110, 117, 108, 108]⟩ : ByteArray)[k]) = true ∧ endsB ((⟨#[110, 117, 108, 108]⟩ : ByteArray)[k]) = false := by decide

set_option maxHeartbeats 4000000 in
theorem value_of (l : List UInt8) (g i : Nat) (hl : l.length ≤ 65536) (hlt : i < l.length) (hV : ∀ j, i < j → ValueAt l g j) : ValueAt l g i := by
  intro w hr
  have HR := hide hr
  have HV := hide hV
  clear hr hV
  · have c0 := HR.out i hlt
    have hlt' : ¬ (l.length : Int) ≤ (i : Int) := by omega
    cases h34 : (((bt l i).toNat : Int) == 34)
    · cases h91 : (((bt l i).toNat : Int) == 91)
      · cases h123 : (((bt l i).toNat : Int) == 123)
        · go_enter Try.func19, Try.ntmps19
          go_wp2_with fail
          · refine (word_any l g i ⟨#[116, 114, 117, 101]⟩ _ hl (by omega) (by decide) HR.out).mono ?_
            rintro e w' ⟨⟨r, rfl, hr⟩, n, rfl⟩
            go_wp2
            go_ret
            exact ⟨SaysI.mk (hr.val (by decide) word_true), n, rfl⟩
          · refine (word_any l g i ⟨#[102, 97, 108, 115, 101]⟩ _ hl (by omega) (by decide) HR.out).mono ?_
            rintro e w' ⟨⟨r, rfl, hr⟩, n, rfl⟩
            go_wp2
            go_ret
            exact ⟨SaysI.mk (hr.val (by decide) word_false), n, rfl⟩
          · refine (word_any l g i ⟨#[110, 117, 108, 108]⟩ _ hl (by omega) (by decide) HR.out).mono ?_
            rintro e w' ⟨⟨r, rfl, hr⟩, n, rfl⟩
            go_wp2
            go_ret
            exact ⟨SaysI.mk (hr.val (by decide) word_null), n, rfl⟩
          · refine (number_any l g i _ hl (by omega) HR.out).mono ?_
            rintro e w' ⟨⟨r, rfl, hr⟩, rfl⟩
            go_wp2
            go_ret
            exact ⟨SaysI.mk hr, 0, rfl⟩
        · have ho := u8_eq _ 123 (by omega) h123
          have HO := hide ho
          clear ho
          go_enter Try.func19, Try.ntmps19
          go_wp2_with fail
          refine (object_of l g i _ hl hlt HR.out HV.out).mono ?_
          rintro e w' ⟨⟨r, rfl, hr⟩, n, rfl⟩
          go_wp2
          go_ret
          exact ⟨SaysI.mk (hr.val (Or.inl HO.out)), n, rfl⟩
      · have ho := u8_eq _ 91 (by omega) h91
        have HO := hide ho
        clear ho
        go_enter Try.func19, Try.ntmps19
        go_wp2_with fail
        refine (array_of l g i _ hl hlt HR.out HV.out).mono ?_
        rintro e w' ⟨⟨r, rfl, hr⟩, n, rfl⟩
        go_wp2
        go_ret
        exact ⟨SaysI.mk (hr.val (Or.inr HO.out)), n, rfl⟩
    · have ho := u8_eq _ 34 (by omega) h34
      have HO := hide ho
      clear ho
      go_enter Try.func19, Try.ntmps19
      go_wp2_with fail
      refine (string_any l g i _ hl hlt HO.out HR.out).mono ?_
      rintro e w' ⟨⟨r, rfl, hr⟩, rfl⟩
      go_wp2
      go_ret
      exact ⟨SaysI.mk hr.val, 0, rfl⟩

set_option maxHeartbeats 1000000 in
theorem value_out (l : List UInt8) (g i : Nat) (hlt : l.length ≤ i) : ValueAt l g i := by
  intro w hr
  clear hr
  have hlt' : (l.length : Int) ≤ (i : Int) := by omega
  go_enter Try.func19, Try.ntmps19
  go_wp2
  go_ret
  exact ⟨SaysI.mk (Or.inl rfl), 0, rfl⟩

theorem value_all (l : List UInt8) (g : Nat) (hl : l.length ≤ 65536) : ∀ n i, l.length - i ≤ n → ValueAt l g i
  | 0, i, h => value_out l g i (by omega)
  | n + 1, i, h => by
    by_cases c : i < l.length
    · exact value_of l g i hl c fun j hj => value_all l g hl n j (by omega)
    · exact value_out l g i (by omega)

theorem first_tests (c : UInt8) (n1 : c ≠ 34) (n2 : c ≠ 123) (n3 : c ≠ 91) :
    ((c.toNat : Int) == 34) = false ∧ ((c.toNat : Int) == 123) = false ∧ ((c.toNat : Int) == 91) = false ∧
    ((c.toNat : Int) != 34) = true ∧ ((c.toNat : Int) != 123) = true ∧ ((c.toNat : Int) != 91) = true := by
  simp only [ne_eq, ← UInt8.toNat_inj] at n1 n2 n3
  simp at n1 n2 n3
  simp
  omega

theorem Ended.of_val {l : List UInt8} {i e : Nat} (h : i < e) (he : e ≤ l.length) (hp : ∀ k, i ≤ k → k < e → endsB (bt l k) = false) (hs : e = l.length ∨ (e < l.length ∧ endsB (bt l e) = true)) : Ended l i e :=
  ⟨h, he, fun k a b => hp k (by omega) b, hs⟩

/-- What ZZvalueEnd answers at a value. -/
def EndAt (l : List UInt8) (g i e : Nat) : Prop := ∀ w : World, Row w g l →
  Calls Try.prog 21 #[.slice (some ⟨g, 0, none⟩) l.length l.length, .int .i64 i] w fun en w' => en = .returned (.int .i64 e) ∧ w' = w

theorem EndAt.str {l : List UInt8} {g i e : Nat} (hl : l.length ≤ 65536) (hi : i < l.length) (h : StrTo l i e) : EndAt l g i e := fun w hr =>
  zz_end l g i e w (fun w hr => end_str l g i e w hl hi hr h) hr
theorem EndAt.grp {l : List UInt8} {g i e : Nat} (hl : l.length ≤ 65536) (hi : i < l.length) (ho : bt l i = 123 ∨ bt l i = 91) (h : Grp l i e) : EndAt l g i e := fun w hr => by
  obtain ⟨f, hs⟩ := h.scan ho
  rcases ho with ho | ho
  · exact zz_end l g i e w (fun w hr => grp_end_a l g i e f w hl hi hr ho hs) hr
  · exact zz_end l g i e w (fun w hr => grp_end_b l g i e f w hl hi hr ho hs) hr

set_option maxHeartbeats 2000000 in
theorem grammar_in (l : List UInt8) (b off cap i : Nat) (w : World) (hl : l.length ≤ 65536) (hi : i < l.length) (hb : b < w.heap.size)
    (hc : ∀ k, k < l.length → w.cell? ⟨b, off + k, none⟩ = some (.int .u8 ((bt l k).toNat : Int))) :
    Calls Try.prog 7 #[.slice (some ⟨b, off, none⟩) l.length cap, .int .i64 i] w fun e w' => e = .returned (.bool true) ∧ Below w.heap.size w w' := by
  have HC := hide hc
  clear hc
  have k1 : ¬ (1048576 : Int) < (l.length : Int) := by omega
  have k2 : ¬ (65536 : Int) < (l.length : Int) := by omega
  have k3 : ¬ (l.length : Int) ≤ (i : Int) := by omega
  go_enter Try.func7, Try.ntmps7
  go_wp2_with (go_at_call 18; go_in)
  refine (copy_any l b off cap w (by omega) hb HC.out).mono ?_
  rintro e w1 ⟨rfl, hrow, hbel, hsz⟩
  have HW := hide hrow
  clear hrow
  go_wp2_with fail
  refine (value_at l w.heap.size i (value_all l _ hl _ i (Nat.le_refl _)) w1 HW.out).mono ?_
  rintro e w2 ⟨⟨r, rfl, hr⟩, n, rfl⟩
  have hbn : Below w.heap.size w (w1.drewN n) := below_drewN hbel n
  rcases hr with rfl | ⟨m, rfl, hv⟩
  · go_wp2
    go_ret
    exact ⟨rfl, hbn⟩
  · have hlen := hv.tr.len
    have hlt := hv.lt
    have c0 := HW.out i hi
    have hk := hv.kind
    clear hv
    rcases hk with ⟨hb, hs⟩ | ⟨hb, hg⟩ | ⟨⟨n1, n2, n3⟩, hp⟩
    · have t1 : (((bt l i).toNat : Int) != 34) = false := by rw [hb]; decide
      have HE : Hid (EndAt l w.heap.size i m) := EndAt.str hl hi hs
      clear hb hs
      go_wp2_with fail
      refine (HE.out _ (HW.out.drewN n)).mono ?_
      rintro e w' ⟨rfl, rfl⟩
      go_wp2
      go_ret
      exact ⟨rfl, hbn⟩
    · have HE : Hid (EndAt l w.heap.size i m) := EndAt.grp hl hi hb hg
      clear hg
      rcases hb with hb | hb
      · have t1 : (((bt l i).toNat : Int) != 34) = true := by rw [hb]; decide
        have t2 : (((bt l i).toNat : Int) != 123) = false := by rw [hb]; decide
        clear hb
        go_wp2_with fail
        refine (HE.out _ (HW.out.drewN n)).mono ?_
        rintro e w' ⟨rfl, rfl⟩
        go_wp2
        go_ret
        exact ⟨rfl, hbn⟩
      · have t1 : (((bt l i).toNat : Int) != 34) = true := by rw [hb]; decide
        have t2 : (((bt l i).toNat : Int) != 123) = true := by rw [hb]; decide
        have t3 : (((bt l i).toNat : Int) != 91) = false := by rw [hb]; decide
        clear hb
        go_wp2_with fail
        refine (HE.out _ (HW.out.drewN n)).mono ?_
        rintro e w' ⟨rfl, rfl⟩
        go_wp2
        go_ret
        exact ⟨rfl, hbn⟩
    · obtain ⟨q1, q2, q3, t1, t2, t3⟩ := first_tests _ n1 n2 n3
      have HQ := hide (And.intro q1 (And.intro q2 q3))
      have HP := hide hp
      clear n1 n2 n3 hp q1 q2 q3
      by_cases hm : m < l.length
      · have c1 := HW.out m hm
        have hm' : (m : Int) < (l.length : Int) := by omega
        cases he : endsB (bt l m)
        · go_wp2_with (go_at_call 20; refine (follows_any _ _).mono ?_; rintro e w' ⟨rfl, rfl⟩)
          go_ret
          exact ⟨rfl, hbn⟩
        · go_wp2_with (go_at_call 20; refine (follows_any _ _).mono ?_; rintro e w' ⟨rfl, rfl⟩)
          refine (zz_plain_end l w.heap.size l.length i m _ hl hi (HW.out.drewN n) HQ.out.1 HQ.out.2.1 HQ.out.2.2 (Ended.of_val hlt hlen HP.out (Or.inr ⟨hm, he⟩))).mono ?_
          rintro e w' ⟨rfl, rfl⟩
          go_wp2
          go_ret
          exact ⟨rfl, hbn⟩
      · have hm' : ¬ (m : Int) < (l.length : Int) := by omega
        go_wp2_with fail
        refine (zz_plain_end l w.heap.size l.length i m _ hl hi (HW.out.drewN n) HQ.out.1 HQ.out.2.1 HQ.out.2.2 (Ended.of_val hlt hlen HP.out (Or.inl (by omega)))).mono ?_
        rintro e w' ⟨rfl, rfl⟩
        go_wp2
        go_ret
        exact ⟨rfl, hbn⟩
end Go.Proofs.Qxb6600953a
