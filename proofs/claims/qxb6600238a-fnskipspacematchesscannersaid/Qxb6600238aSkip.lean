/- The contracts of the project's functions on the road of the two laws. -/
import Derived.Test.Qxb6600238aIdx
import Derived.Test.Qxb6600238aPlain
import Derived.Deep.QuietTactic
import Derived.BigQuiet
import Derived.WalkSmall
namespace Go.Proofs.Qxb6600238a
open Go.RowKit Plain

theorem ret_bool {a b : Bool} (h : a = b) : Ending.returned (.bool a) = .returned (.bool b) := by rw [h]
theorem ret_int {k : IntKind} {a b : Int} (h : a = b) : Ending.returned (.int k a) = .returned (.int k b) := by rw [h]
theorem blank_int (c : UInt8) : ((c.toNat : Int) == 32 || (c.toNat : Int) == 9 || (c.toNat : Int) == 10 || (c.toNat : Int) == 13) = isBlank c := by
  unfold isBlank
  rw [Bool.eq_iff_iff]; simp [← UInt8.toNat_inj]; omega

set_option maxHeartbeats 400000 in
theorem blank_any (c : UInt8) (w : World) :
    Calls Try.prog 13 #[.int .u8 c.toNat] w fun e w' => e = .returned (.bool (isBlank c)) ∧ w' = w := by
  have hb := blank_int c
  have HB : Hid (isBlank c = ((c.toNat : Int) == 32 || (c.toNat : Int) == 9 || (c.toNat : Int) == 10 || (c.toNat : Int) == 13)) := hb.symm
  clear hb
  go_enter Try.func13, Try.ntmps13
  go_wp2
  all_goals (go_ret; exact ⟨ret_bool (by rw [HB.out]; (try simp [*])), rfl⟩)

theorem quiet_add {P : Program} {f : FuncId} {args : Array Value} {w : World} {m n : Nat} {v : Value}
    (h : Calls P f args (w.drewN (m + n)) fun e w' => e = .returned v ∧ w' = w.drewN (m + n)) : Calls P f args (w.drewN (m + n)) fun e w'' => e = .returned v ∧ ∃ k, w'' = w.drewN (m + k) :=
  h.mono fun _ _ ⟨he, hm⟩ => ⟨he, n, hm⟩
theorem hide {p : Prop} (h : p) : Hid p := h
/-- The place in the lexer. -/
def posIn (b : Nat) (w : World) : Nat := match w.cell? ⟨b, 1, none⟩ with | some v => (intOf v).toNat | none => 0

/-- What holds at every round's head. -/
structure Sk (s : ByteArray) (p b : Nat) (w wr : World) (k : Nat) : Prop where
  ge : p ≤ k
  le : (k : Int) ≤ 9223372036854775807
  to : Hid (skipTo s.data.toList k = skipTo s.data.toList p)
  c0 : wr.cell? ⟨b, 0, none⟩ = some (.string s)
  c1 : wr.cell? ⟨b, 1, none⟩ = some (.int .i64 k)
  f1 : wr.frozen? ⟨b, 1, none⟩ = false
  below : Below b w wr
  fz : ∀ a, wr.frozen? a = w.frozen? a

theorem Sk.step {s : ByteArray} {p b : Nat} {w wr : World} {k k' : Nat} (h : Sk s p b w wr k) (n : Nat) (x : Int) (hx : x = (k' : Int)) (h1 : k ≤ k') (h2 : (k' : Int) ≤ 9223372036854775807)
    (h3 : skipTo s.data.toList k' = skipTo s.data.toList k) : Sk s p b w ((wr.drewN n).setCell ⟨b, 1, none⟩ (.int .i64 x)) k' := by
  subst hx
  refine ⟨Nat.le_trans h.ge h1, h2, h3.trans h.to, ?_, ?_, ?_, ?_, fun a => ?_⟩
  · rw [World.cell?_setCell_other _ _ _ _ (by simp)]; exact h.c0
  · exact World.cell?_setCell_same _ _ _ (u := .int .i64 k) h.c1
  · rw [World.frozen?_setCell]; exact h.f1
  · exact (h.below.trans (below_drewN (Below.refl _ _) n)).setCell (Nat.le_refl _) _
  · rw [World.frozen?_setCell]; exact h.fz a

theorem Sk.pos {s : ByteArray} {p b : Nat} {w wr : World} {k : Nat} (h : Sk s p b w wr k) : posIn b wr = k := by
  unfold posIn; rw [h.c1]; simp [intOf]

theorem getElem_toList (s : ByteArray) (k : Nat) (h : k < s.size) : s.data.toList[k]'(by simpa using h) = s[k] := rfl

theorem blank_of (c : UInt8) (h : ((c.toNat : Int) == 32) = true ∨ ((c.toNat : Int) == 9) = true ∨ ((c.toNat : Int) == 10) = true ∨ ((c.toNat : Int) == 13) = true) : isBlank c = true := by
  rw [← blank_int]; rcases h with h | h | h | h <;> simp [h]
theorem not_blank_of (c : UInt8) (h1 : ((c.toNat : Int) == 32) = false) (h2 : ((c.toNat : Int) == 9) = false) (h3 : ((c.toNat : Int) == 10) = false) (h4 : ((c.toNat : Int) == 13) = false) : isBlank c = false := by
  rw [← blank_int]; simp [h1, h2, h3, h4]
theorem u8_of (c : UInt8) (n : Nat) (hn : n < 256) (h : ((c.toNat : Int) == n) = true) : c = n.toUInt8 := by
  simp at h; rw [← UInt8.toNat_inj]; simp; omega
theorem ne_hash (c : UInt8) (h : ((c.toNat : Int) == 35) = false) : c ≠ 35 := by
  intro e; subst e; simp at h

theorem ne_nl (c : UInt8) (h : ((c.toNat : Int) == 10) = false) : c ≠ 10 := by
  intro e; subst e; simp at h

theorem extract_drop (s : ByteArray) (k : Nat) : (s.extract k s.size).data.toList = s.data.toList.drop k := by
  simp [ByteArray.data_extract, List.take_of_length_le]

/-- The callee, at the place k. -/
theorem index_at (s : ByteArray) (k : Nat) (r : Int) (h : Lib.indexByte (s.data.toList.drop k) 10 = r) (w : World) :
    Calls Try.prog 35 #[.string (s.extract k s.size), .int .u8 10] w fun e w' => e = .returned (.int .i64 r) ∧ w' = w := by
  have := strings_IndexByte (s.extract k s.size) 10 w
  rw [extract_drop] at this
  rw [show (10 : Int).toNat.toUInt8 = 10 from rfl, h] at this
  exact this

set_option maxHeartbeats 1000000 in
theorem skip_any (s : ByteArray) (p b : Nat) (w : World) (hs : s.size ≤ 1048576) (hp : (p : Int) ≤ 9223372036854775807)
    (h0 : w.cell? ⟨b, 0, none⟩ = some (.string s)) (h1 : w.cell? ⟨b, 1, none⟩ = some (.int .i64 p)) (hf : w.frozen? ⟨b, 1, none⟩ = false) :
    Calls Try.prog 31 #[.pointer (some ⟨b, 0, none⟩)] w fun e w' =>
      e = .returned (.tuple #[]) ∧ w'.cell? ⟨b, 1, none⟩ = some (.int .i64 (skipTo s.data.toList p)) ∧ Below b w w' ∧ (∀ a, w'.frozen? a = w.frozen? a) := by
  go_enter Try.func31, Try.ntmps31
  go_wp2
  go_loopw [2] (fun _ wr => ∃ k : Nat, Sk s p b w wr k) (fun _ wr => s.size - posIn b wr)
  case atStart => exact ⟨p, Nat.le_refl _, hp, rfl, h0, h1, hf, Below.refl _ _, fun _ => rfl⟩
  case round =>
    obtain ⟨k, hsk⟩ := hrel
    have hpos := hsk.pos
    have hpk := hsk.ge
    have hk := hsk.le
    have c0 := hsk.c0
    have c1 := hsk.c1
    have f1 := hsk.f1
    have HP : Hid (posIn b wr = k) := hpos
    clear hpos h0 h1 hf
    by_cases hlt : (k : Int) < (s.size : Int)
    · have hl : k < s.data.toList.length := by have : k < s.size := by omega
                                               simpa using this
      have hblank := skipTo_blank s.data.toList k hl
      have hstop := skipTo_stop s.data.toList k hl
      have hhash := skipTo_hash s.data.toList k hl
      have HB : Hid (isBlank s[k] = true → skipTo s.data.toList (k + 1) = skipTo s.data.toList k) := hblank
      have HS : Hid (isBlank s[k] = false → s[k] ≠ 35 → skipTo s.data.toList k = k) := hstop
      have HH : Hid (s[k] = 35 → ((Lib.indexByte (s.data.toList.drop k) 10 = -1 ∧ skipTo s.data.toList k = s.data.toList.length) ∨
        (∃ e : Nat, Lib.indexByte (s.data.toList.drop k) 10 = e ∧ 0 < e ∧ k + e < s.data.toList.length ∧ skipTo s.data.toList (k + e) = skipTo s.data.toList k))) := hhash
      clear hblank hstop hhash
      go_wp2
      go_quiet (fail)
      go_wp2
      go_quiet (fail)
      go_wp2
      iterate 4
        · have hbl : isBlank s[k] = true := blank_of _ (by simp [*])
          go_roundw
          case rel => exact ⟨k + 1, hsk.step _ _ (by omega) (by omega) (by omega) (HB.out hbl)⟩
          case measure => rw [HP.out, (hsk.step _ _ (k' := k + 1) (by omega) (by omega) (by omega) (HB.out hbl)).pos]; omega
      · have hc : s[k] = 35 := u8_of _ 35 (by omega) (by assumption)
        rcases HH.out hc with ⟨e1, e2⟩ | ⟨e, e1, e2, e3, e4⟩
        · have HE := hide e1; clear e1
          have hle : k ≤ s.size := by omega
          go_quiet ((go_at_call 35; exact quiet_add (index_at s k _ HE.out _)))
          go_wp2
          have h4 := skipTo_past s.data.toList s.size (by simp)
          have hst := hsk.step (k' := s.size)
          go_roundw
          case rel => exact ⟨s.size, hst _ _ rfl hle (by omega) (h4.trans (by rw [e2]; simp))⟩
          case measure => rw [HP.out, (hst _ _ rfl hle (by omega) (h4.trans (by rw [e2]; simp))).pos]; omega
        · have HE := hide e1; clear e1
          have HF := hide e4; clear e4
          have hle : k ≤ s.size := by omega
          have e5 : k + e < s.size := by simpa using e3
          clear e3
          go_quiet ((go_at_call 35; exact quiet_add (index_at s k _ HE.out _)))
          go_wp2
          have hst := hsk.step (k' := k + e)
          go_roundw
          case rel => exact ⟨k + e, hst _ _ (by omega) (by omega) (by omega) HF.out⟩
          case measure => rw [HP.out, (hst _ _ (by omega) (by omega) (by omega) HF.out).pos]; omega
      · have hbl : isBlank s[k] = false := not_blank_of _ (by assumption) (by assumption) (by assumption) (by assumption)
        have hne : s[k] ≠ 35 := ne_hash _ (by assumption)
        refine bodyPost_ret (results_none rfl _ _ _) rfl ?_
        refine ⟨rfl, ?_, ?_, fun a => hsk.fz a⟩
        · show wr.cell? _ = _
          rw [hsk.c1, ← hsk.to.out, HS.out hbl hne]
        · exact hsk.below.trans (below_drewN (Below.refl _ _) _)
    · go_wp2
      go_quiet (fail)
      go_wp2
      go_end0
      refine ⟨rfl, ?_, ?_, fun a => hsk.fz a⟩
      · show wr.cell? _ = _
        have h3 := skipTo_past s.data.toList k (by have : s.size ≤ k := by omega
                                                   simpa using this)
        rw [hsk.c1, ← hsk.to.out, h3]
      · exact hsk.below.trans (below_drewN (Below.refl _ _) _)

theorem grown_of {W w1 w' : World} (h : Below W.heap.size W w1) (hf : ∀ a, w1.frozen? a = W.frozen? a) (hb : Below W.heap.size w1 w') (hg : ∀ a, w'.frozen? a = w1.frozen? a) : Grown W w' :=
  ⟨(h.trans hb).frame _, fun a => (hg a).trans (hf a), (h.trans hb).size⟩

theorem Grown.trans' {a b c : World} (h : Grown a b) (k : Grown b c) : Grown a c :=
  ⟨World.keptBut_trans h.1 (World.keptBut_mono (fun _ f => f.elim) k.1), fun x => (k.2.1 x).trans (h.2.1 x), Nat.le_trans h.2.2 k.2.2⟩

set_option maxHeartbeats 1000000 in
theorem zz_any (s : ByteArray) (p : Nat) (w : World) (hs : s.size ≤ 1048576) (hp : (p : Int) ≤ 9223372036854775807) :
    Calls Try.prog 10 #[.string s, .int .i64 p] w fun e w' => e = .returned (.int .i64 (skipTo s.data.toList p)) ∧ Grown w w' := by
  have q0 : (w.alloc (.cells #[.string s, .int .i64 p] 51)).cell? ⟨w.heap.size, 0, none⟩ = some (.string s) := by simp
  have q1 : (w.alloc (.cells #[.string s, .int .i64 p] 51)).cell? ⟨w.heap.size, 1, none⟩ = some (.int .i64 p) := by simp
  have hg := (Grown.refl w).alloc #[.string s, .int .i64 p] 51
  have qf : (w.alloc (.cells #[.string s, .int .i64 p] 51)).frozen? ⟨w.heap.size, 1, none⟩ = false := World.frozen?_alloc_new w _ _ _
  have hb := (Below.refl w.heap.size w).alloc (Nat.le_refl _) (.cells #[.string s, .int .i64 p] 51)
  go_enter Try.func10, Try.ntmps10
  go_wp2_with (go_at_call 31; refine (skip_any s p w.heap.size _ hs hp q0 q1 qf).mono ?_; rintro e w' ⟨rfl, c1, hb', hf'⟩)
  go_ret
  exact ⟨rfl, grown_of hb hg.2.1 hb' hf'⟩

set_option maxHeartbeats 1000000 in
theorem model_any (s : ByteArray) (p : Nat) (w : World) (hs : s.size ≤ 1048576) :
    Calls Try.prog 11 #[.string s, .int .i64 p] w fun e w' => e = .returned (.int .i64 (skipTo s.data.toList p)) ∧ w' = w := by
  by_cases hps : (s.size : Int) ≤ (p : Int)
  · have h := skipTo_past s.data.toList p (by have : s.size ≤ p := by omega
                                              simpa using this)
    have HH := hide h; clear h
    go_enter Try.func11, Try.ntmps11
    go_wp2
    go_ret
    exact ⟨ret_int (by rw [HH.out]), rfl⟩
  · go_enter Try.func11, Try.ntmps11
    go_wp2
    go_loop [5, 6] (fun f i => ∃ (g : Bool) (k : Nat), k ≤ s.size ∧ f = .bool g ∧ i = .int .i64 k ∧ fromK s.data.toList g k = skipTo s.data.toList p) (fun _ i => s.size - (intOf i).toNat)
    case atStart => exact ⟨false, p, by omega, rfl, rfl, rfl⟩
    case round =>
      obtain ⟨g, k, hk, rfl, rfl, hto⟩ := hrel
      have HT := hide hto; clear hto
      by_cases hlt : (k : Int) < (s.size : Int)
      · have hl : k < s.data.toList.length := by have : k < s.size := by omega
                                                 simpa using this
        have H1 := hide (fun h => fromK_nl s.data.toList k hl h)
        have H2 := hide (fun h => fromK_in s.data.toList k hl h)
        have H3 := hide (fun h => fromK_blank s.data.toList k hl h)
        have H4 := hide (fun h => fromK_hash s.data.toList k hl h)
        have H5 := hide (fun h => fromK_stop s.data.toList k hl h)
        cases g
        · cases hbl : isBlank s[k]
          · go_wp2_with (go_at_call 13; refine (blank_any _ _).mono ?_; rintro e w' ⟨rfl, rfl⟩)
            · have hc : s[k] = 35 := u8_of _ 35 (by omega) (by assumption)
              go_round
              case rel => exact ⟨true, k + 1, by omega, rfl, by go_num, (H4.out hc).trans HT.out⟩
              case measure => simp [intOf]; omega
            · have hne : s[k] ≠ 35 := ne_hash _ (by assumption)
              go_ret
              exact ⟨ret_int (by rw [← HT.out, H5.out hbl hne]), rfl⟩
          · go_wp2_with (go_at_call 13; refine (blank_any _ _).mono ?_; rintro e w' ⟨rfl, rfl⟩)
            go_round
            case rel => exact ⟨false, k + 1, by omega, rfl, by go_num, (H3.out hbl).trans HT.out⟩
            case measure => simp [intOf]; omega
        · go_wp2
          · have hc : s[k] = 10 := u8_of _ 10 (by omega) (by assumption)
            go_round
            case rel => exact ⟨false, k + 1, by omega, rfl, by go_num, (H1.out hc).trans HT.out⟩
            case measure => simp [intOf]; omega
          · have hc : s[k] ≠ 10 := ne_nl _ (by assumption)
            go_round
            case rel => exact ⟨true, k + 1, by omega, rfl, by go_num, (H2.out hc).trans HT.out⟩
            case measure => simp [intOf]; omega
      · go_wp2
        go_ret
        exact ⟨ret_int (by rw [← HT.out, fromK_end _ _ _ (by have : s.size ≤ k := by omega
                                                             simpa using this)]; omega), rfl⟩

end Go.Proofs.Qxb6600238a
