/- The contracts of bytes.IndexByte and of stringEnd. -/
import Derived.Test.Qxb6600953aScan
import Derived.Lib.Strings
import Derived.Lib.Walk
import Derived.Lib.BytesEntry
import Derived.Lib.Bytealg
namespace Go.Proofs.Qxb6600953a
open Go.RowKit

/-- The first quote from j on. -/
theorem index_first (c : UInt8) : ∀ (l : List UInt8) (Q : Nat), Q < l.length → bt l Q = c →
    ∃ q, q ≤ Q ∧ Lib.indexByte l c = (q : Int) ∧ bt l q = c ∧ ∀ p, p < q → bt l p ≠ c
  | [], Q, h, _ => by simp at h
  | b :: l, Q, h, hQ => by
    by_cases e : b = c
    · exact ⟨0, Nat.zero_le _, by simp [Lib.indexByte, e], by simp [bt, e], fun p hp => by omega⟩
    · cases Q with
      | zero => simp [bt] at hQ; exact absurd hQ e
      | succ Q =>
        obtain ⟨q, h1, h2, h3, h4⟩ := index_first c l Q (by simpa using h) (by simpa [bt] using hQ)
        refine ⟨q + 1, by omega, ?_, by simpa [bt] using h3, fun p hp => ?_⟩
        · have hne : ¬ ((q : Int) = -1) := by omega
          simp [Lib.indexByte, e, h2, hne]
        · cases p with
          | zero => simpa [bt] using e
          | succ p => have := h4 p (by omega); simpa [bt] using this

theorem bt_drop (l : List UInt8) (j k : Nat) : bt (l.drop j) k = bt l (j + k) := by simp [bt]

theorem index_from (c : UInt8) (l : List UInt8) (j Q : Nat) (hj : j ≤ Q) (hQ : Q < l.length) (h : bt l Q = c) :
    ∃ q, j ≤ q ∧ q ≤ Q ∧ Lib.indexByte (l.drop j) c = ((q - j : Nat) : Int) ∧ bt l q = c ∧ ∀ p, j ≤ p → p < q → bt l p ≠ c := by
  obtain ⟨q, h1, h2, h3, h4⟩ := index_first c (l.drop j) (Q - j) (by simp; omega) (by rw [bt_drop, show j + (Q - j) = Q from by omega]; exact h)
  refine ⟨j + q, by omega, by omega, by rw [h2]; congr 1; omega, by rw [← bt_drop]; exact h3, fun p a b => ?_⟩
  have := h4 (p - j) (by omega)
  rw [bt_drop, show j + (p - j) = p from by omega] at this
  exact this

theorem bytesOf_map (l : List UInt8) : Lib.bytesOf (l.map fun c => (c.toNat : Int)) = l := by
  unfold Lib.bytesOf
  rw [List.map_map]
  conv => rhs; rw [← List.map_id l]
  apply List.map_congr_left
  intro c _
  simp

set_option maxHeartbeats 1000000 in
set_option maxRecDepth 100000 in
theorem bytes_index (l : List UInt8) (g j cap : Nat) (w : World) (hr : Row w g l) (hj : j ≤ l.length) :
    Calls Try.prog 37 #[.slice (some ⟨g, j, none⟩) (l.length - j) cap, .int .u8 34] w fun e w' => e = .returned (.int .i64 (Lib.indexByte (l.drop j) 34)) ∧ w' = w := by
  have hlen : ((l.drop j).map fun c => (c.toNat : Int)).length = l.length - j := by simp
  have hc : ∀ i, i < l.length - j → w.cell? ⟨g, j + i, none⟩ = some (.int .u8 (((l.drop j).map fun c => (c.toNat : Int)).getD i 0)) := fun i hi => by
    rw [hr (j + i) (by omega)]
    have : j + i < l.length := by omega
    simp [bt, this]
  have hl := Lib.run_indexByteSlice (P := Try.prog) w g j (l.length - j) cap _ hlen hc 34
  rw [bytesOf_map] at hl
  clear hc hr hlen
  go_enter Try.func37, Try.ntmps37
  go_wp2
  rw [run_callFunc_extern Try.func38 (by kernel_rfl) (by kernel_rfl) (by kernel_rfl) (e := Extern.BytealgIndexByte.indexByte) (by kernel_rfl), hl]
  simp only [Result.andThen]
  rw [Oper.upon_value]
  go_wp2
  go_ret
  exact ⟨rfl, rfl⟩

theorem index_at (l : List UInt8) (g j cap d : Nat) (w : World) (hr : Row w g l) (hj : j ≤ l.length) (h : Lib.indexByte (l.drop j) 34 = (d : Int)) :
    Calls Try.prog 37 #[.slice (some ⟨g, j, none⟩) (l.length - j) cap, .int .u8 34] w fun e w' => e = .returned (.int .i64 (d : Int)) ∧ w' = w := by
  rw [← h]; exact bytes_index l g j cap w hr hj

theorem ne92 (c : UInt8) (h : c ≠ 92) : ((c.toNat : Int) == 92) = false := by
  cases e : ((c.toNat : Int) == 92) with
  | false => rfl
  | true => exact absurd (u8_eq c 92 (by omega) e) h
theorem eq92 (c : UInt8) (h : c = 92) : ((c.toNat : Int) == 92) = true := by subst h; decide

set_option maxHeartbeats 1000000 in
theorem str_end (l : List UInt8) (g i e : Nat) (w : World) (hl : l.length ≤ 65536) (hr : Row w g l) (hs : StrTo l i e) :
    Calls Try.prog 35 #[.slice (some ⟨g, 0, none⟩) l.length l.length, .int .i64 i] w fun en w' => en = .returned (.int .i64 e) ∧ w' = w := by
  obtain ⟨Q, rfl⟩ : ∃ Q, e = Q + 1 := ⟨e - 1, by have := hs.lt; omega⟩
  have h1 := hs.lt
  have h2 := hs.len
  have HS := hide hs
  have HR := hide hr
  clear hs hr
  go_enter Try.func35, Try.ntmps35
  go_wp2
  go_loop [5] (fun t => ∃ j : Nat, t = .int .i64 j ∧ i < j ∧ j ≤ Q) (fun t => Q - (intOf t).toNat)
  case atStart => exact ⟨i + 1, by go_num, by omega, by omega⟩
  case round =>
    obtain ⟨j, rfl, hj1, hj2⟩ := hrel
    obtain ⟨q, hq1, hq2, hq3, hq4, hq5⟩ := index_from 34 l j Q hj2 (by omega) HS.out.quote
    have HQ := hide hq3
    have HQ4 := hide hq4
    have hrun : bsRun l q + i + 1 ≤ q := bsRun_bound (by rw [HS.out.first]; decide) (by omega)
    clear hq3 hq4 hq5
    have hjl : j ≤ l.length := by omega
    have hjd : (j : Int) + ((q - j : Nat) : Int) = (q : Int) := by omega
    go_wp2_with fail
    refine (index_at l g j _ _ w HR.out hjl HQ.out).mono ?_
    rintro en w' ⟨rfl, rfl⟩
    go_wp2
    go_loop [7] (fun t => ∃ k : Nat, t = .int .i64 k ∧ k ≤ bsRun l q) (fun t => bsRun l q - (intOf t).toNat)
    case atStart => exact ⟨0, rfl, Nat.zero_le _⟩
    case round =>
      obtain ⟨k, rfl, hk⟩ := hrel
      clear hjd HQ
      obtain ⟨m, hm⟩ : ∃ m : Nat, (q : Int) - 1 - (k : Int) = (m : Int) := ⟨q - 1 - k, by omega⟩
      have hml : m < l.length := by omega
      have c0 := HR.out m hml
      have hmq : m = q - 1 - k := by omega
      have HM := hide hmq
      clear hmq
      by_cases hlt : k < bsRun l q
      · have h92 := eq92 _ (HM.out ▸ bsRun_at hlt)
        go_wp2
        go_round
        case rel => exact ⟨k + 1, by go_num, by omega⟩
        case measure => simp [intOf]; omega
      · have hke : k = bsRun l q := by omega
        have h92 := ne92 (bt l m) (by rw [HM.out, hke]; exact bsRun_end (by omega))
        have HK := hide hke
        clear hke
        go_wp2
        · have he : ((k : Int) % 2 == 0) = true := by assumption
          have hq : q = Q := by
            have hin := HS.out.inner q (by omega)
            have hqq := HQ4.out
            have hkk := HK.out
            simp at he
            by_cases c : q < Q
            · have := hin (by simpa using c) hqq; omega
            · omega
          go_ret
          exact ⟨ret_int (by omega), rfl⟩
        · have he : ((k : Int) % 2 == 0) = false := by assumption
          have hq : q < Q := by
            have hev := HS.out.even
            have hkk := HK.out
            simp at he hev
            by_cases c : q = Q
            · subst c; omega
            · omega
          go_round
          case rel => exact ⟨q + 1, by go_num, by omega, by omega⟩
          case measure => simp [intOf]; omega
end Go.Proofs.Qxb6600953a
