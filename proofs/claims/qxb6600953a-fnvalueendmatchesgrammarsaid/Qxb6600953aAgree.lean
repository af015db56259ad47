/- The walk of FnValueEndAgreesWithValidNumber where the text and the place are within their bounds; a slice of bytes that came in, as a text. -/
import Derived.Test.Qxb6600953aPlainEnd
import Derived.OpenShut
namespace Go.Proofs.Qxb6600953a
open Go.RowKit

theorem row_open {w : World} {x : Addr} {len cap : Nat} {zs : List Int} (hpos : 0 < len) (hlc : len ≤ cap) (hz : zs.length = cap)
    (hcell : ∀ i, i < zs.length → w.cell? (x.add i) = some (.int .u8 (zs.getD i 0))) (hwf : ∀ n ∈ zs, (Lit.int .u8 n).wf = true) :
    ∃ (b off : Nat) (l : List UInt8), x = ⟨b, off, none⟩ ∧ l.length = len ∧ b < w.heap.size ∧ ∀ k, k < l.length → w.cell? ⟨b, off + k, none⟩ = some (.int .u8 ((bt l k).toNat : Int)) := by
  obtain ⟨b, off, rfl, hc⟩ := ints_at hcell (by omega)
  refine ⟨b, off, (zs.take len).map fun z => z.toNat.toUInt8, rfl, by simp; omega, ?_, fun k hk => ?_⟩
  · exact World.block_lt_of_cell? w _ (hc 0 (by omega))
  · have hk' : k < zs.length := by simp at hk; omega
    have hk2 : k < len := by simp at hk; omega
    rw [hc k hk']
    have hb := bounds_u8 (hwf (zs[k]) (List.getElem_mem hk'))
    have e : bt ((zs.take len).map fun z => z.toNat.toUInt8) k = (zs[k]).toNat.toUInt8 := by
      simp [bt, hk2, hk']
    rw [e]
    have e2 : zs.getD k 0 = zs[k] := by simp [hk']
    rw [e2]
    congr 2
    simp
    omega

set_option maxHeartbeats 2000000 in
theorem agree_in (l : List UInt8) (b off cap i : Nat) (w : World) (hl : l.length ≤ 65536) (hi : i < l.length) (hb : b < w.heap.size)
    (hc : ∀ k, k < l.length → w.cell? ⟨b, off + k, none⟩ = some (.int .u8 ((bt l k).toNat : Int))) :
    Calls Try.prog 8 #[.slice (some ⟨b, off, none⟩) l.length cap, .int .i64 i] w fun e w' => e = .returned (.bool true) ∧ Below w.heap.size w w' := by
  have HC := hide hc
  clear hc
  have k1 : ¬ (1048576 : Int) < (l.length : Int) := by omega
  have k2 : ¬ (65536 : Int) < (l.length : Int) := by omega
  have k3 : ¬ (l.length : Int) ≤ (i : Int) := by omega
  go_enter Try.func8, Try.ntmps8
  go_wp2_with (go_at_call 22; go_in)
  refine (copy_any l b off cap w (by omega) hb HC.out).mono ?_
  rintro e w1 ⟨rfl, hrow, hbel, hsz⟩
  have HW := hide hrow
  clear hrow
  go_wp2_with fail
  refine (zz_valid l w.heap.size l.length i w1 hl hi HW.out).mono ?_
  rintro e w2 ⟨r, rfl, rfl, hd⟩
  rcases hd with rfl | ⟨m, rfl, him, hn⟩
  · go_wp2
    go_ret
    exact ⟨rfl, hbel⟩
  · have hlen := hn.len
    have c0 := num_first _ (hn.all i (Nat.le_refl _) him)
    have HN := hide hn
    have H0 := hide c0
    clear hn c0
    by_cases hm : m < l.length
    · have c1 := HW.out m hm
      have hm' : (m : Int) < (l.length : Int) := by omega
      cases he : endsB (bt l m)
      · go_wp2_with (go_at_call 20; refine (follows_any _ _).mono ?_; rintro e w' ⟨rfl, rfl⟩)
        go_ret
        exact ⟨rfl, hbel⟩
      · go_wp2_with (go_at_call 20; refine (follows_any _ _).mono ?_; rintro e w' ⟨rfl, rfl⟩)
        refine (zz_plain_end l w.heap.size l.length i m _ hl hi HW.out H0.out.1 H0.out.2.1 H0.out.2.2 (Ended.of_num HN.out him (Or.inr ⟨hm, he⟩))).mono ?_
        rintro e w' ⟨rfl, rfl⟩
        go_wp2
        go_ret
        exact ⟨rfl, hbel⟩
    · have hm' : ¬ (m : Int) < (l.length : Int) := by omega
      go_wp2_with fail
      refine (zz_plain_end l w.heap.size l.length i m _ hl hi HW.out H0.out.1 H0.out.2.1 H0.out.2.2 (Ended.of_num HN.out him (Or.inl (by omega)))).mono ?_
      rintro e w' ⟨rfl, rfl⟩
      go_wp2
      go_ret
      exact ⟨rfl, hbel⟩
end Go.Proofs.Qxb6600953a
