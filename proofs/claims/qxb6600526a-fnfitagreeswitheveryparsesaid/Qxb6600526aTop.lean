/- FnFitAgreesWithEveryParse: it answers true. -/
import Derived.Test.Qxb6600526aModel
import Derived.Test.Qxb6600526aZZFit
namespace Go.Proofs.Qxb6600526a
open Go.RowKit Plain

theorem Sl.keep {w w' : World} {a : Option Addr} {n : Nat} {f : Nat → Value} (h : Sl w a n f) (b : Below w.heap.size w w') : Sl w' a n f :=
  ⟨fun hn => by
    obtain ⟨g, o, e, hg, hc⟩ := h.at' hn
    exact ⟨g, o, e, Nat.lt_of_lt_of_le hg b.size, fun k hk => (b.cell (p := ⟨g, o + k, none⟩) hg).trans (hc k hk)⟩⟩

theorem join {w w1 w2 : World} (a : Below w.heap.size w w1) (b : Below w1.heap.size w1 w2) : Below w.heap.size w w2 :=
  a.trans (b.mono a.size)

theorem chain_of {T : Nat → ByteArray} {R : Nat → Bool} {E : Nat → ByteArray} {n : Nat} (h : ∀ i, i < n → PartOk T R E n i) : Chain (bl T) (bl E) R n :=
  fun i hi hr hlt => by
    obtain ⟨_, h2⟩ := h i hi hr
    obtain ⟨h3, h4, h5⟩ := h2 hlt
    refine ⟨h3, (T (i + 1))[0], (bl T (i + 1)).tail, ?_, h5⟩
    have hz : (bl T (i + 1))[0]? = some ((T (i + 1))[0]) := by
      unfold bl; exact data_at _ 0 h4
    cases hb : bl T (i + 1) with
    | nil => rw [hb] at hz; simp at hz
    | cons c t => rw [hb] at hz; simp at hz; simp [hz]

set_option maxHeartbeats 2000000 in
set_option maxRecDepth 100000 in
theorem top_shaped (T : Nat → ByteArray) (R : Nat → Bool) (E : Nat → ByteArray) (Ls : Nat → Int) (a0 a1 a2 a3 : Option Addr) (n0 n1 n2 n3 c0 c1 c2 c3 : Nat) (name : ByteArray) (w : World)
    (hn : n0 ≤ 9223372036854775807 ∧ n1 ≤ 9223372036854775807 ∧ n2 ≤ 9223372036854775807 ∧ n3 ≤ 9223372036854775807 ∧ name.size ≤ 9223372036854775807)
    (e0 : a0 = none → n0 = 0) (e1 : a1 = none → n1 = 0) (e2 : a2 = none → n2 = 0) (e3 : a3 = none → n3 = 0)
    (h0 : Sl w a0 n0 (fun k => .string (T k))) (h1 : Sl w a1 n1 (fun k => .bool (R k))) (h2 : Sl w a2 n2 (fun k => .string (E k))) (h3 : Sl w a3 n3 (fun k => .int .i64 (Ls k))) :
    Calls Try.prog 6 #[.slice a0 n0 c0, .slice a1 n1 c1, .slice a2 n2 c2, .slice a3 n3 c3, .string name] w fun e w' => e = .returned (.bool true) ∧ Below w.heap.size w w' := by
  have HB : Below w.heap.size w w := Below.refl _ _
  have HN := hide hn
  have HE0 := hide e0
  have HE1 := hide e1
  have HE2 := hide e2
  have HE3 := hide e3
  clear hn e0 e1 e2 e3
  go_enter Try.func6, Try.ntmps6
  go_wp2_with fail
  refine (zzBytes_any T E a0 a1 a2 a3 n0 c0 n1 c1 n2 c2 n3 c3 name w HN.out h0 h2).mono ?_
  rintro e w' ⟨hs, rfl⟩
  obtain ⟨b, rfl, -⟩ := hs
  cases b
  · go_wp2_with fail
    go_ret
    exact ⟨rfl, HB⟩
  go_wp2_with fail
  refine (fitBytes_any T E a0 a1 a2 a3 n0 c0 n1 c1 n2 c2 n3 c3 name _ h0 h2).mono ?_
  rintro e w' ⟨hs, rfl⟩
  obtain ⟨r, rfl, hr⟩ := hs
  have HFb := hide hr
  clear hr
  by_cases hbig : (1048576 : Int) < r
  · go_wp2_with fail
    go_ret
    exact ⟨rfl, HB⟩
  have hfb : n0 ≤ 4096 ∧ n1 ≤ 4096 ∧ n2 ≤ 4096 ∧ n3 ≤ 4096 ∧ name.size ≤ 4096 ∧ (∀ k, k < n0 → (T k).size ≤ 1048576) ∧ ∀ k, k < n2 → (E k).size ≤ 1048576 := HFb.out.resolve_left hbig
  obtain ⟨m0, m1, m2, m3, m4, hT, hE⟩ := hfb
  have HT := hide hT
  have HE := hide hE
  clear hT hE HFb
  go_wp2_with fail
  refine (shaped_any T R E a0 a1 a2 a3 n0 n1 n2 n3 c0 c1 c2 c3 _ m0 HT.out HE.out h0 h1 h2).mono ?_
  rintro e w' ⟨hs, rfl⟩
  obtain ⟨b, rfl, hsh⟩ := hs
  cases b
  · clear hsh
    go_wp2_with fail
    go_ret
    exact ⟨rfl, HB⟩
  obtain ⟨g1, g2, g3, hpo⟩ := hsh rfl
  subst g1; subst g2; subst g3
  have HCh := hide (chain_of hpo)
  have HA : Hid (∀ k, k < n3 → R k = true → ∀ (j : Nat) (h : j < (E k).size), ((E k)[j]).toNat < 128) := fun k hk hr => (hpo k hk hr).1
  clear hpo hsh
  go_wp2_with fail
  refine (cloneStrings T n3 c0 a0 _ (by omega) HE0.out h0).mono ?_
  rintro e w1 ⟨hs, hb1⟩
  obtain ⟨x0, d0, rfl, s0, t0⟩ := hs
  replace h1 := h1.keep hb1
  replace h2 := h2.keep hb1
  replace h3 := h3.keep hb1
  have B1 := join HB hb1
  clear h0 hb1 HB t0
  go_wp2_with fail
  refine (cloneBools R n3 c1 a1 _ (by omega) HE1.out h1).mono ?_
  rintro e w2 ⟨hs, hb1⟩
  obtain ⟨x1, d1, rfl, s1, t1⟩ := hs
  replace h2 := h2.keep hb1
  replace h3 := h3.keep hb1
  replace s0 := s0.keep hb1
  have B2 := join B1 hb1
  clear h1 hb1 B1 t1
  go_wp2_with fail
  refine (cloneStrings E n3 c2 a2 _ (by omega) HE2.out h2).mono ?_
  rintro e w3 ⟨hs, hb1⟩
  obtain ⟨x2, d2, rfl, s2, t2⟩ := hs
  replace h3 := h3.keep hb1
  replace s0 := s0.keep hb1
  replace s1 := s1.keep hb1
  have B3 := join B2 hb1
  clear h2 hb1 B2 t2
  go_wp2_with fail
  refine (cloneInts Ls n3 c3 a3 _ (by omega) HE3.out h3).mono ?_
  rintro e w4 ⟨hs, hb1⟩
  obtain ⟨x3, d3, rfl, s3, t3⟩ := hs
  replace s0 := s0.keep hb1
  replace s1 := s1.keep hb1
  replace s2 := s2.keep hb1
  have B4 := join B3 hb1
  clear h3 hb1 B3 t3
  go_wp2_with fail
  refine (zzfit_any T R E Ls n3 d0 d1 d2 d3 x0 x1 x2 x3 name _ m0 m4 s0 s1 s2 s3 HT.out HE.out HA.out).mono ?_
  rintro e w5 ⟨hs, hb1⟩
  obtain rfl := hs
  replace s0 := s0.keep hb1
  replace s1 := s1.keep hb1
  replace s2 := s2.keep hb1
  replace s3 := s3.keep hb1
  have B5 := join B4 hb1
  clear hb1 B4
  obtain ⟨⟨r1, r2⟩, hres⟩ : ∃ r, fitK (bl T) (bl E) R Ls n3 0 name.data.toList = r := ⟨_, rfl⟩
  rw [hres]
  have HRes := hide hres
  clear hres
  go_wp2_with fail
  refine (model_any T R E Ls n3 d0 d1 d2 d3 x0 x1 x2 x3 name _ m0 m4 s0 s1 s2 s3 HT.out HE.out HCh.out).mono ?_
  rintro e w6 ⟨hs, hb1⟩
  rw [HRes.out] at hs
  obtain rfl := hs
  have B6 := join B5 hb1
  clear hb1 B5 HRes
  go_wp2_with fail
  go_ret
  exact ⟨by simp, B6⟩
end Go.Proofs.Qxb6600526a
