/- fitModel: it answers what fitK answers. -/
import Derived.Test.Qxb6600526aMem
import Derived.Test.Qxb6600526aFit
import Derived.Deep.DeepCutAuto
import Derived.Deep.CutBlock
namespace Go.Proofs.Qxb6600526a
open Go.RowKit Plain

/-- What holds at the head of each part. -/
structure Hd (T : Nat → ByteArray) (R : Nat → Bool) (E : Nat → ByteArray) (Ls : Nat → Int) (n : Nat) (name : ByteArray) (w wr : World) (i bc bn : Nat) (cur nx : Nat → Bool) (ct : Nat → Int) (bg : Bool) : Prop where
  mem : Md name.size w wr bc bn (w.heap.size + 1 + 1) cur nx ct
  sync : Sync (bl T) (bl E) R Ls n name.data.toList (n - i) i cur bg (fitK (bl T) (bl E) R Ls n 0 name.data.toList)
  low : ∀ q, cur q = true → q ≤ name.size
  lowN : ∀ q, nx q = true → q ≤ name.size

set_option maxHeartbeats 4000000 in
set_option maxRecDepth 1000000 in
theorem model_any (T : Nat → ByteArray) (R : Nat → Bool) (E : Nat → ByteArray) (Ls : Nat → Int) (n c0 c1 c2 c3 : Nat) (a0 a1 a2 a3 : Option Addr) (name : ByteArray) (w : World) (hn : n ≤ 4096) (hname : name.size ≤ 4096)
    (h0 : Sl w a0 n (fun k => .string (T k))) (h1 : Sl w a1 n (fun k => .bool (R k))) (h2 : Sl w a2 n (fun k => .string (E k))) (h3 : Sl w a3 n (fun k => .int .i64 (Ls k)))
    (hT : ∀ k, k < n → (T k).size ≤ 1048576) (hE : ∀ k, k < n → (E k).size ≤ 1048576) (hch : Chain (bl T) (bl E) R n) :
    Calls Try.prog 24 #[.slice a0 n c0, .slice a1 n c1, .slice a2 n c2, .slice a3 n c3, .string name] w fun e w' =>
      Says2 (fitK (bl T) (bl E) R Ls n 0 name.data.toList) e ∧ Below w.heap.size w w' := by
  have HTs := hide hT
  have HEs := hide hE
  have HCh := hide hch
  clear hT hE hch
  have hm1 := makeBools (name.size + 1) (by omega)
  have hm2 := makeInts (name.size + 2) (by omega)
  have z1 : ((name.size + 1 : Nat) : Int) = (name.size : Int) + 1 := by omega
  have z2 : ((name.size + 2 : Nat) : Int) = (name.size : Int) + 2 := by omega
  rw [z1] at hm1
  rw [z2] at hm2
  clear z1 z2
  have hA : ∀ k, k ≤ name.size → ((madeCells (Value.bool false).cells (name.size + 1)).setIfInBounds 0 (.bool true))[k]? = some (.bool (k == 0)) := fun k hk => by
    have := made_bool (name.size + 1) k (by omega)
    by_cases e : k = 0
    · subst e; simp [size_madeCells]
    · rw [Array.getElem?_setIfInBounds_ne (by omega), this]; simp [e]
  have hB : ∀ k, k ≤ name.size → (madeCells (Value.bool false).cells (name.size + 1))[k]? = some (.bool false) := fun k hk => made_bool _ k (by omega)
  have hK : ∀ k, k ≤ name.size + 1 → (madeCells (Value.int .i64 0).cells (name.size + 2))[k]? = some (.int .i64 0) := fun k hk => made_int _ k (by omega)
  have hB0 := hB 0 (by omega)
  have HS := hide (Md.start name.size w _ _ _ hA hB hK)
  obtain ⟨A, hAe⟩ : ∃ A, madeCells (Value.bool false).cells (name.size + 1) = A := ⟨_, rfl⟩
  obtain ⟨K, hKe⟩ : ∃ K, madeCells (Value.int .i64 0).cells (name.size + 2) = K := ⟨_, rfl⟩
  rw [hAe] at hm1 HS hB0
  rw [hKe] at hm2 HS
  clear hA hB hK hAe hKe
  go_enter Try.func24, Try.ntmps24
  go_wp2
  clear hm1 hm2 hB0
  go_loopw [13, 14, 16, 17] (fun s13 s14 s16 s17 wr => ∃ (i bc bn : Nat) (cur nx : Nat → Bool) (ct : Nat → Int) (bg : Bool), s13 = .slice (some ⟨bc, 0, none⟩) (name.size + 1) (name.size + 1) ∧ s14 = .slice (some ⟨bn, 0, none⟩) (name.size + 1) (name.size + 1) ∧ s16 = .bool bg ∧ s17 = .int .i64 i ∧ i ≤ n ∧ Hd T R E Ls n name w wr i bc bn cur nx ct bg) (fun _ _ _ t _ => n - (intOf t).toNat)
  case atStart => exact ⟨0, _, _, _, _, _, false, rfl, rfl, rfl, rfl, Nat.zero_le _, HS.out, sync_start, fun q h => by simp at h; omega, fun q h => by cases h⟩
  case round =>
    obtain ⟨i, bc, bn, cur, nx, ct, bg, rfl, rfl, rfl, rfl, hi, hd⟩ := hrel
    clear HS
    by_cases hlt : (i : Int) < (n : Int)
    · have hlt' : i < n := by omega
      obtain ⟨g0, o0, rfl, hb0, hc0⟩ := h0.at' (by omega)
      obtain ⟨g1, o1, rfl, hb1, hc1⟩ := h1.at' (by omega)
      obtain ⟨g2, o2, rfl, hb2, hc2⟩ := h2.at' (by omega)
      obtain ⟨g3, o3, rfl, hb3, hc3⟩ := h3.at' (by omega)
      have HQ0 := hide (hc0 i hlt')
      have HQ1 := hide (hc1 i hlt')
      have HQ2 := hide (hc2 i hlt')
      have HQ3 := hide (hc3 i hlt')
      clear hc0 hc1 hc2 hc3 h0 h1 h2 h3
      go_wp2
      obtain ⟨wo, hwo⟩ : ∃ wo : World, wo = wr := ⟨_, rfl⟩
      go_loopw [18] (fun t wx => ∃ (p : Nat) (nx' : Nat → Bool), t = .int .i64 p ∧ p ≤ name.size + 1 ∧ Md name.size w wx bc bn (w.heap.size + 1 + 1) cur nx' ct ∧ Hid (∀ q, q < p → nx' q = false) ∧ Hid (∀ q, nx' q = true → q ≤ name.size)) (fun t _ => name.size + 1 - (intOf t).toNat)
      case atStart => exact ⟨0, nx, rfl, Nat.zero_le _, hd.mem, fun q h => by omega, hd.lowN⟩
      case round =>
        obtain ⟨p, nx', rfl, hp, hm, HZ, HL⟩ := hrel
        by_cases hlp : (p : Int) ≤ (name.size : Int)
        · have hp' : p ≤ name.size := by omega
          have q1 := hm.cellN p hp'
          have q2 := hm.fzN p
          have hpl : (p : Int) < (name.size : Int) + 1 := by omega
          go_wp2
          go_roundw
          case rel => exact ⟨p + 1, _, by go_num, by omega, hm.setN p hp' false, fun q hq => by
                              by_cases e : q = p
                              · subst e; rw [upd_same]
                              · rw [upd_other _ _ _ _ e]; exact HZ.out q (by omega), fun q hq => by
                              by_cases e : q = p
                              · omega
                              · rw [upd_other _ _ _ _ e] at hq; exact HL.out q hq⟩
          case measure => simp [intOf]; omega
        · have HF : Hid (∀ q, nx' q = false) := fun q => by
            cases h : nx' q with
            | false => rfl
            | true => have h2 := HL.out q h; rw [HZ.out q (by omega)] at h; cases h
          have r1 := (hm.below.cell (p := ⟨g1, o1 + i, none⟩) hb1).trans HQ1.out
          have HD := hide hd
          clear HZ HL hd
          cases hR : R i
          · rw [hR] at r1
            have HR := hide hR
            clear hR
            have r0 := (hm.below.cell (p := ⟨g0, o0 + i, none⟩) hb0).trans HQ0.out
            have hTi := HTs.out i hlt'
            go_wp2
            go_loopw [16, 20] (fun s16 t wx => ∃ (p : Nat) (nx2 : Nat → Bool) (b2 : Bool), t = .int .i64 p ∧ p ≤ name.size + 1 ∧ s16 = .bool (bg || b2) ∧ Md name.size w wx bc bn (w.heap.size + 1 + 1) cur nx2 ct ∧ TextUp name.data.toList (bl T i) cur nx2 b2 p ∧ Hid (∀ q, nx2 q = true → q ≤ name.size)) (fun _ t _ => name.size + 1 - (intOf t).toNat)
            case atStart => exact ⟨0, nx', false, rfl, Nat.zero_le _, by simp, hm, TextUp.start (fun q _ => HF.out q), fun q h => by rw [HF.out q] at h; cases h⟩
            case round =>
              obtain ⟨p3, nx2, b2, rfl, hp3, rfl, hm3, htu, HL3⟩ := hrel
              clear r0 r1 hm
              have hnl : name.data.toList.length = name.size := by simp
              by_cases hl3 : (p3 : Int) ≤ (name.size : Int)
              · have hp3' : p3 ≤ name.size := by omega
                have q1 := hm3.cellC p3 hp3'
                have hpl : (p3 : Int) < (name.size : Int) + 1 := by omega
                cases hcp : cur p3
                · rw [hcp] at q1
                  have HN := hide (htu.skip hcp)
                  clear hcp hnl htu
                  go_wp2
                  go_roundw
                  case rel => exact ⟨p3 + 1, nx2, b2, by go_num, by omega, rfl, hm3, HN.out, HL3⟩
                  case measure => simp [intOf]; omega
                · rw [hcp] at q1
                  have hdrop : (name.extract p3 name.size).data.toList = name.data.toList.drop p3 := extract_drop name p3
                  have hesz : (name.extract p3 name.size).size ≤ 1048576 := by simp; omega
                  have hbt : (bl T i).length = (T i).size := by unfold bl; simp
                  by_cases hsh : (name.size : Int) - (p3 : Int) < ((T i).size : Int)
                  · have hs2 := htu.short hcp (by omega) (by omega)
                    have HN := hide hs2
                    clear hcp hnl htu hs2
                    go_wp2_with fail
                    refine (starts_any (T i) (name.extract p3 name.size) _ hTi hesz).mono ?_
                    rintro e w' ⟨rfl, nq, rfl⟩
                    cases hpf : pfx (name.extract p3 name.size).data.toList (T i).data.toList
                    · have he : (name.data.toList.drop p3).isPrefixOf (bl T i) = false := by rw [← hdrop]; exact hpf
                      have hn2 := HN.out
                      rw [he, Bool.or_false] at hn2
                      have HN2 := hide hn2
                      clear he hn2 hdrop hpf
                      go_wp2
                      go_roundw
                      case rel => exact ⟨p3 + 1, nx2, b2, by go_num, by omega, rfl, hm3.drewN nq, HN2.out, HL3⟩
                      case measure => simp [intOf]; omega
                    · have he : (name.data.toList.drop p3).isPrefixOf (bl T i) = true := by rw [← hdrop]; exact hpf
                      have hn2 := HN.out
                      rw [he, Bool.or_true] at hn2
                      have HN2 := hide hn2
                      clear he hn2 hdrop hpf
                      go_wp2
                      go_roundw
                      case rel => exact ⟨p3 + 1, nx2, true, by go_num, by omega, by simp, hm3.drewN nq, HN2.out, HL3⟩
                      case measure => simp [intOf]; omega
                  · have hns : ¬ name.data.toList.length - p3 < (bl T i).length := by omega
                    have HTU := hide htu
                    have HCP := hide hcp
                    have hlp3 : p3 ≤ name.data.toList.length := by omega
                    clear htu hcp
                    go_wp2_with fail
                    refine (starts_any (name.extract p3 name.size) (T i) _ hesz hTi).mono ?_
                    rintro e w' ⟨rfl, nq, rfl⟩
                    cases hpf : pfx (T i).data.toList (name.extract p3 name.size).data.toList
                    · have he : (bl T i).isPrefixOf (name.data.toList.drop p3) = false := by rw [← hdrop]; exact hpf
                      have HN2 := hide (HTU.out.miss hns he)
                      clear he hdrop hpf hnl hns hbt hlp3
                      go_wp2
                      go_roundw
                      case rel => exact ⟨p3 + 1, nx2, b2, by go_num, by omega, rfl, hm3.drewN nq, HN2.out, HL3⟩
                      case measure => simp [intOf]; omega
                    · have he : (bl T i).isPrefixOf (name.data.toList.drop p3) = true := by rw [← hdrop]; exact hpf
                      have hh := HTU.out.hit HCP.out hlp3 hns he
                      rw [hbt] at hh
                      have HN2 := hide hh
                      have hq1 := hm3.cellN (p3 + (T i).size) (by omega)
                      have hq2 := hm3.fzN (p3 + (T i).size)
                      have hq3 : (p3 : Int) + ((T i).size : Int) < (name.size : Int) + 1 := by omega
                      clear he hdrop hpf hnl hns hbt hlp3 hh
                      go_wp2
                      go_roundw
                      case rel => exact ⟨p3 + 1, _, b2, by go_num, by omega, rfl, (hm3.drewN nq).setN (p3 + (T i).size) (by omega) true, HN2.out, fun q hq => by
                                          by_cases e : q = p3 + (T i).size
                                          · omega
                                          · rw [upd_other _ _ _ _ e] at hq; exact HL3.out q hq⟩
                      case measure => simp [intOf]; omega
              · have hts := htu.done (by omega)
                obtain ⟨m, hm4⟩ : ∃ m, n - i = m + 1 := ⟨n - i - 1, by omega⟩
                have hsy := HD.out.sync
                rw [hm4] at hsy
                have hsy2 := sync_text HR.out hlt' hsy hts
                rw [show m = n - (i + 1) from by omega] at hsy2
                have HSy := hide hsy2
                clear hsy hsy2 hts htu hnl hm4
                go_wp2
                go_roundw
                case rel => exact ⟨i + 1, bn, bc, nx2, cur, ct, _, rfl, rfl, rfl, by go_num, by omega, hm3.swap, HSy.out, HL3.out, HD.out.low⟩
                case measure => simp [intOf]; omega
          · rw [hR] at r1
            have HR := hide hR
            clear hR
            have r2 := (hm.below.cell (p := ⟨g2, o2 + i, none⟩) hb2).trans HQ2.out
            have r3 := (hm.below.cell (p := ⟨g3, o3 + i, none⟩) hb3).trans HQ3.out
            have hEi := HEs.out i hlt'
            go_upto_if 102 with (fail)
            go_cut [21] (fun t wx => Hid (wx = wr) ∧ t = .int .i64 ((Ls i).toNat : Int))
            case first =>
              by_cases hneg : Ls i < 0
              · have h0l : (Ls i).toNat = 0 := by omega
                have H0L := hide h0l
                clear h0l
                go_wp2_with fail
                go_meet
                case rel => exact ⟨rfl, by rw [H0L.out]; rfl⟩
              · have h0l : ((Ls i).toNat : Int) = Ls i := by omega
                have H0L := hide h0l
                clear h0l
                go_wp2_with fail
                go_meet
                case rel => exact ⟨rfl, by rw [H0L.out]⟩
            case rest =>
              obtain ⟨hw, rfl⟩ := hcut
              have hw2 := hw.out
              subst hw2
              clear hw
              obtain ⟨l, hl⟩ : ∃ l, (Ls i).toNat = l := ⟨_, rfl⟩
              rw [hl]
              have HLl := hide hl
              clear hl r3
              have k0 := hm.cellK 0 (by omega)
              have k1 := hm.fzK 0
              have hm0 := hm.setK 0 (by omega) 0
              have HM0 := hide hm0
              clear hm0
              have HNl : Hid (name.data.toList.length = name.size) := by unfold Hid; simp
              go_wp2
              go_loopw [23] (fun t wx => ∃ (p : Nat) (ct2 : Nat → Int), t = .int .i64 p ∧ p ≤ name.size + 1 ∧ Md name.size w wx bc bn (w.heap.size + 1 + 1) cur nx' ct2 ∧ Hid (∀ k, k ≤ p → ct2 k = (cntf cur k : Int))) (fun t _ => name.size + 1 - (intOf t).toNat)
              case atStart => exact ⟨0, _, rfl, Nat.zero_le _, HM0.out, fun k hk => by
                                obtain rfl : k = 0 := by omega
                                rw [updI_same]; rfl⟩
              case round =>
                obtain ⟨p4, ct2, rfl, hp4, hm4, HCt⟩ := hrel
                clear k0 k1 r1 r2 HM0 hm
                by_cases hl4 : (p4 : Int) ≤ (name.size : Int)
                · have hp4' : p4 ≤ name.size := by omega
                  have j0 := hm4.cellK p4 (by omega)
                  have j1 := hm4.cellK (p4 + 1) (by omega)
                  have j2 := hm4.fzK (p4 + 1)
                  have j3 := hm4.cellC p4 hp4'
                  rw [HCt.out p4 (Nat.le_refl _)] at j0
                  have hcl := cntf_le cur p4
                  have hs := cntf_succ cur p4
                  have hpl : (p4 : Int) < (name.size : Int) + 2 := by omega
                  have hpl2 : (p4 : Int) + 1 < (name.size : Int) + 2 := by omega
                  have hpl3 : (p4 : Int) < (name.size : Int) + 1 := by omega
                  obtain ⟨c, hc⟩ : ∃ c, cntf cur p4 = c := ⟨_, rfl⟩
                  rw [hc] at j0 hcl hs
                  have HCc := hide hc
                  clear hc
                  cases hcp : cur p4
                  · rw [hcp] at j3 hs
                    have HSu := hide hs
                    clear hs hcp
                    go_wp2
                    go_roundw
                    case rel => exact ⟨p4 + 1, _, by go_num, by omega, hm4.setK (p4 + 1) (by omega) c, fun k hk => by
                                        by_cases e : k = p4 + 1
                                        · subst e; rw [updI_same, HSu.out]; simp
                                        · rw [updI_other _ _ _ _ e]; exact HCt.out k (by omega)⟩
                    case measure => simp [intOf]; omega
                  · rw [hcp] at j3 hs
                    have HSu := hide hs
                    clear hs hcp
                    go_wp2
                    go_roundw
                    case rel => exact ⟨p4 + 1, _, by go_num, by omega, (hm4.setK (p4 + 1) (by omega) c).setK (p4 + 1) (by omega) ((c : Int) + 1), fun k hk => by
                                        by_cases e : k = p4 + 1
                                        · subst e; rw [updI_same, HSu.out]; simp
                                        · rw [updI_other _ _ _ _ e, updI_other _ _ _ _ e]; exact HCt.out k (by omega)⟩
                    case measure => simp [intOf]; omega
                · have HC2 : Hid (∀ k, k ≤ name.size + 1 → ct2 k = (cntf cur k : Int)) := fun k hk => HCt.out k (by omega)
                  clear HCt
                  go_wp2
                  go_loopw [24, 25] (fun s24 t wx => ∃ (e : Nat) (nx2 : Nat → Bool) (la : Int), t = .int .i64 e ∧ s24 = .int .i64 la ∧ e ≤ name.size + 1 ∧ Md name.size w wx bc bn (w.heap.size + 1 + 1) cur nx2 ct2 ∧ LX name.data.toList (bl E i) la (e - 1) ∧ RunUp name.data.toList (bl E i) l cur nx2 e ∧ Hid (∀ q, nx2 q = true → q ≤ name.size)) (fun _ t _ => name.size + 1 - (intOf t).toNat)
                  case atStart => exact ⟨0, nx', -1, rfl, rfl, Nat.zero_le _, hm4, LX.start _ _, RunUp.start (fun q _ => HF.out q), fun q h => by rw [HF.out q] at h; cases h⟩
                  case round =>
                    obtain ⟨e, nx2, la, rfl, rfl, he, hm5, hlx, hru, HL5⟩ := hrel
                    clear hm4 HF
                    by_cases hl5 : (e : Int) ≤ (name.size : Int)
                    · have he' : e ≤ name.size := by omega
                      go_upto_region 40 with (fail)
                      go_cut [147] (fun s147 wx => Hid (wx = wr) ∧ ∃ b : Bool, s147 = .bool b ∧ Hid (LX name.data.toList (bl E i) (if b then (e : Int) - 1 else la) e))
                      case first =>
                        clear hru HL5 HC2 hm5
                        by_cases hz : (0 : Int) < (e : Int)
                        · obtain ⟨m5, hE5⟩ : ∃ m5 : Nat, e = m5 + 1 := ⟨e - 1, by omega⟩
                          have hE6 : (e : Int) - 1 = (m5 : Int) := by omega
                          have hm6 : m5 < name.size := by omega
                          have hm7 : (m5 : Int) < (name.size : Int) := by omega
                          obtain ⟨x, hx⟩ : ∃ x, name[m5] = x := ⟨_, rfl⟩
                          have hxi : xin name.data.toList (bl E i) m5 = hasB (E i).data.toList x := by
                            unfold xin hasB bl; rw [getD_at name m5 hm6, hx]
                          have hlx2 : LX name.data.toList (bl E i) la m5 := by rw [hE5] at hlx; simpa using hlx
                          have HLX : Hid (LX name.data.toList (bl E i) (if hasB (E i).data.toList x then (e : Int) - 1 else la) e) := by
                            unfold Hid
                            cases hh : hasB (E i).data.toList x
                            · rw [hE5]; exact hlx2.no (hxi.trans hh)
                            · rw [hE6, hE5]; exact hlx2.yes (hxi.trans hh)
                          clear hlx hlx2 hxi hE5
                          obtain ⟨hb, hhb⟩ : ∃ hb, hasB (E i).data.toList x = hb := ⟨_, rfl⟩
                          rw [hhb] at HLX
                          go_wp2_with (go_at_call 32; refine (byteIn_any _ _ _ hEi).mono ?_; rintro e2 w' ⟨rfl, rfl⟩)
                          go_meet
                          case rel => exact ⟨rfl, hb, rfl, HLX⟩
                        · have HLX : Hid (LX name.data.toList (bl E i) (if false then (e : Int) - 1 else la) e) := by
                            unfold Hid; rw [show e = e - 1 from by omega]; exact hlx
                          clear hlx
                          go_wp2_with fail
                          go_meet
                          case rel => exact ⟨rfl, false, rfl, HLX⟩
                      case rest =>
                      obtain ⟨hw, b5, rfl, HL6⟩ := hcut
                      have hw2 := hw.out.symm
                      subst hw2
                      clear hw hlx
                      go_upto_if 147 with (fail)
                      go_cut [24] (fun s24 wx => Hid (wx = wr) ∧ ∃ la2, s24 = .int .i64 la2 ∧ LX name.data.toList (bl E i) la2 e)
                      case first =>
                        clear hru HL5 HC2 hm5
                        cases b5
                        · go_wp2_with fail
                          go_meet
                          case rel => exact ⟨rfl, la, rfl, HL6.out⟩
                        · go_wp2_with fail
                          go_meet
                          case rel => exact ⟨rfl, (e : Int) - 1, rfl, HL6.out⟩
                      case rest =>
                        obtain ⟨hw, la2, rfl, hlx2⟩ := hcut
                        have hw2 := hw.out.symm
                        subst hw2
                        clear hw HL6
                        have HLX : Hid (LX name.data.toList (bl E i) la2 (e + 1 - 1)) := by unfold Hid; simpa using hlx2
                        have HM5 := hide hm5
                        by_cases hel : (e : Int) < (l : Int)
                        · have HN := hide (hru.no (runNx_short (by omega)))
                          clear hlx2 hru hm5
                          go_wp2
                          go_roundw
                          case rel => exact ⟨e + 1, nx2, la2, by go_num, rfl, by omega, HM5.out, HLX.out, HN.out, HL5⟩
                          case measure => simp [intOf]; omega
                        · have x1 := hlx2.ge
                          have x2 := hlx2.lt
                          obtain ⟨lo, hlo⟩ : ∃ lo : Nat, (lo : Int) = la2 + 1 := ⟨(la2 + 1).toNat, by omega⟩
                          have hlo2 : la2 + 1 = (lo : Int) := hlo.symm
                          obtain ⟨h, hh⟩ : ∃ h : Nat, e - l = h := ⟨_, rfl⟩
                          have hh2 : (e : Int) - (l : Int) = (h : Int) := by omega
                          by_cases hlh : (lo : Int) ≤ (h : Int)
                          · have hcount := runNx_count (cur := cur) hlx2 hlo (l := l) (by omega) (by omega)
                            rw [hh] at hcount
                            have y1 := hm5.cellK (h + 1) (by omega)
                            have y2 := hm5.cellK lo (by omega)
                            rw [HC2.out _ (by omega)] at y1 y2
                            have y3 : (h : Int) + 1 < (name.size : Int) + 2 := by omega
                            have y4 : (lo : Int) < (name.size : Int) + 2 := by omega
                            have b1 := cntf_le cur (h + 1)
                            have b2 := cntf_le cur lo
                            obtain ⟨ca, hca⟩ : ∃ c, cntf cur (h + 1) = c := ⟨_, rfl⟩
                            obtain ⟨cb, hcb⟩ : ∃ c, cntf cur lo = c := ⟨_, rfl⟩
                            rw [hca] at y1 b1 hcount
                            rw [hcb] at y2 b2 hcount
                            clear hca hcb
                            have hbk := hm5.hk
                            by_cases hpos : (0 : Int) < (ca : Int) - (cb : Int)
                            · have HN := hide (hru.yes (hcount.2 (by omega)))
                              have q1 := hm5.cellN e he'
                              have q2 := hm5.fzN e
                              have q3 : (e : Int) < (name.size : Int) + 1 := by omega
                              clear hcount hlx2 hru hlo hh hm5
                              go_wp2
                              go_quiet (fail)
                              go_wp2
                              go_roundw
                              case rel => exact ⟨e + 1, _, la2, by go_num, rfl, by omega, (HM5.out.drewN _).setN e he' true, HLX.out, HN.out, fun q hq => by
                                                  by_cases e2 : q = e
                                                  · omega
                                                  · rw [upd_other _ _ _ _ e2] at hq; exact HL5.out q hq⟩
                              case measure => simp [intOf]; omega
                            · have HN := hide (hru.no (fun hr => by have := hcount.1 hr; omega))
                              clear hcount hlx2 hru hlo hh hm5
                              go_wp2
                              go_quiet (fail)
                              go_wp2
                              go_roundw
                              case rel => exact ⟨e + 1, nx2, la2, by go_num, rfl, by omega, HM5.out.drewN _, HLX.out, HN.out, HL5⟩
                              case measure => simp [intOf]; omega
                          · have HN := hide (hru.no (runNx_out (l := l) hlx2 (by omega)))
                            clear hlx2 hru hlo hh hm5
                            go_wp2
                            have hd' : decide (lo ≤ h) = false := decide_eq_false (by omega)
                            go_quiet (fail)
                            go_wp2
                            go_roundw
                            case rel => exact ⟨e + 1, nx2, la2, by go_num, rfl, by omega, HM5.out.drewN _, HLX.out, HN.out, HL5⟩
                            case measure => simp [intOf]; omega
                    · have hee : e = name.size + 1 := by omega
                      rw [hee] at hlx
                      simp only [Nat.add_sub_cancel] at hlx
                      have x1 := hlx.ge
                      have x2 := hlx.lt
                      obtain ⟨lo, hlo⟩ : ∃ lo : Nat, (lo : Int) = la + 1 := ⟨(la + 1).toNat, by omega⟩
                      have hlo2 : la + 1 = (lo : Int) := hlo.symm
                      have y1 := hm5.cellK (name.size + 1) (by omega)
                      have y2 := hm5.cellK lo (by omega)
                      rw [HC2.out _ (by omega)] at y1 y2
                      have y3 : (name.size : Int) + 1 < (name.size : Int) + 2 := by omega
                      have y4 : (lo : Int) < (name.size : Int) + 2 := by omega
                      have b1 := cntf_le cur (name.size + 1)
                      have b2 := cntf_le cur lo
                      obtain ⟨ca, hca⟩ : ∃ c, cntf cur (name.size + 1) = c := ⟨_, rfl⟩
                      obtain ⟨cb, hcb⟩ : ∃ c, cntf cur lo = c := ⟨_, rfl⟩
                      rw [hca] at y1 b1
                      rw [hcb] at y2 b2
                      obtain ⟨m, hmm⟩ : ∃ m, n - i = m + 1 := ⟨n - i - 1, by omega⟩
                      have hsy := HD.out.sync
                      rw [hmm] at hsy
                      have hfin : ∀ b : Bool, (b = true ↔ cb < ca) → Sync (bl T) (bl E) R Ls n name.data.toList (n - (i + 1)) (i + 1) nx2 (bg || b) (fitK (bl T) (bl E) R Ls n 0 name.data.toList) := fun b hb => by
                        have hnl := HNl.out
                        have hrs := hru.done (b := b) (by omega) (by rw [hnl]; exact hlx) hlo (by rw [hnl, hca, hcb]; exact hb)
                        rw [← HLl.out] at hrs
                        have := sync_run HR.out hlt' HCh.out (fun q hq => by have := HD.out.low q hq; omega) hsy hrs
                        rw [show m = n - (i + 1) from by omega] at this
                        exact this
                      have HFin := hide hfin
                      clear hfin hsy hmm hlx hru hlo hee HC2 HNl
                      have hbk := hm5.hk
                      have HM5 := hide hm5
                      clear hca hcb
                      by_cases hpos : (0 : Int) < (ca : Int) - (cb : Int)
                      · go_wp2
                        go_quiet (fail)
                        go_wp2
                        go_roundw
                        case rel => exact ⟨i + 1, bn, bc, nx2, cur, ct2, _, rfl, rfl, by simp, by go_num, by omega, (HM5.out.drewN _).swap, HFin.out true ⟨fun _ => by omega, fun _ => rfl⟩, HL5.out, HD.out.low⟩
                        case measure => simp [intOf]; omega
                      · go_wp2
                        go_quiet (fail)
                        go_wp2
                        go_roundw
                        case rel => exact ⟨i + 1, bn, bc, nx2, cur, ct2, _, rfl, rfl, by simp, by go_num, by omega, (HM5.out.drewN _).swap, HFin.out false ⟨(fun h => by cases h), (fun h => by omega)⟩, HL5.out, HD.out.low⟩
                        case measure => simp [intOf]; omega
    · have hie : n - i = 0 := by omega
      have hsy := hd.sync
      rw [hie] at hsy
      have hend := sync_end hsy
      have hnl : name.data.toList.length = name.size := by simp
      rw [hnl] at hend
      have HEnd := hide hend
      have k0 := hd.mem.cellC name.size (Nat.le_refl _)
      have k1 : (name.size : Int) < (name.size : Int) + 1 := by omega
      have HB := hide hd.mem.below
      clear hend hsy hnl hd hie
      obtain ⟨b, hb⟩ : ∃ b, cur name.size = b := ⟨_, rfl⟩
      rw [hb] at k0 HEnd
      clear hb
      cases b
      · go_wp2
        go_ret2
        exact ⟨Says2.of (HEnd.out.trans (by simp)), HB.out⟩
      · go_wp2
        go_ret2
        exact ⟨Says2.of (HEnd.out.trans (by simp)), HB.out⟩
end Go.Proofs.Qxb6600526a
