/- ZZFit: it lays the form and asks fit. -/
import Derived.Test.Qxb6600526aFit
import Derived.BigRegion
namespace Go.Proofs.Qxb6600526a
open Go.RowKit Plain

def zeroPart : Value := .agg #[.string ByteArray.empty, .bool false, .string ByteArray.empty, .int .i64 0]
theorem info48 : (Try.prog.info? 48).map (fun i => (i.zero, i.size, i.bytes)) = some (some zeroPart, 4, 48) := by kernel_rfl
theorem makeForm (n : Nat) (hn : n ≤ 1048576) (w : World) : (Instr.makeSlice 46 (.int .i64 (n : Int)) (.int .i64 (n : Int))).run Try.prog w =
    .ok (.slice (some ⟨w.heap.size, 0, none⟩) n n) (w.alloc (.cells (madeCells zeroPart.cells (n * 4)) 48)) := by
  obtain ⟨i0, hi, hz0, hz1, hz2⟩ := info_parts info48
  have := run_make (P := Try.prog) w 46 48 i0 zeroPart Try.underlying46 hi hz0 .i64 .i64 n n (by omega) (by omega) (by rw [hz2]; omega) (by omega)
  rw [hz1] at this
  simpa using this

/-- The form after k rounds. -/
structure Fm (T : Nat → ByteArray) (R : Nat → Bool) (E : Nat → ByteArray) (Ls : Nat → Int) (n : Nat) (w wr : World) (k : Nat) : Prop where
  below : Below w.heap.size w wr
  size : w.heap.size < wr.heap.size
  done : Form wr w.heap.size k T R E Ls
  rest : ∀ j, j < n * 4 → ∃ v, wr.cell? ⟨w.heap.size, j, none⟩ = some v
  fz : ∀ j, wr.frozen? ⟨w.heap.size, j, none⟩ = false

theorem Fm.start (T : Nat → ByteArray) (R : Nat → Bool) (E : Nat → ByteArray) (Ls : Nat → Int) (n : Nat) (w : World) (C : Array Value) (hC : C.size = n * 4) : Fm T R E Ls n w (w.alloc (.cells C 48)) 0 where
  below := (Below.refl _ _).alloc (Nat.le_refl _) _
  size := by simp
  done := fun j h => absurd h (Nat.not_lt_zero _)
  rest := fun j h => by
    have : j < C.size := by omega
    exact ⟨C[j], by simp [this]⟩
  fz := fun j => World.frozen?_alloc_new w _ _ _

theorem ne_addr {b o p : Nat} (h : o ≠ p) : (⟨b, o, none⟩ : Addr) ≠ ⟨b, p, none⟩ := fun e => by injection e with _ e2 _; exact h e2

/-- Four stores side by side. -/
theorem four_far (w : World) (b o p : Nat) (x0 x1 x2 x3 : Value) (h : p < o ∨ o + 4 ≤ p) :
    ((((w.setCell ⟨b, o, none⟩ x0).setCell ⟨b, o + 1, none⟩ x1).setCell ⟨b, o + 2, none⟩ x2).setCell ⟨b, o + 3, none⟩ x3).cell? ⟨b, p, none⟩ = w.cell? ⟨b, p, none⟩ := by
  rw [World.cell?_setCell_other _ _ _ _ (ne_addr (by omega)), World.cell?_setCell_other _ _ _ _ (ne_addr (by omega)), World.cell?_setCell_other _ _ _ _ (ne_addr (by omega)), World.cell?_setCell_other _ _ _ _ (ne_addr (by omega))]
theorem four_in (w : World) (b o : Nat) (x0 x1 x2 x3 v0 v1 v2 v3 : Value) (h0 : w.cell? ⟨b, o, none⟩ = some v0) (h1 : w.cell? ⟨b, o + 1, none⟩ = some v1) (h2 : w.cell? ⟨b, o + 2, none⟩ = some v2) (h3 : w.cell? ⟨b, o + 3, none⟩ = some v3) :
    let W := (((w.setCell ⟨b, o, none⟩ x0).setCell ⟨b, o + 1, none⟩ x1).setCell ⟨b, o + 2, none⟩ x2).setCell ⟨b, o + 3, none⟩ x3
    W.cell? ⟨b, o, none⟩ = some x0 ∧ W.cell? ⟨b, o + 1, none⟩ = some x1 ∧ W.cell? ⟨b, o + 2, none⟩ = some x2 ∧ W.cell? ⟨b, o + 3, none⟩ = some x3 := by
  refine ⟨?_, ?_, ?_, ?_⟩
  · rw [World.cell?_setCell_other _ _ _ _ (ne_addr (by omega)), World.cell?_setCell_other _ _ _ _ (ne_addr (by omega)), World.cell?_setCell_other _ _ _ _ (ne_addr (by omega))]
    exact World.cell?_setCell_same _ _ _ h0
  · rw [World.cell?_setCell_other _ _ _ _ (ne_addr (by omega)), World.cell?_setCell_other _ _ _ _ (ne_addr (by omega))]
    refine World.cell?_setCell_same _ _ _ (u := v1) ?_
    rw [World.cell?_setCell_other _ _ _ _ (ne_addr (by omega))]; exact h1
  · rw [World.cell?_setCell_other _ _ _ _ (ne_addr (by omega))]
    refine World.cell?_setCell_same _ _ _ (u := v2) ?_
    rw [World.cell?_setCell_other _ _ _ _ (ne_addr (by omega)), World.cell?_setCell_other _ _ _ _ (ne_addr (by omega))]; exact h2
  · refine World.cell?_setCell_same _ _ _ (u := v3) ?_
    rw [World.cell?_setCell_other _ _ _ _ (ne_addr (by omega)), World.cell?_setCell_other _ _ _ _ (ne_addr (by omega)), World.cell?_setCell_other _ _ _ _ (ne_addr (by omega))]; exact h3

theorem Fm.drew {T : Nat → ByteArray} {R : Nat → Bool} {E : Nat → ByteArray} {Ls : Nat → Int} {n : Nat} {w wr : World} {k : Nat} (h : Fm T R E Ls n w wr k) : Fm T R E Ls n w wr.drew k :=
  ⟨h.below.drew, h.size, h.done, h.rest, h.fz⟩

theorem Fm.four {T : Nat → ByteArray} {R : Nat → Bool} {E : Nat → ByteArray} {Ls : Nat → Int} {n : Nat} {w wr W : World} {k : Nat} (h : Fm T R E Ls n w wr k) (hk : k < n)
    (hW : W = (((wr.setCell ⟨w.heap.size, k * 4, none⟩ (.string (T k))).setCell ⟨w.heap.size, k * 4 + 1, none⟩ (.bool (R k))).setCell ⟨w.heap.size, k * 4 + 2, none⟩ (.string (E k))).setCell ⟨w.heap.size, k * 4 + 3, none⟩ (.int .i64 (Ls k))) :
    Fm T R E Ls n w W (k + 1) where
  below := by rw [hW]; exact ((((h.below.setCell (Nat.le_refl _) _).setCell (Nat.le_refl _) _).setCell (Nat.le_refl _) _).setCell (Nat.le_refl _) _)
  size := by rw [hW]; simp [World.setCell]; exact h.size
  done := fun j hj => by
    by_cases e : j = k
    · subst e
      obtain ⟨v0, p0⟩ := h.rest (j * 4) (by omega)
      obtain ⟨v1, p1⟩ := h.rest (j * 4 + 1) (by omega)
      obtain ⟨v2, p2⟩ := h.rest (j * 4 + 2) (by omega)
      obtain ⟨v3, p3⟩ := h.rest (j * 4 + 3) (by omega)
      have := four_in wr w.heap.size (j * 4) (.string (T j)) (.bool (R j)) (.string (E j)) (.int .i64 (Ls j)) v0 v1 v2 v3 p0 p1 p2 p3
      simp only at this
      rw [← hW] at this
      exact this
    · obtain ⟨a, b, c, d⟩ := h.done j (by omega)
      have f := fun p hp => four_far wr w.heap.size (k * 4) p (.string (T k)) (.bool (R k)) (.string (E k)) (.int .i64 (Ls k)) hp
      rw [← hW] at f
      exact ⟨(f (j * 4) (by omega)).trans a, (f (j * 4 + 1) (by omega)).trans b, (f (j * 4 + 2) (by omega)).trans c, (f (j * 4 + 3) (by omega)).trans d⟩
  rest := fun j hj => by
    obtain ⟨v, hv⟩ := h.rest j hj
    obtain ⟨v1, hv1⟩ := cell?_setCell_some (p := ⟨w.heap.size, k * 4, none⟩) (x := .string (T k)) hv
    obtain ⟨v2, hv2⟩ := cell?_setCell_some (p := ⟨w.heap.size, k * 4 + 1, none⟩) (x := .bool (R k)) hv1
    obtain ⟨v3, hv3⟩ := cell?_setCell_some (p := ⟨w.heap.size, k * 4 + 2, none⟩) (x := .string (E k)) hv2
    rw [hW]
    exact cell?_setCell_some (p := ⟨w.heap.size, k * 4 + 3, none⟩) (x := .int .i64 (Ls k)) hv3
  fz := fun j => by
    rw [hW, World.frozen?_setCell, World.frozen?_setCell, World.frozen?_setCell, World.frozen?_setCell]; exact h.fz j

set_option maxHeartbeats 2000000 in
set_option maxRecDepth 100000 in
theorem zzfit_any (T : Nat → ByteArray) (R : Nat → Bool) (E : Nat → ByteArray) (Ls : Nat → Int) (n c0 c1 c2 c3 : Nat) (a0 a1 a2 a3 : Option Addr) (name : ByteArray) (w : World) (hn : n ≤ 4096) (hname : name.size ≤ 4096)
    (h0 : Sl w a0 n (fun k => .string (T k))) (h1 : Sl w a1 n (fun k => .bool (R k))) (h2 : Sl w a2 n (fun k => .string (E k))) (h3 : Sl w a3 n (fun k => .int .i64 (Ls k)))
    (hT : ∀ k, k < n → (T k).size ≤ 1048576) (hE : ∀ k, k < n → (E k).size ≤ 1048576) (hA : ∀ k, k < n → R k = true → ∀ (j : Nat) (h : j < (E k).size), ((E k)[j]).toNat < 128) :
    Calls Try.prog 23 #[.slice a0 n c0, .slice a1 n c1, .slice a2 n c2, .slice a3 n c3, .string name] w fun e w' =>
      Says2 (fitK (bl T) (bl E) R Ls n 0 name.data.toList) e ∧ Below w.heap.size w w' := by
  have HTs := hide hT
  have HEs := hide hE
  have HA := hide hA
  clear hT hE hA
  have hmk := makeForm n (by omega)
  have hsz : (madeCells zeroPart.cells (n * 4)).size = n * 4 := size_madeCells _ _
  obtain ⟨C, hC⟩ : ∃ C, madeCells zeroPart.cells (n * 4) = C := ⟨_, rfl⟩
  rw [hC] at hmk hsz
  clear hC
  go_enter Try.func23, Try.ntmps23
  go_wp2
  go_loopw [19] (fun t wr => ∃ k : Nat, t = .int .i64 k ∧ k ≤ n ∧ Fm T R E Ls n w wr k) (fun t _ => n - (intOf t).toNat)
  case atStart => exact ⟨0, rfl, Nat.zero_le _, Fm.start T R E Ls n w C hsz⟩
  case round =>
    obtain ⟨k, rfl, hk, hf⟩ := hrel
    clear hmk hsz
    by_cases hlt : (k : Int) < (n : Int)
    · have hlt' : k < n := by omega
      obtain ⟨g0, o0, rfl, hb0, hc0⟩ := h0.at' (by omega)
      obtain ⟨g1, o1, rfl, hb1, hc1⟩ := h1.at' (by omega)
      obtain ⟨g2, o2, rfl, hb2, hc2⟩ := h2.at' (by omega)
      obtain ⟨g3, o3, rfl, hb3, hc3⟩ := h3.at' (by omega)
      have q0 := (hf.below.cell (p := ⟨g0, o0 + k, none⟩) hb0).trans (hc0 k hlt')
      have q1 := (hf.below.cell (p := ⟨g1, o1 + k, none⟩) hb1).trans (hc1 k hlt')
      have q2 := (hf.below.cell (p := ⟨g2, o2 + k, none⟩) hb2).trans (hc2 k hlt')
      have q3 := (hf.below.cell (p := ⟨g3, o3 + k, none⟩) hb3).trans (hc3 k hlt')
      clear hc0 hc1 hc2 hc3 h0 h1 h2 h3
      obtain ⟨v0, p0⟩ := hf.rest (k * 4) (by omega)
      obtain ⟨v1, p1⟩ := hf.rest (k * 4 + 1) (by omega)
      obtain ⟨v2, p2⟩ := hf.rest (k * 4 + 2) (by omega)
      obtain ⟨v3, p3⟩ := hf.rest (k * 4 + 3) (by omega)
      have z0 := hf.fz (k * 4)
      have z1 := hf.fz (k * 4 + 1)
      have z2 := hf.fz (k * 4 + 2)
      have z3 := hf.fz (k * 4 + 3)
      go_wp2
      go_region
      go_wp2
      go_roundw
      case rel => exact ⟨k + 1, by go_num, by omega, (hf.four hlt' rfl).drew⟩
      case measure => simp [intOf]; omega
    · have hke : k = n := by omega
      subst hke
      have hfm := hf.done
      have HFm := hide hfm
      clear hfm
      go_wp2_with (go_at_call 33; refine (fit_any T R E Ls w.heap.size k name wr hn hname hf.size HFm.out HTs.out HEs.out HA.out).mono ?_; rintro e w' ⟨he, hb'⟩; unfold Says2 at he; subst he)
      go_ret2
      exact ⟨Says2.of rfl, hf.below.trans (hb'.mono hf.below.size)⟩
end Go.Proofs.Qxb6600526a
