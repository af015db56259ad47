/- The proof of 'Rows.FnFitAgreesWithEveryParseSaid': the frame is the guide's shell turned to five parameters, the walk is ours. -/
import Derived.Test.Qxb6600526aTop
import Derived.WalkKit
import Derived.ProofKit
import Derived.OpenShut
import Derived.ShutString
import Derived.ChangeOld
import Derived.Below
import Derived.SliceStrings
import Derived.Deep.Grids
namespace Go.Proofs.Qxb6600526a.fnFitAgreesWithEveryParse
open Go.ChangeShapes Go.WideShapes Go.ChangeAt Go.RowKit
open Go.ChangeMaps (open_string shut_string)

theorem own : ownKnob Try.prog.godebug = none := by kernel_rfl
theorem laidOut : laidOutB Try.prog = true := by kernel_rfl

theorem sl_nil (w : World) (f : Nat → Value) : Sl w none 0 f := ⟨fun h => absurd h (by omega)⟩

theorem sl_of {w : World} {x : Addr} {len m : Nat} {f : Nat → Value} (h : ∀ i, i < m → w.cell? (x.add i) = some (f i)) (hl : len ≤ m) : Sl w (some x) len f :=
  ⟨fun hp => by
    obtain ⟨b, off, spot⟩ := x
    have hspot : spot = none := by simpa [Addr.add] using World.cell?_spot (h 0 (by omega))
    subst hspot
    have hc : ∀ k, k < m → w.cell? ⟨b, off + k, none⟩ = some (f k) := fun j hj => by rw [← Go.WideShapes.add_plain]; exact h j hj
    exact ⟨b, off, rfl, World.block_lt_of_cell? w _ (hc 0 (by omega)), fun k hk => hc k (by omega)⟩⟩

/-- What the walk is told of a slice that came in. -/
def Came (w : World) (a : Option Addr) (n : Nat) (f : Nat → Value) : Prop := n ≤ maxLen ∧ (a = none → n = 0) ∧ Sl w a n f

theorem walk (T : Nat → ByteArray) (R : Nat → Bool) (E : Nat → ByteArray) (Ls : Nat → Int) (a0 a1 a2 a3 : Option Addr) (n0 n1 n2 n3 c0 c1 c2 c3 : Nat) (name : ByteArray) (w : World)
    (w0 : Came w a0 n0 (fun k => .string (T k))) (w1 : Came w a1 n1 (fun k => .bool (R k))) (w2 : Came w a2 n2 (fun k => .string (E k))) (w3 : Came w a3 n3 (fun k => .int .i64 (Ls k))) (w4 : name.size ≤ maxLen) :
    Calls Try.prog 6 #[.slice a0 n0 c0, .slice a1 n1 c1, .slice a2 n2 c2, .slice a3 n3 c3, .string name] w fun e w' => e = .returned (.bool true) ∧ Below w.heap.size w w' := by
  obtain ⟨l0, e0, s0⟩ := w0
  obtain ⟨l1, e1, s1⟩ := w1
  obtain ⟨l2, e2, s2⟩ := w2
  obtain ⟨l3, e3, s3⟩ := w3
  unfold maxLen at l0 l1 l2 l3 w4
  exact top_shaped T R E Ls a0 a1 a2 a3 n0 n1 n2 n3 c0 c1 c2 c3 name w ⟨by omega, by omega, by omega, by omega, by omega⟩ e0 e1 e2 e3 s0 s1 s2 s3

set_option maxRecDepth 100000 in
theorem lifted (os : Os) (started : os.Started) (H : Type) (enc : TypeId × Value → H) :
    ReturnsInHanded {} Try.checked os 6 .any (Rows.fnFitAgreesWithEveryParseSpec.pre6 enc Try.prog Try.f6 Rows.fnFitAgreesWithEveryParseRow.domain false) (Rows.fnFitAgreesWithEveryParseSpec.post enc Try.prog Try.f6 false true false false) := by
  refine returnsInHanded_of_change (C := Try.checked) own started (by kernel_rfl) Try.func6
    (ChangeSpec.witness6 (enc := enc) (C := Try.checked) false ⟨#[], #[.slice none 0 0, .slice none 0 0, .slice none 0 0, .slice none 0 0, .string ByteArray.empty], []⟩ 8 (by kernel_rfl) (by kernel_rfl) (by kernel_rfl) (by kernel_rfl)) ?_
  intro W base args ds gs before hval0 hW hcnd _
  have hval : ∀ (j : Nat) t v, Try.f6.params[j]? = some t → args[j]? = some v → Value.okWide Try.prog W .any base t v := hval0
  have hW' := hW
  obtain ⟨p, q, hA0, hV, rfl, hfz, hnd⟩ := hW
  have hA : DataW.TrodAll enc Try.prog W 0 (fun _ => true) true Try.f6.params.toList args.toList ds p := hA0
  rw [Try.params6] at hA hval
  obtain ⟨v0, vs0, d0, ds0, p0, q0, hargs, rfl, rfl, h0, r0⟩ := trodAll_cons hA
  obtain ⟨v1, vs1, d1, ds1, p1, q1, rfl, rfl, rfl, h1, r1⟩ := trodAll_cons r0
  obtain ⟨v2, vs2, d2, ds2, p2, q2, rfl, rfl, rfl, h2, r2⟩ := trodAll_cons r1
  obtain ⟨v3, vs3, d3, ds3, p3, q3, rfl, rfl, rfl, h3, r3⟩ := trodAll_cons r2
  obtain ⟨v4, vs4, d4, ds4, p4, q4, rfl, rfl, rfl, h4, r4⟩ := trodAll_cons r3
  obtain ⟨rfl, rfl, rfl⟩ := trodAll_nil r4
  obtain rfl : args = #[v0, v1, v2, v3, v4] := by cases args; simp_all
  obtain ⟨rfl, rfl⟩ := trodVars_none hV
  obtain ⟨a0, len0, cap0, rfl⟩ := okWide_slice Try.underlying26 (hval 0 26 v0 rfl rfl)
  obtain ⟨a1, len1, cap1, rfl⟩ := okWide_slice Try.underlying27 (hval 1 27 v1 rfl rfl)
  obtain ⟨a2, len2, cap2, rfl⟩ := okWide_slice Try.underlying26 (hval 2 26 v2 rfl rfl)
  obtain ⟨a3, len3, cap3, rfl⟩ := okWide_slice Try.underlying28 (hval 3 28 v3 rfl rfl)
  have k0 := h0
  have k1 := h1
  have k2 := h2
  have k3 := h3
  have lt0 : ∀ x ∈ p0, x.block < W.heap.size := by obtain ⟨m, hm⟩ := k0; exact DataW.trod_lt m _ _ _ hm
  have lt1 : ∀ x ∈ p1, x.block < W.heap.size := by obtain ⟨m, hm⟩ := k1; exact DataW.trod_lt m _ _ _ hm
  have lt2 : ∀ x ∈ p2, x.block < W.heap.size := by obtain ⟨m, hm⟩ := k2; exact DataW.trod_lt m _ _ _ hm
  have lt3 : ∀ x ∈ p3, x.block < W.heap.size := by obtain ⟨m, hm⟩ := k3; exact DataW.trod_lt m _ _ _ hm
  obtain ⟨T, w0⟩ : ∃ T : Nat → ByteArray, Came W a0 len0 (fun k => .string (T k)) := by
    obtain ⟨fuel, hf⟩ := h0
    rcases open_strings Try.underlying26 Try.underlying9 (by kernel_rfl) hf with ⟨hcs, _⟩ | ⟨x, l, c, ss, hcs, _, hl, hm, hz, _, hcell, _⟩
    · simp [Value.cells] at hcs
      obtain ⟨rfl, rfl, rfl⟩ := hcs
      exact ⟨fun _ => ByteArray.empty, Nat.zero_le _, fun _ => rfl, sl_nil _ _⟩
    · simp [Value.cells] at hcs
      obtain ⟨rfl, rfl, rfl⟩ := hcs
      simp only [if_true] at hz
      exact ⟨fun i => ss.getD i ByteArray.empty, Nat.le_trans hl hm, (fun h => by cases h), sl_of hcell (by omega)⟩
  obtain ⟨R, w1⟩ : ∃ R : Nat → Bool, Came W a1 len1 (fun k => .bool (R k)) := by
    obtain ⟨fuel, hf⟩ := h1
    rcases Go.Deep.open_bools Try.underlying27 Try.underlying4 (by kernel_rfl) hf with ⟨hcs, _⟩ | ⟨x, l, c, B, hcs, _, hl, hm, _, hcell⟩
    · simp [Value.cells] at hcs
      obtain ⟨rfl, rfl, rfl⟩ := hcs
      exact ⟨fun _ => false, Nat.zero_le _, fun _ => rfl, sl_nil _ _⟩
    · simp [Value.cells] at hcs
      obtain ⟨rfl, rfl, rfl⟩ := hcs
      exact ⟨B, Nat.le_trans hl hm, (fun h => by cases h), sl_of hcell hl⟩
  obtain ⟨E, w2⟩ : ∃ T : Nat → ByteArray, Came W a2 len2 (fun k => .string (T k)) := by
    obtain ⟨fuel, hf⟩ := h2
    rcases open_strings Try.underlying26 Try.underlying9 (by kernel_rfl) hf with ⟨hcs, _⟩ | ⟨x, l, c, ss, hcs, _, hl, hm, hz, _, hcell, _⟩
    · simp [Value.cells] at hcs
      obtain ⟨rfl, rfl, rfl⟩ := hcs
      exact ⟨fun _ => ByteArray.empty, Nat.zero_le _, fun _ => rfl, sl_nil _ _⟩
    · simp [Value.cells] at hcs
      obtain ⟨rfl, rfl, rfl⟩ := hcs
      simp only [if_true] at hz
      exact ⟨fun i => ss.getD i ByteArray.empty, Nat.le_trans hl hm, (fun h => by cases h), sl_of hcell (by omega)⟩
  obtain ⟨Ls, w3⟩ : ∃ Ls : Nat → Int, Came W a3 len3 (fun k => .int .i64 (Ls k)) := by
    obtain ⟨fuel, hf⟩ := h3
    rcases open_ints Try.underlying28 Try.underlying3 (by kernel_rfl) hf with ⟨hcs, _⟩ | ⟨x, l, c, zs, hcs, _, hl, hm, hz, _, hcell, _⟩
    · simp [Value.cells] at hcs
      obtain ⟨rfl, rfl, rfl⟩ := hcs
      exact ⟨fun _ => 0, Nat.zero_le _, fun _ => rfl, sl_nil _ _⟩
    · simp [Value.cells] at hcs
      obtain ⟨rfl, rfl, rfl⟩ := hcs
      simp only [if_true] at hz
      exact ⟨fun i => zs.getD i 0, Nat.le_trans hl hm, (fun h => by cases h), sl_of hcell (by omega)⟩
  obtain ⟨name, rfl, rfl, rfl, w4⟩ := open_string Try.underlying9 (hval 4 9 v4 rfl rfl) h4
  clear hA0 hval0
  refine (walk T R E Ls a0 a1 a2 a3 len0 len1 len2 len3 cap0 cap1 cap2 cap3 name W w0 w1 w2 w3 w4).mono fun e W' ⟨he, bel⟩ => ?_
  subst he
  exact ⟨_, rfl, _, _, _, [], _, [], hW', trodAll_mk1 (shut_bool Try.underlying4 _),
    (trodAll_cons_mk (Below.trod laidOut (by kernel_rfl) (of_decide_eq_true (by kernel_rfl)) k0 bel lt0)
    (trodAll_cons_mk (Below.trod laidOut (by kernel_rfl) (of_decide_eq_true (by kernel_rfl)) k1 bel lt1)
    (trodAll_cons_mk (Below.trod laidOut (by kernel_rfl) (of_decide_eq_true (by kernel_rfl)) k2 bel lt2)
    (trodAll_cons_mk (Below.trod laidOut (by kernel_rfl) (of_decide_eq_true (by kernel_rfl)) k3 bel lt3)
    (trodAll_cons_mk (shut_string Try.underlying9 w4) trodAll_mk0))))), rfl, bel.frame _, fun h => by cases h⟩

theorem over : Rows.fnFitAgreesWithEveryParseRow.holds Try.pinned (OpenSpec.ofChange Rows.fnFitAgreesWithEveryParseSpec) :=
  OpenClaim.holds_of_wide 6 Try.f6 rfl rfl rfl rfl rfl rfl rfl ⟨rfl, rfl, rfl, rfl, rfl⟩ rfl rfl rfl rfl rfl (by kernel_rfl) Try.func6 (by kernel_rfl)
    (of_decide_eq_true (by kernel_rfl)) (by unfold Func.isWrapper; first | (rw [if_pos (by decide +kernel)]; kernel_rfl) | (rw [if_neg (by decide +kernel)]; exact ⟨rfl, rfl⟩))
    (fun os started H enc _ => lifted os started H enc)

/-- ████ THE STATEMENT ████ -/
theorem proved : Rows.FnFitAgreesWithEveryParseSaid := over
#print axioms proved
end Go.Proofs.Qxb6600526a.fnFitAgreesWithEveryParse
