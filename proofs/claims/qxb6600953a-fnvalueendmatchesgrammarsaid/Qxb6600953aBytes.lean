/- A row of bytes in memory; the contract of zzCopyBytes. -/
import Derived.Test.Qxb6600953aRows
import Derived.WalkKit
import Derived.WalkSpells
import Derived.WalkSmall
namespace Go.Proofs.Qxb6600953a
open Go.RowKit

theorem hide {p : Prop} (h : p) : Hid p := h
theorem ret_bool {a b : Bool} (h : a = b) : Ending.returned (.bool a) = .returned (.bool b) := by rw [h]
theorem ret_int {k : IntKind} {a b : Int} (h : a = b) : Ending.returned (.int k a) = .returned (.int k b) := by rw [h]

/-- Byte k of a text. -/
def bt (l : List UInt8) (k : Nat) : UInt8 := l.getD k 0

/-- The text l lies in block g, from its head on. -/
def Row (w : World) (g : Nat) (l : List UInt8) : Prop := ∀ k, k < l.length → w.cell? ⟨g, k, none⟩ = some (.int .u8 ((bt l k).toNat : Int))

/-- What zzCopyBytes has done after i rounds. -/
structure Cp (l : List UInt8) (w wr : World) (i : Nat) : Prop where
  below : Below w.heap.size w wr
  size : w.heap.size < wr.heap.size
  done : ∀ j, j < i → wr.cell? ⟨w.heap.size, j, none⟩ = some (.int .u8 ((bt l j).toNat : Int))
  rest : ∀ j, j < l.length → ∃ v, wr.cell? ⟨w.heap.size, j, none⟩ = some v
  fz : ∀ j, wr.frozen? ⟨w.heap.size, j, none⟩ = false

theorem Cp.start (l : List UInt8) (w : World) (C : Array Value) (hC : C.size = l.length) : Cp l w (w.alloc (.cells C 5)) 0 where
  below := (Below.refl _ _).alloc (Nat.le_refl _) _
  size := by simp
  done := fun j h => absurd h (Nat.not_lt_zero _)
  rest := fun j h => by
    have : j < C.size := by omega
    exact ⟨C[j], by simp [this]⟩
  fz := fun j => World.frozen?_alloc_new w _ _ _

theorem Cp.step {l : List UInt8} {w wr : World} {i : Nat} (h : Cp l w wr i) (hi : i < l.length) : Cp l w (wr.setCell ⟨w.heap.size, i, none⟩ (.int .u8 ((bt l i).toNat : Int))) (i + 1) where
  below := h.below.setCell (Nat.le_refl _) _
  size := by simp [World.setCell]; exact h.size
  done := fun j hj => by
    obtain ⟨v, hv⟩ := h.rest i hi
    by_cases e : j = i
    · subst e; exact World.cell?_setCell_same _ _ _ hv
    · rw [World.cell?_setCell_other _ _ _ _ (fun e2 => by injection e2; omega)]; exact h.done j (by omega)
  rest := fun j hj => by
    obtain ⟨v, hv⟩ := h.rest j hj
    exact cell?_setCell_some hv
  fz := fun j => by rw [World.frozen?_setCell]; exact h.fz j

theorem info5 : (Try.prog.info? 5).map (fun i => (i.zero, i.size, i.bytes)) = some (some (.int .u8 0), 1, 1) := by kernel_rfl

theorem make_any (n : Nat) (hn : n ≤ 1048576) (w : World) : (Instr.makeSlice 26 (.int .i64 (n : Int)) (.int .i64 (n : Int))).run Try.prog w =
    .ok (.slice (some ⟨w.heap.size, 0, none⟩) n n) (w.alloc (.cells (madeCells (Value.int .u8 0).cells n) 5)) := by
  obtain ⟨i0, hi, hz0, hz1, hz2⟩ := info_parts info5
  have := run_make (P := Try.prog) w 26 5 i0 (.int .u8 0) Try.underlying26 hi hz0 .i64 .i64 n n (by omega) (by omega) (by rw [hz2]; omega) (by omega)
  rw [hz1] at this
  simpa using this

set_option maxHeartbeats 1000000 in
theorem copy_any (l : List UInt8) (b off cap : Nat) (w : World) (hl : l.length ≤ 1048576) (hb : b < w.heap.size)
    (hc : ∀ k, k < l.length → w.cell? ⟨b, off + k, none⟩ = some (.int .u8 ((bt l k).toNat : Int))) :
    Calls Try.prog 13 #[.slice (some ⟨b, off, none⟩) l.length cap] w fun e w' =>
      e = .returned (.slice (some ⟨w.heap.size, 0, none⟩) l.length l.length) ∧ Row w' w.heap.size l ∧ Below w.heap.size w w' ∧ w.heap.size < w'.heap.size := by
  have hnil := fun (w : World) => Lib.run_eql_slice_nil (P := Try.prog) w 26 5 (some ⟨b, off, none⟩) l.length cap 0 0 Try.underlying26
  have hmk := make_any l.length hl
  have hsz : (madeCells (Value.int .u8 0).cells l.length).size = l.length := size_madeCells _ _
  have HC := hide hc
  clear hc
  obtain ⟨C, hC⟩ : ∃ C, madeCells (Value.int .u8 0).cells l.length = C := ⟨_, rfl⟩
  rw [hC] at hmk hsz
  clear hC
  go_enter Try.func13, Try.ntmps13
  go_wp2
  go_loopw [4] (fun i wr => ∃ k : Nat, k ≤ l.length ∧ i = .int .i64 k ∧ Cp l w wr k) (fun i _ => l.length - (intOf i).toNat)
  case atStart => exact ⟨0, Nat.zero_le _, rfl, Cp.start l w C hsz⟩
  case round =>
    obtain ⟨k, hk, rfl, hcp⟩ := hrel
    clear hmk hnil hsz
    by_cases hlt : (k : Int) < (l.length : Int)
    · have hlt' : k < l.length := by omega
      have c0 : wr.cell? ⟨b, off + k, none⟩ = some (.int .u8 ((bt l k).toNat : Int)) := (hcp.below.cell hb).trans (HC.out k hlt')
      obtain ⟨v, c1⟩ := hcp.rest k hlt'
      have f1 := hcp.fz k
      go_wp2
      go_roundw
      case rel => exact ⟨k + 1, by omega, by go_num, hcp.step hlt'⟩
      case measure => simp [intOf]; omega
    · go_wp2
      go_ret
      exact ⟨rfl, fun j hj => hcp.done j (by omega), hcp.below, hcp.size⟩
end Go.Proofs.Qxb6600953a
