/- The three clones, nil or not. -/
import Derived.Test.Qxb6600526aGuards
namespace Go.Proofs.Qxb6600526a
open Go.RowKit Plain

/-- It answers a slice of n elements f k. -/
def SaysSl (n : Nat) (f : Nat → Value) (w : World) (e : Ending) : Prop := ∃ a c, e = .returned (.slice a n c) ∧ Sl w a n f ∧ (a = none → n = 0)
theorem SaysSl.mk {n : Nat} {f : Nat → Value} {w : World} {a : Option Addr} {c : Nat} (h : Sl w a n f) (ha : a = none → n = 0) : SaysSl n f w (.returned (.slice a n c)) := ⟨a, c, rfl, h, ha⟩

theorem infoStrings : (Try.prog.info? 9).map (fun i => (i.zero, i.size, i.bytes)) = some (some (.string ByteArray.empty), 1, 16) := by kernel_rfl
theorem makeStrings (n : Nat) (hn : n ≤ 1048576) (w : World) : (Instr.makeSlice 26 (.int .i64 (n : Int)) (.int .i64 (n : Int))).run Try.prog w =
    .ok (.slice (some ⟨w.heap.size, 0, none⟩) n n) (w.alloc (.cells (madeCells (Value.string ByteArray.empty).cells n) 9)) := by
  obtain ⟨i0, hi, hz0, hz1, hz2⟩ := info_parts infoStrings
  have := run_make (P := Try.prog) w 26 9 i0 (.string ByteArray.empty) Try.underlying26 hi hz0 .i64 .i64 n n (by omega) (by omega) (by rw [hz2]; omega) (by omega)
  rw [hz1] at this
  simpa using this

set_option maxHeartbeats 1000000 in
theorem cloneStrings (f : Nat → ByteArray) (n cap : Nat) (a : Option Addr) (w : World) (hn : n ≤ 1048576) (ha : a = none → n = 0) (hsl : Sl w a n (fun k => .string (f k))) :
    Calls Try.prog 20 #[.slice a n cap] w fun e w' =>
      SaysSl n (fun k => .string (f k)) w' e ∧ Below w.heap.size w w' := by
  cases a with
  | none =>
    obtain rfl := ha rfl
    have hnil := fun (w : World) => Lib.run_eql_slice_nil (P := Try.prog) w 26 9 none 0 cap 0 0 Try.underlying26
    clear hsl
    go_enter Try.func20, Try.ntmps20
    go_wp2
    go_ret
    exact ⟨SaysSl.mk ⟨fun h => absurd h (Nat.lt_irrefl _)⟩ (fun _ => rfl), Below.refl _ _⟩
  | some x =>
    have hnil := fun (w : World) => Lib.run_eql_slice_nil (P := Try.prog) w 26 9 (some x) n cap 0 0 Try.underlying26
    have hmk := makeStrings n hn
    have hsz : (madeCells (Value.string ByteArray.empty).cells n).size = n := size_madeCells _ _
    obtain ⟨C, hC⟩ : ∃ C, madeCells (Value.string ByteArray.empty).cells n = C := ⟨_, rfl⟩
    rw [hC] at hmk hsz
    clear hC
    go_enter Try.func20, Try.ntmps20
    go_wp2
    go_loopw [4] (fun i wr => ∃ k : Nat, k ≤ n ∧ i = .int .i64 k ∧ Cp 9 (fun k => .string (f k)) n w wr k) (fun i _ => n - (intOf i).toNat)
    case atStart => exact ⟨0, Nat.zero_le _, rfl, Cp.start 9 _ n w C hsz⟩
    case round =>
      obtain ⟨k, hk, rfl, hcp⟩ := hrel
      clear hmk hnil hsz
      by_cases hlt : (k : Int) < (n : Int)
      · have hlt' : k < n := by omega
        obtain ⟨b, off, hx, hb, hc⟩ := hsl.at' (by omega)
        injection hx with hx2
        subst hx2
        have c0 : wr.cell? ⟨b, off + k, none⟩ = some (.string (f k)) := (hcp.below.cell hb).trans (hc k hlt')
        obtain ⟨v, c1⟩ := hcp.rest k hlt'
        have f1 := hcp.fz k
        clear hc hsl
        go_wp2
        go_roundw
        case rel => exact ⟨k + 1, by omega, by go_num, hcp.step hlt'⟩
        case measure => simp [intOf]; omega
      · go_wp2
        go_ret
        exact ⟨SaysSl.mk ⟨fun _ => ⟨w.heap.size, 0, rfl, hcp.size, fun j hj => by rw [Nat.zero_add]; exact hcp.done j (by omega)⟩⟩ (fun h => by cases h), hcp.below⟩

theorem infoBools : (Try.prog.info? 4).map (fun i => (i.zero, i.size, i.bytes)) = some (some (.bool false), 1, 1) := by kernel_rfl
theorem makeBools (n : Nat) (hn : n ≤ 1048576) (w : World) : (Instr.makeSlice 27 (.int .i64 (n : Int)) (.int .i64 (n : Int))).run Try.prog w =
    .ok (.slice (some ⟨w.heap.size, 0, none⟩) n n) (w.alloc (.cells (madeCells (Value.bool false).cells n) 4)) := by
  obtain ⟨i0, hi, hz0, hz1, hz2⟩ := info_parts infoBools
  have := run_make (P := Try.prog) w 27 4 i0 (.bool false) Try.underlying27 hi hz0 .i64 .i64 n n (by omega) (by omega) (by rw [hz2]; omega) (by omega)
  rw [hz1] at this
  simpa using this

set_option maxHeartbeats 1000000 in
theorem cloneBools (f : Nat → Bool) (n cap : Nat) (a : Option Addr) (w : World) (hn : n ≤ 1048576) (ha : a = none → n = 0) (hsl : Sl w a n (fun k => .bool (f k))) :
    Calls Try.prog 21 #[.slice a n cap] w fun e w' =>
      SaysSl n (fun k => .bool (f k)) w' e ∧ Below w.heap.size w w' := by
  cases a with
  | none =>
    obtain rfl := ha rfl
    have hnil := fun (w : World) => Lib.run_eql_slice_nil (P := Try.prog) w 27 4 none 0 cap 0 0 Try.underlying27
    clear hsl
    go_enter Try.func21, Try.ntmps21
    go_wp2
    go_ret
    exact ⟨SaysSl.mk ⟨fun h => absurd h (Nat.lt_irrefl _)⟩ (fun _ => rfl), Below.refl _ _⟩
  | some x =>
    have hnil := fun (w : World) => Lib.run_eql_slice_nil (P := Try.prog) w 27 4 (some x) n cap 0 0 Try.underlying27
    have hmk := makeBools n hn
    have hsz : (madeCells (Value.bool false).cells n).size = n := size_madeCells _ _
    obtain ⟨C, hC⟩ : ∃ C, madeCells (Value.bool false).cells n = C := ⟨_, rfl⟩
    rw [hC] at hmk hsz
    clear hC
    go_enter Try.func21, Try.ntmps21
    go_wp2
    go_loopw [4] (fun i wr => ∃ k : Nat, k ≤ n ∧ i = .int .i64 k ∧ Cp 4 (fun k => .bool (f k)) n w wr k) (fun i _ => n - (intOf i).toNat)
    case atStart => exact ⟨0, Nat.zero_le _, rfl, Cp.start 4 _ n w C hsz⟩
    case round =>
      obtain ⟨k, hk, rfl, hcp⟩ := hrel
      clear hmk hnil hsz
      by_cases hlt : (k : Int) < (n : Int)
      · have hlt' : k < n := by omega
        obtain ⟨b, off, hx, hb, hc⟩ := hsl.at' (by omega)
        injection hx with hx2
        subst hx2
        have c0 : wr.cell? ⟨b, off + k, none⟩ = some (.bool (f k)) := (hcp.below.cell hb).trans (hc k hlt')
        obtain ⟨v, c1⟩ := hcp.rest k hlt'
        have f1 := hcp.fz k
        clear hc hsl
        go_wp2
        go_roundw
        case rel => exact ⟨k + 1, by omega, by go_num, hcp.step hlt'⟩
        case measure => simp [intOf]; omega
      · go_wp2
        go_ret
        exact ⟨SaysSl.mk ⟨fun _ => ⟨w.heap.size, 0, rfl, hcp.size, fun j hj => by rw [Nat.zero_add]; exact hcp.done j (by omega)⟩⟩ (fun h => by cases h), hcp.below⟩

theorem infoInts : (Try.prog.info? 3).map (fun i => (i.zero, i.size, i.bytes)) = some (some (.int .i64 0), 1, 8) := by kernel_rfl
theorem makeInts (n : Nat) (hn : n ≤ 1048576) (w : World) : (Instr.makeSlice 28 (.int .i64 (n : Int)) (.int .i64 (n : Int))).run Try.prog w =
    .ok (.slice (some ⟨w.heap.size, 0, none⟩) n n) (w.alloc (.cells (madeCells (Value.int .i64 0).cells n) 3)) := by
  obtain ⟨i0, hi, hz0, hz1, hz2⟩ := info_parts infoInts
  have := run_make (P := Try.prog) w 28 3 i0 (.int .i64 0) Try.underlying28 hi hz0 .i64 .i64 n n (by omega) (by omega) (by rw [hz2]; omega) (by omega)
  rw [hz1] at this
  simpa using this

set_option maxHeartbeats 1000000 in
theorem cloneInts (f : Nat → Int) (n cap : Nat) (a : Option Addr) (w : World) (hn : n ≤ 1048576) (ha : a = none → n = 0) (hsl : Sl w a n (fun k => .int .i64 (f k))) :
    Calls Try.prog 22 #[.slice a n cap] w fun e w' =>
      SaysSl n (fun k => .int .i64 (f k)) w' e ∧ Below w.heap.size w w' := by
  cases a with
  | none =>
    obtain rfl := ha rfl
    have hnil := fun (w : World) => Lib.run_eql_slice_nil (P := Try.prog) w 28 3 none 0 cap 0 0 Try.underlying28
    clear hsl
    go_enter Try.func22, Try.ntmps22
    go_wp2
    go_ret
    exact ⟨SaysSl.mk ⟨fun h => absurd h (Nat.lt_irrefl _)⟩ (fun _ => rfl), Below.refl _ _⟩
  | some x =>
    have hnil := fun (w : World) => Lib.run_eql_slice_nil (P := Try.prog) w 28 3 (some x) n cap 0 0 Try.underlying28
    have hmk := makeInts n hn
    have hsz : (madeCells (Value.int .i64 0).cells n).size = n := size_madeCells _ _
    obtain ⟨C, hC⟩ : ∃ C, madeCells (Value.int .i64 0).cells n = C := ⟨_, rfl⟩
    rw [hC] at hmk hsz
    clear hC
    go_enter Try.func22, Try.ntmps22
    go_wp2
    go_loopw [4] (fun i wr => ∃ k : Nat, k ≤ n ∧ i = .int .i64 k ∧ Cp 3 (fun k => .int .i64 (f k)) n w wr k) (fun i _ => n - (intOf i).toNat)
    case atStart => exact ⟨0, Nat.zero_le _, rfl, Cp.start 3 _ n w C hsz⟩
    case round =>
      obtain ⟨k, hk, rfl, hcp⟩ := hrel
      clear hmk hnil hsz
      by_cases hlt : (k : Int) < (n : Int)
      · have hlt' : k < n := by omega
        obtain ⟨b, off, hx, hb, hc⟩ := hsl.at' (by omega)
        injection hx with hx2
        subst hx2
        have c0 : wr.cell? ⟨b, off + k, none⟩ = some (.int .i64 (f k)) := (hcp.below.cell hb).trans (hc k hlt')
        obtain ⟨v, c1⟩ := hcp.rest k hlt'
        have f1 := hcp.fz k
        clear hc hsl
        go_wp2
        go_roundw
        case rel => exact ⟨k + 1, by omega, by go_num, hcp.step hlt'⟩
        case measure => simp [intOf]; omega
      · go_wp2
        go_ret
        exact ⟨SaysSl.mk ⟨fun _ => ⟨w.heap.size, 0, rfl, hcp.size, fun j hj => by rw [Nat.zero_add]; exact hcp.done j (by omega)⟩⟩ (fun h => by cases h), hcp.below⟩

end Go.Proofs.Qxb6600526a
