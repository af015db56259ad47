/- The guards: zzBytes, fitBytes, formShaped. -/
import Derived.Test.Qxb6600526aSmall
namespace Go.Proofs.Qxb6600526a
open Go.RowKit Plain

/-- It answers a bool of which p holds. -/
def Says (p : Bool → Prop) (e : Ending) : Prop := ∃ b : Bool, e = .returned (.bool b) ∧ p b
theorem Says.mk {p : Bool → Prop} {b : Bool} (h : p b) : Says p (.returned (.bool b)) := ⟨b, rfl, h⟩
/-- It answers an int of which p holds. -/
def SaysI (p : Int → Prop) (e : Ending) : Prop := ∃ r : Int, e = .returned (.int .i64 r) ∧ p r
theorem SaysI.mk {p : Int → Prop} {r : Int} (h : p r) : SaysI p (.returned (.int .i64 r)) := ⟨r, rfl, h⟩

/-- A slice that came in: nil or not; where it has an element it leads to a row of cells f k. -/
structure Sl (w : World) (a : Option Addr) (n : Nat) (f : Nat → Value) : Prop where
  at' : 0 < n → ∃ b off, a = some ⟨b, off, none⟩ ∧ b < w.heap.size ∧ ∀ k, k < n → w.cell? ⟨b, off + k, none⟩ = some (f k)

set_option maxHeartbeats 2000000 in
set_option maxRecDepth 100000 in
theorem zzBytes_any (T E : Nat → ByteArray) (a0 a1 a2 a3 : Option Addr) (n0 c0 n1 c1 n2 c2 n3 c3 : Nat) (name : ByteArray) (w : World)
    (hn : n0 ≤ 9223372036854775807 ∧ n1 ≤ 9223372036854775807 ∧ n2 ≤ 9223372036854775807 ∧ n3 ≤ 9223372036854775807 ∧ name.size ≤ 9223372036854775807)
    (h0 : Sl w a0 n0 (fun k => .string (T k))) (h2 : Sl w a2 n2 (fun k => .string (E k))) :
    Calls Try.prog 17 #[.slice a0 n0 c0, .slice a1 n1 c1, .slice a2 n2 c2, .slice a3 n3 c3, .string name] w fun e w' => Says (fun _ => True) e ∧ w' = w := by
  obtain ⟨m0, m1, m2, m3, m4⟩ := hn
  go_enter Try.func17, Try.ntmps17
  go_wp2
  · go_ret
    exact ⟨Says.mk trivial, rfl⟩
  go_loop [11, 12] (fun z t => ∃ (Z : Int) (k : Nat), z = .int .i64 Z ∧ t = .int .i64 k ∧ 0 ≤ Z ∧ Z ≤ 1048576 ∧ k ≤ n0) (fun _ t => n0 - (intOf t).toNat)
  case atStart => exact ⟨_, 0, rfl, rfl, by omega, by omega, Nat.zero_le _⟩
  case round =>
    obtain ⟨Z, k, rfl, rfl, hZ1, hZ2, hk⟩ := hrel
    by_cases hlt : (k : Int) < (n0 : Int)
    · have hlt' : k < n0 := by omega
      obtain ⟨b0, off0, rfl, hb0, hc0⟩ := h0.at' (by omega)
      have cc := hc0 k hlt'
      clear hc0
      go_wp2
      · go_ret
        exact ⟨Says.mk trivial, rfl⟩
      · go_ret
        exact ⟨Says.mk trivial, rfl⟩
      · go_round
        case rel => exact ⟨_, k + 1, rfl, by go_num, by omega, by omega, by omega⟩
        case measure => simp [intOf]; omega
    · go_wp2
      any_goals (go_ret; exact ⟨Says.mk trivial, rfl⟩)
      go_loop [11, 13] (fun z t => ∃ (Z : Int) (k : Nat), z = .int .i64 Z ∧ t = .int .i64 k ∧ 0 ≤ Z ∧ Z ≤ 1048576 ∧ k ≤ n2) (fun _ t => n2 - (intOf t).toNat)
      case atStart => exact ⟨_, 0, rfl, rfl, by omega, by omega, Nat.zero_le _⟩
      case round =>
        obtain ⟨Z', k', rfl, rfl, hZ1', hZ2', hk'⟩ := hrel
        by_cases hlt2 : (k' : Int) < (n2 : Int)
        · have hlt2' : k' < n2 := by omega
          obtain ⟨b2, off2, rfl, hb2, hc2⟩ := h2.at' (by omega)
          have cc := hc2 k' hlt2'
          clear hc2
          go_wp2
          · go_ret
            exact ⟨Says.mk trivial, rfl⟩
          · go_ret
            exact ⟨Says.mk trivial, rfl⟩
          · go_round
            case rel => exact ⟨_, k' + 1, rfl, by go_num, by omega, by omega, by omega⟩
            case measure => simp [intOf]; omega
        · go_wp2
          all_goals go_ret
          all_goals exact ⟨Says.mk trivial, rfl⟩

/-- What fitBytes answers. -/
def FbP (T E : Nat → ByteArray) (n0 n1 n2 n3 : Nat) (name : ByteArray) (r : Int) : Prop :=
  1048576 < r ∨ (n0 ≤ 4096 ∧ n1 ≤ 4096 ∧ n2 ≤ 4096 ∧ n3 ≤ 4096 ∧ name.size ≤ 4096 ∧ (∀ k, k < n0 → (T k).size ≤ 1048576) ∧ ∀ k, k < n2 → (E k).size ≤ 1048576)

set_option maxHeartbeats 2000000 in
set_option maxRecDepth 100000 in
theorem fitBytes_any (T E : Nat → ByteArray) (a0 a1 a2 a3 : Option Addr) (n0 c0 n1 c1 n2 c2 n3 c3 : Nat) (name : ByteArray) (w : World)
    (h0 : Sl w a0 n0 (fun k => .string (T k))) (h2 : Sl w a2 n2 (fun k => .string (E k))) :
    Calls Try.prog 18 #[.slice a0 n0 c0, .slice a1 n1 c1, .slice a2 n2 c2, .slice a3 n3 c3, .string name] w fun e w' => SaysI (FbP T E n0 n1 n2 n3 name) e ∧ w' = w := by
  have HO : Hid (FbP T E n0 n1 n2 n3 name 1048577) := Or.inl (by omega)
  by_cases d0 : (4096 : Int) < (n0 : Int)
  · go_enter Try.func18, Try.ntmps18
    go_wp2
    go_ret
    exact ⟨SaysI.mk HO.out, rfl⟩
  by_cases d1 : (4096 : Int) < (n1 : Int)
  · go_enter Try.func18, Try.ntmps18
    go_wp2
    go_ret
    exact ⟨SaysI.mk HO.out, rfl⟩
  by_cases d2 : (4096 : Int) < (n2 : Int)
  · go_enter Try.func18, Try.ntmps18
    go_wp2
    go_ret
    exact ⟨SaysI.mk HO.out, rfl⟩
  by_cases d3 : (4096 : Int) < (n3 : Int)
  · go_enter Try.func18, Try.ntmps18
    go_wp2
    go_ret
    exact ⟨SaysI.mk HO.out, rfl⟩
  by_cases d4 : (4096 : Int) < (name.size : Int)
  · go_enter Try.func18, Try.ntmps18
    go_wp2
    go_ret
    exact ⟨SaysI.mk HO.out, rfl⟩
  go_enter Try.func18, Try.ntmps18
  go_wp2
  go_loop [11, 12] (fun z t => ∃ (Z : Int) (k : Nat), z = .int .i64 Z ∧ t = .int .i64 k ∧ 0 ≤ Z ∧ Z ≤ 1048576 ∧ k ≤ n0 ∧ Hid (∀ j, j < k → (T j).size ≤ 1048576)) (fun _ t => n0 - (intOf t).toNat)
  case atStart => exact ⟨_, 0, rfl, rfl, by omega, by omega, Nat.zero_le _, fun j h => by omega⟩
  case round =>
    obtain ⟨Z, k, rfl, rfl, hZ1, hZ2, hk, HT⟩ := hrel
    by_cases hlt : (k : Int) < (n0 : Int)
    · have hlt' : k < n0 := by omega
      obtain ⟨b0, off0, rfl, hb0, hc0⟩ := h0.at' (by omega)
      have cc := hc0 k hlt'
      clear hc0
      go_wp2
      · go_ret
        exact ⟨SaysI.mk HO.out, rfl⟩
      · go_ret
        exact ⟨SaysI.mk HO.out, rfl⟩
      · go_round
        case rel => exact ⟨_, k + 1, rfl, by go_num, by omega, by omega, by omega, fun j h => by
                            by_cases e : j = k
                            · subst e; omega
                            · exact HT.out j (by omega)⟩
        case measure => simp [intOf]; omega
    · go_wp2
      go_loop [11, 13] (fun z t => ∃ (Z : Int) (k : Nat), z = .int .i64 Z ∧ t = .int .i64 k ∧ 0 ≤ Z ∧ Z ≤ 1048576 ∧ k ≤ n2 ∧ Hid (∀ j, j < k → (E j).size ≤ 1048576)) (fun _ t => n2 - (intOf t).toNat)
      case atStart => exact ⟨_, 0, rfl, rfl, by omega, by omega, Nat.zero_le _, fun j h => by omega⟩
      case round =>
        obtain ⟨Z', k', rfl, rfl, hZ1', hZ2', hk', HE⟩ := hrel
        by_cases hlt2 : (k' : Int) < (n2 : Int)
        · have hlt2' : k' < n2 := by omega
          obtain ⟨b2, off2, rfl, hb2, hc2⟩ := h2.at' (by omega)
          have cc := hc2 k' hlt2'
          clear hc2
          go_wp2
          · go_ret
            exact ⟨SaysI.mk HO.out, rfl⟩
          · go_ret
            exact ⟨SaysI.mk HO.out, rfl⟩
          · go_round
            case rel => exact ⟨_, k' + 1, rfl, by go_num, by omega, by omega, by omega, fun j h => by
                                by_cases e : j = k'
                                · subst e; omega
                                · exact HE.out j (by omega)⟩
            case measure => simp [intOf]; omega
        · go_wp2
          go_ret
          exact ⟨SaysI.mk (Or.inr ⟨by omega, by omega, by omega, by omega, by omega, fun j h => HT.out j (by omega), fun j h => HE.out j (by omega)⟩), rfl⟩
end Go.Proofs.Qxb6600526a
