/- The model's three rows in memory. -/
import Derived.Test.Qxb6600526aClone
import Derived.Test.Qxb6600526aPlain2
namespace Go.Proofs.Qxb6600526a
open Go.RowKit Plain

/-- Two rows of bools (cur in block bc, next in block bn) and a row of numbers (block bk), all made by the call itself. -/
structure Md (N : Nat) (w wr : World) (bc bn bk : Nat) (cur nx : Nat → Bool) (ct : Nat → Int) : Prop where
  below : Below w.heap.size w wr
  hc : w.heap.size ≤ bc
  hn : w.heap.size ≤ bn
  hk : w.heap.size ≤ bk
  cn : bc ≠ bn
  ck : bc ≠ bk
  nk : bn ≠ bk
  cellC : ∀ p, p ≤ N → wr.cell? ⟨bc, p, none⟩ = some (.bool (cur p))
  cellN : ∀ p, p ≤ N → wr.cell? ⟨bn, p, none⟩ = some (.bool (nx p))
  cellK : ∀ p, p ≤ N + 1 → wr.cell? ⟨bk, p, none⟩ = some (.int .i64 (ct p))
  fzN : ∀ p, wr.frozen? ⟨bn, p, none⟩ = false
  fzK : ∀ p, wr.frozen? ⟨bk, p, none⟩ = false
  fzC : ∀ p, wr.frozen? ⟨bc, p, none⟩ = false

theorem ne_block {a b o p : Nat} (h : a ≠ b) : (⟨a, o, none⟩ : Addr) ≠ ⟨b, p, none⟩ := fun e => by injection e with e1 _ _; exact h e1
theorem ne_off {b o p : Nat} (h : o ≠ p) : (⟨b, o, none⟩ : Addr) ≠ ⟨b, p, none⟩ := fun e => by injection e with _ e2 _; exact h e2

theorem Md.swap {N : Nat} {w wr : World} {bc bn bk : Nat} {cur nx : Nat → Bool} {ct : Nat → Int} (h : Md N w wr bc bn bk cur nx ct) : Md N w wr bn bc bk nx cur ct :=
  ⟨h.below, h.hn, h.hc, h.hk, Ne.symm h.cn, h.nk, h.ck, h.cellN, h.cellC, h.cellK, h.fzC, h.fzK, h.fzN⟩
theorem Md.drewN {N : Nat} {w wr : World} {bc bn bk : Nat} {cur nx : Nat → Bool} {ct : Nat → Int} (h : Md N w wr bc bn bk cur nx ct) (q : Nat) : Md N w (wr.drewN q) bc bn bk cur nx ct :=
  ⟨below_drewN h.below q, h.hc, h.hn, h.hk, h.cn, h.ck, h.nk, h.cellC, h.cellN, h.cellK, h.fzN, h.fzK, h.fzC⟩
theorem Md.setN {N : Nat} {w wr : World} {bc bn bk : Nat} {cur nx : Nat → Bool} {ct : Nat → Int} (h : Md N w wr bc bn bk cur nx ct) (p : Nat) (hp : p ≤ N) (v : Bool) :
    Md N w (wr.setCell ⟨bn, p, none⟩ (.bool v)) bc bn bk cur (upd nx p v) ct where
  below := h.below.setCell h.hn _
  hc := h.hc
  hn := h.hn
  hk := h.hk
  cn := h.cn
  ck := h.ck
  nk := h.nk
  cellC := fun q hq => by rw [World.cell?_setCell_other _ _ _ _ (ne_block (Ne.symm h.cn))]; exact h.cellC q hq
  cellN := fun q hq => by
    by_cases e : q = p
    · subst e; rw [upd_same]; exact World.cell?_setCell_same _ _ _ (h.cellN q hq)
    · rw [World.cell?_setCell_other _ _ _ _ (ne_off (Ne.symm e)), upd_other _ _ _ _ e]; exact h.cellN q hq
  cellK := fun q hq => by rw [World.cell?_setCell_other _ _ _ _ (ne_block h.nk)]; exact h.cellK q hq
  fzN := fun q => by rw [World.frozen?_setCell]; exact h.fzN q
  fzK := fun q => by rw [World.frozen?_setCell]; exact h.fzK q
  fzC := fun q => by rw [World.frozen?_setCell]; exact h.fzC q
theorem Md.setK {N : Nat} {w wr : World} {bc bn bk : Nat} {cur nx : Nat → Bool} {ct : Nat → Int} (h : Md N w wr bc bn bk cur nx ct) (p : Nat) (hp : p ≤ N + 1) (v : Int) :
    Md N w (wr.setCell ⟨bk, p, none⟩ (.int .i64 v)) bc bn bk cur nx (updI ct p v) where
  below := h.below.setCell h.hk _
  hc := h.hc
  hn := h.hn
  hk := h.hk
  cn := h.cn
  ck := h.ck
  nk := h.nk
  cellC := fun q hq => by rw [World.cell?_setCell_other _ _ _ _ (ne_block (Ne.symm h.ck))]; exact h.cellC q hq
  cellN := fun q hq => by rw [World.cell?_setCell_other _ _ _ _ (ne_block (Ne.symm h.nk))]; exact h.cellN q hq
  cellK := fun q hq => by
    by_cases e : q = p
    · subst e; rw [updI_same]; exact World.cell?_setCell_same _ _ _ (h.cellK q hq)
    · rw [World.cell?_setCell_other _ _ _ _ (ne_off (Ne.symm e)), updI_other _ _ _ _ e]; exact h.cellK q hq
  fzN := fun q => by rw [World.frozen?_setCell]; exact h.fzN q
  fzK := fun q => by rw [World.frozen?_setCell]; exact h.fzK q
  fzC := fun q => by rw [World.frozen?_setCell]; exact h.fzC q

theorem made_bool (n k : Nat) (h : k < n) : (madeCells (Value.bool false).cells n)[k]? = some (.bool false) := by
  simp [madeCells, h, Value.cells, Nat.mod_one]
theorem made_int (n k : Nat) (h : k < n) : (madeCells (Value.int .i64 0).cells n)[k]? = some (.int .i64 0) := by
  simp [madeCells, h, Value.cells, Nat.mod_one]

/-- The rows as they are made, the first place marked. -/
theorem Md.start (N : Nat) (w : World) (A B K : Array Value) (hA : ∀ k, k ≤ N → A[k]? = some (.bool (k == 0))) (hB : ∀ k, k ≤ N → B[k]? = some (.bool false)) (hK : ∀ k, k ≤ N + 1 → K[k]? = some (.int .i64 0)) :
    Md N w (((w.alloc (.cells A 4)).alloc (.cells B 4)).alloc (.cells K 3)) w.heap.size (w.heap.size + 1) (w.heap.size + 1 + 1) (fun q => q == 0) (fun _ => false) (fun _ => 0) where
  below := (((Below.refl _ _).alloc (Nat.le_refl _) _).alloc (by simp) _).alloc (by simp; omega) _
  hc := Nat.le_refl _
  hn := by omega
  hk := by omega
  cn := by omega
  ck := by omega
  nk := by omega
  cellC := fun p hp => by
    rw [World.cell?_alloc_lt _ _ _ (by simp; omega), World.cell?_alloc_lt _ _ _ (by simp), World.cell?_alloc_at _ _ _ _ rfl]; exact hA p hp
  cellN := fun p hp => by
    rw [World.cell?_alloc_lt _ _ _ (by simp), World.cell?_alloc_at _ _ _ _ (by simp)]; exact hB p hp
  cellK := fun p hp => by
    rw [World.cell?_alloc_at _ _ _ _ (by simp)]; exact hK p hp
  fzN := fun p => by
    rw [World.frozen?_alloc_past _ _ _ (by simp), World.frozen?_alloc_at _ _ _ _ (by simp)]
  fzK := fun p => World.frozen?_alloc_at _ _ _ _ (by simp)
  fzC := fun p => by
    rw [World.frozen?_alloc_past _ _ _ (by simp; omega), World.frozen?_alloc_past _ _ _ (by simp), World.frozen?_alloc_at _ _ _ _ rfl]
end Go.Proofs.Qxb6600526a
