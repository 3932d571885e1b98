import Derived.Test.Qxb6605628aRWin
namespace Go.Proofs.Qxb6605628aR.Win
open Go.RowKit

/-- A table of n numbers in block b, the first k of them v. -/
def Tab (w : World) (b n k : Nat) (v : Int) : Prop :=
  ∃ cur : Array Value, w.heap[b]? = some (.cells cur 22 (0, 0)) ∧ cur.size = n ∧ (∀ j, j < n → ∃ z, cur[j]? = some (.int .u32 z)) ∧ ∀ j, j < k → cur[j]? = some (.int .u32 v)

/-- wr is W but for the cells of block b. -/
structure But (W wr : World) (b : Nat) : Prop where
  os : wr.os = W.os
  tape : wr.tape = W.tape
  output : wr.output = W.output
  size : wr.heap.size = W.heap.size
  block : ∀ i, i ≠ b → wr.heap[i]? = W.heap[i]?

theorem But.refl (W : World) (b : Nat) : But W W b := ⟨rfl, rfl, rfl, rfl, fun _ _ => rfl⟩
theorem But.setCell {W wr : World} {b : Nat} (h : But W wr b) (o : Nat) (u : Value) : But W (wr.setCell ⟨b, o, none⟩ u) b :=
  ⟨h.os, h.tape, h.output, by rw [← h.size]; simp [World.setCell], fun i hi => (Below.heap_setCell _ _ _ _ hi).trans (h.block i hi)⟩
theorem But.below {W wr : World} {b B : Nat} (h : But W wr b) (hb : B ≤ b) : Below B W wr :=
  ⟨h.os, h.tape, h.output, by rw [h.size]; exact Nat.le_refl _, fun i hi => h.block i (by omega)⟩
theorem But.cell {W wr : World} {b : Nat} (h : But W wr b) (i o : Nat) (hi : i ≠ b) : wr.cell? ⟨i, o, none⟩ = W.cell? ⟨i, o, none⟩ := World.cell?_of_block (w := W) (h.block i hi)
theorem But.tab {W wr : World} {b i n k : Nat} {v : Int} (h : But W wr b) (hi : i ≠ b) (t : Tab W i n k v) : Tab wr i n k v := by
  obtain ⟨cur, h1, r⟩ := t
  exact ⟨cur, (h.block i hi).trans h1, r⟩

theorem Tab.made {w : World} {b n : Nat} (h : w.heap[b]? = some (.cells (row n) 22 (0, 0))) : Tab w b n n 0 :=
  ⟨row n, h, size_row n, fun j hj => ⟨0, row_at n j hj⟩, fun j hj => row_at n j hj⟩
theorem Tab.start {w : World} {b n k : Nat} {v : Int} (t : Tab w b n k v) (u : Int) : Tab w b n 0 u := by
  obtain ⟨cur, h1, h2, h3, _⟩ := t
  exact ⟨cur, h1, h2, h3, fun j hj => absurd hj (Nat.not_lt_zero j)⟩
theorem Tab.ex {w : World} {b n k : Nat} {v : Int} (t : Tab w b n k v) (j : Nat) (hj : j < n) : ∃ z, w.cell? ⟨b, j, none⟩ = some (.int .u32 z) := by
  obtain ⟨cur, h1, _, h3, _⟩ := t
  obtain ⟨z, hz⟩ := h3 j hj
  exact ⟨z, by rw [cell_of_row w b j cur 22 (0, 0) h1]; exact hz⟩
theorem Tab.val {w : World} {b n k : Nat} {v : Int} (t : Tab w b n k v) (j : Nat) (hj : j < k) : w.cell? ⟨b, j, none⟩ = some (.int .u32 v) := by
  obtain ⟨cur, h1, _, _, h4⟩ := t
  rw [cell_of_row w b j cur 22 (0, 0) h1]; exact h4 j hj
theorem Tab.frozen {w : World} {b n k : Nat} {v : Int} (t : Tab w b n k v) (j : Nat) : w.frozen? ⟨b, j, none⟩ = false := by
  obtain ⟨cur, h1, _⟩ := t
  exact frozen_of_row w b j cur 22 h1
theorem Tab.step {w : World} {b n k : Nat} {v : Int} (t : Tab w b n k v) (hk : k < n) : Tab (w.setCell ⟨b, k, none⟩ (.int .u32 v)) b n (k + 1) v := by
  obtain ⟨cur, h1, h2, h3, h4⟩ := t
  refine ⟨cur.setIfInBounds k (.int .u32 v), heap_setCell_same w b k cur 22 _ h1, by simpa using h2, fun j hj => ?_, fun j hj => ?_⟩
  · rw [Array.getElem?_setIfInBounds]
    split
    · rw [if_pos (by omega)]; exact ⟨v, rfl⟩
    · exact h3 j hj
  · rw [Array.getElem?_setIfInBounds]
    split
    · rw [if_pos (by omega)]
    · exact h4 j (by omega)
end Go.Proofs.Qxb6605628aR.Win
