import Derived.Test.Qxb6605628aRSmall
import Derived.LoopN
namespace Go.Proofs.Qxb6605628aR.Lz
open Go.ChangeShapes Go.WideShapes Go.ChangeAt Go.RowKit
set_option linter.unusedVariables false

/-- A variable of type [4]uint32 in block M. -/
structure Arr (w : World) (M : Nat) (a : Nat → Int) : Prop where
  blk : w.heap[M]? = some (.cells #[.int .u32 (a 0), .int .u32 (a 1), .int .u32 (a 2), .int .u32 (a 3)] 23 (0, 0))
theorem Arr.c0 {w : World} {M : Nat} {a : Nat → Int} (h : Arr w M a) : w.cell? ⟨M, 0, none⟩ = some (.int .u32 (a 0)) := by rw [cell_of_row w M 0 _ 23 (0, 0) h.blk]; rfl
theorem Arr.c1 {w : World} {M : Nat} {a : Nat → Int} (h : Arr w M a) : w.cell? ⟨M, 1, none⟩ = some (.int .u32 (a 1)) := by rw [cell_of_row w M 1 _ 23 (0, 0) h.blk]; rfl
theorem Arr.c2 {w : World} {M : Nat} {a : Nat → Int} (h : Arr w M a) : w.cell? ⟨M, 2, none⟩ = some (.int .u32 (a 2)) := by rw [cell_of_row w M 2 _ 23 (0, 0) h.blk]; rfl
theorem Arr.c3 {w : World} {M : Nat} {a : Nat → Int} (h : Arr w M a) : w.cell? ⟨M, 3, none⟩ = some (.int .u32 (a 3)) := by rw [cell_of_row w M 3 _ 23 (0, 0) h.blk]; rfl
theorem Arr.fr {w : World} {M : Nat} {a : Nat → Int} (h : Arr w M a) (i : Nat) : w.frozen? ⟨M, i, none⟩ = false := frozen_of_row w M i _ 23 h.blk
theorem Arr.lt {w : World} {M : Nat} {a : Nat → Int} (h : Arr w M a) : M < w.heap.size := (Array.getElem?_eq_some_iff.1 h.blk).1
theorem Arr.older {w w' : World} {M : Nat} {a : Nat → Int} (h : Arr w M a) (b : Below w.heap.size w w') : Arr w' M a := ⟨(b.block M h.lt).trans h.blk⟩
theorem Arr.frm {w w' : World} {M q P B : Nat} {a : Nat → Int} (h : Arr w M a) (f : Frm q P B w w') (hq : M ≠ q) (hP : M ≠ P) : Arr w' M a := ⟨f.block M _ _ hq hP (by decide) h.blk⟩

theorem cell_lt {w : World} {b o : Nat} {v : Value} (h : w.cell? ⟨b, o, none⟩ = some v) : b < w.heap.size := by
  unfold World.cell? at h
  by_cases hb : b < w.heap.size
  · exact hb
  · have : w.heap[b]? = none := by simp; omega
    simp [this] at h
/-- The script: the three numbers of each of its calls. -/
structure Cls (w : World) (p : Option Addr) (len : Nat) (I L S : Nat → Int) : Prop where
  at' : ∃ b off, (len = 0 ∨ p = some ⟨b, off, none⟩) ∧ ∀ k, k < len → w.cell? ⟨b, off + k * 3, none⟩ = some (.int .u32 (I k)) ∧ w.cell? ⟨b, off + k * 3 + 1, none⟩ = some (.int .u32 (L k)) ∧ w.cell? ⟨b, off + k * 3 + 2, none⟩ = some (.int .u32 (S k))
  i : ∀ k, k < len → 0 ≤ I k ∧ I k < 4294967296
  l : ∀ k, k < len → 0 ≤ L k ∧ L k < 4294967296
  s : ∀ k, k < len → 0 ≤ S k ∧ S k < 4294967296
theorem Cls.get {w wr : World} {p : Option Addr} {len : Nat} {I L S : Nat → Int} (h : Cls w p len I L S) (bel : Below w.heap.size w wr) {k : Nat} (hk : k < len) : ∃ b off, p = some ⟨b, off, none⟩ ∧ wr.cell? ⟨b, off + k * 3, none⟩ = some (.int .u32 (I k)) ∧ wr.cell? ⟨b, off + k * 3 + 1, none⟩ = some (.int .u32 (L k)) ∧ wr.cell? ⟨b, off + k * 3 + 2, none⟩ = some (.int .u32 (S k)) := by
  obtain ⟨b, off, h1, h2⟩ := h.at'
  obtain ⟨c0, c1, c2⟩ := h2 k hk
  exact ⟨b, off, h1.resolve_left (by omega), (bel.cell (cell_lt c0)).trans c0, (bel.cell (cell_lt c1)).trans c1, (bel.cell (cell_lt c2)).trans c2⟩

theorem f26_no (w : World) (st r0 r1 r2 r3 : Int) (p : Option Addr) (len cap : Nat) (h : 1048576 < (len : Int)) :
    Calls Try.prog 26 #[.int .u32 st, .agg #[.int .u32 r0, .int .u32 r1, .int .u32 r2, .int .u32 r3], .slice p len cap] w fun e w' => e = .returned (.bool false) ∧ Below w.heap.size w w' := by
  go_enter Try.func26, Try.ntmps26
  go_wp2
  go_ret
  exact ⟨rfl, (Below.refl _ _).alloc (Nat.le_refl _) _⟩
theorem f26_yes (w : World) (st r0 r1 r2 r3 : Int) (p : Option Addr) (len cap : Nat) (h : (len : Int) ≤ 1048576) :
    Calls Try.prog 26 #[.int .u32 st, .agg #[.int .u32 r0, .int .u32 r1, .int .u32 r2, .int .u32 r3], .slice p len cap] w fun e w' => e = .returned (.bool true) ∧ Below w.heap.size w w' := by
  go_enter Try.func26, Try.ntmps26
  go_wp2
  go_ret
  exact ⟨rfl, (Below.refl _ _).alloc (Nat.le_refl _) _⟩
end Go.Proofs.Qxb6605628aR.Lz
