import Derived.Test.Qxb6605628aRArr
import Derived.Laws.CopyOwn
import Derived.Lib.SliceRun
namespace Go.Proofs.Qxb6605628aR.Lz
open Go.ChangeShapes Go.WideShapes Go.ChangeAt Go.RowKit
set_option linter.unusedVariables false

theorem size5 : (Try.prog.info? 5).map (·.size) = some 1 := by kernel_rfl
/-- A row of bytes as 'make' lays it. -/
def brow (n : Nat) : Array Value := madeCells #[.int .u8 0] n
theorem size_brow (n : Nat) : (brow n).size = n := size_madeCells _ _
theorem make_b (n : Nat) (hn : n ≤ 1048576) (w : World) : (Instr.makeSlice 25 (.int .i64 (n : Int)) (.int .i64 (n : Int))).run Try.prog w = .ok (.slice (some ⟨w.heap.size, 0, none⟩) n n) (w.alloc (.cells (brow n) 5)) := by
  obtain ⟨i, hi, hz0, hz1, hz2⟩ := info_parts info5
  have h := run_make (P := Try.prog) w 25 5 i _ Try.underlying25 hi hz0 .i64 .i64 (n : Int) (n : Int) (by omega) (by omega) (by rw [hz2]; omega) (by omega)
  rw [h, hz1]
  simp only [Int.toNat_natCast, Nat.mul_one]
  rfl

/-- A slice of bytes that came in. -/
structure Bv (w : World) (p : Option Addr) (bs : List Int) : Prop where
  at' : ∃ b off, (bs.length = 0 ∨ p = some ⟨b, off, none⟩) ∧ ∀ j, j < bs.length → w.cell? ⟨b, off + j, none⟩ = some (.int .u8 (bs.getD j 0))
  nil : p = none → bs = []
theorem Bv.older {w w' : World} {p : Option Addr} {bs : List Int} (h : Bv w p bs) (bel : Below w.heap.size w w') : Bv w' p bs := by
  obtain ⟨⟨b, off, h1, h2⟩, h3⟩ := h
  exact ⟨⟨b, off, h1, fun j hj => (bel.cell (cell_lt (h2 j hj))).trans (h2 j hj)⟩, h3⟩
theorem byte_at (bs : List Int) (j : Nat) (hj : j < bs.length) : (bs.map (Value.int .u8))[j]? = some (.int .u8 (bs.getD j 0)) := by
  simp [hj]

/-- 'c := make([]byte, len(s)); copy(c, s)' -/
theorem copied (w : World) (x : Addr) (c : Nat) (bs : List Int) (v : Bv w (some x) bs) :
    ∃ w1, (∀ ty, (Builtin.copy_ #[25, 25] ty #[.slice (some ⟨w.heap.size, 0, none⟩) bs.length bs.length, .slice (some x) bs.length c]).run Try.prog (w.alloc (.cells (brow bs.length) 5)) = .ok (.int .i64 bs.length) w1) ∧
      (∃ C, w1.heap[w.heap.size]? = some (.cells C 5 (0, 0)) ∧ C.size = bs.length ∧ C.toList.take bs.length = bs.map (Value.int .u8)) ∧ Below w.heap.size w w1 := by
  have bel : Below w.heap.size w (w.alloc (.cells (brow bs.length) 5)) := (Below.refl _ _).alloc (Nat.le_refl _) _
  have hg : (w.alloc (.cells (brow bs.length) 5)).heap[w.heap.size]? = some (.cells (brow bs.length) 5 (0, 0)) := heap_alloc_new w _
  by_cases hz : bs.length = 0
  · refine ⟨w.alloc (.cells (brow bs.length) 5), fun ty => ?_, ⟨_, hg, size_brow _, ?_⟩, bel⟩
    · rw [run_copy_none (P := Try.prog) _ 25 25 ty 5 _ _ _ _ _ _ Try.underlying25 size5 (by rw [hz]; rfl), hz]
      rfl
    · rw [List.length_eq_zero_iff.1 hz]; rfl
  · obtain ⟨⟨b, o, d, hc⟩, _⟩ := v
    obtain rfl : x = ⟨b, o, none⟩ := by
      rcases d with d | d
      · omega
      · exact Option.some.inj d
    have hcs : ∀ j u, (bs.map (Value.int .u8))[j]? = some u → (w.alloc (.cells (brow bs.length) 5)).cell? (Addr.add ⟨b, o, none⟩ j) = some u := by
      intro j u hu
      have hj : j < bs.length := by
        have := (List.getElem?_eq_some_iff.1 hu).1
        simpa using this
      rw [byte_at bs j hj] at hu
      rw [Addr.add_lit, ← hu, ← hc j hj]
      exact bel.cell (p := ⟨b, o + j, none⟩) (cell_lt (hc j hj))
    have hone : ∀ u ∈ bs.map (Value.int .u8), u.oneCell' = true := by
      intro u hu
      obtain ⟨_, _, rfl⟩ := List.mem_map.1 hu
      rfl
    have hrun := fun ty => run_copy_row (P := Try.prog) (w.alloc (.cells (brow bs.length) 5)) 25 25 ty 5 w.heap.size 0 bs.length bs.length ⟨b, o, none⟩ bs.length c (brow bs.length) 5 (bs.map (Value.int .u8)) Try.underlying25 size5 hg (by simp) hcs (by simp [size_brow]) hone
    refine ⟨_, fun ty => (hrun ty).trans (by simp [goInt]; rfl), ⟨_, setRow_heap _ _ _ _ _ _ hg, ?_, ?_⟩, below_setRow bel (Nat.le_refl _) _⟩
    · simp [size_brow]
    · simp

set_option maxHeartbeats 1000000 in
/-- zzCloneBytes. -/
theorem clone8 (w : World) (p : Option Addr) (c : Nat) (bs : List Int) (v : Bv w p bs) (hl : bs.length ≤ 1048576) :
    Calls Try.prog 8 #[.slice p bs.length c] w fun e w' => ∃ v', e = .returned v' ∧ w'.ownsRow w.heap.size 5 1 v' bs.length (bs.map (Value.int .u8)) ∧ Below w.heap.size w w' := by
  cases p with
  | none =>
    obtain rfl := v.nil rfl
    have hnil := fun w => Lib.run_eql_slice_nil (P := Try.prog) w 25 5 none 0 c 0 0 Try.underlying25
    go_enter Try.func8, Try.ntmps8
    go_wp2
    go_ret
    exact ⟨_, rfl, ⟨rfl, .inl ⟨rfl, rfl⟩⟩, Below.refl _ _⟩
  | some x =>
    obtain ⟨w1, hrun, ⟨C, hC, hs, ht⟩, bel⟩ := copied w x c bs v
    have hnil := fun w => Lib.run_eql_slice_nil (P := Try.prog) w 25 5 (some x) bs.length c 0 0 Try.underlying25
    have hmk := make_b bs.length hl w
    go_enter Try.func8, Try.ntmps8
    go_wp2
    go_ret
    exact ⟨_, rfl, ⟨by simp, .inr ⟨w.heap.size, bs.length, C, rfl, Nat.le_refl _, hC, Nat.le_refl _, by unfold maxLen; omega, by omega, by rw [Nat.mul_one]; exact ht⟩⟩, bel⟩
end Go.Proofs.Qxb6605628aR.Lz
