import Derived.Test.Qxb6605658aMem
import Derived.Laws.CopyOwn
namespace Go.Proofs.Qxb6605658a
open Go.ChangeShapes Go.WideShapes Go.ChangeAt Go.RowKit

theorem size9 : (Try.prog.info? 9).map (·.size) = some 1 := by kernel_rfl

theorem View.mono {w w1 : World} {a : Option Addr} {ss : List ByteArray} (v : View w a ss) (h : Below w.heap.size w w1) : View w1 a ss := by
  obtain ⟨b, o, hc, d⟩ := v
  exact ⟨b, o, fun j hj => (h.cell (p := ⟨b, o + j, none⟩) (cell_lt (hc j hj))).trans (hc j hj), d⟩

theorem View.own {w : World} {g : Nat} {ss : List ByteArray} (h : ∀ j, j < ss.length → w.cell? ⟨g, j, none⟩ = some (.string (sat ss j))) : View w (some ⟨g, 0, none⟩) ss :=
  ⟨g, 0, fun j hj => by rw [Nat.zero_add]; exact h j hj, .inr rfl⟩

theorem map_at (ss : List ByteArray) (j : Nat) (hj : j < ss.length) : (ss.map Value.string)[j]? = some (.string (sat ss j)) := by
  simp [sat, hj]

/-- 'zzc := make([]string, len(xs)); copy(zzc, xs)' -/
theorem copied (w : World) (x : Addr) (c : Nat) (ss : List ByteArray) (v : View w (some x) ss) :
    ∃ w1, (∀ ty, (Builtin.copy_ #[24, 24] ty #[.slice (some ⟨w.heap.size, 0, none⟩) ss.length ss.length, .slice (some x) ss.length c]).run Try.prog (w.alloc (.cells (srow ss.length) 9)) = .ok (.int .i64 ss.length) w1) ∧
      (∀ j, j < ss.length → w1.cell? ⟨w.heap.size, j, none⟩ = some (.string (sat ss j))) ∧ Below w.heap.size w w1 ∧ w1.heap.size = w.heap.size + 1 := by
  have bel : Below w.heap.size w (w.alloc (.cells (srow ss.length) 9)) := (Below.refl _ _).alloc (Nat.le_refl _) _
  by_cases hz : ss.length = 0
  · refine ⟨w.alloc (.cells (srow ss.length) 9), fun ty => ?_, fun j hj => by omega, bel, by simp⟩
    rw [run_copy_none (P := Try.prog) _ 24 24 ty 9 _ _ _ _ _ _ Try.underlying24 size9 (by rw [hz]; rfl), hz]
    rfl
  · obtain ⟨b, o, hc, d⟩ := v
    obtain rfl : x = ⟨b, o, none⟩ := by
      rcases d with d | d
      · omega
      · exact Option.some.inj d
    have hg : (w.alloc (.cells (srow ss.length) 9)).heap[w.heap.size]? = some (.cells (srow ss.length) 9 (0, 0)) := heap_alloc_new w _
    have hcs : ∀ j u, (ss.map Value.string)[j]? = some u → (w.alloc (.cells (srow ss.length) 9)).cell? (Addr.add ⟨b, o, none⟩ j) = some u := by
      intro j u hu
      have hj : j < ss.length := by
        have := (List.getElem?_eq_some_iff.1 hu).1
        simpa using this
      rw [map_at ss j hj] at hu
      rw [Addr.add_lit, ← hu, ← hc j hj]
      exact bel.cell (p := ⟨b, o + j, none⟩) (cell_lt (hc j hj))
    have hone : ∀ u ∈ ss.map Value.string, u.oneCell' = true := by
      intro u hu
      obtain ⟨_, _, rfl⟩ := List.mem_map.1 hu
      rfl
    have hrun := fun ty => run_copy_row (P := Try.prog) (w.alloc (.cells (srow ss.length) 9)) 24 24 ty 9 w.heap.size 0 ss.length ss.length ⟨b, o, none⟩ ss.length c (srow ss.length) 9 (ss.map Value.string) Try.underlying24 size9 hg (by simp) hcs (by simp [size_srow]) hone
    refine ⟨_, fun ty => (hrun ty).trans (by simp [goInt]; rfl), ?_, below_setRow bel (Nat.le_refl _) _, by simp [World.setRow]⟩
    intro j hj
    rw [cell_of_row _ w.heap.size j _ 9 (0, 0) (setRow_heap _ _ _ _ _ _ hg)]
    simp
    rw [List.getElem?_append_left (by simpa using hj)]
    exact map_at ss j hj
end Go.Proofs.Qxb6605658a
