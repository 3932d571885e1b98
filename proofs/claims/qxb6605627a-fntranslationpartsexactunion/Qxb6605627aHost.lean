import Derived.Test.Qxb6605627aParts
namespace Go.Proofs.Qxb6605627a
open Go.ChangeShapes Go.WideShapes Go.ChangeAt Go.RowKit

theorem bytes_ne {a b : Array UInt8} (h : a ≠ b) : (⟨a⟩ : ByteArray) ≠ ⟨b⟩ := fun e => h (by cases e; rfl)

set_option maxHeartbeats 1000000 in
theorem host9 (w : World) : Calls Try.prog 9 #[] w fun e w' => IsParts w w' e [nHP, nPre, nOut, nHair] [] := by
  have hmm := @run_makeMap Try.prog
  obtain ⟨W0, h0⟩ : ∃ W0, W0 = w.alloc (.cells #[.map none, .map none] 24) := ⟨_, rfl⟩
  have s1 : SetMap (W0.alloc (.map #[] 0)) (w.heap.size + 1) [] := by
    have := SetMap.made W0
    rwa [h0, World.size_alloc, ← h0] at this
  obtain ⟨W1, up1, t1, b1⟩ := s1.put nHP (by simp)
  obtain ⟨W2, up2, t2, b2⟩ := t1.put nPre (by simp)
  obtain ⟨W3, up3, t3, b3⟩ := t2.put nOut (by simp)
  obtain ⟨W4, up4, t4, b4⟩ := t3.put nHair (by simp)
  have s5 := SetMap.made W4
  rw [h0] at up1
  have z4 : W4.heap.size = w.heap.size + 1 + 1 := by rw [b4.size, b3.size, b2.size, b1.size, h0]; simp
  have hb : (W4.alloc (.map #[] 0)).heap[w.heap.size]? = some (.cells #[.map none, .map none] 24 (0, 0)) := by
    rw [Below.heap_alloc _ _ _ (by omega), b4.block _ (by omega), b3.block _ (by omega), b2.block _ (by omega), b1.block _ (by omega), Below.heap_alloc _ _ _ (by rw [h0]; simp), h0]
    exact heap_alloc_new w _
  obtain ⟨W5, h5⟩ : ∃ W5, W5 = W4.alloc (.map #[] 0) := ⟨_, rfl⟩
  have mk5 : (Instr.makeMap 22 none).run Try.prog W4 = .ok (.map (some W4.heap.size)) W5 := by rw [h5]; exact run_makeMap _ _
  rw [z4] at mk5
  have bel : Below w.heap.size w W5 := by
    have k1 : Below w.heap.size w (W0.alloc (.map #[] 0)) := by rw [h0]; exact ((Below.refl _ _).alloc (Nat.le_refl _) _).alloc (by simp) _
    rw [h5]
    exact (((((k1.trans (b1.below (by omega))).trans (b2.below (by omega))).trans (b3.below (by omega))).trans (b4.below (by omega))).alloc (by omega) _)
  have hs : SetMap W5 (w.heap.size + 1) [nHP, nPre, nOut, nHair] := by rw [h5]; exact t4.alloc _
  rw [← h5, z4] at s5
  rw [← h5] at hb
  have c0 : W5.cell? ⟨w.heap.size, 0, none⟩ = some (.map none) := by rw [cell_of_row W5 _ 0 _ 24 (0, 0) hb]; rfl
  have c1 : W5.cell? ⟨w.heap.size, 1, none⟩ = some (.map none) := by rw [cell_of_row W5 _ 1 _ 24 (0, 0) hb]; rfl
  have f0 : W5.frozen? ⟨w.heap.size, 0, none⟩ = false := frozen_of_row W5 _ 0 _ 24 hb
  have f1 : W5.frozen? ⟨w.heap.size, 1, none⟩ = false := frozen_of_row W5 _ 1 _ 24 hb
  have hm0 := hmm 22 (w.alloc (.cells #[.map none, .map none] 24))
  clear h0 s1 t1 t2 t3 t4 b1 b2 b3 b4 hb h5 hmm
  go_enter Try.func9, Try.ntmps9
  go_wp2
  refine bodyPost_ret (v := .agg #[.map (some (w.heap.size + 1)), .map (some (w.heap.size + 1 + 1))]) (by simp [results, Try.results9, go_sem, c0, c1]) rfl ⟨_, _, rfl, SetMap.cell (SetMap.cell hs (by omega) _ _) (by omega) _ _, SetMap.cell (SetMap.cell s5 (by omega) _ _) (by omega) _ _, by omega, by omega, by omega, (bel.setCell (Nat.le_refl _) _).setCell (Nat.le_refl _) _⟩
end Go.Proofs.Qxb6605627a
