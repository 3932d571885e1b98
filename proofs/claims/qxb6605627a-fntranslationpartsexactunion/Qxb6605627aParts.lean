import Derived.Test.Qxb6605627aCopy
namespace Go.Proofs.Qxb6605627a
open Go.ChangeShapes Go.WideShapes Go.ChangeAt Go.RowKit

/-- A call ended in a Parts: two maps, new and apart, which name C and S. -/
def IsParts (w w' : World) (e : Ending) (C S : List ByteArray) : Prop :=
  ∃ bc bs, e = .returned (.agg #[.map (some bc), .map (some bs)]) ∧ SetMap w' bc C ∧ SetMap w' bs S ∧ bc ≠ bs ∧ w.heap.size ≤ bc ∧ w.heap.size ≤ bs ∧ Below w.heap.size w w'

theorem new15 (w : World) : Calls Try.prog 15 #[] w fun e w' => IsParts w w' e [] [] := by
  have hmm := @run_makeMap Try.prog
  have s1 : ∀ o, SetMap (((w.alloc o).alloc (.map #[] 0)).alloc (.map #[] 0)) (w.heap.size + 1) [] := fun o => by
    have := (SetMap.made (w.alloc o)).alloc (.map #[] 0)
    rwa [World.size_alloc] at this
  have s2 : ∀ o, SetMap (((w.alloc o).alloc (.map #[] 0)).alloc (.map #[] 0)) (w.heap.size + 1 + 1) [] := fun o => by
    have := SetMap.made ((w.alloc o).alloc (.map #[] 0))
    rwa [World.size_alloc, World.size_alloc] at this
  have bel : ∀ o, Below w.heap.size w (((w.alloc o).alloc (.map #[] 0)).alloc (.map #[] 0)) := fun o => (((Below.refl _ _).alloc (Nat.le_refl _) _).alloc (by simp) _).alloc (by simp; omega) _
  go_enter Try.func15, Try.ntmps15
  go_wp2
  exact bodyPost_ret (v := .agg #[.map (some (w.heap.size + 1)), .map (some (w.heap.size + 1 + 1))]) (by simp [results, Try.results15, go_sem]) rfl ⟨_, _, rfl, s1 _, s2 _, by omega, by omega, by omega, bel _⟩

theorem SetMap.cell {w : World} {b : Nat} {S : List ByteArray} (h : SetMap w b S) {i : Nat} (hi : b ≠ i) (o : Nat) (v : Value) : SetMap (w.setCell ⟨i, o, none⟩ v) b S := by
  obtain ⟨es, clock, hb, r⟩ := h
  exact ⟨es, clock, (Below.heap_setCell w ⟨i, o, none⟩ v b hi).trans hb, r⟩

abbrev nNat : ByteArray := ⟨#[110, 97, 116, 45, 111, 117, 116, 103, 111, 105, 110, 103]⟩
abbrev nEx : ByteArray := ⟨#[110, 97, 116, 45, 111, 117, 116, 103, 111, 105, 110, 103, 45, 101, 120, 101, 109, 112, 116]⟩
abbrev nHP : ByteArray := ⟨#[104, 111, 115, 116, 45, 112, 111, 114, 116, 115]⟩
abbrev nPre : ByteArray := ⟨#[104, 111, 115, 116, 45, 112, 111, 114, 116, 115, 45, 112, 114, 101, 114, 111, 117, 116, 105, 110, 103]⟩
abbrev nOut : ByteArray := ⟨#[104, 111, 115, 116, 45, 112, 111, 114, 116, 115, 45, 111, 117, 116, 112, 117, 116]⟩
abbrev nHair : ByteArray := ⟨#[104, 111, 115, 116, 45, 112, 111, 114, 116, 115, 45, 104, 97, 105, 114, 112, 105, 110]⟩
abbrev nVx : ByteArray := ⟨#[118, 120, 108, 97, 110, 45, 112, 101, 101, 114, 115]⟩
abbrev nNo : ByteArray := ⟨#[110, 111, 45, 115, 117, 99, 104, 45, 112, 97, 114, 116]⟩

set_option maxHeartbeats 1000000 in
theorem nat8 (w : World) : Calls Try.prog 8 #[] w fun e w' => IsParts w w' e [nNat] [nEx] := by
  have hmm := @run_makeMap Try.prog
  obtain ⟨W0, h0⟩ : ∃ W0, W0 = w.alloc (.cells #[.map none, .map none] 24) := ⟨_, rfl⟩
  have s1 : SetMap (W0.alloc (.map #[] 0)) (w.heap.size + 1) [] := by
    have := SetMap.made W0
    rwa [h0, World.size_alloc, ← h0] at this
  obtain ⟨W2, up1, s2, b2⟩ := s1.put nNat (by simp)
  have s3 := SetMap.made W2
  obtain ⟨W4, up2, s4, b4⟩ := s3.put nEx (by simp)
  rw [h0] at up1
  have z2 : W2.heap.size = w.heap.size + 1 + 1 := by rw [b2.size, h0]; simp
  have hb : W4.heap[w.heap.size]? = some (.cells #[.map none, .map none] 24 (0, 0)) := by
    rw [b4.block _ (by omega), Below.heap_alloc _ _ _ (by omega), b2.block _ (by omega), Below.heap_alloc _ _ _ (by rw [h0]; simp), h0]
    exact heap_alloc_new w _
  have c0 : W4.cell? ⟨w.heap.size, 0, none⟩ = some (.map none) := by rw [cell_of_row W4 _ 0 _ 24 (0, 0) hb]; rfl
  have c1 : W4.cell? ⟨w.heap.size, 1, none⟩ = some (.map none) := by rw [cell_of_row W4 _ 1 _ 24 (0, 0) hb]; rfl
  have f0 : W4.frozen? ⟨w.heap.size, 0, none⟩ = false := frozen_of_row W4 _ 0 _ 24 hb
  have f1 : W4.frozen? ⟨w.heap.size, 1, none⟩ = false := frozen_of_row W4 _ 1 _ 24 hb
  have bel : Below w.heap.size w W4 := by
    have k1 : Below w.heap.size w (W0.alloc (.map #[] 0)) := by rw [h0]; exact ((Below.refl _ _).alloc (Nat.le_refl _) _).alloc (by simp) _
    exact ((k1.trans (b2.below (by omega))).alloc (by omega) _).trans (b4.below (by omega))
  have s2' : SetMap W4 (w.heap.size + 1) [nNat] := b4.set (by omega) (s2.alloc _)
  rw [z2] at up2 s4
  clear h0 s1 s2 s3 b2 b4 hb
  go_enter Try.func8, Try.ntmps8
  go_wp2
  refine bodyPost_ret (v := .agg #[.map (some (w.heap.size + 1)), .map (some (w.heap.size + 1 + 1))]) (by simp [results, Try.results8, go_sem, c0, c1]) rfl ⟨_, _, rfl, SetMap.cell (SetMap.cell s2' (by omega) _ _) (by omega) _ _, SetMap.cell (SetMap.cell s4 (by omega) _ _) (by omega) _ _, by omega, by omega, by omega, (bel.setCell (Nat.le_refl _) _).setCell (Nat.le_refl _) _⟩
end Go.Proofs.Qxb6605627a
