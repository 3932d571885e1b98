import Derived.Test.Qxb6605627aJoin
namespace Go.Proofs.Qxb6605627a
open Go.ChangeShapes Go.WideShapes Go.ChangeAt Go.RowKit

abbrev chains : List ByteArray := [nNat, nHP, nPre, nOut, nHair]
abbrev sets : List ByteArray := [nEx]

set_option maxHeartbeats 2000000 in
theorem trans6 (w : World) : Calls Try.prog 6 #[] w fun e w' => ∃ C S, IsParts w w' e C S ∧ (∀ x, x ∈ C ↔ x ∈ chains) ∧ ∀ x, x ∈ S ↔ x ∈ sets := by
  go_enter Try.func6, Try.ntmps6
  go_wp2_with fail
  refine (nat8 _).mono ?_
  rintro e w1 ⟨c1, s1, rfl, mc1, ms1, n1, l1, l1', bel1⟩
  go_wp2_with fail
  refine (host9 _).mono ?_
  rintro e w2 ⟨c2, s2, rfl, mc2, ms2, n2, l2, l2', bel2⟩
  have hz1 : w.heap.size + 1 ≤ w1.heap.size := by have := bel1.size; simpa using this
  have hz2 := bel2.size
  have g0 : w2.heap[w.heap.size]? = some (.cells #[.map none, .map none] 24 (0, 0)) := by
    rw [bel2.block _ (by omega), bel1.block _ (by simp)]
    exact heap_alloc_new w _
  have mc1 := mc1.below bel2
  have ms1 := ms1.below bel2
  have bel : Below w.heap.size w w2 := (((Below.refl _ w).alloc (Nat.le_refl _) _).trans (bel1.mono (by simp))).trans (bel2.mono (by omega))
  clear l1 l1' l2 l2' n1 n2 bel1 bel2 hz1 hz2
  go_wp2_with fail
  have hb := heap_alloc_new w2 (Obj.cells #[.map (some c1), .map (some s1), .map (some c2), .map (some s2)] 24)
  refine (join13 w2.heap.size c1 s1 c2 s2 _ _ _ _ _ (by rw [cell_of_row _ _ 0 _ 24 (0, 0) hb]; rfl) (by rw [cell_of_row _ _ 1 _ 24 (0, 0) hb]; rfl) (by rw [cell_of_row _ _ 2 _ 24 (0, 0) hb]; rfl) (by rw [cell_of_row _ _ 3 _ 24 (0, 0) hb]; rfl) (by simp)
    (mc1.alloc _) (ms1.alloc _) (mc2.alloc _) (ms2.alloc _) (by simp) (by simp)).mono ?_
  rintro e w3 ⟨C, S, ⟨jc, js, rfl, mC, mS, hne, l1, l2, bel3⟩, iC, iS⟩
  have bw := bel.size
  have lz : w2.heap.size + 1 ≤ w3.heap.size := by have := bel3.size; simpa using this
  have g1 : w.heap.size < w2.heap.size := (Array.getElem?_eq_some_iff.1 g0).1
  have l1' : w2.heap.size + 1 ≤ jc := by simpa using l1
  have l2' : w2.heap.size + 1 ≤ js := by simpa using l2
  have g3 : w3.heap[w.heap.size]? = some (.cells #[.map none, .map none] 24 (0, 0)) := by
    rw [bel3.block _ (by simp; omega), Below.heap_alloc _ _ _ g1]; exact g0
  have r0 : w3.cell? ⟨w.heap.size, 0, none⟩ = some (.map none) := by rw [cell_of_row w3 _ 0 _ 24 (0, 0) g3]; rfl
  have r1 : w3.cell? ⟨w.heap.size, 1, none⟩ = some (.map none) := by rw [cell_of_row w3 _ 1 _ 24 (0, 0) g3]; rfl
  have f0 : w3.frozen? ⟨w.heap.size, 0, none⟩ = false := frozen_of_row w3 _ 0 _ 24 g3
  have f1 : w3.frozen? ⟨w.heap.size, 1, none⟩ = false := frozen_of_row w3 _ 1 _ 24 g3
  have bel' : Below w.heap.size w w3 := (bel.alloc (by omega) _).trans (bel3.mono (by simp; omega))
  clear g0 g3 hb mc1 ms1 mc2 ms2 bel bel3 l1 l2
  go_wp2
  refine bodyPost_ret (v := .agg #[.map (some jc), .map (some js)]) (by simp [results, Try.results6, go_sem, r0, r1]) rfl ⟨C, S, ⟨_, _, rfl, SetMap.cell (SetMap.cell mC (by omega) _ _) (by omega) _ _, SetMap.cell (SetMap.cell mS (by omega) _ _) (by omega) _ _, hne, by omega, by omega, (bel'.setCell (Nat.le_refl _) _).setCell (Nat.le_refl _) _⟩, iC, iS⟩

theorem SetMap.nodup {w : World} {b : Nat} {S : List ByteArray} (h : SetMap w b S) : S.Nodup := by
  obtain ⟨_, _, _, _, _, _, _, h⟩ := h
  exact h
theorem same_length {A B : List ByteArray} (hA : A.Nodup) (hB : B.Nodup) (h : ∀ x, x ∈ A ↔ x ∈ B) : A.length = B.length :=
  Nat.le_antisymm (length_sub A B hA fun x hx => (h x).1 hx) (length_sub B A hB fun x hx => (h x).2 hx)
theorem same_memB {A B : List ByteArray} (h : ∀ x, x ∈ A ↔ x ∈ B) (s : ByteArray) : memB A s = memB B s := by
  by_cases hs : s ∈ A
  · rw [memB_yes hs, memB_yes ((h s).1 hs)]
  · rw [memB_no hs, memB_no (fun hb => hs ((h s).2 hb))]
theorem look_as {w : World} {b : Nat} {A B : List ByteArray} (m : SetMap w b A) (h : ∀ x, x ∈ A ↔ x ∈ B) (s : ByteArray) {v : Bool} (hv : memB B s = v) :
    (Instr.lookup 22 (.map (some b)) (.string s) false).run Try.prog w = .ok (.bool v) w := by
  rw [m.look s, same_memB h s, hv]

theorem chains_nodup : chains.Nodup := by simp [chains]
theorem sets_nodup : sets.Nodup := by simp [sets]

set_option maxHeartbeats 2000000 in
theorem exact7 (bc bs : Nat) (C S : List ByteArray) (w : World) (mC : SetMap w bc C) (mS : SetMap w bs S) (iC : ∀ x, x ∈ C ↔ x ∈ chains) (iS : ∀ x, x ∈ S ↔ x ∈ sets) :
    Calls Try.prog 7 #[.agg #[.map (some bc), .map (some bs)]] w fun e w' => e = .returned (.bool true) ∧ w' = w.alloc (.cells #[.map (some bc), .map (some bs)] 24) := by
  obtain ⟨W, hW⟩ : ∃ W, W = w.alloc (.cells #[.map (some bc), .map (some bs)] 24) := ⟨_, rfl⟩
  have mC' := mC.alloc (.cells #[.map (some bc), .map (some bs)] 24)
  have mS' := mS.alloc (.cells #[.map (some bc), .map (some bs)] 24)
  have e1 := fun ty => mC'.len ty
  have e2 := fun ty => mS'.len ty
  have lC : C.length = 5 := same_length mC.nodup chains_nodup iC
  have lS : S.length = 1 := same_length mS.nodup sets_nodup iS
  rw [lC] at e1
  rw [lS] at e2
  have q1 := look_as mC' iC nNat (v := true) rfl
  have q2 := look_as mC' iC nHP (v := true) rfl
  have q3 := look_as mC' iC nPre (v := true) rfl
  have q4 := look_as mC' iC nOut (v := true) rfl
  have q5 := look_as mC' iC nHair (v := true) rfl
  have q6 := look_as mS' iS nEx (v := true) rfl
  clear hW lC lS
  go_enter Try.func7, Try.ntmps7
  go_wp2
  go_ret
  exact ⟨rfl, rfl⟩
end Go.Proofs.Qxb6605627a
