import Derived.Test.Qxb6605627aHost
namespace Go.Proofs.Qxb6605627a
open Go.ChangeShapes Go.WideShapes Go.ChangeAt Go.RowKit

/-- What has been joined after k rounds. -/
def CC (A B : List ByteArray) : Nat → List ByteArray
  | 0 => []
  | 1 => A
  | _ => A ++ B

/-- The joined Parts while the loop goes. -/
structure Joined (w wr : World) (J jc js : Nat) (A B : List ByteArray) (A' B' : List ByteArray) (k : Nat) : Prop where
  box : wr.heap[J]? = some (.cells #[.map (some jc), .map (some js)] 24 (0, 0))
  res : wr.heap[w.heap.size]? = some (.cells #[.map none, .map none] 24 (0, 0))
  c : ∃ C, SetMap wr jc C ∧ ∀ x, x ∈ C ↔ x ∈ CC A A' k
  s : ∃ S, SetMap wr js S ∧ ∀ x, x ∈ S ↔ x ∈ CC B B' k
  below : Below w.heap.size w wr

theorem Joined.c0 {w wr : World} {J jc js k : Nat} {A B A' B' : List ByteArray} (h : Joined w wr J jc js A B A' B' k) : wr.cell? ⟨J, 0, none⟩ = some (.map (some jc)) := by rw [cell_of_row wr J 0 _ 24 (0, 0) h.box]; rfl
theorem Joined.c1 {w wr : World} {J jc js k : Nat} {A B A' B' : List ByteArray} (h : Joined w wr J jc js A B A' B' k) : wr.cell? ⟨J, 1, none⟩ = some (.map (some js)) := by rw [cell_of_row wr J 1 _ 24 (0, 0) h.box]; rfl

theorem Kept.cells {W W2 : World} {b i : Nat} {cs : Array Value} {t : TypeId} (K : Kept W W2 b) (hi : i ≠ b) (h : W.heap[i]? = some (.cells cs t (0, 0))) : W2.heap[i]? = some (.cells cs t (0, 0)) :=
  (K.block i (Array.getElem?_eq_some_iff.1 h).1 hi).trans h
theorem map_old {w wr : World} {b : Nat} {S : List ByteArray} (h : Below w.heap.size w wr) (m : SetMap w b S) (o : Obj) : SetMap (wr.alloc o) b S := (m.below h).alloc o

/-- One round: both maps copied into the joined ones. -/
theorem Joined.round {w wr W2 W3 : World} {J jc js k : Nat} {A B A' B' C C' S S' X Y : List ByteArray} {o : Obj} (h : Joined w wr J jc js A B A' B' k) (hJ : w.heap.size + 1 ≤ jc ∧ w.heap.size + 1 ≤ js ∧ jc < J ∧ js < J)
    (K2 : Kept (wr.alloc o) W2 jc) (K3 : Kept W2 W3 js) (hne : jc ≠ js) (iC : ∀ x, x ∈ C ↔ x ∈ CC A A' k) (iS : ∀ x, x ∈ S ↔ x ∈ CC B B' k)
    (mC : SetMap W2 jc C') (hC : ∀ x, x ∈ C' ↔ x ∈ C ∨ x ∈ X) (mS : SetMap W3 js S') (hS : ∀ x, x ∈ S' ↔ x ∈ S ∨ x ∈ Y)
    (eX : ∀ x, (x ∈ CC A A' k ∨ x ∈ X) ↔ x ∈ CC A A' (k + 1)) (eY : ∀ x, (x ∈ CC B B' k ∨ x ∈ Y) ↔ x ∈ CC B B' (k + 1)) : Joined w W3 J jc js A B A' B' (k + 1) := by
  have lJ := (Array.getElem?_eq_some_iff.1 h.box).1
  have lR := (Array.getElem?_eq_some_iff.1 h.res).1
  refine ⟨K3.cells (by omega) (K2.cells (by omega) ((Below.heap_alloc _ _ _ lJ).trans h.box)), K3.cells (by omega) (K2.cells (by omega) ((Below.heap_alloc _ _ _ lR).trans h.res)), ⟨C', K3.set hne mC, fun x => ?_⟩, ⟨S', mS, fun x => ?_⟩, ?_⟩
  · rw [hC x, iC x, eX x]
  · rw [hS x, iS x, eY x]
  · have hz := h.below.size
    have hz2 := K2.size
    rw [World.size_alloc] at hz2
    exact ((h.below.alloc (by omega) o).trans (K2.below (by omega) (by simp; omega))).trans (K3.below (by omega) (by omega))

set_option maxHeartbeats 2000000 in
theorem join13 (bp c1 s1 c2 s2 : Nat) (C1 S1 C2 S2 : List ByteArray) (w : World)
    (p0 : w.cell? ⟨bp, 0, none⟩ = some (.map (some c1))) (p1 : w.cell? ⟨bp, 1, none⟩ = some (.map (some s1))) (p2 : w.cell? ⟨bp, 2, none⟩ = some (.map (some c2))) (p3 : w.cell? ⟨bp, 3, none⟩ = some (.map (some s2))) (hbp : bp < w.heap.size)
    (mc1 : SetMap w c1 C1) (ms1 : SetMap w s1 S1) (mc2 : SetMap w c2 C2) (ms2 : SetMap w s2 S2) (dC : ∀ x, x ∈ C2 → x ∉ C1) (dS : ∀ x, x ∈ S2 → x ∉ S1) :
    Calls Try.prog 13 #[.slice (some ⟨bp, 0, none⟩) 2 2] w fun e w' => ∃ C S, IsParts w w' e C S ∧ (∀ x, x ∈ C ↔ x ∈ C1 ++ C2) ∧ ∀ x, x ∈ S ↔ x ∈ S1 ++ S2 := by
  have lc1 := mc1.lt
  have ls1 := ms1.lt
  have lc2 := mc2.lt
  have ls2 := ms2.lt
  go_enter Try.func13, Try.ntmps13
  go_wp2_with fail
  refine (new15 _).mono ?_
  rintro e w1 ⟨jc, js, rfl, mC, mS, hne, l1, l2, bel1⟩
  have hz : w.heap.size + 1 ≤ w1.heap.size := by have := bel1.size; simpa using this
  have l1' : w.heap.size + 1 ≤ jc := by simpa using l1
  have l2' : w.heap.size + 1 ≤ js := by simpa using l2
  have ljc := mC.lt
  have ljs := mS.lt
  have J0 : ∀ o, o = Obj.cells #[.map (some jc), .map (some js)] 24 → Joined w (w1.alloc o) w1.heap.size jc js C1 S1 C2 S2 0 := by
    rintro o rfl
    refine ⟨heap_alloc_new w1 _, ?_, ⟨[], mC.alloc _, fun x => Iff.rfl⟩, ⟨[], mS.alloc _, fun x => Iff.rfl⟩, ?_⟩
    · rw [Below.heap_alloc _ _ _ (by omega), bel1.block _ (by simp)]
      exact heap_alloc_new w _
    · exact (((Below.refl _ w).alloc (Nat.le_refl _) _).trans (bel1.mono (by simp))).alloc (by omega) _
  clear mC mS l1 l2 bel1
  go_wp2_with fail
  go_loopw [9] (fun i wr => ∃ k : Nat, k ≤ 2 ∧ i = .int .i64 k ∧ Joined w wr w1.heap.size jc js C1 S1 C2 S2 k) (fun i _ => 2 - (intOf i).toNat)
  case atStart => exact ⟨0, by omega, rfl, J0 _ rfl⟩
  case round =>
    clear J0
    obtain ⟨k, hk, rfl, hJ⟩ := hrel
    have hk3 : k = 0 ∨ k = 1 ∨ k = 2 := by omega
    rcases hk3 with rfl | rfl | rfl
    · have q0 : wr.cell? ⟨bp, 0, none⟩ = some (.map (some c1)) := (hJ.below.cell (p := ⟨bp, 0, none⟩) hbp).trans p0
      have q1 : wr.cell? ⟨bp, 1, none⟩ = some (.map (some s1)) := (hJ.below.cell (p := ⟨bp, 1, none⟩) hbp).trans p1
      have j0 := hJ.c0
      have j1 := hJ.c1
      obtain ⟨C, mC, iC⟩ := hJ.c
      obtain ⟨S, mS, iS⟩ := hJ.s
      have lJ := (Array.getElem?_eq_some_iff.1 hJ.box).1
      have HJ : Hid (Joined w wr w1.heap.size jc js C1 S1 C2 S2 0) := hJ
      clear hJ
      go_wp2_with fail
      refine (copy16 jc c1 C C1 _ (mC.alloc _) (map_old HJ.out.below mc1 _) (by omega) (fun x _ => by rw [iC x]; simp [CC])).mono ?_
      rintro e W2 ⟨rfl, ⟨C', mC', hC'⟩, K2⟩
      have b2 := K2.cells (i := wr.heap.size) (by omega) (heap_alloc_new wr _)
      have x1 : W2.cell? ⟨wr.heap.size, 1, none⟩ = some (.map (some s1)) := by rw [cell_of_row W2 _ 1 _ 24 (0, 0) b2]; rfl
      have y1 : W2.cell? ⟨w1.heap.size, 1, none⟩ = some (.map (some js)) := by
        rw [cell_of_row W2 _ 1 _ 24 (0, 0) (K2.cells (by omega) ((Below.heap_alloc _ _ _ lJ).trans HJ.out.box))]; rfl
      go_wp2_with fail
      refine (copy16 js s1 S S1 _ (K2.set (Ne.symm hne) (mS.alloc _)) (K2.set (by omega) (map_old HJ.out.below ms1 _)) (by omega) (fun x _ => by rw [iS x]; simp [CC])).mono ?_
      rintro e W3 ⟨rfl, ⟨S', mS', hS'⟩, K3⟩
      have R := HJ.out.round ⟨l1', l2', ljc, ljs⟩ K2 K3 hne iC iS mC' hC' mS' hS' (fun x => by simp [CC]) (fun x => by simp [CC])
      clear x1 y1 b2 mC mS mC' mS' K2 K3 hC' hS' iC iS q0 q1 j0 j1 HJ
      go_wp2
      go_roundw
      case rel => exact ⟨1, by omega, rfl, R⟩
      case measure => simp [intOf]
    · have q0 : wr.cell? ⟨bp, 2, none⟩ = some (.map (some c2)) := (hJ.below.cell (p := ⟨bp, 2, none⟩) hbp).trans p2
      have q1 : wr.cell? ⟨bp, 3, none⟩ = some (.map (some s2)) := (hJ.below.cell (p := ⟨bp, 3, none⟩) hbp).trans p3
      have j0 := hJ.c0
      have j1 := hJ.c1
      obtain ⟨C, mC, iC⟩ := hJ.c
      obtain ⟨S, mS, iS⟩ := hJ.s
      have lJ := (Array.getElem?_eq_some_iff.1 hJ.box).1
      have HJ : Hid (Joined w wr w1.heap.size jc js C1 S1 C2 S2 1) := hJ
      clear hJ
      go_wp2_with fail
      refine (copy16 jc c2 C C2 _ (mC.alloc _) (map_old HJ.out.below mc2 _) (by omega) (fun x hx => by rw [iC x]; exact dC x hx)).mono ?_
      rintro e W2 ⟨rfl, ⟨C', mC', hC'⟩, K2⟩
      have b2 := K2.cells (i := wr.heap.size) (by omega) (heap_alloc_new wr _)
      have x1 : W2.cell? ⟨wr.heap.size, 1, none⟩ = some (.map (some s2)) := by rw [cell_of_row W2 _ 1 _ 24 (0, 0) b2]; rfl
      have y1 : W2.cell? ⟨w1.heap.size, 1, none⟩ = some (.map (some js)) := by
        rw [cell_of_row W2 _ 1 _ 24 (0, 0) (K2.cells (by omega) ((Below.heap_alloc _ _ _ lJ).trans HJ.out.box))]; rfl
      go_wp2_with fail
      refine (copy16 js s2 S S2 _ (K2.set (Ne.symm hne) (mS.alloc _)) (K2.set (by omega) (map_old HJ.out.below ms2 _)) (by omega) (fun x hx => by rw [iS x]; exact dS x hx)).mono ?_
      rintro e W3 ⟨rfl, ⟨S', mS', hS'⟩, K3⟩
      have R := HJ.out.round ⟨l1', l2', ljc, ljs⟩ K2 K3 hne iC iS mC' hC' mS' hS' (fun x => by simp [CC]) (fun x => by simp [CC])
      clear x1 y1 b2 mC mS mC' mS' K2 K3 hC' hS' iC iS q0 q1 j0 j1 HJ
      go_wp2
      go_roundw
      case rel => exact ⟨2, by omega, rfl, R⟩
      case measure => simp [intOf]
    · have j0 := hJ.c0
      have j1 := hJ.c1
      have r0 : wr.cell? ⟨w.heap.size, 0, none⟩ = some (.map none) := by rw [cell_of_row wr _ 0 _ 24 (0, 0) hJ.res]; rfl
      have r1 : wr.cell? ⟨w.heap.size, 1, none⟩ = some (.map none) := by rw [cell_of_row wr _ 1 _ 24 (0, 0) hJ.res]; rfl
      have f0 : wr.frozen? ⟨w.heap.size, 0, none⟩ = false := frozen_of_row wr _ 0 _ 24 hJ.res
      have f1 : wr.frozen? ⟨w.heap.size, 1, none⟩ = false := frozen_of_row wr _ 1 _ 24 hJ.res
      obtain ⟨C, mC, iC⟩ := hJ.c
      obtain ⟨S, mS, iS⟩ := hJ.s
      have bel := hJ.below
      clear hJ
      go_wp2
      refine bodyPost_ret (v := .agg #[.map (some jc), .map (some js)]) (by simp [results, Try.results13, go_sem, r0, r1]) rfl ⟨C, S, ⟨_, _, rfl, SetMap.cell (SetMap.cell mC (by omega) _ _) (by omega) _ _, SetMap.cell (SetMap.cell mS (by omega) _ _) (by omega) _ _, hne, by omega, by omega, (bel.setCell (Nat.le_refl _) _).setCell (Nat.le_refl _) _⟩, iC, iS⟩
end Go.Proofs.Qxb6605627a
