import Derived.Test.Qxb6605627aRows
import Derived.WalkKit
import Derived.ProofKit
import Derived.Maps.RangeRun
namespace Go.Proofs.Qxb6605627a
open Go.ChangeShapes Go.WideShapes Go.ChangeAt Go.RowKit
open Go.ChangeMaps (setBlock heap_setBlock_same)

/-- Block b is a map whose entries are the strings S, each at true, none twice. -/
def SetMap (w : World) (b : Nat) (S : List ByteArray) : Prop :=
  ∃ es clock, w.heap[b]? = some (.map es clock) ∧ es.toList.map (·.key) = S.map Value.string ∧ (∀ e ∈ es.toList, e.val = .bool true) ∧ (∀ e ∈ es.toList, e.born < clock) ∧ (es.toList.map (·.born)).Nodup ∧ S.Nodup

theorem beq_same (a : ByteArray) : (a == a) = true := (MapKept.bytes_beq a a).2 rfl
theorem beq_other {a b : ByteArray} (h : a ≠ b) : (a == b) = false := by
  cases hb : a == b with
  | false => rfl
  | true => exact absurd ((MapKept.bytes_beq a b).1 hb) h

theorem findNow_set (s : ByteArray) : ∀ (L : List MapEntry) (S : List ByteArray) (i : Nat), L.map (·.key) = S.map Value.string → (∀ e ∈ L, e.val = .bool true) →
    (s ∈ S → ∃ j, Instr.findNow .string (.string s) L i = some (some (j, .bool true))) ∧ (s ∉ S → Instr.findNow .string (.string s) L i = some none)
  | [], [], i, _, _ => ⟨fun h => by simp at h, fun _ => rfl⟩
  | [], _ :: _, _, h, _ => by simp at h
  | _ :: _, [], _, h, _ => by simp at h
  | e :: L, x :: S, i, h, hv => by
    simp only [List.map_cons, List.cons.injEq] at h
    obtain ⟨h1, h2⟩ := h
    have hv0 := hv e (by simp)
    have ih := findNow_set s L S (i + 1) h2 (fun e' he' => hv e' (by simp [he']))
    by_cases hx : s = x
    · subst hx
      refine ⟨fun _ => ⟨i, ?_⟩, fun h => absurd (by simp) h⟩
      simp [Instr.findNow, Instr.sameNow, h1, hv0, beq_same]
    · have e1 : Instr.findNow .string (.string s) (e :: L) i = Instr.findNow .string (.string s) L (i + 1) := by
        have : (s == x) = false := beq_other hx
        simp [Instr.findNow, Instr.sameNow, h1, this]
      rw [e1]
      refine ⟨fun h => ih.1 ?_, fun h => ih.2 ?_⟩
      · simpa [hx] using h
      · exact fun hh => h (by simp [hh])

theorem zero4 (w : World) : (zeroValue 4).run Try.prog w = .ok (.bool false) w := by kernel_rfl
theorem check9 (b : Bool) (s : ByteArray) (w : World) : (Instr.checkKey b 10000 9 (.string s)).run Try.prog w = .ok () w := by
  rw [show (10000 : Nat) = 9999 + 1 from rfl]
  unfold Instr.checkKey
  simp [run_underlying Try.underlying9]

def memB (S : List ByteArray) (s : ByteArray) : Bool := S.any (fun x => s == x)
theorem memB_yes {S : List ByteArray} {s : ByteArray} (h : s ∈ S) : memB S s = true := List.any_eq_true.2 ⟨s, h, beq_same s⟩
theorem memB_no {S : List ByteArray} {s : ByteArray} (h : s ∉ S) : memB S s = false := by
  cases hb : memB S s with
  | false => rfl
  | true =>
    obtain ⟨x, hx, e⟩ := List.any_eq_true.1 hb
    exact absurd ((MapKept.bytes_beq s x).1 e ▸ hx) h

theorem SetMap.look {w : World} {b : Nat} {S : List ByteArray} (h : SetMap w b S) (s : ByteArray) :
    (Instr.lookup 22 (.map (some b)) (.string s) false).run Try.prog w = .ok (.bool (memB S s)) w := by
  obtain ⟨es, clock, hb, hk, hv, _, _, _⟩ := h
  have hf := findNow_set s es.toList S 0 hk hv
  by_cases hs : s ∈ S
  · obtain ⟨j, hj⟩ := hf.1 hs
    have hm := memB_yes hs
    simp [Instr.lookup, run_underlying Try.underlying22, MapKept.run_getObj_map hb, check9, Instr.findKey, run_underlying Try.underlying9, hj, hm, Result.andThen]
  · have hj := hf.2 hs
    have hm := memB_no hs
    simp [Instr.lookup, run_underlying Try.underlying22, MapKept.run_getObj_map hb, check9, Instr.findKey, run_underlying Try.underlying9, hj, hm, Result.andThen]

theorem SetMap.len {w : World} {b : Nat} {S : List ByteArray} (h : SetMap w b S) (ty : TypeId) :
    (Builtin.len_ #[22] ty #[.map (some b)]).run Try.prog w = .ok (.int .i64 (S.length : Int)) w := by
  obtain ⟨es, clock, hb, hk, _⟩ := h
  have hl : es.size = S.length := by
    have := congrArg List.length hk
    simpa using this
  simp [Builtin.len_, run_underlying Try.underlying22, MapKept.run_getObj_map hb, hl, goInt, Result.andThen]

/-- w' is w but for block b. -/
structure But (W wr : World) (b : Nat) : Prop where
  os : wr.os = W.os
  tape : wr.tape = W.tape
  output : wr.output = W.output
  size : wr.heap.size = W.heap.size
  block : ∀ i, i ≠ b → wr.heap[i]? = W.heap[i]?

theorem But.setBlock {w w1 : World} (b : Nat) (o : Obj) (h : w1 = w ∨ w1 = w.drew) : But w (setBlock w1 b o) b := by
  have e : ∀ i, i ≠ b → (w.heap.setIfInBounds b o)[i]? = w.heap[i]? := fun i hi => by simp [Ne.symm hi]
  rcases h with rfl | rfl
  · exact ⟨rfl, rfl, rfl, by simp [ChangeMaps.setBlock], e⟩
  · exact ⟨rfl, rfl, rfl, by simp [ChangeMaps.setBlock], e⟩
theorem But.below {W wr : World} {b B : Nat} (h : But W wr b) (hb : B ≤ b) : Below B W wr :=
  ⟨h.os, h.tape, h.output, by rw [h.size]; exact Nat.le_refl _, fun i hi => h.block i (by omega)⟩
theorem But.set {W wr : World} {b i : Nat} {S : List ByteArray} (h : But W wr b) (hi : i ≠ b) (s : SetMap W i S) : SetMap wr i S := by
  obtain ⟨es, clock, hb, r⟩ := s
  exact ⟨es, clock, (h.block i hi).trans hb, r⟩
theorem SetMap.below {W wr : World} {b : Nat} {S : List ByteArray} (s : SetMap W b S) (h : Below W.heap.size W wr) : SetMap wr b S := by
  obtain ⟨es, clock, hb, r⟩ := s
  exact ⟨es, clock, (h.block b (Array.getElem?_eq_some_iff.1 hb).1).trans hb, r⟩
theorem SetMap.alloc {W : World} {b : Nat} {S : List ByteArray} (s : SetMap W b S) (o : Obj) : SetMap (W.alloc o) b S := s.below ((Below.refl _ _).alloc (Nat.le_refl _) o)
theorem SetMap.lt {W : World} {b : Nat} {S : List ByteArray} (s : SetMap W b S) : b < W.heap.size := by
  obtain ⟨es, clock, hb, _⟩ := s
  exact (Array.getElem?_eq_some_iff.1 hb).1

theorem SetMap.made (w : World) : SetMap (w.alloc (.map #[] 0)) w.heap.size [] :=
  ⟨#[], 0, heap_alloc_new w _, rfl, by simp, by simp, by simp, by simp⟩

theorem SetMap.put {w : World} {b : Nat} {S : List ByteArray} (h : SetMap w b S) (s : ByteArray) (hs : s ∉ S) :
    ∃ w', (Instr.mapUpdate 22 (.map (some b)) (.string s) (.bool true)).run Try.prog w = .ok () w' ∧ SetMap w' b (S ++ [s]) ∧ But w w' b := by
  obtain ⟨es, clock, hb, hk, hv, hbo, hnd, hS⟩ := h
  have hj := (findNow_set s es.toList S 0 hk hv).2 hs
  refine ⟨setBlock w b (.map (es.push ⟨.string s, .bool true, clock⟩) (clock + 1)), ?_, ⟨_, _, heap_setBlock_same hb _, ?_, ?_, ?_, ?_, ?_⟩, But.setBlock b _ (.inl rfl)⟩
  · simp [Instr.mapUpdate, run_underlying Try.underlying22, MapKept.run_getObj_map hb, check9, Instr.findKey, run_underlying Try.underlying9, hj, setObj, Sem.run, hb, ChangeMaps.setBlock, Result.andThen]
  · simp [hk]
  · intro e he
    simp at he
    rcases he with he | rfl
    · exact hv e (by simpa using he)
    · rfl
  · intro e he
    simp at he
    rcases he with he | rfl
    · have := hbo e (by simpa using he); omega
    · show clock < clock + 1; omega
  · simp only [Array.toList_push, List.map_append, List.map_cons, List.map_nil]
    rw [List.nodup_append]
    refine ⟨hnd, by simp, ?_⟩
    intro a ha c hc
    simp at hc
    subst hc
    obtain ⟨e, he, rfl⟩ := List.mem_map.1 ha
    have := hbo e he
    omega
  · rw [List.nodup_append]
    refine ⟨hS, by simp, ?_⟩
    intro a ha c hc
    simp at hc
    subst hc
    exact fun h => hs (h ▸ ha)
end Go.Proofs.Qxb6605627a
