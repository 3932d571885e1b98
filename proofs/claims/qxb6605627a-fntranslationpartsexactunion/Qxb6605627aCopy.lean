import Derived.Test.Qxb6605627aSet
namespace Go.Proofs.Qxb6605627a
open Go.ChangeShapes Go.WideShapes Go.ChangeAt Go.RowKit
open Go.ChangeMaps (setBlock heap_setBlock_same)

theorem length_sub {α : Type} : ∀ (l m : List α), l.Nodup → (∀ x, x ∈ l → x ∈ m) → l.length ≤ m.length
  | [], _, _, _ => Nat.zero_le _
  | a :: l, m, hn, hs => by
    obtain ⟨m1, m2, rfl⟩ := List.append_of_mem (hs a (by simp))
    rw [List.nodup_cons] at hn
    have := length_sub l (m1 ++ m2) hn.2 (fun x hx => by
      have h1 := hs x (by simp [hx])
      have h2 : x ≠ a := fun h => hn.1 (h ▸ hx)
      simpa [h2] using h1)
    simp at this ⊢
    omega
theorem map_inj {α β : Type} (f : α → β) : ∀ {l : List α}, (l.map f).Nodup → ∀ {x y : α}, x ∈ l → y ∈ l → f x = f y → x = y
  | [], _, x, y, hx, _, _ => by simp at hx
  | a :: l, hn, x, y, hx, hy, h => by
    rw [List.map_cons, List.nodup_cons] at hn
    rcases List.mem_cons.1 hx with rfl | hx1 <;> rcases List.mem_cons.1 hy with rfl | hy1
    · rfl
    · exact absurd (List.mem_map.2 ⟨y, hy1, h.symm⟩) hn.1
    · exact absurd (List.mem_map.2 ⟨x, hx1, h⟩) hn.1
    · exact map_inj f hn.2 hx1 hy1 h
theorem nodup_string (S : List ByteArray) (h : S.Nodup) : (S.map Value.string).Nodup := by
  induction S with
  | nil => simp
  | cons a S ih =>
    rw [List.nodup_cons] at h
    rw [List.map_cons, List.nodup_cons]
    refine ⟨fun hm => ?_, ih h.2⟩
    obtain ⟨b, hb, e⟩ := List.mem_map.1 hm
    cases e
    exact h.1 hb

/-- w' is w with new blocks, and with writes to block b alone. -/
structure Kept (w w' : World) (b : Nat) : Prop where
  os : w'.os = w.os
  tape : w'.tape = w.tape
  output : w'.output = w.output
  size : w.heap.size ≤ w'.heap.size
  block : ∀ i, i < w.heap.size → i ≠ b → w'.heap[i]? = w.heap[i]?

theorem Kept.alloc (w : World) (o : Obj) (b : Nat) : Kept w (w.alloc o) b := ⟨rfl, rfl, rfl, by simp, fun i hi _ => Below.heap_alloc w o i hi⟩
theorem Kept.but {w w1 w2 : World} {b c : Nat} (h : Kept w w1 b) (k : But w1 w2 c) (hc : c = b ∨ w.heap.size ≤ c) : Kept w w2 b :=
  ⟨k.os.trans h.os, k.tape.trans h.tape, k.output.trans h.output, by rw [k.size]; exact h.size, fun i hi hb => (k.block i (by omega)).trans (h.block i hi hb)⟩
theorem Kept.below {w w' : World} {b B : Nat} (h : Kept w w' b) (hb : B ≤ b) (hB : B ≤ w.heap.size) : Below B w w' := ⟨h.os, h.tape, h.output, h.size, fun i hi => h.block i (by omega) (by omega)⟩
theorem Kept.set {w w' : World} {b i : Nat} {S : List ByteArray} (h : Kept w w' b) (hi : i ≠ b) (s : SetMap w i S) : SetMap w' i S := by
  have hl := s.lt
  obtain ⟨es, clock, hb, r⟩ := s
  exact ⟨es, clock, (h.block i hl hi).trans hb, r⟩

/-- What has been copied while 'seen' of the entries have come. -/
def Got (S' S1 : List ByteArray) (es : Array MapEntry) (seen : Array Nat) : Prop :=
  ∀ x, x ∈ S' ↔ x ∈ S1 ∨ ∃ e ∈ es.toList, e.key = .string x ∧ seen.contains e.born = true

theorem Got.push {S' S1 : List ByteArray} {es : Array MapEntry} {seen : Array Nat} {e : MapEntry} {x : ByteArray} (h : Got S' S1 es seen) (he : e ∈ es.toList) (hx : e.key = .string x) (hn : (es.toList.map (·.born)).Nodup) : Got (S' ++ [x]) S1 es (seen.push e.born) := by
  intro y
  rw [List.mem_append, h y]
  constructor
  · rintro ((h1 | ⟨e', he', hk, hs⟩) | h1)
    · exact .inl h1
    · exact .inr ⟨e', he', hk, by rw [contains_push, hs]; rfl⟩
    · simp at h1
      subst h1
      exact .inr ⟨e, he, hx, by rw [contains_push]; simp⟩
  · rintro (h1 | ⟨e', he', hk, hs⟩)
    · exact .inl (.inl h1)
    · rw [contains_push] at hs
      by_cases hb : e'.born = e.born
      · obtain rfl := born_inj hn he' he hb
        rw [hx] at hk
        cases hk
        exact .inr (by simp)
      · have : seen.contains e'.born = true := by simpa [hb] using hs
        exact .inl (.inr ⟨e', he', hk, this⟩)

theorem Got.fresh {S' S1 : List ByteArray} {es : Array MapEntry} {seen : Array Nat} {e : MapEntry} {x : ByteArray} (h : Got S' S1 es seen) (he : e ∈ es.toList) (hx : e.key = .string x) (hk : (es.toList.map (·.key)).Nodup) (hs : seen.contains e.born = false) (h1 : x ∉ S1) : x ∉ S' := by
  rw [h x]
  rintro (h2 | ⟨e', he', hk', hs'⟩)
  · exact h1 h2
  · obtain rfl := map_inj (·.key) hk he' he (hk'.trans hx.symm)
    rw [hs] at hs'
    cases hs'

set_option maxHeartbeats 1000000 in
theorem copy16 (bd bs : Nat) (S1 S2 : List ByteArray) (w : World) (hd : SetMap w bd S1) (hs : SetMap w bs S2) (hne : bd ≠ bs) (hdis : ∀ x, x ∈ S2 → x ∉ S1) :
    Calls Try.prog 16 #[.map (some bd), .map (some bs)] w fun e w' => e = .returned (.tuple #[]) ∧ (∃ S', SetMap w' bd S' ∧ ∀ x, x ∈ S' ↔ x ∈ S1 ∨ x ∈ S2) ∧ Kept w w' bd := by
  have ld := hd.lt
  have ls := hs.lt
  obtain ⟨es, clock, hb, hk, hv, hbo, hnd, hS⟩ := hs
  have hkn : (es.toList.map (·.key)).Nodup := by rw [hk]; exact nodup_string S2 hS
  have hrg := run_range_map (P := Try.prog) w 22 9 4 bs es clock Try.underlying22 hb
  obtain ⟨w0, hw0⟩ : ∃ w0, w0 = w.alloc (.mapIter (some bs) clock #[] clock) := ⟨_, rfl⟩
  rw [← hw0] at hrg
  have k0 : Kept w w0 bd := by rw [hw0]; exact Kept.alloc _ _ _
  have i0 : w0.heap[w.heap.size]? = some (.mapIter (some bs) clock #[] clock) := by rw [hw0]; exact heap_alloc_new w _
  have m0 : w0.heap[bs]? = some (.map es clock) := (k0.block bs ls (Ne.symm hne)).trans hb
  have d0 : SetMap w0 bd S1 := by rw [hw0]; exact hd.alloc _
  have g0 : Got S1 S1 es #[] := fun x => ⟨.inl, fun h => by
    rcases h with h | ⟨e, _, _, h⟩
    · exact h
    · simp at h⟩
  clear hw0 hb hd
  go_enter Try.func16, Try.ntmps16
  go_wp2
  clear hrg
  go_loopw [8] (fun _ wr => ∃ seen c0 S', wr.heap[w.heap.size]? = some (.mapIter (some bs) clock seen c0) ∧ clock ≤ c0 ∧ wr.heap[bs]? = some (.map es clock) ∧ SetMap wr bd S' ∧ Got S' S1 es seen ∧ Kept w wr bd) (fun _ wr => (leftOf es (wr.iterSeen w.heap.size)).size)
  case atStart => exact ⟨#[], clock, S1, i0, Nat.le_refl _, m0, d0, g0, k0⟩
  case round =>
    clear i0 m0 d0 g0 k0
    obtain ⟨seen, c0, S', hi, hc, hm, hd, hg, hK⟩ := hrel
    rcases run_next_at (P := Try.prog) wr 0 w.heap.size bs clock c0 seen es clock hi hm hbo hc with ⟨hl, hnx⟩ | ⟨e, he, w1, hw1, hnx⟩
    · go_wp2
      go_end0
      refine ⟨rfl, ⟨S', hd, fun x => ?_⟩, hK⟩
      rw [hg x]
      constructor
      · rintro (h | ⟨e, he, hx, _⟩)
        · exact .inl h
        · refine .inr ?_
          have : Value.string x ∈ S2.map Value.string := by rw [← hk, ← hx]; exact List.mem_map.2 ⟨e, he, rfl⟩
          obtain ⟨y, hy, e'⟩ := List.mem_map.1 this
          cases e'
          exact hy
      · rintro (h | h)
        · exact .inl h
        · have : Value.string x ∈ es.toList.map (·.key) := by rw [hk]; exact List.mem_map.2 ⟨x, h, rfl⟩
          obtain ⟨e, he, hx⟩ := List.mem_map.1 this
          exact .inr ⟨e, he, hx, all_seen es seen hl e he⟩
    · obtain ⟨hem, hse⟩ := mem_left he
      obtain ⟨x, hxS, hx⟩ : ∃ x ∈ S2, e.key = .string x := by
        have : e.key ∈ S2.map Value.string := by rw [← hk]; exact List.mem_map.2 ⟨e, hem, rfl⟩
        obtain ⟨x, h1, h2⟩ := List.mem_map.1 this
        exact ⟨x, h1, h2.symm⟩
      have hxv := hv e hem
      obtain ⟨w2, hw2⟩ : ∃ w2, w2 = setBlock w1 w.heap.size (.mapIter (some bs) clock (seen.push e.born) clock) := ⟨_, rfl⟩
      have b2 : But wr w2 w.heap.size := by rw [hw2]; exact But.setBlock _ _ hw1
      have i2 : w2.heap[w.heap.size]? = some (.mapIter (some bs) clock (seen.push e.born) clock) := by
        have hlt : w.heap.size < w1.heap.size := by
          have := (Array.getElem?_eq_some_iff.1 hi).1
          rcases hw1 with rfl | rfl <;> exact this
        rw [hw2]; simp [ChangeMaps.setBlock, hlt]
      rw [← hw2, hx, hxv] at hnx
      have m2 : w2.heap[bs]? = some (.map es clock) := (b2.block bs (by omega)).trans hm
      have hen := run_entry_at (P := Try.prog) w2 w.heap.size bs clock seen es clock e i2 m2 hem hnd
      rw [hx, hxv] at hen
      have d2 : SetMap w2 bd S' := b2.set (by omega) hd
      obtain ⟨w3, hup, d3, b3⟩ := d2.put x (hg.fresh hem hx hkn hse (hdis x hxS))
      have i3 : w3.heap[w.heap.size]? = some (.mapIter (some bs) clock (seen.push e.born) clock) := (b3.block _ (by omega)).trans i2
      have m3 : w3.heap[bs]? = some (.map es clock) := (b3.block bs (Ne.symm hne)).trans m2
      have g3 := hg.push hem hx hnd
      have K3 := (hK.but b2 (.inr (Nat.le_refl _))).but b3 (.inl rfl)
      have ms : (leftOf es (w3.iterSeen w.heap.size)).size < (leftOf es (wr.iterSeen w.heap.size)).size := by
        have e1 : w3.iterSeen w.heap.size = seen.push e.born := by unfold World.iterSeen; rw [i3]
        have e2 : wr.iterSeen w.heap.size = seen := by unfold World.iterSeen; rw [hi]
        rw [e1, e2]
        exact left_shrinks es seen e he
      clear hw2 i2 m2 d2 b2 b3 hi hm hd hg hK hx hxv hw1
      go_wp2
      go_roundw
      case rel => exact ⟨_, _, _, i3, Nat.le_refl _, m3, d3, g3, K3⟩
      case measure => exact ms
end Go.Proofs.Qxb6605627a
