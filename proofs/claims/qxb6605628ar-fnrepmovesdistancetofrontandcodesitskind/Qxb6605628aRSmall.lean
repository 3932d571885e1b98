import Derived.Test.Qxb6605628aRRep2
import Derived.Test.Qxb6605628aRRep3
import Derived.Test.Qxb6605628aRNew
namespace Go.Proofs.Qxb6605628aR.Lz
open Go.ChangeShapes Go.WideShapes Go.ChangeAt Go.RowKit
set_option linter.unusedVariables false

/-- The list a, the place i moved to the front. -/
def mv (a : Nat → Int) (i : Nat) : Nat → Int := fun k => if k = 0 then a i else if k ≤ i then a (k - 1) else a k
/-- The coder's cells g: probabilities in order, the state, the four distances. -/
structure Cd (g : Nat → Value) (st : Int) (a : Nat → Int) : Prop where
  probs : ProbsOk g
  s : g 0 = .int .u32 st
  r0 : g 1 = .int .u32 (a 0)
  r1 : g 2 = .int .u32 (a 1)
  r2 : g 3 = .int .u32 (a 2)
  r3 : g 4 = .int .u32 (a 3)

theorem Enc.older {w w' : World} {q B : Nat} {low rng cache cs : Int} {v : Value} {out : List Int} (h : Enc w q B low rng cache cs v out) (b : Below w.heap.size w w') : Enc w' q B low rng cache cs v out := by
  have hq := (Array.getElem?_eq_some_iff.1 h.blk).1
  refine ⟨(b.block q hq).trans h.blk, ?_⟩
  obtain ⟨o1, o2⟩ := h.own
  refine ⟨o1, ?_⟩
  rcases o2 with o2 | ⟨k, cap, cu, hv, hg, hh, r⟩
  · exact .inl o2
  · have hk := (Array.getElem?_eq_some_iff.1 hh).1
    exact .inr ⟨k, cap, cu, hv, hg, (b.block k hk).trans hh, r⟩
theorem Cod.older {w w' : World} {P : Nat} {g : Nat → Value} (h : Cod w P g) (b : Below w.heap.size w w') : Cod w' P g := by
  have hP := h.lt
  obtain ⟨cur, h1, r⟩ := h
  exact ⟨cur, (b.block P hP).trans h1, r⟩
theorem Frm.older {w w' : World} (q P : Nat) {B : Nat} (b : Below w.heap.size w w') (hB : B ≤ w.heap.size) : Frm q P B w w' :=
  ⟨⟨b.os, b.tape, b.output, b.size, fun i hi => b.block i (by omega)⟩, fun i c e _ _ _ h => (b.block i (Array.getElem?_eq_some_iff.1 h).1).trans h⟩

section
variable {w wr : World} {q P B : Nat} {N low rng cache cs : Int} {out : List Int} {g : Nat → Value}
theorem St.le (h : St w wr q P B N low rng cache cs out g) (ap : Apart q P B) : B ≤ wr.heap.size := by
  have := h.cod.lt; have := ap.P; omega
theorem St.older (h : St w wr q P B N low rng cache cs out g) (ap : Apart q P B) {w' : World} (b : Below wr.heap.size wr w') : St w w' q P B N low rng cache cs out g := by
  have hl := h.le ap
  obtain ⟨a1, a2, a3, a4, a5, a6, h1, h2, h3, h4, h5⟩ := h
  exact ⟨a1, a2, a3, a4, a5, a6, h1, h2, h3.older b, h4.older b, h5.trans (Frm.older q P b hl)⟩
theorem St.rebase (h : St w wr q P B N low rng cache cs out g) : St wr wr q P B N low rng cache cs out g ∧ Frm q P B w wr := by
  obtain ⟨a1, a2, a3, a4, a5, a6, h1, h2, h3, h4, h5⟩ := h
  exact ⟨⟨a1, a2, a3, a4, a5, a6, h1, h2, h3, h4, Frm.refl _ _ _ _⟩, h5⟩
theorem St.after {w0 : World} (h : St w wr q P B N low rng cache cs out g) (f : Frm q P B w0 w) : St w0 wr q P B N low rng cache cs out g := by
  obtain ⟨a1, a2, a3, a4, a5, a6, h1, h2, h3, h4, h5⟩ := h
  exact ⟨a1, a2, a3, a4, a5, a6, h1, h2, h3, h4, f.trans h5⟩
theorem St.frm (h : St w wr q P B N low rng cache cs out g) : Frm q P B w wr := h.rebase.2
theorem St.box (h : St w wr q P B N low rng cache cs out g) {i : Nat} {c : Array Value} {e : TypeId} (hb : wr.heap[i]? = some (.cells c e (0, 0))) (he : e ≠ 5) (hq : i ≠ q) (hP : i ≠ P) (hB : B ≤ i) (he0 : w.heap.size ≤ i) (o : Nat) (x : Value) : St w (wr.setCell ⟨i, o, none⟩ x) q P B N low rng cache cs out g := by
  obtain ⟨a1, a2, a3, a4, a5, a6, h1, h2, h3, h4, h5⟩ := h
  refine ⟨a1, a2, a3, a4, a5, a6, h1, h2, ⟨(Below.heap_setCell wr ⟨i, o, none⟩ x q (Ne.symm hq)).trans h3.blk, ownsRow_setCell_other h3.own (h3.far hb he) _⟩, h4.away (Ne.symm hP) o x, ⟨h5.below.setCell hB x, fun j c' e' k1 k2 k3 k4 => ?_⟩⟩
  have := (Array.getElem?_eq_some_iff.1 k4).1
  exact (Below.heap_setCell wr ⟨i, o, none⟩ x j (by show j ≠ i; omega)).trans (h5.block j c' e' k1 k2 k3 k4)
end

/-- ZZnewEncoder. -/
theorem new10 (w : World) (low rng cache cs : Int) (p : Option Addr) (l c : Nat) :
    Calls Try.prog 10 #[.int .u64 low, .int .u32 rng, .int .u8 cache, .int .i64 cs, .slice p l c] w fun e w' => e = .returned (.pointer (some ⟨w.heap.size, 0, none⟩)) ∧ w'.heap[w.heap.size]? = some (.cells #[.int .u64 low, .int .u32 rng, .int .u8 cache, .int .i64 cs, .slice p l c] 79 (0, 0)) ∧ Below w.heap.size w w' ∧ w'.heap.size = w.heap.size + 1 := by
  go_enter Try.func10, Try.ntmps10
  go_wp2
  go_ret
  exact ⟨rfl, heap_alloc_new _ _, (Below.refl _ _).alloc (Nat.le_refl _) _, World.size_alloc _ _⟩

/-- reset, on an encoder that has no row yet. -/
theorem reset40 (w : World) (q : Nat) (low rng cache cs : Int) (h : w.heap[q]? = some (.cells #[.int .u64 low, .int .u32 rng, .int .u8 cache, .int .i64 cs, .slice none 0 0] 79 (0, 0))) :
    Calls Try.prog 40 #[.pointer (some ⟨q, 0, none⟩)] w fun e w' => e = .returned (.tuple #[]) ∧ w'.heap[q]? = some (.cells #[.int .u64 0, .int .u32 4294967295, .int .u8 0, .int .i64 1, .slice none 0 0] 79 (0, 0)) ∧ Only w w' q := by
  have c0 := row_c0 h
  have c1 : w.cell? ⟨q, 1, none⟩ = some (.int .u32 rng) := by rw [cell_of_row w q 1 _ 79 (0, 0) h]; rfl
  have c2 := row_c2 h
  have c3 := row_c3 h
  have c4 := row_c4 h
  have f0 := row_fr h 0
  have f1 := row_fr h 1
  have f2 := row_fr h 2
  have f3 := row_fr h 3
  have f4 := row_fr h 4
  go_enter Try.func40, Try.ntmps40
  go_wp2
  go_end0
  refine ⟨rfl, ?_, ((((Only.refl w q).set 0 _).set 1 _).set 2 _).set 3 _ |>.set 4 _⟩
  have h1 := heap_setCell_same w q 0 _ 79 (.int .u64 0) h
  have h2 := heap_setCell_same _ q 1 _ 79 (.int .u32 4294967295) h1
  have h3 := heap_setCell_same _ q 2 _ 79 (.int .u8 0) h2
  have h4 := heap_setCell_same _ q 3 _ 79 (.int .i64 1) h3
  exact heap_setCell_same _ q 4 _ 79 (.slice none 0 0) h4

theorem reset27 (w : World) (q : Nat) (low rng cache cs : Int) (h : w.heap[q]? = some (.cells #[.int .u64 low, .int .u32 rng, .int .u8 cache, .int .i64 cs, .slice none 0 0] 79 (0, 0))) :
    Calls Try.prog 27 #[.pointer (some ⟨q, 0, none⟩)] w fun e w' => e = .returned (.tuple #[]) ∧ w'.heap[q]? = some (.cells #[.int .u64 0, .int .u32 4294967295, .int .u8 0, .int .i64 1, .slice none 0 0] 79 (0, 0)) ∧ Only w w' q := by
  go_enter Try.func27, Try.ntmps27
  go_wp2_with (go_at_call 40; refine (reset40 _ q low rng cache cs h).mono ?_; rintro e w' ⟨rfl, r1, r2⟩)
  go_end0
  exact ⟨rfl, r1, r2⟩

/-- ZZcoderReps. -/
theorem reps12 (w : World) (P : Nat) (g : Nat → Value) (hC : Cod w P g) (a : Nat → Int) (st : Int) (hg : Cd g st a) :
    Calls Try.prog 12 #[.pointer (some ⟨P, 0, none⟩)] w fun e w' => e = .returned (.agg #[.int .u32 (a 0), .int .u32 (a 1), .int .u32 (a 2), .int .u32 (a 3)]) ∧ Below w.heap.size w w' := by
  have hl := hC.lt
  have c1 := hC.cell 1 (by omega)
  have c2 := hC.cell 2 (by omega)
  have c3 := hC.cell 3 (by omega)
  have c4 := hC.cell 4 (by omega)
  rw [hg.r0] at c1; rw [hg.r1] at c2; rw [hg.r2] at c3; rw [hg.r3] at c4
  go_enter Try.func12, Try.ntmps12
  go_wp2
  refine bodyPost_ret (v := .agg #[.int .u32 (a 0), .int .u32 (a 1), .int .u32 (a 2), .int .u32 (a 3)]) (by simp [results, Try.results12, go_sem]) rfl ⟨rfl, (Below.refl _ _).alloc (Nat.le_refl _) _⟩
/-- ZZcoderState. -/
theorem state13 (w : World) (P : Nat) (g : Nat → Value) (hC : Cod w P g) (a : Nat → Int) (st : Int) (hg : Cd g st a) :
    Calls Try.prog 13 #[.pointer (some ⟨P, 0, none⟩)] w fun e w' => e = .returned (.int .u32 st) ∧ w = w' := by
  have c1 := hC.cell 0 (by omega)
  rw [hg.s] at c1
  go_enter Try.func13, Try.ntmps13
  go_wp2
  go_ret
  exact ⟨rfl, rfl⟩
theorem rng24 (w : World) (q B : Nat) (low rng cache cs : Int) (v : Value) (out : List Int) (h : Enc w q B low rng cache cs v out) :
    Calls Try.prog 24 #[.pointer (some ⟨q, 0, none⟩)] w fun e w' => e = .returned (.int .u32 rng) ∧ w = w' := by
  have c1 := h.c1
  go_enter Try.func24, Try.ntmps24
  go_wp2
  go_ret
  exact ⟨rfl, rfl⟩
theorem cs28 (w : World) (q B : Nat) (low rng cache cs : Int) (v : Value) (out : List Int) (h : Enc w q B low rng cache cs v out) :
    Calls Try.prog 28 #[.pointer (some ⟨q, 0, none⟩)] w fun e w' => e = .returned (.int .i64 cs) ∧ w = w' := by
  have c1 := h.c3
  go_enter Try.func28, Try.ntmps28
  go_wp2
  go_ret
  exact ⟨rfl, rfl⟩
theorem out25 (w : World) (q B : Nat) (low rng cache cs : Int) (v : Value) (out : List Int) (h : Enc w q B low rng cache cs v out) :
    Calls Try.prog 25 #[.pointer (some ⟨q, 0, none⟩)] w fun e w' => e = .returned v ∧ w = w' := by
  have c1 := h.c4
  go_enter Try.func25, Try.ntmps25
  go_wp2
  go_ret
  exact ⟨rfl, rfl⟩

theorem lenC_ok (length pc : Int) (hp : 31 ≤ pc ∧ pc ≤ 2017) : 31 ≤ lenC length pc ∧ lenC length pc ≤ 2017 := by
  unfold lenC; split <;> exact updP_ok _ _ hp

/-- rep, whichever of the four. -/
theorem rep_any (w wr : World) (q P B : Nat) (N low rng cache cs : Int) (out : List Int) (g : Nat → Value) (h : St w wr q P B N low rng cache cs out g) (ap : Apart q P B) (hN : N ≤ 137438953472) (st ps i : Nat) (hst : st < 12) (hps : ps < 16) (hi : i < 4) (a : Nat → Int) (hg : Cd g (st : Int) a)
    (length : Int) (hlen0 : 0 ≤ length) (hlen1 : length < 4294967296) :
    Calls Try.prog 39 #[.pointer (some ⟨P, 0, none⟩), .pointer (some ⟨q, 0, none⟩), .int .u32 (i : Int), .int .u32 length, .int .u32 (ps : Int)] wr fun e w' => e = .returned (.tuple #[]) ∧ ∃ g', St w w' q P B (N + 20) low rng cache cs out g' ∧ Cd g' (nst (st : Int)) (mv a i) ∧ Frm q P B wr w' := by
  obtain ⟨hs, hf⟩ := h.rebase
  have hp := hg.probs
  have pOk : ∀ g' C, LenOk g' → (∀ j, j < 13626 → g' j = C j) → ProbsOk C → ProbsOk (upd g' 0 (.int .u32 (nst (st : Int)))) := by
    intro g' C h1 h2 h3
    refine ProbsOk.low (fun j h5 h6 => ?_) (by omega) _
    by_cases h : j < 13626
    · rw [h2 j h]; exact h3 j h5 h6
    · exact h1 j (by omega) h6
  have pSh : ∀ C k x, ProbsOk C → k ≤ 3 → ProbsOk (upd (shiftR C k) 1 x) := by
    intro C k x h1 h2
    refine ProbsOk.low (fun j h5 h6 => ?_) (by omega) _
    unfold shiftR
    rw [if_neg (by omega)]
    exact h1 j h5 h6
  rcases (by omega : i = 0 ∨ i = 1 ∨ i = 2 ∨ i = 3) with rfl | rfl | rfl | rfl
  · refine (rep0 wr wr q P B N low rng cache cs out g hs ap hN hp st ps hst hps hg.s _ _ _ _ hg.r0 hg.r1 hg.r2 hg.r3 length hlen0 hlen1).mono ?_
    rintro e w' ⟨rfl, g', S, L, k, _⟩
    have low5 : ∀ j, j < 5 → g' j = g j := fun j hj => by
      rw [k j (by omega)]; rw [put_other (by omega)]; rw [put_other (by omega)]; rw [put_other (by omega)]; rw [put_other (by omega)]
    refine ⟨rfl, _, S.after hf, ⟨pOk _ _ L k ((((hp.put (by omega) (by omega) _).put (by omega) (by omega) _).put (by omega) (by omega) _).put (by omega) (by omega) _), upd_same _ _ _, ?_, ?_, ?_, ?_⟩, S.frm⟩
    all_goals rw [upd_other _ _ _ (by omega), low5 _ (by omega)]
    · exact hg.r0
    · exact hg.r1
    · exact hg.r2
    · exact hg.r3
  · refine (rep1 wr wr q P B N low rng cache cs out g hs ap hN hp st ps hst hps hg.s _ _ _ _ hg.r0 hg.r1 hg.r2 hg.r3 length hlen0 hlen1).mono ?_
    rintro e w' ⟨rfl, g', S, L, k, _⟩
    have low5 : ∀ j, j < 5 → (put (put (put (put g (5 + st * 16 + ps) 1) (197 + st) 1) (209 + st) 1) (221 + st) 0) j = g j := fun j hj => by
      rw [put_other (by omega)]; rw [put_other (by omega)]; rw [put_other (by omega)]; rw [put_other (by omega)]
    refine ⟨rfl, _, S.after hf, ⟨pOk _ _ L k (pSh _ _ _ ((((hp.put (by omega) (by omega) _).put (by omega) (by omega) _).put (by omega) (by omega) _).put (by omega) (by omega) _) (by omega)), upd_same _ _ _, ?_, ?_, ?_, ?_⟩, S.frm⟩
    all_goals rw [upd_other _ _ _ (by omega), k _ (by omega)]
    · rw [upd_same]; rfl
    all_goals
      rw [upd_other _ _ _ (by omega)]
      unfold shiftR
      simp (disch := omega) only [if_pos, if_neg, low5]
    · exact hg.r0
    · exact hg.r2
    · exact hg.r3
  · refine (rep2 wr wr q P B N low rng cache cs out g hs ap hN hp st ps hst hps hg.s _ _ _ _ hg.r0 hg.r1 hg.r2 hg.r3 length hlen0 hlen1).mono ?_
    rintro e w' ⟨rfl, g', S, L, k, _⟩
    have low5 : ∀ j, j < 5 → (put (put (put (put (put g (5 + st * 16 + ps) 1) (197 + st) 1) (209 + st) 1) (221 + st) 1) (233 + st) 0) j = g j := fun j hj => by
      rw [put_other (by omega)]; rw [put_other (by omega)]; rw [put_other (by omega)]; rw [put_other (by omega)]; rw [put_other (by omega)]
    refine ⟨rfl, _, S.after hf, ⟨pOk _ _ L k (pSh _ _ _ (((((hp.put (by omega) (by omega) _).put (by omega) (by omega) _).put (by omega) (by omega) _).put (by omega) (by omega) _).put (by omega) (by omega) _) (by omega)), upd_same _ _ _, ?_, ?_, ?_, ?_⟩, S.frm⟩
    all_goals rw [upd_other _ _ _ (by omega), k _ (by omega)]
    · rw [upd_same]; rfl
    all_goals
      rw [upd_other _ _ _ (by omega)]
      unfold shiftR
      simp (disch := omega) only [if_pos, if_neg, low5]
    · exact hg.r0
    · exact hg.r1
    · exact hg.r3
  · refine (rep3 wr wr q P B N low rng cache cs out g hs ap hN hp st ps hst hps hg.s _ _ _ _ hg.r0 hg.r1 hg.r2 hg.r3 length hlen0 hlen1).mono ?_
    rintro e w' ⟨rfl, g', S, L, k, _⟩
    have low5 : ∀ j, j < 5 → (put (put (put (put (put g (5 + st * 16 + ps) 1) (197 + st) 1) (209 + st) 1) (221 + st) 1) (233 + st) 1) j = g j := fun j hj => by
      rw [put_other (by omega)]; rw [put_other (by omega)]; rw [put_other (by omega)]; rw [put_other (by omega)]; rw [put_other (by omega)]
    refine ⟨rfl, _, S.after hf, ⟨pOk _ _ L k (pSh _ _ _ (((((hp.put (by omega) (by omega) _).put (by omega) (by omega) _).put (by omega) (by omega) _).put (by omega) (by omega) _).put (by omega) (by omega) _) (by omega)), upd_same _ _ _, ?_, ?_, ?_, ?_⟩, S.frm⟩
    all_goals rw [upd_other _ _ _ (by omega), k _ (by omega)]
    · rw [upd_same]; rfl
    all_goals
      rw [upd_other _ _ _ (by omega)]
      unfold shiftR
      simp (disch := omega) only [if_pos, low5]
    · exact hg.r0
    · exact hg.r1
    · exact hg.r2

theorem rep11 (w wr : World) (q P B : Nat) (N low rng cache cs : Int) (out : List Int) (g : Nat → Value) (h : St w wr q P B N low rng cache cs out g) (ap : Apart q P B) (hN : N ≤ 137438953472) (st ps i : Nat) (hst : st < 12) (hps : ps < 16) (hi : i < 4) (a : Nat → Int) (hg : Cd g (st : Int) a)
    (length : Int) (hlen0 : 0 ≤ length) (hlen1 : length < 4294967296) :
    Calls Try.prog 11 #[.pointer (some ⟨P, 0, none⟩), .pointer (some ⟨q, 0, none⟩), .int .u32 (i : Int), .int .u32 length, .int .u32 (ps : Int)] wr fun e w' => e = .returned (.tuple #[]) ∧ ∃ g', St w w' q P B (N + 20) low rng cache cs out g' ∧ Cd g' (nst (st : Int)) (mv a i) ∧ Frm q P B wr w' := by
  go_enter Try.func11, Try.ntmps11
  go_wp2_with (go_at_call 39; refine (rep_any w wr q P B N low rng cache cs out g h ap hN st ps i hst hps hi a hg length hlen0 hlen1).mono ?_; rintro e w' ⟨rfl, r⟩)
  go_end0
  exact ⟨rfl, r⟩
end Go.Proofs.Qxb6605628aR.Lz
