import Derived.Test.Qxb6605628aRSeat
namespace Go.Proofs.Qxb6605628aR.Lz
open Go.ChangeShapes Go.WideShapes Go.ChangeAt Go.RowKit
set_option linter.unusedVariables false
set_option linter.unusedSimpArgs false

/-- What each selection context holds behind one rep call of kind i on a coder whose probabilities are all at one half. -/
def vM (st ps s p : Nat) : Int := if s = st ∧ p = ps then 992 else 1024
def vL (i st ps s p : Nat) : Int := if i = 0 ∧ s = st ∧ p = ps then 992 else 1024
def vR (st s : Nat) : Int := if s = st then 992 else 1024
def vG0 (i st s : Nat) : Int := if s = st then (if i = 0 then 1056 else 992) else 1024
def vG1 (i st s : Nat) : Int := if s = st then (if i = 0 then 1024 else if i = 1 then 1056 else 992) else 1024
def vG2 (i st s : Nat) : Int := if s = st then (if i ≤ 1 then 1024 else if i = 2 then 1056 else 992) else 1024

structure Fin (g : Nat → Value) (st ps i : Nat) (length : Int) (a : Nat → Int) : Prop where
  s : g 0 = .int .u32 (nst (st : Int))
  r0 : g 1 = .int .u32 (mv a i 0)
  r1 : g 2 = .int .u32 (mv a i 1)
  r2 : g 3 = .int .u32 (mv a i 2)
  r3 : g 4 = .int .u32 (mv a i 3)
  m : ∀ s p, s < 12 → p < 16 → g (5 + s * 16 + p) = .int .u16 (vM st ps s p)
  l : ∀ s p, s < 12 → p < 16 → g (245 + s * 16 + p) = .int .u16 (vL i st ps s p)
  r : ∀ s, s < 12 → g (197 + s) = .int .u16 (vR st s)
  g0 : ∀ s, s < 12 → g (209 + s) = .int .u16 (vG0 i st s)
  g1 : ∀ s, s < 12 → g (221 + s) = .int .u16 (vG1 i st s)
  g2 : ∀ s, s < 12 → g (233 + s) = .int .u16 (vG2 i st s)
  ch : g 13626 = .int .u16 (lenC length 1024)
  ch2 : g 13627 = .int .u16 (lenC2 length 1024)
  mc : g 13112 = .int .u16 1024
  mc2 : g 13113 = .int .u16 1024

theorem shiftR_far {C : Nat → Value} {k j : Nat} (h : 5 ≤ j) (hk : k ≤ 3) : shiftR C k j = C j := by unfold shiftR; rw [if_neg (by omega)]
theorem half_zero : updP 1024 0 = 1056 := by decide
theorem half_one : updP 1024 1 = 992 := by decide
theorem prOf_half : prOf (.int .u16 1024) = 1024 := rfl

/-- A coder at one half throughout. -/
structure Half (g : Nat → Value) (st : Int) (a : Nat → Int) : Prop where
  p : ∀ j, 5 ≤ j → j < 14140 → g j = .int .u16 1024
  s : g 0 = .int .u32 st
  r0 : g 1 = .int .u32 (a 0)
  r1 : g 2 = .int .u32 (a 1)
  r2 : g 3 = .int .u32 (a 2)
  r3 : g 4 = .int .u32 (a 3)
theorem Half.probs {g : Nat → Value} {st : Int} {a : Nat → Int} (h : Half g st a) : ProbsOk g := fun j h5 h6 => ⟨1024, h.p j h5 h6, by omega, by omega⟩

section
variable {g g' : Nat → Value} {st ps : Nat} {length : Int} {a : Nat → Int}

theorem fin0 (h : Half g (st : Int) a) (hst : st < 12) (hps : ps < 16) (hL : g' 13626 = .int .u16 (lenC length (prOf (g 13626)))) (hL2 : g' 13627 = .int .u16 (lenC2 length (prOf (g 13627))))
    (k : ∀ j, j < 13626 → g' j = (put (put (put (put g (5 + st * 16 + ps) 1) (197 + st) 1) (209 + st) 0) (245 + st * 16 + ps) 1) j) : Fin (upd g' 0 (.int .u32 (nst (st : Int)))) st ps 0 length a := by
  have hp := h.p
  rw [hp 13626 (by omega) (by omega), prOf_half] at hL
  rw [hp 13627 (by omega) (by omega), prOf_half] at hL2
  have low5 : ∀ j, j < 5 → g' j = g j := fun j hj => by
    rw [k j (by omega)]; rw [put_other (by omega)]; rw [put_other (by omega)]; rw [put_other (by omega)]; rw [put_other (by omega)]
  refine ⟨upd_same _ _ _, ?_, ?_, ?_, ?_, fun s p hs hp' => ?_, fun s p hs hp' => ?_, fun s hs => ?_, fun s hs => ?_, fun s hs => ?_, fun s hs => ?_, ?_, ?_, ?_, ?_⟩
  all_goals rw [upd_other _ _ _ (by omega)]
  · rw [low5 _ (by omega)]; exact h.r0
  · rw [low5 _ (by omega)]; exact h.r1
  · rw [low5 _ (by omega)]; exact h.r2
  · rw [low5 _ (by omega)]; exact h.r3
  · rw [k _ (by omega)]
    unfold vM
    by_cases e : s = st ∧ p = ps
    · obtain ⟨rfl, rfl⟩ := e
      simp (disch := omega) only [put_other, put_same, hp, prOf_half, half_zero, half_one, and_self, if_true]
    · rw [if_neg e]
      simp (disch := omega) only [put_other, hp]
  · rw [k _ (by omega)]
    unfold vL
    by_cases e : s = st ∧ p = ps
    · obtain ⟨rfl, rfl⟩ := e
      simp (disch := omega) only [put_other, put_same, hp, prOf_half, half_zero, half_one, and_self, if_true]
    · rw [if_neg (by omega)]
      simp (disch := omega) only [put_other, hp]
  · rw [k _ (by omega)]
    unfold vR
    by_cases e : s = st
    · subst e
      simp (disch := omega) only [put_other, put_same, hp, prOf_half, half_zero, half_one, if_true]
    · rw [if_neg e]
      simp (disch := omega) only [put_other, hp]
  · rw [k _ (by omega)]
    unfold vG0
    by_cases e : s = st
    · subst e
      simp (disch := omega) only [put_other, put_same, hp, prOf_half, half_zero, half_one, if_true]
    · rw [if_neg e]
      simp (disch := omega) only [put_other, hp]
  · rw [k _ (by omega)]
    unfold vG1
    simp (disch := omega) only [put_other, hp, if_true, ite_self]
  · rw [k _ (by omega)]
    unfold vG2
    simp (disch := omega) only [put_other, hp, if_pos, ite_self]
  · exact hL
  · exact hL2
  · rw [k _ (by omega)]
    simp (disch := omega) only [put_other, hp]
  · rw [k _ (by omega)]
    simp (disch := omega) only [put_other, hp]

theorem fin1 (h : Half g (st : Int) a) (hst : st < 12) (hps : ps < 16) (hL : g' 13626 = .int .u16 (lenC length (prOf (g 13626)))) (hL2 : g' 13627 = .int .u16 (lenC2 length (prOf (g 13627))))
    (k : ∀ j, j < 13626 → g' j = (upd (shiftR (put (put (put (put g (5 + st * 16 + ps) 1) (197 + st) 1) (209 + st) 1) (221 + st) 0) 1) 1 (.int .u32 (a 1))) j) : Fin (upd g' 0 (.int .u32 (nst (st : Int)))) st ps 1 length a := by
  have hp := h.p
  rw [hp 13626 (by omega) (by omega), prOf_half] at hL
  rw [hp 13627 (by omega) (by omega), prOf_half] at hL2
  have low5 : ∀ j, j < 5 → (put (put (put (put g (5 + st * 16 + ps) 1) (197 + st) 1) (209 + st) 1) (221 + st) 0) j = g j := fun j hj => by
    rw [put_other (by omega)]; rw [put_other (by omega)]; rw [put_other (by omega)]; rw [put_other (by omega)]
  have far : ∀ j, 5 ≤ j → j < 13626 → g' j = (put (put (put (put g (5 + st * 16 + ps) 1) (197 + st) 1) (209 + st) 1) (221 + st) 0) j := fun j h5 h6 => by
    rw [k j h6, upd_other _ _ _ (by omega), shiftR_far h5 (by omega)]
  refine ⟨upd_same _ _ _, ?_, ?_, ?_, ?_, fun s p hs hp' => ?_, fun s p hs hp' => ?_, fun s hs => ?_, fun s hs => ?_, fun s hs => ?_, fun s hs => ?_, ?_, ?_, ?_, ?_⟩
  all_goals rw [upd_other _ _ _ (by omega)]
  · rw [k _ (by omega), upd_same]; rfl
  · rw [k _ (by omega), upd_other _ _ _ (by omega)]
    unfold shiftR
    simp (disch := omega) only [if_pos, if_neg, low5]
    exact h.r0
  · rw [k _ (by omega), upd_other _ _ _ (by omega)]
    unfold shiftR
    simp (disch := omega) only [if_pos, if_neg, low5]
    exact h.r2
  · rw [k _ (by omega), upd_other _ _ _ (by omega)]
    unfold shiftR
    simp (disch := omega) only [if_pos, if_neg, low5]
    exact h.r3
  · rw [far _ (by omega) (by omega)]
    unfold vM
    by_cases e : s = st ∧ p = ps
    · obtain ⟨rfl, rfl⟩ := e
      simp (disch := omega) only [put_other, put_same, hp, prOf_half, half_zero, half_one, and_self, if_true]
    · rw [if_neg e]
      simp (disch := omega) only [put_other, hp]
  · rw [far _ (by omega) (by omega)]
    unfold vL
    rw [if_neg (by omega)]
    simp (disch := omega) only [put_other, hp]
  · rw [far _ (by omega) (by omega)]
    unfold vR
    by_cases e : s = st
    · subst e
      simp (disch := omega) only [put_other, put_same, hp, prOf_half, half_zero, half_one, if_true]
    · rw [if_neg e]
      simp (disch := omega) only [put_other, hp]
  · rw [far _ (by omega) (by omega)]
    unfold vG0
    by_cases e : s = st
    · subst e
      rw [if_pos rfl]
      show _ = Value.int .u16 992
      simp (disch := omega) only [put_other, put_same, hp, prOf_half, half_zero, half_one]
    · rw [if_neg e]
      simp (disch := omega) only [put_other, hp]
  · rw [far _ (by omega) (by omega)]
    unfold vG1
    by_cases e : s = st
    · subst e
      rw [if_pos rfl]
      show _ = Value.int .u16 1056
      simp (disch := omega) only [put_other, put_same, hp, prOf_half, half_zero, half_one]
    · rw [if_neg e]
      simp (disch := omega) only [put_other, hp]
  · rw [far _ (by omega) (by omega)]
    unfold vG2
    simp (disch := omega) only [put_other, hp, if_pos, ite_self]
  · exact hL
  · exact hL2
  · rw [far _ (by omega) (by omega)]
    simp (disch := omega) only [put_other, hp]
  · rw [far _ (by omega) (by omega)]
    simp (disch := omega) only [put_other, hp]

theorem fin2 (h : Half g (st : Int) a) (hst : st < 12) (hps : ps < 16) (hL : g' 13626 = .int .u16 (lenC length (prOf (g 13626)))) (hL2 : g' 13627 = .int .u16 (lenC2 length (prOf (g 13627))))
    (k : ∀ j, j < 13626 → g' j = (upd (shiftR (put (put (put (put (put g (5 + st * 16 + ps) 1) (197 + st) 1) (209 + st) 1) (221 + st) 1) (233 + st) 0) 2) 1 (.int .u32 (a 2))) j) : Fin (upd g' 0 (.int .u32 (nst (st : Int)))) st ps 2 length a := by
  have hp := h.p
  rw [hp 13626 (by omega) (by omega), prOf_half] at hL
  rw [hp 13627 (by omega) (by omega), prOf_half] at hL2
  have low5 : ∀ j, j < 5 → (put (put (put (put (put g (5 + st * 16 + ps) 1) (197 + st) 1) (209 + st) 1) (221 + st) 1) (233 + st) 0) j = g j := fun j hj => by
    rw [put_other (by omega)]; rw [put_other (by omega)]; rw [put_other (by omega)]; rw [put_other (by omega)]; rw [put_other (by omega)]
  have far : ∀ j, 5 ≤ j → j < 13626 → g' j = (put (put (put (put (put g (5 + st * 16 + ps) 1) (197 + st) 1) (209 + st) 1) (221 + st) 1) (233 + st) 0) j := fun j h5 h6 => by
    rw [k j h6, upd_other _ _ _ (by omega), shiftR_far h5 (by omega)]
  refine ⟨upd_same _ _ _, ?_, ?_, ?_, ?_, fun s p hs hp' => ?_, fun s p hs hp' => ?_, fun s hs => ?_, fun s hs => ?_, fun s hs => ?_, fun s hs => ?_, ?_, ?_, ?_, ?_⟩
  all_goals rw [upd_other _ _ _ (by omega)]
  · rw [k _ (by omega), upd_same]; rfl
  · rw [k _ (by omega), upd_other _ _ _ (by omega)]
    unfold shiftR
    simp (disch := omega) only [if_pos, if_neg, low5]
    exact h.r0
  · rw [k _ (by omega), upd_other _ _ _ (by omega)]
    unfold shiftR
    simp (disch := omega) only [if_pos, if_neg, low5]
    exact h.r1
  · rw [k _ (by omega), upd_other _ _ _ (by omega)]
    unfold shiftR
    simp (disch := omega) only [if_pos, if_neg, low5]
    exact h.r3
  · rw [far _ (by omega) (by omega)]
    unfold vM
    by_cases e : s = st ∧ p = ps
    · obtain ⟨rfl, rfl⟩ := e
      simp (disch := omega) only [put_other, put_same, hp, prOf_half, half_zero, half_one, and_self, if_true]
    · rw [if_neg e]
      simp (disch := omega) only [put_other, hp]
  · rw [far _ (by omega) (by omega)]
    unfold vL
    rw [if_neg (by omega)]
    simp (disch := omega) only [put_other, hp]
  · rw [far _ (by omega) (by omega)]
    unfold vR
    by_cases e : s = st
    · subst e
      simp (disch := omega) only [put_other, put_same, hp, prOf_half, half_zero, half_one, if_true]
    · rw [if_neg e]
      simp (disch := omega) only [put_other, hp]
  · rw [far _ (by omega) (by omega)]
    unfold vG0
    by_cases e : s = st
    · subst e
      rw [if_pos rfl]
      show _ = Value.int .u16 992
      simp (disch := omega) only [put_other, put_same, hp, prOf_half, half_zero, half_one]
    · rw [if_neg e]
      simp (disch := omega) only [put_other, hp]
  · rw [far _ (by omega) (by omega)]
    unfold vG1
    by_cases e : s = st
    · subst e
      rw [if_pos rfl]
      show _ = Value.int .u16 992
      simp (disch := omega) only [put_other, put_same, hp, prOf_half, half_zero, half_one]
    · rw [if_neg e]
      simp (disch := omega) only [put_other, hp]
  · rw [far _ (by omega) (by omega)]
    unfold vG2
    by_cases e : s = st
    · subst e
      rw [if_pos rfl]
      show _ = Value.int .u16 1056
      simp (disch := omega) only [put_other, put_same, hp, prOf_half, half_zero, half_one]
    · rw [if_neg e]
      simp (disch := omega) only [put_other, hp]
  · exact hL
  · exact hL2
  · rw [far _ (by omega) (by omega)]
    simp (disch := omega) only [put_other, hp]
  · rw [far _ (by omega) (by omega)]
    simp (disch := omega) only [put_other, hp]

theorem fin3 (h : Half g (st : Int) a) (hst : st < 12) (hps : ps < 16) (hL : g' 13626 = .int .u16 (lenC length (prOf (g 13626)))) (hL2 : g' 13627 = .int .u16 (lenC2 length (prOf (g 13627))))
    (k : ∀ j, j < 13626 → g' j = (upd (shiftR (put (put (put (put (put g (5 + st * 16 + ps) 1) (197 + st) 1) (209 + st) 1) (221 + st) 1) (233 + st) 1) 3) 1 (.int .u32 (a 3))) j) : Fin (upd g' 0 (.int .u32 (nst (st : Int)))) st ps 3 length a := by
  have hp := h.p
  rw [hp 13626 (by omega) (by omega), prOf_half] at hL
  rw [hp 13627 (by omega) (by omega), prOf_half] at hL2
  have low5 : ∀ j, j < 5 → (put (put (put (put (put g (5 + st * 16 + ps) 1) (197 + st) 1) (209 + st) 1) (221 + st) 1) (233 + st) 1) j = g j := fun j hj => by
    rw [put_other (by omega)]; rw [put_other (by omega)]; rw [put_other (by omega)]; rw [put_other (by omega)]; rw [put_other (by omega)]
  have far : ∀ j, 5 ≤ j → j < 13626 → g' j = (put (put (put (put (put g (5 + st * 16 + ps) 1) (197 + st) 1) (209 + st) 1) (221 + st) 1) (233 + st) 1) j := fun j h5 h6 => by
    rw [k j h6, upd_other _ _ _ (by omega), shiftR_far h5 (by omega)]
  refine ⟨upd_same _ _ _, ?_, ?_, ?_, ?_, fun s p hs hp' => ?_, fun s p hs hp' => ?_, fun s hs => ?_, fun s hs => ?_, fun s hs => ?_, fun s hs => ?_, ?_, ?_, ?_, ?_⟩
  all_goals rw [upd_other _ _ _ (by omega)]
  · rw [k _ (by omega), upd_same]; rfl
  · rw [k _ (by omega), upd_other _ _ _ (by omega)]
    unfold shiftR
    simp (disch := omega) only [if_pos, if_neg, low5]
    exact h.r0
  · rw [k _ (by omega), upd_other _ _ _ (by omega)]
    unfold shiftR
    simp (disch := omega) only [if_pos, if_neg, low5]
    exact h.r1
  · rw [k _ (by omega), upd_other _ _ _ (by omega)]
    unfold shiftR
    simp (disch := omega) only [if_pos, if_neg, low5]
    exact h.r2
  · rw [far _ (by omega) (by omega)]
    unfold vM
    by_cases e : s = st ∧ p = ps
    · obtain ⟨rfl, rfl⟩ := e
      simp (disch := omega) only [put_other, put_same, hp, prOf_half, half_zero, half_one, and_self, if_true]
    · rw [if_neg e]
      simp (disch := omega) only [put_other, hp]
  · rw [far _ (by omega) (by omega)]
    unfold vL
    rw [if_neg (by omega)]
    simp (disch := omega) only [put_other, hp]
  · rw [far _ (by omega) (by omega)]
    unfold vR
    by_cases e : s = st
    · subst e
      simp (disch := omega) only [put_other, put_same, hp, prOf_half, half_zero, half_one, if_true]
    · rw [if_neg e]
      simp (disch := omega) only [put_other, hp]
  · rw [far _ (by omega) (by omega)]
    unfold vG0
    by_cases e : s = st
    · subst e
      rw [if_pos rfl]
      show _ = Value.int .u16 992
      simp (disch := omega) only [put_other, put_same, hp, prOf_half, half_zero, half_one]
    · rw [if_neg e]
      simp (disch := omega) only [put_other, hp]
  · rw [far _ (by omega) (by omega)]
    unfold vG1
    by_cases e : s = st
    · subst e
      rw [if_pos rfl]
      show _ = Value.int .u16 992
      simp (disch := omega) only [put_other, put_same, hp, prOf_half, half_zero, half_one]
    · rw [if_neg e]
      simp (disch := omega) only [put_other, hp]
  · rw [far _ (by omega) (by omega)]
    unfold vG2
    by_cases e : s = st
    · subst e
      rw [if_pos rfl]
      show _ = Value.int .u16 992
      simp (disch := omega) only [put_other, put_same, hp, prOf_half, half_zero, half_one]
    · rw [if_neg e]
      simp (disch := omega) only [put_other, hp]
  · exact hL
  · exact hL2
  · rw [far _ (by omega) (by omega)]
    simp (disch := omega) only [put_other, hp]
  · rw [far _ (by omega) (by omega)]
    simp (disch := omega) only [put_other, hp]
end

/-- ZZrep on a coder at one half. -/
theorem rep11f (i : Nat) (hi : i < 4) (w wr : World) (q P B : Nat) (N low rng cache cs : Int) (out : List Int) (g : Nat → Value) (h : St w wr q P B N low rng cache cs out g) (ap : Apart q P B) (hN : N ≤ 137438953472) (st ps : Nat) (hst : st < 12) (hps : ps < 16) (a : Nat → Int) (hg : Half g (st : Int) a)
    (length : Int) (hlen0 : 0 ≤ length) (hlen1 : length < 4294967296) :
    Calls Try.prog 11 #[.pointer (some ⟨P, 0, none⟩), .pointer (some ⟨q, 0, none⟩), .int .u32 (i : Int), .int .u32 length, .int .u32 (ps : Int)] wr fun e w' => e = .returned (.tuple #[]) ∧ ∃ g', St w w' q P B (N + 20) low rng cache cs out g' ∧ Fin g' st ps i length a := by
  have hp := hg.probs
  rcases (by omega : i = 0 ∨ i = 1 ∨ i = 2 ∨ i = 3) with rfl | rfl | rfl | rfl
  · have key := rep0 w wr q P B N low rng cache cs out g h ap hN hp st ps hst hps hg.s _ _ _ _ hg.r0 hg.r1 hg.r2 hg.r3 length hlen0 hlen1
    go_enter Try.func11, Try.ntmps11
    go_wp2_with (go_at_call 39; refine key.mono ?_; rintro e w' ⟨rfl, g', S, L, k, c1, c2⟩)
    go_end0
    exact ⟨rfl, _, S, fin0 hg hst hps c1 c2 k⟩
  · have key := rep1 w wr q P B N low rng cache cs out g h ap hN hp st ps hst hps hg.s _ _ _ _ hg.r0 hg.r1 hg.r2 hg.r3 length hlen0 hlen1
    go_enter Try.func11, Try.ntmps11
    go_wp2_with (go_at_call 39; refine key.mono ?_; rintro e w' ⟨rfl, g', S, L, k, c1, c2⟩)
    go_end0
    exact ⟨rfl, _, S, fin1 hg hst hps c1 c2 k⟩
  · have key := rep2 w wr q P B N low rng cache cs out g h ap hN hp st ps hst hps hg.s _ _ _ _ hg.r0 hg.r1 hg.r2 hg.r3 length hlen0 hlen1
    go_enter Try.func11, Try.ntmps11
    go_wp2_with (go_at_call 39; refine key.mono ?_; rintro e w' ⟨rfl, g', S, L, k, c1, c2⟩)
    go_end0
    exact ⟨rfl, _, S, fin2 hg hst hps c1 c2 k⟩
  · have key := rep3 w wr q P B N low rng cache cs out g h ap hN hp st ps hst hps hg.s _ _ _ _ hg.r0 hg.r1 hg.r2 hg.r3 length hlen0 hlen1
    go_enter Try.func11, Try.ntmps11
    go_wp2_with (go_at_call 39; refine key.mono ?_; rintro e w' ⟨rfl, g', S, L, k, c1, c2⟩)
    go_end0
    exact ⟨rfl, _, S, fin3 hg hst hps c1 c2 k⟩
end Go.Proofs.Qxb6605628aR.Lz
