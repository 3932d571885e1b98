import Derived.Test.Qxb6605628aRTree
namespace Go.Proofs.Qxb6605628aR.Lz
open Go.ChangeShapes Go.WideShapes Go.ChangeAt Go.RowKit
set_option linter.unusedVariables false

/-- All the length coder's probabilities are in order. -/
def LenOk (g : Nat → Value) : Prop := ∀ i, 13626 ≤ i → i < 14140 → PrOk (g i)
theorem LenOk.upd {g : Nat → Value} (h : LenOk g) (o : Nat) {pr b : Int} (hp : 31 ≤ pr ∧ pr ≤ 2017) : LenOk (upd g o (.int .u16 (updP pr b))) := by
  intro i h1 h2
  by_cases e : i = o
  · subst e; rw [upd_same]; exact ⟨_, rfl, updP_ok pr b hp⟩
  · rw [upd_other _ _ _ e]; exact h i h1 h2
theorem LenOk.same {g g' : Nat → Value} (h : LenOk g) {lo len : Nat} (s : Same g g' lo len) : LenOk g' := by
  intro i h1 h2
  by_cases e : i < lo ∨ lo + len ≤ i
  · rw [s.1 i e]; exact h i h1 h2
  · exact s.2 i (by omega) (by omega)

set_option maxHeartbeats 2000000 in
theorem St.encA {w wr : World} {q P B : Nat} {N low rng cache cs : Int} {out : List Int} {g : Nat → Value} (h : St w wr q P B N low rng cache cs out g) (ap : Apart q P B) (hN : N ≤ 274877906944) (hL : LenOk g) (pc : Int) (hpc : g 13626 = .int .u16 pc) (hp : 31 ≤ pc ∧ pc ≤ 2017)
    (length : Int) (ps : Nat) (hps : ps < 16) (h2 : 2 ≤ length) (h10 : length < 10) :
    Calls Try.prog 43 #[.pointer (some ⟨P, 13626, none⟩), .pointer (some ⟨q, 0, none⟩), .int .u32 length, .int .u32 (ps : Int)] wr fun e w' => e = .returned (.tuple #[]) ∧ ∃ g', St w w' q P B (N + 10) low rng cache cs out g' ∧ LenOk g' ∧ (∀ i, i < 13626 → g' i = g i) ∧ g' 13626 = .int .u16 (updP pc 0) ∧ g' 13627 = g 13627 := by
  have hpi : (ps : Int) < 16 := by omega
  go_enter Try.func43, Try.ntmps43
  go_wp2_with fail
  refine (h.bit ap (by omega) 13626 (by omega) hpc hp 0 (by omega) (by omega)).mono ?_
  rintro e w2 ⟨rfl, S2⟩
  have L2 := hL.upd 13626 (b := 0) hp
  go_wp2_with fail
  refine (S2.tree ap (by omega) (13628 + ps * 8) 8 3 (by omega) (by omega) (by decide) (by omega) (fun i h1 h2 => L2 i (by omega) (by omega)) (length - 2) (by omega) (by omega)).mono ?_
  rintro e w9 ⟨rfl, g', S9, hG⟩
  have L9 := L2.same hG
  clear S2
  go_wp2
  go_end0
  refine ⟨rfl, g', S9.mono (by omega), L9, fun i hi => ?_, ?_, ?_⟩
  · rw [hG.1 i (by omega), upd_other _ _ _ (by omega)]
  · rw [hG.1 13626 (by omega), upd_same]
  · rw [hG.1 13627 (by omega), upd_other _ _ _ (by omega)]

set_option maxHeartbeats 2000000 in
theorem St.encB {w wr : World} {q P B : Nat} {N low rng cache cs : Int} {out : List Int} {g : Nat → Value} (h : St w wr q P B N low rng cache cs out g) (ap : Apart q P B) (hN : N ≤ 274877906944) (hL : LenOk g) (pc : Int) (hpc : g 13626 = .int .u16 pc) (hp : 31 ≤ pc ∧ pc ≤ 2017) (pc2 : Int) (hpc2 : g 13627 = .int .u16 pc2) (hp2 : 31 ≤ pc2 ∧ pc2 ≤ 2017)
    (length : Int) (ps : Nat) (hps : ps < 16) (h2 : 10 ≤ length) (h10 : length < 18) :
    Calls Try.prog 43 #[.pointer (some ⟨P, 13626, none⟩), .pointer (some ⟨q, 0, none⟩), .int .u32 length, .int .u32 (ps : Int)] wr fun e w' => e = .returned (.tuple #[]) ∧ ∃ g', St w w' q P B (N + 10) low rng cache cs out g' ∧ LenOk g' ∧ (∀ i, i < 13626 → g' i = g i) ∧ g' 13626 = .int .u16 (updP pc 1) ∧ g' 13627 = .int .u16 (updP pc2 0) := by
  have hpi : (ps : Int) < 16 := by omega
  go_enter Try.func43, Try.ntmps43
  go_wp2_with fail
  refine (h.bit ap (by omega) 13626 (by omega) hpc hp 1 (by omega) (by omega)).mono ?_
  rintro e w1 ⟨rfl, S1⟩
  have L1 := hL.upd 13626 (b := 1) hp
  go_wp2_with fail
  refine (S1.bit ap (by omega) 13627 (by omega) ((upd_other _ _ _ (by omega)).trans hpc2) hp2 0 (by omega) (by omega)).mono ?_
  rintro e w2 ⟨rfl, S2⟩
  have L2 := L1.upd 13627 (b := 0) hp2
  clear S1 L1
  go_wp2_with fail
  refine (S2.tree ap (by omega) (13756 + ps * 8) 8 3 (by omega) (by omega) (by decide) (by omega) (fun i h1 h2 => L2 i (by omega) (by omega)) (length - 2 - 8) (by omega) (by omega)).mono ?_
  rintro e w9 ⟨rfl, g', S9, hG⟩
  have L9 := L2.same hG
  clear S2
  go_wp2
  go_end0
  refine ⟨rfl, g', S9.mono (by omega), L9, fun i hi => ?_, ?_, ?_⟩
  · rw [hG.1 i (by omega), upd_other _ _ _ (by omega), upd_other _ _ _ (by omega)]
  · rw [hG.1 13626 (by omega), upd_other _ _ _ (by omega), upd_same]
  · rw [hG.1 13627 (by omega), upd_same]

set_option maxHeartbeats 2000000 in
theorem St.encC {w wr : World} {q P B : Nat} {N low rng cache cs : Int} {out : List Int} {g : Nat → Value} (h : St w wr q P B N low rng cache cs out g) (ap : Apart q P B) (hN : N ≤ 274877906944) (hL : LenOk g) (pc : Int) (hpc : g 13626 = .int .u16 pc) (hp : 31 ≤ pc ∧ pc ≤ 2017) (pc2 : Int) (hpc2 : g 13627 = .int .u16 pc2) (hp2 : 31 ≤ pc2 ∧ pc2 ≤ 2017)
    (length : Int) (ps : Nat) (hps : ps < 16) (l : Int) (hl : IntKind.u32.wrap (length - 2) = l) (hl0 : 16 ≤ l) (hl1 : l < 4294967296) (hlen0 : 0 ≤ length) (hlen1 : length < 4294967296) :
    Calls Try.prog 43 #[.pointer (some ⟨P, 13626, none⟩), .pointer (some ⟨q, 0, none⟩), .int .u32 length, .int .u32 (ps : Int)] wr fun e w' => e = .returned (.tuple #[]) ∧ ∃ g', St w w' q P B (N + 10) low rng cache cs out g' ∧ LenOk g' ∧ (∀ i, i < 13626 → g' i = g i) ∧ g' 13626 = .int .u16 (updP pc 1) ∧ g' 13627 = .int .u16 (updP pc2 1) := by
  have hpi : (ps : Int) < 16 := by omega
  go_enter Try.func43, Try.ntmps43
  go_wp2_with fail
  refine (h.bit ap (by omega) 13626 (by omega) hpc hp 1 (by omega) (by omega)).mono ?_
  rintro e w1 ⟨rfl, S1⟩
  have L1 := hL.upd 13626 (b := 1) hp
  go_wp2_with fail
  refine (S1.bit ap (by omega) 13627 (by omega) ((upd_other _ _ _ (by omega)).trans hpc2) hp2 1 (by omega) (by omega)).mono ?_
  rintro e w2 ⟨rfl, S2⟩
  have L2 := L1.upd 13627 (b := 1) hp2
  clear S1 L1
  go_wp2_with fail
  refine (S2.tree ap (by omega) (13884) 256 8 (by omega) (by omega) (by decide) (by omega) (fun i h1 h2 => L2 i (by omega) (by omega)) (l - 16) (by omega) (by omega)).mono ?_
  rintro e w9 ⟨rfl, g', S9, hG⟩
  have L9 := L2.same hG
  clear S2
  go_wp2
  go_end0
  refine ⟨rfl, g', S9.mono (by omega), L9, fun i hi => ?_, ?_, ?_⟩
  · rw [hG.1 i (by omega), upd_other _ _ _ (by omega), upd_other _ _ _ (by omega)]
  · rw [hG.1 13626 (by omega), upd_other _ _ _ (by omega), upd_same]
  · rw [hG.1 13627 (by omega), upd_same]

/-- What the two choices become. -/
def lenC (length pc : Int) : Int := if 2 ≤ length ∧ length < 10 then updP pc 0 else updP pc 1
def lenC2 (length pc2 : Int) : Int := if 2 ≤ length ∧ length < 10 then pc2 else if 10 ≤ length ∧ length < 18 then updP pc2 0 else updP pc2 1

theorem St.encode {w wr : World} {q P B : Nat} {N low rng cache cs : Int} {out : List Int} {g : Nat → Value} (h : St w wr q P B N low rng cache cs out g) (ap : Apart q P B) (hN : N ≤ 274877906944) (hL : LenOk g) (pc : Int) (hpc : g 13626 = .int .u16 pc) (pc2 : Int) (hpc2 : g 13627 = .int .u16 pc2)
    (length : Int) (ps : Nat) (hps : ps < 16) (hlen0 : 0 ≤ length) (hlen1 : length < 4294967296) :
    Calls Try.prog 43 #[.pointer (some ⟨P, 13626, none⟩), .pointer (some ⟨q, 0, none⟩), .int .u32 length, .int .u32 (ps : Int)] wr fun e w' => e = .returned (.tuple #[]) ∧ ∃ g', St w w' q P B (N + 10) low rng cache cs out g' ∧ LenOk g' ∧ (∀ i, i < 13626 → g' i = g i) ∧ g' 13626 = .int .u16 (lenC length pc) ∧ g' 13627 = .int .u16 (lenC2 length pc2) := by
  have hp : 31 ≤ pc ∧ pc ≤ 2017 := by
    obtain ⟨x, h1, h2⟩ := hL 13626 (by omega) (by omega)
    rw [hpc] at h1; cases h1; exact h2
  have hp2 : 31 ≤ pc2 ∧ pc2 ≤ 2017 := by
    obtain ⟨x, h1, h2⟩ := hL 13627 (by omega) (by omega)
    rw [hpc2] at h1; cases h1; exact h2
  by_cases hA : 2 ≤ length ∧ length < 10
  · refine (h.encA ap hN hL pc hpc hp length ps hps hA.1 hA.2).mono ?_
    rintro e w' ⟨rfl, g', a, b, c, d, f⟩
    exact ⟨rfl, g', a, b, c, by unfold lenC; rw [if_pos hA]; exact d, by unfold lenC2; rw [if_pos hA, f]; exact hpc2⟩
  by_cases hB : 10 ≤ length ∧ length < 18
  · refine (h.encB ap hN hL pc hpc hp pc2 hpc2 hp2 length ps hps hB.1 hB.2).mono ?_
    rintro e w' ⟨rfl, g', a, b, c, d, f⟩
    exact ⟨rfl, g', a, b, c, by unfold lenC; rw [if_neg hA]; exact d, by unfold lenC2; rw [if_neg hA, if_pos hB]; exact f⟩
  · have hw : IntKind.u32.wrap (length - 2) = (length - 2) % 4294967296 := rfl
    refine (h.encC ap hN hL pc hpc hp pc2 hpc2 hp2 length ps hps _ hw (by omega) (by omega) hlen0 hlen1).mono ?_
    rintro e w' ⟨rfl, g', a, b, c, d, f⟩
    exact ⟨rfl, g', a, b, c, by unfold lenC; rw [if_neg hA]; exact d, by unfold lenC2; rw [if_neg hA, if_neg hB]; exact f⟩
end Go.Proofs.Qxb6605628aR.Lz
