import Derived.Test.Qxb6605628aRRep
namespace Go.Proofs.Qxb6605628aR.Lz
open Go.ChangeShapes Go.WideShapes Go.ChangeAt Go.RowKit
set_option linter.unusedVariables false

set_option maxRecDepth 20000 in
set_option maxHeartbeats 8000000 in
theorem rep1 (w wr : World) (q P B : Nat) (N low rng cache cs : Int) (out : List Int) (g : Nat → Value) (h : St w wr q P B N low rng cache cs out g) (ap : Apart q P B) (hN : N ≤ 137438953472) (hg : ProbsOk g) (st ps : Nat) (hst : st < 12) (hps : ps < 16) (h0 : g 0 = .int .u32 (st : Int)) (r0 r1 r2 r3 : Int) (e1 : g 1 = .int .u32 r0) (e2 : g 2 = .int .u32 r1) (e3 : g 3 = .int .u32 r2) (e4 : g 4 = .int .u32 r3)
    (length : Int) (hlen0 : 0 ≤ length) (hlen1 : length < 4294967296) :
    Calls Try.prog 39 #[.pointer (some ⟨P, 0, none⟩), .pointer (some ⟨q, 0, none⟩), .int .u32 1, .int .u32 length, .int .u32 (ps : Int)] wr fun e w' => e = .returned (.tuple #[]) ∧ ∃ g', St w w' q P B (N + 20) low rng cache cs out (upd g' 0 (.int .u32 (nst (st : Int)))) ∧ LenOk g' ∧ (∀ j, j < 13626 → g' j = (upd (shiftR (put (put (put (put g (5 + st * 16 + ps) 1) (197 + st) 1) (209 + st) 1) (221 + st) 0) 1) 1 (.int .u32 r1)) j) ∧ g' 13626 = .int .u16 (lenC length (prOf (g 13626))) ∧ g' 13627 = .int .u16 (lenC2 length (prOf (g 13627))) := by
  have hsi : (st : Int) < 12 := by omega
  have hpi : (ps : Int) < 16 := by omega
  have c0 := h.cod.cell 0 (by omega)
  rw [h0] at c0
  have H0 : Hid (g 0 = .int .u32 (st : Int)) := h0
  have E1 : Hid (g 1 = .int .u32 r0) := e1
  have E2 : Hid (g 2 = .int .u32 r1) := e2
  have E3 : Hid (g 3 = .int .u32 r2) := e3
  have E4 : Hid (g 4 = .int .u32 r3) := e4
  have L0 : Hid (g 13626 = .int .u16 (prOf (g 13626)) ∧ g 13627 = .int .u16 (prOf (g 13627))) := ⟨(hg 13626 (by omega) (by omega)).eq.1, (hg 13627 (by omega) (by omega)).eq.1⟩
  clear h0 e1 e2 e3 e4
  go_enter Try.func39, Try.ntmps39
  go_wp2
  go_region_held3 (fun w' => w'.cell? ⟨P, 0, none⟩ = some (.int .u32 (st : Int))) (go_keep) ((go_at_call 42; refine (h.drew.put ap (by omega) hg H0.out (5 + st * 16 + ps) (by omega) (by omega) 1 (by omega) (by omega)).mono ?_; rintro e w1 ⟨rfl, S1, G1, H1, z1⟩))
  clear c0
  go_wp2
  go_region_held3 (fun w' => w'.cell? ⟨P, 0, none⟩ = some (.int .u32 (st : Int))) (go_keep) ((go_at_call 42; refine (S1.drew.put ap (by omega) G1 H1.out (197 + st) (by omega) (by omega) 1 (by omega) (by omega)).mono ?_; rintro e w2 ⟨rfl, S2, G2, H2, z2⟩))
  clear z1 S1 G1 H1
  go_wp2
  go_region_held3 (fun w' => w'.cell? ⟨P, 0, none⟩ = some (.int .u32 (st : Int))) (go_keep) ((go_at_call 42; refine (S2.drew.put ap (by omega) G2 H2.out (209 + st) (by omega) (by omega) 1 (by omega) (by omega)).mono ?_; rintro e w3 ⟨rfl, S3, G3, H3, z3⟩))
  clear z2 S2 G2 H2
  go_wp2
  go_region_held3 (fun w' => w'.cell? ⟨P, 0, none⟩ = some (.int .u32 (st : Int))) (go_keep) ((go_at_call 42; refine (S3.drew.put ap (by omega) G3 H3.out (221 + st) (by omega) (by omega) 0 (by omega) (by omega)).mono ?_; rintro e w4 ⟨rfl, S4, G4, H4, z4⟩))
  clear z3 S3 G3 H3
  have low5 : ∀ j, j < 5 → (put (put (put (put g (5 + st * 16 + ps) 1) (197 + st) 1) (209 + st) 1) (221 + st) 0) j = g j := fun j hj => by
    rw [put_other (by omega)]; rw [put_other (by omega)]; rw [put_other (by omega)]; rw [put_other (by omega)]
  have a1 : (put (put (put (put g (5 + st * 16 + ps) 1) (197 + st) 1) (209 + st) 1) (221 + st) 0) 1 = .int .u32 r0 := (low5 1 (by omega)).trans E1.out
  have a2 : (put (put (put (put g (5 + st * 16 + ps) 1) (197 + st) 1) (209 + st) 1) (221 + st) 0) 2 = .int .u32 r1 := (low5 2 (by omega)).trans E2.out
  have a3 : (put (put (put (put g (5 + st * 16 + ps) 1) (197 + st) 1) (209 + st) 1) (221 + st) 0) 3 = .int .u32 r2 := (low5 3 (by omega)).trans E3.out
  have a4 : (put (put (put (put g (5 + st * 16 + ps) 1) (197 + st) 1) (209 + st) 1) (221 + st) 0) 4 = .int .u32 r3 := (low5 4 (by omega)).trans E4.out
  have d1 : w4.cell? ⟨P, 2, none⟩ = some (.int .u32 r1) := by rw [S4.cod.cell 2 (by omega), a2]
  obtain ⟨wc, hcp, CC, OO⟩ := copy_reps S4.drew.cod 1 (by omega) (fun j hj => by
    obtain rfl | rfl | rfl | rfl : j = 0 ∨ j = 1 ∨ j = 2 ∨ j = 3 := by omega
    · exact ⟨_, a1⟩
    · exact ⟨_, a2⟩
    · exact ⟨_, a3⟩
    · exact ⟨_, a4⟩)
  have SC := S4.drew.only ap OO CC
  have cc1 := SC.cod.cell 1 (by omega)
  have fc1 := SC.cod.fr 1
  have S9 := SC.set ap 1 (by omega) (.int .u32 r1)
  have G9 : LenOk (upd (shiftR (put (put (put (put g (5 + st * 16 + ps) 1) (197 + st) 1) (209 + st) 1) (221 + st) 0) 1) 1 (.int .u32 r1)) := fun j h1 h2 => by
    rw [upd_other _ _ _ (by omega)]
    unfold shiftR
    rw [if_neg (by omega)]
    exact G4 j (by omega) h2
  have same9 : ∀ j, 5 ≤ j → (upd (shiftR (put (put (put (put g (5 + st * 16 + ps) 1) (197 + st) 1) (209 + st) 1) (221 + st) 0) 1) 1 (.int .u32 r1)) j = (put (put (put (put g (5 + st * 16 + ps) 1) (197 + st) 1) (209 + st) 1) (221 + st) 0) j := fun j hj => by
    rw [upd_other _ _ _ (by omega)]
    unfold shiftR
    rw [if_neg (by omega)]
  clear a1 a2 a3 a4 CC OO
  go_wp2
  go_region
  clear hcp
  have K13626 : (put (put (put (put g (5 + st * 16 + ps) 1) (197 + st) 1) (209 + st) 1) (221 + st) 0) 13626 = .int .u16 (prOf (g 13626)) := by
    rw [put_other (by omega)]; rw [put_other (by omega)]; rw [put_other (by omega)]; rw [put_other (by omega)]; exact L0.out.1
  have K13627 : (put (put (put (put g (5 + st * 16 + ps) 1) (197 + st) 1) (209 + st) 1) (221 + st) 0) 13627 = .int .u16 (prOf (g 13627)) := by
    rw [put_other (by omega)]; rw [put_other (by omega)]; rw [put_other (by omega)]; rw [put_other (by omega)]; exact L0.out.2
  have KK : Hid ((put (put (put (put g (5 + st * 16 + ps) 1) (197 + st) 1) (209 + st) 1) (221 + st) 0) 13626 = .int .u16 (prOf (g 13626)) ∧ (put (put (put (put g (5 + st * 16 + ps) 1) (197 + st) 1) (209 + st) 1) (221 + st) 0) 13627 = .int .u16 (prOf (g 13627))) := ⟨K13626, K13627⟩
  clear K13626 K13627
  go_wp2_with fail
  refine (S9.encode ap (by omega) G9 (prOf (g 13626)) (by rw [same9 13626 (by omega)]; exact KK.out.1) (prOf (g 13627)) (by rw [same9 13627 (by omega)]; exact KK.out.2) length ps hps hlen0 hlen1).mono ?_
  rintro e w9 ⟨rfl, g', T1, T2, T3, T4, T5⟩
  have t0 : w9.cell? ⟨P, 0, none⟩ = some (.int .u32 (st : Int)) := by
    rw [T1.cod.cell 0 (by omega), T3 0 (by omega)]
    exact congrArg some ((upd_other _ _ _ (by omega)).trans H4.out)
  have f0 := T1.cod.fr 0
  have T9 := T1.set ap 0 (by omega) (.int .u32 (nst (st : Int)))
  clear S9
  go_wp2_with (go_at_call 44; refine (map7_any _ _).mono ?_; rintro e w' ⟨rfl, rfl⟩)
  go_end0
  exact ⟨rfl, g', T9.mono (by omega), T2, T3, T4, T5⟩

end Go.Proofs.Qxb6605628aR.Lz
