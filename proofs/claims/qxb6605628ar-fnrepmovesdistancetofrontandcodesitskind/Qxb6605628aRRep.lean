import Derived.Test.Qxb6605628aREncode
import Derived.Deep.RegionHeld3
namespace Go.Proofs.Qxb6605628aR.Lz
open Go.ChangeShapes Go.WideShapes Go.ChangeAt Go.RowKit
set_option linter.unusedVariables false

/-- All probabilities are in order. -/
def ProbsOk (g : Nat → Value) : Prop := ∀ i, 5 ≤ i → i < 14140 → PrOk (g i)
theorem ProbsOk.upd {g : Nat → Value} (h : ProbsOk g) (o : Nat) {pr b : Int} (hp : 31 ≤ pr ∧ pr ≤ 2017) : ProbsOk (upd g o (.int .u16 (updP pr b))) := by
  intro i h1 h2
  by_cases e : i = o
  · subst e; rw [upd_same]; exact ⟨_, rfl, updP_ok pr b hp⟩
  · rw [upd_other _ _ _ e]; exact h i h1 h2
theorem ProbsOk.low {g : Nat → Value} (h : ProbsOk g) {o : Nat} (ho : o < 5) (x : Value) : ProbsOk (Lz.upd g o x) := by
  intro i h1 h2
  rw [upd_other _ _ _ (by omega)]; exact h i h1 h2

/-- The cell's number, as a number. -/
def prOf (x : Value) : Int := match x with | .int _ n => n | _ => 0
theorem PrOk.eq {x : Value} (h : PrOk x) : x = .int .u16 (prOf x) ∧ 31 ≤ prOf x ∧ prOf x ≤ 2017 := by
  obtain ⟨pr, rfl, h⟩ := h
  exact ⟨rfl, h⟩
/-- A bit coded with cell o. -/
def put (g : Nat → Value) (o : Nat) (b : Int) : Nat → Value := upd g o (.int .u16 (updP (prOf (g o)) b))

theorem put_other {g : Nat → Value} {o : Nat} {b : Int} {j : Nat} (h : j ≠ o) : put g o b j = g j := upd_other _ _ _ h
theorem put_same (g : Nat → Value) (o : Nat) (b : Int) : put g o b o = .int .u16 (updP (prOf (g o)) b) := upd_same _ _ _
theorem ProbsOk.put {g : Nat → Value} (h : ProbsOk g) {o : Nat} (h5 : 5 ≤ o) (ho : o < 14140) (b : Int) : ProbsOk (put g o b) := h.upd o (h o h5 ho).eq.2

theorem St.put {w wr : World} {q P B : Nat} {N low rng cache cs : Int} {out : List Int} {g : Nat → Value} (h : St w wr q P B N low rng cache cs out g) (ap : Apart q P B) (hN : N ≤ 1099511627776) (hg : ProbsOk g) {x0 : Value} (h0 : g 0 = x0) (o : Nat) (ho5 : 5 ≤ o) (ho : o < 14140) (b : Int) (hb0 : 0 ≤ b) (hb1 : b < 4294967296) :
    Calls Try.prog 42 #[.pointer (some ⟨q, 0, none⟩), .pointer (some ⟨P, o, none⟩), .int .u32 b] wr fun e w' => e = .returned (.tuple #[]) ∧ St w w' q P B (N + 1) low rng cache cs out (put g o b) ∧ ProbsOk (put g o b) ∧ Hid (put g o b 0 = x0) ∧ w'.cell? ⟨P, 0, none⟩ = some x0 := by
  obtain ⟨e1, e2⟩ := (hg o ho5 ho).eq
  refine (h.bit ap hN o ho e1 e2 b hb0 hb1).mono ?_
  rintro e w' ⟨rfl, S⟩
  have e0 : Lz.put g o b 0 = x0 := (put_other (by omega)).trans h0
  refine ⟨rfl, S, hg.put ho5 ho b, e0, ?_⟩
  rw [S.cod.cell 0 (by omega)]
  exact congrArg some e0

/-- w' is w but for block P. -/
structure Only (w w' : World) (P : Nat) : Prop where
  os : w'.os = w.os
  tape : w'.tape = w.tape
  output : w'.output = w.output
  size : w'.heap.size = w.heap.size
  block : ∀ i, i ≠ P → w'.heap[i]? = w.heap[i]?
theorem St.only {w wr wr' : World} {q P B : Nat} {N low rng cache cs : Int} {out : List Int} {g g' : Nat → Value} (h : St w wr q P B N low rng cache cs out g) (ap : Apart q P B) (hO : Only wr wr' P) (hC : Cod wr' P g') : St w wr' q P B N low rng cache cs out g' := by
  obtain ⟨a, b, c, d, v, f, h1, h2, h3, h4, h5⟩ := h
  have hB := ap.P
  refine ⟨a, b, c, d, v, f, h1, h2, ⟨(hO.block q (Ne.symm ap.ne)).trans h3.blk, ?_⟩, hC, h5.trans ⟨⟨hO.os, hO.tape, hO.output, by rw [hO.size]; exact Nat.le_refl _, fun i hi => hO.block i (by omega)⟩, fun i c e _ hi _ hx => (hO.block i hi).trans hx⟩⟩
  obtain ⟨cur, hc, _⟩ := h4
  have hfar := h3.far hc (by decide)
  obtain ⟨o1, o2⟩ := h3.own
  refine ⟨o1, ?_⟩
  rcases o2 with o2 | ⟨k, cap, cu, hv, hg, hh, r⟩
  · exact .inl o2
  · subst hv
    exact .inr ⟨k, cap, cu, rfl, hg, (hO.block k (fun e => hfar (by simp [Value.ownBlock, e]))).trans hh, r⟩

/-- The first i distances moved one place on. -/
def shiftR (g : Nat → Value) (i : Nat) : Nat → Value := fun j => if 2 ≤ j ∧ j < 2 + i then g (j - 1) else g j
theorem size22 : (Try.prog.info? 22).map (·.size) = some 1 := by kernel_rfl
theorem copy_reps {w : World} {P : Nat} {g : Nat → Value} (hC : Cod w P g) (i : Nat) (hi : i ≤ 3) (hr : ∀ j, j < 4 → ∃ n, g (1 + j) = .int .u32 n) :
    ∃ w', (∀ ty, (Builtin.copy_ #[49, 49] ty #[.slice (some ⟨P, 2, none⟩) i 3, .slice (some ⟨P, 1, none⟩) i 4]).run Try.prog w = .ok (.int .i64 (i : Int)) w') ∧ Cod w' P (shiftR g i) ∧ Only w w' P := by
  obtain ⟨cur, h1, h2, h3⟩ := hC
  have hl : ((List.range i).map fun j => g (1 + j)).length = i := by simp
  have hget : ∀ j, j < i → ((List.range i).map fun j => g (1 + j))[j]? = some (g (1 + j)) := fun j hj => by simp [hj]
  have hsrc : ∀ j u, ((List.range i).map fun j => g (1 + j))[j]? = some u → w.cell? (Addr.add ⟨P, 1, none⟩ j) = some u := by
    intro j u hu
    have hj : j < i := by
      have := (List.getElem?_eq_some_iff.1 hu).1
      rwa [hl] at this
    rw [hget j hj] at hu
    rw [Addr.add_lit, cell_of_row w P (1 + j) cur 73 (0, 0) h1, h3 (1 + j) (by omega)]
    exact hu
  have hone : ∀ u ∈ (List.range i).map fun j => g (1 + j), u.oneCell' = true := by
    intro u hu
    obtain ⟨j, hj, rfl⟩ := List.mem_map.1 hu
    obtain ⟨n, hn⟩ := hr j (by have := List.mem_range.1 hj; omega)
    rw [hn]; rfl
  have hrun := fun ty => run_copy_row (P := Try.prog) w 49 49 ty 22 P 2 i 3 ⟨P, 1, none⟩ i 4 cur 73 ((List.range i).map fun j => g (1 + j)) Try.underlying49 size22 h1 (by simp) hsrc (by rw [hl]; omega) hone
  rw [hl] at hrun
  refine ⟨w.setRow P (cur.toList.take 2 ++ ((List.range i).map fun j => g (1 + j)) ++ cur.toList.drop (2 + i)).toArray, fun ty => hrun ty, ?_, ⟨rfl, rfl, rfl, by simp [World.setRow], fun k hk => setRow_other w P k _ hk⟩⟩
  refine ⟨_, setRow_heap w P cur _ 73 (0, 0) h1, ?_, fun j hj => ?_⟩
  · simp only [List.size_toArray, List.length_append, List.length_take, List.length_drop, Array.length_toList, hl, h2]
    omega
  · have htk : (cur.toList.take 2).length = 2 := by simp [h2]
    rw [List.getElem?_toArray]
    by_cases j2 : j < 2
    · rw [List.append_assoc, List.getElem?_append_left (by rw [htk]; exact j2), List.getElem?_take, if_pos j2, Array.getElem?_toList, h3 j hj]
      unfold shiftR
      rw [if_neg (by omega)]
    · by_cases ji : j < 2 + i
      · rw [List.append_assoc, List.getElem?_append_right (by rw [htk]; omega), htk, List.getElem?_append_left (by rw [hl]; omega), hget (j - 2) (by omega)]
        unfold shiftR
        rw [if_pos (by omega), show 1 + (j - 2) = j - 1 from by omega]
      · rw [List.append_assoc, List.getElem?_append_right (by rw [htk]; omega), htk, List.getElem?_append_right (by rw [hl]; omega), hl, List.getElem?_drop, Array.getElem?_toList, show 2 + i + (j - 2 - i) = j from by omega, h3 j hj]
        unfold shiftR
        rw [if_neg (by omega)]

/-- The state behind a rep. -/
def nst (s : Int) : Int := if s < 7 then 8 else 11
theorem map7_any (w : World) (s : Int) : Calls Try.prog 44 #[.int .u32 s, .int .u32 8, .int .u32 11] w fun e w' => e = .returned (.int .u32 (nst s)) ∧ w = w' := by
  by_cases h : s < 7
  · rw [show nst s = 8 from if_pos h]
    go_enter Try.func44, Try.ntmps44
    go_wp2
    go_ret
    exact ⟨rfl, rfl⟩
  · rw [show nst s = 11 from if_neg h]
    go_enter Try.func44, Try.ntmps44
    go_wp2
    go_ret
    exact ⟨rfl, rfl⟩

set_option maxRecDepth 20000 in
set_option maxHeartbeats 8000000 in
theorem rep0 (w wr : World) (q P B : Nat) (N low rng cache cs : Int) (out : List Int) (g : Nat → Value) (h : St w wr q P B N low rng cache cs out g) (ap : Apart q P B) (hN : N ≤ 137438953472) (hg : ProbsOk g) (st ps : Nat) (hst : st < 12) (hps : ps < 16) (h0 : g 0 = .int .u32 (st : Int)) (r0 r1 r2 r3 : Int) (e1 : g 1 = .int .u32 r0) (e2 : g 2 = .int .u32 r1) (e3 : g 3 = .int .u32 r2) (e4 : g 4 = .int .u32 r3)
    (length : Int) (hlen0 : 0 ≤ length) (hlen1 : length < 4294967296) :
    Calls Try.prog 39 #[.pointer (some ⟨P, 0, none⟩), .pointer (some ⟨q, 0, none⟩), .int .u32 0, .int .u32 length, .int .u32 (ps : Int)] wr fun e w' => e = .returned (.tuple #[]) ∧ ∃ g', St w w' q P B (N + 20) low rng cache cs out (upd g' 0 (.int .u32 (nst (st : Int)))) ∧ LenOk g' ∧ (∀ j, j < 13626 → g' j = (put (put (put (put g (5 + st * 16 + ps) 1) (197 + st) 1) (209 + st) 0) (245 + st * 16 + ps) 1) j) ∧ g' 13626 = .int .u16 (lenC length (prOf (g 13626))) ∧ g' 13627 = .int .u16 (lenC2 length (prOf (g 13627))) := by
  have hsi : (st : Int) < 12 := by omega
  have hpi : (ps : Int) < 16 := by omega
  have c0 := h.cod.cell 0 (by omega)
  rw [h0] at c0
  have H0 : Hid (g 0 = .int .u32 (st : Int)) := h0
  have E1 : Hid (g 1 = .int .u32 r0) := e1
  have E2 : Hid (g 2 = .int .u32 r1) := e2
  have E3 : Hid (g 3 = .int .u32 r2) := e3
  have E4 : Hid (g 4 = .int .u32 r3) := e4
  have L0 : Hid (g 13626 = .int .u16 (prOf (g 13626)) ∧ g 13627 = .int .u16 (prOf (g 13627))) := ⟨(hg 13626 (by omega) (by omega)).eq.1, (hg 13627 (by omega) (by omega)).eq.1⟩
  clear h0 e1 e2 e3 e4
  go_enter Try.func39, Try.ntmps39
  go_wp2
  go_region_held3 (fun w' => w'.cell? ⟨P, 0, none⟩ = some (.int .u32 (st : Int))) (go_keep) ((go_at_call 42; refine (h.drew.put ap (by omega) hg H0.out (5 + st * 16 + ps) (by omega) (by omega) 1 (by omega) (by omega)).mono ?_; rintro e w1 ⟨rfl, S1, G1, H1, z1⟩))
  clear c0
  go_wp2
  go_region_held3 (fun w' => w'.cell? ⟨P, 0, none⟩ = some (.int .u32 (st : Int))) (go_keep) ((go_at_call 42; refine (S1.drew.put ap (by omega) G1 H1.out (197 + st) (by omega) (by omega) 1 (by omega) (by omega)).mono ?_; rintro e w2 ⟨rfl, S2, G2, H2, z2⟩))
  clear z1 S1 G1 H1
  go_wp2
  go_region_held3 (fun w' => w'.cell? ⟨P, 0, none⟩ = some (.int .u32 (st : Int))) (go_keep) ((go_at_call 42; refine (S2.drew.put ap (by omega) G2 H2.out (209 + st) (by omega) (by omega) 0 (by omega) (by omega)).mono ?_; rintro e w3 ⟨rfl, S3, G3, H3, z3⟩))
  clear z2 S2 G2 H2
  go_wp2
  go_region_held3 (fun w' => w'.cell? ⟨P, 0, none⟩ = some (.int .u32 (st : Int))) (go_keep) ((go_at_call 42; refine (S3.drew.put ap (by omega) G3 H3.out (245 + st * 16 + ps) (by omega) (by omega) 1 (by omega) (by omega)).mono ?_; rintro e w4 ⟨rfl, S4, G4, H4, z4⟩))
  clear z3 S3 G3 H3
  have G9 : LenOk (put (put (put (put g (5 + st * 16 + ps) 1) (197 + st) 1) (209 + st) 0) (245 + st * 16 + ps) 1) := fun j h1 h2 => G4 j (by omega) h2
  have K13626 : (put (put (put (put g (5 + st * 16 + ps) 1) (197 + st) 1) (209 + st) 0) (245 + st * 16 + ps) 1) 13626 = .int .u16 (prOf (g 13626)) := by
    rw [put_other (by omega)]; rw [put_other (by omega)]; rw [put_other (by omega)]; rw [put_other (by omega)]; exact L0.out.1
  have K13627 : (put (put (put (put g (5 + st * 16 + ps) 1) (197 + st) 1) (209 + st) 0) (245 + st * 16 + ps) 1) 13627 = .int .u16 (prOf (g 13627)) := by
    rw [put_other (by omega)]; rw [put_other (by omega)]; rw [put_other (by omega)]; rw [put_other (by omega)]; exact L0.out.2
  have KK : Hid ((put (put (put (put g (5 + st * 16 + ps) 1) (197 + st) 1) (209 + st) 0) (245 + st * 16 + ps) 1) 13626 = .int .u16 (prOf (g 13626)) ∧ (put (put (put (put g (5 + st * 16 + ps) 1) (197 + st) 1) (209 + st) 0) (245 + st * 16 + ps) 1) 13627 = .int .u16 (prOf (g 13627))) := ⟨K13626, K13627⟩
  clear K13626 K13627
  go_wp2_with fail
  refine (S4.encode ap (by omega) G9 (prOf (g 13626)) KK.out.1 (prOf (g 13627)) KK.out.2 length ps hps hlen0 hlen1).mono ?_
  rintro e w9 ⟨rfl, g', T1, T2, T3, T4, T5⟩
  have t0 : w9.cell? ⟨P, 0, none⟩ = some (.int .u32 (st : Int)) := by
    rw [T1.cod.cell 0 (by omega), T3 0 (by omega)]
    exact congrArg some H4.out
  have f0 := T1.cod.fr 0
  have T9 := T1.set ap 0 (by omega) (.int .u32 (nst (st : Int)))
  clear S4
  go_wp2_with (go_at_call 44; refine (map7_any _ _).mono ?_; rintro e w' ⟨rfl, rfl⟩)
  go_end0
  exact ⟨rfl, g', T9.mono (by omega), T2, T3, T4, T5⟩

end Go.Proofs.Qxb6605628aR.Lz
