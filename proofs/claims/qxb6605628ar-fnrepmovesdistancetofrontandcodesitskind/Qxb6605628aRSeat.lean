import Derived.Test.Qxb6605628aRArr
import Derived.ChangeKeysEq
namespace Go.Proofs.Qxb6605628aR.Lz
open Go.ChangeShapes Go.WideShapes Go.ChangeAt Go.RowKit
set_option linter.unusedVariables false

theorem St.reseat {w wr : World} {q P B : Nat} {N low rng cache cs : Int} {out : List Int} {g : Nat → Value} (h : St w wr q P B N low rng cache cs out g) :
    ∃ low' rng' cache' cs' v' out', Ok N low' rng' cache' cs' out' ∧ Ext low rng cache cs out low' rng' cache' cs' out' ∧ Enc wr q B low' rng' cache' cs' v' out' ∧ St w wr q P B N low' rng' cache' cs' out' g := by
  obtain ⟨a1, a2, a3, a4, a5, a6, h1, h2, h3, h4, h5⟩ := h
  exact ⟨a1, a2, a3, a4, a5, a6, h1, h2, h3, ⟨a1, a2, a3, a4, a5, a6, h1, Ext.refl _ _ _ _ _, h3, h4, h5⟩⟩
theorem Enc.shape {w : World} {q B : Nat} {low rng cache cs : Int} {v : Value} {out : List Int} (h : Enc w q B low rng cache cs v out) :
    ∃ p cap b, v = .slice p out.length cap ∧ (out.length = 0 ∨ p = some ⟨b, 0, none⟩) ∧ out.length ≤ cap ∧ cap ≤ maxLen ∧ ∀ k, k < out.length → w.cell? ⟨b, k, none⟩ = some (.int .u8 (out.getD k 0)) := by
  obtain ⟨h1, h2 | ⟨b, cap, cur, hv, hB, hb, hc, hm, hs, ht⟩⟩ := h.own
  · obtain ⟨rfl, h3⟩ := h2
    exact ⟨none, 0, 0, by rw [h3], .inl h3, by omega, by decide, fun k hk => by omega⟩
  · refine ⟨_, cap, b, hv, .inr rfl, hc, hm, fun k hk => ?_⟩
    rw [cell_of_row w b k cur 5 (0, 0) hb]
    have hh : (cur.toList.take (out.length * 1))[k]? = (out.map (Value.int .u8))[k]? := by rw [ht]
    rw [List.getElem?_take_of_lt (by omega)] at hh
    simp [hk] at hh
    simp [hh, hk]

theorem reps12x (w : World) (P : Nat) (g : Nat → Value) (hC : Cod w P g) (x0 x1 x2 x3 : Int) (h0 : g 1 = .int .u32 x0) (h1 : g 2 = .int .u32 x1) (h2 : g 3 = .int .u32 x2) (h3 : g 4 = .int .u32 x3) (M : Nat) (v0 v1 v2 v3 : Value)
    (m0 : w.cell? ⟨M, 0, none⟩ = some v0) (m1 : w.cell? ⟨M, 1, none⟩ = some v1) (m2 : w.cell? ⟨M, 2, none⟩ = some v2) (m3 : w.cell? ⟨M, 3, none⟩ = some v3) :
    Calls Try.prog 12 #[.pointer (some ⟨P, 0, none⟩)] w fun e w' => e = .returned (.agg #[.int .u32 x0, .int .u32 x1, .int .u32 x2, .int .u32 x3]) ∧ w'.cell? ⟨M, 0, none⟩ = some v0 ∧ w'.cell? ⟨M, 1, none⟩ = some v1 ∧ w'.cell? ⟨M, 2, none⟩ = some v2 ∧ w'.cell? ⟨M, 3, none⟩ = some v3 ∧ Below w.heap.size w w' := by
  have hl := hC.lt
  have c1 := hC.cell 1 (by omega)
  have c2 := hC.cell 2 (by omega)
  have c3 := hC.cell 3 (by omega)
  have c4 := hC.cell 4 (by omega)
  rw [h0] at c1; rw [h1] at c2; rw [h2] at c3; rw [h3] at c4
  go_enter Try.func12, Try.ntmps12
  go_wp2
  have hM := cell_lt m0
  have b : Below w.heap.size w (w.alloc (.cells #[.int .u32 x0, .int .u32 x1, .int .u32 x2, .int .u32 x3] 23)) := (Below.refl _ _).alloc (Nat.le_refl _) _
  exact bodyPost_ret (v := .agg #[.int .u32 x0, .int .u32 x1, .int .u32 x2, .int .u32 x3]) (by simp [results, Try.results12, go_sem]) rfl ⟨rfl, (b.cell hM).trans m0, (b.cell hM).trans m1, (b.cell hM).trans m2, (b.cell hM).trans m3, b⟩

theorem cells22 : Try.prog.cellsOf 22 = 1 := by kernel_rfl
theorem eq23 (w : World) (x0 x1 x2 x3 : Int) : (Op.equalIn 10000 23 (.agg #[.int .u32 x0, .int .u32 x1, .int .u32 x2, .int .u32 x3]) (.agg #[.int .u32 x0, .int .u32 x1, .int .u32 x2, .int .u32 x3])).run Try.prog w = .ok true w := by
  obtain ⟨inf, hi, hs⟩ := Option.map_eq_some_iff.1 size22
  rw [run_equalIn_array w 9999 _ _ Try.underlying23 hi, cells22]
  have r4 : List.range 4 = [0, 1, 2, 3] := rfl
  have e : ∀ n, (Op.equalIn 9999 22 (.int .u32 n) (.int .u32 n)).run Try.prog w = .ok true w := fun n => by rw [run_equalIn_int w 9998 22 .u32 .u32 n n Try.underlying22]; simp
  have p : Try.prog.plainKey 22 = true := by kernel_rfl
  have p0 := run_part_plain w p (xs := #[.int .u32 x0, .int .u32 x1, .int .u32 x2, .int .u32 x3]) (off := 0) (v := .int .u32 x0) rfl
  have p1 := run_part_plain w p (xs := #[.int .u32 x0, .int .u32 x1, .int .u32 x2, .int .u32 x3]) (off := 1) (v := .int .u32 x1) rfl
  have p2 := run_part_plain w p (xs := #[.int .u32 x0, .int .u32 x1, .int .u32 x2, .int .u32 x3]) (off := 2) (v := .int .u32 x2) rfl
  have p3 := run_part_plain w p (xs := #[.int .u32 x0, .int .u32 x1, .int .u32 x2, .int .u32 x3]) (off := 3) (v := .int .u32 x3) rfl
  simp [r4, Op.eqItems, p0, p1, p2, p3, e, Sem.run_bind]

/-- The state behind k calls. -/
def stAt (st : Nat) (k : Nat) : Nat := if k = 0 then st else if k = 1 ∧ st < 7 then 8 else 11
theorem stAt_lt {st : Nat} (h : st < 12) (k : Nat) : stAt st k < 12 := by unfold stAt; split <;> (try split) <;> omega
theorem stAt_next (st k : Nat) : nst (stAt st k : Int) = (stAt st (k + 1) : Int) := by
  unfold nst stAt
  by_cases h : k = 0
  · subst h
    by_cases h7 : st < 7
    · rw [if_pos (by simp; omega)]; simp [h7]
    · rw [if_neg (by simp; omega)]; simp [h7]
  · rw [if_neg h, if_neg (by split <;> omega), if_neg (by omega), if_neg (by omega)]; rfl
theorem stAt_first {st k : Nat} (h : k = 0 ∧ st < 7) : stAt st (k + 1) = 8 := by unfold stAt; rw [if_neg (by omega), if_pos (by omega)]
theorem stAt_later {st k : Nat} (h : ¬ (k = 0 ∧ st < 7)) : stAt st (k + 1) = 11 := by unfold stAt; rw [if_neg (by omega), if_neg (by omega)]

/-- A new list stored into the variable M. -/
theorem stored {w w6 : World} {q P B M : Nat} {N low rng cache cs : Int} {out : List Int} {g : Nat → Value} {a : Nat → Int} (hS : St w w6 q P B N low rng cache cs out g) (hA : Arr w6 M a) (ap : Apart q P B) (hq : M ≠ q) (hP : M ≠ P) (hB : B ≤ M) (hw : w.heap.size ≤ M) (o : Obj) (x : Nat → Int) :
    St w (((((w6.alloc o).setCell ⟨M, 0, none⟩ (.int .u32 (x 0))).setCell ⟨M, 1, none⟩ (.int .u32 (x 1))).setCell ⟨M, 2, none⟩ (.int .u32 (x 2))).setCell ⟨M, 3, none⟩ (.int .u32 (x 3))) q P B N low rng cache cs out g ∧
    Arr (((((w6.alloc o).setCell ⟨M, 0, none⟩ (.int .u32 (x 0))).setCell ⟨M, 1, none⟩ (.int .u32 (x 1))).setCell ⟨M, 2, none⟩ (.int .u32 (x 2))).setCell ⟨M, 3, none⟩ (.int .u32 (x 3))) M x := by
  have b : Below w6.heap.size w6 (w6.alloc o) := (Below.refl _ _).alloc (Nat.le_refl _) _
  have S1 := hS.older ap b
  have A1 := (hA.older b).blk
  have S2 := S1.box A1 (by decide) hq hP hB hw 0 (.int .u32 (x 0))
  have A2 := heap_setCell_same _ M 0 _ 23 (.int .u32 (x 0)) A1
  have S3 := S2.box A2 (by decide) hq hP hB hw 1 (.int .u32 (x 1))
  have A3 := heap_setCell_same _ M 1 _ 23 (.int .u32 (x 1)) A2
  have S4 := S3.box A3 (by decide) hq hP hB hw 2 (.int .u32 (x 2))
  have A4 := heap_setCell_same _ M 2 _ 23 (.int .u32 (x 2)) A3
  have S5 := S4.box A4 (by decide) hq hP hB hw 3 (.int .u32 (x 3))
  have A5 := heap_setCell_same _ M 3 _ 23 (.int .u32 (x 3)) A4
  exact ⟨S5, ⟨A5⟩⟩

/-- Behind k calls of the script. -/
def Scr (w wr : World) (q P B M : Nat) (st k : Nat) (pl : Int) : Prop :=
  ∃ low rng cache cs out g a, St w wr q P B (1 + 20 * k) low rng cache cs out g ∧ 1 ≤ cs ∧ Zb low rng cache out ∧ pl ≤ out.length ∧ Cd g (stAt st k : Int) a ∧ Arr wr M a
end Go.Proofs.Qxb6605628aR.Lz
