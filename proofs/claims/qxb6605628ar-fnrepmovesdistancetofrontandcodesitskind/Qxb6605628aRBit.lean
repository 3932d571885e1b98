import Derived.Test.Qxb6605628aREnc
import Derived.Deep.QuietTactic
import Derived.BigQuiet
namespace Go.Proofs.Qxb6605628aR.Lz
open Go.ChangeShapes Go.WideShapes Go.ChangeAt Go.RowKit
set_option linter.unusedVariables false

/-- The coder in block P: its cells, one by one. -/
def Cod (w : World) (P : Nat) (g : Nat → Value) : Prop :=
  ∃ cur : Array Value, w.heap[P]? = some (.cells cur 73 (0, 0)) ∧ cur.size = 14140 ∧ ∀ j, j < 14140 → cur[j]? = some (g j)
def upd (g : Nat → Value) (o : Nat) (x : Value) : Nat → Value := fun j => if j = o then x else g j
theorem upd_same (g : Nat → Value) (o : Nat) (x : Value) : upd g o x o = x := by simp [upd]
theorem upd_other (g : Nat → Value) (o : Nat) (x : Value) {j : Nat} (h : j ≠ o) : upd g o x j = g j := by simp [upd, h]

theorem Cod.cell {w : World} {P : Nat} {g : Nat → Value} (h : Cod w P g) (j : Nat) (hj : j < 14140) : w.cell? ⟨P, j, none⟩ = some (g j) := by
  obtain ⟨cur, h1, _, h3⟩ := h
  rw [cell_of_row w P j cur 73 (0, 0) h1]; exact h3 j hj
theorem Cod.fr {w : World} {P : Nat} {g : Nat → Value} (h : Cod w P g) (j : Nat) : w.frozen? ⟨P, j, none⟩ = false := by
  obtain ⟨cur, h1, _⟩ := h
  exact frozen_of_row w P j cur 73 h1
theorem Cod.lt {w : World} {P : Nat} {g : Nat → Value} (h : Cod w P g) : P < w.heap.size := by
  obtain ⟨cur, h1, _⟩ := h
  exact (Array.getElem?_eq_some_iff.1 h1).1
theorem Cod.set {w : World} {P : Nat} {g : Nat → Value} (h : Cod w P g) (o : Nat) (ho : o < 14140) (x : Value) : Cod (w.setCell ⟨P, o, none⟩ x) P (upd g o x) := by
  obtain ⟨cur, h1, h2, h3⟩ := h
  refine ⟨cur.setIfInBounds o x, heap_setCell_same w P o cur 73 _ h1, by simpa using h2, fun j hj => ?_⟩
  rw [Array.getElem?_setIfInBounds]
  split
  · rename_i e; subst e; rw [if_pos (by omega), upd_same]
  · rename_i e; rw [upd_other g o x (fun e' => e e'.symm)]; exact h3 j hj
theorem Cod.away {w : World} {P i : Nat} {g : Nat → Value} (h : Cod w P g) (hi : P ≠ i) (o : Nat) (x : Value) : Cod (w.setCell ⟨i, o, none⟩ x) P g := by
  obtain ⟨cur, h1, r⟩ := h
  exact ⟨cur, (Below.heap_setCell w ⟨i, o, none⟩ x P hi).trans h1, r⟩
theorem Cod.oth {w w' : World} {P q B : Nat} {g : Nat → Value} (h : Cod w P g) (hO : Oth w w' q B) (hne : P ≠ q) : Cod w' P g := by
  obtain ⟨cur, h1, r⟩ := h
  exact ⟨cur, hO.block P cur 73 hne (by decide) h1, r⟩
theorem Cod.drew {w : World} {P : Nat} {g : Nat → Value} (h : Cod w P g) : Cod w.drew P g := h
theorem Enc.away {w : World} {q B : Nat} {low rng cache cs : Int} {v : Value} {out : List Int} {P : Nat} {g : Nat → Value} (h : Enc w q B low rng cache cs v out) (hC : Cod w P g) (hne : P ≠ q) (o : Nat) (x : Value) :
    Enc (w.setCell ⟨P, o, none⟩ x) q B low rng cache cs v out := by
  obtain ⟨cur, h1, _⟩ := hC
  exact ⟨(Below.heap_setCell w ⟨P, o, none⟩ x q (Ne.symm hne)).trans h.blk, ownsRow_setCell_other h.own (h.far h1 (by decide)) _⟩

/-- What a probability becomes. -/
def updP (pr b : Int) : Int := if b = 0 then pr + (2048 - pr) / 32 else pr - pr / 32
theorem updP_ok (pr b : Int) (h : 31 ≤ pr ∧ pr ≤ 2017) : 31 ≤ updP pr b ∧ updP pr b ≤ 2017 := by
  unfold updP
  split <;> omega

theorem bound_ok (rng pr : Int) (h0 : 16777216 ≤ rng) (h1 : rng < 4294967296) (hp0 : 31 ≤ pr) (hp1 : pr ≤ 2017) :
    253952 ≤ rng / 2048 * pr ∧ rng / 2048 * pr + 253952 ≤ rng := by
  have hk : 8192 ≤ rng / 2048 := by omega
  have a : rng / 2048 * 31 ≤ rng / 2048 * pr := Int.mul_le_mul_of_nonneg_left hp0 (by omega)
  have b : rng / 2048 * pr ≤ rng / 2048 * 2017 := Int.mul_le_mul_of_nonneg_left hp1 (by omega)
  omega

/-- The encoder's numbers are in order; 'N' bounds what it has written and holds back. -/
structure Ok (N low rng cache cs : Int) (out : List Int) : Prop where
  l0 : 0 ≤ low
  l1 : low < 18446744073709551616
  r0 : 16777216 ≤ rng
  r1 : rng < 4294967296
  a0 : 0 ≤ cache
  a1 : cache ≤ 255
  s0 : -9223372036854775808 ≤ cs
  s1 : (out.length : Int) + cs ≤ N
  s2 : cs ≤ N
/-- What the encoder does to what it has written. -/
structure Ext (low rng cache cs : Int) (out : List Int) (low' rng' cache' cs' : Int) (out' : List Int) : Prop where
  pre : ∃ t, out' = out ++ t
  one : 1 ≤ cs → 1 ≤ cs'
  zero : 1 ≤ cs → Zb low rng cache out → Zb low' rng' cache' out'
theorem Ext.refl (low rng cache cs : Int) (out : List Int) : Ext low rng cache cs out low rng cache cs out := ⟨⟨[], by simp⟩, fun h => h, fun _ h => h⟩
theorem Ext.trans {l r c s : Int} {o : List Int} {l1 r1 c1 s1 : Int} {o1 : List Int} {l2 r2 c2 s2 : Int} {o2 : List Int} (h : Ext l r c s o l1 r1 c1 s1 o1) (k : Ext l1 r1 c1 s1 o1 l2 r2 c2 s2 o2) : Ext l r c s o l2 r2 c2 s2 o2 := by
  obtain ⟨t, ht⟩ := h.pre
  obtain ⟨u, hu⟩ := k.pre
  exact ⟨⟨t ++ u, by rw [hu, ht, List.append_assoc]⟩, fun x => k.one (h.one x), fun x z => k.zero (h.one x) (h.zero x z)⟩

/-- Is there a shift to make? A loop's measure. -/
def rngLeft (w : World) (q : Nat) : Nat := match w.cell? ⟨q, 1, none⟩ with | some (.int _ n) => if n < 16777216 then 1 else 0 | _ => 0
theorem Enc.rngLeft {w : World} {q B : Nat} {low rng cache cs : Int} {v : Value} {out : List Int} (h : Enc w q B low rng cache cs v out) : rngLeft w q = if rng < 16777216 then 1 else 0 := by
  unfold Lz.rngLeft
  rw [h.c1]
theorem rngLeft_lt {a b : Int} (h0 : a < 16777216) (h1 : ¬ b < 16777216) : (if b < 16777216 then 1 else 0 : Nat) < if a < 16777216 then 1 else 0 := by
  rw [if_pos h0, if_neg h1]; decide

/-- Where the normalisation stands: nothing done yet, or one shift made. -/
def Norm (low r1 cache cs : Int) (out : List Int) (low' rng' cache' cs' : Int) (out' : List Int) : Prop :=
  (low' = low ∧ rng' = r1 ∧ cache' = cache ∧ cs' = cs ∧ out' = out) ∨ (r1 < 16777216 ∧ rng' = r1 * 256 ∧ Shifted low cache cs out low' cache' cs' out')
theorem Norm.low {low r1 cache cs : Int} {out : List Int} {low' rng' cache' cs' : Int} {out' : List Int} (h : Norm low r1 cache cs out low' rng' cache' cs' out') (hr : rng' < 16777216) (h65 : 65536 ≤ r1) : low' = low ∧ rng' = r1 ∧ cache' = cache ∧ cs' = cs ∧ out' = out := by
  rcases h with h | ⟨h1, h2, _⟩
  · exact h
  · omega
theorem Norm.done {N low rng r1 cache cs : Int} {out : List Int} {low0 low' rng' cache' cs' : Int} {out' : List Int} (h : Norm low r1 cache cs out low' rng' cache' cs' out') (hr : 16777216 ≤ rng') (h65 : 65536 ≤ r1) (hrr : r1 ≤ rng)
    (ok : Ok N low0 rng cache cs out) (l0 : 0 ≤ low) (l1 : low < 18446744073709551616) (hz : Zb low0 rng cache out → Zb low r1 cache out) : Ok (N + 1) low' rng' cache' cs' out' ∧ Ext low0 rng cache cs out low' rng' cache' cs' out' := by
  rcases h with ⟨rfl, rfl, rfl, rfl, rfl⟩ | ⟨h1, rfl, S⟩
  · exact ⟨⟨l0, l1, hr, by have := ok.r1; omega, ok.a0, ok.a1, ok.s0, by have := ok.s1; omega, by have := ok.s2; omega⟩, ⟨[], by simp⟩, fun h => h, fun _ z => hz z⟩
  · refine ⟨⟨by rw [S.eq]; omega, by rw [S.eq]; omega, hr, by omega, S.byte.1, S.byte.2, ?_, ?_, ?_⟩, S.pre, S.one, fun h z => S.zero r1 (by omega) h1 h l0 (hz z)⟩
    · have := ok.s0
      rcases S.lo with h | h <;> omega
    · have := ok.s1; have := S.sum; omega
    · have := ok.s2
      have := ok.s1
      have := S.sum
      rcases S.hi with h | h <;> omega

theorem Enc.drewN {w : World} {q B : Nat} {low rng cache cs : Int} {v : Value} {out : List Int} (h : Enc w q B low rng cache cs v out) (n : Nat) : Enc (w.drewN n) q B low rng cache cs v out := ⟨h.blk, h.own⟩
theorem Cod.drewN {w : World} {P : Nat} {g : Nat → Value} (h : Cod w P g) (n : Nat) : Cod (w.drewN n) P g := h
theorem Below.drewN' (w : World) (B n : Nat) : Below B w (w.drewN n) := ⟨rfl, rfl, rfl, Nat.le_refl _, fun _ _ => rfl⟩

/-- w' is w but for blocks q and P, rows of bytes, and new blocks; below block B nothing has turned. -/
structure Frm (q P B : Nat) (w w' : World) : Prop where
  below : Below B w w'
  block : ∀ i c e, i ≠ q → i ≠ P → e ≠ 5 → w.heap[i]? = some (.cells c e (0, 0)) → w'.heap[i]? = some (.cells c e (0, 0))
theorem Frm.refl (w : World) (q P B : Nat) : Frm q P B w w := ⟨Below.refl _ _, fun _ _ _ _ _ _ h => h⟩
theorem Frm.trans {a b c : World} {q P B : Nat} (h : Frm q P B a b) (k : Frm q P B b c) : Frm q P B a c := ⟨h.below.trans k.below, fun i x e h0 h1 h2 h3 => k.block i x e h0 h1 h2 (h.block i x e h0 h1 h2 h3)⟩
theorem Frm.drew {a b : World} {q P B : Nat} (h : Frm q P B a b) : Frm q P B a b.drew := ⟨h.below.drew, h.block⟩
theorem Frm.drewN' (w : World) (q P B n : Nat) : Frm q P B w (w.drewN n) := ⟨Below.drewN' _ _ _, fun _ _ _ _ _ _ h => h⟩
theorem Frm.setCell {a b : World} {q P B : Nat} (h : Frm q P B a b) {p : Addr} (hp : B ≤ p.block) (x : Value) (hpq : p.block = q ∨ p.block = P := by simp) : Frm q P B a (b.setCell p x) :=
  ⟨h.below.setCell hp x, fun i c e h0 h1 h2 h3 => (Below.heap_setCell b p x i (by rcases hpq with e | e <;> rw [e] <;> assumption)).trans (h.block i c e h0 h1 h2 h3)⟩
theorem Frm.oth {a b : World} {q B : Nat} (P : Nat) (h : Oth a b q B) : Frm q P B a b := ⟨h.below, fun i c e h0 _ h2 h3 => h.block i c e h0 h2 h3⟩

set_option maxHeartbeats 2000000 in
theorem bit_zero (w : World) (q P B o : Nat) (N low rng cache cs : Int) (v : Value) (out : List Int) (g : Nat → Value) (pr : Int) (hE : Enc w q B low rng cache cs v out) (hC : Cod w P g) (hne : P ≠ q) (hB : B ≤ q) (hBP : B ≤ P) (hBw : B ≤ w.heap.size)
    (ho : o < 14140) (hg : g o = .int .u16 pr) (hp0 : 31 ≤ pr) (hp1 : pr ≤ 2017) (ok : Ok N low rng cache cs out) (hN : N ≤ 1099511627776) :
    Calls Try.prog 42 #[.pointer (some ⟨q, 0, none⟩), .pointer (some ⟨P, o, none⟩), .int .u32 0] w fun e w' => e = .returned (.tuple #[]) ∧ ∃ low' rng' cache' cs' v' out', Ok (N + 1) low' rng' cache' cs' out' ∧ Ext low rng cache cs out low' rng' cache' cs' out' ∧ Enc w' q B low' rng' cache' cs' v' out' ∧ Cod w' P (upd g o (.int .u16 (pr + (2048 - pr) / 32))) ∧ Frm q P B w w' := by
  have hbd := bound_ok rng pr ok.r0 ok.r1 hp0 hp1
  have hr0 := ok.r0
  have hr1 := ok.r1
  have hl0 := ok.l0
  have hl1 := ok.l1
  have c0 := hE.c0
  have c1 := hE.c1
  have f0 := hE.fr 0
  have f1 := hE.fr 1
  have cp := hC.cell o ho
  rw [hg] at cp
  have fp := hC.fr o
  have h65 : 65536 ≤ rng / 2048 * pr := by omega
  have hz : Zb low rng cache out → Zb low (rng / 2048 * pr) cache out := by
    rintro (⟨h1, h2, h3⟩ | h)
    · exact .inl ⟨h1, h2, by omega⟩
    · exact .inr h
  have hlx0 : 0 ≤ low := hl0
  have hlx1 : low < 18446744073709551616 := hl1
  go_enter Try.func42, Try.ntmps42
  go_wp2
  go_quiet (fail)
  go_wp2
  go_region
  go_wp2
  have E1 := (((hE.drewN nq).set1 (rng / 2048 * pr)).away ((hC.drewN nq).away hne 1 (.int .u32 (rng / 2048 * pr))) hne o (.int .u16 (pr + (2048 - pr) / 32))).drew
  have C1 := (((hC.drewN nq).away hne 1 (.int .u32 (rng / 2048 * pr))).set o ho (.int .u16 (pr + (2048 - pr) / 32))).drew
  have BW1 := (((Frm.drewN' w q P B nq).setCell hB (.int .u32 (rng / 2048 * pr)) (p := ⟨q, 1, none⟩)).setCell hBP (.int .u16 (pr + (2048 - pr) / 32)) (p := ⟨P, o, none⟩)).drew
  clear c0 c1 f0 f1 cp fp
  go_loopw [59] (fun _ wr => ∃ low' rng' cache' cs' v' out', Norm (low) (rng / 2048 * pr) cache cs out low' rng' cache' cs' out' ∧ Enc wr q B low' rng' cache' cs' v' out' ∧ Cod wr P (upd g o (.int .u16 (pr + (2048 - pr) / 32))) ∧ Frm q P B w wr) (fun _ wr => rngLeft wr q)
  case atStart => exact ⟨_, _, _, _, _, _, .inl ⟨rfl, rfl, rfl, rfl, rfl⟩, E1, C1, BW1⟩
  case round =>
    clear E1 C1 BW1
    obtain ⟨low', rng', cache', cs', v', out', hN, hE', hC', hBW⟩ := hrel
    have c1' := hE'.c1
    have f1' := hE'.fr 1
    by_cases hr : rng' < 16777216
    · obtain ⟨rfl, rfl, rfl, rfl, rfl⟩ := hN.low hr h65
      have E2 := hE'.set1 ((rng / 2048 * pr) * 256)
      have hBr : B ≤ wr.heap.size := Nat.le_trans hBw hBW.below.size
      have hBs : B ≤ (wr.setCell ⟨q, 1, none⟩ (.int .u32 ((rng / 2048 * pr) * 256))).heap.size := by simpa [World.setCell] using hBr
      go_wp2_with fail
      refine (shift_any _ q B _ _ _ _ _ _ E2 hB hBs hlx0 hlx1 ok.a0 ok.a1 (by have := ok.s1; omega) ok.s0 (by have := ok.s2; omega)).mono ?_
      rintro e w2 ⟨rfl, l2, a2, s2, v2, o2, S, E3, O3⟩
      have C3 := (hC'.away hne 1 (.int .u32 ((rng / 2048 * pr) * 256))).oth O3 hne
      have B3 := (hBW.setCell hB (.int .u32 ((rng / 2048 * pr) * 256)) (p := ⟨q, 1, none⟩)).trans (Frm.oth P O3)
      have M : rngLeft w2 q < rngLeft wr q := by rw [E3.rngLeft, hE'.rngLeft]; exact rngLeft_lt hr (by omega)
      clear E2 O3
      go_wp2
      go_roundw
      case rel => exact ⟨_, _, _, _, _, _, .inr ⟨hr, rfl, S⟩, E3, C3, B3⟩
      case measure => exact M
    · have D := hN.done (rng := rng) (low0 := low) (by omega) h65 (by omega) ok hlx0 hlx1 hz
      go_wp2
      go_end0
      exact ⟨rfl, low', rng', cache', cs', v', out', D.1, D.2, hE', hC', hBW⟩
end Go.Proofs.Qxb6605628aR.Lz
