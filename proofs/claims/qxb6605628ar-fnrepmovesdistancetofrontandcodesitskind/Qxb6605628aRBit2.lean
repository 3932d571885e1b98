import Derived.Test.Qxb6605628aRBit
namespace Go.Proofs.Qxb6605628aR.Lz
open Go.ChangeShapes Go.WideShapes Go.ChangeAt Go.RowKit
set_option linter.unusedVariables false

set_option maxHeartbeats 2000000 in
theorem bit_one (w : World) (q P B o : Nat) (N low rng cache cs : Int) (v : Value) (out : List Int) (g : Nat → Value) (pr : Int) (hE : Enc w q B low rng cache cs v out) (hC : Cod w P g) (hne : P ≠ q) (hB : B ≤ q) (hBP : B ≤ P) (hBw : B ≤ w.heap.size)
    (ho : o < 14140) (hg : g o = .int .u16 pr) (hp0 : 31 ≤ pr) (hp1 : pr ≤ 2017) (ok : Ok N low rng cache cs out) (hN : N ≤ 1099511627776) (b : Int) (hb : (b == 0) = false) (hb0 : 0 ≤ b) (hb1 : b < 4294967296) :
    Calls Try.prog 42 #[.pointer (some ⟨q, 0, none⟩), .pointer (some ⟨P, o, none⟩), .int .u32 b] w fun e w' => e = .returned (.tuple #[]) ∧ ∃ low' rng' cache' cs' v' out', Ok (N + 1) low' rng' cache' cs' out' ∧ Ext low rng cache cs out low' rng' cache' cs' out' ∧ Enc w' q B low' rng' cache' cs' v' out' ∧ Cod w' P (upd g o (.int .u16 (pr - pr / 32))) ∧ Frm q P B w w' := by
  have hbd := bound_ok rng pr ok.r0 ok.r1 hp0 hp1
  have hr0 := ok.r0
  have hr1 := ok.r1
  have hl0 := ok.l0
  have hl1 := ok.l1
  have c0 := hE.c0
  have c1 := hE.c1
  have f0 := hE.fr 0
  have f1 := hE.fr 1
  have cp := hC.cell o ho
  rw [hg] at cp
  have fp := hC.fr o
  have h65 : 65536 ≤ rng - rng / 2048 * pr := by omega
  have hlx0 : 0 ≤ (low + rng / 2048 * pr) % 18446744073709551616 := by omega
  have hlx1 : (low + rng / 2048 * pr) % 18446744073709551616 < 18446744073709551616 := by omega
  have hz : Zb low rng cache out → Zb ((low + rng / 2048 * pr) % 18446744073709551616) (rng - rng / 2048 * pr) cache out := by
    rintro (⟨h1, h2, h3⟩ | h)
    · exact .inl ⟨h1, h2, by omega⟩
    · exact .inr h
  go_enter Try.func42, Try.ntmps42
  go_wp2
  go_quiet (fail)
  go_wp2
  go_region
  go_wp2
  have E1 := (((((hE.drewN nq).set0 ((low + rng / 2048 * pr) % 18446744073709551616)).set1 (rng - rng / 2048 * pr)).away (((hC.drewN nq).away hne 0 (.int .u64 ((low + rng / 2048 * pr) % 18446744073709551616))).away hne 1 (.int .u32 (rng - rng / 2048 * pr))) hne o (.int .u16 (pr - pr / 32)))).drew
  have C1 := ((((hC.drewN nq).away hne 0 (.int .u64 ((low + rng / 2048 * pr) % 18446744073709551616))).away hne 1 (.int .u32 (rng - rng / 2048 * pr))).set o ho (.int .u16 (pr - pr / 32))).drew
  have BW1 := ((((Frm.drewN' w q P B nq).setCell hB (.int .u64 ((low + rng / 2048 * pr) % 18446744073709551616)) (p := ⟨q, 0, none⟩)).setCell hB (.int .u32 (rng - rng / 2048 * pr)) (p := ⟨q, 1, none⟩)).setCell hBP (.int .u16 (pr - pr / 32)) (p := ⟨P, o, none⟩)).drew
  clear c0 c1 f0 f1 cp fp
  go_loopw [59] (fun _ wr => ∃ low' rng' cache' cs' v' out', Norm ((low + rng / 2048 * pr) % 18446744073709551616) (rng - rng / 2048 * pr) cache cs out low' rng' cache' cs' out' ∧ Enc wr q B low' rng' cache' cs' v' out' ∧ Cod wr P (upd g o (.int .u16 (pr - pr / 32))) ∧ Frm q P B w wr) (fun _ wr => rngLeft wr q)
  case atStart => exact ⟨_, _, _, _, _, _, .inl ⟨rfl, rfl, rfl, rfl, rfl⟩, E1, C1, BW1⟩
  case round =>
    clear E1 C1 BW1
    obtain ⟨low', rng', cache', cs', v', out', hN, hE', hC', hBW⟩ := hrel
    have c1' := hE'.c1
    have f1' := hE'.fr 1
    by_cases hr : rng' < 16777216
    · obtain ⟨rfl, rfl, rfl, rfl, rfl⟩ := hN.low hr h65
      have E2 := hE'.set1 ((rng - rng / 2048 * pr) * 256)
      have hBr : B ≤ wr.heap.size := Nat.le_trans hBw hBW.below.size
      have hBs : B ≤ (wr.setCell ⟨q, 1, none⟩ (.int .u32 ((rng - rng / 2048 * pr) * 256))).heap.size := by simpa [World.setCell] using hBr
      go_wp2_with fail
      refine (shift_any _ q B _ _ _ _ _ _ E2 hB hBs hlx0 hlx1 ok.a0 ok.a1 (by have := ok.s1; omega) ok.s0 (by have := ok.s2; omega)).mono ?_
      rintro e w2 ⟨rfl, l2, a2, s2, v2, o2, S, E3, O3⟩
      have C3 := (hC'.away hne 1 (.int .u32 ((rng - rng / 2048 * pr) * 256))).oth O3 hne
      have B3 := (hBW.setCell hB (.int .u32 ((rng - rng / 2048 * pr) * 256)) (p := ⟨q, 1, none⟩)).trans (Frm.oth P O3)
      have M : rngLeft w2 q < rngLeft wr q := by rw [E3.rngLeft, hE'.rngLeft]; exact rngLeft_lt hr (by omega)
      clear E2 O3
      go_wp2
      go_roundw
      case rel => exact ⟨_, _, _, _, _, _, .inr ⟨hr, rfl, S⟩, E3, C3, B3⟩
      case measure => exact M
    · have D := hN.done (rng := rng) (low0 := low) (by omega) h65 (by omega) ok hlx0 hlx1 hz
      go_wp2
      go_end0
      exact ⟨rfl, low', rng', cache', cs', v', out', D.1, D.2, hE', hC', hBW⟩

theorem bit_any (w : World) (q P B o : Nat) (N low rng cache cs : Int) (v : Value) (out : List Int) (g : Nat → Value) (pr : Int) (hE : Enc w q B low rng cache cs v out) (hC : Cod w P g) (hne : P ≠ q) (hB : B ≤ q) (hBP : B ≤ P) (hBw : B ≤ w.heap.size)
    (ho : o < 14140) (hg : g o = .int .u16 pr) (hp0 : 31 ≤ pr) (hp1 : pr ≤ 2017) (ok : Ok N low rng cache cs out) (hN : N ≤ 1099511627776) (b : Int) (hb0 : 0 ≤ b) (hb1 : b < 4294967296) :
    Calls Try.prog 42 #[.pointer (some ⟨q, 0, none⟩), .pointer (some ⟨P, o, none⟩), .int .u32 b] w fun e w' => e = .returned (.tuple #[]) ∧ ∃ low' rng' cache' cs' v' out', Ok (N + 1) low' rng' cache' cs' out' ∧ Ext low rng cache cs out low' rng' cache' cs' out' ∧ Enc w' q B low' rng' cache' cs' v' out' ∧ Cod w' P (upd g o (.int .u16 (updP pr b))) ∧ Frm q P B w w' := by
  by_cases hb : b = 0
  · subst hb
    have e : updP pr 0 = pr + (2048 - pr) / 32 := by unfold updP; rw [if_pos rfl]
    rw [e]
    exact bit_zero w q P B o N low rng cache cs v out g pr hE hC hne hB hBP hBw ho hg hp0 hp1 ok hN
  · have e : updP pr b = pr - pr / 32 := by unfold updP; rw [if_neg hb]
    rw [e]
    exact bit_one w q P B o N low rng cache cs v out g pr hE hC hne hB hBP hBw ho hg hp0 hp1 ok hN b (by simpa using hb) hb0 hb1
end Go.Proofs.Qxb6605628aR.Lz
