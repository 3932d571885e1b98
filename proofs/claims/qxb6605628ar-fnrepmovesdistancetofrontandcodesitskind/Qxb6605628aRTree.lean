import Derived.Test.Qxb6605628aRBit2
import Derived.Laws.DeepBits32
namespace Go.Proofs.Qxb6605628aR.Lz
open Go.ChangeShapes Go.WideShapes Go.ChangeAt Go.RowKit
set_option linter.unusedVariables false

/-- The coder and the encoder in the world wr, on the way from w: the encoder is in order and has done to its stream what an encoder does, since it stood at (low, rng, cache, cs, out); the coder's cells are g; below block B nothing has turned. -/
def St (w wr : World) (q P B : Nat) (N low rng cache cs : Int) (out : List Int) (g : Nat → Value) : Prop :=
  ∃ low' rng' cache' cs' v' out', Ok N low' rng' cache' cs' out' ∧ Ext low rng cache cs out low' rng' cache' cs' out' ∧ Enc wr q B low' rng' cache' cs' v' out' ∧ Cod wr P g ∧ Frm q P B w wr

/-- The two blocks lie apart, from B on. -/
structure Apart (q P B : Nat) : Prop where
  ne : P ≠ q
  q : B ≤ q
  P : B ≤ P

section
variable {w wr : World} {q P B : Nat} {N low rng cache cs : Int} {out : List Int} {g : Nat → Value}

theorem St.cod (h : St w wr q P B N low rng cache cs out g) : Cod wr P g := by
  obtain ⟨_, _, _, _, _, _, _, _, _, h, _⟩ := h; exact h
theorem St.drew (h : St w wr q P B N low rng cache cs out g) : St w wr.drew q P B N low rng cache cs out g := by
  obtain ⟨a, b, c, d, e, f, h1, h2, h3, h4, h5⟩ := h; exact ⟨a, b, c, d, e, f, h1, h2, h3.drew, h4, h5.drew⟩
theorem St.drewN (h : St w wr q P B N low rng cache cs out g) (n : Nat) : St w (wr.drewN n) q P B N low rng cache cs out g := by
  obtain ⟨a, b, c, d, e, f, h1, h2, h3, h4, h5⟩ := h; exact ⟨a, b, c, d, e, f, h1, h2, h3.drewN n, h4, h5.trans (Frm.drewN' _ _ _ _ _)⟩
theorem St.set (h : St w wr q P B N low rng cache cs out g) (ap : Apart q P B) (o : Nat) (ho : o < 14140) (x : Value) : St w (wr.setCell ⟨P, o, none⟩ x) q P B N low rng cache cs out (upd g o x) := by
  obtain ⟨a, b, c, d, e, f, h1, h2, h3, h4, h5⟩ := h
  exact ⟨a, b, c, d, e, f, h1, h2, h3.away h4 ap.ne o x, h4.set o ho x, h5.setCell ap.P x⟩
theorem St.mono (h : St w wr q P B N low rng cache cs out g) {M : Int} (hM : N ≤ M) : St w wr q P B M low rng cache cs out g := by
  obtain ⟨a, b, c, d, e, f, h1, h2, h3, h4, h5⟩ := h
  exact ⟨a, b, c, d, e, f, ⟨h1.l0, h1.l1, h1.r0, h1.r1, h1.a0, h1.a1, h1.s0, by have := h1.s1; omega, by have := h1.s2; omega⟩, h2, h3, h4, h5⟩

/-- One bit. -/
theorem St.bit (h : St w wr q P B N low rng cache cs out g) (ap : Apart q P B) (hN : N ≤ 1099511627776) (o : Nat) (ho : o < 14140) {pr : Int} (hg : g o = .int .u16 pr) (hp : 31 ≤ pr ∧ pr ≤ 2017) (b : Int) (hb0 : 0 ≤ b) (hb1 : b < 4294967296) :
    Calls Try.prog 42 #[.pointer (some ⟨q, 0, none⟩), .pointer (some ⟨P, o, none⟩), .int .u32 b] wr fun e w' => e = .returned (.tuple #[]) ∧ St w w' q P B (N + 1) low rng cache cs out (upd g o (.int .u16 (updP pr b))) := by
  obtain ⟨l1, r1, c1, s1, v1, o1, h1, h2, h3, h4, h5⟩ := h
  have hl := h4.lt
  have hBP := ap.P
  refine (bit_any wr q P B o N l1 r1 c1 s1 v1 o1 g pr h3 h4 ap.ne ap.q ap.P (by omega) ho hg hp.1 hp.2 h1 hN b hb0 hb1).mono ?_
  rintro e w' ⟨rfl, a, b', c, d, e', f, k1, k2, k3, k4, k5⟩
  exact ⟨rfl, a, b', c, d, e', f, k1, h2.trans k2, k3, k4, h5.trans k5⟩
end

/-- A probability in order. -/
def PrOk (x : Value) : Prop := ∃ pr, x = .int .u16 pr ∧ 31 ≤ pr ∧ pr ≤ 2017
/-- g' is g but for the probabilities from lo on, 'len' of them, which are in order. -/
def Same (g g' : Nat → Value) (lo len : Nat) : Prop := (∀ i, i < lo ∨ lo + len ≤ i → g' i = g i) ∧ ∀ i, lo ≤ i → i < lo + len → PrOk (g' i)
theorem Same.step {g g' : Nat → Value} {lo len : Nat} (h : Same g g' lo len) {m : Nat} (hm : m < len) {pr b : Int} (hp : 31 ≤ pr ∧ pr ≤ 2017) : Same g (upd g' (lo + m) (.int .u16 (updP pr b))) lo len := by
  refine ⟨fun i hi => ?_, fun i h1 h2 => ?_⟩
  · rw [upd_other _ _ _ (by omega)]; exact h.1 i hi
  · by_cases e : i = lo + m
    · subst e; rw [upd_same]; exact ⟨_, rfl, updP_ok pr b hp⟩
    · rw [upd_other _ _ _ e]; exact h.2 i h1 h2

theorem bits_and_u32_nat' (a b : Nat) (ha : a < 4294967296) (hb : b < 4294967296) : bits .and .u32 (a : Int) (b : Int) = ((a &&& b : Nat) : Int) := by
  have hx : a &&& b < 2 ^ 32 := Nat.and_lt_two_pow _ (by omega)
  have h1 : (BitVec.ofInt 32 (a : Int)).toNat = a := by
    rw [BitVec.ofInt_natCast, BitVec.toNat_ofNat]; exact Nat.mod_eq_of_lt (by omega)
  have h2 : (BitVec.ofInt 32 (b : Int)).toNat = b := by
    rw [BitVec.ofInt_natCast, BitVec.toNat_ofNat]; exact Nat.mod_eq_of_lt (by omega)
  show IntKind.u32.wrap ((BitVec.ofInt 32 (a : Int) &&& BitVec.ofInt 32 (b : Int)).toNat : Int) = _
  rw [BitVec.toNat_and, h1, h2]
  show ((a &&& b : Nat) : Int) % 4294967296 = _
  omega
theorem bits_or_u32_nat' (a b : Nat) (ha : a < 4294967296) (hb : b < 4294967296) : bits .or .u32 (a : Int) (b : Int) = ((a ||| b : Nat) : Int) := by
  have hx : a ||| b < 2 ^ 32 := Nat.or_lt_two_pow (by omega) (by omega)
  have h1 : (BitVec.ofInt 32 (a : Int)).toNat = a := by
    rw [BitVec.ofInt_natCast, BitVec.toNat_ofNat]; exact Nat.mod_eq_of_lt (by omega)
  have h2 : (BitVec.ofInt 32 (b : Int)).toNat = b := by
    rw [BitVec.ofInt_natCast, BitVec.toNat_ofNat]; exact Nat.mod_eq_of_lt (by omega)
  show IntKind.u32.wrap ((BitVec.ofInt 32 (a : Int) ||| BitVec.ofInt 32 (b : Int)).toNat : Int) = _
  rw [BitVec.toNat_or, h1, h2]
  show ((a ||| b : Nat) : Int) % 4294967296 = _
  omega
theorem and_bit (x : Int) (h0 : 0 ≤ x) (h1 : x < 4294967296) : ∃ b : Nat, b ≤ 1 ∧ bits .and .u32 x 1 = (b : Int) := by
  obtain ⟨n, rfl⟩ := Int.eq_ofNat_of_zero_le h0
  refine ⟨n &&& 1, ?_, bits_and_u32_nat' n 1 (by omega) (by omega)⟩
  rw [Nat.and_one_is_mod]; omega
theorem or_two (m b : Nat) (hm : m < 1000) (hb : b ≤ 1) : bits .or .u32 ((m : Int) * 2) (b : Int) = (m : Int) * 2 + b := by
  have h := bits_or_u32_nat' (m * 2) b (by omega) (by omega)
  rw [or_bit (m * 2) b (by omega) hb] at h
  rw [show ((m * 2 : Nat) : Int) = (m : Int) * 2 from by omega] at h
  rw [h]; omega
theorem shr_ok (x : Int) (h0 : 0 ≤ x) (h1 : x < 4294967296) (k : Nat) : 0 ≤ x / 2 ^ k ∧ x / 2 ^ k < 4294967296 := by
  refine ⟨Int.ediv_nonneg h0 (Int.le_of_lt (Int.pow_pos (by decide))), ?_⟩
  have := Int.ediv_le_self (2 ^ k) h0
  omega
theorem pow_step (j n : Nat) (h : j < n) : 2 * 2 ^ j ≤ 2 ^ n := by
  have : 2 ^ (j + 1) ≤ 2 ^ n := Nat.pow_le_pow_right (by decide) h
  rw [Nat.pow_succ] at this
  omega

set_option maxHeartbeats 2000000 in
theorem St.tree {w wr0 : World} {q P B : Nat} {N low rng cache cs : Int} {out : List Int} {g : Nat → Value} (h : St w wr0 q P B N low rng cache cs out g) (ap : Apart q P B) (hN : N ≤ 549755813888) (o len n : Nat) (hn : n ≤ 8) (hn0 : 1 ≤ n) (hlen : len = 2 ^ n)
    (ho : o + len ≤ 14140) (hpr : ∀ i, o ≤ i → i < o + len → PrOk (g i)) (vv : Int) (hv0 : 0 ≤ vv) (hv1 : vv < 4294967296) :
    Calls Try.prog 46 #[.pointer (some ⟨q, 0, none⟩), .slice (some ⟨P, o, none⟩) len len, .int .u64 (n : Int), .int .u32 vv] wr0 fun e w' => e = .returned (.tuple #[]) ∧ ∃ g', St w w' q P B (N + n) low rng cache cs out g' ∧ Same g g' o len := by
  have hl9 : len ≤ 256 := by
    rw [hlen]
    have : 2 ^ n ≤ 2 ^ 8 := Nat.pow_le_pow_right (by decide) hn
    omega
  have HL : Hid (len = 2 ^ n) := hlen
  clear hlen
  go_enter Try.func46, Try.ntmps46
  go_wp2
  go_loopw [8, 9] (fun m i wr => ∃ (j mm : Nat) (g' : Nat → Value), j ≤ n ∧ m = .int .u32 mm ∧ i = .int .i64 ((n : Int) - 1 - j) ∧ mm < 2 * 2 ^ j ∧ St w wr q P B (N + j) low rng cache cs out g' ∧ Same g g' o len) (fun _ i _ => (intOf i + 1).toNat)
  case atStart => exact ⟨0, 1, g, by omega, rfl, by simp, by decide, by simpa using h, fun i _ => rfl, hpr⟩
  case round =>
    obtain ⟨j, mm, g', hj, rfl, rfl, hmm, hS, hG⟩ := hrel
    by_cases hlt : j < n
    · have hi0 : 0 ≤ (n : Int) - 1 - j := by omega
      have hml : mm < len := by
        rw [HL.out]
        exact Nat.lt_of_lt_of_le hmm (pow_step j n hlt)
      have hmi : (mm : Int) < len := by omega
      have hsh := shr_ok vv hv0 hv1 (n - 1 - j)
      obtain ⟨b, hb1, hb⟩ := and_bit (vv / 2 ^ (n - 1 - j)) hsh.1 hsh.2
      have hor := or_two mm b (by omega) hb1
      obtain ⟨pr, hpr', hp⟩ := hG.2 (o + mm) (by omega) (by omega)
      have HM : Hid (mm < 2 * 2 ^ j) := hmm
      clear hmm hsh
      have HP : Hid (g' (o + mm) = .int .u16 pr) := hpr'
      clear hpr'
      go_wp2_with fail
      refine (hS.bit ap (by omega) (o + mm) (by omega) HP.out hp (b : Int) (by omega) (by omega)).mono ?_
      rintro e w2 ⟨rfl, S2⟩
      have G2 := hG.step (b := (b : Int)) hml hp
      clear hS hG
      go_wp2
      go_roundw
      case rel => exact ⟨j + 1, mm * 2 + b, _, by omega, by go_num, by go_num, by have := HM.out; rw [Nat.pow_succ]; omega, by rw [show N + ((j + 1 : Nat) : Int) = N + j + 1 from by omega]; exact S2, G2⟩
      case measure => simp [intOf]; omega
    · obtain rfl : j = n := by omega
      go_wp2
      go_end0
      exact ⟨rfl, g', hS, hG⟩
end Go.Proofs.Qxb6605628aR.Lz
