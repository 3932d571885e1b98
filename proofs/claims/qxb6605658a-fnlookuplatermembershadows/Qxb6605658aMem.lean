import Derived.Test.Qxb6605658aLook
namespace Go.Proofs.Qxb6605658a
open Go.ChangeShapes Go.WideShapes Go.ChangeAt Go.RowKit

theorem zzLookup_any (a : Option Addr) (c : Nat) (ss vs : List ByteArray) (name : ByteArray) (w : World) (v : MView w a ss vs) (h0 : ss.length ≤ maxLen) :
    Calls Try.prog 14 #[.slice a ss.length c, .string name] w fun e w' => e = .returned (.tuple #[.string (fwd ss vs name ss.length).1, .bool (fwd ss vs name ss.length).2]) ∧ w = w' := by
  go_enter Try.func14, Try.ntmps14
  go_wp2_with (go_at_call 25; refine (lookup_any _ _ _ _ _ _ v h0).mono ?_; rintro e w' ⟨rfl, rfl⟩)
  go_ret2
  exact ⟨rfl, rfl⟩

theorem info45 : (Try.prog.info? 45).map (fun i => (i.zero, i.size, i.bytes)) = some (some (.agg #[.string ⟨#[]⟩, .string ⟨#[]⟩]), 2, 32) := by kernel_rfl
theorem info9 : (Try.prog.info? 9).map (fun i => (i.zero, i.size, i.bytes)) = some (some (.string ⟨#[]⟩), 1, 16) := by kernel_rfl

/-- A row of members as 'make' lays it. -/
def mrow (n : Nat) : Array Value := madeCells #[.string ⟨#[]⟩, .string ⟨#[]⟩] (n * 2)
def srow (n : Nat) : Array Value := madeCells #[.string ⟨#[]⟩] n

theorem make_mem (n : Nat) (hn : n ≤ 1048576) (w : World) : (Instr.makeSlice 29 (.int .i64 (n : Int)) (.int .i64 (n : Int))).run Try.prog w = .ok (.slice (some ⟨w.heap.size, 0, none⟩) n n) (w.alloc (.cells (mrow n) 45)) := by
  obtain ⟨i, hi, hz0, hz1, hz2⟩ := info_parts info45
  have h := run_make (P := Try.prog) w 29 45 i _ Try.underlying29 hi hz0 .i64 .i64 (n : Int) (n : Int) (by omega) (by omega) (by rw [hz2]; omega) (by omega)
  rw [h, hz1]
  simp only [Int.toNat_natCast]
  rfl
theorem make_str (n : Nat) (hn : n ≤ 1048576) (w : World) : (Instr.makeSlice 24 (.int .i64 (n : Int)) (.int .i64 (n : Int))).run Try.prog w = .ok (.slice (some ⟨w.heap.size, 0, none⟩) n n) (w.alloc (.cells (srow n) 9)) := by
  obtain ⟨i, hi, hz0, hz1, hz2⟩ := info_parts info9
  have h := run_make (P := Try.prog) w 24 9 i _ Try.underlying24 hi hz0 .i64 .i64 (n : Int) (n : Int) (by omega) (by omega) (by rw [hz2]; omega) (by omega)
  rw [h, hz1]
  simp only [Int.toNat_natCast, Nat.mul_one]
  rfl
theorem size_mrow (n : Nat) : (mrow n).size = n * 2 := size_madeCells _ _
theorem size_srow (n : Nat) : (srow n).size = n := size_madeCells _ _

/-- wr is W but for the cells of block b. -/
structure But (W wr : World) (b : Nat) : Prop where
  os : wr.os = W.os
  tape : wr.tape = W.tape
  output : wr.output = W.output
  size : wr.heap.size = W.heap.size
  block : ∀ i, i ≠ b → wr.heap[i]? = W.heap[i]?

theorem But.refl (W : World) (b : Nat) : But W W b := ⟨rfl, rfl, rfl, rfl, fun _ _ => rfl⟩
theorem But.drew {W wr : World} {b : Nat} (h : But W wr b) : But W wr.drew b := ⟨h.os, h.tape, h.output, h.size, h.block⟩
theorem But.setCell {W wr : World} {b : Nat} (h : But W wr b) (o : Nat) (u : Value) : But W (wr.setCell ⟨b, o, none⟩ u) b :=
  ⟨h.os, h.tape, h.output, by rw [← h.size]; simp [World.setCell], fun i hi => (Below.heap_setCell _ _ _ _ hi).trans (h.block i hi)⟩
theorem But.below {W wr : World} {b B : Nat} (h : But W wr b) (hb : B ≤ b) : Below B W wr :=
  ⟨h.os, h.tape, h.output, by rw [h.size]; exact Nat.le_refl _, fun i hi => h.block i (by omega)⟩
theorem But.cell {W wr : World} {b : Nat} (h : But W wr b) (i o : Nat) (hi : i ≠ b) : wr.cell? ⟨i, o, none⟩ = W.cell? ⟨i, o, none⟩ := World.cell?_of_block (w := W) (h.block i hi)

/-- A row of n cells of element type e in block b, its first k cells f 0, f 1, .. -/
def Row (w : World) (e b n k : Nat) (f : Nat → Value) : Prop :=
  ∃ cur : Array Value, w.heap[b]? = some (.cells cur e (0, 0)) ∧ cur.size = n ∧ ∀ j, j < k → cur[j]? = some (f j)

theorem Row.start {w : World} {e b n : Nat} {cur : Array Value} (h : w.heap[b]? = some (.cells cur e (0, 0))) (hn : cur.size = n) (f : Nat → Value) : Row w e b n 0 f :=
  ⟨cur, h, hn, fun j hj => absurd hj (Nat.not_lt_zero j)⟩
theorem Row.ex {w : World} {e b n k : Nat} {f : Nat → Value} (t : Row w e b n k f) (j : Nat) (hj : j < n) : ∃ u, w.cell? ⟨b, j, none⟩ = some u := by
  obtain ⟨cur, h1, h2, _⟩ := t
  have : j < cur.size := by omega
  exact ⟨cur[j], by rw [cell_of_row w b j cur e (0, 0) h1]; simp [this]⟩
theorem Row.val {w : World} {e b n k : Nat} {f : Nat → Value} (t : Row w e b n k f) (j : Nat) (hj : j < k) : w.cell? ⟨b, j, none⟩ = some (f j) := by
  obtain ⟨cur, h1, _, h3⟩ := t
  rw [cell_of_row w b j cur e (0, 0) h1]; exact h3 j hj
theorem Row.frozen {w : World} {e b n k : Nat} {f : Nat → Value} (t : Row w e b n k f) (j : Nat) : w.frozen? ⟨b, j, none⟩ = false := by
  obtain ⟨cur, h1, _⟩ := t
  exact frozen_of_row w b j cur e h1
theorem Row.drew {w : World} {e b n k : Nat} {f : Nat → Value} (t : Row w e b n k f) : Row w.drew e b n k f := t
theorem Row.step {w : World} {e b n k : Nat} {f : Nat → Value} (t : Row w e b n k f) (hk : k < n) : Row (w.setCell ⟨b, k, none⟩ (f k)) e b n (k + 1) f := by
  obtain ⟨cur, h1, h2, h4⟩ := t
  refine ⟨cur.setIfInBounds k (f k), heap_setCell_same w b k cur e _ h1, by simpa using h2, fun j hj => ?_⟩
  rw [Array.getElem?_setIfInBounds]
  split
  · rename_i h; subst h; rw [if_pos (by omega)]
  · exact h4 j (by omega)

/-- The cells of the members. -/
def mcell (ss vs : List ByteArray) (j : Nat) : Value := if j % 2 = 0 then .string (sat ss (j / 2)) else .string (sat vs (j / 2))

theorem mcell_even (ss vs : List ByteArray) (k : Nat) : mcell ss vs (k * 2) = .string (sat ss k) := by
  unfold mcell
  rw [if_pos (by omega), show k * 2 / 2 = k from by omega]
theorem mcell_odd (ss vs : List ByteArray) (k : Nat) : mcell ss vs (k * 2 + 1) = .string (sat vs k) := by
  unfold mcell
  rw [if_neg (by omega), show (k * 2 + 1) / 2 = k from by omega]
theorem cell_lt {w : World} {b o : Nat} {v : Value} (h : w.cell? ⟨b, o, none⟩ = some v) : b < w.heap.size := by
  unfold World.cell? at h
  by_cases hb : b < w.heap.size
  · exact hb
  · have : w.heap[b]? = none := by simp; omega
    simp [this] at h
theorem Row.step2 {w : World} {e b n k : Nat} {f : Nat → Value} (t : Row w e b n k f) (hk : k + 1 < n) : Row ((w.setCell ⟨b, k, none⟩ (f k)).setCell ⟨b, k + 1, none⟩ (f (k + 1))) e b n (k + 2) f :=
  (t.step (by omega)).step hk
theorem Row.mview {w : World} {b : Nat} {ss vs : List ByteArray} (t : Row w 45 b (ss.length * 2) (ss.length * 2) (mcell ss vs)) : MView w (some ⟨b, 0, none⟩) ss vs :=
  ⟨b, fun j hj => ⟨by rw [t.val (j * 2) (by omega), mcell_even], by rw [t.val (j * 2 + 1) (by omega), mcell_odd]⟩, .inr rfl⟩

theorem Row.pair {w : World} {b k : Nat} {ss vs : List ByteArray} (t : Row w 45 b (ss.length * 2) (k * 2) (mcell ss vs)) (hk : k < ss.length) :
    Row ((w.setCell ⟨b, k * 2, none⟩ (.string (sat ss k))).setCell ⟨b, k * 2 + 1, none⟩ (.string (sat vs k))).drew 45 b (ss.length * 2) ((k + 1) * 2) (mcell ss vs) := by
  have h := t.step2 (by omega)
  rw [mcell_even, mcell_odd] at h
  rw [show (k + 1) * 2 = k * 2 + 2 from by omega]
  exact h

set_option maxHeartbeats 1000000 in
theorem members_some (x : Addr) (a1 : Option Addr) (c0 c1 : Nat) (ss vs : List ByteArray) (w : World) (hl : vs.length = ss.length) (v0 : View w (some x) ss) (v1 : View w a1 vs) (h0 : ss.length ≤ 65537) :
    Calls Try.prog 15 #[.slice (some x) ss.length c0, .slice a1 vs.length c1] w fun e w' => e = .returned (.slice (some ⟨w.heap.size, 0, none⟩) ss.length ss.length) ∧ MView w' (some ⟨w.heap.size, 0, none⟩) ss vs ∧ Below w.heap.size w w' := by
  have hmk := make_mem ss.length (by omega)
  have hnil := fun w => Lib.run_eql_slice_nil (P := Try.prog) w 24 9 (some x) ss.length c0 0 0 Try.underlying24
  obtain ⟨b0, o0, hc0, d0⟩ := v0
  obtain ⟨b1, o1, hc1, d1⟩ := v1
  rw [hl] at d1 hc1
  rw [hl]
  have bel : Below w.heap.size w (w.alloc (.cells (mrow ss.length) 45)) := (Below.refl _ _).alloc (Nat.le_refl _) _
  have r0 : Row (w.alloc (.cells (mrow ss.length) 45)) 45 w.heap.size (ss.length * 2) 0 (mcell ss vs) := Row.start (heap_alloc_new w _) (size_mrow _) _
  have bt0 := But.refl (w.alloc (.cells (mrow ss.length) 45)) w.heap.size
  by_cases hz : ss.length = 0
  · have hz' : ss.length ≤ 0 := by omega
    clear hz d0 d1 hc0 hc1 hl
    go_enter Try.func15, Try.ntmps15
    go_wp2
    clear hmk hnil
    go_loop [6] (fun i => ∃ k : Nat, k ≤ ss.length ∧ i = .int .i64 k) (fun i => ss.length - (intOf i).toNat)
    case atStart => exact ⟨0, Nat.zero_le _, rfl⟩
    case round =>
      obtain ⟨k, hk, rfl⟩ := hrel
      have hge : ¬ k < ss.length := by omega
      go_wp2
      go_ret
      exact ⟨rfl, ⟨w.heap.size, fun j hj => by omega, .inl hz'⟩, bel⟩
  · obtain ⟨b, o, s⟩ := x
    have d0 : (⟨b, o, s⟩ : Addr) = ⟨b0, o0, none⟩ := by
      rcases d0 with d0 | d0
      · omega
      · exact Option.some.inj d0
    obtain ⟨rfl, rfl, rfl⟩ : b = b0 ∧ o = o0 ∧ s = none := by simpa using d0
    obtain rfl : a1 = some ⟨b1, o1, none⟩ := by
      rcases d1 with d1 | d1
      · omega
      · exact d1
    clear d0 d1 hz hl
    go_enter Try.func15, Try.ntmps15
    go_wp2
    clear hmk hnil
    go_loopw [6] (fun i wr => ∃ k : Nat, k ≤ ss.length ∧ i = .int .i64 k ∧ Row wr 45 w.heap.size (ss.length * 2) (k * 2) (mcell ss vs) ∧ But (w.alloc (.cells (mrow ss.length) 45)) wr w.heap.size) (fun i _ => ss.length - (intOf i).toNat)
    case atStart => exact ⟨0, Nat.zero_le _, rfl, r0, bt0⟩
    case round =>
      obtain ⟨k, hk, rfl, hR, hB⟩ := hrel
      by_cases hlt : k < ss.length
      · have l0 := cell_lt (hc0 k hlt)
        have l1 := cell_lt (hc1 k hlt)
        have q0 : wr.cell? ⟨b, o + k, none⟩ = some (.string (sat ss k)) := ((hB.cell b _ (by omega)).trans (bel.cell (p := ⟨b, o + k, none⟩) l0)).trans (hc0 k hlt)
        have q1 : wr.cell? ⟨b1, o1 + k, none⟩ = some (.string (sat vs k)) := ((hB.cell b1 _ (by omega)).trans (bel.cell (p := ⟨b1, o1 + k, none⟩) l1)).trans (hc1 k hlt)
        obtain ⟨u0, e0⟩ := hR.ex (k * 2) (by omega)
        obtain ⟨u1, e1⟩ := hR.ex (k * 2 + 1) (by omega)
        have f0 := hR.frozen (k * 2)
        have f1 := hR.frozen (k * 2 + 1)
        go_wp2
        go_region
        all_goals
          go_wp2
          go_roundw
          case rel => exact ⟨k + 1, by omega, by go_num, Row.pair hR hlt, ((hB.setCell _ _).setCell _ _).drew⟩
          case measure => simp [intOf]; omega
      · obtain rfl : k = ss.length := by omega
        have M := hR.mview
        have bel' := bel.trans (hB.below (Nat.le_refl _))
        clear hR hB
        go_wp2
        go_ret
        exact ⟨rfl, M, bel'⟩

theorem members_none (a1 : Option Addr) (c1 n : Nat) (w : World) :
    Calls Try.prog 15 #[.slice none 0 0, .slice a1 n c1] w fun e w' => e = .returned (.slice none 0 0) ∧ w = w' := by
  have hnil := fun w => Lib.run_eql_slice_nil (P := Try.prog) w 24 9 none 0 0 0 0 Try.underlying24
  go_enter Try.func15, Try.ntmps15
  go_wp2
  go_ret
  exact ⟨rfl, rfl⟩
end Go.Proofs.Qxb6605658a
