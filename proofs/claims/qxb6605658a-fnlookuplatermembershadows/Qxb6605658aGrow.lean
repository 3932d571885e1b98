import Derived.Test.Qxb6605658aFive2
namespace Go.Proofs.Qxb6605658a
open Go.ChangeShapes Go.WideShapes Go.ChangeAt Go.RowKit

def scell (ss : List ByteArray) (j : Nat) : Value := .string (sat ss j)
theorem sat_left (ss : List ByteArray) (x : ByteArray) (j : Nat) (h : j < ss.length) : sat (ss ++ [x]) j = sat ss j := by
  simp [sat, List.getD, List.getElem?_append_left h]
theorem sat_last (ss : List ByteArray) (x : ByteArray) : sat (ss ++ [x]) ss.length = x := by
  simp [sat]
theorem sat_cons_zero (ss : List ByteArray) (x : ByteArray) : sat (x :: ss) 0 = x := rfl
theorem sat_cons_succ (ss : List ByteArray) (x : ByteArray) (j : Nat) : sat (x :: ss) (j + 1) = sat ss j := rfl

theorem Row.view {w : World} {b n : Nat} {ss : List ByteArray} (t : Row w 9 b n n (scell ss)) (hn : ss.length = n) : View w (some ⟨b, 0, none⟩) ss :=
  View.own fun j hj => t.val j (by omega)

theorem make_succ (n : Nat) (hn : n ≤ 65536) (w : World) : (Instr.makeSlice 24 (.int .i64 ((n : Int) + 1)) (.int .i64 ((n : Int) + 1))).run Try.prog w = .ok (.slice (some ⟨w.heap.size, 0, none⟩) (n + 1) (n + 1)) (w.alloc (.cells (srow (n + 1)) 9)) := by
  have := make_str (n + 1) (by omega) w
  rw [show ((n + 1 : Nat) : Int) = (n : Int) + 1 from by omega] at this
  exact this

theorem Row.left {w : World} {b n k : Nat} {ss : List ByteArray} {x : ByteArray} (t : Row w 9 b (n + 1) k (scell (ss ++ [x]))) (hk : k < ss.length) (hn : ss.length = n) :
    Row (w.setCell ⟨b, k, none⟩ (.string (sat ss k))) 9 b (n + 1) (k + 1) (scell (ss ++ [x])) := by
  have h := t.step (by omega)
  have e : scell (ss ++ [x]) k = .string (sat ss k) := by unfold scell; rw [sat_left ss x k hk]
  rw [e] at h
  exact h
theorem Row.last {w : World} {b n : Nat} {ss : List ByteArray} {x : ByteArray} (t : Row w 9 b (n + 1) n (scell (ss ++ [x]))) (hn : ss.length = n) :
    View (w.setCell ⟨b, n, none⟩ (.string x)) (some ⟨b, 0, none⟩) (ss ++ [x]) := by
  have h := t.step (by omega)
  have e : scell (ss ++ [x]) n = .string x := by unfold scell; rw [← hn, sat_last ss x]
  rw [e] at h
  exact h.view (by simp [hn])
theorem Row.head {w : World} {b n : Nat} {ss : List ByteArray} {x : ByteArray} (t : Row w 9 b (n + 1) 0 (scell (x :: ss))) :
    Row (w.setCell ⟨b, 0, none⟩ (.string x)) 9 b (n + 1) (0 + 1) (scell (x :: ss)) := by
  have h := t.step (by omega)
  exact h
theorem Row.right {w : World} {b n k : Nat} {ss : List ByteArray} {x : ByteArray} (t : Row w 9 b (n + 1) (k + 1) (scell (x :: ss))) (hk : k < n) :
    Row (w.setCell ⟨b, k + 1, none⟩ (.string (sat ss k))) 9 b (n + 1) (k + 1 + 1) (scell (x :: ss)) := by
  have h := t.step (by omega)
  exact h

set_option maxHeartbeats 1000000 in
theorem append_any (a : Option Addr) (c n : Nat) (ss : List ByteArray) (x : ByteArray) (w : World) (hn : ss.length = n) (v0 : View w a ss) (h0 : n ≤ 65536) :
    Calls Try.prog 17 #[.slice a n c, .string x] w fun e w' => e = .returned (.slice (some ⟨w.heap.size, 0, none⟩) (n + 1) (n + 1)) ∧ View w' (some ⟨w.heap.size, 0, none⟩) (ss ++ [x]) ∧ Below w.heap.size w w' ∧ w.heap.size < w'.heap.size := by
  have hmk := make_succ n h0
  obtain ⟨b0, o0, hc0, d0⟩ := v0
  rw [hn] at hc0 d0
  have bel : Below w.heap.size w (w.alloc (.cells (srow (n + 1)) 9)) := (Below.refl _ _).alloc (Nat.le_refl _) _
  have r0 : Row (w.alloc (.cells (srow (n + 1)) 9)) 9 w.heap.size (n + 1) 0 (scell (ss ++ [x])) := Row.start (heap_alloc_new w _) (size_srow _) _
  have bt0 := But.refl (w.alloc (.cells (srow (n + 1)) 9)) w.heap.size
  have sz : (w.alloc (.cells (srow (n + 1)) 9)).heap.size = w.heap.size + 1 := by simp
  have SZ : Hid ((w.alloc (.cells (srow (n + 1)) 9)).heap.size = w.heap.size + 1) := sz
  have HN : Hid (ss.length = n) := hn
  clear sz hn
  rcases d0 with d0 | rfl
  all_goals
    go_enter Try.func17, Try.ntmps17
    go_wp2
    clear hmk
    go_loopw [6] (fun i wr => ∃ k : Nat, k ≤ n ∧ i = .int .i64 k ∧ Row wr 9 w.heap.size (n + 1) k (scell (ss ++ [x])) ∧ But (w.alloc (.cells (srow (n + 1)) 9)) wr w.heap.size) (fun i _ => n - (intOf i).toNat)
    case atStart => exact ⟨0, Nat.zero_le _, rfl, r0, bt0⟩
    case round =>
      obtain ⟨k, hk, rfl, hR, hB⟩ := hrel
      by_cases hlt : k < n
      · try (exfalso; omega)
        all_goals
          have l0 := cell_lt (hc0 k hlt)
          have q0 : wr.cell? ⟨b0, o0 + k, none⟩ = some (.string (sat ss k)) := ((hB.cell b0 _ (by omega)).trans (bel.cell (p := ⟨b0, o0 + k, none⟩) l0)).trans (hc0 k hlt)
          obtain ⟨u0, e0⟩ := hR.ex k (by omega)
          have f0 := hR.frozen k
          go_wp2
          go_roundw
          case rel => exact ⟨k + 1, by omega, by go_num, hR.left (by rw [HN.out]; exact hlt) HN.out, hB.setCell _ _⟩
          case measure => simp [intOf]; omega
      · obtain rfl : k = n := by omega
        obtain ⟨u0, e0⟩ := hR.ex k (by omega)
        have f0 := hR.frozen k
        go_wp2
        go_ret
        exact ⟨rfl, hR.last HN.out, (bel.trans (hB.below (Nat.le_refl _))).setCell (Nat.le_refl _) _, by have := hB.size; rw [SZ.out] at this; simp [World.setCell]; omega⟩

set_option maxHeartbeats 1000000 in
theorem prepend_any (a : Option Addr) (c n : Nat) (ss : List ByteArray) (x : ByteArray) (w : World) (hn : ss.length = n) (v0 : View w a ss) (h0 : n ≤ 65536) :
    Calls Try.prog 18 #[.slice a n c, .string x] w fun e w' => e = .returned (.slice (some ⟨w.heap.size, 0, none⟩) (n + 1) (n + 1)) ∧ View w' (some ⟨w.heap.size, 0, none⟩) (x :: ss) ∧ Below w.heap.size w w' ∧ w.heap.size < w'.heap.size := by
  obtain ⟨b0, o0, hc0, d0⟩ := v0
  rw [hn] at hc0 d0
  obtain ⟨W1, hW1⟩ : ∃ W1, W1 = w.alloc (.cells (srow (n + 1)) 9) := ⟨_, rfl⟩
  have hmk : (Instr.makeSlice 24 (.int .i64 ((n : Int) + 1)) (.int .i64 ((n : Int) + 1))).run Try.prog w = .ok (.slice (some ⟨w.heap.size, 0, none⟩) (n + 1) (n + 1)) W1 := by rw [hW1]; exact make_succ n h0 w
  have bel : Below w.heap.size w W1 := by rw [hW1]; exact (Below.refl _ _).alloc (Nat.le_refl _) _
  have r0 : Row W1 9 w.heap.size (n + 1) 0 (scell (x :: ss)) := by rw [hW1]; exact Row.start (heap_alloc_new w _) (size_srow _) _
  have SZ : Hid (W1.heap.size = w.heap.size + 1) := by rw [hW1]; exact World.size_alloc _ _
  obtain ⟨u00, e00⟩ := r0.ex 0 (by omega)
  have f00 := r0.frozen 0
  clear hW1
  have HN : Hid (ss.length = n) := hn
  clear hn
  rcases d0 with d0 | rfl
  all_goals
    go_enter Try.func18, Try.ntmps18
    go_wp2
    clear hmk
    go_loopw [6] (fun i wr => ∃ k : Nat, k ≤ n ∧ i = .int .i64 k ∧ Row wr 9 w.heap.size (n + 1) (k + 1) (scell (x :: ss)) ∧ But W1 wr w.heap.size) (fun i _ => n - (intOf i).toNat)
    case atStart => exact ⟨0, Nat.zero_le _, rfl, r0.head, (But.refl _ _).setCell _ _⟩
    case round =>
      clear e00 f00
      obtain ⟨k, hk, rfl, hR, hB⟩ := hrel
      by_cases hlt : k < n
      · try (exfalso; omega)
        all_goals
          have l0 := cell_lt (hc0 k hlt)
          have q0 : wr.cell? ⟨b0, o0 + k, none⟩ = some (.string (sat ss k)) := ((hB.cell b0 _ (by omega)).trans (bel.cell (p := ⟨b0, o0 + k, none⟩) l0)).trans (hc0 k hlt)
          obtain ⟨u0, e0⟩ := hR.ex (k + 1) (by omega)
          have f0 := hR.frozen (k + 1)
          go_wp2
          go_roundw
          case rel => exact ⟨k + 1, by omega, by go_num, hR.right hlt, hB.setCell _ _⟩
          case measure => simp [intOf]; omega
      · obtain rfl : k = n := by omega
        have V := hR.view (by simp [HN.out])
        have bel' := bel.trans (hB.below (Nat.le_refl _))
        have lt : w.heap.size < wr.heap.size := by have := hB.size; rw [SZ.out] at this; omega
        clear hR hB
        go_wp2
        go_ret
        exact ⟨rfl, V, bel', lt⟩

/-- The members of two lists, whatever slices hold them. -/
theorem members_any (a0 a1 : Option Addr) (c0 c1 n : Nat) (ss vs : List ByteArray) (w : World) (h0 : ss.length = n) (h1 : vs.length = n) (v0 : View w a0 ss) (v1 : View w a1 vs) (hn : n ≤ 65537) :
    Calls Try.prog 15 #[.slice a0 n c0, .slice a1 n c1] w fun e w' => (∃ a c, e = .returned (.slice a n c) ∧ MView w' a ss vs) ∧ Below w.heap.size w w' := by
  subst h0
  cases a0 with
  | none =>
    have hz : ss.length = 0 := by
      obtain ⟨b, o, _, d⟩ := v0
      rcases d with d | d
      · omega
      · cases d
    have hnil := fun w => Lib.run_eql_slice_nil (P := Try.prog) w 24 9 none ss.length c0 0 0 Try.underlying24
    have Z : Hid (ss.length = 0) := hz
    clear hz v0 v1 h1
    go_enter Try.func15, Try.ntmps15
    go_wp2
    go_ret
    exact ⟨⟨none, 0, by rw [Z.out]; rfl, 0, fun j hj => by rw [Z.out] at hj; omega, .inl (by rw [Z.out]; exact Nat.le_refl _)⟩, Below.refl _ _⟩
  | some x =>
    have := members_some x a1 c0 c1 ss vs w h1 v0 v1 hn
    rw [h1] at this
    refine this.mono ?_
    rintro e w' ⟨rfl, mv, bel⟩
    exact ⟨⟨_, _, rfl, mv⟩, bel⟩

theorem lookup_n (a : Option Addr) (c n : Nat) (ss vs : List ByteArray) (name : ByteArray) (w : World) (hn : ss.length = n) (v : MView w a ss vs) (h0 : n ≤ 65537) (r : ByteArray) (b : Bool) (hr : fwd ss vs name n = (r, b)) :
    Calls Try.prog 14 #[.slice a n c, .string name] w fun e w' => e = .returned (.tuple #[.string r, .bool b]) ∧ w = w' := by
  subst hn
  have := zzLookup_any a c ss vs name w v (by unfold maxLen; omega)
  rw [hr] at this
  exact this

theorem MView.mono {w w1 : World} {a : Option Addr} {ss vs : List ByteArray} (v : MView w a ss vs) (h : Below w.heap.size w w1) : MView w1 a ss vs := by
  obtain ⟨g, hc, d⟩ := v
  refine ⟨g, fun j hj => ?_, d⟩
  obtain ⟨q0, q1⟩ := hc j hj
  exact ⟨(h.cell (p := ⟨g, j * 2, none⟩) (cell_lt q0)).trans q0, (h.cell (p := ⟨g, j * 2 + 1, none⟩) (cell_lt q1)).trans q1⟩

/-! The plain laws -/
theorem fwd_snoc (ss vs : List ByteArray) (x y nm : ByteArray) (n : Nat) (h0 : ss.length = n) (h1 : vs.length = n) :
    fwd (ss ++ [x]) (vs ++ [y]) nm (n + 1) = if x.toList == nm.toList then (y, true) else fwd ss vs nm n := by
  have hk : ∀ k, k ≤ n → fwd (ss ++ [x]) (vs ++ [y]) nm k = fwd ss vs nm k := by
    intro k
    induction k with
    | zero => intro _; rfl
    | succ k ih =>
      intro hk
      have e1 : hit (ss ++ [x]) nm k = hit ss nm k := by unfold hit; rw [sat_left ss x k (by omega)]
      have e2 : sat (vs ++ [y]) k = sat vs k := sat_left vs y k (by omega)
      unfold fwd
      rw [e1, e2, ih (by omega)]
  have e1 : hit (ss ++ [x]) nm n = (x.toList == nm.toList) := by unfold hit; rw [← h0, sat_last ss x]
  have e2 : sat (vs ++ [y]) n = y := by rw [← h1, sat_last vs y]
  show (if hit (ss ++ [x]) nm n then _ else _) = _
  rw [e1, e2, hk n (Nat.le_refl _)]
theorem fwd_cons (ss vs : List ByteArray) (x y nm : ByteArray) (k : Nat) :
    fwd (x :: ss) (y :: vs) nm (k + 1) = if (fwd ss vs nm k).2 then fwd ss vs nm k else if x.toList == nm.toList then (y, true) else (⟨#[]⟩, false) := by
  induction k with
  | zero => rfl
  | succ k ih =>
    show (if hit (x :: ss) nm (k + 1) then _ else fwd (x :: ss) (y :: vs) nm (k + 1)) = _
    rw [ih]
    show (if hit ss nm k then (sat vs k, true) else _) = if (if hit ss nm k then (sat vs k, true) else fwd ss vs nm k).2 then (if hit ss nm k then (sat vs k, true) else fwd ss vs nm k) else _
    by_cases h : hit ss nm k = true
    · rw [if_pos h, if_pos h]; rfl
    · rw [if_neg h, if_neg h]
end Go.Proofs.Qxb6605658a
