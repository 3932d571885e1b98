import Derived.Test.Qxb6605658aFive2
namespace Go.Proofs.Qxb6605658a
open Go.ChangeShapes Go.WideShapes Go.ChangeAt Go.RowKit

set_option maxHeartbeats 2000000 in
theorem five_early (a0 a1 : Option Addr) (c0 c1 : Nat) (ss vs : List ByteArray) (s : ByteArray) (w : World) (v0 : View w a0 ss) (v1 : View w a1 vs) (hs : s.size ≤ maxLen) (h0 : ss.length ≤ maxLen) (h1 : vs.length ≤ maxLen)
    (h : (65536 : Int) < ss.length ∨ (ss.length : Int) ≤ 65536 ∧ (65536 : Int) < vs.length ∨ (ss.length : Int) ≤ 65536 ∧ (vs.length : Int) ≤ 65536 ∧ (1048576 : Int) < s.size) :
    Calls Try.prog 5 #[.slice a0 ss.length c0, .slice a1 vs.length c1, .string s] w fun e w' => e = .returned (.bool true) ∧ Below w.heap.size w w' := by
  have B12 : Hid (Calls Try.prog 12 #[.slice a0 ss.length c0, .slice a1 vs.length c1, .string s] w fun e w' => IsBool e ∧ w = w') := bytes12_any a0 a1 c0 c1 ss vs s w v0 v1 hs h0 h1
  clear v0 v1
  rcases h with h | ⟨h, h'⟩ | ⟨h, h', h''⟩
  all_goals
    go_enter Try.func5, Try.ntmps5
    go_wp2_with fail
    refine B12.out.mono ?_
    rintro e w' ⟨⟨v, rfl⟩, rfl⟩
    cases v
    · go_wp2
      go_ret
      exact ⟨rfl, Below.refl _ _⟩
    · go_wp2
      go_ret
      exact ⟨rfl, Below.refl _ _⟩

set_option maxHeartbeats 2000000 in
theorem five_differ (a0 a1 : Option Addr) (c0 c1 : Nat) (ss vs : List ByteArray) (s : ByteArray) (w : World) (v0 : View w a0 ss) (v1 : View w a1 vs) (hs : (s.size : Int) ≤ 1048576) (h0 : (ss.length : Int) ≤ 65536) (h1 : (vs.length : Int) ≤ 65536)
    (h : ¬ ss.length = vs.length) :
    Calls Try.prog 5 #[.slice a0 ss.length c0, .slice a1 vs.length c1, .string s] w fun e w' => e = .returned (.bool true) ∧ Below w.heap.size w w' := by
  have B12 : Hid (Calls Try.prog 12 #[.slice a0 ss.length c0, .slice a1 vs.length c1, .string s] w fun e w' => IsBool e ∧ w = w') := bytes12_any a0 a1 c0 c1 ss vs s w v0 v1 (by unfold maxLen; omega) (by unfold maxLen; omega) (by unfold maxLen; omega)
  have P13 : Hid (Calls Try.prog 13 #[.slice a0 ss.length c0, .slice a1 vs.length c1, .int .i64 s.size] w fun e w' => IsBool e ∧ w = w') :=
    pairs13_any a0 a1 c0 c1 ss vs s.size w v0 v1 (by omega) (by omega) (by omega) (by omega)
  have hne : ((ss.length : Int) == (vs.length : Int)) = false := by simp; omega
  clear v0 v1
  go_enter Try.func5, Try.ntmps5
  go_wp2_with fail
  refine B12.out.mono ?_
  rintro e w' ⟨⟨v, rfl⟩, rfl⟩
  cases v
  · go_wp2
    go_ret
    exact ⟨rfl, Below.refl _ _⟩
  go_wp2_with fail
  refine P13.out.mono ?_
  rintro e w' ⟨⟨v, rfl⟩, rfl⟩
  cases v
  · go_wp2
    go_ret
    exact ⟨rfl, Below.refl _ _⟩
  · go_wp2
    go_ret
    exact ⟨rfl, Below.refl _ _⟩

theorem View.addr {w : World} {a : Option Addr} {ss : List ByteArray} (v : View w a ss) (h : ¬ ss.length = 0) : ∃ x, a = some x := by
  obtain ⟨b, o, _, d⟩ := v
  rcases d with d | d
  · omega
  · exact ⟨_, d⟩

theorem walk5 (a0 a1 : Option Addr) (c0 c1 : Nat) (ss vs : List ByteArray) (s : ByteArray) (w : World) (v0 : View w a0 ss) (v1 : View w a1 vs) (hs : s.size ≤ maxLen) (h0 : ss.length ≤ maxLen) (h1 : vs.length ≤ maxLen) :
    Calls Try.prog 5 #[.slice a0 ss.length c0, .slice a1 vs.length c1, .string s] w fun e w' => e = .returned (.bool true) ∧ Below w.heap.size w w' := by
  by_cases hA : (ss.length : Int) ≤ 65536 ∧ (vs.length : Int) ≤ 65536 ∧ (s.size : Int) ≤ 1048576
  · obtain ⟨i0, i1, is⟩ := hA
    by_cases hl : ss.length = vs.length
    · by_cases hz : ss.length = 0
      · obtain rfl : ss = [] := List.eq_nil_of_length_eq_zero hz
        obtain rfl : vs = [] := List.eq_nil_of_length_eq_zero (by omega)
        exact five_zero a0 a1 c0 c1 s w is
      · obtain ⟨x, rfl⟩ := v0.addr hz
        obtain ⟨y, rfl⟩ := v1.addr (by omega)
        have := five_some x y c0 c1 ss vs s w hl.symm v0 v1 (by omega) (by omega)
        rw [← hl]
        exact this
    · exact five_differ a0 a1 c0 c1 ss vs s w v0 v1 is i0 i1 hl
  · exact five_early a0 a1 c0 c1 ss vs s w v0 v1 hs h0 h1 (by omega)
end Go.Proofs.Qxb6605658a
