import Derived.Test.Qxb6605658aSix2
namespace Go.Proofs.Qxb6605658a
open Go.ChangeShapes Go.WideShapes Go.ChangeAt Go.RowKit

set_option maxRecDepth 20000 in
set_option maxHeartbeats 4000000 in
theorem six_early (a0 a1 : Option Addr) (c0 c1 : Nat) (ss vs : List ByteArray) (name v other : ByteArray) (w : World) (v0 : View w a0 ss) (v1 : View w a1 vs) (hs : name.size ≤ maxLen) (hv : v.size ≤ maxLen) (ho : other.size ≤ maxLen) (h0 : ss.length ≤ maxLen) (h1 : vs.length ≤ maxLen)
    (h : (65536 : Int) < ss.length ∨ (ss.length : Int) ≤ 65536 ∧ (65536 : Int) < vs.length ∨ (ss.length : Int) ≤ 65536 ∧ (vs.length : Int) ≤ 65536 ∧ (1048576 : Int) < name.size
      ∨ (ss.length : Int) ≤ 65536 ∧ (vs.length : Int) ≤ 65536 ∧ (name.size : Int) ≤ 1048576 ∧ (1048576 : Int) < v.size ∨ (ss.length : Int) ≤ 65536 ∧ (vs.length : Int) ≤ 65536 ∧ (name.size : Int) ≤ 1048576 ∧ (v.size : Int) ≤ 1048576 ∧ (1048576 : Int) < other.size) :
    Calls Try.prog 6 #[.slice a0 ss.length c0, .slice a1 vs.length c1, .string name, .string v, .string other] w fun e w' => e = .returned (.bool true) ∧ Below w.heap.size w w' := by
  have B16 : Hid (Calls Try.prog 16 #[.slice a0 ss.length c0, .slice a1 vs.length c1, .string name, .string v, .string other] w fun e w' => IsBool e ∧ w = w') := bytes16_any a0 a1 c0 c1 ss vs name v other w v0 v1 hs hv ho h0 h1
  clear v0 v1
  rcases h with h | ⟨h, h2⟩ | ⟨h, h2, h3⟩ | ⟨h, h2, h3, h4⟩ | ⟨h, h2, h3, h4, h5⟩
  all_goals
    go_enter Try.func6, Try.ntmps6
    go_wp2_with fail
    refine B16.out.mono ?_
    rintro e w' ⟨⟨v', rfl⟩, rfl⟩
    cases v'
    · go_wp2
      go_ret
      exact ⟨rfl, Below.refl _ _⟩
    · go_wp2
      go_ret
      exact ⟨rfl, Below.refl _ _⟩

set_option maxRecDepth 20000 in
set_option maxHeartbeats 4000000 in
theorem six_differ (a0 a1 : Option Addr) (c0 c1 : Nat) (ss vs : List ByteArray) (name v other : ByteArray) (w : World) (v0 : View w a0 ss) (v1 : View w a1 vs)
    (s0 : (name.size : Int) ≤ 1048576) (s1 : (v.size : Int) ≤ 1048576) (s2 : (other.size : Int) ≤ 1048576) (h0 : (ss.length : Int) ≤ 65536) (h1 : (vs.length : Int) ≤ 65536) (h : ¬ ss.length = vs.length) :
    Calls Try.prog 6 #[.slice a0 ss.length c0, .slice a1 vs.length c1, .string name, .string v, .string other] w fun e w' => e = .returned (.bool true) ∧ Below w.heap.size w w' := by
  have B16 : Hid (Calls Try.prog 16 #[.slice a0 ss.length c0, .slice a1 vs.length c1, .string name, .string v, .string other] w fun e w' => IsBool e ∧ w = w') := bytes16_any a0 a1 c0 c1 ss vs name v other w v0 v1 (by unfold maxLen; omega) (by unfold maxLen; omega) (by unfold maxLen; omega) (by unfold maxLen; omega) (by unfold maxLen; omega)
  have P13 : Hid (Calls Try.prog 13 #[.slice a0 ss.length c0, .slice a1 vs.length c1, .int .i64 ((name.size : Int) + v.size + other.size)] w fun e w' => IsBool e ∧ w = w') :=
    pairs13_any a0 a1 c0 c1 ss vs ((name.size : Int) + v.size + other.size) w v0 v1 (by omega) (by omega) (by omega) (by omega)
  have hne : ((ss.length : Int) == (vs.length : Int)) = false := by simp; omega
  clear v0 v1
  go_enter Try.func6, Try.ntmps6
  go_wp2_with fail
  refine B16.out.mono ?_
  rintro e w' ⟨⟨v', rfl⟩, rfl⟩
  cases v'
  · go_wp2
    go_ret
    exact ⟨rfl, Below.refl _ _⟩
  go_wp2_with fail
  refine P13.out.mono ?_
  rintro e w' ⟨⟨v', rfl⟩, rfl⟩
  cases v'
  · go_wp2
    go_ret
    exact ⟨rfl, Below.refl _ _⟩
  · go_wp2
    go_ret
    exact ⟨rfl, Below.refl _ _⟩

theorem walk6 (a0 a1 : Option Addr) (c0 c1 : Nat) (ss vs : List ByteArray) (name v other : ByteArray) (w : World) (v0 : View w a0 ss) (v1 : View w a1 vs) (hs : name.size ≤ maxLen) (hv : v.size ≤ maxLen) (ho : other.size ≤ maxLen) (h0 : ss.length ≤ maxLen) (h1 : vs.length ≤ maxLen) :
    Calls Try.prog 6 #[.slice a0 ss.length c0, .slice a1 vs.length c1, .string name, .string v, .string other] w fun e w' => e = .returned (.bool true) ∧ Below w.heap.size w w' := by
  by_cases hA : (ss.length : Int) ≤ 65536 ∧ (vs.length : Int) ≤ 65536 ∧ (name.size : Int) ≤ 1048576 ∧ (v.size : Int) ≤ 1048576 ∧ (other.size : Int) ≤ 1048576
  · obtain ⟨i0, i1, s0, s1, s2⟩ := hA
    by_cases hl : ss.length = vs.length
    · rw [← hl]
      cases a0 with
      | none =>
        cases a1 with
        | none => exact six_nn c0 c1 ss.length ss vs name v other w rfl hl.symm v0 v1 (by omega) s0 s1 s2
        | some y => exact six_ns y c0 c1 ss.length ss vs name v other w rfl hl.symm v0 v1 (by omega) s0 s1 s2
      | some x =>
        cases a1 with
        | none => exact six_sn x c0 c1 ss.length ss vs name v other w rfl hl.symm v0 v1 (by omega) s0 s1 s2
        | some y => exact six_some x y c0 c1 ss.length ss vs name v other w rfl hl.symm v0 v1 (by omega) s0 s1 s2
    · exact six_differ a0 a1 c0 c1 ss vs name v other w v0 v1 s0 s1 s2 i0 i1 hl
  · exact six_early a0 a1 c0 c1 ss vs name v other w v0 v1 hs hv ho h0 h1 (by omega)
end Go.Proofs.Qxb6605658a
