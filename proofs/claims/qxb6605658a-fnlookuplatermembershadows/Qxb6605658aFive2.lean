import Derived.Test.Qxb6605658aFive
namespace Go.Proofs.Qxb6605658a
open Go.ChangeShapes Go.WideShapes Go.ChangeAt Go.RowKit

theorem view_nil (w : World) (a : Option Addr) : View w a [] := ⟨0, 0, fun j hj => by simp at hj, .inl (Nat.le_refl _)⟩
theorem mview_nil (w : World) (a : Option Addr) : MView w a [] [] := ⟨0, fun j hj => by simp at hj, .inl (Nat.le_refl _)⟩
theorem make_str0 (w : World) : (Instr.makeSlice 24 (.int .i64 0) (.int .i64 0)).run Try.prog w = .ok (.slice (some ⟨w.heap.size, 0, none⟩) 0 0) (w.alloc (.cells (srow 0) 9)) := make_str 0 (by decide) w
theorem copy0 (w : World) (ty : TypeId) (d a : Option Addr) (dc sc : Nat) : (Builtin.copy_ #[24, 24] ty #[.slice d 0 dc, .slice a 0 sc]).run Try.prog w = .ok (.int .i64 0) w :=
  run_copy_none (P := Try.prog) w 24 24 ty 9 d a 0 dc 0 sc Try.underlying24 size9 rfl

/-- A member list of nothing, whatever slices say so. -/
theorem members_zero (a0 a1 : Option Addr) (c0 c1 : Nat) (w : World) :
    Calls Try.prog 15 #[.slice a0 0 c0, .slice a1 0 c1] w fun e w' => (∃ a c, e = .returned (.slice a 0 c)) ∧ Below w.heap.size w w' := by
  cases a0 with
  | none =>
    have hnil := fun w => Lib.run_eql_slice_nil (P := Try.prog) w 24 9 none 0 c0 0 0 Try.underlying24
    go_enter Try.func15, Try.ntmps15
    go_wp2
    go_ret
    exact ⟨⟨_, _, rfl⟩, Below.refl _ _⟩
  | some x =>
    refine (members_some x a1 c0 c1 [] [] w rfl (view_nil _ _) (view_nil _ _) (by decide)).mono ?_
    rintro e w' ⟨rfl, _, bel⟩
    exact ⟨⟨_, _, rfl⟩, bel⟩

theorem bytes12_zero (a0 a1 : Option Addr) (c0 c1 : Nat) (s : ByteArray) (w : World) (hs : s.size ≤ maxLen) :
    Calls Try.prog 12 #[.slice a0 0 c0, .slice a1 0 c1, .string s] w fun e w' => IsBool e ∧ w = w' :=
  bytes12_any a0 a1 c0 c1 [] [] s w (view_nil _ _) (view_nil _ _) hs (by decide) (by decide)
theorem pairs13_zero (a0 a1 : Option Addr) (c0 c1 : Nat) (x : Int) (w : World) (x0 : 0 ≤ x) (x1 : x ≤ 3145728) :
    Calls Try.prog 13 #[.slice a0 0 c0, .slice a1 0 c1, .int .i64 x] w fun e w' => IsBool e ∧ w = w' :=
  pairs13_any a0 a1 c0 c1 [] [] x w (view_nil _ _) (view_nil _ _) x0 x1 (by decide) (by decide)
theorem lookup_zero (a : Option Addr) (c : Nat) (s : ByteArray) (w : World) :
    Calls Try.prog 14 #[.slice a 0 c, .string s] w fun e w' => e = .returned (.tuple #[.string ⟨#[]⟩, .bool false]) ∧ w = w' :=
  zzLookup_any a c [] [] s w (mview_nil _ _) (by decide)

set_option maxHeartbeats 2000000 in
theorem five_zero (a0 a1 : Option Addr) (c0 c1 : Nat) (s : ByteArray) (w : World) (hs : (s.size : Int) ≤ 1048576) :
    Calls Try.prog 5 #[.slice a0 0 c0, .slice a1 0 c1, .string s] w fun e w' => e = .returned (.bool true) ∧ Below w.heap.size w w' := by
  have nil0 := fun w => run_neq_slice_nil_any (P := Try.prog) w 24 9 a0 0 c0 0 0 Try.underlying24
  have nil1 := fun w => run_neq_slice_nil_any (P := Try.prog) w 24 9 a1 0 c1 0 0 Try.underlying24
  have hmk := make_str0
  have hcp := copy0
  have hS : s.size ≤ maxLen := by unfold maxLen; omega
  cases a0 <;> cases a1
  all_goals
    go_enter Try.func5, Try.ntmps5
    go_wp2_with fail
    refine (bytes12_zero _ _ _ _ _ _ hS).mono ?_
    rintro e w' ⟨⟨v, rfl⟩, rfl⟩
    cases v
    · go_wp2
      go_ret
      exact ⟨rfl, Below.refl _ _⟩
    go_wp2_with fail
    refine (pairs13_zero _ _ _ _ _ _ (by omega) (by omega)).mono ?_
    rintro e w' ⟨⟨v, rfl⟩, rfl⟩
    cases v
    · go_wp2_with fail
      clear nil0 nil1 hmk hcp
      go_loop [9, 10, 11] (fun v b i => v = .string ⟨#[]⟩ ∧ b = .bool false ∧ i = .int .i64 0) (fun _ _ _ => 0)
      case atStart => exact ⟨rfl, rfl, rfl⟩
      case round =>
        obtain ⟨rfl, rfl, rfl⟩ := hrel
        go_wp2_with fail
        refine (members_zero _ _ _ _ _).mono ?_
        rintro e w3 ⟨⟨a, c, rfl⟩, bel3⟩
        go_wp2_with fail
        refine (lookup_zero _ _ _ _).mono ?_
        rintro e w' ⟨rfl, rfl⟩
        go_wp2
        go_ret
        refine ⟨rfl, ?_⟩
        first
        | exact bel3
        | exact ((Below.refl _ _).alloc (Nat.le_refl _) _).trans (bel3.mono (by simp))
        | exact (((Below.refl _ _).alloc (Nat.le_refl _) _).alloc (by simp) _).trans (bel3.mono (by simp; omega))
    · go_wp2
      go_ret
      exact ⟨rfl, Below.refl _ _⟩
end Go.Proofs.Qxb6605658a
