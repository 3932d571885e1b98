import Derived.Test.Qxb6605628aRRows
import Derived.WalkKit
import Derived.ProofKit
namespace Go.Proofs.Qxb6605628aR.Win
open Go.ChangeShapes Go.WideShapes Go.ChangeAt Go.RowKit

theorem info22 : (Try.prog.info? 22).map (fun i => (i.zero, i.size, i.bytes)) = some (some (.int .u32 0), 1, 4) := by kernel_rfl
theorem info5 : (Try.prog.info? 5).map (fun i => (i.zero, i.size, i.bytes)) = some (some (.int .u8 0), 1, 1) := by kernel_rfl

/-- A table as 'make' lays it. -/
def row (n : Nat) : Array Value := madeCells #[.int .u32 0] n
def buf (n : Nat) : Array Value := madeCells #[.int .u8 0] n

theorem size_row (n : Nat) : (row n).size = n := size_madeCells _ _
theorem row_at (n j : Nat) (h : j < n) : (row n)[j]? = some (.int .u32 0) := by
  have : j < (row n).size := by rw [size_row]; exact h
  rw [Array.getElem?_eq_getElem this]
  simp [row, madeCells, Nat.mod_one]

theorem make_tab (n : Nat) (hn : n ≤ 8388608) (w : World) : (Instr.makeSlice 49 (.int .i64 (n : Int)) (.int .i64 (n : Int))).run Try.prog w = .ok (.slice (some ⟨w.heap.size, 0, none⟩) n n) (w.alloc (.cells (row n) 22)) := by
  obtain ⟨i, hi, hz0, hz1, hz2⟩ := info_parts info22
  have h := run_make (P := Try.prog) w 49 22 i (.int .u32 0) Try.underlying49 hi hz0 .i64 .i64 (n : Int) (n : Int) (by omega) (by omega) (by rw [hz2]; omega) (by omega)
  rw [h, hz1]
  simp only [Int.toNat_natCast, Nat.mul_one]
  rfl

theorem make_buf (n : Nat) (hn : n ≤ 9437184) (w : World) : (Instr.makeSlice 25 (.int .i64 0) (.int .i64 (n : Int))).run Try.prog w = .ok (.slice (some ⟨w.heap.size, 0, none⟩) 0 n) (w.alloc (.cells (buf n) 5)) := by
  obtain ⟨i, hi, hz0, hz1, hz2⟩ := info_parts info5
  have h := run_make (P := Try.prog) w 25 5 i (.int .u8 0) Try.underlying25 hi hz0 .i64 .i64 0 (n : Int) (by omega) (by omega) (by rw [hz2]; omega) (by omega)
  rw [h, hz1]
  simp only [Int.toNat_natCast, Nat.mul_one, Int.toNat_zero]
  rfl

/-- What 'newWindow' leaves: the window's block and its three tables, each a block of its own, all new. -/
structure NewWin (w W : World) (p h4 h c : Nat) : Prop where
  win : ∃ b, W.heap[p]? = some (.cells #[.slice (some ⟨b, 0, none⟩) 0 9437184, .int .i64 0, .slice (some ⟨h4, 0, none⟩) 262144 262144, .slice (some ⟨h, 0, none⟩) 8388608 8388608, .slice (some ⟨c, 0, none⟩) 8388608 8388608, .int .i64 0, .int .i64 0] 82 (0, 0))
  t4 : W.heap[h4]? = some (.cells (row 262144) 22 (0, 0))
  th : W.heap[h]? = some (.cells (row 8388608) 22 (0, 0))
  tc : W.heap[c]? = some (.cells (row 8388608) 22 (0, 0))
  le : w.heap.size ≤ p ∧ w.heap.size ≤ h4 ∧ w.heap.size ≤ h ∧ w.heap.size ≤ c
  lt : p < W.heap.size ∧ h4 < W.heap.size ∧ h < W.heap.size ∧ c < W.heap.size
  ne : p ≠ h4 ∧ p ≠ h ∧ p ≠ c ∧ h4 ≠ h ∧ h4 ≠ c ∧ h ≠ c
  below : Below w.heap.size w W

theorem five (w : World) (o0 o1 o2 o3 o4 : Obj) :
    ((((((w.alloc o0).alloc o1).alloc o2).alloc o3).alloc o4).drew).heap[w.heap.size]? = some o0 ∧
    ((((((w.alloc o0).alloc o1).alloc o2).alloc o3).alloc o4).drew).heap[w.heap.size + 1]? = some o1 ∧
    ((((((w.alloc o0).alloc o1).alloc o2).alloc o3).alloc o4).drew).heap[w.heap.size + 1 + 1]? = some o2 ∧
    ((((((w.alloc o0).alloc o1).alloc o2).alloc o3).alloc o4).drew).heap[w.heap.size + 1 + 1 + 1]? = some o3 ∧
    ((((((w.alloc o0).alloc o1).alloc o2).alloc o3).alloc o4).drew).heap[w.heap.size + 1 + 1 + 1 + 1]? = some o4 := by
  have e : ((((((w.alloc o0).alloc o1).alloc o2).alloc o3).alloc o4).drew).heap = ((((w.heap.push o0).push o1).push o2).push o3).push o4 := rfl
  rw [e]
  simp only [Array.getElem?_push, Array.size_push]
  refine ⟨?_, ?_, ?_, ?_, ?_⟩
  · rw [if_neg (by omega), if_neg (by omega), if_neg (by omega), if_neg (by omega), if_pos trivial]
  · rw [if_neg (by omega), if_neg (by omega), if_neg (by omega), if_pos trivial]
  · rw [if_neg (by omega), if_neg (by omega), if_pos trivial]
  · rw [if_neg (by omega), if_pos trivial]
  · rw [if_pos trivial]

theorem five_size (w : World) (o0 o1 o2 o3 o4 : Obj) :
    ((((((w.alloc o0).alloc o1).alloc o2).alloc o3).alloc o4).drew).heap.size = w.heap.size + 5 := by
  have e : ((((((w.alloc o0).alloc o1).alloc o2).alloc o3).alloc o4).drew).heap = ((((w.heap.push o0).push o1).push o2).push o3).push o4 := rfl
  rw [e]
  simp

theorem five_below (w : World) (o0 o1 o2 o3 o4 : Obj) :
    Below w.heap.size w ((((((w.alloc o0).alloc o1).alloc o2).alloc o3).alloc o4).drew) :=
  ((((((Below.refl _ w).alloc (Nat.le_refl _) o0).alloc (by simp) o1).alloc (by simp; omega) o2).alloc (by simp; omega) o3).alloc (by simp; omega) o4).drew

set_option maxHeartbeats 2000000 in
theorem newWindow_any (w : World) :
    Calls Try.prog 41 #[] w fun e w' => ∃ p h4 h c : Nat, e = .returned (.pointer (some ⟨p, 0, none⟩)) ∧ NewWin w w' p h4 h c := by
  have m1 : ∀ w : World, (Instr.makeSlice 25 (.int .i64 0) (.int .i64 9437184)).run Try.prog w = .ok (.slice (some ⟨w.heap.size, 0, none⟩) 0 9437184) (w.alloc (.cells (buf 9437184) 5)) := make_buf 9437184 (by decide)
  have m2 : ∀ w : World, (Instr.makeSlice 49 (.int .i64 262144) (.int .i64 262144)).run Try.prog w = .ok (.slice (some ⟨w.heap.size, 0, none⟩) 262144 262144) (w.alloc (.cells (row 262144) 22)) := make_tab 262144 (by decide)
  have m3 : ∀ w : World, (Instr.makeSlice 49 (.int .i64 8388608) (.int .i64 8388608)).run Try.prog w = .ok (.slice (some ⟨w.heap.size, 0, none⟩) 8388608 8388608) (w.alloc (.cells (row 8388608) 22)) := make_tab 8388608 (by decide)
  go_enter Try.func41, Try.ntmps41
  go_wp2
  go_region
  all_goals
    go_wp2
    go_ret
    refine ⟨_, _, _, _, rfl, ⟨_, (five _ _ _ _ _ _).2.2.2.2⟩, ?_, ?_, ?_, ?_, ?_, ?_, five_below _ _ _ _ _ _⟩
    · first | exact (five _ _ _ _ _ _).1 | exact (five _ _ _ _ _ _).2.1 | exact (five _ _ _ _ _ _).2.2.1 | exact (five _ _ _ _ _ _).2.2.2.1
    · first | exact (five _ _ _ _ _ _).1 | exact (five _ _ _ _ _ _).2.1 | exact (five _ _ _ _ _ _).2.2.1 | exact (five _ _ _ _ _ _).2.2.2.1
    · first | exact (five _ _ _ _ _ _).1 | exact (five _ _ _ _ _ _).2.1 | exact (five _ _ _ _ _ _).2.2.1 | exact (five _ _ _ _ _ _).2.2.2.1
    · omega
    · rw [five_size]; omega
    · omega

theorem zznewWindow_any (w : World) :
    Calls Try.prog 29 #[] w fun e w' => ∃ p h4 h c : Nat, e = .returned (.pointer (some ⟨p, 0, none⟩)) ∧ NewWin w w' p h4 h c := by
  go_enter Try.func29, Try.ntmps29
  go_wp2_with (go_at_call 41; refine (newWindow_any _).mono ?_; rintro e w' ⟨p, h4, h, c, rfl, hw⟩)
  go_ret
  exact ⟨p, h4, h, c, rfl, hw⟩

theorem head4_any (w : World) (p : Nat) (v : Value) (h : w.cell? ⟨p, 2, none⟩ = some v) :
    Calls Try.prog 30 #[.pointer (some ⟨p, 0, none⟩)] w fun e w' => e = .returned v ∧ w = w' := by
  go_enter Try.func30, Try.ntmps30
  go_wp2
  go_ret
  exact ⟨rfl, rfl⟩
theorem head_any (w : World) (p : Nat) (v : Value) (h : w.cell? ⟨p, 3, none⟩ = some v) :
    Calls Try.prog 31 #[.pointer (some ⟨p, 0, none⟩)] w fun e w' => e = .returned v ∧ w = w' := by
  go_enter Try.func31, Try.ntmps31
  go_wp2
  go_ret
  exact ⟨rfl, rfl⟩
theorem chain_any (w : World) (p : Nat) (v : Value) (h : w.cell? ⟨p, 4, none⟩ = some v) :
    Calls Try.prog 32 #[.pointer (some ⟨p, 0, none⟩)] w fun e w' => e = .returned v ∧ w = w' := by
  go_enter Try.func32, Try.ntmps32
  go_wp2
  go_ret
  exact ⟨rfl, rfl⟩
end Go.Proofs.Qxb6605628aR.Win
