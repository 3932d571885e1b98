import Derived.Test.Qxb6605658aRows
import Derived.Test.Qxb6605658aPlain
import Derived.WalkKit
import Derived.ProofKit
namespace Go.Proofs.Qxb6605658a
open Go.ChangeShapes Go.WideShapes Go.ChangeAt Go.RowKit

theorem ret_bool {a b : Bool} (h : a = b) : Ending.returned (.bool a) = .returned (.bool b) := by rw [h]

theorem ctl_of (c : UInt8) (h : (c.toNat : Int) < 32 ∨ (c.toNat : Int) = 127) : ctl c = true := by
  rcases h with h | h
  · have : c.toNat < 32 := by omega
    simp [ctl, this]
  · have : c.toNat = 127 := by omega
    simp [ctl, this]
theorem not_ctl (c : UInt8) (h1 : ¬ (c.toNat : Int) < 32) (h2 : ¬ (c.toNat : Int) = 127) : ctl c = false := by
  have : ¬ c.toNat < 32 := by omega
  have : ¬ c.toNat = 127 := by omega
  simp [ctl, *]

theorem hasC_of (s : ByteArray) (k : Nat) (h : k < s.size) (hc : ctl s[k] = true) : hasC s = true := by
  unfold hasC
  rw [List.any_eq_true]
  exact ⟨s[k], by show s.data[k] ∈ _; simp, hc⟩

set_option maxHeartbeats 400000 in
theorem hasControl_any (s : ByteArray) (w : World) (hs : s.size ≤ maxLen) :
    Calls Try.prog 24 #[.string s] w fun e w' => e = .returned (.bool (hasC s)) ∧ w = w' := by
  unfold maxLen at hs
  go_enter Try.func24, Try.ntmps24
  go_wp2
  go_loop [3] (fun i => ∃ k : Nat, k ≤ s.size ∧ i = .int .i64 k ∧ pre s k = false) (fun i => s.size - (intOf i).toNat)
  case atStart => exact ⟨0, Nat.zero_le _, rfl, rfl⟩
  case round =>
    obtain ⟨k, hk, rfl, hp⟩ := hrel
    have HP : Hid (pre s k = false) := hp
    clear hp
    by_cases hlt : k < s.size
    · have hsn := pre_succ s k hlt
      have HS : Hid (pre s (k + 1) = (pre s k || ctl s[k])) := hsn
      clear hsn
      by_cases h1 : (s[k].toNat : Int) < 32
      · go_wp2
        go_ret
        exact ⟨ret_bool (hasC_of s k hlt (ctl_of _ (.inl h1))).symm, rfl⟩
      · by_cases h2 : (s[k].toNat : Int) = 127
        · go_wp2
          go_ret
          exact ⟨ret_bool (hasC_of s k hlt (ctl_of _ (.inr h2))).symm, rfl⟩
        · go_wp2
          go_round
          case rel => exact ⟨k + 1, by omega, by go_num, by rw [HS.out, HP.out, not_ctl _ h1 h2]; rfl⟩
          case measure => simp [intOf]; omega
    · go_wp2
      go_ret
      exact ⟨ret_bool (by rw [← pre_end s k (by omega)]; exact HP.out.symm), rfl⟩

theorem zzHasControl_any (s : ByteArray) (w : World) (hs : s.size ≤ maxLen) :
    Calls Try.prog 10 #[.string s] w fun e w' => e = .returned (.bool (hasC s)) ∧ w = w' := by
  go_enter Try.func10, Try.ntmps10
  go_wp2_with (go_at_call 24; refine (hasControl_any _ _ hs).mono ?_; rintro e w' ⟨rfl, rfl⟩)
  go_ret
  exact ⟨rfl, rfl⟩

theorem bytes9_small (s : ByteArray) (w : World) (hs : (s.size : Int) ≤ 1048576) :
    Calls Try.prog 9 #[.string s] w fun e w' => e = .returned (.bool true) ∧ w = w' := by
  go_enter Try.func9, Try.ntmps9
  go_wp2
  go_ret
  exact ⟨rfl, rfl⟩
theorem bytes9_great (s : ByteArray) (w : World) (hs : ¬ (s.size : Int) ≤ 1048576) :
    Calls Try.prog 9 #[.string s] w fun e w' => e = .returned (.bool false) ∧ w = w' := by
  have h : (1048576 : Int) < s.size := by omega
  go_enter Try.func9, Try.ntmps9
  go_wp2
  go_ret
  exact ⟨rfl, rfl⟩

set_option maxHeartbeats 400000 in
theorem walk3 (s : ByteArray) (w0 : s.size ≤ maxLen) (w : World) :
    Calls Try.prog 3 #[.string s] w fun e w' => e = .returned (.bool true) ∧ Below w.heap.size w w' := by
  by_cases hs : (s.size : Int) ≤ 1048576
  · go_enter Try.func3, Try.ntmps3
    go_wp2_with (go_at_call 9; refine (bytes9_small _ _ hs).mono ?_; rintro e w' ⟨rfl, rfl⟩)
    go_loopw [3] (fun v wr => ∃ pos, wr = w.iter s pos ∧ v = .bool (pre s pos)) (fun _ wr => s.size - wr.iterPos w.heap.size)
    case atStart => exact ⟨0, rfl, rfl⟩
    case round =>
      obtain ⟨pos, rfl, rfl⟩ := hrel
      by_cases hp : pos < s.size
      · have hnx : ∀ ty, (Instr.next (.pointer (some ⟨w.heap.size, 0, none⟩)) true ty).run Try.prog (w.iter s pos) = _ := fun ty => run_next_any w s pos ty hp
        have hwd := width_pos s pos hp
        by_cases h1 : ((Utf8.decode s pos).1 : Int) < 32
        · go_wp2
          go_roundw
          case rel => exact ⟨pos + (Utf8.decode s pos).2, rfl, by rw [pre_hit s pos hp (.inl (by omega))]⟩
          case measure => simp; omega
        · by_cases h2 : ((Utf8.decode s pos).1 : Int) = 127
          · go_wp2
            go_roundw
            case rel => exact ⟨pos + (Utf8.decode s pos).2, rfl, by rw [pre_hit s pos hp (.inr (by omega))]⟩
            case measure => simp; omega
          · go_wp2
            go_roundw
            case rel => exact ⟨pos + (Utf8.decode s pos).2, rfl, by rw [pre_miss s pos hp (by omega) (by omega)]⟩
            case measure => simp; omega
      · have hnx : ∀ ty, (Instr.next (.pointer (some ⟨w.heap.size, 0, none⟩)) true ty).run Try.prog (w.iter s pos) = _ := fun ty => run_next_end w s pos ty hp
        go_wp2_with (go_at_call 10; refine (zzHasControl_any _ _ w0).mono ?_; rintro e w' ⟨rfl, rfl⟩)
        go_ret
        exact ⟨ret_bool (by rw [pre_end s pos (by omega)]; simp), (Below.refl _ _).alloc (Nat.le_refl _) _⟩
  · go_enter Try.func3, Try.ntmps3
    go_wp2_with (go_at_call 9; refine (bytes9_great _ _ hs).mono ?_; rintro e w' ⟨rfl, rfl⟩)
    go_ret
    exact ⟨rfl, Below.refl _ _⟩
end Go.Proofs.Qxb6605658a
