import Derived.Test.Qxb6605658aRows
import Derived.WalkKit
import Derived.ProofKit
import Derived.WalkSpells
namespace Go.Proofs.Qxb6605658a
open Go.ChangeShapes Go.WideShapes Go.ChangeAt Go.RowKit

/-- The k-th string. (A name of its own: the walk leaves it as it stands.) -/
def sat (ss : List ByteArray) (k : Nat) : ByteArray := ss.getD k ByteArray.empty

/-- What is read through a slice of strings: nothing, or a row of cells. -/
def View (w : World) (a : Option Addr) (ss : List ByteArray) : Prop :=
  ∃ b off, (∀ j, j < ss.length → w.cell? ⟨b, off + j, none⟩ = some (.string (sat ss j))) ∧ (ss.length ≤ 0 ∨ a = some ⟨b, off, none⟩)

/-- It returned a bool. -/
def IsBool (e : Ending) : Prop := ∃ v, e = .returned (.bool v)

set_option maxHeartbeats 2000000 in
theorem bytes12_any (a0 a1 : Option Addr) (c0 c1 : Nat) (ss vs : List ByteArray) (s : ByteArray) (w : World) (v0 : View w a0 ss) (v1 : View w a1 vs) (hs : s.size ≤ maxLen) (h0 : ss.length ≤ maxLen) (h1 : vs.length ≤ maxLen) :
    Calls Try.prog 12 #[.slice a0 ss.length c0, .slice a1 vs.length c1, .string s] w fun e w' => IsBool e ∧ w = w' := by
  unfold maxLen at hs h0 h1
  by_cases hn : (ss.length : Int) ≤ 1048576
  · obtain ⟨b0, o0, hc0, d0⟩ := v0
    obtain ⟨b1, o1, hc1, d1⟩ := v1
    rcases d0 with d0 | rfl <;> rcases d1 with d1 | rfl
    all_goals
      go_enter Try.func12, Try.ntmps12
      go_wp2
      go_loop [7, 8] (fun z i => ∃ (k : Nat) (n : Int), k ≤ ss.length ∧ i = .int .i64 k ∧ 0 ≤ n ∧ n ≤ 1048576 ∧ z = .int .i64 n) (fun _ i => ss.length - (intOf i).toNat)
      case atStart => exact ⟨0, _, Nat.zero_le _, rfl, by omega, hn, rfl⟩
      case round =>
        obtain ⟨k, n, hk, rfl, hn0, hn1, rfl⟩ := hrel
        by_cases hlt : k < ss.length
        · try (exfalso; omega)
          all_goals
            have hck := hc0 k hlt
            by_cases t1 : (1048576 : Int) < (sat ss k).size
            · go_wp2
              go_ret
              exact ⟨⟨_, rfl⟩, rfl⟩
            · by_cases t2 : (1048576 : Int) < n + (sat ss k).size
              · go_wp2
                go_ret
                exact ⟨⟨_, rfl⟩, rfl⟩
              · go_wp2
                go_round
                case rel => exact ⟨k + 1, _, by omega, by go_num, by omega, by omega, rfl⟩
                case measure => simp [intOf]; omega
        · by_cases t3 : (1048576 : Int) < vs.length
          · go_wp2
            go_ret
            exact ⟨⟨_, rfl⟩, rfl⟩
          by_cases t4 : (1048576 : Int) < n + vs.length
          · go_wp2
            go_ret
            exact ⟨⟨_, rfl⟩, rfl⟩
          go_wp2
          go_loop [7, 9] (fun z i => ∃ (k : Nat) (n : Int), k ≤ vs.length ∧ i = .int .i64 k ∧ 0 ≤ n ∧ n ≤ 1048576 ∧ z = .int .i64 n) (fun _ i => vs.length - (intOf i).toNat)
          case atStart => exact ⟨0, _, Nat.zero_le _, rfl, by omega, by omega, rfl⟩
          case round =>
            obtain ⟨k, n, hk, rfl, hn0, hn1, rfl⟩ := hrel
            by_cases hlt : k < vs.length
            · try (exfalso; omega)
              all_goals
                have hck := hc1 k hlt
                by_cases t1 : (1048576 : Int) < (sat vs k).size
                · go_wp2
                  go_ret
                  exact ⟨⟨_, rfl⟩, rfl⟩
                · by_cases t2 : (1048576 : Int) < n + (sat vs k).size
                  · go_wp2
                    go_ret
                    exact ⟨⟨_, rfl⟩, rfl⟩
                  · go_wp2
                    go_round
                    case rel => exact ⟨k + 1, _, by omega, by go_num, by omega, by omega, rfl⟩
                    case measure => simp [intOf]; omega
            · by_cases t5 : (1048576 : Int) < s.size
              · go_wp2
                go_ret
                exact ⟨⟨_, rfl⟩, rfl⟩
              by_cases t6 : (1048576 : Int) < n + s.size
              · go_wp2
                go_ret
                exact ⟨⟨_, rfl⟩, rfl⟩
              go_wp2
              go_ret
              exact ⟨⟨_, rfl⟩, rfl⟩
  · have hn' : (1048576 : Int) < ss.length := by omega
    clear hn
    go_enter Try.func12, Try.ntmps12
    go_wp2
    go_ret
    exact ⟨⟨_, rfl⟩, rfl⟩
end Go.Proofs.Qxb6605658a
