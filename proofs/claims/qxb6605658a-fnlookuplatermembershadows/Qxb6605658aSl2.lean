import Derived.Test.Qxb6605658aSl
namespace Go.Proofs.Qxb6605658a
open Go.ChangeShapes Go.WideShapes Go.ChangeAt Go.RowKit

set_option maxHeartbeats 2000000 in
theorem pairs13_any (a0 a1 : Option Addr) (c0 c1 : Nat) (ss vs : List ByteArray) (x : Int) (w : World) (v0 : View w a0 ss) (v1 : View w a1 vs) (x0 : 0 ≤ x) (x1 : x ≤ 3145728) (h0 : (ss.length : Int) ≤ 65536) (h1 : (vs.length : Int) ≤ 65536) :
    Calls Try.prog 13 #[.slice a0 ss.length c0, .slice a1 vs.length c1, .int .i64 x] w fun e w' => IsBool e ∧ w = w' := by
  by_cases hn : 16 * (ss.length : Int) + 16 * (vs.length : Int) + x ≤ 1048576
  · obtain ⟨b0, o0, hc0, d0⟩ := v0
    obtain ⟨b1, o1, hc1, d1⟩ := v1
    rcases d0 with d0 | rfl <;> rcases d1 with d1 | rfl
    all_goals
      go_enter Try.func13, Try.ntmps13
      go_wp2
      go_loop [7, 8] (fun z i => ∃ (k : Nat) (n : Int), k ≤ ss.length ∧ i = .int .i64 k ∧ 0 ≤ n ∧ n ≤ 1048576 ∧ z = .int .i64 n) (fun _ i => ss.length - (intOf i).toNat)
      case atStart => exact ⟨0, _, Nat.zero_le _, rfl, by omega, hn, rfl⟩
      case round =>
        obtain ⟨k, n, hk, rfl, hn0, hn1, rfl⟩ := hrel
        by_cases hlt : k < ss.length
        · try (exfalso; omega)
          all_goals
            have hck := hc0 k hlt
            by_cases t1 : (1048576 : Int) < (sat ss k).size
            · go_wp2
              go_ret
              exact ⟨⟨_, rfl⟩, rfl⟩
            · by_cases t2 : (1048576 : Int) < n + (sat ss k).size
              · go_wp2
                go_ret
                exact ⟨⟨_, rfl⟩, rfl⟩
              · go_wp2
                go_round
                case rel => exact ⟨k + 1, _, by omega, by go_num, by omega, by omega, rfl⟩
                case measure => simp [intOf]; omega
        · go_wp2
          go_loop [7, 9] (fun z i => ∃ (k : Nat) (n : Int), k ≤ vs.length ∧ i = .int .i64 k ∧ 0 ≤ n ∧ n ≤ 1048576 ∧ z = .int .i64 n) (fun _ i => vs.length - (intOf i).toNat)
          case atStart => exact ⟨0, _, Nat.zero_le _, rfl, by omega, by omega, rfl⟩
          case round =>
            obtain ⟨k, n, hk, rfl, hn0, hn1, rfl⟩ := hrel
            by_cases hlt : k < vs.length
            · try (exfalso; omega)
              all_goals
                have hck := hc1 k hlt
                by_cases t1 : (1048576 : Int) < (sat vs k).size
                · go_wp2
                  go_ret
                  exact ⟨⟨_, rfl⟩, rfl⟩
                · by_cases t2 : (1048576 : Int) < n + (sat vs k).size
                  · go_wp2
                    go_ret
                    exact ⟨⟨_, rfl⟩, rfl⟩
                  · go_wp2
                    go_round
                    case rel => exact ⟨k + 1, _, by omega, by go_num, by omega, by omega, rfl⟩
                    case measure => simp [intOf]; omega
            · go_wp2
              go_ret
              exact ⟨⟨_, rfl⟩, rfl⟩
  · have hn' : (1048576 : Int) < 16 * (ss.length : Int) + 16 * (vs.length : Int) + x := by omega
    clear hn
    go_enter Try.func13, Try.ntmps13
    go_wp2
    go_ret
    exact ⟨⟨_, rfl⟩, rfl⟩

set_option maxHeartbeats 2000000 in
theorem bytes16_any (a0 a1 : Option Addr) (c0 c1 : Nat) (ss vs : List ByteArray) (s v o : ByteArray) (w : World) (v0 : View w a0 ss) (v1 : View w a1 vs) (hs : s.size ≤ maxLen) (hv : v.size ≤ maxLen) (ho : o.size ≤ maxLen) (h0 : ss.length ≤ maxLen) (h1 : vs.length ≤ maxLen) :
    Calls Try.prog 16 #[.slice a0 ss.length c0, .slice a1 vs.length c1, .string s, .string v, .string o] w fun e w' => IsBool e ∧ w = w' := by
  unfold maxLen at hs hv ho h0 h1
  by_cases hn : (ss.length : Int) ≤ 1048576
  · obtain ⟨b0, o0, hc0, d0⟩ := v0
    obtain ⟨b1, o1, hc1, d1⟩ := v1
    rcases d0 with d0 | rfl <;> rcases d1 with d1 | rfl
    all_goals
      go_enter Try.func16, Try.ntmps16
      go_wp2
      go_loop [11, 12] (fun z i => ∃ (k : Nat) (n : Int), k ≤ ss.length ∧ i = .int .i64 k ∧ 0 ≤ n ∧ n ≤ 1048576 ∧ z = .int .i64 n) (fun _ i => ss.length - (intOf i).toNat)
      case atStart => exact ⟨0, _, Nat.zero_le _, rfl, by omega, hn, rfl⟩
      case round =>
        obtain ⟨k, n, hk, rfl, hn0, hn1, rfl⟩ := hrel
        by_cases hlt : k < ss.length
        · try (exfalso; omega)
          all_goals
            have hck := hc0 k hlt
            by_cases t1 : (1048576 : Int) < (sat ss k).size
            · go_wp2
              go_ret
              exact ⟨⟨_, rfl⟩, rfl⟩
            · by_cases t2 : (1048576 : Int) < n + (sat ss k).size
              · go_wp2
                go_ret
                exact ⟨⟨_, rfl⟩, rfl⟩
              · go_wp2
                go_round
                case rel => exact ⟨k + 1, _, by omega, by go_num, by omega, by omega, rfl⟩
                case measure => simp [intOf]; omega
        · by_cases t3 : (1048576 : Int) < vs.length
          · go_wp2
            go_ret
            exact ⟨⟨_, rfl⟩, rfl⟩
          by_cases t4 : (1048576 : Int) < n + vs.length
          · go_wp2
            go_ret
            exact ⟨⟨_, rfl⟩, rfl⟩
          go_wp2
          go_loop [11, 13] (fun z i => ∃ (k : Nat) (n : Int), k ≤ vs.length ∧ i = .int .i64 k ∧ 0 ≤ n ∧ n ≤ 1048576 ∧ z = .int .i64 n) (fun _ i => vs.length - (intOf i).toNat)
          case atStart => exact ⟨0, _, Nat.zero_le _, rfl, by omega, by omega, rfl⟩
          case round =>
            obtain ⟨k, n, hk, rfl, hn0, hn1, rfl⟩ := hrel
            by_cases hlt : k < vs.length
            · try (exfalso; omega)
              all_goals
                have hck := hc1 k hlt
                by_cases t1 : (1048576 : Int) < (sat vs k).size
                · go_wp2
                  go_ret
                  exact ⟨⟨_, rfl⟩, rfl⟩
                · by_cases t2 : (1048576 : Int) < n + (sat vs k).size
                  · go_wp2
                    go_ret
                    exact ⟨⟨_, rfl⟩, rfl⟩
                  · go_wp2
                    go_round
                    case rel => exact ⟨k + 1, _, by omega, by go_num, by omega, by omega, rfl⟩
                    case measure => simp [intOf]; omega
            · by_cases t5 : (1048576 : Int) < s.size
              · go_wp2
                go_ret
                exact ⟨⟨_, rfl⟩, rfl⟩
              by_cases t6 : (1048576 : Int) < n + s.size
              · go_wp2
                go_ret
                exact ⟨⟨_, rfl⟩, rfl⟩
              by_cases t7 : (1048576 : Int) < v.size
              · go_wp2
                go_ret
                exact ⟨⟨_, rfl⟩, rfl⟩
              by_cases t8 : (1048576 : Int) < n + s.size + v.size
              · go_wp2
                go_ret
                exact ⟨⟨_, rfl⟩, rfl⟩
              by_cases t9 : (1048576 : Int) < o.size
              · go_wp2
                go_ret
                exact ⟨⟨_, rfl⟩, rfl⟩
              by_cases t10 : (1048576 : Int) < n + s.size + v.size + o.size
              · go_wp2
                go_ret
                exact ⟨⟨_, rfl⟩, rfl⟩
              go_wp2
              go_ret
              exact ⟨⟨_, rfl⟩, rfl⟩
  · have hn' : (1048576 : Int) < ss.length := by omega
    clear hn
    go_enter Try.func16, Try.ntmps16
    go_wp2
    go_ret
    exact ⟨⟨_, rfl⟩, rfl⟩
end Go.Proofs.Qxb6605658a
