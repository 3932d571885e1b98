import Derived.Test.Qxb6605658aSl
namespace Go.Proofs.Qxb6605658a
open Go.ChangeShapes Go.WideShapes Go.ChangeAt Go.RowKit

/-- Is the k-th name the one that is looked for? -/
def hit (ss : List ByteArray) (name : ByteArray) (k : Nat) : Bool := (sat ss k).toList == name.toList
/-- The last member of that name among the first k. -/
def fwd (ss vs : List ByteArray) (name : ByteArray) : Nat → ByteArray × Bool
  | 0 => (⟨#[]⟩, false)
  | k + 1 => if hit ss name k then (sat vs k, true) else fwd ss vs name k

/-- A slice of members: nothing, or a row of pairs. -/
def MView (w : World) (a : Option Addr) (ss vs : List ByteArray) : Prop :=
  ∃ g, (∀ j, j < ss.length → w.cell? ⟨g, j * 2, none⟩ = some (.string (sat ss j)) ∧ w.cell? ⟨g, j * 2 + 1, none⟩ = some (.string (sat vs j))) ∧ (ss.length ≤ 0 ∨ a = some ⟨g, 0, none⟩)

set_option maxHeartbeats 1000000 in
theorem lookup_any (a : Option Addr) (c : Nat) (ss vs : List ByteArray) (name : ByteArray) (w : World) (v : MView w a ss vs) (h0 : ss.length ≤ maxLen) :
    Calls Try.prog 25 #[.slice a ss.length c, .string name] w fun e w' => e = .returned (.tuple #[.string (fwd ss vs name ss.length).1, .bool (fwd ss vs name ss.length).2]) ∧ w = w' := by
  unfold maxLen at h0
  obtain ⟨g, hc, d⟩ := v
  obtain ⟨R, hR⟩ : ∃ R, R = fwd ss vs name ss.length := ⟨_, rfl⟩
  rw [← hR]
  have HR : Hid (R = fwd ss vs name ss.length) := hR
  clear hR
  rcases d with d | rfl
  all_goals
    go_enter Try.func25, Try.ntmps25
    go_wp2
    go_loop [6] (fun i => ∃ k : Nat, k ≤ ss.length ∧ i = .int .i64 ((k : Int) - 1) ∧ Hid (R = fwd ss vs name k)) (fun i => (intOf i + 1).toNat)
    case atStart => exact ⟨ss.length, Nat.le_refl _, rfl, HR⟩
    case round =>
      obtain ⟨k, hk, rfl, hf⟩ := hrel
      by_cases hlt : 0 < k
      · try (exfalso; omega)
        all_goals
          obtain ⟨j, rfl⟩ : ∃ j, k = j + 1 := ⟨k - 1, by omega⟩
          obtain ⟨c1, c2⟩ := hc j (by omega)
          have hs : fwd ss vs name (j + 1) = if hit ss name j then (sat vs j, true) else fwd ss vs name j := rfl
          have HS : Hid (fwd ss vs name (j + 1) = if hit ss name j then (sat vs j, true) else fwd ss vs name j) := hs
          clear hs
          by_cases he : ((sat ss j).toList == name.toList) = true
          · have HE : Hid (hit ss name j = true) := he
            go_wp2
            go_ret2
            have := hf.out
            rw [HS.out, if_pos HE.out] at this
            subst this
            exact ⟨rfl, rfl⟩
          · have HE : Hid (¬ hit ss name j = true) := he
            have he' : ((sat ss j).toList == name.toList) = false := by simpa using he
            clear he
            go_wp2
            go_round
            case rel => exact ⟨j, by omega, by go_num, by rw [HS.out, if_neg HE.out] at hf; exact hf⟩
            case measure => simp [intOf]
      · obtain rfl : k = 0 := by omega
        go_wp2
        go_ret2
        have := hf.out
        subst this
        exact ⟨rfl, rfl⟩
end Go.Proofs.Qxb6605658a
