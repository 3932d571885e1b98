import Derived.Test.Qxb6605628aRFour
namespace Go.Proofs.Qxb6605628aR.Lz
open Go.ChangeShapes Go.WideShapes Go.ChangeAt Go.RowKit
set_option linter.unusedVariables false

set_option maxRecDepth 20000 in
set_option maxHeartbeats 2000000 in
theorem four_any (w : World) (st : Int) (hst0 : 0 ≤ st) (a : Nat → Int) (p : Option Addr) (len cap : Nat) (I L S : Nat → Int) (hC : Cls w p len I L S) :
    Calls Try.prog 4 #[.int .u32 st, .agg #[.int .u32 (a 0), .int .u32 (a 1), .int .u32 (a 2), .int .u32 (a 3)], .slice p len cap] w fun e w' => e = .returned (.bool true) ∧ Below w.heap.size w w' := by
  have bel : ∀ {w1 : World}, Below (w.alloc (.cells #[.int .u32 (a 0), .int .u32 (a 1), .int .u32 (a 2), .int .u32 (a 3)] 23)).heap.size (w.alloc (.cells #[.int .u32 (a 0), .int .u32 (a 1), .int .u32 (a 2), .int .u32 (a 3)] 23)) w1 → Below w.heap.size w w1 :=
    fun b => ((Below.refl _ _).alloc (Nat.le_refl _) _).trans (b.mono (by simp))
  by_cases h1 : 1048576 < (len : Int)
  · go_enter Try.func4, Try.ntmps4
    go_wp2_with (go_at_call 26; refine (f26_no _ _ _ _ _ _ _ _ _ h1).mono ?_; rintro e w1 ⟨rfl, b1⟩)
    go_ret
    exact ⟨rfl, bel b1⟩
  · by_cases h2 : 4096 < (len : Int)
    · go_enter Try.func4, Try.ntmps4
      go_wp2_with (go_at_call 26; refine (f26_yes _ _ _ _ _ _ _ _ _ (by omega)).mono ?_; rintro e w1 ⟨rfl, b1⟩)
      go_ret
      exact ⟨rfl, bel b1⟩
    · by_cases h3 : 12 ≤ st
      · go_enter Try.func4, Try.ntmps4
        go_wp2_with (go_at_call 26; refine (f26_yes _ _ _ _ _ _ _ _ _ (by omega)).mono ?_; rintro e w1 ⟨rfl, b1⟩)
        go_ret
        exact ⟨rfl, bel b1⟩
      · obtain ⟨n, rfl⟩ := Int.eq_ofNat_of_zero_le hst0
        exact four_main w n (by omega) a p len cap I L S hC (by omega)
end Go.Proofs.Qxb6605628aR.Lz
