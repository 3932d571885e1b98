import Derived.Test.Qxb6605628aRThree0
import Derived.Test.Qxb6605628aRThree1
import Derived.Test.Qxb6605628aRThree2
import Derived.Test.Qxb6605628aRThree3
namespace Go.Proofs.Qxb6605628aR.Lz
open Go.ChangeShapes Go.WideShapes Go.ChangeAt Go.RowKit
set_option linter.unusedVariables false

set_option maxRecDepth 20000 in
set_option maxHeartbeats 4000000 in
theorem three_any (w : World) (st : Int) (hst0 : 0 ≤ st) (a : Nat → Int) (low rng cache cs : Int) (hl0 : 0 ≤ low) (hl1 : low < 18446744073709551616) (hr1 : rng < 4294967296) (hc0 : 0 ≤ cache) (hc1 : cache ≤ 255) (hs0 : -9223372036854775808 ≤ cs)
    (p : Option Addr) (cap : Nat) (bs : List Int) (hV : Bv w p bs) (i : Int) (hi0 : 0 ≤ i) (length : Int) (hn0 : 0 ≤ length) (hn1 : length < 4294967296) (ps : Int) (hps0 : 0 ≤ ps) :
    Calls Try.prog 3 #[.int .u32 st, .agg #[.int .u32 (a 0), .int .u32 (a 1), .int .u32 (a 2), .int .u32 (a 3)], .int .u64 low, .int .u32 rng, .int .u8 cache, .int .i64 cs, .slice p bs.length cap, .int .u32 i, .int .u32 length, .int .u32 ps] w fun e w' => e = .returned (.bool true) ∧ Below w.heap.size w w' := by
  have bel : ∀ {w1 : World}, Below (w.alloc (.cells #[.int .u32 (a 0), .int .u32 (a 1), .int .u32 (a 2), .int .u32 (a 3)] 23)).heap.size (w.alloc (.cells #[.int .u32 (a 0), .int .u32 (a 1), .int .u32 (a 2), .int .u32 (a 3)] 23)) w1 → Below w.heap.size w w1 :=
    fun b => ((Below.refl _ _).alloc (Nat.le_refl _) _).trans (b.mono (by simp))
  by_cases h1 : 1048576 < (bs.length : Int)
  · go_enter Try.func3, Try.ntmps3
    go_wp2_with (go_at_call 7; refine (f7_no _ _ _ _ _ _ _ _ _ _ _ _ _ h1).mono ?_; rintro e w1 ⟨rfl, b1⟩)
    go_ret
    exact ⟨rfl, bel b1⟩
  by_cases h2 : 65536 < (bs.length : Int)
  · go_enter Try.func3, Try.ntmps3
    go_wp2_with (go_at_call 7; refine (f7_yes _ _ _ _ _ _ _ _ _ _ _ _ _ (by omega)).mono ?_; rintro e w1 ⟨rfl, b1⟩)
    go_ret
    exact ⟨rfl, bel b1⟩
  by_cases h3 : 65536 < cs
  · go_enter Try.func3, Try.ntmps3
    go_wp2_with (go_at_call 7; refine (f7_yes _ _ _ _ _ _ _ _ _ _ _ _ _ (by omega)).mono ?_; rintro e w1 ⟨rfl, b1⟩)
    go_ret
    exact ⟨rfl, bel b1⟩
  by_cases h4 : 12 ≤ st
  · go_enter Try.func3, Try.ntmps3
    go_wp2_with (go_at_call 7; refine (f7_yes _ _ _ _ _ _ _ _ _ _ _ _ _ (by omega)).mono ?_; rintro e w1 ⟨rfl, b1⟩)
    go_ret
    exact ⟨rfl, bel b1⟩
  by_cases h5 : 4 ≤ i
  · go_enter Try.func3, Try.ntmps3
    go_wp2_with (go_at_call 7; refine (f7_yes _ _ _ _ _ _ _ _ _ _ _ _ _ (by omega)).mono ?_; rintro e w1 ⟨rfl, b1⟩)
    go_ret
    exact ⟨rfl, bel b1⟩
  by_cases h6 : 16 ≤ ps
  · go_enter Try.func3, Try.ntmps3
    go_wp2_with (go_at_call 7; refine (f7_yes _ _ _ _ _ _ _ _ _ _ _ _ _ (by omega)).mono ?_; rintro e w1 ⟨rfl, b1⟩)
    go_ret
    exact ⟨rfl, bel b1⟩
  by_cases h7 : rng < 16777216
  · go_enter Try.func3, Try.ntmps3
    go_wp2_with (go_at_call 7; refine (f7_yes _ _ _ _ _ _ _ _ _ _ _ _ _ (by omega)).mono ?_; rintro e w1 ⟨rfl, b1⟩)
    go_ret
    exact ⟨rfl, bel b1⟩
  obtain ⟨s, rfl⟩ := Int.eq_ofNat_of_zero_le hst0
  obtain ⟨t, rfl⟩ := Int.eq_ofNat_of_zero_le hps0
  rcases (by omega : i = 0 ∨ i = 1 ∨ i = 2 ∨ i = 3) with rfl | rfl | rfl | rfl
  · exact three0 w s (by omega) a low rng cache cs hl0 hl1 (by omega) hr1 hc0 hc1 hs0 (by omega) p cap bs hV (by omega) length hn0 hn1 t (by omega)
  · exact three1 w s (by omega) a low rng cache cs hl0 hl1 (by omega) hr1 hc0 hc1 hs0 (by omega) p cap bs hV (by omega) length hn0 hn1 t (by omega)
  · exact three2 w s (by omega) a low rng cache cs hl0 hl1 (by omega) hr1 hc0 hc1 hs0 (by omega) p cap bs hV (by omega) length hn0 hn1 t (by omega)
  · exact three3 w s (by omega) a low rng cache cs hl0 hl1 (by omega) hr1 hc0 hc1 hs0 (by omega) p cap bs hV (by omega) length hn0 hn1 t (by omega)
end Go.Proofs.Qxb6605628aR.Lz
