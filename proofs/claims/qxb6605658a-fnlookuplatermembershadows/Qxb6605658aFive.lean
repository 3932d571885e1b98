import Derived.Test.Qxb6605658aCopy
import Derived.Test.Qxb6605658aSl2
namespace Go.Proofs.Qxb6605658a
open Go.ChangeShapes Go.WideShapes Go.ChangeAt Go.RowKit

set_option maxHeartbeats 2000000 in
theorem five_some (x y : Addr) (c0 c1 : Nat) (ss vs : List ByteArray) (s : ByteArray) (w : World) (hl : vs.length = ss.length) (v0 : View w (some x) ss) (v1 : View w (some y) vs) (h0 : ss.length ≤ 65536) (hs : s.size ≤ 1048576) :
    Calls Try.prog 5 #[.slice (some x) ss.length c0, .slice (some y) ss.length c1, .string s] w fun e w' => e = .returned (.bool true) ∧ Below w.heap.size w w' := by
  have B12 : Hid (Calls Try.prog 12 #[.slice (some x) ss.length c0, .slice (some y) ss.length c1, .string s] w fun e w' => IsBool e ∧ w = w') := by
    have := bytes12_any (some x) (some y) c0 c1 ss vs s w v0 v1 (by unfold maxLen; omega) (by unfold maxLen; omega) (by unfold maxLen; omega)
    rw [hl] at this
    exact this
  have P13 : Hid (Calls Try.prog 13 #[.slice (some x) ss.length c0, .slice (some y) ss.length c1, .int .i64 s.size] w fun e w' => IsBool e ∧ w = w') := by
    have := pairs13_any (some x) (some y) c0 c1 ss vs s.size w v0 v1 (by omega) (by omega) (by omega) (by omega)
    rw [hl] at this
    exact this
  have nil0 := fun w => run_neq_slice_nil_any (P := Try.prog) w 24 9 (some x) ss.length c0 0 0 Try.underlying24
  have nil1 := fun w => run_neq_slice_nil_any (P := Try.prog) w 24 9 (some y) ss.length c1 0 0 Try.underlying24
  have hmk := make_str ss.length (by omega)
  obtain ⟨w1, cp1, q1, bel1, z1⟩ := copied w x c0 ss v0
  have v1' := v1.mono bel1
  obtain ⟨w2, cp2, q2, bel2, z2⟩ := copied w1 y c1 vs v1'
  rw [hl] at q2 cp2
  have H0 : (ss.length : Int) ≤ 65536 := by omega
  have HS : (s.size : Int) ≤ 1048576 := by omega
  have q1' : ∀ j, j < ss.length → w2.cell? ⟨w.heap.size, j, none⟩ = some (.string (sat ss j)) := fun j hj => (bel2.cell (p := ⟨w.heap.size, j, none⟩) (by show w.heap.size < _; omega)).trans (q1 j hj)
  have bel : Below w.heap.size w w2 := bel1.trans (bel2.mono (by omega))
  have V0 : View w2 (some ⟨w.heap.size, 0, none⟩) ss := View.own q1'
  have V1 : View w2 (some ⟨w1.heap.size, 0, none⟩) vs := View.own (by rw [hl]; exact q2)
  have Z1 : Hid (w1.heap.size = w.heap.size + 1) := z1
  have HL : Hid (vs.length = ss.length) := hl
  clear z1 z2 bel1 bel2 v1' v0 v1 q1 hl
  go_enter Try.func5, Try.ntmps5
  go_wp2_with fail
  refine B12.out.mono ?_
  rintro e w' ⟨⟨v, rfl⟩, rfl⟩
  cases v
  · go_wp2
    go_ret
    exact ⟨rfl, Below.refl _ _⟩
  go_wp2_with fail
  refine P13.out.mono ?_
  rintro e w' ⟨⟨v, rfl⟩, rfl⟩
  cases v
  · go_wp2_with fail
    clear cp1 cp2 hmk nil0 nil1
    obtain ⟨F, hF⟩ : ∃ F : Nat → ByteArray × Bool, F = fwd ss vs s := ⟨_, rfl⟩
    have F0 : F 0 = (⟨#[]⟩, false) := by rw [hF]; rfl
    have FS : Hid (∀ k, F (k + 1) = if hit ss s k then (sat vs k, true) else F k) := by rw [hF]; exact fun k => rfl
    have HF : Hid (F = fwd ss vs s) := hF
    clear hF
    go_loop [9, 10, 11] (fun v b i => ∃ k : Nat, k ≤ ss.length ∧ i = .int .i64 k ∧ v = .string (F k).1 ∧ b = .bool (F k).2) (fun _ _ i => ss.length - (intOf i).toNat)
    case atStart => exact ⟨0, Nat.zero_le _, rfl, by rw [F0], by rw [F0]⟩
    case round =>
      clear F0
      obtain ⟨k, hk, rfl, rfl, rfl⟩ := hrel
      by_cases hlt : k < ss.length
      · have r1 := q1' k hlt
        have r2 := q2 k hlt
        by_cases he : ((sat ss k).toList == s.toList) = true
        · have HE : Hid (hit ss s k = true) := he
          go_wp2
          go_round
          case rel => exact ⟨k + 1, by omega, by go_num, by rw [FS.out k, if_pos HE.out], by rw [FS.out k, if_pos HE.out]⟩
          case measure => simp [intOf]; omega
        · have HE : Hid (¬ hit ss s k = true) := he
          have he' : ((sat ss k).toList == s.toList) = false := by simpa using he
          clear he
          go_wp2
          go_round
          case rel => exact ⟨k + 1, by omega, by go_num, by rw [FS.out k, if_neg HE.out], by rw [FS.out k, if_neg HE.out]⟩
          case measure => simp [intOf]; omega
      · obtain rfl : k = ss.length := by omega
        have M : Hid (Calls Try.prog 15 #[.slice (some ⟨w.heap.size, 0, none⟩) ss.length ss.length, .slice (some ⟨w1.heap.size, 0, none⟩) ss.length ss.length] w2 fun e w' => e = .returned (.slice (some ⟨w2.heap.size, 0, none⟩) ss.length ss.length) ∧ MView w' (some ⟨w2.heap.size, 0, none⟩) ss vs ∧ Below w2.heap.size w2 w') := by
          have := members_some ⟨w.heap.size, 0, none⟩ (some ⟨w1.heap.size, 0, none⟩) ss.length ss.length ss vs w2 HL.out V0 V1 (by omega)
          rw [HL.out] at this
          exact this
        clear V0 V1 q1' q2
        go_wp2_with fail
        refine M.out.mono ?_
        rintro e w3 ⟨rfl, mv, bel3⟩
        go_wp2_with fail
        refine (zzLookup_any _ _ ss vs s _ mv (by unfold maxLen; omega)).mono ?_
        rintro e w' ⟨rfl, rfl⟩
        rw [← HF.out]
        have bel' := bel.trans (bel3.mono (bel.size))
        clear bel3 bel mv
        go_wp2
        go_ret
        exact ⟨rfl, bel'⟩
  · go_wp2
    go_ret
    exact ⟨rfl, Below.refl _ _⟩
end Go.Proofs.Qxb6605658a
