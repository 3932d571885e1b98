import Derived.Test.Qxb6605628aRFill
import Derived.LaidEqlPtr
namespace Go.Proofs.Qxb6605628aR.Win
open Go.ChangeShapes Go.WideShapes Go.ChangeAt Go.RowKit

theorem NewWin.c2 {w W : World} {p h4 h c : Nat} (n : NewWin w W p h4 h c) : W.cell? ⟨p, 2, none⟩ = some (.slice (some ⟨h4, 0, none⟩) 262144 262144) := by
  obtain ⟨b, hb⟩ := n.win
  rw [cell_of_row W p 2 _ 82 (0, 0) hb]; rfl
theorem NewWin.c3 {w W : World} {p h4 h c : Nat} (n : NewWin w W p h4 h c) : W.cell? ⟨p, 3, none⟩ = some (.slice (some ⟨h, 0, none⟩) 8388608 8388608) := by
  obtain ⟨b, hb⟩ := n.win
  rw [cell_of_row W p 3 _ 82 (0, 0) hb]; rfl
theorem NewWin.c4 {w W : World} {p h4 h c : Nat} (n : NewWin w W p h4 h c) : W.cell? ⟨p, 4, none⟩ = some (.slice (some ⟨c, 0, none⟩) 8388608 8388608) := by
  obtain ⟨b, hb⟩ := n.win
  rw [cell_of_row W p 4 _ 82 (0, 0) hb]; rfl

theorem info82 : (Try.prog.info? 82).map (fun i => i.size) = some 7 := by kernel_rfl
theorem NewWin.blk {w W : World} {p h4 h c : Nat} (n : NewWin w W p h4 h c) : ∃ cs, W.heap[p]? = some (.cells cs 82 (0, 0)) := by
  obtain ⟨b, hb⟩ := n.win
  exact ⟨_, hb⟩
theorem ptr_other (w : World) (pa pb : Nat) (hne : pa ≠ pb) (ha : ∃ cs, w.heap[pa]? = some (.cells cs 82 (0, 0))) (hb : ∃ cs, w.heap[pb]? = some (.cells cs 82 (0, 0))) :
    (binOp .eql 47 (.pointer (some ⟨pa, 0, none⟩)) (.pointer (some ⟨pb, 0, none⟩))).run Try.prog w = .ok (.bool false) w := by
  obtain ⟨j, hj, hs⟩ := Option.map_eq_some_iff.1 info82
  obtain ⟨ca, ha⟩ := ha
  obtain ⟨cb, hb⟩ := hb
  refine run_eql_ptr_other w Try.underlying47 hj (by rw [hs]; decide) ?_ ha hb
  intro h
  exact hne (congrArg Addr.block h)

/-- The measure of a loop over a table (a great numeral behind a name). -/
def left (n : Nat) (i : Value) : Nat := n - (intOf i).toNat
theorem left_lt (n k : Nat) (h : k < n) : left n (.int .i64 ((k : Int) + 1)) < left n (.int .i64 (k : Int)) := by
  show n - _ < n - _
  simp only [intOf]
  omega
theorem left_ltN (n k : Nat) (h : k < n) : left n (.int .i64 ((k + 1 : Nat) : Int)) < left n (.int .i64 (k : Int)) := by
  show n - _ < n - _
  simp only [intOf]
  omega

set_option maxHeartbeats 1000000 in
theorem walk (w : World) :
    Calls Try.prog 5 #[] w fun e w' => e = .returned (.bool true) ∧ Below w.heap.size w w' := by
  go_enter Try.func5, Try.ntmps5
  go_wp2_with fail
  refine (zznewWindow_any _).mono ?_
  rintro e w1 ⟨pa, a4, a3, ac, rfl, hA⟩
  go_wp2_with fail
  refine (zznewWindow_any _).mono ?_
  rintro e w2 ⟨pb, b4, b3, bc, rfl, hB⟩
  have lA := hA.lt
  have lB := hB.le
  have gA := hA.le
  have nA := hA.ne
  have nB := hB.ne
  have hptr := ptr_other w2 pa pb (by omega) (by obtain ⟨cs, h⟩ := hA.blk; exact ⟨cs, (hB.below.block _ lA.1).trans h⟩) hB.blk
  have cA2 : w2.cell? ⟨pa, 2, none⟩ = _ := (hB.below.cell (p := ⟨pa, 2, none⟩) lA.1).trans hA.c2
  have cA3 : w2.cell? ⟨pa, 3, none⟩ = _ := (hB.below.cell (p := ⟨pa, 3, none⟩) lA.1).trans hA.c3
  have cA4 : w2.cell? ⟨pa, 4, none⟩ = _ := (hB.below.cell (p := ⟨pa, 4, none⟩) lA.1).trans hA.c4
  have cB2 := hB.c2
  have cB3 := hB.c3
  have cB4 := hB.c4
  have tA4 : Tab w2 a4 262144 262144 0 := Tab.made ((hB.below.block _ lA.2.1).trans hA.t4)
  have tA3 : Tab w2 a3 8388608 8388608 0 := Tab.made ((hB.below.block _ lA.2.2.1).trans hA.th)
  have tAc : Tab w2 ac 8388608 8388608 0 := Tab.made ((hB.below.block _ lA.2.2.2).trans hA.tc)
  have tB4 : Tab w2 b4 262144 262144 0 := Tab.made hB.t4
  have tB3 : Tab w2 b3 8388608 8388608 0 := Tab.made hB.th
  have tBc : Tab w2 bc 8388608 8388608 0 := Tab.made hB.tc
  have bel : Below w.heap.size w w2 := hA.below.trans (hB.below.mono hA.below.size)
  have hs1 := hA.below.size
  clear hA hB
  go_wp2_with (first | (go_at_call 30; refine (head4_any _ _ _ (by assumption)).mono ?_; rintro e w' ⟨rfl, rfl⟩) | (go_at_call 31; refine (head_any _ _ _ (by assumption)).mono ?_; rintro e w' ⟨rfl, rfl⟩) | (go_at_call 32; refine (chain_any _ _ _ (by assumption)).mono ?_; rintro e w' ⟨rfl, rfl⟩))
  clear hptr cB2 cB3 cB4
  go_loopw [9] (fun i wr => ∃ k : Nat, k ≤ 262144 ∧ i = .int .i64 k ∧ Tab wr a4 262144 k 1 ∧ But w2 wr a4) (fun i _ => left 262144 i)
  case atStart => exact ⟨0, Nat.zero_le _, rfl, tA4.start 1, But.refl _ _⟩
  case round =>
    obtain ⟨k, hk, rfl, hT, hBt⟩ := hrel
    by_cases hlt : k < 262144
    · obtain ⟨z, hz⟩ := hT.ex k hlt
      have hf := hT.frozen k
      have hi : (k : Int) < 262144 := by omega
      go_wp2
      go_roundw
      case rel => exact ⟨k + 1, by omega, by go_num, hT.step hlt, hBt.setCell _ _⟩
      case measure => exact left_lt _ _ hlt
    · obtain rfl : k = 262144 := by omega
      rename World => w3
      have uA4 := hT
      have tA3 := hBt.tab (by omega) tA3
      have tAc := hBt.tab (by omega) tAc
      have tB4 := hBt.tab (by omega) tB4
      have tB3 := hBt.tab (by omega) tB3
      have tBc := hBt.tab (by omega) tBc
      have cA2 := (hBt.cell pa 2 (by omega)).trans cA2
      have cA3 := (hBt.cell pa 3 (by omega)).trans cA3
      have cA4 := (hBt.cell pa 4 (by omega)).trans cA4
      have bel := bel.trans (hBt.below (B := w.heap.size) (by omega))
      clear hT hBt
      go_wp2
      go_loopw [10] (fun i wr => ∃ k : Nat, k ≤ 8388608 ∧ i = .int .i64 k ∧ Tab wr a3 8388608 k 2 ∧ But w3 wr a3) (fun i _ => left 8388608 i)
      case atStart => exact ⟨0, Nat.zero_le _, rfl, tA3.start 2, But.refl _ _⟩
      case round =>
        obtain ⟨k, hk, rfl, hT, hBt⟩ := hrel
        by_cases hlt : k < 8388608
        · obtain ⟨z, hz⟩ := hT.ex k hlt
          have hf := hT.frozen k
          have hi : (k : Int) < 8388608 := by omega
          go_wp2
          go_roundw
          case rel => exact ⟨k + 1, by omega, by go_num, hT.step hlt, hBt.setCell _ _⟩
          case measure => exact left_lt _ _ hlt
        · obtain rfl : k = 8388608 := by omega
          rename World => w4
          have uA3 := hT
          have uA4 := hBt.tab (by omega) uA4
          have tAc := hBt.tab (by omega) tAc
          have tB4 := hBt.tab (by omega) tB4
          have tB3 := hBt.tab (by omega) tB3
          have tBc := hBt.tab (by omega) tBc
          have cA2 := (hBt.cell pa 2 (by omega)).trans cA2
          have cA3 := (hBt.cell pa 3 (by omega)).trans cA3
          have cA4 := (hBt.cell pa 4 (by omega)).trans cA4
          have bel := bel.trans (hBt.below (B := w.heap.size) (by omega))
          clear hT hBt
          go_wp2
          go_loopw [11] (fun i wr => ∃ k : Nat, k ≤ 8388608 ∧ i = .int .i64 k ∧ Tab wr ac 8388608 k 3 ∧ But w4 wr ac) (fun i _ => left 8388608 i)
          case atStart => exact ⟨0, Nat.zero_le _, rfl, tAc.start 3, But.refl _ _⟩
          case round =>
            obtain ⟨k, hk, rfl, hT, hBt⟩ := hrel
            by_cases hlt : k < 8388608
            · obtain ⟨z, hz⟩ := hT.ex k hlt
              have hf := hT.frozen k
              have hi : (k : Int) < 8388608 := by omega
              go_wp2
              go_roundw
              case rel => exact ⟨k + 1, by omega, by go_num, hT.step hlt, hBt.setCell _ _⟩
              case measure => exact left_lt _ _ hlt
            · obtain rfl : k = 8388608 := by omega
              rename World => w5
              have uAc := hT
              have uA4 := hBt.tab (by omega) uA4
              have uA3 := hBt.tab (by omega) uA3
              have tB4 := hBt.tab (by omega) tB4
              have tB3 := hBt.tab (by omega) tB3
              have tBc := hBt.tab (by omega) tBc
              have cA2 := (hBt.cell pa 2 (by omega)).trans cA2
              have cA3 := (hBt.cell pa 3 (by omega)).trans cA3
              have cA4 := (hBt.cell pa 4 (by omega)).trans cA4
              have bel := bel.trans (hBt.below (B := w.heap.size) (by omega))
              clear hT hBt
              go_wp2_with (first | (go_at_call 30; refine (head4_any _ _ _ (by assumption)).mono ?_; rintro e w' ⟨rfl, rfl⟩) | (go_at_call 31; refine (head_any _ _ _ (by assumption)).mono ?_; rintro e w' ⟨rfl, rfl⟩) | (go_at_call 32; refine (chain_any _ _ _ (by assumption)).mono ?_; rintro e w' ⟨rfl, rfl⟩))
              go_loop [15] (fun i => ∃ k : Nat, k ≤ 262144 ∧ i = .int .i64 k) (fun i => left 262144 i)
              case atStart => exact ⟨0, Nat.zero_le _, rfl⟩
              case round =>
                obtain ⟨k, hk, rfl⟩ := hrel
                by_cases hlt : k < 262144
                · have h1 := uA4.val k hlt
                  have h2 := tB4.val k hlt
                  have hi : (k : Int) < 262144 := by omega
                  go_wp2
                  go_round
                  case rel => exact ⟨k + 1, by omega, by go_num⟩
                  case measure => exact left_lt _ _ hlt
                · obtain rfl : k = 262144 := by omega
                  go_wp2
                  go_loop [16] (fun i => ∃ k : Nat, k ≤ 8388608 ∧ i = .int .i64 k) (fun i => left 8388608 i)
                  case atStart => exact ⟨0, Nat.zero_le _, rfl⟩
                  case round =>
                    obtain ⟨k, hk, rfl⟩ := hrel
                    by_cases hlt : k < 8388608
                    · have h1 := uA3.val k hlt
                      have h2 := tB3.val k hlt
                      have hi : (k : Int) < 8388608 := by omega
                      go_wp2
                      go_round
                      case rel => exact ⟨k + 1, by omega, by go_num⟩
                      case measure => exact left_lt _ _ hlt
                    · obtain rfl : k = 8388608 := by omega
                      go_wp2
                      go_loop [17] (fun i => ∃ k : Nat, k ≤ 8388608 ∧ i = .int .i64 k) (fun i => left 8388608 i)
                      case atStart => exact ⟨0, Nat.zero_le _, rfl⟩
                      case round =>
                        obtain ⟨k, hk, rfl⟩ := hrel
                        by_cases hlt : k < 8388608
                        · have h1 := uAc.val k hlt
                          have h2 := tBc.val k hlt
                          have hi : (k : Int) < 8388608 := by omega
                          go_wp2
                          go_round
                          case rel => exact ⟨k + 1, by omega, by go_num⟩
                          case measure => exact left_lt _ _ hlt
                        · obtain rfl : k = 8388608 := by omega
                          go_wp2
                          go_ret
                          exact ⟨rfl, bel⟩
end Go.Proofs.Qxb6605628aR.Win
