import Derived.Test.Qxb6605627aTrans
namespace Go.Proofs.Qxb6605627a
open Go.ChangeShapes Go.WideShapes Go.ChangeAt Go.RowKit

/-- All that the loop reads. -/
structure Ready (w wr : World) (T N H tc ts nc ns hc hs : Nat) (C S : List ByteArray) : Prop where
  t : wr.heap[T]? = some (.cells #[.map (some tc), .map (some ts)] 24 (0, 0))
  n : wr.heap[N]? = some (.cells #[.map (some nc), .map (some ns)] 24 (0, 0))
  h : wr.heap[H]? = some (.cells #[.map (some hc), .map (some hs)] 24 (0, 0))
  mC : SetMap wr tc C
  mS : SetMap wr ts S
  mNC : SetMap wr nc [nNat]
  mNS : SetMap wr ns [nEx]
  mHC : SetMap wr hc [nHP, nPre, nOut, nHair]
  mHS : SetMap wr hs []
  below : Below w.heap.size w wr

theorem name10_0 (w : World) : Calls Try.prog 10 #[.int .i64 0] w fun e w' => e = .returned (.string nNat) ∧ w = w' := by
  go_enter Try.func10, Try.ntmps10
  go_wp2
  go_ret
  exact ⟨rfl, rfl⟩
theorem name10_1 (w : World) : Calls Try.prog 10 #[.int .i64 1] w fun e w' => e = .returned (.string nEx) ∧ w = w' := by
  go_enter Try.func10, Try.ntmps10
  go_wp2
  go_ret
  exact ⟨rfl, rfl⟩
theorem name10_2 (w : World) : Calls Try.prog 10 #[.int .i64 2] w fun e w' => e = .returned (.string nHP) ∧ w = w' := by
  go_enter Try.func10, Try.ntmps10
  go_wp2
  go_ret
  exact ⟨rfl, rfl⟩
theorem name10_3 (w : World) : Calls Try.prog 10 #[.int .i64 3] w fun e w' => e = .returned (.string nPre) ∧ w = w' := by
  go_enter Try.func10, Try.ntmps10
  go_wp2
  go_ret
  exact ⟨rfl, rfl⟩
theorem name10_4 (w : World) : Calls Try.prog 10 #[.int .i64 4] w fun e w' => e = .returned (.string nOut) ∧ w = w' := by
  go_enter Try.func10, Try.ntmps10
  go_wp2
  go_ret
  exact ⟨rfl, rfl⟩
theorem name10_5 (w : World) : Calls Try.prog 10 #[.int .i64 5] w fun e w' => e = .returned (.string nHair) ∧ w = w' := by
  go_enter Try.func10, Try.ntmps10
  go_wp2
  go_ret
  exact ⟨rfl, rfl⟩
theorem name10_6 (w : World) : Calls Try.prog 10 #[.int .i64 6] w fun e w' => e = .returned (.string nVx) ∧ w = w' := by
  go_enter Try.func10, Try.ntmps10
  go_wp2
  go_ret
  exact ⟨rfl, rfl⟩
theorem name10_7 (w : World) : Calls Try.prog 10 #[.int .i64 7] w fun e w' => e = .returned (.string nNo) ∧ w = w' := by
  go_enter Try.func10, Try.ntmps10
  go_wp2
  go_ret
  exact ⟨rfl, rfl⟩

theorem cell2_0 {w : World} {b : Nat} {x y : Value} (h : w.heap[b]? = some (.cells #[x, y] 24 (0, 0))) : w.cell? ⟨b, 0, none⟩ = some x := by rw [cell_of_row w b 0 _ 24 (0, 0) h]; rfl
theorem cell2_1 {w : World} {b : Nat} {x y : Value} (h : w.heap[b]? = some (.cells #[x, y] 24 (0, 0))) : w.cell? ⟨b, 1, none⟩ = some y := by rw [cell_of_row w b 1 _ 24 (0, 0) h]; rfl

set_option maxHeartbeats 4000000 in
theorem walk (w : World) : Calls Try.prog 3 #[] w fun e w' => e = .returned (.bool true) ∧ Below w.heap.size w w' := by
  go_enter Try.func3, Try.ntmps3
  go_wp2_with fail
  refine (trans6 _).mono ?_
  rintro e w1 ⟨C, S, ⟨tc, ts, rfl, mC, mS, _, _, _, bel1⟩, iC, iS⟩
  go_wp2_with fail
  refine (exact7 tc ts C S _ (mC.alloc _) (mS.alloc _) iC iS).mono ?_
  rintro e w2 ⟨rfl, rfl⟩
  go_wp2_with fail
  refine (nat8 _).mono ?_
  rintro e w3 ⟨nc, ns, rfl, mNC, mNS, _, _, _, bel3⟩
  go_wp2_with fail
  refine (host9 _).mono ?_
  rintro e w4 ⟨hc, hs, rfl, mHC, mHS, _, _, _, bel4⟩
  have z3 : w1.heap.size + 1 + 1 ≤ w3.heap.size := by have := bel3.size; simpa using this
  have z4 : w3.heap.size + 1 ≤ w4.heap.size := by have := bel4.size; simpa using this
  have z1 := bel1.size
  have R : Ready w (w4.alloc (.cells #[.map (some hc), .map (some hs)] 24)) w1.heap.size w3.heap.size w4.heap.size tc ts nc ns hc hs C S := by
    have a1 := ((mC.alloc (.cells #[.map (some tc), .map (some ts)] 24)).alloc (.cells #[.map (some tc), .map (some ts)] 24)).below bel3
    have a2 := ((mS.alloc (.cells #[.map (some tc), .map (some ts)] 24)).alloc (.cells #[.map (some tc), .map (some ts)] 24)).below bel3
    refine ⟨?_, ?_, heap_alloc_new w4 _, ((a1.alloc _).below bel4).alloc _, ((a2.alloc _).below bel4).alloc _, ((mNC.alloc _).below bel4).alloc _, ((mNS.alloc _).below bel4).alloc _, mHC.alloc _, mHS.alloc _, ?_⟩
    · rw [Below.heap_alloc _ _ _ (by omega), bel4.block _ (by simp; omega), Below.heap_alloc _ _ _ (by omega), bel3.block _ (by simp only [World.size_alloc]; omega), Below.heap_alloc _ _ _ (by simp only [World.size_alloc]; omega)]
      exact heap_alloc_new w1 _
    · rw [Below.heap_alloc _ _ _ (by omega), bel4.block _ (by simp)]
      exact heap_alloc_new w3 _
    · exact ((((((bel1.alloc (by omega) _).alloc (by simp; omega) _).trans (bel3.mono (by simp; omega))).alloc (by omega) _).trans (bel4.mono (by simp; omega))).alloc (by omega) _)
  clear mC mS mNC mNS mHC mHS bel1 bel3 bel4
  go_wp2_with fail
  go_loopw [4] (fun i wr => ∃ k : Nat, k ≤ 8 ∧ i = .int .i64 k ∧ Ready w wr w1.heap.size w3.heap.size w4.heap.size tc ts nc ns hc hs C S) (fun i _ => 8 - (intOf i).toNat)
  case atStart => exact ⟨0, by omega, rfl, R⟩
  case round =>
    clear R
    obtain ⟨k, hk, rfl, R⟩ := hrel
    have t0 := cell2_0 R.t
    have t1 := cell2_1 R.t
    have n0 := cell2_0 R.n
    have n1 := cell2_1 R.n
    have h0 := cell2_0 R.h
    have h1 := cell2_1 R.h
    have hk9 : k = 0 ∨ k = 1 ∨ k = 2 ∨ k = 3 ∨ k = 4 ∨ k = 5 ∨ k = 6 ∨ k = 7 ∨ k = 8 := by omega
    rcases hk9 with rfl | rfl | rfl | rfl | rfl | rfl | rfl | rfl | rfl
    · have q1 := look_as R.mC iC nNat (v := true) rfl
      have q2 := look_as R.mS iS nNat (v := false) rfl
      have q3 := look_as R.mNC (fun _ => Iff.rfl) nNat (v := true) rfl
      have q4 := look_as R.mNS (fun _ => Iff.rfl) nNat (v := false) rfl
      have q5 := look_as R.mHC (fun _ => Iff.rfl) nNat (v := false) rfl
      have q6 := look_as R.mHS (fun _ => Iff.rfl) nNat (v := false) rfl
      go_wp2_with (go_at_call 10; refine (name10_0 _).mono ?_; rintro e w' ⟨rfl, rfl⟩)
      go_roundw
      case rel => exact ⟨1, by omega, rfl, R⟩
      case measure => simp [intOf]
    · have q1 := look_as R.mC iC nEx (v := false) rfl
      have q2 := look_as R.mS iS nEx (v := true) rfl
      have q3 := look_as R.mNC (fun _ => Iff.rfl) nEx (v := false) rfl
      have q4 := look_as R.mNS (fun _ => Iff.rfl) nEx (v := true) rfl
      have q5 := look_as R.mHC (fun _ => Iff.rfl) nEx (v := false) rfl
      have q6 := look_as R.mHS (fun _ => Iff.rfl) nEx (v := false) rfl
      go_wp2_with (go_at_call 10; refine (name10_1 _).mono ?_; rintro e w' ⟨rfl, rfl⟩)
      go_roundw
      case rel => exact ⟨2, by omega, rfl, R⟩
      case measure => simp [intOf]
    · have q1 := look_as R.mC iC nHP (v := true) rfl
      have q2 := look_as R.mS iS nHP (v := false) rfl
      have q3 := look_as R.mNC (fun _ => Iff.rfl) nHP (v := false) rfl
      have q4 := look_as R.mNS (fun _ => Iff.rfl) nHP (v := false) rfl
      have q5 := look_as R.mHC (fun _ => Iff.rfl) nHP (v := true) rfl
      have q6 := look_as R.mHS (fun _ => Iff.rfl) nHP (v := false) rfl
      go_wp2_with (go_at_call 10; refine (name10_2 _).mono ?_; rintro e w' ⟨rfl, rfl⟩)
      go_roundw
      case rel => exact ⟨3, by omega, rfl, R⟩
      case measure => simp [intOf]
    · have q1 := look_as R.mC iC nPre (v := true) rfl
      have q2 := look_as R.mS iS nPre (v := false) rfl
      have q3 := look_as R.mNC (fun _ => Iff.rfl) nPre (v := false) rfl
      have q4 := look_as R.mNS (fun _ => Iff.rfl) nPre (v := false) rfl
      have q5 := look_as R.mHC (fun _ => Iff.rfl) nPre (v := true) rfl
      have q6 := look_as R.mHS (fun _ => Iff.rfl) nPre (v := false) rfl
      go_wp2_with (go_at_call 10; refine (name10_3 _).mono ?_; rintro e w' ⟨rfl, rfl⟩)
      go_roundw
      case rel => exact ⟨4, by omega, rfl, R⟩
      case measure => simp [intOf]
    · have q1 := look_as R.mC iC nOut (v := true) rfl
      have q2 := look_as R.mS iS nOut (v := false) rfl
      have q3 := look_as R.mNC (fun _ => Iff.rfl) nOut (v := false) rfl
      have q4 := look_as R.mNS (fun _ => Iff.rfl) nOut (v := false) rfl
      have q5 := look_as R.mHC (fun _ => Iff.rfl) nOut (v := true) rfl
      have q6 := look_as R.mHS (fun _ => Iff.rfl) nOut (v := false) rfl
      go_wp2_with (go_at_call 10; refine (name10_4 _).mono ?_; rintro e w' ⟨rfl, rfl⟩)
      go_roundw
      case rel => exact ⟨5, by omega, rfl, R⟩
      case measure => simp [intOf]
    · have q1 := look_as R.mC iC nHair (v := true) rfl
      have q2 := look_as R.mS iS nHair (v := false) rfl
      have q3 := look_as R.mNC (fun _ => Iff.rfl) nHair (v := false) rfl
      have q4 := look_as R.mNS (fun _ => Iff.rfl) nHair (v := false) rfl
      have q5 := look_as R.mHC (fun _ => Iff.rfl) nHair (v := true) rfl
      have q6 := look_as R.mHS (fun _ => Iff.rfl) nHair (v := false) rfl
      go_wp2_with (go_at_call 10; refine (name10_5 _).mono ?_; rintro e w' ⟨rfl, rfl⟩)
      go_roundw
      case rel => exact ⟨6, by omega, rfl, R⟩
      case measure => simp [intOf]
    · have q1 := look_as R.mC iC nVx (v := false) rfl
      have q2 := look_as R.mS iS nVx (v := false) rfl
      have q3 := look_as R.mNC (fun _ => Iff.rfl) nVx (v := false) rfl
      have q4 := look_as R.mNS (fun _ => Iff.rfl) nVx (v := false) rfl
      have q5 := look_as R.mHC (fun _ => Iff.rfl) nVx (v := false) rfl
      have q6 := look_as R.mHS (fun _ => Iff.rfl) nVx (v := false) rfl
      go_wp2_with (go_at_call 10; refine (name10_6 _).mono ?_; rintro e w' ⟨rfl, rfl⟩)
      go_roundw
      case rel => exact ⟨7, by omega, rfl, R⟩
      case measure => simp [intOf]
    · have q1 := look_as R.mC iC nNo (v := false) rfl
      have q2 := look_as R.mS iS nNo (v := false) rfl
      have q3 := look_as R.mNC (fun _ => Iff.rfl) nNo (v := false) rfl
      have q4 := look_as R.mNS (fun _ => Iff.rfl) nNo (v := false) rfl
      have q5 := look_as R.mHC (fun _ => Iff.rfl) nNo (v := false) rfl
      have q6 := look_as R.mHS (fun _ => Iff.rfl) nNo (v := false) rfl
      go_wp2_with (go_at_call 10; refine (name10_7 _).mono ?_; rintro e w' ⟨rfl, rfl⟩)
      go_roundw
      case rel => exact ⟨8, by omega, rfl, R⟩
      case measure => simp [intOf]
    · go_wp2
      go_ret
      exact ⟨rfl, R.below⟩
end Go.Proofs.Qxb6605627a
