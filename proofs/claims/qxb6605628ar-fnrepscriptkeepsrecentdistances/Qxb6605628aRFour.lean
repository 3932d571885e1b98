import Derived.Test.Qxb6605628aRSeat
namespace Go.Proofs.Qxb6605628aR.Lz
open Go.ChangeShapes Go.WideShapes Go.ChangeAt Go.RowKit
set_option linter.unusedVariables false

set_option maxRecDepth 20000 in
set_option maxHeartbeats 8000000 in
theorem four_main (w : World) (st : Nat) (hst : st < 12) (a : Nat → Int) (p : Option Addr) (len cap : Nat) (I L S : Nat → Int) (hC : Cls w p len I L S) (hlen : (len : Int) ≤ 4096) :
    Calls Try.prog 4 #[.int .u32 (st : Int), .agg #[.int .u32 (a 0), .int .u32 (a 1), .int .u32 (a 2), .int .u32 (a 3)], .slice p len cap] w fun e w' => e = .returned (.bool true) ∧ Below w.heap.size w w' := by
  have hsi : (st : Int) < 12 := by omega
  go_enter Try.func4, Try.ntmps4
  go_wp2_with (go_at_call 26; refine (f26_yes _ _ _ _ _ _ _ _ _ (by omega)).mono ?_; rintro e w1 ⟨rfl, b1⟩)
  have A1 : Arr w1 w.heap.size a := (Arr.mk (heap_alloc_new _ _) : Arr (w.alloc (.cells #[.int .u32 (a 0), .int .u32 (a 1), .int .u32 (a 2), .int .u32 (a 3)] 23)) w.heap.size a).older b1
  have B1 : Below w.heap.size w w1 := ((Below.refl _ _).alloc (Nat.le_refl _) _).trans (b1.mono (by simp))
  have Z1 := A1.lt
  clear b1
  go_loopw [7] (fun k wr => ∃ n : Nat, n ≤ len ∧ k = .int .i64 n ∧ wr = w1 ∧ Hid (∀ j, j < n → I j < 4 ∧ S j < 16)) (fun k _ => len - (intOf k).toNat)
  case atStart => exact ⟨0, Nat.zero_le _, rfl, rfl, fun j hj => absurd hj (Nat.not_lt_zero _)⟩
  case round =>
    obtain ⟨n, hn, rfl, rfl, hA⟩ := hrel
    by_cases hlt : n < len
    · obtain ⟨b, off, rfl, d0, d1, d2⟩ := hC.get B1 hlt
      have hni : (n : Int) < len := by omega
      have hI := hC.i n hlt
      have hS := hC.s n hlt
      by_cases h4 : I n < 4
      · by_cases h16 : S n < 16
        · go_wp2
          go_roundw
          case rel => exact ⟨n + 1, by omega, by go_num, by simp, fun j hj => by
            rcases Nat.lt_succ_iff_lt_or_eq.1 hj with h | rfl
            · exact hA.out j h
            · exact ⟨h4, h16⟩⟩
          case measure => simp [intOf]; omega
        · go_wp2
          go_ret
          exact ⟨rfl, B1⟩
      · go_wp2
        go_ret
        exact ⟨rfl, B1⟩
    · have hA' : Hid (∀ j, j < len → I j < 4 ∧ S j < 16) := fun j hj => hA.out j (by omega)
      have c0 := A1.c0
      have c1 := A1.c1
      have c2 := A1.c2
      have c3 := A1.c3
      clear hA
      go_wp2_with fail
      refine (new9 wr st (a 0) (a 1) (a 2) (a 3)).mono ?_
      rintro e w2 ⟨P, g, rfl, hP, g0, g1, g2, g3, g4, gp, P1, P2, b2, P3⟩
      have CD : Cd g (st : Int) a := ⟨fun j h5 h6 => ⟨1024, gp j h5 h6, by omega, by omega⟩, g0, g1, g2, g3, g4⟩
      have A2 := A1.older b2
      have B2 := B1.trans (b2.mono (Nat.le_of_lt Z1))
      have Z2 := b2.size
      clear g0 g1 g2 g3 g4 gp b2 c0 c1 c2 c3
      go_wp2_with fail
      refine (new10 w2 0 0 0 0 none 0 0).mono ?_
      rintro e w3 ⟨rfl, k1, b3, s3⟩
      have A3 := A2.older b3
      have B3 := B2.trans (b3.mono (by omega))
      have hP3 := hP.older b3
      clear b3
      generalize hq : w2.heap.size = q at *
      go_wp2_with fail
      refine (reset27 w3 q 0 0 0 0 k1).mono ?_
      rintro e w4 ⟨rfl, k2, o4⟩
      obtain ⟨B, hB⟩ : ∃ B, B = wr.heap.size := ⟨_, rfl⟩
      have ap : Apart q P B := ⟨by omega, by omega, by omega⟩
      have hP4 : Cod w4 P g := by
        obtain ⟨cur, h1, r⟩ := hP3
        exact ⟨cur, (o4.block P ap.ne).trans h1, r⟩
      have A4 : Arr w4 w.heap.size a := ⟨(o4.block _ (by omega)).trans A3.blk⟩
      have B4 : Below w.heap.size w w4 := B3.trans (o4.below (by omega))
      have S4 : St w4 w4 q P B 1 0 4294967295 0 1 [] g := ⟨0, 4294967295, 0, 1, .slice none 0 0, [], ⟨by omega, by omega, by omega, by omega, by omega, by omega, by omega, by simp, by omega⟩, Ext.refl _ _ _ _ _, ⟨k2, rfl, .inl ⟨rfl, rfl⟩⟩, hP4, Frm.refl _ _ _ _⟩
      have Z4 := o4.size
      have Zw : w.heap.size ≤ B := by omega
      have hQ4 : q < w4.heap.size := by omega
      have hPq : P < q := by omega
      clear hP hP3 hP4 k1 k2 o4 A1 A2 A3 B2 B3 P2 P3 Z4 s3 hB hn hlt
      have c0 := A4.c0
      have c1 := A4.c1
      have c2 := A4.c2
      have c3 := A4.c3
      go_wp2
      clear c0 c1 c2 c3
      have S5 := S4.older ap ((Below.refl _ _).alloc (Nat.le_refl _) (.cells #[.int .u32 (a 0), .int .u32 (a 1), .int .u32 (a 2), .int .u32 (a 3)] 23))
      have A5 : Arr (w4.alloc (.cells #[.int .u32 (a 0), .int .u32 (a 1), .int .u32 (a 2), .int .u32 (a 3)] 23)) w4.heap.size a := ⟨heap_alloc_new _ _⟩
      generalize hM : w4.heap.size = M at *
      go_loopw [11, 12] (fun pl k wr => ∃ (n : Nat) (l : Int), n ≤ len ∧ pl = .int .i64 l ∧ k = .int .i64 n ∧ Scr w4 wr q P B M st n l) (fun _ k _ => len - (intOf k).toNat)
      case atStart => exact ⟨0, 0, Nat.zero_le _, rfl, rfl, 0, 4294967295, 0, 1, [], g, a, S5, by omega, .inl ⟨rfl, rfl, by omega⟩, by simp, CD, A5⟩
      case round =>
        clear S5 A5 S4 A4 CD B1 Z1
        obtain ⟨k, l, hk, rfl, rfl, low, rng, cache, cs, out, g, a, hS, hcs, hZ, hl, hCD, hA⟩ := hrel
        have bw : Below w.heap.size w wr := B4.trans (hS.frm.below.mono Zw)
        by_cases hlt : k < len
        · obtain ⟨b, off, rfl, d0, d1, d2⟩ := hC.get bw hlt
          have hki : (k : Int) < len := by omega
          have hL := hC.l k hlt
          have hIS := hA'.out k hlt
          have hI := hC.i k hlt
          have hS' := hC.s k hlt
          obtain ⟨ps, hps⟩ := Int.eq_ofNat_of_zero_le hS'.1
          rw [hps] at d2 hIS
          have hMr := hA.lt
          have hps16 : ps < 16 := by omega
          have hE : 1 + 20 * (k : Int) ≤ 137438953472 := by omega
          rcases (by omega : I k = 0 ∨ I k = 1 ∨ I k = 2 ∨ I k = 3) with hi | hi | hi | hi
          · rw [hi] at d0
            clear hi hIS hI
            go_wp2_with fail
            refine (rep11 w4 _ q P B _ low rng cache cs out g (hS.older ap ((Below.refl _ _).alloc (Nat.le_refl _) _)) ap hE (stAt st k) ps 0 (stAt_lt hst k) (by omega) (by omega) a hCD (L k) hL.1 hL.2).mono ?_
            rintro e w6 ⟨rfl, g6, S6, CD6, F6⟩
            rw [stAt_next] at CD6
            have A6 : Arr w6 M a := (hA.older ((Below.refl _ _).alloc (Nat.le_refl _) _)).frm F6 (by omega) (by omega)
            have K6 := F6.block _ _ _ (by omega) (by omega) (by decide) (heap_alloc_new wr (.cells #[.int .u32 0, .int .u32 (L k), .int .u32 (ps : Int)] 44))
            have e0 : w6.cell? ⟨wr.heap.size, 0, none⟩ = some (.int .u32 0) := by rw [cell_of_row w6 _ 0 _ 44 (0, 0) K6]; rfl
            have E0 : ∀ o, (w6.alloc o).cell? ⟨wr.heap.size, 0, none⟩ = some (.int .u32 0) := fun o => (World.cell?_alloc_lt _ _ _ (cell_lt e0)).trans e0
            have A7 : ∀ o, Arr (w6.alloc o) M a := fun o => A6.older ((Below.refl _ _).alloc (Nat.le_refl _) _)
            have c0 := fun o => (A7 o).c0
            have c1 := fun o => (A7 o).c1
            have c2 := fun o => (A7 o).c2
            have c3 := fun o => (A7 o).c3
            have f0 := fun o => (A7 o).fr 0
            have f1 := fun o => (A7 o).fr 1
            have f2 := fun o => (A7 o).fr 2
            have f3 := fun o => (A7 o).fr 3
            generalize hD : wr.heap.size = D at *
            clear K6 e0 d0 d1 d2 F6 hA hS hCD A7
            go_wp2
            refine wp_loop_rounds 5 ?_
            repeat any_goals (rw [rounds_succ]; go_wp2)
            clear E0 c0 c1 c2 c3 f0 f1 f2 f3
            have T : St w4 (((((w6.alloc (.cells #[.int .u32 (a 0), .int .u32 (a 1), .int .u32 (a 2), .int .u32 (a 3)] 23)).setCell ⟨M, 0, none⟩ (.int .u32 (a 0))).setCell ⟨M, 1, none⟩ (.int .u32 (a 1))).setCell ⟨M, 2, none⟩ (.int .u32 (a 2))).setCell ⟨M, 3, none⟩ (.int .u32 (a 3))) q P B (1 + 20 * (k : Int) + 20) low rng cache cs out g6 ∧ Arr (((((w6.alloc (.cells #[.int .u32 (a 0), .int .u32 (a 1), .int .u32 (a 2), .int .u32 (a 3)] 23)).setCell ⟨M, 0, none⟩ (.int .u32 (a 0))).setCell ⟨M, 1, none⟩ (.int .u32 (a 1))).setCell ⟨M, 2, none⟩ (.int .u32 (a 2))).setCell ⟨M, 3, none⟩ (.int .u32 (a 3))) M (mv a 0) := stored S6 A6 ap (by omega) (by omega) (by have := ap.q; omega) (by omega) _ (mv a 0)
            generalize ((((w6.alloc (.cells #[.int .u32 (a 0), .int .u32 (a 1), .int .u32 (a 2), .int .u32 (a 3)] 23)).setCell ⟨M, 0, none⟩ (.int .u32 (a 0))).setCell ⟨M, 1, none⟩ (.int .u32 (a 1))).setCell ⟨M, 2, none⟩ (.int .u32 (a 2))).setCell ⟨M, 3, none⟩ (.int .u32 (a 3)) = w7 at T ⊢
            obtain ⟨S7, A7⟩ := T
            have m0 : w7.cell? ⟨M, 0, none⟩ = some (.int .u32 (a 0)) := A7.c0
            have m1 : w7.cell? ⟨M, 1, none⟩ = some (.int .u32 (a 1)) := A7.c1
            have m2 : w7.cell? ⟨M, 2, none⟩ = some (.int .u32 (a 2)) := A7.c2
            have m3 : w7.cell? ⟨M, 3, none⟩ = some (.int .u32 (a 3)) := A7.c3
            have hq := fun w' => eq23 w' (a 0) (a 1) (a 2) (a 3)
            clear S6 A6
            go_region_held3 (fun w' => w'.cell? ⟨M, 0, none⟩ = some (.int .u32 (a 0)) ∧ w'.cell? ⟨M, 1, none⟩ = some (.int .u32 (a 1)) ∧ w'.cell? ⟨M, 2, none⟩ = some (.int .u32 (a 2)) ∧ w'.cell? ⟨M, 3, none⟩ = some (.int .u32 (a 3))) (go_keep) ((go_at_call 12; refine (reps12x _ P g6 S7.drew.cod (a 0) (a 1) (a 2) (a 3) CD6.r0 CD6.r1 CD6.r2 CD6.r3 M _ _ _ _ m0 m1 m2 m3).mono ?_; rintro e w8 ⟨rfl, z0, z1, z2, z3, b8⟩))
            have S8 := S7.drew.older ap b8
            have A8 : Arr w8 M (mv a 0) := (Arr.mk A7.blk : Arr w7.drew M (mv a 0)).older b8
            clear S7 A7 m0 m1 m2 m3 z0 z1 z2 z3 b8
            obtain ⟨low8, rng8, cache8, cs8, v8, out8, O8, X8, E8, S9⟩ := S8.reseat
            have hr8 := O8.r0
            have hr8' := O8.r1
            have hcs8 := X8.one hcs
            have hl8 : l ≤ out8.length := by obtain ⟨t, rfl⟩ := X8.pre; simp; omega
            have hcs8' := O8.s2
            by_cases hk7 : k = 0 ∧ st < 7
            · have CD8 : Cd g6 8 (mv a 0) := by have := CD6; rwa [stAt_first hk7] at this
              have hk0 := hk7.1
              have hs7 : (st : Int) < 7 := by omega
              have E9 := E8
              obtain ⟨p8, cap8, b8', rfl, hp8, hc8, hm8, hx8⟩ := E8.shape
              clear hx8 hp8
              go_wp2_with (first | (go_at_call 13; refine (state13 _ P g6 S8.cod _ _ CD8).mono ?_; rintro e w' ⟨rfl, rfl⟩) | (go_at_call 24; refine (rng24 _ q B _ _ _ _ _ _ E9).mono ?_; rintro e w' ⟨rfl, rfl⟩) | (go_at_call 28; refine (cs28 _ q B _ _ _ _ _ _ E9).mono ?_; rintro e w' ⟨rfl, rfl⟩) | (go_at_call 25; refine (out25 _ q B _ _ _ _ _ _ E9).mono ?_; rintro e w' ⟨rfl, rfl⟩))
              go_roundw
              case rel => exact ⟨k + 1, out8.length, by omega, rfl, by go_num, low8, rng8, cache8, cs8, out8, g6, mv a 0, S9.mono (by omega), X8.one hcs, X8.zero hcs hZ, Int.le_refl _, CD6, A8⟩
              case measure => simp [intOf]; omega
            · have CD8 : Cd g6 11 (mv a 0) := by have := CD6; rwa [stAt_later hk7] at this
              by_cases hk0 : k = 0
              · have hs7 : ¬ (st : Int) < 7 := by omega
                have E9 := E8
                obtain ⟨p8, cap8, b8', rfl, hp8, hc8, hm8, hx8⟩ := E8.shape
                clear hx8 hp8
                go_wp2_with (first | (go_at_call 13; refine (state13 _ P g6 S8.cod _ _ CD8).mono ?_; rintro e w' ⟨rfl, rfl⟩) | (go_at_call 24; refine (rng24 _ q B _ _ _ _ _ _ E9).mono ?_; rintro e w' ⟨rfl, rfl⟩) | (go_at_call 28; refine (cs28 _ q B _ _ _ _ _ _ E9).mono ?_; rintro e w' ⟨rfl, rfl⟩) | (go_at_call 25; refine (out25 _ q B _ _ _ _ _ _ E9).mono ?_; rintro e w' ⟨rfl, rfl⟩))
                go_roundw
                case rel => exact ⟨k + 1, out8.length, by omega, rfl, by go_num, low8, rng8, cache8, cs8, out8, g6, mv a 0, S9.mono (by omega), X8.one hcs, X8.zero hcs hZ, Int.le_refl _, CD6, A8⟩
                case measure => simp [intOf]; omega
              · have hk0' : ¬ (k : Int) = 0 := by omega
                have E9 := E8
                obtain ⟨p8, cap8, b8', rfl, hp8, hc8, hm8, hx8⟩ := E8.shape
                clear hx8 hp8
                go_wp2_with (first | (go_at_call 13; refine (state13 _ P g6 S8.cod _ _ CD8).mono ?_; rintro e w' ⟨rfl, rfl⟩) | (go_at_call 24; refine (rng24 _ q B _ _ _ _ _ _ E9).mono ?_; rintro e w' ⟨rfl, rfl⟩) | (go_at_call 28; refine (cs28 _ q B _ _ _ _ _ _ E9).mono ?_; rintro e w' ⟨rfl, rfl⟩) | (go_at_call 25; refine (out25 _ q B _ _ _ _ _ _ E9).mono ?_; rintro e w' ⟨rfl, rfl⟩))
                go_roundw
                case rel => exact ⟨k + 1, out8.length, by omega, rfl, by go_num, low8, rng8, cache8, cs8, out8, g6, mv a 0, S9.mono (by omega), X8.one hcs, X8.zero hcs hZ, Int.le_refl _, CD6, A8⟩
                case measure => simp [intOf]; omega
          · rw [hi] at d0
            clear hi hIS hI
            go_wp2_with fail
            refine (rep11 w4 _ q P B _ low rng cache cs out g (hS.older ap ((Below.refl _ _).alloc (Nat.le_refl _) _)) ap hE (stAt st k) ps 1 (stAt_lt hst k) (by omega) (by omega) a hCD (L k) hL.1 hL.2).mono ?_
            rintro e w6 ⟨rfl, g6, S6, CD6, F6⟩
            rw [stAt_next] at CD6
            have A6 : Arr w6 M a := (hA.older ((Below.refl _ _).alloc (Nat.le_refl _) _)).frm F6 (by omega) (by omega)
            have K6 := F6.block _ _ _ (by omega) (by omega) (by decide) (heap_alloc_new wr (.cells #[.int .u32 1, .int .u32 (L k), .int .u32 (ps : Int)] 44))
            have e0 : w6.cell? ⟨wr.heap.size, 0, none⟩ = some (.int .u32 1) := by rw [cell_of_row w6 _ 0 _ 44 (0, 0) K6]; rfl
            have E0 : ∀ o, (w6.alloc o).cell? ⟨wr.heap.size, 0, none⟩ = some (.int .u32 1) := fun o => (World.cell?_alloc_lt _ _ _ (cell_lt e0)).trans e0
            have A7 : ∀ o, Arr (w6.alloc o) M a := fun o => A6.older ((Below.refl _ _).alloc (Nat.le_refl _) _)
            have c0 := fun o => (A7 o).c0
            have c1 := fun o => (A7 o).c1
            have c2 := fun o => (A7 o).c2
            have c3 := fun o => (A7 o).c3
            have f0 := fun o => (A7 o).fr 0
            have f1 := fun o => (A7 o).fr 1
            have f2 := fun o => (A7 o).fr 2
            have f3 := fun o => (A7 o).fr 3
            generalize hD : wr.heap.size = D at *
            clear K6 e0 d0 d1 d2 F6 hA hS hCD A7
            go_wp2
            refine wp_loop_rounds 5 ?_
            repeat any_goals (rw [rounds_succ]; go_wp2)
            clear E0 c0 c1 c2 c3 f0 f1 f2 f3
            have T : St w4 (((((w6.alloc (.cells #[.int .u32 (a 1), .int .u32 (a 0), .int .u32 (a 2), .int .u32 (a 3)] 23)).setCell ⟨M, 0, none⟩ (.int .u32 (a 1))).setCell ⟨M, 1, none⟩ (.int .u32 (a 0))).setCell ⟨M, 2, none⟩ (.int .u32 (a 2))).setCell ⟨M, 3, none⟩ (.int .u32 (a 3))) q P B (1 + 20 * (k : Int) + 20) low rng cache cs out g6 ∧ Arr (((((w6.alloc (.cells #[.int .u32 (a 1), .int .u32 (a 0), .int .u32 (a 2), .int .u32 (a 3)] 23)).setCell ⟨M, 0, none⟩ (.int .u32 (a 1))).setCell ⟨M, 1, none⟩ (.int .u32 (a 0))).setCell ⟨M, 2, none⟩ (.int .u32 (a 2))).setCell ⟨M, 3, none⟩ (.int .u32 (a 3))) M (mv a 1) := stored S6 A6 ap (by omega) (by omega) (by have := ap.q; omega) (by omega) _ (mv a 1)
            generalize ((((w6.alloc (.cells #[.int .u32 (a 1), .int .u32 (a 0), .int .u32 (a 2), .int .u32 (a 3)] 23)).setCell ⟨M, 0, none⟩ (.int .u32 (a 1))).setCell ⟨M, 1, none⟩ (.int .u32 (a 0))).setCell ⟨M, 2, none⟩ (.int .u32 (a 2))).setCell ⟨M, 3, none⟩ (.int .u32 (a 3)) = w7 at T ⊢
            obtain ⟨S7, A7⟩ := T
            have m0 : w7.cell? ⟨M, 0, none⟩ = some (.int .u32 (a 1)) := A7.c0
            have m1 : w7.cell? ⟨M, 1, none⟩ = some (.int .u32 (a 0)) := A7.c1
            have m2 : w7.cell? ⟨M, 2, none⟩ = some (.int .u32 (a 2)) := A7.c2
            have m3 : w7.cell? ⟨M, 3, none⟩ = some (.int .u32 (a 3)) := A7.c3
            have hq := fun w' => eq23 w' (a 1) (a 0) (a 2) (a 3)
            clear S6 A6
            go_region_held3 (fun w' => w'.cell? ⟨M, 0, none⟩ = some (.int .u32 (a 1)) ∧ w'.cell? ⟨M, 1, none⟩ = some (.int .u32 (a 0)) ∧ w'.cell? ⟨M, 2, none⟩ = some (.int .u32 (a 2)) ∧ w'.cell? ⟨M, 3, none⟩ = some (.int .u32 (a 3))) (go_keep) ((go_at_call 12; refine (reps12x _ P g6 S7.drew.cod (a 1) (a 0) (a 2) (a 3) CD6.r0 CD6.r1 CD6.r2 CD6.r3 M _ _ _ _ m0 m1 m2 m3).mono ?_; rintro e w8 ⟨rfl, z0, z1, z2, z3, b8⟩))
            have S8 := S7.drew.older ap b8
            have A8 : Arr w8 M (mv a 1) := (Arr.mk A7.blk : Arr w7.drew M (mv a 1)).older b8
            clear S7 A7 m0 m1 m2 m3 z0 z1 z2 z3 b8
            obtain ⟨low8, rng8, cache8, cs8, v8, out8, O8, X8, E8, S9⟩ := S8.reseat
            have hr8 := O8.r0
            have hr8' := O8.r1
            have hcs8 := X8.one hcs
            have hl8 : l ≤ out8.length := by obtain ⟨t, rfl⟩ := X8.pre; simp; omega
            have hcs8' := O8.s2
            by_cases hk7 : k = 0 ∧ st < 7
            · have CD8 : Cd g6 8 (mv a 1) := by have := CD6; rwa [stAt_first hk7] at this
              have hk0 := hk7.1
              have hs7 : (st : Int) < 7 := by omega
              have E9 := E8
              obtain ⟨p8, cap8, b8', rfl, hp8, hc8, hm8, hx8⟩ := E8.shape
              clear hx8 hp8
              go_wp2_with (first | (go_at_call 13; refine (state13 _ P g6 S8.cod _ _ CD8).mono ?_; rintro e w' ⟨rfl, rfl⟩) | (go_at_call 24; refine (rng24 _ q B _ _ _ _ _ _ E9).mono ?_; rintro e w' ⟨rfl, rfl⟩) | (go_at_call 28; refine (cs28 _ q B _ _ _ _ _ _ E9).mono ?_; rintro e w' ⟨rfl, rfl⟩) | (go_at_call 25; refine (out25 _ q B _ _ _ _ _ _ E9).mono ?_; rintro e w' ⟨rfl, rfl⟩))
              go_roundw
              case rel => exact ⟨k + 1, out8.length, by omega, rfl, by go_num, low8, rng8, cache8, cs8, out8, g6, mv a 1, S9.mono (by omega), X8.one hcs, X8.zero hcs hZ, Int.le_refl _, CD6, A8⟩
              case measure => simp [intOf]; omega
            · have CD8 : Cd g6 11 (mv a 1) := by have := CD6; rwa [stAt_later hk7] at this
              by_cases hk0 : k = 0
              · have hs7 : ¬ (st : Int) < 7 := by omega
                have E9 := E8
                obtain ⟨p8, cap8, b8', rfl, hp8, hc8, hm8, hx8⟩ := E8.shape
                clear hx8 hp8
                go_wp2_with (first | (go_at_call 13; refine (state13 _ P g6 S8.cod _ _ CD8).mono ?_; rintro e w' ⟨rfl, rfl⟩) | (go_at_call 24; refine (rng24 _ q B _ _ _ _ _ _ E9).mono ?_; rintro e w' ⟨rfl, rfl⟩) | (go_at_call 28; refine (cs28 _ q B _ _ _ _ _ _ E9).mono ?_; rintro e w' ⟨rfl, rfl⟩) | (go_at_call 25; refine (out25 _ q B _ _ _ _ _ _ E9).mono ?_; rintro e w' ⟨rfl, rfl⟩))
                go_roundw
                case rel => exact ⟨k + 1, out8.length, by omega, rfl, by go_num, low8, rng8, cache8, cs8, out8, g6, mv a 1, S9.mono (by omega), X8.one hcs, X8.zero hcs hZ, Int.le_refl _, CD6, A8⟩
                case measure => simp [intOf]; omega
              · have hk0' : ¬ (k : Int) = 0 := by omega
                have E9 := E8
                obtain ⟨p8, cap8, b8', rfl, hp8, hc8, hm8, hx8⟩ := E8.shape
                clear hx8 hp8
                go_wp2_with (first | (go_at_call 13; refine (state13 _ P g6 S8.cod _ _ CD8).mono ?_; rintro e w' ⟨rfl, rfl⟩) | (go_at_call 24; refine (rng24 _ q B _ _ _ _ _ _ E9).mono ?_; rintro e w' ⟨rfl, rfl⟩) | (go_at_call 28; refine (cs28 _ q B _ _ _ _ _ _ E9).mono ?_; rintro e w' ⟨rfl, rfl⟩) | (go_at_call 25; refine (out25 _ q B _ _ _ _ _ _ E9).mono ?_; rintro e w' ⟨rfl, rfl⟩))
                go_roundw
                case rel => exact ⟨k + 1, out8.length, by omega, rfl, by go_num, low8, rng8, cache8, cs8, out8, g6, mv a 1, S9.mono (by omega), X8.one hcs, X8.zero hcs hZ, Int.le_refl _, CD6, A8⟩
                case measure => simp [intOf]; omega
          · rw [hi] at d0
            clear hi hIS hI
            go_wp2_with fail
            refine (rep11 w4 _ q P B _ low rng cache cs out g (hS.older ap ((Below.refl _ _).alloc (Nat.le_refl _) _)) ap hE (stAt st k) ps 2 (stAt_lt hst k) (by omega) (by omega) a hCD (L k) hL.1 hL.2).mono ?_
            rintro e w6 ⟨rfl, g6, S6, CD6, F6⟩
            rw [stAt_next] at CD6
            have A6 : Arr w6 M a := (hA.older ((Below.refl _ _).alloc (Nat.le_refl _) _)).frm F6 (by omega) (by omega)
            have K6 := F6.block _ _ _ (by omega) (by omega) (by decide) (heap_alloc_new wr (.cells #[.int .u32 2, .int .u32 (L k), .int .u32 (ps : Int)] 44))
            have e0 : w6.cell? ⟨wr.heap.size, 0, none⟩ = some (.int .u32 2) := by rw [cell_of_row w6 _ 0 _ 44 (0, 0) K6]; rfl
            have E0 : ∀ o, (w6.alloc o).cell? ⟨wr.heap.size, 0, none⟩ = some (.int .u32 2) := fun o => (World.cell?_alloc_lt _ _ _ (cell_lt e0)).trans e0
            have A7 : ∀ o, Arr (w6.alloc o) M a := fun o => A6.older ((Below.refl _ _).alloc (Nat.le_refl _) _)
            have c0 := fun o => (A7 o).c0
            have c1 := fun o => (A7 o).c1
            have c2 := fun o => (A7 o).c2
            have c3 := fun o => (A7 o).c3
            have f0 := fun o => (A7 o).fr 0
            have f1 := fun o => (A7 o).fr 1
            have f2 := fun o => (A7 o).fr 2
            have f3 := fun o => (A7 o).fr 3
            generalize hD : wr.heap.size = D at *
            clear K6 e0 d0 d1 d2 F6 hA hS hCD A7
            go_wp2
            refine wp_loop_rounds 5 ?_
            repeat any_goals (rw [rounds_succ]; go_wp2)
            clear E0 c0 c1 c2 c3 f0 f1 f2 f3
            have T : St w4 (((((w6.alloc (.cells #[.int .u32 (a 2), .int .u32 (a 0), .int .u32 (a 1), .int .u32 (a 3)] 23)).setCell ⟨M, 0, none⟩ (.int .u32 (a 2))).setCell ⟨M, 1, none⟩ (.int .u32 (a 0))).setCell ⟨M, 2, none⟩ (.int .u32 (a 1))).setCell ⟨M, 3, none⟩ (.int .u32 (a 3))) q P B (1 + 20 * (k : Int) + 20) low rng cache cs out g6 ∧ Arr (((((w6.alloc (.cells #[.int .u32 (a 2), .int .u32 (a 0), .int .u32 (a 1), .int .u32 (a 3)] 23)).setCell ⟨M, 0, none⟩ (.int .u32 (a 2))).setCell ⟨M, 1, none⟩ (.int .u32 (a 0))).setCell ⟨M, 2, none⟩ (.int .u32 (a 1))).setCell ⟨M, 3, none⟩ (.int .u32 (a 3))) M (mv a 2) := stored S6 A6 ap (by omega) (by omega) (by have := ap.q; omega) (by omega) _ (mv a 2)
            generalize ((((w6.alloc (.cells #[.int .u32 (a 2), .int .u32 (a 0), .int .u32 (a 1), .int .u32 (a 3)] 23)).setCell ⟨M, 0, none⟩ (.int .u32 (a 2))).setCell ⟨M, 1, none⟩ (.int .u32 (a 0))).setCell ⟨M, 2, none⟩ (.int .u32 (a 1))).setCell ⟨M, 3, none⟩ (.int .u32 (a 3)) = w7 at T ⊢
            obtain ⟨S7, A7⟩ := T
            have m0 : w7.cell? ⟨M, 0, none⟩ = some (.int .u32 (a 2)) := A7.c0
            have m1 : w7.cell? ⟨M, 1, none⟩ = some (.int .u32 (a 0)) := A7.c1
            have m2 : w7.cell? ⟨M, 2, none⟩ = some (.int .u32 (a 1)) := A7.c2
            have m3 : w7.cell? ⟨M, 3, none⟩ = some (.int .u32 (a 3)) := A7.c3
            have hq := fun w' => eq23 w' (a 2) (a 0) (a 1) (a 3)
            clear S6 A6
            go_region_held3 (fun w' => w'.cell? ⟨M, 0, none⟩ = some (.int .u32 (a 2)) ∧ w'.cell? ⟨M, 1, none⟩ = some (.int .u32 (a 0)) ∧ w'.cell? ⟨M, 2, none⟩ = some (.int .u32 (a 1)) ∧ w'.cell? ⟨M, 3, none⟩ = some (.int .u32 (a 3))) (go_keep) ((go_at_call 12; refine (reps12x _ P g6 S7.drew.cod (a 2) (a 0) (a 1) (a 3) CD6.r0 CD6.r1 CD6.r2 CD6.r3 M _ _ _ _ m0 m1 m2 m3).mono ?_; rintro e w8 ⟨rfl, z0, z1, z2, z3, b8⟩))
            have S8 := S7.drew.older ap b8
            have A8 : Arr w8 M (mv a 2) := (Arr.mk A7.blk : Arr w7.drew M (mv a 2)).older b8
            clear S7 A7 m0 m1 m2 m3 z0 z1 z2 z3 b8
            obtain ⟨low8, rng8, cache8, cs8, v8, out8, O8, X8, E8, S9⟩ := S8.reseat
            have hr8 := O8.r0
            have hr8' := O8.r1
            have hcs8 := X8.one hcs
            have hl8 : l ≤ out8.length := by obtain ⟨t, rfl⟩ := X8.pre; simp; omega
            have hcs8' := O8.s2
            by_cases hk7 : k = 0 ∧ st < 7
            · have CD8 : Cd g6 8 (mv a 2) := by have := CD6; rwa [stAt_first hk7] at this
              have hk0 := hk7.1
              have hs7 : (st : Int) < 7 := by omega
              have E9 := E8
              obtain ⟨p8, cap8, b8', rfl, hp8, hc8, hm8, hx8⟩ := E8.shape
              clear hx8 hp8
              go_wp2_with (first | (go_at_call 13; refine (state13 _ P g6 S8.cod _ _ CD8).mono ?_; rintro e w' ⟨rfl, rfl⟩) | (go_at_call 24; refine (rng24 _ q B _ _ _ _ _ _ E9).mono ?_; rintro e w' ⟨rfl, rfl⟩) | (go_at_call 28; refine (cs28 _ q B _ _ _ _ _ _ E9).mono ?_; rintro e w' ⟨rfl, rfl⟩) | (go_at_call 25; refine (out25 _ q B _ _ _ _ _ _ E9).mono ?_; rintro e w' ⟨rfl, rfl⟩))
              go_roundw
              case rel => exact ⟨k + 1, out8.length, by omega, rfl, by go_num, low8, rng8, cache8, cs8, out8, g6, mv a 2, S9.mono (by omega), X8.one hcs, X8.zero hcs hZ, Int.le_refl _, CD6, A8⟩
              case measure => simp [intOf]; omega
            · have CD8 : Cd g6 11 (mv a 2) := by have := CD6; rwa [stAt_later hk7] at this
              by_cases hk0 : k = 0
              · have hs7 : ¬ (st : Int) < 7 := by omega
                have E9 := E8
                obtain ⟨p8, cap8, b8', rfl, hp8, hc8, hm8, hx8⟩ := E8.shape
                clear hx8 hp8
                go_wp2_with (first | (go_at_call 13; refine (state13 _ P g6 S8.cod _ _ CD8).mono ?_; rintro e w' ⟨rfl, rfl⟩) | (go_at_call 24; refine (rng24 _ q B _ _ _ _ _ _ E9).mono ?_; rintro e w' ⟨rfl, rfl⟩) | (go_at_call 28; refine (cs28 _ q B _ _ _ _ _ _ E9).mono ?_; rintro e w' ⟨rfl, rfl⟩) | (go_at_call 25; refine (out25 _ q B _ _ _ _ _ _ E9).mono ?_; rintro e w' ⟨rfl, rfl⟩))
                go_roundw
                case rel => exact ⟨k + 1, out8.length, by omega, rfl, by go_num, low8, rng8, cache8, cs8, out8, g6, mv a 2, S9.mono (by omega), X8.one hcs, X8.zero hcs hZ, Int.le_refl _, CD6, A8⟩
                case measure => simp [intOf]; omega
              · have hk0' : ¬ (k : Int) = 0 := by omega
                have E9 := E8
                obtain ⟨p8, cap8, b8', rfl, hp8, hc8, hm8, hx8⟩ := E8.shape
                clear hx8 hp8
                go_wp2_with (first | (go_at_call 13; refine (state13 _ P g6 S8.cod _ _ CD8).mono ?_; rintro e w' ⟨rfl, rfl⟩) | (go_at_call 24; refine (rng24 _ q B _ _ _ _ _ _ E9).mono ?_; rintro e w' ⟨rfl, rfl⟩) | (go_at_call 28; refine (cs28 _ q B _ _ _ _ _ _ E9).mono ?_; rintro e w' ⟨rfl, rfl⟩) | (go_at_call 25; refine (out25 _ q B _ _ _ _ _ _ E9).mono ?_; rintro e w' ⟨rfl, rfl⟩))
                go_roundw
                case rel => exact ⟨k + 1, out8.length, by omega, rfl, by go_num, low8, rng8, cache8, cs8, out8, g6, mv a 2, S9.mono (by omega), X8.one hcs, X8.zero hcs hZ, Int.le_refl _, CD6, A8⟩
                case measure => simp [intOf]; omega
          · rw [hi] at d0
            clear hi hIS hI
            go_wp2_with fail
            refine (rep11 w4 _ q P B _ low rng cache cs out g (hS.older ap ((Below.refl _ _).alloc (Nat.le_refl _) _)) ap hE (stAt st k) ps 3 (stAt_lt hst k) (by omega) (by omega) a hCD (L k) hL.1 hL.2).mono ?_
            rintro e w6 ⟨rfl, g6, S6, CD6, F6⟩
            rw [stAt_next] at CD6
            have A6 : Arr w6 M a := (hA.older ((Below.refl _ _).alloc (Nat.le_refl _) _)).frm F6 (by omega) (by omega)
            have K6 := F6.block _ _ _ (by omega) (by omega) (by decide) (heap_alloc_new wr (.cells #[.int .u32 3, .int .u32 (L k), .int .u32 (ps : Int)] 44))
            have e0 : w6.cell? ⟨wr.heap.size, 0, none⟩ = some (.int .u32 3) := by rw [cell_of_row w6 _ 0 _ 44 (0, 0) K6]; rfl
            have E0 : ∀ o, (w6.alloc o).cell? ⟨wr.heap.size, 0, none⟩ = some (.int .u32 3) := fun o => (World.cell?_alloc_lt _ _ _ (cell_lt e0)).trans e0
            have A7 : ∀ o, Arr (w6.alloc o) M a := fun o => A6.older ((Below.refl _ _).alloc (Nat.le_refl _) _)
            have c0 := fun o => (A7 o).c0
            have c1 := fun o => (A7 o).c1
            have c2 := fun o => (A7 o).c2
            have c3 := fun o => (A7 o).c3
            have f0 := fun o => (A7 o).fr 0
            have f1 := fun o => (A7 o).fr 1
            have f2 := fun o => (A7 o).fr 2
            have f3 := fun o => (A7 o).fr 3
            generalize hD : wr.heap.size = D at *
            clear K6 e0 d0 d1 d2 F6 hA hS hCD A7
            go_wp2
            refine wp_loop_rounds 5 ?_
            repeat any_goals (rw [rounds_succ]; go_wp2)
            clear E0 c0 c1 c2 c3 f0 f1 f2 f3
            have T : St w4 (((((w6.alloc (.cells #[.int .u32 (a 3), .int .u32 (a 0), .int .u32 (a 1), .int .u32 (a 2)] 23)).setCell ⟨M, 0, none⟩ (.int .u32 (a 3))).setCell ⟨M, 1, none⟩ (.int .u32 (a 0))).setCell ⟨M, 2, none⟩ (.int .u32 (a 1))).setCell ⟨M, 3, none⟩ (.int .u32 (a 2))) q P B (1 + 20 * (k : Int) + 20) low rng cache cs out g6 ∧ Arr (((((w6.alloc (.cells #[.int .u32 (a 3), .int .u32 (a 0), .int .u32 (a 1), .int .u32 (a 2)] 23)).setCell ⟨M, 0, none⟩ (.int .u32 (a 3))).setCell ⟨M, 1, none⟩ (.int .u32 (a 0))).setCell ⟨M, 2, none⟩ (.int .u32 (a 1))).setCell ⟨M, 3, none⟩ (.int .u32 (a 2))) M (mv a 3) := stored S6 A6 ap (by omega) (by omega) (by have := ap.q; omega) (by omega) _ (mv a 3)
            generalize ((((w6.alloc (.cells #[.int .u32 (a 3), .int .u32 (a 0), .int .u32 (a 1), .int .u32 (a 2)] 23)).setCell ⟨M, 0, none⟩ (.int .u32 (a 3))).setCell ⟨M, 1, none⟩ (.int .u32 (a 0))).setCell ⟨M, 2, none⟩ (.int .u32 (a 1))).setCell ⟨M, 3, none⟩ (.int .u32 (a 2)) = w7 at T ⊢
            obtain ⟨S7, A7⟩ := T
            have m0 : w7.cell? ⟨M, 0, none⟩ = some (.int .u32 (a 3)) := A7.c0
            have m1 : w7.cell? ⟨M, 1, none⟩ = some (.int .u32 (a 0)) := A7.c1
            have m2 : w7.cell? ⟨M, 2, none⟩ = some (.int .u32 (a 1)) := A7.c2
            have m3 : w7.cell? ⟨M, 3, none⟩ = some (.int .u32 (a 2)) := A7.c3
            have hq := fun w' => eq23 w' (a 3) (a 0) (a 1) (a 2)
            clear S6 A6
            go_region_held3 (fun w' => w'.cell? ⟨M, 0, none⟩ = some (.int .u32 (a 3)) ∧ w'.cell? ⟨M, 1, none⟩ = some (.int .u32 (a 0)) ∧ w'.cell? ⟨M, 2, none⟩ = some (.int .u32 (a 1)) ∧ w'.cell? ⟨M, 3, none⟩ = some (.int .u32 (a 2))) (go_keep) ((go_at_call 12; refine (reps12x _ P g6 S7.drew.cod (a 3) (a 0) (a 1) (a 2) CD6.r0 CD6.r1 CD6.r2 CD6.r3 M _ _ _ _ m0 m1 m2 m3).mono ?_; rintro e w8 ⟨rfl, z0, z1, z2, z3, b8⟩))
            have S8 := S7.drew.older ap b8
            have A8 : Arr w8 M (mv a 3) := (Arr.mk A7.blk : Arr w7.drew M (mv a 3)).older b8
            clear S7 A7 m0 m1 m2 m3 z0 z1 z2 z3 b8
            obtain ⟨low8, rng8, cache8, cs8, v8, out8, O8, X8, E8, S9⟩ := S8.reseat
            have hr8 := O8.r0
            have hr8' := O8.r1
            have hcs8 := X8.one hcs
            have hl8 : l ≤ out8.length := by obtain ⟨t, rfl⟩ := X8.pre; simp; omega
            have hcs8' := O8.s2
            by_cases hk7 : k = 0 ∧ st < 7
            · have CD8 : Cd g6 8 (mv a 3) := by have := CD6; rwa [stAt_first hk7] at this
              have hk0 := hk7.1
              have hs7 : (st : Int) < 7 := by omega
              have E9 := E8
              obtain ⟨p8, cap8, b8', rfl, hp8, hc8, hm8, hx8⟩ := E8.shape
              clear hx8 hp8
              go_wp2_with (first | (go_at_call 13; refine (state13 _ P g6 S8.cod _ _ CD8).mono ?_; rintro e w' ⟨rfl, rfl⟩) | (go_at_call 24; refine (rng24 _ q B _ _ _ _ _ _ E9).mono ?_; rintro e w' ⟨rfl, rfl⟩) | (go_at_call 28; refine (cs28 _ q B _ _ _ _ _ _ E9).mono ?_; rintro e w' ⟨rfl, rfl⟩) | (go_at_call 25; refine (out25 _ q B _ _ _ _ _ _ E9).mono ?_; rintro e w' ⟨rfl, rfl⟩))
              go_roundw
              case rel => exact ⟨k + 1, out8.length, by omega, rfl, by go_num, low8, rng8, cache8, cs8, out8, g6, mv a 3, S9.mono (by omega), X8.one hcs, X8.zero hcs hZ, Int.le_refl _, CD6, A8⟩
              case measure => simp [intOf]; omega
            · have CD8 : Cd g6 11 (mv a 3) := by have := CD6; rwa [stAt_later hk7] at this
              by_cases hk0 : k = 0
              · have hs7 : ¬ (st : Int) < 7 := by omega
                have E9 := E8
                obtain ⟨p8, cap8, b8', rfl, hp8, hc8, hm8, hx8⟩ := E8.shape
                clear hx8 hp8
                go_wp2_with (first | (go_at_call 13; refine (state13 _ P g6 S8.cod _ _ CD8).mono ?_; rintro e w' ⟨rfl, rfl⟩) | (go_at_call 24; refine (rng24 _ q B _ _ _ _ _ _ E9).mono ?_; rintro e w' ⟨rfl, rfl⟩) | (go_at_call 28; refine (cs28 _ q B _ _ _ _ _ _ E9).mono ?_; rintro e w' ⟨rfl, rfl⟩) | (go_at_call 25; refine (out25 _ q B _ _ _ _ _ _ E9).mono ?_; rintro e w' ⟨rfl, rfl⟩))
                go_roundw
                case rel => exact ⟨k + 1, out8.length, by omega, rfl, by go_num, low8, rng8, cache8, cs8, out8, g6, mv a 3, S9.mono (by omega), X8.one hcs, X8.zero hcs hZ, Int.le_refl _, CD6, A8⟩
                case measure => simp [intOf]; omega
              · have hk0' : ¬ (k : Int) = 0 := by omega
                have E9 := E8
                obtain ⟨p8, cap8, b8', rfl, hp8, hc8, hm8, hx8⟩ := E8.shape
                clear hx8 hp8
                go_wp2_with (first | (go_at_call 13; refine (state13 _ P g6 S8.cod _ _ CD8).mono ?_; rintro e w' ⟨rfl, rfl⟩) | (go_at_call 24; refine (rng24 _ q B _ _ _ _ _ _ E9).mono ?_; rintro e w' ⟨rfl, rfl⟩) | (go_at_call 28; refine (cs28 _ q B _ _ _ _ _ _ E9).mono ?_; rintro e w' ⟨rfl, rfl⟩) | (go_at_call 25; refine (out25 _ q B _ _ _ _ _ _ E9).mono ?_; rintro e w' ⟨rfl, rfl⟩))
                go_roundw
                case rel => exact ⟨k + 1, out8.length, by omega, rfl, by go_num, low8, rng8, cache8, cs8, out8, g6, mv a 3, S9.mono (by omega), X8.one hcs, X8.zero hcs hZ, Int.le_refl _, CD6, A8⟩
                case measure => simp [intOf]; omega
        · have hki : ¬ (k : Int) < len := by omega
          obtain ⟨low8, rng8, cache8, cs8, v8, out8, O8, X8, E8, S9⟩ := hS.reseat
          have hZ8 := X8.zero hcs hZ
          have E9 := E8
          obtain ⟨p8, cap8, b8, rfl, hp8, hc8, hm8, hx8⟩ := E8.shape
          rcases hZ8 with ⟨rfl, _, _⟩ | ⟨t, rfl⟩
          · clear hx8
            go_wp2_with (go_at_call 25; refine (out25 _ q B _ _ _ _ _ _ E9).mono ?_; rintro e w' ⟨rfl, rfl⟩)
            go_ret
            exact ⟨rfl, bw⟩
          · have hp := hp8.resolve_left (by simp)
            subst hp
            have hx : wr.cell? ⟨b8, 0, none⟩ = some (.int .u8 0) := hx8 0 (by simp)
            clear hx8 hp8
            go_wp2_with (go_at_call 25; refine (out25 _ q B _ _ _ _ _ _ E9).mono ?_; rintro e w' ⟨rfl, rfl⟩)
            go_ret
            exact ⟨rfl, bw⟩
end Go.Proofs.Qxb6605628aR.Lz
