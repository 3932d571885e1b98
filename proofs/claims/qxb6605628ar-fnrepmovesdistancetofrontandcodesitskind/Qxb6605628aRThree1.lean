import Derived.Test.Qxb6605628aRMore
import Derived.Deep.DeepCutAuto
namespace Go.Proofs.Qxb6605628aR.Lz
open Go.ChangeShapes Go.WideShapes Go.ChangeAt Go.RowKit
set_option linter.unusedVariables false
set_option linter.unusedSimpArgs false

set_option maxRecDepth 20000 in
set_option maxHeartbeats 8000000 in
theorem three1 (w : World) (st : Nat) (hst : st < 12) (a : Nat → Int) (low rng cache cs : Int) (hl0 : 0 ≤ low) (hl1 : low < 18446744073709551616) (hr0 : 16777216 ≤ rng) (hr1 : rng < 4294967296) (hc0 : 0 ≤ cache) (hc1 : cache ≤ 255) (hs0 : -9223372036854775808 ≤ cs) (hs1 : cs ≤ 65536)
    (p : Option Addr) (cap : Nat) (bs : List Int) (hV : Bv w p bs) (hlen : (bs.length : Int) ≤ 65536) (length : Int) (hn0 : 0 ≤ length) (hn1 : length < 4294967296) (ps : Nat) (hps : ps < 16) :
    Calls Try.prog 3 #[.int .u32 (st : Int), .agg #[.int .u32 (a 0), .int .u32 (a 1), .int .u32 (a 2), .int .u32 (a 3)], .int .u64 low, .int .u32 rng, .int .u8 cache, .int .i64 cs, .slice p bs.length cap, .int .u32 1, .int .u32 length, .int .u32 (ps : Int)] w fun e w' => e = .returned (.bool true) ∧ Below w.heap.size w w' := by
  have hsi : (st : Int) < 12 := by omega
  have hpi : (ps : Int) < 16 := by omega
  go_enter Try.func3, Try.ntmps3
  go_wp2_with fail
  refine (f7_yes _ _ _ _ _ _ _ _ _ _ _ _ _ (by omega)).mono ?_
  rintro e w1 ⟨rfl, b1⟩
  have A1 : Arr w1 w.heap.size a := (Arr.mk (heap_alloc_new _ _) : Arr (w.alloc (.cells #[.int .u32 (a 0), .int .u32 (a 1), .int .u32 (a 2), .int .u32 (a 3)] 23)) w.heap.size a).older b1
  have B1 : Below w.heap.size w w1 := ((Below.refl _ _).alloc (Nat.le_refl _) _).trans (b1.mono (by simp))
  have Z1 := A1.lt
  have V1 := hV.older B1
  clear b1
  go_wp2_with fail
  refine (clone8 w1 p cap bs V1 (by omega)).mono ?_
  rintro e w2 ⟨vb, rfl, ob, b2⟩
  obtain ⟨pb, cb, bb, rfl, hpb, hxb⟩ := row_shape ob
  have A2 := A1.older b2
  have B2 := B1.trans (b2.mono (Nat.le_of_lt Z1))
  have V2 := V1.older b2
  have Z2 := b2.size
  clear b2 A1 B1 V1 ob
  go_wp2_with fail
  refine (clone8 w2 p cap bs V2 (by omega)).mono ?_
  rintro e w3 ⟨vo, rfl, oo, b3⟩
  obtain ⟨po, co, bo, rfl, _, _⟩ := row_shape oo
  have A3 := A2.older b3
  have B3 := B2.trans (b3.mono (by omega))
  have X3 : ∀ k, k < bs.length → w3.cell? ⟨bb, k, none⟩ = some (.int .u8 (bs.getD k 0)) := fun k hk => (b3.cell (cell_lt (hxb k hk))).trans (hxb k hk)
  have Y3 : Hid (∀ k, k < bs.length → bb < w2.heap.size) := fun k hk => cell_lt (hxb k hk)
  have Z3 := b3.size
  clear hxb b3 A2 B2 V2
  have c0 := A3.c0
  have c1 := A3.c1
  have c2 := A3.c2
  have c3 := A3.c3
  have X3' : Hid (∀ k, k < bs.length → w3.cell? ⟨bb, k, none⟩ = some (.int .u8 (bs.getD k 0))) := X3
  clear X3
  go_wp2_with fail
  refine (new9 w3 st (a 0) (a 1) (a 2) (a 3)).mono ?_
  rintro e w4 ⟨P, g, rfl, hP, g0, g1, g2, g3, g4, gp, P1, P2, b4, P3⟩
  have HF : Half g (st : Int) a := ⟨gp, g0, g1, g2, g3, g4⟩
  have A4 := A3.older b4
  have B4 := B3.trans (b4.mono (by omega))
  have O4 := row_older oo b4
  have X4 : Hid (∀ k, k < bs.length → w4.cell? ⟨bb, k, none⟩ = some (.int .u8 (bs.getD k 0))) := fun k hk => (b4.cell (cell_lt (X3'.out k hk))).trans (X3'.out k hk)
  have Z4 := b4.size
  clear g0 g1 g2 g3 g4 gp b4 c0 c1 c2 c3 A3 B3 oo X3'
  go_wp2_with fail
  refine (new10 w4 low rng cache cs po bs.length co).mono ?_
  rintro e w5 ⟨rfl, k5, b5, s5⟩
  have A5 := A4.older b5
  have B5 := B4.trans (b5.mono (by omega))
  have O5 := row_older O4 b5
  have X5 : Hid (∀ k, k < bs.length → w5.cell? ⟨bb, k, none⟩ = some (.int .u8 (bs.getD k 0))) := fun k hk => (b5.cell (cell_lt (X4.out k hk))).trans (X4.out k hk)
  have C5 := hP.older b5
  clear A4 B4 O4 X4 hP b5
  generalize hq : w4.heap.size = q at *
  obtain ⟨B, hB⟩ : ∃ B, B = w2.heap.size := ⟨_, rfl⟩
  rw [← hB] at O5
  have ap : Apart q P B := ⟨by omega, by omega, by omega⟩
  have S5 := St.enter (P := P) (g := g) (N := 131072) ⟨hl0, hl1, hr0, hr1, hc0, hc1, hs0, by omega, by omega⟩ (Enc.mk k5 O5) C5
  have Zw : w.heap.size < B := by omega
  have YB : Hid (∀ k, k < bs.length → bb < B) := fun k hk => by rw [hB]; exact Y3.out k hk
  clear Y3 k5 O5 C5 hB s5 P2 P3
  go_wp2_with fail
  refine (rep11f 1 (by omega) w5 w5 q P B 131072 low rng cache cs bs g S5 ap (by omega) st ps hst hps a HF length hn0 hn1).mono ?_
  rintro e w6 ⟨rfl, g6, S6, F6⟩
  have A6 : Arr w6 w.heap.size a := ⟨(S6.frm.below.block _ Zw).trans A5.blk⟩
  have B6 : Below w.heap.size w w6 := B5.trans (S6.frm.below.mono (by omega))
  have X6 : Hid (∀ k, k < bs.length → w6.cell? ⟨bb, k, none⟩ = some (.int .u8 (bs.getD k 0))) := fun k hk => (S6.frm.below.cell (YB.out k hk)).trans (X5.out k hk)
  clear S5 HF A5 B5 X5 YB
  have A7 : ∀ o, Arr (w6.alloc o) w.heap.size a := fun o => A6.older ((Below.refl _ _).alloc (Nat.le_refl _) _)
  have c0 := fun o => (A7 o).c0
  have c1 := fun o => (A7 o).c1
  have c2 := fun o => (A7 o).c2
  have c3 := fun o => (A7 o).c3
  clear A7
  generalize hD : w.heap.size = D at *
  go_wp2
  refine wp_loop_rounds 5 ?_
  repeat any_goals (rw [rounds_succ]; go_wp2)
  clear c0 c1 c2 c3 A6
  have b7 : Below w6.heap.size w6 (w6.alloc (.cells #[.int .u32 (a 1), .int .u32 (a 0), .int .u32 (a 2), .int .u32 (a 3)] 23)) := (Below.refl _ _).alloc (Nat.le_refl _) _
  have S7 := S6.older ap b7
  have ZB := S6.le ap
  have B7 := B6.trans (b7.mono (by omega))
  have X7 : Hid (∀ k, k < bs.length → (w6.alloc (.cells #[.int .u32 (a 1), .int .u32 (a 0), .int .u32 (a 2), .int .u32 (a 3)] 23)).cell? ⟨bb, k, none⟩ = some (.int .u8 (bs.getD k 0))) := fun k hk => (b7.cell (cell_lt (X6.out k hk))).trans (X6.out k hk)
  have A7 : Arr (w6.alloc (.cells #[.int .u32 (a 1), .int .u32 (a 0), .int .u32 (a 2), .int .u32 (a 3)] 23)) w6.heap.size (mv a 1) := ⟨heap_alloc_new _ _⟩
  have Z7 := b7.size
  clear b7 S6 B6 X6
  generalize w6.alloc (.cells #[.int .u32 (a 1), .int .u32 (a 0), .int .u32 (a 2), .int .u32 (a 3)] 23) = w7 at *
  generalize hM : w6.heap.size = M at *
  have m0 : w7.cell? ⟨M, 0, none⟩ = some (.int .u32 (a 1)) := A7.c0
  have m1 : w7.cell? ⟨M, 1, none⟩ = some (.int .u32 (a 0)) := A7.c1
  have m2 : w7.cell? ⟨M, 2, none⟩ = some (.int .u32 (a 2)) := A7.c2
  have m3 : w7.cell? ⟨M, 3, none⟩ = some (.int .u32 (a 3)) := A7.c3
  have hq := fun w' => eq23 w' (a 1) (a 0) (a 2) (a 3)
  clear A7
  go_region_held3 (fun w' => w'.cell? ⟨M, 0, none⟩ = some (.int .u32 (a 1)) ∧ w'.cell? ⟨M, 1, none⟩ = some (.int .u32 (a 0)) ∧ w'.cell? ⟨M, 2, none⟩ = some (.int .u32 (a 2)) ∧ w'.cell? ⟨M, 3, none⟩ = some (.int .u32 (a 3))) (go_keep) ((go_at_call 12; refine (reps12x _ P g6 S7.drew.cod (a 1) (a 0) (a 2) (a 3) F6.r0 F6.r1 F6.r2 F6.r3 M _ _ _ _ m0 m1 m2 m3).mono ?_; rintro e w8 ⟨rfl, z0, z1, z2, z3, b8⟩))
  have S8 := S7.drew.older ap b8
  have B8 := B7.drew.trans (b8.mono (by show _ ≤ w7.heap.size; omega))
  have X8 : Hid (∀ k, k < bs.length → w8.cell? ⟨bb, k, none⟩ = some (.int .u8 (bs.getD k 0))) := fun k hk => (b8.cell (p := ⟨bb, k, none⟩) (show bb < w7.heap.size from cell_lt (X7.out k hk))).trans (X7.out k hk)
  clear S7 B7 X7 m0 m1 m2 m3 z0 z1 z2 z3 b8 hq
  obtain ⟨low8, rng8, cache8, cs8, v8, out8, O8, E8x, E8, S9⟩ := S8.reseat
  have hr8 := O8.r0
  have hr8' := O8.r1
  have C8 := S8.cod
  obtain ⟨p8, cap8, b8, rfl, hp8, hc8, hm8, hx8⟩ := E8.shape
  obtain ⟨t, ht⟩ := E8x.pre
  have hl8 : bs.length ≤ out8.length := by rw [ht]; simp
  have L8 : Last w w8 bb b8 bs out8 := ⟨X8.out, fun k hk => by
    rw [hx8 k (by omega), ht, getD_app _ _ _ hk], by rw [hD]; exact B8⟩
  have hl8i : (bs.length : Int) ≤ out8.length := by omega
  have HX : Hid (p8 = some ⟨b8, 0, none⟩ ∨ bs.length = 0) := by rcases hp8 with h | h; exact .inr (by omega); exact .inl h
  clear S8 B8 X8 O8 E8x S9 hx8 ht hp8
  go_upto_if 111 with fail
  go_cut [27] from 110 to 115 (fun s27 wx => s27 = .int .u32 (nst (st : Int)) ∧ wx = w8)
  case first =>
    by_cases h7 : (st : Int) < 7
    · go_wp2_with fail
      go_meet
      exact ⟨congrArg _ (show nst (st : Int) = 8 from if_pos h7).symm, rfl⟩
    · go_wp2_with fail
      go_meet
      exact ⟨congrArg _ (show nst (st : Int) = 11 from if_neg (by omega)).symm, rfl⟩
  case rest =>
    obtain ⟨rfl, rfl⟩ := hcut
    have K0 : Hid (g6 0 = .int .u32 (nst (st : Int))) := F6.s
    go_wp2_with (go_at_call 13; refine (get13 _ P g6 C8 _ K0.out).mono ?_; rintro e w' ⟨rfl, rfl⟩)
    clear K0
    go_loopw [28] (fun s wr => ∃ n : Nat, n ≤ 12 ∧ s = .int .u32 n ∧ wr = wc) (fun s _ => 12 - (intOf s).toNat)
    case atStart => exact ⟨0, by omega, rfl, rfl⟩
    case round =>
      obtain ⟨n, hn, rfl, rfl⟩ := hrel
      by_cases hlt : n < 12
      · have hni : (n : Int) < 12 := by omega
        go_wp2
        go_loopw [29] (fun s wr' => ∃ m : Nat, m ≤ 16 ∧ s = .int .u32 m ∧ wr' = wr) (fun s _ => 16 - (intOf s).toNat)
        case atStart => exact ⟨0, by omega, rfl, rfl⟩
        case round =>
          obtain ⟨m, hm, rfl, rfl⟩ := hrel
          by_cases hlt2 : m < 16
          · have hmi : (m : Int) < 16 := by omega
            by_cases e1 : n = st
            · obtain rfl : st = n := e1.symm
              by_cases e2 : m = ps
              · obtain rfl : ps = m := e2.symm
                have VM : Hid (g6 (5 + st * 16 + ps) = .int .u16 992 ∧ g6 (245 + st * 16 + ps) = .int .u16 1024) := ⟨by rw [F6.m st ps hlt hlt2, show vM st ps st ps = 992 from if_pos ⟨rfl, rfl⟩], by rw [F6.l st ps hlt hlt2, show vL 1 st ps st ps = 1024 from if_neg (by omega)]⟩
                go_wp2_with (first | (go_at_call 14; refine (get14 _ P g6 C8 st ps hlt hlt2 992 VM.out.1).mono ?_; rintro e w' ⟨rfl, rfl⟩) | (go_at_call 15; refine (get15 _ P g6 C8 st ps hlt hlt2 1024 VM.out.2).mono ?_; rintro e w' ⟨rfl, rfl⟩))
                go_roundw
                case rel => exact ⟨ps + 1, by omega, by go_num, by simp⟩
                case measure => simp [intOf]; omega
              · have ej : ¬ (m : Int) = ps := by omega
                have VM : Hid (g6 (5 + st * 16 + m) = .int .u16 1024 ∧ g6 (245 + st * 16 + m) = .int .u16 1024) := ⟨by rw [F6.m st m hlt hlt2, show vM st ps st m = 1024 from if_neg (by omega)], by rw [F6.l st m hlt hlt2, show vL 1 st ps st m = 1024 from if_neg (by omega)]⟩
                go_wp2_with (first | (go_at_call 14; refine (get14 _ P g6 C8 st m hlt hlt2 1024 VM.out.1).mono ?_; rintro e w' ⟨rfl, rfl⟩) | (go_at_call 15; refine (get15 _ P g6 C8 st m hlt hlt2 1024 VM.out.2).mono ?_; rintro e w' ⟨rfl, rfl⟩))
                go_roundw
                case rel => exact ⟨m + 1, by omega, by go_num, by simp⟩
                case measure => simp [intOf]; omega
            · have ei : ¬ (n : Int) = st := by omega
              have VM : Hid (g6 (5 + n * 16 + m) = .int .u16 1024 ∧ g6 (245 + n * 16 + m) = .int .u16 1024) := ⟨by rw [F6.m n m hlt hlt2, show vM st ps n m = 1024 from if_neg (by omega)], by rw [F6.l n m hlt hlt2, show vL 1 st ps n m = 1024 from if_neg (by omega)]⟩
              go_wp2_with (first | (go_at_call 14; refine (get14 _ P g6 C8 n m hlt hlt2 1024 VM.out.1).mono ?_; rintro e w' ⟨rfl, rfl⟩) | (go_at_call 15; refine (get15 _ P g6 C8 n m hlt hlt2 1024 VM.out.2).mono ?_; rintro e w' ⟨rfl, rfl⟩))
              go_roundw
              case rel => exact ⟨m + 1, by omega, by go_num, by simp⟩
              case measure => simp [intOf]; omega
          · have hmi : ¬ (m : Int) < 16 := by omega
            by_cases e : n = st
            · obtain rfl : st = n := e.symm
              have VR : Hid (g6 (197 + st) = .int .u16 992) := by show _ = _; rw [F6.r st hlt, show vR st st = 992 from if_pos rfl]
              have V0 : Hid (g6 (209 + st) = .int .u16 992) := by show _ = _; rw [F6.g0 st hlt, show vG0 1 st st = 992 from if_pos rfl]
              have V1 : Hid (g6 (221 + st) = .int .u16 1056) := by show _ = _; rw [F6.g1 st hlt, show vG1 1 st st = 1056 from if_pos rfl]
              have V2 : Hid (g6 (233 + st) = .int .u16 1024) := by show _ = _; rw [F6.g2 st hlt, show vG2 1 st st = 1024 from if_pos rfl]
              go_wp2_with (first | (go_at_call 16; refine (get16 _ P g6 C8 st hlt 992 VR.out).mono ?_; rintro e w' ⟨rfl, rfl⟩) | (go_at_call 17; refine (get17 _ P g6 C8 st hlt 992 V0.out).mono ?_; rintro e w' ⟨rfl, rfl⟩) | (go_at_call 18; refine (get18 _ P g6 C8 st hlt 1056 V1.out).mono ?_; rintro e w' ⟨rfl, rfl⟩) | (go_at_call 19; refine (get19 _ P g6 C8 st hlt 1024 V2.out).mono ?_; rintro e w' ⟨rfl, rfl⟩))
              go_roundw
              case rel => exact ⟨st + 1, by omega, by go_num, by simp⟩
              case measure => simp [intOf]; omega
            · have ei : ¬ (n : Int) = st := by omega
              have VR : Hid (g6 (197 + n) = .int .u16 1024) := by show _ = _; rw [F6.r n hlt, show vR st n = 1024 from if_neg e]
              have V0 : Hid (g6 (209 + n) = .int .u16 1024) := by show _ = _; rw [F6.g0 n hlt, show vG0 1 st n = 1024 from if_neg e]
              have V1 : Hid (g6 (221 + n) = .int .u16 1024) := by show _ = _; rw [F6.g1 n hlt, show vG1 1 st n = 1024 from if_neg e]
              have V2 : Hid (g6 (233 + n) = .int .u16 1024) := by show _ = _; rw [F6.g2 n hlt, show vG2 1 st n = 1024 from if_neg e]
              go_wp2_with (first | (go_at_call 16; refine (get16 _ P g6 C8 n hlt 1024 VR.out).mono ?_; rintro e w' ⟨rfl, rfl⟩) | (go_at_call 17; refine (get17 _ P g6 C8 n hlt 1024 V0.out).mono ?_; rintro e w' ⟨rfl, rfl⟩) | (go_at_call 18; refine (get18 _ P g6 C8 n hlt 1024 V1.out).mono ?_; rintro e w' ⟨rfl, rfl⟩) | (go_at_call 19; refine (get19 _ P g6 C8 n hlt 1024 V2.out).mono ?_; rintro e w' ⟨rfl, rfl⟩))
              go_roundw
              case rel => exact ⟨n + 1, by omega, by go_num, by simp⟩
              case measure => simp [intOf]; omega
      · have hni : ¬ (n : Int) < 12 := by omega
        go_upto_region 69 with fail
        go_cut [189] from 184 to 189 (fun b wx => (∃ bb : Bool, b = .bool bb ∧ (bb = true ↔ 2 ≤ length ∧ length < 10)) ∧ wx = wr)
        case first =>
          by_cases l2 : 2 ≤ length
          · by_cases l10 : length < 10
            · go_wp2_with fail
              go_meet
              exact ⟨⟨decide (2 ≤ length ∧ length < 10), by first | (simp; omega) | simp [l2, l10], by simp⟩, rfl⟩
            · go_wp2_with fail
              go_meet
              exact ⟨⟨decide (2 ≤ length ∧ length < 10), by first | (simp; omega) | simp [l2, l10], by simp⟩, rfl⟩
          · go_wp2_with fail
            go_meet
            exact ⟨⟨decide (2 ≤ length ∧ length < 10), by first | (simp; omega) | simp [l2], by simp⟩, rfl⟩
        case rest =>
          obtain ⟨⟨bb', rfl, hbb⟩, rfl⟩ := hcut
          have HB : Hid (bb' = true ↔ 2 ≤ length ∧ length < 10) := hbb
          clear hbb
          go_upto_if 189 with fail
          go_cut [36, 37] from 184 to 195 (fun c c2 wx => c = .int .u16 (lenC length 1024) ∧ c2 = .int .u16 (lenC2 length 1024) ∧ wx = wc)
          case first =>
            cases bb'
            · have hn : ¬ (2 ≤ length ∧ length < 10) := fun h => by simpa using HB.out.2 h
              have hc : lenC length 1024 = 992 := (if_neg hn).trans half_one
              by_cases l10 : 10 ≤ length
              · by_cases l18 : length < 18
                · have hc2 : lenC2 length 1024 = 1056 := (if_neg hn).trans ((if_pos ⟨l10, l18⟩).trans half_zero)
                  have HC : Hid (lenC length 1024 = 992 ∧ lenC2 length 1024 = 1056) := ⟨hc, hc2⟩
                  clear hc hc2 hn HB
                  go_wp2_with fail
                  go_meet
                  exact ⟨congrArg _ HC.out.1.symm, congrArg _ HC.out.2.symm, rfl⟩
                · have hc2 : lenC2 length 1024 = 992 := (if_neg hn).trans ((if_neg (by omega)).trans half_one)
                  have HC : Hid (lenC length 1024 = 992 ∧ lenC2 length 1024 = 992) := ⟨hc, hc2⟩
                  clear hc hc2 hn HB
                  go_wp2_with fail
                  go_meet
                  exact ⟨congrArg _ HC.out.1.symm, congrArg _ HC.out.2.symm, rfl⟩
              · have hc2 : lenC2 length 1024 = 992 := (if_neg hn).trans ((if_neg (by omega)).trans half_one)
                have HC : Hid (lenC length 1024 = 992 ∧ lenC2 length 1024 = 992) := ⟨hc, hc2⟩
                clear hc hc2 hn HB
                go_wp2_with fail
                go_meet
                exact ⟨congrArg _ HC.out.1.symm, congrArg _ HC.out.2.symm, rfl⟩
            · have hp := HB.out.1 rfl
              have HC : Hid (lenC length 1024 = 1056 ∧ lenC2 length 1024 = 1024) := ⟨(if_pos hp).trans half_zero, if_pos hp⟩
              clear hp HB
              go_wp2_with fail
              go_meet
              exact ⟨congrArg _ HC.out.1.symm, congrArg _ HC.out.2.symm, rfl⟩
          case rest =>
            clear HB
            obtain ⟨rfl, rfl, rfl⟩ := hcut
            have CH : Hid (g6 13626 = .int .u16 (lenC length 1024)) := F6.ch
            have CH2 : Hid (g6 13627 = .int .u16 (lenC2 length 1024)) := F6.ch2
            have MC : Hid (g6 13112 = .int .u16 1024) := F6.mc
            have MC2 : Hid (g6 13113 = .int .u16 1024) := F6.mc2
            go_wp2_with (first | (go_at_call 20; refine (get20 _ P g6 C8 _ CH.out).mono ?_; rintro e w' ⟨rfl, rfl⟩) | (go_at_call 21; refine (get21 _ P g6 C8 _ CH2.out).mono ?_; rintro e w' ⟨rfl, rfl⟩) | (go_at_call 22; refine (get22 _ P g6 C8 1024 MC.out).mono ?_; rintro e w' ⟨rfl, rfl⟩) | (go_at_call 23; refine (get23 _ P g6 C8 1024 MC2.out).mono ?_; rintro e w' ⟨rfl, rfl⟩) | (go_at_call 24; refine (rng24 _ q B _ _ _ _ _ _ E8).mono ?_; rintro e w' ⟨rfl, rfl⟩) | (go_at_call 25; refine (out25 _ q B _ _ _ _ _ _ E8).mono ?_; rintro e w' ⟨rfl, rfl⟩))
            clear CH CH2 MC MC2 C8 E8 F6
            by_cases hz : bs.length = 0
            · go_loopw [39] (fun j wr' => j = .int .i64 0 ∧ Last w wr' bb b8 bs out8) (fun _ _ => 0)
              case atStart => exact ⟨rfl, L8⟩
              case round =>
                obtain ⟨rfl, hL⟩ := hrel
                have hzi : ¬ (0 : Int) < bs.length := by omega
                go_wp2
                go_ret
                exact ⟨rfl, by have := hL.bel; rw [hD] at this; exact this⟩
            · obtain rfl : p8 = some ⟨b8, 0, none⟩ := HX.out.resolve_right hz
              obtain rfl : pb = some ⟨bb, 0, none⟩ := hpb.resolve_left hz
              clear HX hpb
              go_loopw [39] (fun j wr' => ∃ k : Nat, k ≤ bs.length ∧ j = .int .i64 k ∧ Last w wr' bb b8 bs out8) (fun j _ => bs.length - (intOf j).toNat)
              case atStart => exact ⟨0, by omega, rfl, L8⟩
              case round =>
                obtain ⟨k, hk, rfl, hL⟩ := hrel
                by_cases hlt3 : k < bs.length
                · have x1 := hL.c1 k hlt3
                  have x2 := hL.c2 k hlt3
                  generalize bs.getD k 0 = y at x1 x2
                  have hki : (k : Int) < bs.length := by omega
                  have hko : (k : Int) < out8.length := by omega
                  go_wp2
                  go_region_held3 (fun w' => w'.cell? ⟨b8, k, none⟩ = some (.int .u8 y) ∧ w'.cell? ⟨bb, k, none⟩ = some (.int .u8 y)) (go_keep) (fail)
                  go_wp2
                  go_roundw
                  case rel => exact ⟨k + 1, by omega, by go_num, hL.drew⟩
                  case measure => simp [intOf]; omega
                · have hki : ¬ (k : Int) < bs.length := by omega
                  go_wp2
                  go_ret
                  exact ⟨rfl, by have := hL.bel; rw [hD] at this; exact this⟩
end Go.Proofs.Qxb6605628aR.Lz
