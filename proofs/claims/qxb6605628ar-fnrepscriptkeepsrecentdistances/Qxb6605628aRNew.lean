import Derived.Test.Qxb6605628aRRep
namespace Go.Proofs.Qxb6605628aR.Lz
open Go.ChangeShapes Go.WideShapes Go.ChangeAt Go.RowKit
set_option linter.unusedVariables false

theorem info73 : (Try.prog.info? 73).map (fun i => i.zero.map fun z => z.cells.size) = some (some 14140) := by kernel_rfl
theorem zero73 : ∃ z : Value, z.cells.size = 14140 ∧ ∀ w, (zeroValue 73).run Try.prog w = .ok z w := by
  obtain ⟨i, hi, hz⟩ := Option.map_eq_some_iff.1 info73
  obtain ⟨z, hz0, hz1⟩ := Option.map_eq_some_iff.1 hz
  exact ⟨z, hz1, fun w => by simp [zeroValue, typeInfo, hi, hz0]⟩
def parts73 : Array (Nat × Nat) := #[(0, 1), (1, 4), (5, 192), (197, 12), (209, 12), (221, 12), (233, 12), (245, 192), (437, 12288), (12725, 256), (12981, 115), (13096, 16), (13112, 514), (13626, 514)]
theorem places73 (w : World) : (match Try.prog.underlying 73 with | some (.struct F) => (F.mapM fun (f : Field) => do pure (f.offset, ← sizeOf f.type) : Sem (Array (Nat × Nat))) | _ => stuck "x").run Try.prog w = .ok parts73 w := by kernel_rfl

theorem build73 (st r0 r1 r2 r3 : Int) : ∃ C : Array Value, (∀ w, (Instr.build 73 #[(0, .int .u32 st), (1, .agg #[.int .u32 r0, .int .u32 r1, .int .u32 r2, .int .u32 r3])]).run Try.prog w = .ok (.agg C) w) ∧
    C.size = 14140 ∧ C[0]? = some (.int .u32 st) ∧ C[1]? = some (.int .u32 r0) ∧ C[2]? = some (.int .u32 r1) ∧ C[3]? = some (.int .u32 r2) ∧ C[4]? = some (.int .u32 r3) := by
  obtain ⟨z, hz, hrun⟩ := zero73
  have hp := places73
  rw [Try.underlying73] at hp
  refine ⟨((((z.cells.setIfInBounds 0 (.int .u32 st)).setIfInBounds 1 (.int .u32 r0)).setIfInBounds 2 (.int .u32 r1)).setIfInBounds 3 (.int .u32 r2)).setIfInBounds 4 (.int .u32 r3), fun w => ?_, by simp [hz], ?_, ?_, ?_, ?_, ?_⟩
  · have hp' := hp w
    simp only at hp'
    simp only [Instr.build, Sem.run_bind, hrun, Result.andThen, run_underlying Try.underlying73, hp']
    generalize z.cells = Z at hz ⊢
    simp [Instr.fill, parts73, hz, Value.cells]
  all_goals simp [hz]

/-- Probabilities at one half from lo on, n of them. -/
def fillP (g : Nat → Value) (lo n : Nat) : Nat → Value := fun j => if lo ≤ j ∧ j < lo + n then .int .u16 1024 else g j
theorem fillP_zero (g : Nat → Value) (lo : Nat) : fillP g lo 0 = g := by
  funext j; unfold fillP; rw [if_neg (by omega)]
theorem fillP_in (g : Nat → Value) (lo n j : Nat) (h1 : lo ≤ j) (h2 : j < lo + n) : fillP g lo n j = .int .u16 1024 := by unfold fillP; rw [if_pos ⟨h1, h2⟩]
theorem fillP_out (g : Nat → Value) (lo n j : Nat) (h : j < lo ∨ lo + n ≤ j) : fillP g lo n j = g j := by unfold fillP; rw [if_neg (by omega)]
theorem fillP_fillP (g : Nat → Value) (lo n o m : Nat) (h : o = lo + n) : fillP (fillP g lo n) o m = fillP g lo (n + m) := by
  funext j
  unfold fillP
  by_cases h1 : o ≤ j ∧ j < o + m
  · rw [if_pos h1, if_pos (by omega)]
  · rw [if_neg h1]
    by_cases h2 : lo ≤ j ∧ j < lo + n
    · rw [if_pos h2, if_pos (by omega)]
    · rw [if_neg h2, if_neg (by omega)]
theorem fillP_upd (g : Nat → Value) (lo n o : Nat) (h : o = lo + n) : upd (fillP g lo n) o (.int .u16 1024) = fillP g lo (n + 1) := by
  funext j
  unfold upd fillP
  by_cases h1 : j = o
  · rw [if_pos h1, if_pos (by omega)]
  · rw [if_neg h1]
    by_cases h2 : lo ≤ j ∧ j < lo + n
    · rw [if_pos h2, if_pos (by omega)]
    · rw [if_neg h2, if_neg (by omega)]

theorem Only.refl (w : World) (P : Nat) : Only w w P := ⟨rfl, rfl, rfl, rfl, fun _ _ => rfl⟩
theorem Only.trans {a b c : World} {P : Nat} (h : Only a b P) (k : Only b c P) : Only a c P := ⟨k.os.trans h.os, k.tape.trans h.tape, k.output.trans h.output, k.size.trans h.size, fun i hi => (k.block i hi).trans (h.block i hi)⟩
theorem Only.set {a b : World} {P : Nat} (h : Only a b P) (o : Nat) (x : Value) : Only a (b.setCell ⟨P, o, none⟩ x) P :=
  ⟨h.os, h.tape, h.output, by rw [← h.size]; simp [World.setCell], fun i hi => (Below.heap_setCell b ⟨P, o, none⟩ x i hi).trans (h.block i hi)⟩
theorem Only.below {a b : World} {P B : Nat} (h : Only a b P) (hB : B ≤ P) : Below B a b := ⟨h.os, h.tape, h.output, by rw [h.size]; exact Nat.le_refl _, fun i hi => h.block i (by omega)⟩

set_option maxHeartbeats 1000000 in
theorem half37 (w : World) (P o len cap : Nat) (g : Nat → Value) (lo n : Nat) (hC : Cod w P (fillP g lo n)) (ho : o = lo + n) (hl : o + len ≤ 14140) :
    Calls Try.prog 37 #[.slice (some ⟨P, o, none⟩) len cap] w fun e w' => e = .returned (.tuple #[]) ∧ Cod w' P (fillP g lo (n + len)) ∧ Only w w' P := by
  have HO : Hid (o = lo + n) := ho
  clear ho
  go_enter Try.func37, Try.ntmps37
  go_wp2
  go_loopw [5] (fun i wr => ∃ k : Nat, k ≤ len ∧ i = .int .i64 k ∧ Cod wr P (fillP g lo (n + k)) ∧ Only w wr P) (fun i _ => len - (intOf i).toNat)
  case atStart => exact ⟨0, Nat.zero_le _, rfl, hC, Only.refl _ _⟩
  case round =>
    obtain ⟨k, hk, rfl, hR, hB⟩ := hrel
    by_cases hlt : k < len
    · have c := hR.cell (o + k) (by omega)
      have f := hR.fr (o + k)
      have S := hR.set (o + k) (by omega) (.int .u16 1024)
      rw [fillP_upd g lo (n + k) (o + k) (by rw [HO.out]; omega)] at S
      have hki : (k : Int) < len := by omega
      go_wp2
      go_roundw
      case rel => exact ⟨k + 1, by omega, by go_num, S, hB.set _ _⟩
      case measure => simp [intOf]; omega
    · obtain rfl : k = len := by omega
      go_wp2
      go_end0
      exact ⟨rfl, hR, hB⟩

set_option maxHeartbeats 2000000 in
theorem len38 (w : World) (P L : Nat) (g : Nat → Value) (lo n : Nat) (hC : Cod w P (fillP g lo n)) (ho : L = lo + n) (hl : L + 514 ≤ 14140) :
    Calls Try.prog 38 #[.pointer (some ⟨P, L, none⟩)] w fun e w' => e = .returned (.tuple #[]) ∧ Cod w' P (fillP g lo (n + 514)) ∧ Only w w' P := by
  have c0 := hC.cell L (by omega)
  have f0 := hC.fr L
  have S1 := hC.set L (by omega) (.int .u16 1024)
  rw [fillP_upd g lo n L ho] at S1
  have c1 := S1.cell (L + 1) (by omega)
  have f1 := S1.fr (L + 1)
  have S2 := S1.set (L + 1) (by omega) (.int .u16 1024)
  rw [fillP_upd g lo (n + 1) (L + 1) (by omega)] at S2
  have O2 := ((Only.refl w P).set L (.int .u16 1024)).set (L + 1) (.int .u16 1024)
  have HO : Hid (L = lo + n) := ho
  clear ho S1
  go_enter Try.func38, Try.ntmps38
  go_wp2
  have R := S2
  have O := O2
  have HL : lo + n = L := HO.out.symm
  clear S2 O2 c0 f0 c1 f1
  go_loopw [10] (fun i wr => ∃ k : Nat, k ≤ 16 ∧ i = .int .i64 k ∧ Cod wr P (fillP g lo (n + 2 + k * 8)) ∧ Only w wr P) (fun i _ => 16 - (intOf i).toNat)
  case atStart => exact ⟨0, Nat.zero_le _, rfl, R, O⟩
  case round =>
    clear R O
    obtain ⟨k, hk, rfl, hR, hO⟩ := hrel
    by_cases hlt : k < 16
    · have hki : (k : Int) < 16 := by omega
      go_wp2_with fail
      refine (half37 _ P (L + 2 + k * 8) 8 8 g lo (n + 2 + k * 8) hR (by omega) (by omega)).mono ?_
      rintro e w2 ⟨rfl, R2, O2⟩
      rw [show n + 2 + k * 8 + 8 = n + 2 + (k + 1) * 8 from by omega] at R2
      have O3 := hO.trans O2
      clear hR hO O2
      go_wp2
      go_roundw
      case rel => exact ⟨k + 1, by omega, by go_num, R2, O3⟩
      case measure => simp [intOf]; omega
    · have R : Cod wr P (fillP g lo (n + 2 + 16 * 8)) := by
        have e : k = 16 := by omega
        rw [e] at hR
        exact hR
      have O := hO
      clear hR hO
      rename Nat => k10
      rename World => w10
      go_wp2
      go_loopw [21] (fun i wr => ∃ k : Nat, k ≤ 16 ∧ i = .int .i64 k ∧ Cod wr P (fillP g lo (n + 2 + 16 * 8 + k * 8)) ∧ Only w wr P) (fun i _ => 16 - (intOf i).toNat)
      case atStart => exact ⟨0, Nat.zero_le _, rfl, R, O⟩
      case round =>
        clear R O
        obtain ⟨k, hk, rfl, hR, hO⟩ := hrel
        by_cases hlt : k < 16
        · have hki : (k : Int) < 16 := by omega
          go_wp2_with fail
          refine (half37 _ P (L + 130 + k * 8) 8 8 g lo (n + 2 + 16 * 8 + k * 8) hR (by omega) (by omega)).mono ?_
          rintro e w2 ⟨rfl, R2, O2⟩
          rw [show n + 2 + 16 * 8 + k * 8 + 8 = n + 2 + 16 * 8 + (k + 1) * 8 from by omega] at R2
          have O3 := hO.trans O2
          clear hR hO O2
          go_wp2
          go_roundw
          case rel => exact ⟨k + 1, by omega, by go_num, R2, O3⟩
          case measure => simp [intOf]; omega
        · have R : Cod wr P (fillP g lo (n + 2 + 16 * 8 + 16 * 8)) := by
            have e : k = 16 := by omega
            rw [e] at hR
            exact hR
          have O := hO
          clear hR hO
          rename Nat => k21
          rename World => w21
          go_wp2_with fail
          refine (half37 _ P (L + 258) 256 256 g lo (n + 2 + 16 * 8 + 16 * 8) R (by omega) (by omega)).mono ?_
          rintro e w2 ⟨rfl, R2, O2⟩
          have R := R2
          have O := O.trans O2
          clear R2 O2
          go_wp2
          go_end0
          exact ⟨rfl, R, O⟩

theorem fillP_cod {w : World} {P : Nat} {g : Nat → Value} (h : Cod w P g) (lo : Nat) : Cod w P (fillP g lo 0) := by rw [fillP_zero]; exact h

theorem wpList_build {P : Program} {w : World} {ops : Array Oper} {rest : List Oper} {o : Oper} {a : Act} {Q : Exit → Act → World → Prop} (hg : o.guard = none) (t : TypeId) (i j : Nat) (hop : o.op = Op.build t #[(0, .tmp i), (1, .tmp j)])
    (vx vy : Value) (hx : a.tmps.getD i undef = vx) (hy : a.tmps.getD j undef = vy) (C : Array Value) (hrun : (Instr.build t #[(0, vx), (1, vy)]).run P w = .ok (.agg C) w) (hK : wpList P ops Q rest (a.put o.dst (.agg C)) w) : wpList P ops Q (o :: rest) a w := by
  have key : ∀ ρ : Operand → Value, ρ (.tmp i) = vx → ρ (.tmp j) = vy → (execOp ρ o).run P w = .ok (.value (.agg C)) w := by
    intro ρ h1 h2
    simp [execOp, hop, h1, h2, hrun, Result.andThen]
  refine wpList_plain hg fun K hK' => ?_
  unfold Oper.wp
  rw [key _ (by exact hx) (by exact hy)]
  exact hK' _ _ hK

set_option maxRecDepth 20000 in
set_option maxHeartbeats 4000000 in
theorem new9 (w : World) (st r0 r1 r2 r3 : Int) :
    Calls Try.prog 9 #[.int .u32 st, .agg #[.int .u32 r0, .int .u32 r1, .int .u32 r2, .int .u32 r3]] w fun e w' => ∃ P g, e = .returned (.pointer (some ⟨P, 0, none⟩)) ∧ Cod w' P g ∧ g 0 = .int .u32 st ∧ g 1 = .int .u32 r0 ∧ g 2 = .int .u32 r1 ∧ g 3 = .int .u32 r2 ∧ g 4 = .int .u32 r3 ∧
      (∀ j, 5 ≤ j → j < 14140 → g j = .int .u16 1024) ∧ w.heap.size ≤ P ∧ P ≤ w.heap.size + 1 ∧ Below w.heap.size w w' ∧ P < w'.heap.size := by
  obtain ⟨C, hbl, hC, i0, i1, i2, i3, i4⟩ := build73 st r0 r1 r2 r3
  obtain ⟨g, hgd⟩ : ∃ g : Nat → Value, g = fun j => C.getD j undef := ⟨_, rfl⟩
  obtain ⟨W1, hW1⟩ : ∃ W1, W1 = (w.alloc (.cells #[.int .u32 r0, .int .u32 r1, .int .u32 r2, .int .u32 r3] 23)).alloc (.cells C 73) := ⟨_, rfl⟩
  have hP : w.heap.size + 1 < W1.heap.size := by rw [hW1]; simp
  have SZ : Hid (W1.heap.size = w.heap.size + 2) := by show _ = _; rw [hW1, World.size_alloc, World.size_alloc]
  have BE : Below w.heap.size w W1 := by rw [hW1]; exact ((Below.refl _ _).alloc (Nat.le_refl _) _).alloc (by simp) _
  have CW : Cod W1 (w.heap.size + 1) g := by
    refine ⟨C, ?_, hC, fun j hj => ?_⟩
    · rw [hW1]
      have := heap_alloc_new (w.alloc (.cells #[.int .u32 r0, .int .u32 r1, .int .u32 r2, .int .u32 r3] 23)) (.cells C 73)
      rwa [World.size_alloc] at this
    · rw [hgd, Array.getElem?_eq_getElem (by omega)]
      simp [Array.getD, show j < C.size by omega]
  have hg0 : fillP g 5 14135 0 = .int .u32 st := by rw [fillP_out _ _ _ _ (by omega), hgd]; simp [i0]
  have hg1 : fillP g 5 14135 1 = .int .u32 r0 := by rw [fillP_out _ _ _ _ (by omega), hgd]; simp [i1]
  have hg2 : fillP g 5 14135 2 = .int .u32 r1 := by rw [fillP_out _ _ _ _ (by omega), hgd]; simp [i2]
  have hg3 : fillP g 5 14135 3 = .int .u32 r2 := by rw [fillP_out _ _ _ _ (by omega), hgd]; simp [i3]
  have hg4 : fillP g 5 14135 4 = .int .u32 r3 := by rw [fillP_out _ _ _ _ (by omega), hgd]; simp [i4]
  clear hgd hC i0 i1 i2 i3 i4
  go_enter Try.func9, Try.ntmps9
  go_wp2_with (refine wpList_build rfl 73 9 10 rfl (.int .u32 st) (.agg #[.int .u32 r0, .int .u32 r1, .int .u32 r2, .int .u32 r3]) rfl rfl C (hbl _) ?_)
  have R : Cod ((w.alloc (.cells #[.int .u32 r0, .int .u32 r1, .int .u32 r2, .int .u32 r3] 23)).alloc (.cells C 73)) (w.heap.size + 1) (fillP g 5 0) := by rw [← hW1]; exact fillP_cod CW 5
  have O : Only W1 ((w.alloc (.cells #[.int .u32 r0, .int .u32 r1, .int .u32 r2, .int .u32 r3] 23)).alloc (.cells C 73)) (w.heap.size + 1) := by rw [← hW1]; exact Only.refl _ _
  clear hW1 CW hbl
  go_loopw [13] (fun i wr => ∃ k : Nat, k ≤ 12 ∧ i = .int .i64 k ∧ Cod wr (w.heap.size + 1) (fillP g 5 (0 + k * 16)) ∧ Only W1 wr (w.heap.size + 1)) (fun i _ => 12 - (intOf i).toNat)
  case atStart => exact ⟨0, Nat.zero_le _, rfl, R, O⟩
  case round =>
    clear R O
    obtain ⟨k, hk, rfl, hR, hO⟩ := hrel
    by_cases hlt : k < 12
    · have hki : (k : Int) < 12 := by omega
      go_wp2_with fail
      refine (half37 _ (w.heap.size + 1) (5 + k * 16) 16 16 g 5 (0 + k * 16) hR (by omega) (by omega)).mono ?_
      rintro e w2 ⟨rfl, R2, O2⟩
      rw [show 0 + k * 16 + 16 = 0 + (k + 1) * 16 from by omega] at R2
      have O3 := hO.trans O2
      clear hR hO O2
      go_wp2
      go_roundw
      case rel => exact ⟨k + 1, by omega, by go_num, R2, O3⟩
      case measure => simp [intOf]; omega
    · have R : Cod wr (w.heap.size + 1) (fillP g 5 (0 + 12 * 16)) := by
        have e : k = 12 := by omega
        rw [e] at hR
        exact hR
      have O := hO
      clear hR hO
      rename Nat => k13
      rename World => w13
      go_wp2_with fail
      refine (half37 _ (w.heap.size + 1) (197) 12 12 g 5 (0 + 12 * 16) R (by omega) (by omega)).mono ?_
      rintro e w2 ⟨rfl, R2, O2⟩
      have R := R2
      have O := O.trans O2
      clear R2 O2
      go_wp2_with fail
      refine (half37 _ (w.heap.size + 1) (209) 12 12 g 5 (0 + 12 * 16 + 12) R (by omega) (by omega)).mono ?_
      rintro e w2 ⟨rfl, R2, O2⟩
      have R := R2
      have O := O.trans O2
      clear R2 O2
      go_wp2_with fail
      refine (half37 _ (w.heap.size + 1) (221) 12 12 g 5 (0 + 12 * 16 + 12 + 12) R (by omega) (by omega)).mono ?_
      rintro e w2 ⟨rfl, R2, O2⟩
      have R := R2
      have O := O.trans O2
      clear R2 O2
      go_wp2_with fail
      refine (half37 _ (w.heap.size + 1) (233) 12 12 g 5 (0 + 12 * 16 + 12 + 12 + 12) R (by omega) (by omega)).mono ?_
      rintro e w2 ⟨rfl, R2, O2⟩
      have R := R2
      have O := O.trans O2
      clear R2 O2
      go_wp2
      go_loopw [44] (fun i wr => ∃ k : Nat, k ≤ 12 ∧ i = .int .i64 k ∧ Cod wr (w.heap.size + 1) (fillP g 5 (0 + 12 * 16 + 12 + 12 + 12 + 12 + k * 16)) ∧ Only W1 wr (w.heap.size + 1)) (fun i _ => 12 - (intOf i).toNat)
      case atStart => exact ⟨0, Nat.zero_le _, rfl, R, O⟩
      case round =>
        clear R O
        obtain ⟨k, hk, rfl, hR, hO⟩ := hrel
        by_cases hlt : k < 12
        · have hki : (k : Int) < 12 := by omega
          go_wp2_with fail
          refine (half37 _ (w.heap.size + 1) (245 + k * 16) 16 16 g 5 (0 + 12 * 16 + 12 + 12 + 12 + 12 + k * 16) hR (by omega) (by omega)).mono ?_
          rintro e w2 ⟨rfl, R2, O2⟩
          rw [show 0 + 12 * 16 + 12 + 12 + 12 + 12 + k * 16 + 16 = 0 + 12 * 16 + 12 + 12 + 12 + 12 + (k + 1) * 16 from by omega] at R2
          have O3 := hO.trans O2
          clear hR hO O2
          go_wp2
          go_roundw
          case rel => exact ⟨k + 1, by omega, by go_num, R2, O3⟩
          case measure => simp [intOf]; omega
        · have R : Cod wr (w.heap.size + 1) (fillP g 5 (0 + 12 * 16 + 12 + 12 + 12 + 12 + 12 * 16)) := by
            have e : k = 12 := by omega
            rw [e] at hR
            exact hR
          have O := hO
          clear hR hO
          rename Nat => k44
          rename World => w44
          go_wp2_with fail
          refine (half37 _ (w.heap.size + 1) (437) 12288 12288 g 5 (0 + 12 * 16 + 12 + 12 + 12 + 12 + 12 * 16) R (by omega) (by omega)).mono ?_
          rintro e w2 ⟨rfl, R2, O2⟩
          have R := R2
          have O := O.trans O2
          clear R2 O2
          go_wp2
          go_loopw [60] (fun i wr => ∃ k : Nat, k ≤ 4 ∧ i = .int .i64 k ∧ Cod wr (w.heap.size + 1) (fillP g 5 (0 + 12 * 16 + 12 + 12 + 12 + 12 + 12 * 16 + 12288 + k * 64)) ∧ Only W1 wr (w.heap.size + 1)) (fun i _ => 4 - (intOf i).toNat)
          case atStart => exact ⟨0, Nat.zero_le _, rfl, R, O⟩
          case round =>
            clear R O
            obtain ⟨k, hk, rfl, hR, hO⟩ := hrel
            by_cases hlt : k < 4
            · have hki : (k : Int) < 4 := by omega
              go_wp2_with fail
              refine (half37 _ (w.heap.size + 1) (12725 + k * 64) 64 64 g 5 (0 + 12 * 16 + 12 + 12 + 12 + 12 + 12 * 16 + 12288 + k * 64) hR (by omega) (by omega)).mono ?_
              rintro e w2 ⟨rfl, R2, O2⟩
              rw [show 0 + 12 * 16 + 12 + 12 + 12 + 12 + 12 * 16 + 12288 + k * 64 + 64 = 0 + 12 * 16 + 12 + 12 + 12 + 12 + 12 * 16 + 12288 + (k + 1) * 64 from by omega] at R2
              have O3 := hO.trans O2
              clear hR hO O2
              go_wp2
              go_roundw
              case rel => exact ⟨k + 1, by omega, by go_num, R2, O3⟩
              case measure => simp [intOf]; omega
            · have R : Cod wr (w.heap.size + 1) (fillP g 5 (0 + 12 * 16 + 12 + 12 + 12 + 12 + 12 * 16 + 12288 + 4 * 64)) := by
                have e : k = 4 := by omega
                rw [e] at hR
                exact hR
              have O := hO
              clear hR hO
              rename Nat => k60
              rename World => w60
              go_wp2_with fail
              refine (half37 _ (w.heap.size + 1) (12981) 115 115 g 5 (0 + 12 * 16 + 12 + 12 + 12 + 12 + 12 * 16 + 12288 + 4 * 64) R (by omega) (by omega)).mono ?_
              rintro e w2 ⟨rfl, R2, O2⟩
              have R := R2
              have O := O.trans O2
              clear R2 O2
              go_wp2_with fail
              refine (half37 _ (w.heap.size + 1) (13096) 16 16 g 5 (0 + 12 * 16 + 12 + 12 + 12 + 12 + 12 * 16 + 12288 + 4 * 64 + 115) R (by omega) (by omega)).mono ?_
              rintro e w2 ⟨rfl, R2, O2⟩
              have R := R2
              have O := O.trans O2
              clear R2 O2
              go_wp2_with fail
              refine (len38 _ (w.heap.size + 1) 13112 g 5 (0 + 12 * 16 + 12 + 12 + 12 + 12 + 12 * 16 + 12288 + 4 * 64 + 115 + 16) R (by omega) (by omega)).mono ?_
              rintro e w2 ⟨rfl, R2, O2⟩
              have R := R2
              have O := O.trans O2
              clear R2 O2
              go_wp2_with fail
              refine (len38 _ (w.heap.size + 1) 13626 g 5 (0 + 12 * 16 + 12 + 12 + 12 + 12 + 12 * 16 + 12288 + 4 * 64 + 115 + 16 + 514) R (by omega) (by omega)).mono ?_
              rintro e w2 ⟨rfl, R2, O2⟩
              have R := R2
              have O := O.trans O2
              clear R2 O2
              go_wp2
              go_ret
              exact ⟨w.heap.size + 1, _, rfl, R, hg0, hg1, hg2, hg3, hg4, fun j h1 h2 => fillP_in _ _ _ _ h1 (by omega), by omega, by omega, BE.trans (O.below (by omega)), by rw [O.size, SZ.out]; omega⟩
end Go.Proofs.Qxb6605628aR.Lz
