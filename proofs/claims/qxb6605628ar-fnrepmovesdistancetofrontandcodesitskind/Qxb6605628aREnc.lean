import Derived.Test.Qxb6605628aRRows
import Derived.WalkKit
import Derived.ProofKit
import Derived.WalkSpells
import Derived.Deep.AppendLies
namespace Go.Proofs.Qxb6605628aR.Lz
open Go.ChangeShapes Go.WideShapes Go.ChangeAt Go.RowKit
set_option linter.unusedVariables false

theorem info5 : (Try.prog.info? 5).map (fun i => (i.zero, i.size, i.bytes)) = some (some (.int .u8 0), 1, 1) := by kernel_rfl

/-- The range encoder in block q: its five fields; what it has written, 'out', in a row of its own from block B on. -/
structure Enc (w : World) (q B : Nat) (low rng cache cs : Int) (v : Value) (out : List Int) : Prop where
  blk : w.heap[q]? = some (.cells #[.int .u64 low, .int .u32 rng, .int .u8 cache, .int .i64 cs, v] 79 (0, 0))
  own : w.ownsRow B 5 1 v out.length (out.map (Value.int .u8))

section
variable {w : World} {q B : Nat} {low rng cache cs : Int} {v : Value} {out : List Int}

theorem Enc.c0 (h : Enc w q B low rng cache cs v out) : w.cell? ⟨q, 0, none⟩ = some (.int .u64 low) := by rw [cell_of_row w q 0 _ 79 (0, 0) h.blk]; rfl
theorem Enc.c1 (h : Enc w q B low rng cache cs v out) : w.cell? ⟨q, 1, none⟩ = some (.int .u32 rng) := by rw [cell_of_row w q 1 _ 79 (0, 0) h.blk]; rfl
theorem Enc.c2 (h : Enc w q B low rng cache cs v out) : w.cell? ⟨q, 2, none⟩ = some (.int .u8 cache) := by rw [cell_of_row w q 2 _ 79 (0, 0) h.blk]; rfl
theorem Enc.c3 (h : Enc w q B low rng cache cs v out) : w.cell? ⟨q, 3, none⟩ = some (.int .i64 cs) := by rw [cell_of_row w q 3 _ 79 (0, 0) h.blk]; rfl
theorem Enc.c4 (h : Enc w q B low rng cache cs v out) : w.cell? ⟨q, 4, none⟩ = some v := by rw [cell_of_row w q 4 _ 79 (0, 0) h.blk]; rfl
theorem Enc.fr (h : Enc w q B low rng cache cs v out) (i : Nat) : w.frozen? ⟨q, i, none⟩ = false := frozen_of_row w q i _ 79 h.blk
theorem Enc.far (h : Enc w q B low rng cache cs v out) {i : Nat} {c : Array Value} {e : TypeId} (hi : w.heap[i]? = some (.cells c e (0, 0))) (he : e ≠ 5) : v.ownBlock ≠ some i := by
  intro hv
  rcases h.own.2 with ⟨rfl, _⟩ | ⟨g, cap, cur, rfl, _, hg, _⟩
  · cases hv
  · simp only [Value.ownBlock, Option.some.injEq] at hv
    subst hv
    rw [hg] at hi
    simp at hi
    exact he hi.2.symm
theorem Enc.notq (h : Enc w q B low rng cache cs v out) : v.ownBlock ≠ some q := h.far h.blk (by decide)

theorem Enc.set0 (h : Enc w q B low rng cache cs v out) (x : Int) : Enc (w.setCell ⟨q, 0, none⟩ (.int .u64 x)) q B x rng cache cs v out :=
  ⟨heap_setCell_same w q 0 _ 79 _ h.blk, ownsRow_setCell_other h.own h.notq _⟩
theorem Enc.set1 (h : Enc w q B low rng cache cs v out) (x : Int) : Enc (w.setCell ⟨q, 1, none⟩ (.int .u32 x)) q B low x cache cs v out :=
  ⟨heap_setCell_same w q 1 _ 79 _ h.blk, ownsRow_setCell_other h.own h.notq _⟩
theorem Enc.set2 (h : Enc w q B low rng cache cs v out) (x : Int) : Enc (w.setCell ⟨q, 2, none⟩ (.int .u8 x)) q B low rng x cs v out :=
  ⟨heap_setCell_same w q 2 _ 79 _ h.blk, ownsRow_setCell_other h.own h.notq _⟩
theorem Enc.set3 (h : Enc w q B low rng cache cs v out) (x : Int) : Enc (w.setCell ⟨q, 3, none⟩ (.int .i64 x)) q B low rng cache x v out :=
  ⟨heap_setCell_same w q 3 _ 79 _ h.blk, ownsRow_setCell_other h.own h.notq _⟩
theorem Enc.drew (h : Enc w q B low rng cache cs v out) : Enc w.drew q B low rng cache cs v out := ⟨h.blk, h.own⟩
end

/-- w' is w but for the encoder's own memory (block q and the row of what it has written), and new blocks. -/
structure Oth (w w' : World) (q B : Nat) : Prop where
  below : Below B w w'
  block : ∀ i c e, i ≠ q → e ≠ 5 → w.heap[i]? = some (.cells c e (0, 0)) → w'.heap[i]? = some (.cells c e (0, 0))
theorem Oth.refl (w : World) (q B : Nat) : Oth w w q B := ⟨Below.refl _ _, fun _ _ _ _ _ h => h⟩
theorem Oth.trans {a b c : World} {q B : Nat} (h : Oth a b q B) (k : Oth b c q B) : Oth a c q B := ⟨h.below.trans k.below, fun i x e h1 h2 h3 => k.block i x e h1 h2 (h.block i x e h1 h2 h3)⟩
theorem Oth.drew {a b : World} {q B : Nat} (h : Oth a b q B) : Oth a b.drew q B := ⟨h.below.drew, h.block⟩
theorem Oth.set {a b : World} {q B : Nat} (h : Oth a b q B) (hB : B ≤ q) (o : Nat) (u : Value) : Oth a (b.setCell ⟨q, o, none⟩ u) q B :=
  ⟨h.below.setCell hB u, fun i x e h1 h2 h3 => (Below.heap_setCell b ⟨q, o, none⟩ u i h1).trans (h.block i x e h1 h2 h3)⟩

/-- The count of bytes held back, off the encoder's memory: a loop's measure. -/
def csOf (w : World) (q : Nat) : Nat := match w.cell? ⟨q, 3, none⟩ with | some (.int _ n) => n.toNat | _ => 0
theorem Enc.csOf {w : World} {q B : Nat} {low rng cache cs : Int} {v : Value} {out : List Int} (h : Enc w q B low rng cache cs v out) : csOf w q = cs.toNat := by
  unfold Lz.csOf
  rw [h.c3]

theorem row_c0 {w : World} {q : Nat} {a b c d e : Value} (h : w.heap[q]? = some (.cells #[a, b, c, d, e] 79 (0, 0))) : w.cell? ⟨q, 0, none⟩ = some a := by rw [cell_of_row w q 0 _ 79 (0, 0) h]; rfl
theorem row_c2 {w : World} {q : Nat} {a b c d e : Value} (h : w.heap[q]? = some (.cells #[a, b, c, d, e] 79 (0, 0))) : w.cell? ⟨q, 2, none⟩ = some c := by rw [cell_of_row w q 2 _ 79 (0, 0) h]; rfl
theorem row_c3 {w : World} {q : Nat} {a b c d e : Value} (h : w.heap[q]? = some (.cells #[a, b, c, d, e] 79 (0, 0))) : w.cell? ⟨q, 3, none⟩ = some d := by rw [cell_of_row w q 3 _ 79 (0, 0) h]; rfl
theorem row_c4 {w : World} {q : Nat} {a b c d e : Value} (h : w.heap[q]? = some (.cells #[a, b, c, d, e] 79 (0, 0))) : w.cell? ⟨q, 4, none⟩ = some e := by rw [cell_of_row w q 4 _ 79 (0, 0) h]; rfl
theorem row_fr {w : World} {q : Nat} {a b c d e : Value} (h : w.heap[q]? = some (.cells #[a, b, c, d, e] 79 (0, 0))) (i : Nat) : w.frozen? ⟨q, i, none⟩ = false := frozen_of_row w q i _ 79 h

/-- Behind an append to what has been written: the encoder's block stands; so does all else. -/
theorem Enc.grow {w w2 : World} {q B : Nat} {low rng cache cs : Int} {v : Value} {out : List Int} {o : Obj} (h : Enc w q B low rng cache cs v out) (hg : (w.alloc o).grownBy w2 v.ownBlock) (hBw : B ≤ w.heap.size) :
    w2.heap[q]? = some (.cells #[.int .u64 low, .int .u32 rng, .int .u8 cache, .int .i64 cs, v] 79 (0, 0)) ∧ Oth w w2 q B := by
  have old : ∀ (i : Nat) (c : Array Value) (e : TypeId), e ≠ 5 → w.heap[i]? = some (Obj.cells c e (0, 0)) → w2.heap[i]? = some (Obj.cells c e (0, 0)) := by
    intro i c e he hi
    have hl := (Array.getElem?_eq_some_iff.1 hi).1
    rw [hg.block i (by simp; omega) (fun e' => h.far hi he e'.symm), Below.heap_alloc _ _ _ hl]
    exact hi
  refine ⟨old q _ 79 (by decide) h.blk, ⟨((Below.refl _ _).alloc hBw o).grown hg (by simp; omega) (fun k hk => (h.own.lt k hk).1), fun i c e _ h2 h3 => old i c e h2 h3⟩⟩

/-- The new slice stored into the encoder, the count lowered. -/
theorem enc_stored {w2 : World} {q B : Nat} {low rng cache cs : Int} {v v2 : Value} {out : List Int} (hb : w2.heap[q]? = some (.cells #[.int .u64 low, .int .u32 rng, .int .u8 cache, .int .i64 cs, v] 79 (0, 0)))
    (ho : w2.ownsRow B 5 1 v2 out.length (out.map (Value.int .u8))) (x : Int) : Enc ((w2.setCell ⟨q, 4, none⟩ v2).setCell ⟨q, 3, none⟩ (.int .i64 x)) q B low rng cache x v2 out := by
  have hn : v2.ownBlock ≠ some q := by
    intro hv
    rcases ho.2 with ⟨rfl, _⟩ | ⟨g, cap, cur, rfl, _, hg, _⟩
    · cases hv
    · simp only [Value.ownBlock, Option.some.injEq] at hv
      subst hv
      rw [hg] at hb
      simp at hb
  have h1 := heap_setCell_same w2 q 4 _ 79 v2 hb
  have h2 := heap_setCell_same (w2.setCell ⟨q, 4, none⟩ v2) q 3 _ 79 (.int .i64 x) h1
  exact ⟨h2, ownsRow_setCell_other (ownsRow_setCell_other ho hn _) hn _⟩

/-- How far the flush has come. -/
def Flushed (cache carry cs : Int) (out : List Int) (b cs' : Int) (out' : List Int) : Prop :=
  (cs' = cs ∧ out' = out ∧ b = cache) ∨ (0 ≤ cs' ∧ cs' < cs ∧ (out'.length : Int) + cs' = out.length + cs ∧ ∃ t, out' = out ++ ((cache + carry) % 256) :: t)
theorem Flushed.step {cache carry cs : Int} {out : List Int} {b cs' : Int} {out' : List Int} (h : Flushed cache carry cs out b cs' out') (hp : 0 < cs') : Flushed cache carry cs out 255 (cs' - 1) (out' ++ [(b + carry) % 256]) := by
  rcases h with ⟨rfl, rfl, rfl⟩ | ⟨h1, h2, h3, t, rfl⟩
  · exact .inr ⟨by omega, by omega, by simp; omega, [], rfl⟩
  · exact .inr ⟨by omega, by omega, by simp at h3 ⊢; omega, t ++ [(b + carry) % 256], by simp⟩
theorem Flushed.bound {cache carry cs : Int} {out : List Int} {b cs' : Int} {out' : List Int} (h : Flushed cache carry cs out b cs' out') : (out'.length : Int) + cs' = out.length + cs ∧ cs' ≤ cs := by
  rcases h with ⟨rfl, rfl, rfl⟩ | ⟨h1, h2, h3, t, rfl⟩
  · exact ⟨rfl, Int.le_refl _⟩
  · exact ⟨h3, by omega⟩

theorem Flushed.lo {cache carry cs : Int} {out : List Int} {b cs' : Int} {out' : List Int} (h : Flushed cache carry cs out b cs' out') (h0 : -9223372036854775808 ≤ cs) : -9223372036854775808 ≤ cs' := by
  rcases h with ⟨rfl, rfl, rfl⟩ | ⟨h1, h2, h3, t, rfl⟩ <;> omega
theorem low_shift (low : Int) : low % 4294967296 * 256 % 4294967296 = low % 16777216 * 256 := by omega

set_option maxHeartbeats 1000000 in
theorem shift_flush (w : World) (q B : Nat) (low rng cache cs : Int) (v : Value) (out : List Int) (h : Enc w q B low rng cache cs v out) (hB : B ≤ q) (hBw : B ≤ w.heap.size) (hlow : 0 ≤ low) (hlow' : low < 18446744073709551616)
    (hca : 0 ≤ cache) (hca' : cache ≤ 255) (hcs : (out.length : Int) + cs ≤ 1099511627776) (hcs0 : -9223372036854775808 ≤ cs) (hcs1 : cs ≤ 1099511627776)
    (hf : low % 4294967296 < 4278190080 ∨ 4278190080 ≤ low % 4294967296 ∧ (low / 4294967296 != 0) = true) :
    Calls Try.prog 45 #[.pointer (some ⟨q, 0, none⟩)] w fun e w' => e = .returned (.tuple #[]) ∧ ∃ b cs' v' out', Flushed cache (low / 4294967296) cs out b cs' out' ∧ cs' ≤ 0 ∧ Enc w' q B (low % 16777216 * 256) rng (low / 16777216 % 256) (cs' + 1) v' out' ∧ Oth w w' q B := by
  have c0 := h.c0
  have c2 := h.c2
  have c3 := h.c3
  obtain ⟨i0, hi, hz0, hz1, hz2⟩ := info_parts info5
  rcases hf with hf | ⟨hf, hf'⟩
  all_goals
    go_enter Try.func45, Try.ntmps45
    go_wp2
    go_loopw [3] (fun b wr => ∃ b' cs' v' out', b = .int .u8 b' ∧ 0 ≤ b' ∧ b' ≤ 255 ∧ Flushed cache (low / 4294967296) cs out b' cs' out' ∧ Enc wr q B low rng cache cs' v' out' ∧ Oth w wr q B) (fun _ wr => csOf wr q)
    case atStart => exact ⟨cache, cs, v, out, rfl, hca, hca', .inl ⟨rfl, rfl, rfl⟩, h, Oth.refl _ _ _⟩
    case round =>
      clear c0 c2 c3
      obtain ⟨b', cs', v', out', rfl, hb0, hb1, hF, hE, hO⟩ := hrel
      have c0 := hE.c0
      have c2 := hE.c2
      have c3 := hE.c3
      have c4 := hE.c4
      have f0 := hE.fr 0
      have f2 := hE.fr 2
      have f3 := hE.fr 3
      have f4 := hE.fr 4
      have hbd := hF.bound
      have hlo := hF.lo hcs0
      have hBr : B ≤ wr.heap.size := Nat.le_trans hBw hO.below.size
      by_cases hp : 0 < cs'
      · go_wp2_with (at_builtin; refine wpList_append_lies _ rfl _ _ 25 rfl B 5 i0 (.int .u8 0) 1 1 Try.underlying25 hi hz0 hz1 hz2 rfl (by decide) _ _ _ rfl (hE.own.alloc _) ⟨wr.heap.size, 0, none⟩ 1 1 [.int .u8 ((b' + low / 4294967296) % 256)] rfl rfl (cell_one_new _ _ _) (ints_oneCell .u8 [(b' + low / 4294967296) % 256]) (by decide) (by unfold maxLen; omega) (by omega) (by simp; omega) (wr.heap.size + 1) (by simp) ?_; intro g2 cap2 w2 hown2 hgrow2 _ _; obtain ⟨hb2, hO2⟩ := hE.grow hgrow2 hBr; have c42 := row_c4 hb2; have c32 := row_c3 hb2; have f42 := row_fr hb2 4; have f32 := row_fr hb2 3; clear hgrow2)
        go_roundw
        case rel =>
          have hE2 := enc_stored (out := out' ++ [(b' + low / 4294967296) % 256]) hb2 (by rw [List.length_append, List.map_append]; exact hown2) (cs' - 1)
          exact ⟨255, cs' - 1, _, out' ++ [(b' + low / 4294967296) % 256], rfl, by omega, by omega, hF.step hp, hE2, ((hO.trans hO2).set hB 4 _).set hB 3 _⟩
        case measure =>
          have hE2 := enc_stored (out := out' ++ [(b' + low / 4294967296) % 256]) hb2 (by rw [List.length_append, List.map_append]; exact hown2) (cs' - 1)
          rw [hE2.csOf, hE.csOf]
          omega
      · go_wp2
        go_end0
        rw [low_shift]
        exact ⟨rfl, b', cs', v', out', hF, by omega, ((hE.set2 _).set3 _).set0 _, ((hO.set hB 2 _).set hB 3 _).set hB 0 _⟩

set_option maxHeartbeats 1000000 in
theorem shift_keep (w : World) (q B : Nat) (low rng cache cs : Int) (v : Value) (out : List Int) (h : Enc w q B low rng cache cs v out) (hB : B ≤ q) (hlow : 0 ≤ low) (hlow' : low < 18446744073709551616)
    (hcs0 : -9223372036854775808 ≤ cs) (hcs1 : cs ≤ 1099511627776) (hf : 4278190080 ≤ low % 4294967296) (hf' : (low / 4294967296 != 0) = false) :
    Calls Try.prog 45 #[.pointer (some ⟨q, 0, none⟩)] w fun e w' => e = .returned (.tuple #[]) ∧ Enc w' q B (low % 16777216 * 256) rng cache (cs + 1) v out ∧ Oth w w' q B := by
  have c0 := h.c0
  have c3 := h.c3
  have f0 := h.fr 0
  have f3 := h.fr 3
  go_enter Try.func45, Try.ntmps45
  go_wp2
  go_end0
  rw [low_shift]
  exact ⟨rfl, (h.set3 _).set0 _, ((Oth.refl _ _ _).set hB 3 _).set hB 0 _⟩

/-! ### What one shift does, for the callers -/
/-- As long as nothing has been written the stream carries nothing over; once something has, it begins with a zero byte. -/
def Zb (low rng cache : Int) (out : List Int) : Prop := (out = [] ∧ cache = 0 ∧ low + rng ≤ 4294967296) ∨ ∃ t, out = 0 :: t

/-- One shift, in the callers' words. -/
structure Shifted (low cache cs : Int) (out : List Int) (low' cache' cs' : Int) (out' : List Int) : Prop where
  eq : low' = low % 16777216 * 256
  byte : 0 ≤ cache' ∧ cache' ≤ 255
  pre : ∃ t, out' = out ++ t
  one : 1 ≤ cs → 1 ≤ cs'
  lo : cs ≤ cs' ∨ 0 ≤ cs'
  sum : (out'.length : Int) + cs' = out.length + cs + 1
  hi : cs' ≤ cs + 1 ∨ cs' = 1
  zero : ∀ r, 1 ≤ r → r < 16777216 → 1 ≤ cs → 0 ≤ low → Zb low r cache out → Zb low' (r * 256) cache' out'

theorem shift_any (w : World) (q B : Nat) (low rng cache cs : Int) (v : Value) (out : List Int) (h : Enc w q B low rng cache cs v out) (hB : B ≤ q) (hBw : B ≤ w.heap.size) (hlow : 0 ≤ low) (hlow' : low < 18446744073709551616)
    (hca : 0 ≤ cache) (hca' : cache ≤ 255) (hcs : (out.length : Int) + cs ≤ 1099511627776) (hcs0 : -9223372036854775808 ≤ cs) (hcs1 : cs ≤ 1099511627776) :
    Calls Try.prog 45 #[.pointer (some ⟨q, 0, none⟩)] w fun e w' => e = .returned (.tuple #[]) ∧ ∃ low' cache' cs' v' out', Shifted low cache cs out low' cache' cs' out' ∧ Enc w' q B low' rng cache' cs' v' out' ∧ Oth w w' q B := by
  by_cases hf : low % 4294967296 < 4278190080 ∨ 4278190080 ≤ low % 4294967296 ∧ (low / 4294967296 != 0) = true
  · refine (shift_flush w q B low rng cache cs v out h hB hBw hlow hlow' hca hca' hcs hcs0 hcs1 hf).mono ?_
    rintro e w' ⟨rfl, b, cs', v', out', hF, hc, hE, hO⟩
    refine ⟨rfl, _, _, _, v', out', ⟨rfl, by omega, ?_, ?_, ?_, ?_, ?_, ?_⟩, hE, hO⟩
    · rcases hF with ⟨rfl, rfl, rfl⟩ | ⟨_, _, _, t, rfl⟩
      · exact ⟨[], by simp⟩
      · exact ⟨_, rfl⟩
    · rcases hF with ⟨rfl, rfl, rfl⟩ | ⟨_, _, _, t, rfl⟩ <;> omega
    · rcases hF with ⟨rfl, rfl, rfl⟩ | ⟨_, _, _, t, rfl⟩ <;> omega
    · have := hF.bound; omega
    · rcases hF with ⟨rfl, rfl, rfl⟩ | ⟨_, _, _, t, rfl⟩ <;> omega
    · intro r hr hr' h1 h0 hz
      rcases hz with ⟨rfl, rfl, hs⟩ | ⟨t, rfl⟩
      · rcases hF with ⟨rfl, rfl, rfl⟩ | ⟨_, _, _, t, rfl⟩
        · omega
        · refine .inr ⟨t, ?_⟩
          have : low / 4294967296 = 0 := by omega
          rw [this]
          rfl
      · rcases hF with ⟨rfl, rfl, rfl⟩ | ⟨_, _, _, t', rfl⟩
        · exact .inr ⟨t, rfl⟩
        · exact .inr ⟨_, rfl⟩
  · have hf1 : 4278190080 ≤ low % 4294967296 := by omega
    have hf2 : (low / 4294967296 != 0) = false := by
      cases hb : (low / 4294967296 != 0) with
      | false => rfl
      | true => exact absurd (.inr ⟨hf1, hb⟩) hf
    refine (shift_keep w q B low rng cache cs v out h hB hlow hlow' hcs0 hcs1 hf1 hf2).mono ?_
    rintro e w' ⟨rfl, hE, hO⟩
    have hl : low / 4294967296 = 0 := by simpa using hf2
    refine ⟨rfl, _, _, _, v, out, ⟨rfl, by omega, ⟨[], by simp⟩, by omega, by omega, by omega, by omega, ?_⟩, hE, hO⟩
    intro r hr hr' h1 h0 hz
    rcases hz with ⟨rfl, rfl, hs⟩ | ⟨t, rfl⟩
    · exact .inl ⟨rfl, rfl, by omega⟩
    · exact .inr ⟨t, rfl⟩
end Go.Proofs.Qxb6605628aR.Lz
