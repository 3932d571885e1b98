import Derived.Test.Qxb6605628aRGet
import Derived.Test.Qxb6605628aRClone
namespace Go.Proofs.Qxb6605628aR.Lz
open Go.ChangeShapes Go.WideShapes Go.ChangeAt Go.RowKit
set_option linter.unusedVariables false

theorem row_shape {w : World} {B : Nat} {v : Value} {out : List Int} (h : w.ownsRow B 5 1 v out.length (out.map (Value.int .u8))) :
    ∃ p cap b, v = .slice p out.length cap ∧ (out.length = 0 ∨ p = some ⟨b, 0, none⟩) ∧ ∀ k, k < out.length → w.cell? ⟨b, k, none⟩ = some (.int .u8 (out.getD k 0)) := by
  obtain ⟨h1, h2 | ⟨b, cap, cur, hv, hB, hb, hc, hm, hs, ht⟩⟩ := h
  · obtain ⟨rfl, h3⟩ := h2
    exact ⟨none, 0, 0, by rw [h3], .inl h3, fun k hk => by omega⟩
  · refine ⟨_, cap, b, hv, .inr rfl, fun k hk => ?_⟩
    rw [cell_of_row w b k cur 5 (0, 0) hb]
    have hh : (cur.toList.take (out.length * 1))[k]? = (out.map (Value.int .u8))[k]? := by rw [ht]
    rw [List.getElem?_take_of_lt (by omega)] at hh
    simp [hk] at hh
    simp [hh, hk]
theorem row_older {w w' : World} {B : Nat} {v : Value} {n : Nat} {xs : List Value} (h : w.ownsRow B 5 1 v n xs) (b : Below w.heap.size w w') : w'.ownsRow B 5 1 v n xs := by
  obtain ⟨o1, o2⟩ := h
  refine ⟨o1, ?_⟩
  rcases o2 with o2 | ⟨k, cap, cu, hv, hg, hh, r⟩
  · exact .inl o2
  · have hk := (Array.getElem?_eq_some_iff.1 hh).1
    exact .inr ⟨k, cap, cu, hv, hg, (b.block k hk).trans hh, r⟩

theorem f7_no (w : World) (st : Int) (a : Nat → Int) (low rng cache cs : Int) (p : Option Addr) (len cap : Nat) (i l ps : Int) (h : 1048576 < (len : Int)) :
    Calls Try.prog 7 #[.int .u32 st, .agg #[.int .u32 (a 0), .int .u32 (a 1), .int .u32 (a 2), .int .u32 (a 3)], .int .u64 low, .int .u32 rng, .int .u8 cache, .int .i64 cs, .slice p len cap, .int .u32 i, .int .u32 l, .int .u32 ps] w fun e w' => e = .returned (.bool false) ∧ Below w.heap.size w w' := by
  go_enter Try.func7, Try.ntmps7
  go_wp2
  go_ret
  exact ⟨rfl, (Below.refl _ _).alloc (Nat.le_refl _) _⟩
theorem f7_yes (w : World) (st : Int) (a : Nat → Int) (low rng cache cs : Int) (p : Option Addr) (len cap : Nat) (i l ps : Int) (h : (len : Int) ≤ 1048576) :
    Calls Try.prog 7 #[.int .u32 st, .agg #[.int .u32 (a 0), .int .u32 (a 1), .int .u32 (a 2), .int .u32 (a 3)], .int .u64 low, .int .u32 rng, .int .u8 cache, .int .i64 cs, .slice p len cap, .int .u32 i, .int .u32 l, .int .u32 ps] w fun e w' => e = .returned (.bool true) ∧ Below w.heap.size w w' := by
  go_enter Try.func7, Try.ntmps7
  go_wp2
  go_ret
  exact ⟨rfl, (Below.refl _ _).alloc (Nat.le_refl _) _⟩

/-- The two rows that the last loop compares. -/
structure Last (w wr : World) (b1 b2 : Nat) (bs out : List Int) : Prop where
  c1 : ∀ k, k < bs.length → wr.cell? ⟨b1, k, none⟩ = some (.int .u8 (bs.getD k 0))
  c2 : ∀ k, k < bs.length → wr.cell? ⟨b2, k, none⟩ = some (.int .u8 (bs.getD k 0))
  bel : Below w.heap.size w wr
theorem Last.drewN {w wr : World} {b1 b2 : Nat} {bs out : List Int} (h : Last w wr b1 b2 bs out) (n : Nat) : Last w (wr.drewN n) b1 b2 bs out := ⟨h.c1, h.c2, h.bel.trans (Below.drewN' _ _ _)⟩
theorem Last.drew {w wr : World} {b1 b2 : Nat} {bs out : List Int} (h : Last w wr b1 b2 bs out) : Last w wr.drew b1 b2 bs out := ⟨h.c1, h.c2, h.bel.drew⟩

theorem getD_app (bs t : List Int) (k : Nat) (hk : k < bs.length) : (bs ++ t).getD k 0 = bs.getD k 0 := by simp [List.getD, List.getElem?_append_left hk]

theorem St.enter {w : World} {q P B : Nat} {N low rng cache cs : Int} {v : Value} {out : List Int} {g : Nat → Value} (ok : Ok N low rng cache cs out) (e : Enc w q B low rng cache cs v out) (c : Cod w P g) : St w w q P B N low rng cache cs out g :=
  ⟨low, rng, cache, cs, v, out, ok, Ext.refl _ _ _ _ _, e, c, Frm.refl _ _ _ _⟩
end Go.Proofs.Qxb6605628aR.Lz
