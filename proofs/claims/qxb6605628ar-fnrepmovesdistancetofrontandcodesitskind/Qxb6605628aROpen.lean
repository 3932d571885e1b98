import Derived.Test.Qxb6605628aRArr
import Derived.Deep.Slices
import Derived.Deep.Strs
import Derived.Laws.IdiomArrays
import Derived.ChangeOld
import Derived.OpenShut
namespace Go.Proofs.Qxb6605628aR.Lz
open Go.ChangeShapes Go.WideShapes Go.ChangeAt Go.RowKit
open Go.Deep (trod_struct3 choose_lt open_slice)
set_option linter.unusedVariables false

theorem own : ownKnob Try.prog.godebug = none := by kernel_rfl
theorem laidOut : laidOutB Try.prog = true := by kernel_rfl
theorem cells23 : Try.prog.cellsOf 23 = 4 := by kernel_rfl
theorem cells22' : Try.prog.cellsOf 22 = 1 := by kernel_rfl
theorem cells44 : Try.prog.cellsOf 44 = 3 := by kernel_rfl

theorem array_four {cs : Array Value} (h : cs.size = 4) : ∃ a b c d, cs = #[a, b, c, d] := by
  obtain ⟨l⟩ := cs
  match l, h with
  | [a, b, c, d], _ => exact ⟨a, b, c, d, rfl⟩

theorem u32_bounds {n : Int} (h : (Lit.int .u32 n).wf = true) : 0 ≤ n ∧ n < 4294967296 := by
  simp [Lit.wf, IntKind.min, IntKind.max, IntKind.signed, IntKind.bits] at h
  omega

/-- A [4]uint32, by value. -/
theorem open_four {H : Type} {enc : TypeId × Value → H} {W : World} {b0 : Nat} {v : Value} {d : DataW H} {p : List MemPlace} (hv : Value.okWide Try.prog W .any b0 23 v) (h : DataW.Trod enc Try.prog W 0 (fun _ => true) true 23 v d p) :
    ∃ a : Nat → Int, v = .agg #[.int .u32 (a 0), .int .u32 (a 1), .int .u32 (a 2), .int .u32 (a 3)] := by
  simp only [Value.okWide, Try.underlying23] at hv
  obtain ⟨cs, rfl, hsz, _⟩ := hv
  obtain ⟨c0, c1, c2, c3, rfl⟩ := array_four (hsz.trans cells23)
  obtain ⟨fuel, hf⟩ := h
  obtain ⟨y0, y1, y2, y3, n, _, h0, h1, h2, h3⟩ := trod_array4 Try.underlying23 cells22' hf
  obtain ⟨n0, e0, _⟩ := DataW.trod_int Try.underlying22 h0
  obtain ⟨n1, e1, _⟩ := DataW.trod_int Try.underlying22 h1
  obtain ⟨n2, e2, _⟩ := DataW.trod_int Try.underlying22 h2
  obtain ⟨n3, e3, _⟩ := DataW.trod_int Try.underlying22 h3
  simp at e0 e1 e2 e3
  subst e0 e1 e2 e3
  exact ⟨fun j => if j = 0 then n0 else if j = 1 then n1 else if j = 2 then n2 else n3, rfl⟩

/-- A []RepCall. -/
theorem open_calls {H : Type} {enc : TypeId × Value → H} {W : World} {a : Option Addr} {len cap : Nat} {d : DataW H} {p : List MemPlace}
    (h : DataW.Trod enc Try.prog W 0 (fun _ => true) true 41 (.slice a len cap) d p) : ∃ I L S : Nat → Int, Cls W a len I L S := by
  obtain ⟨fuel, hf⟩ := h
  rcases open_slice Try.underlying41 hf with ⟨hcs, _⟩ | ⟨x, l, c, m, n, D, Pl, hcs, _, hl, _, hm, _, hel⟩
  · simp [Value.cells] at hcs
    obtain ⟨rfl, rfl, rfl⟩ := hcs
    exact ⟨fun _ => 0, fun _ => 0, fun _ => 0, ⟨0, 0, .inl rfl, fun k hk => absurd hk (Nat.not_lt_zero _)⟩, fun k hk => absurd hk (Nat.not_lt_zero _), fun k hk => absurd hk (Nat.not_lt_zero _), fun k hk => absurd hk (Nat.not_lt_zero _)⟩
  · simp [Value.cells] at hcs
    obtain ⟨rfl, rfl, rfl⟩ := hcs
    rw [cells44] at hel
    have key : ∀ i, i < len → ∃ t : Int × Int × Int, W.cell? ((x.add (i * 3)).add 0) = some (.int .u32 t.1) ∧ W.cell? ((x.add (i * 3)).add 1) = some (.int .u32 t.2.1) ∧ W.cell? ((x.add (i * 3)).add 2) = some (.int .u32 t.2.2) ∧ (0 ≤ t.1 ∧ t.1 < 4294967296) ∧ (0 ≤ t.2.1 ∧ t.2.1 < 4294967296) ∧ (0 ≤ t.2.2 ∧ t.2.2 < 4294967296) := by
      intro i hi
      obtain ⟨cs', hc, ht⟩ := hel i (by simp at hm; omega)
      obtain ⟨y0, y1, y2, n', _, hlen, h0, h1, h2⟩ := trod_struct3 Try.underlying44 ht
      rw [cells44] at hlen
      match cs', hlen with
      | [v0, v1, v2], _ =>
        have c0 : W.cell? ((x.add (i * 3)).add 0) = some v0 ∧ W.cell? ((x.add (i * 3)).add 1) = some v1 ∧ W.cell? ((x.add (i * 3)).add 2) = some v2 := by
          have r3 : List.range 3 = [0, 1, 2] := rfl
          unfold World.cells? at hc
          rw [if_pos (Nat.zero_le _), r3] at hc
          cases g0 : W.cell? ((x.add (i * 3)).add 0) with
          | none => simp [g0] at hc
          | some u0 =>
            cases g1 : W.cell? ((x.add (i * 3)).add 1) with
            | none => simp [g0, g1] at hc
            | some u1 =>
              cases g2 : W.cell? ((x.add (i * 3)).add 2) with
              | none => simp [g0, g1, g2] at hc
              | some u2 =>
                simp [g0, g1, g2] at hc
                simp [hc]
        simp only [cells22'] at h0 h1 h2
        obtain ⟨n0, e0, _, b0⟩ := DataW.trod_int Try.underlying22 h0
        obtain ⟨n1, e1, _, b1⟩ := DataW.trod_int Try.underlying22 h1
        obtain ⟨n2, e2, _, b2⟩ := DataW.trod_int Try.underlying22 h2
        simp at e0 e1 e2
        subst e0 e1 e2
        exact ⟨(n0, n1, n2), c0.1, c0.2.1, c0.2.2, u32_bounds b0, u32_bounds b1, u32_bounds b2⟩
    obtain ⟨t, ht⟩ := choose_lt key
    refine ⟨fun i => (t i).1, fun i => (t i).2.1, fun i => (t i).2.2, ?_, fun k hk => (ht k hk).2.2.2.1, fun k hk => (ht k hk).2.2.2.2.1, fun k hk => (ht k hk).2.2.2.2.2⟩
    by_cases h0 : len = 0
    · exact ⟨0, 0, .inl h0, fun k hk => by omega⟩
    · obtain ⟨b, off, spot⟩ := x
      have hspot : spot = none := by simpa [Addr.add] using World.cell?_spot (ht 0 (by omega)).1
      subst hspot
      refine ⟨b, off, .inr rfl, fun k hk => ?_⟩
      obtain ⟨q0, q1, q2, _⟩ := ht k hk
      rw [Addr.add_lit, Addr.add_lit] at q0 q1 q2
      exact ⟨q0, q1, q2⟩
end Go.Proofs.Qxb6605628aR.Lz
