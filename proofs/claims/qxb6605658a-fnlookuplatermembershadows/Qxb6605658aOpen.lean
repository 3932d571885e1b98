import Derived.Test.Qxb6605658aSl
import Derived.SliceStrings
import Derived.ChangeOld
import Derived.OpenShut
import Derived.ShutString
namespace Go.Proofs.Qxb6605658a
open Go.ChangeShapes Go.WideShapes Go.ChangeAt Go.RowKit

theorem own : ownKnob Try.prog.godebug = none := by kernel_rfl
theorem laidOut : laidOutB Try.prog = true := by kernel_rfl

/-- What came in as a slice of strings, as the walks take it. -/
theorem open_view {H : Type} {enc : TypeId × Value → H} {W : World} {a : Option Addr} {len cap : Nat} {d : DataW H} {p : List MemPlace}
    (h : DataW.Trod enc Try.prog W 0 (fun _ => true) true 24 (.slice a len cap) d p) : ∃ ss : List ByteArray, ss.length = len ∧ len ≤ maxLen ∧ View W a ss := by
  obtain ⟨fuel, hf⟩ := h
  rcases open_strings Try.underlying24 Try.underlying9 (by kernel_rfl) hf with ⟨hcs, _⟩ | ⟨x, l, c, zs, hcs, _, hl, hm, hz, _, hcell, hwz⟩
  · simp [Value.cells] at hcs
    obtain ⟨rfl, rfl, rfl⟩ := hcs
    exact ⟨[], rfl, by decide, 0, 0, fun j hj => by simp at hj, .inl (Nat.le_refl _)⟩
  · simp [Value.cells] at hcs
    obtain ⟨rfl, rfl, rfl⟩ := hcs
    simp only [if_true] at hz
    have hlen : (zs.take len).length = len := by simp; omega
    refine ⟨zs.take len, hlen, by omega, ?_⟩
    by_cases h0 : len = 0
    · subst h0
      exact ⟨0, 0, fun j hj => by simp at hj, .inl (by simp)⟩
    · obtain ⟨b, off, spot⟩ := x
      have hspot : spot = none := by simpa [Addr.add] using World.cell?_spot (hcell 0 (by omega))
      subst hspot
      refine ⟨b, off, fun j hj => ?_, .inr rfl⟩
      rw [hlen] at hj
      have := hcell j (by omega)
      rw [Addr.add_lit] at this
      rw [this]
      congr 2
      simp [sat, hj]
end Go.Proofs.Qxb6605658a
