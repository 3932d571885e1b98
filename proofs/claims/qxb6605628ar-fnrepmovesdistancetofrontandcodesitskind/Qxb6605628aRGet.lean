import Derived.Test.Qxb6605628aRFin
namespace Go.Proofs.Qxb6605628aR.Lz
open Go.ChangeShapes Go.WideShapes Go.ChangeAt Go.RowKit
set_option linter.unusedVariables false

theorem get14 (w : World) (P : Nat) (g : Nat → Value) (hC : Cod w P g) (s p : Nat) (hs : s < 12) (hp : p < 16) (x : Int) (hx : g (5 + s * 16 + p) = .int .u16 x) :
    Calls Try.prog 14 #[.pointer (some ⟨P, 0, none⟩), .int .u32 (s : Int), .int .u32 (p : Int)] w fun e w' => e = .returned (.int .u16 x) ∧ w = w' := by
  have hsi : (s : Int) < 12 := by omega
  have hpi : (p : Int) < 16 := by omega
  have c := hC.cell (5 + s * 16 + p) (by omega)
  rw [hx] at c
  clear hx
  go_enter Try.func14, Try.ntmps14
  go_wp2
  go_ret
  exact ⟨rfl, rfl⟩
theorem get15 (w : World) (P : Nat) (g : Nat → Value) (hC : Cod w P g) (s p : Nat) (hs : s < 12) (hp : p < 16) (x : Int) (hx : g (245 + s * 16 + p) = .int .u16 x) :
    Calls Try.prog 15 #[.pointer (some ⟨P, 0, none⟩), .int .u32 (s : Int), .int .u32 (p : Int)] w fun e w' => e = .returned (.int .u16 x) ∧ w = w' := by
  have hsi : (s : Int) < 12 := by omega
  have hpi : (p : Int) < 16 := by omega
  have c := hC.cell (245 + s * 16 + p) (by omega)
  rw [hx] at c
  clear hx
  go_enter Try.func15, Try.ntmps15
  go_wp2
  go_ret
  exact ⟨rfl, rfl⟩
theorem get16 (w : World) (P : Nat) (g : Nat → Value) (hC : Cod w P g) (s : Nat) (hs : s < 12) (x : Int) (hx : g (197 + s) = .int .u16 x) :
    Calls Try.prog 16 #[.pointer (some ⟨P, 0, none⟩), .int .u32 (s : Int)] w fun e w' => e = .returned (.int .u16 x) ∧ w = w' := by
  have hsi : (s : Int) < 12 := by omega
  have c := hC.cell (197 + s) (by omega)
  rw [hx] at c
  clear hx
  go_enter Try.func16, Try.ntmps16
  go_wp2
  go_ret
  exact ⟨rfl, rfl⟩
theorem get17 (w : World) (P : Nat) (g : Nat → Value) (hC : Cod w P g) (s : Nat) (hs : s < 12) (x : Int) (hx : g (209 + s) = .int .u16 x) :
    Calls Try.prog 17 #[.pointer (some ⟨P, 0, none⟩), .int .u32 (s : Int)] w fun e w' => e = .returned (.int .u16 x) ∧ w = w' := by
  have hsi : (s : Int) < 12 := by omega
  have c := hC.cell (209 + s) (by omega)
  rw [hx] at c
  clear hx
  go_enter Try.func17, Try.ntmps17
  go_wp2
  go_ret
  exact ⟨rfl, rfl⟩
theorem get18 (w : World) (P : Nat) (g : Nat → Value) (hC : Cod w P g) (s : Nat) (hs : s < 12) (x : Int) (hx : g (221 + s) = .int .u16 x) :
    Calls Try.prog 18 #[.pointer (some ⟨P, 0, none⟩), .int .u32 (s : Int)] w fun e w' => e = .returned (.int .u16 x) ∧ w = w' := by
  have hsi : (s : Int) < 12 := by omega
  have c := hC.cell (221 + s) (by omega)
  rw [hx] at c
  clear hx
  go_enter Try.func18, Try.ntmps18
  go_wp2
  go_ret
  exact ⟨rfl, rfl⟩
theorem get19 (w : World) (P : Nat) (g : Nat → Value) (hC : Cod w P g) (s : Nat) (hs : s < 12) (x : Int) (hx : g (233 + s) = .int .u16 x) :
    Calls Try.prog 19 #[.pointer (some ⟨P, 0, none⟩), .int .u32 (s : Int)] w fun e w' => e = .returned (.int .u16 x) ∧ w = w' := by
  have hsi : (s : Int) < 12 := by omega
  have c := hC.cell (233 + s) (by omega)
  rw [hx] at c
  clear hx
  go_enter Try.func19, Try.ntmps19
  go_wp2
  go_ret
  exact ⟨rfl, rfl⟩
theorem get20 (w : World) (P : Nat) (g : Nat → Value) (hC : Cod w P g) (x : Int) (hx : g 13626 = .int .u16 x) :
    Calls Try.prog 20 #[.pointer (some ⟨P, 0, none⟩)] w fun e w' => e = .returned (.int .u16 x) ∧ w = w' := by
  have c := hC.cell 13626 (by omega)
  rw [hx] at c
  clear hx
  go_enter Try.func20, Try.ntmps20
  go_wp2
  go_ret
  exact ⟨rfl, rfl⟩
theorem get21 (w : World) (P : Nat) (g : Nat → Value) (hC : Cod w P g) (x : Int) (hx : g 13627 = .int .u16 x) :
    Calls Try.prog 21 #[.pointer (some ⟨P, 0, none⟩)] w fun e w' => e = .returned (.int .u16 x) ∧ w = w' := by
  have c := hC.cell 13627 (by omega)
  rw [hx] at c
  clear hx
  go_enter Try.func21, Try.ntmps21
  go_wp2
  go_ret
  exact ⟨rfl, rfl⟩
theorem get22 (w : World) (P : Nat) (g : Nat → Value) (hC : Cod w P g) (x : Int) (hx : g 13112 = .int .u16 x) :
    Calls Try.prog 22 #[.pointer (some ⟨P, 0, none⟩)] w fun e w' => e = .returned (.int .u16 x) ∧ w = w' := by
  have c := hC.cell 13112 (by omega)
  rw [hx] at c
  clear hx
  go_enter Try.func22, Try.ntmps22
  go_wp2
  go_ret
  exact ⟨rfl, rfl⟩
theorem get23 (w : World) (P : Nat) (g : Nat → Value) (hC : Cod w P g) (x : Int) (hx : g 13113 = .int .u16 x) :
    Calls Try.prog 23 #[.pointer (some ⟨P, 0, none⟩)] w fun e w' => e = .returned (.int .u16 x) ∧ w = w' := by
  have c := hC.cell 13113 (by omega)
  rw [hx] at c
  clear hx
  go_enter Try.func23, Try.ntmps23
  go_wp2
  go_ret
  exact ⟨rfl, rfl⟩
theorem get13 (w : World) (P : Nat) (g : Nat → Value) (hC : Cod w P g) (x : Int) (hx : g 0 = .int .u32 x) :
    Calls Try.prog 13 #[.pointer (some ⟨P, 0, none⟩)] w fun e w' => e = .returned (.int .u32 x) ∧ w = w' := by
  have c := hC.cell 0 (by omega)
  rw [hx] at c
  clear hx
  go_enter Try.func13, Try.ntmps13
  go_wp2
  go_ret
  exact ⟨rfl, rfl⟩
end Go.Proofs.Qxb6605628aR.Lz
