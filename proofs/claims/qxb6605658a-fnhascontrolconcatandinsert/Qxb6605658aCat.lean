import Derived.Test.Qxb6605658aCtl
namespace Go.Proofs.Qxb6605658a
open Go.ChangeShapes Go.WideShapes Go.ChangeAt Go.RowKit

theorem hasC_append (a b : ByteArray) : hasC (a ++ b) = (hasC a || hasC b) := by
  unfold hasC
  rw [← List.any_append]
  congr 1
theorem hasC_mid (a b m : ByteArray) {va vb vm v : Bool} (hA : hasC a = va) (hB : hasC b = vb) (hm : hasC m = vm) (h : v = (va || vm || vb)) : hasC (a ++ m ++ b) = v := by
  rw [hasC_append, hasC_append, hA, hB, hm, h]

theorem bytes11 (a b : ByteArray) (w : World) (ha : (a.size : Int) ≤ 1048576) (hb : (b.size : Int) ≤ 1048576) (hab : (a.size : Int) + b.size ≤ 1048576) :
    Calls Try.prog 11 #[.string a, .string b] w fun e w' => e = .returned (.bool true) ∧ w = w' := by
  go_enter Try.func11, Try.ntmps11
  go_wp2
  go_ret
  exact ⟨rfl, rfl⟩

theorem size_mid (a b : ByteArray) (m : ByteArray) (hm : m.size ≤ 8) (hab : (a.size : Int) + b.size ≤ 1048576) : (a ++ m ++ b).size ≤ maxLen := by
  simp only [ByteArray.size_append, maxLen]
  omega

set_option maxHeartbeats 1000000 in
theorem walk4_small (a b : ByteArray) (w0 : a.size ≤ maxLen) (w1 : b.size ≤ maxLen) (w : World) (ha : (a.size : Int) ≤ 1048576) (hb : (b.size : Int) ≤ 1048576) (hab : (a.size : Int) + b.size ≤ 1048576)
    (va vb vw : Bool) (hA : hasC a = va) (hB : hasC b = vb) (hw : vw = (va || vb)) :
    Calls Try.prog 4 #[.string a, .string b] w fun e w' => e = .returned (.bool true) ∧ Below w.heap.size w w' := by
  have e0 : hasC (a ++ b) = vw := by rw [hasC_append, hA, hB, hw]
  have e1 : hasC (a ++ ⟨#[32, 126, 128, 255, 194, 128, 194, 160]⟩ ++ b) = vw := hasC_mid _ _ _ hA hB (vm := false) rfl (by rw [hw]; simp)
  have e2 : hasC (a ++ ⟨#[32]⟩ ++ b) = vw := hasC_mid _ _ _ hA hB (vm := false) rfl (by rw [hw]; simp)
  have e3 : hasC (a ++ ⟨#[126]⟩ ++ b) = vw := hasC_mid _ _ _ hA hB (vm := false) rfl (by rw [hw]; simp)
  have e4 : hasC (a ++ ⟨#[128]⟩ ++ b) = vw := hasC_mid _ _ _ hA hB (vm := false) rfl (by rw [hw]; simp)
  have e5 : hasC (a ++ ⟨#[255]⟩ ++ b) = vw := hasC_mid _ _ _ hA hB (vm := false) rfl (by rw [hw]; simp)
  have e6 : hasC (a ++ ⟨#[194, 128]⟩ ++ b) = vw := hasC_mid _ _ _ hA hB (vm := false) rfl (by rw [hw]; simp)
  have e7 : hasC (a ++ ⟨#[194, 160]⟩ ++ b) = vw := hasC_mid _ _ _ hA hB (vm := false) rfl (by rw [hw]; simp)
  have e8 : hasC (a ++ ⟨#[0]⟩ ++ b) = true := hasC_mid _ _ _ hA hB (vm := true) rfl (by simp)
  have e9 : hasC (a ++ ⟨#[9]⟩ ++ b) = true := hasC_mid _ _ _ hA hB (vm := true) rfl (by simp)
  have e10 : hasC (a ++ ⟨#[31]⟩ ++ b) = true := hasC_mid _ _ _ hA hB (vm := true) rfl (by simp)
  have e11 : hasC (a ++ ⟨#[127]⟩ ++ b) = true := hasC_mid _ _ _ hA hB (vm := true) rfl (by simp)
  have s0 : (a ++ b).size ≤ maxLen := by simp only [ByteArray.size_append, maxLen]; omega
  have B11 : Hid (Calls Try.prog 11 #[.string a, .string b] w fun e w' => e = .returned (.bool true) ∧ w = w') := bytes11 a b w ha hb hab
  have sz : ∀ m : ByteArray, m.size ≤ 8 → (a ++ m ++ b).size ≤ maxLen := fun m hm => size_mid a b m hm hab
  have S : Hid (∀ m : ByteArray, m.size ≤ 8 → (a ++ m ++ b).size ≤ maxLen) := sz
  clear sz
  subst hw
  cases va <;> cases vb <;> simp only [Bool.or_self, Bool.or_true, Bool.or_false] at e0 e1 e2 e3 e4 e5 e6 e7
  all_goals
    go_enter Try.func4, Try.ntmps4
    go_wp2_with (go_at_call 11; refine B11.out.mono ?_; rintro e w' ⟨rfl, rfl⟩)
    refine (zzHasControl_any _ _ w0).mono ?_
    rintro e w' ⟨rfl, rfl⟩
    go_wp2_with fail
    refine (zzHasControl_any _ _ w1).mono ?_
    rintro e w' ⟨rfl, rfl⟩
    go_wp2_with fail
    refine (zzHasControl_any _ _ s0).mono ?_
    rintro e w' ⟨rfl, rfl⟩
    go_wp2_with (go_at_call 10; refine (zzHasControl_any _ _ (S.out _ (by decide))).mono ?_; rintro e w' ⟨rfl, rfl⟩)
    go_ret
    exact ⟨rfl, Below.refl _ _⟩

/-- Too long: the law answers true at once. -/
theorem bytes11_great (a b : ByteArray) (w : World) (_w0 : a.size ≤ maxLen) (_w1 : b.size ≤ maxLen) (h : ¬ ((a.size : Int) ≤ 1048576 ∧ (b.size : Int) ≤ 1048576 ∧ (a.size : Int) + b.size ≤ 1048576)) :
    Calls Try.prog 11 #[.string a, .string b] w fun e w' => e = .returned (.bool false) ∧ w = w' := by
  by_cases ha : (a.size : Int) ≤ 1048576
  · by_cases hb : (b.size : Int) ≤ 1048576
    · have hab : (1048576 : Int) < (a.size : Int) + b.size := by omega
      clear h
      go_enter Try.func11, Try.ntmps11
      go_wp2
      go_ret
      exact ⟨rfl, rfl⟩
    · have hb' : (1048576 : Int) < b.size := by omega
      clear h hb
      go_enter Try.func11, Try.ntmps11
      go_wp2
      go_ret
      exact ⟨rfl, rfl⟩
  · have ha' : (1048576 : Int) < a.size := by omega
    clear h ha
    go_enter Try.func11, Try.ntmps11
    go_wp2
    go_ret
    exact ⟨rfl, rfl⟩

theorem walk4 (a b : ByteArray) (w0 : a.size ≤ maxLen) (w1 : b.size ≤ maxLen) (w : World) :
    Calls Try.prog 4 #[.string a, .string b] w fun e w' => e = .returned (.bool true) ∧ Below w.heap.size w w' := by
  by_cases h : (a.size : Int) ≤ 1048576 ∧ (b.size : Int) ≤ 1048576 ∧ (a.size : Int) + b.size ≤ 1048576
  · exact walk4_small a b w0 w1 w h.1 h.2.1 h.2.2 _ _ _ rfl rfl rfl
  · have B11 : Hid (Calls Try.prog 11 #[.string a, .string b] w fun e w' => e = .returned (.bool false) ∧ w = w') := bytes11_great a b w w0 w1 h
    clear h
    go_enter Try.func4, Try.ntmps4
    go_wp2_with (go_at_call 11; refine B11.out.mono ?_; rintro e w' ⟨rfl, rfl⟩)
    go_ret
    exact ⟨rfl, Below.refl _ _⟩
end Go.Proofs.Qxb6605658a
