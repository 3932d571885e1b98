import Derived.Laws.RangeAny
namespace Go.Proofs.Qxb6605658a

/-- A control character's byte. -/
def ctl (c : UInt8) : Bool := decide (c.toNat < 32) || c.toNat == 127
/-- Is there one among the first p bytes? -/
def pre (s : ByteArray) (p : Nat) : Bool := (s.data.toList.take p).any ctl
/-- Is there one in s? -/
def hasC (s : ByteArray) : Bool := s.data.toList.any ctl

theorem pre_zero (s : ByteArray) : pre s 0 = false := rfl
theorem pre_end (s : ByteArray) (p : Nat) (h : s.size ≤ p) : pre s p = hasC s := by
  unfold pre hasC
  rw [List.take_of_length_le]
  simpa using h
theorem pre_succ (s : ByteArray) (p : Nat) (h : p < s.size) : pre s (p + 1) = (pre s p || ctl s[p]) := by
  unfold pre
  rw [List.take_succ_eq_append_getElem (by simpa using h), List.any_append]
  simp
  rfl

theorem get_eq (s : ByteArray) (p : Nat) (h : p < s.size) : s.get! p = s[p]'h := get_at s p h

theorem pre_high (s : ByteArray) (pos : Nat) : ∀ w, (∀ j, j < w → pos + j < s.size ∧ 128 ≤ (s.get! (pos + j)).toNat) → pre s (pos + w) = pre s pos
  | 0, _ => rfl
  | w + 1, h => by
    obtain ⟨h1, h2⟩ := h w (by omega)
    have e : pre s (pos + w + 1) = _ := pre_succ s (pos + w) h1
    rw [show pos + (w + 1) = pos + w + 1 from rfl, e, pre_high s pos w (fun j hj => h j (by omega))]
    rw [get_eq s _ h1] at h2
    have : ctl s[pos + w] = false := by
      simp [ctl]; omega
    rw [this, Bool.or_false]

theorem decode_conts (s : ByteArray) (pos : Nat) (h : pos < s.size) (ha : 128 ≤ (s[pos]'h).toNat) :
    ∀ j, j < (Utf8.decode s pos).2 → pos + j < s.size ∧ 128 ≤ (s.get! (pos + j)).toNat := by
  have h0 : 128 ≤ (s.get! (pos + 0)).toNat := by rw [get_at s pos h]; exact ha
  have hn : ¬ (s.get! (pos + 0)).toNat < 128 := by omega
  intro j hj
  rcases Nat.eq_zero_or_pos j with rfl | hp
  · exact ⟨h, h0⟩
  simp only [Utf8.decode, hn, if_false] at hj
  split at hj
  · rename_i c
    simp only [Bool.and_eq_true, decide_eq_true_eq, beq_iff_eq] at c
    split at hj
    · obtain rfl : j = 1 := by simp at hj; omega
      exact ⟨c.2.1, by omega⟩
    · simp at hj; omega
  · split at hj
    · rename_i c
      simp only [Bool.and_eq_true, decide_eq_true_eq, beq_iff_eq] at c
      split at hj
      · have : j = 1 ∨ j = 2 := by simp at hj; omega
        rcases this with rfl | rfl
        · exact ⟨c.1.2.1, by omega⟩
        · exact ⟨c.2.1, by omega⟩
      · simp at hj; omega
    · split at hj
      · rename_i c
        simp only [Bool.and_eq_true, decide_eq_true_eq, beq_iff_eq] at c
        split at hj
        · have : j = 1 ∨ j = 2 ∨ j = 3 := by simp at hj; omega
          rcases this with rfl | rfl | rfl
          · exact ⟨c.1.1.2.1, by omega⟩
          · exact ⟨c.1.2.1, by omega⟩
          · exact ⟨c.2.1, by omega⟩
        · simp at hj; omega
      · simp at hj; omega

theorem width_pos (s : ByteArray) (pos : Nat) (h : pos < s.size) : 1 ≤ (Utf8.decode s pos).2 := by
  by_cases ha : (s[pos]'h).toNat < 128
  · rw [decode_ascii s pos h ha]; exact Nat.le_refl _
  · exact (decode_high s pos h (by omega)).2

/-- One character on: what the scan over characters has seen is what the scan over bytes has seen. -/
theorem pre_rune (s : ByteArray) (pos : Nat) (h : pos < s.size) :
    pre s (pos + (Utf8.decode s pos).2) = (pre s pos || (decide ((Utf8.decode s pos).1 < 32) || (Utf8.decode s pos).1 == 127)) := by
  by_cases ha : (s[pos]'h).toNat < 128
  · rw [decode_ascii s pos h ha]
    exact pre_succ s pos h
  · have hh := decode_high s pos h (by omega)
    rw [pre_high s pos _ (decode_conts s pos h (by omega))]
    have e1 : decide ((Utf8.decode s pos).1 < 32) = false := decide_eq_false (by omega)
    have e2 : ((Utf8.decode s pos).1 == 127) = false := by simp; omega
    rw [e1, e2]; simp
theorem pre_hit (s : ByteArray) (pos : Nat) (h : pos < s.size) (hr : (Utf8.decode s pos).1 < 32 ∨ (Utf8.decode s pos).1 = 127) : pre s (pos + (Utf8.decode s pos).2) = true := by
  rw [pre_rune s pos h]
  rcases hr with hr | hr <;> simp [hr]
theorem pre_miss (s : ByteArray) (pos : Nat) (h : pos < s.size) (h1 : ¬ (Utf8.decode s pos).1 < 32) (h2 : ¬ (Utf8.decode s pos).1 = 127) : pre s (pos + (Utf8.decode s pos).2) = pre s pos := by
  rw [pre_rune s pos h]
  simp [h1, h2]
end Go.Proofs.Qxb6605658a
