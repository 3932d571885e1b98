import Derived.Test.Qxb6605658aSix
namespace Go.Proofs.Qxb6605658a
open Go.ChangeShapes Go.WideShapes Go.ChangeAt Go.RowKit

set_option maxRecDepth 20000 in
set_option maxHeartbeats 4000000 in
theorem six_sn (x : Addr) (c0 c1 n : Nat) (ss vs : List ByteArray) (name v other : ByteArray) (w : World) (hn0 : ss.length = n) (hn1 : vs.length = n) (v0 : View w (some x) ss) (v1 : View w none vs) (h0 : n ≤ 65536)
    (s0 : (name.size : Int) ≤ 1048576) (s1 : (v.size : Int) ≤ 1048576) (s2 : (other.size : Int) ≤ 1048576) :
    Calls Try.prog 6 #[.slice (some x) n c0, .slice none n c1, .string name, .string v, .string other] w fun e w' => e = .returned (.bool true) ∧ Below w.heap.size w w' := by
  have B16 : Hid (Calls Try.prog 16 #[.slice (some x) n c0, .slice none n c1, .string name, .string v, .string other] w fun e w' => IsBool e ∧ w = w') := by
    have := bytes16_any (some x) none c0 c1 ss vs name v other w v0 v1 (by unfold maxLen; omega) (by unfold maxLen; omega) (by unfold maxLen; omega) (by unfold maxLen; omega) (by unfold maxLen; omega)
    rw [hn0, hn1] at this
    exact this
  have P13 : Hid (Calls Try.prog 13 #[.slice (some x) n c0, .slice none n c1, .int .i64 ((name.size : Int) + v.size + other.size)] w fun e w' => IsBool e ∧ w = w') := by
    have := pairs13_any (some x) none c0 c1 ss vs ((name.size : Int) + v.size + other.size) w v0 v1 (by omega) (by omega) (by omega) (by omega)
    rw [hn0, hn1] at this
    exact this
  have nil0 := fun w => run_neq_slice_nil_any (P := Try.prog) w 24 9 (some x) n c0 0 0 Try.underlying24
  have nil1 := fun w => run_neq_slice_nil_any (P := Try.prog) w 24 9 none n c1 0 0 Try.underlying24
  have hmk := make_str n (by omega)
  obtain ⟨w1, cp1, q1, bel1, z1⟩ := copied w x c0 ss v0
  rw [hn0] at cp1
  have V0 : View w1 (some ⟨w.heap.size, 0, none⟩) ss := View.own q1
  have V1 : View w1 none vs := v1.mono bel1
  have bel : Below w.heap.size w w1 := bel1
  clear q1 bel1 z1
  have HN0 : Hid (ss.length = n) := hn0
  have HN1 : Hid (vs.length = n) := hn1
  have H0 : (n : Int) ≤ 65536 := by omega
  clear hn0 hn1 v0 v1
  obtain ⟨r1, b1, hr1⟩ : ∃ r b, fwd ss vs name n = (r, b) := ⟨_, _, rfl⟩
  obtain ⟨r2, b2, hr2⟩ : ∃ r b, fwd ss vs other n = (r, b) := ⟨_, _, rfl⟩
  have R1 : Hid (fwd ss vs name n = (r1, b1)) := hr1
  have R2 : Hid (fwd ss vs other n = (r2, b2)) := hr2
  have R3 : Hid (fwd (ss ++ [name]) (vs ++ [v]) name (n + 1) = (v, true)) := by
    show _ = _
    rw [fwd_snoc ss vs name v name n HN0.out HN1.out]; simp
  have hR4 := fwd_snoc ss vs name v other n HN0.out HN1.out
  have hR5 := fwd_cons ss vs name v name n
  rw [hr1] at hR5
  rw [hr2] at hR4
  clear hr1 hr2
  by_cases hE : (other.toList == name.toList) = true
  · have hE' : (name.toList == other.toList) = true := by rw [beq_iff_eq] at hE ⊢; exact hE.symm
    rw [if_pos hE'] at hR4
    have R4 : Hid (fwd (ss ++ [name]) (vs ++ [v]) other (n + 1) = (v, true)) := hR4
    clear hR4 hE'
    cases b1
    · rw [if_neg (by simp), if_pos (by simp)] at hR5
      have R5 : Hid (fwd (name :: ss) (v :: vs) name (n + 1) = (v, true)) := hR5
      clear hR5
      go_enter Try.func6, Try.ntmps6
      go_wp2_with fail
      refine B16.out.mono ?_
      rintro e w' ⟨⟨v', rfl⟩, rfl⟩
      cases v'
      · go_wp2
        go_ret
        exact ⟨rfl, Below.refl _ _⟩
      go_wp2_with fail
      refine P13.out.mono ?_
      rintro e w' ⟨⟨v', rfl⟩, rfl⟩
      cases v'
      · go_wp2_with fail
        clear cp1 nil0 nil1 hmk
        refine (members_any _ _ _ _ n ss vs _ HN0.out HN1.out V0 V1 (by omega)).mono ?_
        rintro e w3 ⟨⟨am, cm, rfl, mv⟩, bel3⟩
        have V0' := V0.mono bel3
        have V1' := V1.mono bel3
        go_wp2_with fail
        refine (lookup_n _ _ _ ss vs name _ HN0.out mv (by omega) _ _ R1.out).mono ?_
        rintro e w' ⟨rfl, rfl⟩
        go_wp2_with fail
        refine (lookup_n _ _ _ ss vs other _ HN0.out mv (by omega) _ _ R2.out).mono ?_
        rintro e w' ⟨rfl, rfl⟩
        go_wp2_with fail
        refine (append_any _ _ n ss name _ HN0.out V0' h0).mono ?_
        rintro e w4 ⟨rfl, U0, bel4, _⟩
        go_wp2_with fail
        refine (append_any _ _ n vs v _ HN1.out (V1'.mono bel4) h0).mono ?_
        rintro e w5 ⟨rfl, U1, bel5, _⟩
        have U0' := U0.mono bel5
        have V0' := (V0'.mono bel4).mono bel5
        have V1' := (V1'.mono bel4).mono bel5
        go_wp2_with fail
        refine (members_any _ _ _ _ (n + 1) _ _ _ (by rw [List.length_append, HN0.out]; rfl) (by rw [List.length_append, HN1.out]; rfl) U0' U1 (by omega)).mono ?_
        rintro e w6 ⟨⟨ap, cp, rfl, mv2⟩, bel6⟩
        go_wp2_with fail
        refine (lookup_n _ _ _ _ _ name _ (by rw [List.length_append, HN0.out]; rfl) mv2 (by omega) _ _ R3.out).mono ?_
        rintro e w' ⟨rfl, rfl⟩
        go_wp2_with fail
        refine (lookup_n _ _ _ _ _ other _ (by rw [List.length_append, HN0.out]; rfl) mv2 (by omega) _ _ R4.out).mono ?_
        rintro e w' ⟨rfl, rfl⟩
        have V0' := V0'.mono bel6
        have V1' := V1'.mono bel6
        go_wp2_with fail
        refine (prepend_any _ _ n ss name _ HN0.out V0' h0).mono ?_
        rintro e w7 ⟨rfl, U2, bel7, _⟩
        go_wp2_with fail
        refine (prepend_any _ _ n vs v _ HN1.out (V1'.mono bel7) h0).mono ?_
        rintro e w8 ⟨rfl, U3, bel8, _⟩
        have U2' := U2.mono bel8
        go_wp2_with fail
        refine (members_any _ _ _ _ (n + 1) _ _ _ (by rw [List.length_cons, HN0.out]) (by rw [List.length_cons, HN1.out]) U2' U3 (by omega)).mono ?_
        rintro e w9 ⟨⟨aq, cq, rfl, mv3⟩, bel9⟩
        go_wp2_with fail
        refine (lookup_n _ _ _ _ _ name _ (by rw [List.length_cons, HN0.out]) mv3 (by omega) _ _ R5.out).mono ?_
        rintro e w' ⟨rfl, rfl⟩
        have BEL := below9 bel bel3 bel4 bel5 bel6 bel7 bel8 bel9
        clear bel bel3 bel4 bel5 bel6 bel7 bel8 bel9
        go_wp2
        go_ret
        exact ⟨rfl, BEL⟩
      · go_wp2
        go_ret
        exact ⟨rfl, Below.refl _ _⟩
    · rw [if_pos rfl] at hR5
      have R5 : Hid (fwd (name :: ss) (v :: vs) name (n + 1) = (r1, true)) := hR5
      clear hR5
      go_enter Try.func6, Try.ntmps6
      go_wp2_with fail
      refine B16.out.mono ?_
      rintro e w' ⟨⟨v', rfl⟩, rfl⟩
      cases v'
      · go_wp2
        go_ret
        exact ⟨rfl, Below.refl _ _⟩
      go_wp2_with fail
      refine P13.out.mono ?_
      rintro e w' ⟨⟨v', rfl⟩, rfl⟩
      cases v'
      · go_wp2_with fail
        clear cp1 nil0 nil1 hmk
        refine (members_any _ _ _ _ n ss vs _ HN0.out HN1.out V0 V1 (by omega)).mono ?_
        rintro e w3 ⟨⟨am, cm, rfl, mv⟩, bel3⟩
        have V0' := V0.mono bel3
        have V1' := V1.mono bel3
        go_wp2_with fail
        refine (lookup_n _ _ _ ss vs name _ HN0.out mv (by omega) _ _ R1.out).mono ?_
        rintro e w' ⟨rfl, rfl⟩
        go_wp2_with fail
        refine (lookup_n _ _ _ ss vs other _ HN0.out mv (by omega) _ _ R2.out).mono ?_
        rintro e w' ⟨rfl, rfl⟩
        go_wp2_with fail
        refine (append_any _ _ n ss name _ HN0.out V0' h0).mono ?_
        rintro e w4 ⟨rfl, U0, bel4, _⟩
        go_wp2_with fail
        refine (append_any _ _ n vs v _ HN1.out (V1'.mono bel4) h0).mono ?_
        rintro e w5 ⟨rfl, U1, bel5, _⟩
        have U0' := U0.mono bel5
        have V0' := (V0'.mono bel4).mono bel5
        have V1' := (V1'.mono bel4).mono bel5
        go_wp2_with fail
        refine (members_any _ _ _ _ (n + 1) _ _ _ (by rw [List.length_append, HN0.out]; rfl) (by rw [List.length_append, HN1.out]; rfl) U0' U1 (by omega)).mono ?_
        rintro e w6 ⟨⟨ap, cp, rfl, mv2⟩, bel6⟩
        go_wp2_with fail
        refine (lookup_n _ _ _ _ _ name _ (by rw [List.length_append, HN0.out]; rfl) mv2 (by omega) _ _ R3.out).mono ?_
        rintro e w' ⟨rfl, rfl⟩
        go_wp2_with fail
        refine (lookup_n _ _ _ _ _ other _ (by rw [List.length_append, HN0.out]; rfl) mv2 (by omega) _ _ R4.out).mono ?_
        rintro e w' ⟨rfl, rfl⟩
        have V0' := V0'.mono bel6
        have V1' := V1'.mono bel6
        go_wp2_with fail
        refine (prepend_any _ _ n ss name _ HN0.out V0' h0).mono ?_
        rintro e w7 ⟨rfl, U2, bel7, _⟩
        go_wp2_with fail
        refine (prepend_any _ _ n vs v _ HN1.out (V1'.mono bel7) h0).mono ?_
        rintro e w8 ⟨rfl, U3, bel8, _⟩
        have U2' := U2.mono bel8
        go_wp2_with fail
        refine (members_any _ _ _ _ (n + 1) _ _ _ (by rw [List.length_cons, HN0.out]) (by rw [List.length_cons, HN1.out]) U2' U3 (by omega)).mono ?_
        rintro e w9 ⟨⟨aq, cq, rfl, mv3⟩, bel9⟩
        go_wp2_with fail
        refine (lookup_n _ _ _ _ _ name _ (by rw [List.length_cons, HN0.out]) mv3 (by omega) _ _ R5.out).mono ?_
        rintro e w' ⟨rfl, rfl⟩
        have BEL := below9 bel bel3 bel4 bel5 bel6 bel7 bel8 bel9
        clear bel bel3 bel4 bel5 bel6 bel7 bel8 bel9
        go_wp2
        go_ret
        exact ⟨rfl, BEL⟩
      · go_wp2
        go_ret
        exact ⟨rfl, Below.refl _ _⟩
  · have hE' : ¬ (name.toList == other.toList) = true := by rw [beq_iff_eq] at hE ⊢; exact fun h => hE h.symm
    rw [if_neg hE'] at hR4
    have R4 : Hid (fwd (ss ++ [name]) (vs ++ [v]) other (n + 1) = (r2, b2)) := hR4
    have hE0 : (other.toList == name.toList) = false := by simpa using hE
    clear hR4 hE' hE
    cases b1
    · rw [if_neg (by simp), if_pos (by simp)] at hR5
      have R5 : Hid (fwd (name :: ss) (v :: vs) name (n + 1) = (v, true)) := hR5
      clear hR5
      go_enter Try.func6, Try.ntmps6
      go_wp2_with fail
      refine B16.out.mono ?_
      rintro e w' ⟨⟨v', rfl⟩, rfl⟩
      cases v'
      · go_wp2
        go_ret
        exact ⟨rfl, Below.refl _ _⟩
      go_wp2_with fail
      refine P13.out.mono ?_
      rintro e w' ⟨⟨v', rfl⟩, rfl⟩
      cases v'
      · go_wp2_with fail
        clear cp1 nil0 nil1 hmk
        refine (members_any _ _ _ _ n ss vs _ HN0.out HN1.out V0 V1 (by omega)).mono ?_
        rintro e w3 ⟨⟨am, cm, rfl, mv⟩, bel3⟩
        have V0' := V0.mono bel3
        have V1' := V1.mono bel3
        go_wp2_with fail
        refine (lookup_n _ _ _ ss vs name _ HN0.out mv (by omega) _ _ R1.out).mono ?_
        rintro e w' ⟨rfl, rfl⟩
        go_wp2_with fail
        refine (lookup_n _ _ _ ss vs other _ HN0.out mv (by omega) _ _ R2.out).mono ?_
        rintro e w' ⟨rfl, rfl⟩
        go_wp2_with fail
        refine (append_any _ _ n ss name _ HN0.out V0' h0).mono ?_
        rintro e w4 ⟨rfl, U0, bel4, _⟩
        go_wp2_with fail
        refine (append_any _ _ n vs v _ HN1.out (V1'.mono bel4) h0).mono ?_
        rintro e w5 ⟨rfl, U1, bel5, _⟩
        have U0' := U0.mono bel5
        have V0' := (V0'.mono bel4).mono bel5
        have V1' := (V1'.mono bel4).mono bel5
        go_wp2_with fail
        refine (members_any _ _ _ _ (n + 1) _ _ _ (by rw [List.length_append, HN0.out]; rfl) (by rw [List.length_append, HN1.out]; rfl) U0' U1 (by omega)).mono ?_
        rintro e w6 ⟨⟨ap, cp, rfl, mv2⟩, bel6⟩
        go_wp2_with fail
        refine (lookup_n _ _ _ _ _ name _ (by rw [List.length_append, HN0.out]; rfl) mv2 (by omega) _ _ R3.out).mono ?_
        rintro e w' ⟨rfl, rfl⟩
        go_wp2_with fail
        refine (lookup_n _ _ _ _ _ other _ (by rw [List.length_append, HN0.out]; rfl) mv2 (by omega) _ _ R4.out).mono ?_
        rintro e w' ⟨rfl, rfl⟩
        have V0' := V0'.mono bel6
        have V1' := V1'.mono bel6
        go_wp2_with fail
        refine (prepend_any _ _ n ss name _ HN0.out V0' h0).mono ?_
        rintro e w7 ⟨rfl, U2, bel7, _⟩
        go_wp2_with fail
        refine (prepend_any _ _ n vs v _ HN1.out (V1'.mono bel7) h0).mono ?_
        rintro e w8 ⟨rfl, U3, bel8, _⟩
        have U2' := U2.mono bel8
        go_wp2_with fail
        refine (members_any _ _ _ _ (n + 1) _ _ _ (by rw [List.length_cons, HN0.out]) (by rw [List.length_cons, HN1.out]) U2' U3 (by omega)).mono ?_
        rintro e w9 ⟨⟨aq, cq, rfl, mv3⟩, bel9⟩
        go_wp2_with fail
        refine (lookup_n _ _ _ _ _ name _ (by rw [List.length_cons, HN0.out]) mv3 (by omega) _ _ R5.out).mono ?_
        rintro e w' ⟨rfl, rfl⟩
        have BEL := below9 bel bel3 bel4 bel5 bel6 bel7 bel8 bel9
        clear bel bel3 bel4 bel5 bel6 bel7 bel8 bel9
        go_wp2
        go_ret
        exact ⟨rfl, BEL⟩
      · go_wp2
        go_ret
        exact ⟨rfl, Below.refl _ _⟩
    · rw [if_pos rfl] at hR5
      have R5 : Hid (fwd (name :: ss) (v :: vs) name (n + 1) = (r1, true)) := hR5
      clear hR5
      go_enter Try.func6, Try.ntmps6
      go_wp2_with fail
      refine B16.out.mono ?_
      rintro e w' ⟨⟨v', rfl⟩, rfl⟩
      cases v'
      · go_wp2
        go_ret
        exact ⟨rfl, Below.refl _ _⟩
      go_wp2_with fail
      refine P13.out.mono ?_
      rintro e w' ⟨⟨v', rfl⟩, rfl⟩
      cases v'
      · go_wp2_with fail
        clear cp1 nil0 nil1 hmk
        refine (members_any _ _ _ _ n ss vs _ HN0.out HN1.out V0 V1 (by omega)).mono ?_
        rintro e w3 ⟨⟨am, cm, rfl, mv⟩, bel3⟩
        have V0' := V0.mono bel3
        have V1' := V1.mono bel3
        go_wp2_with fail
        refine (lookup_n _ _ _ ss vs name _ HN0.out mv (by omega) _ _ R1.out).mono ?_
        rintro e w' ⟨rfl, rfl⟩
        go_wp2_with fail
        refine (lookup_n _ _ _ ss vs other _ HN0.out mv (by omega) _ _ R2.out).mono ?_
        rintro e w' ⟨rfl, rfl⟩
        go_wp2_with fail
        refine (append_any _ _ n ss name _ HN0.out V0' h0).mono ?_
        rintro e w4 ⟨rfl, U0, bel4, _⟩
        go_wp2_with fail
        refine (append_any _ _ n vs v _ HN1.out (V1'.mono bel4) h0).mono ?_
        rintro e w5 ⟨rfl, U1, bel5, _⟩
        have U0' := U0.mono bel5
        have V0' := (V0'.mono bel4).mono bel5
        have V1' := (V1'.mono bel4).mono bel5
        go_wp2_with fail
        refine (members_any _ _ _ _ (n + 1) _ _ _ (by rw [List.length_append, HN0.out]; rfl) (by rw [List.length_append, HN1.out]; rfl) U0' U1 (by omega)).mono ?_
        rintro e w6 ⟨⟨ap, cp, rfl, mv2⟩, bel6⟩
        go_wp2_with fail
        refine (lookup_n _ _ _ _ _ name _ (by rw [List.length_append, HN0.out]; rfl) mv2 (by omega) _ _ R3.out).mono ?_
        rintro e w' ⟨rfl, rfl⟩
        go_wp2_with fail
        refine (lookup_n _ _ _ _ _ other _ (by rw [List.length_append, HN0.out]; rfl) mv2 (by omega) _ _ R4.out).mono ?_
        rintro e w' ⟨rfl, rfl⟩
        have V0' := V0'.mono bel6
        have V1' := V1'.mono bel6
        go_wp2_with fail
        refine (prepend_any _ _ n ss name _ HN0.out V0' h0).mono ?_
        rintro e w7 ⟨rfl, U2, bel7, _⟩
        go_wp2_with fail
        refine (prepend_any _ _ n vs v _ HN1.out (V1'.mono bel7) h0).mono ?_
        rintro e w8 ⟨rfl, U3, bel8, _⟩
        have U2' := U2.mono bel8
        go_wp2_with fail
        refine (members_any _ _ _ _ (n + 1) _ _ _ (by rw [List.length_cons, HN0.out]) (by rw [List.length_cons, HN1.out]) U2' U3 (by omega)).mono ?_
        rintro e w9 ⟨⟨aq, cq, rfl, mv3⟩, bel9⟩
        go_wp2_with fail
        refine (lookup_n _ _ _ _ _ name _ (by rw [List.length_cons, HN0.out]) mv3 (by omega) _ _ R5.out).mono ?_
        rintro e w' ⟨rfl, rfl⟩
        have BEL := below9 bel bel3 bel4 bel5 bel6 bel7 bel8 bel9
        clear bel bel3 bel4 bel5 bel6 bel7 bel8 bel9
        go_wp2
        go_ret
        exact ⟨rfl, BEL⟩
      · go_wp2
        go_ret
        exact ⟨rfl, Below.refl _ _⟩

set_option maxRecDepth 20000 in
set_option maxHeartbeats 4000000 in
theorem six_ns (y : Addr) (c0 c1 n : Nat) (ss vs : List ByteArray) (name v other : ByteArray) (w : World) (hn0 : ss.length = n) (hn1 : vs.length = n) (v0 : View w none ss) (v1 : View w (some y) vs) (h0 : n ≤ 65536)
    (s0 : (name.size : Int) ≤ 1048576) (s1 : (v.size : Int) ≤ 1048576) (s2 : (other.size : Int) ≤ 1048576) :
    Calls Try.prog 6 #[.slice none n c0, .slice (some y) n c1, .string name, .string v, .string other] w fun e w' => e = .returned (.bool true) ∧ Below w.heap.size w w' := by
  have B16 : Hid (Calls Try.prog 16 #[.slice none n c0, .slice (some y) n c1, .string name, .string v, .string other] w fun e w' => IsBool e ∧ w = w') := by
    have := bytes16_any none (some y) c0 c1 ss vs name v other w v0 v1 (by unfold maxLen; omega) (by unfold maxLen; omega) (by unfold maxLen; omega) (by unfold maxLen; omega) (by unfold maxLen; omega)
    rw [hn0, hn1] at this
    exact this
  have P13 : Hid (Calls Try.prog 13 #[.slice none n c0, .slice (some y) n c1, .int .i64 ((name.size : Int) + v.size + other.size)] w fun e w' => IsBool e ∧ w = w') := by
    have := pairs13_any none (some y) c0 c1 ss vs ((name.size : Int) + v.size + other.size) w v0 v1 (by omega) (by omega) (by omega) (by omega)
    rw [hn0, hn1] at this
    exact this
  have nil0 := fun w => run_neq_slice_nil_any (P := Try.prog) w 24 9 none n c0 0 0 Try.underlying24
  have nil1 := fun w => run_neq_slice_nil_any (P := Try.prog) w 24 9 (some y) n c1 0 0 Try.underlying24
  have hmk := make_str n (by omega)
  obtain ⟨w1, cp1, q1, bel1, z1⟩ := copied w y c1 vs v1
  rw [hn1] at cp1
  have V0 : View w1 none ss := v0.mono bel1
  have V1 : View w1 (some ⟨w.heap.size, 0, none⟩) vs := View.own q1
  have bel : Below w.heap.size w w1 := bel1
  clear q1 bel1 z1
  have HN0 : Hid (ss.length = n) := hn0
  have HN1 : Hid (vs.length = n) := hn1
  have H0 : (n : Int) ≤ 65536 := by omega
  clear hn0 hn1 v0 v1
  obtain ⟨r1, b1, hr1⟩ : ∃ r b, fwd ss vs name n = (r, b) := ⟨_, _, rfl⟩
  obtain ⟨r2, b2, hr2⟩ : ∃ r b, fwd ss vs other n = (r, b) := ⟨_, _, rfl⟩
  have R1 : Hid (fwd ss vs name n = (r1, b1)) := hr1
  have R2 : Hid (fwd ss vs other n = (r2, b2)) := hr2
  have R3 : Hid (fwd (ss ++ [name]) (vs ++ [v]) name (n + 1) = (v, true)) := by
    show _ = _
    rw [fwd_snoc ss vs name v name n HN0.out HN1.out]; simp
  have hR4 := fwd_snoc ss vs name v other n HN0.out HN1.out
  have hR5 := fwd_cons ss vs name v name n
  rw [hr1] at hR5
  rw [hr2] at hR4
  clear hr1 hr2
  by_cases hE : (other.toList == name.toList) = true
  · have hE' : (name.toList == other.toList) = true := by rw [beq_iff_eq] at hE ⊢; exact hE.symm
    rw [if_pos hE'] at hR4
    have R4 : Hid (fwd (ss ++ [name]) (vs ++ [v]) other (n + 1) = (v, true)) := hR4
    clear hR4 hE'
    cases b1
    · rw [if_neg (by simp), if_pos (by simp)] at hR5
      have R5 : Hid (fwd (name :: ss) (v :: vs) name (n + 1) = (v, true)) := hR5
      clear hR5
      go_enter Try.func6, Try.ntmps6
      go_wp2_with fail
      refine B16.out.mono ?_
      rintro e w' ⟨⟨v', rfl⟩, rfl⟩
      cases v'
      · go_wp2
        go_ret
        exact ⟨rfl, Below.refl _ _⟩
      go_wp2_with fail
      refine P13.out.mono ?_
      rintro e w' ⟨⟨v', rfl⟩, rfl⟩
      cases v'
      · go_wp2_with fail
        clear cp1 nil0 nil1 hmk
        refine (members_any _ _ _ _ n ss vs _ HN0.out HN1.out V0 V1 (by omega)).mono ?_
        rintro e w3 ⟨⟨am, cm, rfl, mv⟩, bel3⟩
        have V0' := V0.mono bel3
        have V1' := V1.mono bel3
        go_wp2_with fail
        refine (lookup_n _ _ _ ss vs name _ HN0.out mv (by omega) _ _ R1.out).mono ?_
        rintro e w' ⟨rfl, rfl⟩
        go_wp2_with fail
        refine (lookup_n _ _ _ ss vs other _ HN0.out mv (by omega) _ _ R2.out).mono ?_
        rintro e w' ⟨rfl, rfl⟩
        go_wp2_with fail
        refine (append_any _ _ n ss name _ HN0.out V0' h0).mono ?_
        rintro e w4 ⟨rfl, U0, bel4, _⟩
        go_wp2_with fail
        refine (append_any _ _ n vs v _ HN1.out (V1'.mono bel4) h0).mono ?_
        rintro e w5 ⟨rfl, U1, bel5, _⟩
        have U0' := U0.mono bel5
        have V0' := (V0'.mono bel4).mono bel5
        have V1' := (V1'.mono bel4).mono bel5
        go_wp2_with fail
        refine (members_any _ _ _ _ (n + 1) _ _ _ (by rw [List.length_append, HN0.out]; rfl) (by rw [List.length_append, HN1.out]; rfl) U0' U1 (by omega)).mono ?_
        rintro e w6 ⟨⟨ap, cp, rfl, mv2⟩, bel6⟩
        go_wp2_with fail
        refine (lookup_n _ _ _ _ _ name _ (by rw [List.length_append, HN0.out]; rfl) mv2 (by omega) _ _ R3.out).mono ?_
        rintro e w' ⟨rfl, rfl⟩
        go_wp2_with fail
        refine (lookup_n _ _ _ _ _ other _ (by rw [List.length_append, HN0.out]; rfl) mv2 (by omega) _ _ R4.out).mono ?_
        rintro e w' ⟨rfl, rfl⟩
        have V0' := V0'.mono bel6
        have V1' := V1'.mono bel6
        go_wp2_with fail
        refine (prepend_any _ _ n ss name _ HN0.out V0' h0).mono ?_
        rintro e w7 ⟨rfl, U2, bel7, _⟩
        go_wp2_with fail
        refine (prepend_any _ _ n vs v _ HN1.out (V1'.mono bel7) h0).mono ?_
        rintro e w8 ⟨rfl, U3, bel8, _⟩
        have U2' := U2.mono bel8
        go_wp2_with fail
        refine (members_any _ _ _ _ (n + 1) _ _ _ (by rw [List.length_cons, HN0.out]) (by rw [List.length_cons, HN1.out]) U2' U3 (by omega)).mono ?_
        rintro e w9 ⟨⟨aq, cq, rfl, mv3⟩, bel9⟩
        go_wp2_with fail
        refine (lookup_n _ _ _ _ _ name _ (by rw [List.length_cons, HN0.out]) mv3 (by omega) _ _ R5.out).mono ?_
        rintro e w' ⟨rfl, rfl⟩
        have BEL := below9 bel bel3 bel4 bel5 bel6 bel7 bel8 bel9
        clear bel bel3 bel4 bel5 bel6 bel7 bel8 bel9
        go_wp2
        go_ret
        exact ⟨rfl, BEL⟩
      · go_wp2
        go_ret
        exact ⟨rfl, Below.refl _ _⟩
    · rw [if_pos rfl] at hR5
      have R5 : Hid (fwd (name :: ss) (v :: vs) name (n + 1) = (r1, true)) := hR5
      clear hR5
      go_enter Try.func6, Try.ntmps6
      go_wp2_with fail
      refine B16.out.mono ?_
      rintro e w' ⟨⟨v', rfl⟩, rfl⟩
      cases v'
      · go_wp2
        go_ret
        exact ⟨rfl, Below.refl _ _⟩
      go_wp2_with fail
      refine P13.out.mono ?_
      rintro e w' ⟨⟨v', rfl⟩, rfl⟩
      cases v'
      · go_wp2_with fail
        clear cp1 nil0 nil1 hmk
        refine (members_any _ _ _ _ n ss vs _ HN0.out HN1.out V0 V1 (by omega)).mono ?_
        rintro e w3 ⟨⟨am, cm, rfl, mv⟩, bel3⟩
        have V0' := V0.mono bel3
        have V1' := V1.mono bel3
        go_wp2_with fail
        refine (lookup_n _ _ _ ss vs name _ HN0.out mv (by omega) _ _ R1.out).mono ?_
        rintro e w' ⟨rfl, rfl⟩
        go_wp2_with fail
        refine (lookup_n _ _ _ ss vs other _ HN0.out mv (by omega) _ _ R2.out).mono ?_
        rintro e w' ⟨rfl, rfl⟩
        go_wp2_with fail
        refine (append_any _ _ n ss name _ HN0.out V0' h0).mono ?_
        rintro e w4 ⟨rfl, U0, bel4, _⟩
        go_wp2_with fail
        refine (append_any _ _ n vs v _ HN1.out (V1'.mono bel4) h0).mono ?_
        rintro e w5 ⟨rfl, U1, bel5, _⟩
        have U0' := U0.mono bel5
        have V0' := (V0'.mono bel4).mono bel5
        have V1' := (V1'.mono bel4).mono bel5
        go_wp2_with fail
        refine (members_any _ _ _ _ (n + 1) _ _ _ (by rw [List.length_append, HN0.out]; rfl) (by rw [List.length_append, HN1.out]; rfl) U0' U1 (by omega)).mono ?_
        rintro e w6 ⟨⟨ap, cp, rfl, mv2⟩, bel6⟩
        go_wp2_with fail
        refine (lookup_n _ _ _ _ _ name _ (by rw [List.length_append, HN0.out]; rfl) mv2 (by omega) _ _ R3.out).mono ?_
        rintro e w' ⟨rfl, rfl⟩
        go_wp2_with fail
        refine (lookup_n _ _ _ _ _ other _ (by rw [List.length_append, HN0.out]; rfl) mv2 (by omega) _ _ R4.out).mono ?_
        rintro e w' ⟨rfl, rfl⟩
        have V0' := V0'.mono bel6
        have V1' := V1'.mono bel6
        go_wp2_with fail
        refine (prepend_any _ _ n ss name _ HN0.out V0' h0).mono ?_
        rintro e w7 ⟨rfl, U2, bel7, _⟩
        go_wp2_with fail
        refine (prepend_any _ _ n vs v _ HN1.out (V1'.mono bel7) h0).mono ?_
        rintro e w8 ⟨rfl, U3, bel8, _⟩
        have U2' := U2.mono bel8
        go_wp2_with fail
        refine (members_any _ _ _ _ (n + 1) _ _ _ (by rw [List.length_cons, HN0.out]) (by rw [List.length_cons, HN1.out]) U2' U3 (by omega)).mono ?_
        rintro e w9 ⟨⟨aq, cq, rfl, mv3⟩, bel9⟩
        go_wp2_with fail
        refine (lookup_n _ _ _ _ _ name _ (by rw [List.length_cons, HN0.out]) mv3 (by omega) _ _ R5.out).mono ?_
        rintro e w' ⟨rfl, rfl⟩
        have BEL := below9 bel bel3 bel4 bel5 bel6 bel7 bel8 bel9
        clear bel bel3 bel4 bel5 bel6 bel7 bel8 bel9
        go_wp2
        go_ret
        exact ⟨rfl, BEL⟩
      · go_wp2
        go_ret
        exact ⟨rfl, Below.refl _ _⟩
  · have hE' : ¬ (name.toList == other.toList) = true := by rw [beq_iff_eq] at hE ⊢; exact fun h => hE h.symm
    rw [if_neg hE'] at hR4
    have R4 : Hid (fwd (ss ++ [name]) (vs ++ [v]) other (n + 1) = (r2, b2)) := hR4
    have hE0 : (other.toList == name.toList) = false := by simpa using hE
    clear hR4 hE' hE
    cases b1
    · rw [if_neg (by simp), if_pos (by simp)] at hR5
      have R5 : Hid (fwd (name :: ss) (v :: vs) name (n + 1) = (v, true)) := hR5
      clear hR5
      go_enter Try.func6, Try.ntmps6
      go_wp2_with fail
      refine B16.out.mono ?_
      rintro e w' ⟨⟨v', rfl⟩, rfl⟩
      cases v'
      · go_wp2
        go_ret
        exact ⟨rfl, Below.refl _ _⟩
      go_wp2_with fail
      refine P13.out.mono ?_
      rintro e w' ⟨⟨v', rfl⟩, rfl⟩
      cases v'
      · go_wp2_with fail
        clear cp1 nil0 nil1 hmk
        refine (members_any _ _ _ _ n ss vs _ HN0.out HN1.out V0 V1 (by omega)).mono ?_
        rintro e w3 ⟨⟨am, cm, rfl, mv⟩, bel3⟩
        have V0' := V0.mono bel3
        have V1' := V1.mono bel3
        go_wp2_with fail
        refine (lookup_n _ _ _ ss vs name _ HN0.out mv (by omega) _ _ R1.out).mono ?_
        rintro e w' ⟨rfl, rfl⟩
        go_wp2_with fail
        refine (lookup_n _ _ _ ss vs other _ HN0.out mv (by omega) _ _ R2.out).mono ?_
        rintro e w' ⟨rfl, rfl⟩
        go_wp2_with fail
        refine (append_any _ _ n ss name _ HN0.out V0' h0).mono ?_
        rintro e w4 ⟨rfl, U0, bel4, _⟩
        go_wp2_with fail
        refine (append_any _ _ n vs v _ HN1.out (V1'.mono bel4) h0).mono ?_
        rintro e w5 ⟨rfl, U1, bel5, _⟩
        have U0' := U0.mono bel5
        have V0' := (V0'.mono bel4).mono bel5
        have V1' := (V1'.mono bel4).mono bel5
        go_wp2_with fail
        refine (members_any _ _ _ _ (n + 1) _ _ _ (by rw [List.length_append, HN0.out]; rfl) (by rw [List.length_append, HN1.out]; rfl) U0' U1 (by omega)).mono ?_
        rintro e w6 ⟨⟨ap, cp, rfl, mv2⟩, bel6⟩
        go_wp2_with fail
        refine (lookup_n _ _ _ _ _ name _ (by rw [List.length_append, HN0.out]; rfl) mv2 (by omega) _ _ R3.out).mono ?_
        rintro e w' ⟨rfl, rfl⟩
        go_wp2_with fail
        refine (lookup_n _ _ _ _ _ other _ (by rw [List.length_append, HN0.out]; rfl) mv2 (by omega) _ _ R4.out).mono ?_
        rintro e w' ⟨rfl, rfl⟩
        have V0' := V0'.mono bel6
        have V1' := V1'.mono bel6
        go_wp2_with fail
        refine (prepend_any _ _ n ss name _ HN0.out V0' h0).mono ?_
        rintro e w7 ⟨rfl, U2, bel7, _⟩
        go_wp2_with fail
        refine (prepend_any _ _ n vs v _ HN1.out (V1'.mono bel7) h0).mono ?_
        rintro e w8 ⟨rfl, U3, bel8, _⟩
        have U2' := U2.mono bel8
        go_wp2_with fail
        refine (members_any _ _ _ _ (n + 1) _ _ _ (by rw [List.length_cons, HN0.out]) (by rw [List.length_cons, HN1.out]) U2' U3 (by omega)).mono ?_
        rintro e w9 ⟨⟨aq, cq, rfl, mv3⟩, bel9⟩
        go_wp2_with fail
        refine (lookup_n _ _ _ _ _ name _ (by rw [List.length_cons, HN0.out]) mv3 (by omega) _ _ R5.out).mono ?_
        rintro e w' ⟨rfl, rfl⟩
        have BEL := below9 bel bel3 bel4 bel5 bel6 bel7 bel8 bel9
        clear bel bel3 bel4 bel5 bel6 bel7 bel8 bel9
        go_wp2
        go_ret
        exact ⟨rfl, BEL⟩
      · go_wp2
        go_ret
        exact ⟨rfl, Below.refl _ _⟩
    · rw [if_pos rfl] at hR5
      have R5 : Hid (fwd (name :: ss) (v :: vs) name (n + 1) = (r1, true)) := hR5
      clear hR5
      go_enter Try.func6, Try.ntmps6
      go_wp2_with fail
      refine B16.out.mono ?_
      rintro e w' ⟨⟨v', rfl⟩, rfl⟩
      cases v'
      · go_wp2
        go_ret
        exact ⟨rfl, Below.refl _ _⟩
      go_wp2_with fail
      refine P13.out.mono ?_
      rintro e w' ⟨⟨v', rfl⟩, rfl⟩
      cases v'
      · go_wp2_with fail
        clear cp1 nil0 nil1 hmk
        refine (members_any _ _ _ _ n ss vs _ HN0.out HN1.out V0 V1 (by omega)).mono ?_
        rintro e w3 ⟨⟨am, cm, rfl, mv⟩, bel3⟩
        have V0' := V0.mono bel3
        have V1' := V1.mono bel3
        go_wp2_with fail
        refine (lookup_n _ _ _ ss vs name _ HN0.out mv (by omega) _ _ R1.out).mono ?_
        rintro e w' ⟨rfl, rfl⟩
        go_wp2_with fail
        refine (lookup_n _ _ _ ss vs other _ HN0.out mv (by omega) _ _ R2.out).mono ?_
        rintro e w' ⟨rfl, rfl⟩
        go_wp2_with fail
        refine (append_any _ _ n ss name _ HN0.out V0' h0).mono ?_
        rintro e w4 ⟨rfl, U0, bel4, _⟩
        go_wp2_with fail
        refine (append_any _ _ n vs v _ HN1.out (V1'.mono bel4) h0).mono ?_
        rintro e w5 ⟨rfl, U1, bel5, _⟩
        have U0' := U0.mono bel5
        have V0' := (V0'.mono bel4).mono bel5
        have V1' := (V1'.mono bel4).mono bel5
        go_wp2_with fail
        refine (members_any _ _ _ _ (n + 1) _ _ _ (by rw [List.length_append, HN0.out]; rfl) (by rw [List.length_append, HN1.out]; rfl) U0' U1 (by omega)).mono ?_
        rintro e w6 ⟨⟨ap, cp, rfl, mv2⟩, bel6⟩
        go_wp2_with fail
        refine (lookup_n _ _ _ _ _ name _ (by rw [List.length_append, HN0.out]; rfl) mv2 (by omega) _ _ R3.out).mono ?_
        rintro e w' ⟨rfl, rfl⟩
        go_wp2_with fail
        refine (lookup_n _ _ _ _ _ other _ (by rw [List.length_append, HN0.out]; rfl) mv2 (by omega) _ _ R4.out).mono ?_
        rintro e w' ⟨rfl, rfl⟩
        have V0' := V0'.mono bel6
        have V1' := V1'.mono bel6
        go_wp2_with fail
        refine (prepend_any _ _ n ss name _ HN0.out V0' h0).mono ?_
        rintro e w7 ⟨rfl, U2, bel7, _⟩
        go_wp2_with fail
        refine (prepend_any _ _ n vs v _ HN1.out (V1'.mono bel7) h0).mono ?_
        rintro e w8 ⟨rfl, U3, bel8, _⟩
        have U2' := U2.mono bel8
        go_wp2_with fail
        refine (members_any _ _ _ _ (n + 1) _ _ _ (by rw [List.length_cons, HN0.out]) (by rw [List.length_cons, HN1.out]) U2' U3 (by omega)).mono ?_
        rintro e w9 ⟨⟨aq, cq, rfl, mv3⟩, bel9⟩
        go_wp2_with fail
        refine (lookup_n _ _ _ _ _ name _ (by rw [List.length_cons, HN0.out]) mv3 (by omega) _ _ R5.out).mono ?_
        rintro e w' ⟨rfl, rfl⟩
        have BEL := below9 bel bel3 bel4 bel5 bel6 bel7 bel8 bel9
        clear bel bel3 bel4 bel5 bel6 bel7 bel8 bel9
        go_wp2
        go_ret
        exact ⟨rfl, BEL⟩
      · go_wp2
        go_ret
        exact ⟨rfl, Below.refl _ _⟩

set_option maxRecDepth 20000 in
set_option maxHeartbeats 4000000 in
theorem six_nn  (c0 c1 n : Nat) (ss vs : List ByteArray) (name v other : ByteArray) (w : World) (hn0 : ss.length = n) (hn1 : vs.length = n) (v0 : View w none ss) (v1 : View w none vs) (h0 : n ≤ 65536)
    (s0 : (name.size : Int) ≤ 1048576) (s1 : (v.size : Int) ≤ 1048576) (s2 : (other.size : Int) ≤ 1048576) :
    Calls Try.prog 6 #[.slice none n c0, .slice none n c1, .string name, .string v, .string other] w fun e w' => e = .returned (.bool true) ∧ Below w.heap.size w w' := by
  have B16 : Hid (Calls Try.prog 16 #[.slice none n c0, .slice none n c1, .string name, .string v, .string other] w fun e w' => IsBool e ∧ w = w') := by
    have := bytes16_any none none c0 c1 ss vs name v other w v0 v1 (by unfold maxLen; omega) (by unfold maxLen; omega) (by unfold maxLen; omega) (by unfold maxLen; omega) (by unfold maxLen; omega)
    rw [hn0, hn1] at this
    exact this
  have P13 : Hid (Calls Try.prog 13 #[.slice none n c0, .slice none n c1, .int .i64 ((name.size : Int) + v.size + other.size)] w fun e w' => IsBool e ∧ w = w') := by
    have := pairs13_any none none c0 c1 ss vs ((name.size : Int) + v.size + other.size) w v0 v1 (by omega) (by omega) (by omega) (by omega)
    rw [hn0, hn1] at this
    exact this
  have nil0 := fun w => run_neq_slice_nil_any (P := Try.prog) w 24 9 none n c0 0 0 Try.underlying24
  have nil1 := fun w => run_neq_slice_nil_any (P := Try.prog) w 24 9 none n c1 0 0 Try.underlying24
  have hmk := make_str n (by omega)
  have V0 := v0
  have V1 := v1
  have bel : Below w.heap.size w w := Below.refl _ _
  have HN0 : Hid (ss.length = n) := hn0
  have HN1 : Hid (vs.length = n) := hn1
  have H0 : (n : Int) ≤ 65536 := by omega
  clear hn0 hn1 v0 v1
  obtain ⟨r1, b1, hr1⟩ : ∃ r b, fwd ss vs name n = (r, b) := ⟨_, _, rfl⟩
  obtain ⟨r2, b2, hr2⟩ : ∃ r b, fwd ss vs other n = (r, b) := ⟨_, _, rfl⟩
  have R1 : Hid (fwd ss vs name n = (r1, b1)) := hr1
  have R2 : Hid (fwd ss vs other n = (r2, b2)) := hr2
  have R3 : Hid (fwd (ss ++ [name]) (vs ++ [v]) name (n + 1) = (v, true)) := by
    show _ = _
    rw [fwd_snoc ss vs name v name n HN0.out HN1.out]; simp
  have hR4 := fwd_snoc ss vs name v other n HN0.out HN1.out
  have hR5 := fwd_cons ss vs name v name n
  rw [hr1] at hR5
  rw [hr2] at hR4
  clear hr1 hr2
  by_cases hE : (other.toList == name.toList) = true
  · have hE' : (name.toList == other.toList) = true := by rw [beq_iff_eq] at hE ⊢; exact hE.symm
    rw [if_pos hE'] at hR4
    have R4 : Hid (fwd (ss ++ [name]) (vs ++ [v]) other (n + 1) = (v, true)) := hR4
    clear hR4 hE'
    cases b1
    · rw [if_neg (by simp), if_pos (by simp)] at hR5
      have R5 : Hid (fwd (name :: ss) (v :: vs) name (n + 1) = (v, true)) := hR5
      clear hR5
      go_enter Try.func6, Try.ntmps6
      go_wp2_with fail
      refine B16.out.mono ?_
      rintro e w' ⟨⟨v', rfl⟩, rfl⟩
      cases v'
      · go_wp2
        go_ret
        exact ⟨rfl, Below.refl _ _⟩
      go_wp2_with fail
      refine P13.out.mono ?_
      rintro e w' ⟨⟨v', rfl⟩, rfl⟩
      cases v'
      · go_wp2_with fail
        clear nil0 nil1 hmk
        refine (members_any _ _ _ _ n ss vs _ HN0.out HN1.out V0 V1 (by omega)).mono ?_
        rintro e w3 ⟨⟨am, cm, rfl, mv⟩, bel3⟩
        have V0' := V0.mono bel3
        have V1' := V1.mono bel3
        go_wp2_with fail
        refine (lookup_n _ _ _ ss vs name _ HN0.out mv (by omega) _ _ R1.out).mono ?_
        rintro e w' ⟨rfl, rfl⟩
        go_wp2_with fail
        refine (lookup_n _ _ _ ss vs other _ HN0.out mv (by omega) _ _ R2.out).mono ?_
        rintro e w' ⟨rfl, rfl⟩
        go_wp2_with fail
        refine (append_any _ _ n ss name _ HN0.out V0' h0).mono ?_
        rintro e w4 ⟨rfl, U0, bel4, _⟩
        go_wp2_with fail
        refine (append_any _ _ n vs v _ HN1.out (V1'.mono bel4) h0).mono ?_
        rintro e w5 ⟨rfl, U1, bel5, _⟩
        have U0' := U0.mono bel5
        have V0' := (V0'.mono bel4).mono bel5
        have V1' := (V1'.mono bel4).mono bel5
        go_wp2_with fail
        refine (members_any _ _ _ _ (n + 1) _ _ _ (by rw [List.length_append, HN0.out]; rfl) (by rw [List.length_append, HN1.out]; rfl) U0' U1 (by omega)).mono ?_
        rintro e w6 ⟨⟨ap, cp, rfl, mv2⟩, bel6⟩
        go_wp2_with fail
        refine (lookup_n _ _ _ _ _ name _ (by rw [List.length_append, HN0.out]; rfl) mv2 (by omega) _ _ R3.out).mono ?_
        rintro e w' ⟨rfl, rfl⟩
        go_wp2_with fail
        refine (lookup_n _ _ _ _ _ other _ (by rw [List.length_append, HN0.out]; rfl) mv2 (by omega) _ _ R4.out).mono ?_
        rintro e w' ⟨rfl, rfl⟩
        have V0' := V0'.mono bel6
        have V1' := V1'.mono bel6
        go_wp2_with fail
        refine (prepend_any _ _ n ss name _ HN0.out V0' h0).mono ?_
        rintro e w7 ⟨rfl, U2, bel7, _⟩
        go_wp2_with fail
        refine (prepend_any _ _ n vs v _ HN1.out (V1'.mono bel7) h0).mono ?_
        rintro e w8 ⟨rfl, U3, bel8, _⟩
        have U2' := U2.mono bel8
        go_wp2_with fail
        refine (members_any _ _ _ _ (n + 1) _ _ _ (by rw [List.length_cons, HN0.out]) (by rw [List.length_cons, HN1.out]) U2' U3 (by omega)).mono ?_
        rintro e w9 ⟨⟨aq, cq, rfl, mv3⟩, bel9⟩
        go_wp2_with fail
        refine (lookup_n _ _ _ _ _ name _ (by rw [List.length_cons, HN0.out]) mv3 (by omega) _ _ R5.out).mono ?_
        rintro e w' ⟨rfl, rfl⟩
        have BEL := below9 bel bel3 bel4 bel5 bel6 bel7 bel8 bel9
        clear bel bel3 bel4 bel5 bel6 bel7 bel8 bel9
        go_wp2
        go_ret
        exact ⟨rfl, BEL⟩
      · go_wp2
        go_ret
        exact ⟨rfl, Below.refl _ _⟩
    · rw [if_pos rfl] at hR5
      have R5 : Hid (fwd (name :: ss) (v :: vs) name (n + 1) = (r1, true)) := hR5
      clear hR5
      go_enter Try.func6, Try.ntmps6
      go_wp2_with fail
      refine B16.out.mono ?_
      rintro e w' ⟨⟨v', rfl⟩, rfl⟩
      cases v'
      · go_wp2
        go_ret
        exact ⟨rfl, Below.refl _ _⟩
      go_wp2_with fail
      refine P13.out.mono ?_
      rintro e w' ⟨⟨v', rfl⟩, rfl⟩
      cases v'
      · go_wp2_with fail
        clear nil0 nil1 hmk
        refine (members_any _ _ _ _ n ss vs _ HN0.out HN1.out V0 V1 (by omega)).mono ?_
        rintro e w3 ⟨⟨am, cm, rfl, mv⟩, bel3⟩
        have V0' := V0.mono bel3
        have V1' := V1.mono bel3
        go_wp2_with fail
        refine (lookup_n _ _ _ ss vs name _ HN0.out mv (by omega) _ _ R1.out).mono ?_
        rintro e w' ⟨rfl, rfl⟩
        go_wp2_with fail
        refine (lookup_n _ _ _ ss vs other _ HN0.out mv (by omega) _ _ R2.out).mono ?_
        rintro e w' ⟨rfl, rfl⟩
        go_wp2_with fail
        refine (append_any _ _ n ss name _ HN0.out V0' h0).mono ?_
        rintro e w4 ⟨rfl, U0, bel4, _⟩
        go_wp2_with fail
        refine (append_any _ _ n vs v _ HN1.out (V1'.mono bel4) h0).mono ?_
        rintro e w5 ⟨rfl, U1, bel5, _⟩
        have U0' := U0.mono bel5
        have V0' := (V0'.mono bel4).mono bel5
        have V1' := (V1'.mono bel4).mono bel5
        go_wp2_with fail
        refine (members_any _ _ _ _ (n + 1) _ _ _ (by rw [List.length_append, HN0.out]; rfl) (by rw [List.length_append, HN1.out]; rfl) U0' U1 (by omega)).mono ?_
        rintro e w6 ⟨⟨ap, cp, rfl, mv2⟩, bel6⟩
        go_wp2_with fail
        refine (lookup_n _ _ _ _ _ name _ (by rw [List.length_append, HN0.out]; rfl) mv2 (by omega) _ _ R3.out).mono ?_
        rintro e w' ⟨rfl, rfl⟩
        go_wp2_with fail
        refine (lookup_n _ _ _ _ _ other _ (by rw [List.length_append, HN0.out]; rfl) mv2 (by omega) _ _ R4.out).mono ?_
        rintro e w' ⟨rfl, rfl⟩
        have V0' := V0'.mono bel6
        have V1' := V1'.mono bel6
        go_wp2_with fail
        refine (prepend_any _ _ n ss name _ HN0.out V0' h0).mono ?_
        rintro e w7 ⟨rfl, U2, bel7, _⟩
        go_wp2_with fail
        refine (prepend_any _ _ n vs v _ HN1.out (V1'.mono bel7) h0).mono ?_
        rintro e w8 ⟨rfl, U3, bel8, _⟩
        have U2' := U2.mono bel8
        go_wp2_with fail
        refine (members_any _ _ _ _ (n + 1) _ _ _ (by rw [List.length_cons, HN0.out]) (by rw [List.length_cons, HN1.out]) U2' U3 (by omega)).mono ?_
        rintro e w9 ⟨⟨aq, cq, rfl, mv3⟩, bel9⟩
        go_wp2_with fail
        refine (lookup_n _ _ _ _ _ name _ (by rw [List.length_cons, HN0.out]) mv3 (by omega) _ _ R5.out).mono ?_
        rintro e w' ⟨rfl, rfl⟩
        have BEL := below9 bel bel3 bel4 bel5 bel6 bel7 bel8 bel9
        clear bel bel3 bel4 bel5 bel6 bel7 bel8 bel9
        go_wp2
        go_ret
        exact ⟨rfl, BEL⟩
      · go_wp2
        go_ret
        exact ⟨rfl, Below.refl _ _⟩
  · have hE' : ¬ (name.toList == other.toList) = true := by rw [beq_iff_eq] at hE ⊢; exact fun h => hE h.symm
    rw [if_neg hE'] at hR4
    have R4 : Hid (fwd (ss ++ [name]) (vs ++ [v]) other (n + 1) = (r2, b2)) := hR4
    have hE0 : (other.toList == name.toList) = false := by simpa using hE
    clear hR4 hE' hE
    cases b1
    · rw [if_neg (by simp), if_pos (by simp)] at hR5
      have R5 : Hid (fwd (name :: ss) (v :: vs) name (n + 1) = (v, true)) := hR5
      clear hR5
      go_enter Try.func6, Try.ntmps6
      go_wp2_with fail
      refine B16.out.mono ?_
      rintro e w' ⟨⟨v', rfl⟩, rfl⟩
      cases v'
      · go_wp2
        go_ret
        exact ⟨rfl, Below.refl _ _⟩
      go_wp2_with fail
      refine P13.out.mono ?_
      rintro e w' ⟨⟨v', rfl⟩, rfl⟩
      cases v'
      · go_wp2_with fail
        clear nil0 nil1 hmk
        refine (members_any _ _ _ _ n ss vs _ HN0.out HN1.out V0 V1 (by omega)).mono ?_
        rintro e w3 ⟨⟨am, cm, rfl, mv⟩, bel3⟩
        have V0' := V0.mono bel3
        have V1' := V1.mono bel3
        go_wp2_with fail
        refine (lookup_n _ _ _ ss vs name _ HN0.out mv (by omega) _ _ R1.out).mono ?_
        rintro e w' ⟨rfl, rfl⟩
        go_wp2_with fail
        refine (lookup_n _ _ _ ss vs other _ HN0.out mv (by omega) _ _ R2.out).mono ?_
        rintro e w' ⟨rfl, rfl⟩
        go_wp2_with fail
        refine (append_any _ _ n ss name _ HN0.out V0' h0).mono ?_
        rintro e w4 ⟨rfl, U0, bel4, _⟩
        go_wp2_with fail
        refine (append_any _ _ n vs v _ HN1.out (V1'.mono bel4) h0).mono ?_
        rintro e w5 ⟨rfl, U1, bel5, _⟩
        have U0' := U0.mono bel5
        have V0' := (V0'.mono bel4).mono bel5
        have V1' := (V1'.mono bel4).mono bel5
        go_wp2_with fail
        refine (members_any _ _ _ _ (n + 1) _ _ _ (by rw [List.length_append, HN0.out]; rfl) (by rw [List.length_append, HN1.out]; rfl) U0' U1 (by omega)).mono ?_
        rintro e w6 ⟨⟨ap, cp, rfl, mv2⟩, bel6⟩
        go_wp2_with fail
        refine (lookup_n _ _ _ _ _ name _ (by rw [List.length_append, HN0.out]; rfl) mv2 (by omega) _ _ R3.out).mono ?_
        rintro e w' ⟨rfl, rfl⟩
        go_wp2_with fail
        refine (lookup_n _ _ _ _ _ other _ (by rw [List.length_append, HN0.out]; rfl) mv2 (by omega) _ _ R4.out).mono ?_
        rintro e w' ⟨rfl, rfl⟩
        have V0' := V0'.mono bel6
        have V1' := V1'.mono bel6
        go_wp2_with fail
        refine (prepend_any _ _ n ss name _ HN0.out V0' h0).mono ?_
        rintro e w7 ⟨rfl, U2, bel7, _⟩
        go_wp2_with fail
        refine (prepend_any _ _ n vs v _ HN1.out (V1'.mono bel7) h0).mono ?_
        rintro e w8 ⟨rfl, U3, bel8, _⟩
        have U2' := U2.mono bel8
        go_wp2_with fail
        refine (members_any _ _ _ _ (n + 1) _ _ _ (by rw [List.length_cons, HN0.out]) (by rw [List.length_cons, HN1.out]) U2' U3 (by omega)).mono ?_
        rintro e w9 ⟨⟨aq, cq, rfl, mv3⟩, bel9⟩
        go_wp2_with fail
        refine (lookup_n _ _ _ _ _ name _ (by rw [List.length_cons, HN0.out]) mv3 (by omega) _ _ R5.out).mono ?_
        rintro e w' ⟨rfl, rfl⟩
        have BEL := below9 bel bel3 bel4 bel5 bel6 bel7 bel8 bel9
        clear bel bel3 bel4 bel5 bel6 bel7 bel8 bel9
        go_wp2
        go_ret
        exact ⟨rfl, BEL⟩
      · go_wp2
        go_ret
        exact ⟨rfl, Below.refl _ _⟩
    · rw [if_pos rfl] at hR5
      have R5 : Hid (fwd (name :: ss) (v :: vs) name (n + 1) = (r1, true)) := hR5
      clear hR5
      go_enter Try.func6, Try.ntmps6
      go_wp2_with fail
      refine B16.out.mono ?_
      rintro e w' ⟨⟨v', rfl⟩, rfl⟩
      cases v'
      · go_wp2
        go_ret
        exact ⟨rfl, Below.refl _ _⟩
      go_wp2_with fail
      refine P13.out.mono ?_
      rintro e w' ⟨⟨v', rfl⟩, rfl⟩
      cases v'
      · go_wp2_with fail
        clear nil0 nil1 hmk
        refine (members_any _ _ _ _ n ss vs _ HN0.out HN1.out V0 V1 (by omega)).mono ?_
        rintro e w3 ⟨⟨am, cm, rfl, mv⟩, bel3⟩
        have V0' := V0.mono bel3
        have V1' := V1.mono bel3
        go_wp2_with fail
        refine (lookup_n _ _ _ ss vs name _ HN0.out mv (by omega) _ _ R1.out).mono ?_
        rintro e w' ⟨rfl, rfl⟩
        go_wp2_with fail
        refine (lookup_n _ _ _ ss vs other _ HN0.out mv (by omega) _ _ R2.out).mono ?_
        rintro e w' ⟨rfl, rfl⟩
        go_wp2_with fail
        refine (append_any _ _ n ss name _ HN0.out V0' h0).mono ?_
        rintro e w4 ⟨rfl, U0, bel4, _⟩
        go_wp2_with fail
        refine (append_any _ _ n vs v _ HN1.out (V1'.mono bel4) h0).mono ?_
        rintro e w5 ⟨rfl, U1, bel5, _⟩
        have U0' := U0.mono bel5
        have V0' := (V0'.mono bel4).mono bel5
        have V1' := (V1'.mono bel4).mono bel5
        go_wp2_with fail
        refine (members_any _ _ _ _ (n + 1) _ _ _ (by rw [List.length_append, HN0.out]; rfl) (by rw [List.length_append, HN1.out]; rfl) U0' U1 (by omega)).mono ?_
        rintro e w6 ⟨⟨ap, cp, rfl, mv2⟩, bel6⟩
        go_wp2_with fail
        refine (lookup_n _ _ _ _ _ name _ (by rw [List.length_append, HN0.out]; rfl) mv2 (by omega) _ _ R3.out).mono ?_
        rintro e w' ⟨rfl, rfl⟩
        go_wp2_with fail
        refine (lookup_n _ _ _ _ _ other _ (by rw [List.length_append, HN0.out]; rfl) mv2 (by omega) _ _ R4.out).mono ?_
        rintro e w' ⟨rfl, rfl⟩
        have V0' := V0'.mono bel6
        have V1' := V1'.mono bel6
        go_wp2_with fail
        refine (prepend_any _ _ n ss name _ HN0.out V0' h0).mono ?_
        rintro e w7 ⟨rfl, U2, bel7, _⟩
        go_wp2_with fail
        refine (prepend_any _ _ n vs v _ HN1.out (V1'.mono bel7) h0).mono ?_
        rintro e w8 ⟨rfl, U3, bel8, _⟩
        have U2' := U2.mono bel8
        go_wp2_with fail
        refine (members_any _ _ _ _ (n + 1) _ _ _ (by rw [List.length_cons, HN0.out]) (by rw [List.length_cons, HN1.out]) U2' U3 (by omega)).mono ?_
        rintro e w9 ⟨⟨aq, cq, rfl, mv3⟩, bel9⟩
        go_wp2_with fail
        refine (lookup_n _ _ _ _ _ name _ (by rw [List.length_cons, HN0.out]) mv3 (by omega) _ _ R5.out).mono ?_
        rintro e w' ⟨rfl, rfl⟩
        have BEL := below9 bel bel3 bel4 bel5 bel6 bel7 bel8 bel9
        clear bel bel3 bel4 bel5 bel6 bel7 bel8 bel9
        go_wp2
        go_ret
        exact ⟨rfl, BEL⟩
      · go_wp2
        go_ret
        exact ⟨rfl, Below.refl _ _⟩

end Go.Proofs.Qxb6605658a
