/-
  SEAT b6000785aM. The walk of FnCanonicalStringSplitsBack (3), out of its callees' contracts.
-/
import Derived.Test.Qxb6000785aModsNxt
namespace Go.Proofs.Qxb6000785aMods.Can
open Go.RowKit Go.PlainAid
set_option linter.unusedVariables false

theorem equal_at (w : World) (a a2 : Option Addr) (len1 len cap cap2 : Nat) (l : List UInt8) (he : len1 = len) (h : BytesAt w a len1 l) (h2 : BytesAt w a2 len l) (h4 : len ≤ 2097152) :
    Calls Trym.prog 14 #[.slice a len1 cap, .slice a2 len cap2] w fun e w' => e = .returned (.bool true) ∧ Below w.heap.size w w' := by
  subst he
  exact equal_same w a a2 len1 cap cap2 l h h2 h4

set_option maxHeartbeats 2000000 in
theorem splits_many (w : World) (m t s n : ByteArray) (a : Option Addr) (len cap : Nat) (w0 : m.size ≤ maxLen) (w1 : t.size ≤ maxLen) (w2 : s.size ≤ maxLen) (w3 : n.size ≤ maxLen) (w4 : len ≤ maxLen) (hT : ¬ m.size + t.size + s.size + n.size + len ≤ 1048576) :
    Calls Trym.prog 3 #[.string m, .string t, .string s, .string n, .slice a len cap] w fun e w' => e = .returned (.bool true) ∧ Below w.heap.size w w' := by
  unfold maxLen at *
  go_enter Trym.func3, Trym.ntmps3
  go_wp2
  all_goals (go_ret; exact ⟨rfl, Below.refl _ _⟩)

set_option maxHeartbeats 2000000 in
theorem splits_main (w : World) (m t s n : ByteArray) (a : Option Addr) (len cap : Nat) (l : List UInt8) (h : BytesAt w a len l) (hnil : a = none → len = 0) (w0 : m.size ≤ maxLen) (w1 : t.size ≤ maxLen) (w2 : s.size ≤ maxLen) (w3 : n.size ≤ maxLen) (hT : m.size + t.size + s.size + n.size + len ≤ 1048576) :
    Calls Trym.prog 3 #[.string m, .string t, .string s, .string n, .slice a len cap] w fun e w' => e = .returned (.bool true) ∧ Below w.heap.size w w' := by
  by_cases h1 : hasNl m.data.toList = true
  · go_enter Trym.func3, Trym.ntmps3
    go_wp2_with (first | (go_at_call 10; go_must (refine (nl_any _ _ (by first | exact w0 | exact w1 | exact w2 | exact w3)).mono ?_; rintro e w' ⟨rfl, hw⟩; have hw := hw.symm; subst hw)) | go_in)
    go_ret
    exact ⟨rfl, Below.refl _ _⟩
  rw [Bool.not_eq_true] at h1
  by_cases h2 : hasNl t.data.toList = true
  · go_enter Trym.func3, Trym.ntmps3
    go_wp2_with (first | (go_at_call 10; go_must (refine (nl_any _ _ (by first | exact w0 | exact w1 | exact w2 | exact w3)).mono ?_; rintro e w' ⟨rfl, hw⟩; have hw := hw.symm; subst hw)) | go_in)
    go_ret
    exact ⟨rfl, Below.refl _ _⟩
  rw [Bool.not_eq_true] at h2
  by_cases h3 : hasNl s.data.toList = true
  · go_enter Trym.func3, Trym.ntmps3
    go_wp2_with (first | (go_at_call 10; go_must (refine (nl_any _ _ (by first | exact w0 | exact w1 | exact w2 | exact w3)).mono ?_; rintro e w' ⟨rfl, hw⟩; have hw := hw.symm; subst hw)) | go_in)
    go_ret
    exact ⟨rfl, Below.refl _ _⟩
  rw [Bool.not_eq_true] at h3
  by_cases h4 : hasNl n.data.toList = true
  · go_enter Trym.func3, Trym.ntmps3
    go_wp2_with (first | (go_at_call 10; go_must (refine (nl_any _ _ (by first | exact w0 | exact w1 | exact w2 | exact w3)).mono ?_; rintro e w' ⟨rfl, hw⟩; have hw := hw.symm; subst hw)) | go_in)
    go_ret
    exact ⟨rfl, Below.refl _ _⟩
  rw [Bool.not_eq_true] at h4
  have hq := h.2.1
  have hl := h.1
  obtain ⟨q1, e1⟩ : ∃ q, q = m.size + 1 := ⟨_, rfl⟩
  obtain ⟨q2, e2⟩ : ∃ q, q = q1 + t.size + 1 := ⟨_, rfl⟩
  obtain ⟨q3, e3⟩ : ∃ q, q = q2 + s.size + 1 := ⟨_, rfl⟩
  obtain ⟨q4, e4⟩ : ∃ q, q = q3 + n.size + 1 := ⟨_, rfl⟩
  have hdr := canon_drops m t s n l q1 q2 q3 q4 e1 e2 e3 e4
  have hcl := canon_len m t s n l
  have HD : Hid _ := hdr
  have HL : Hid _ := hcl
  have HE1 : Hid _ := e1
  have HE2 : Hid _ := e2
  have HE3 : Hid _ := e3
  have HE4 : Hid _ := e4
  have hq4 : q4 + len = m.size + 1 + t.size + 1 + s.size + 1 + n.size + 1 + len := by omega
  have HQ4 : Hid _ := hq4
  have bq4 : q4 ≤ 1048580 := by omega
  clear hdr hcl e1 e2 e3 e4 hq4
  go_enter Trym.func3, Trym.ntmps3
  go_wp2_with (first | (go_at_call 10; go_must (refine (nl_any _ _ (by first | exact w0 | exact w1 | exact w2 | exact w3)).mono ?_; rintro e w' ⟨rfl, hw⟩; have hw := hw.symm; subst hw)) | (go_at_call 9; go_in) | (go_at_call 11; go_must (refine (clone_any _ a len cap l h (by omega) hnil).mono ?_; rintro e W1 ⟨a', rfl, hB1, hn1, bl1⟩)) | (go_at_call 12; go_must (refine (canon_any _ m t s n a' len len l hB1 (fun q => ⟨hn1 q, hn1 q⟩) hT).mono ?_; rintro e W2 ⟨L, C, rfl, hL, hLC, hC, hB2, bl2⟩; have HL2 : Hid _ := hL; clear hL)))
  have hB3 := hB1.later bl2
  clear h hB1
  generalize canon m t s n l = o at *
  obtain ⟨d0, d1, d2, d3, d4⟩ := HD.out
  have D0 : Hid _ := d0
  have D1 : Hid _ := d1
  have D2 : Hid _ := d2
  have D3 : Hid _ := d3
  have D4 : Hid _ := d4
  clear d0 d1 d2 d3 d4 HD
  have hLq : L = q4 + len := by rw [HL2.out, HL.out, HQ4.out, hl]
  have hql : q4 ≤ L := by omega
  have HLQ : Hid _ := hLq
  clear hLq
  refine (next_at _ _ L C o hB2 hLC hC _ 0 rfl m _ D0.out h1 q1 (by rw [HE1.out, Nat.zero_add])).mono ?_
  rintro e w' ⟨rfl, hw⟩
  have hw := hw.symm
  subst hw
  go_wp2_with fail
  refine (next_at _ _ L C o hB2 hLC hC _ q1 rfl t _ D1.out h2 q2 (HE2.out)).mono ?_
  rintro e w' ⟨rfl, hw⟩
  have hw := hw.symm
  subst hw
  go_wp2_with fail
  refine (next_at _ _ L C o hB2 hLC hC _ q2 rfl s _ D2.out h3 q3 (HE3.out)).mono ?_
  rintro e w' ⟨rfl, hw⟩
  have hw := hw.symm
  subst hw
  go_wp2_with fail
  refine (next_at _ _ L C o hB2 hLC hC _ q3 rfl n _ D3.out h4 q4 (HE4.out)).mono ?_
  rintro e w' ⟨rfl, hw⟩
  have hw := hw.symm
  subst hw
  go_wp2_with fail
  all_goals
    refine (equal_at _ _ a' _ len _ _ l ?_ ?_ hB3 (by omega)).mono ?_
    · have := HLQ.out; omega
    · rw [← D4.out]
      refine hB2.drop q4 _ ?_
      intro hlt
      first | rfl | (exfalso; omega)
    rintro e W5 ⟨rfl, bl5⟩
    go_wp2
    go_ret
    exact ⟨rfl, bl1.trans ((bl2.mono bl1.size).trans (bl5.mono (Nat.le_trans bl1.size bl2.size)))⟩
end Go.Proofs.Qxb6000785aMods.Can
