/-
  SEAT b6000785aM. The walk of FnCanonicalStringLengthAndBody (4), out of its callees' contracts.
-/
import Derived.Test.Qxb6000785aModsNxt
namespace Go.Proofs.Qxb6000785aMods.Can
open Go.RowKit Go.PlainAid
set_option linter.unusedVariables false

theorem equal_len (w : World) (a a2 : Option Addr) (len1 len cap cap2 : Nat) (l : List UInt8) (he : len1 = len) (h : BytesAt w a len1 l) (h2 : BytesAt w a2 len l) (h4 : len ≤ 2097152) :
    Calls Trym.prog 14 #[.slice a len1 cap, .slice a2 len cap2] w fun e w' => e = .returned (.bool true) ∧ Below w.heap.size w w' := by
  subst he
  exact equal_same w a a2 len1 cap cap2 l h h2 h4

set_option maxHeartbeats 2000000 in
theorem length_many (w : World) (m t s n : ByteArray) (a : Option Addr) (len cap : Nat) (w0 : m.size ≤ maxLen) (w1 : t.size ≤ maxLen) (w2 : s.size ≤ maxLen) (w3 : n.size ≤ maxLen) (w4 : len ≤ maxLen) (hT : ¬ m.size + t.size + s.size + n.size + len ≤ 1048576) :
    Calls Trym.prog 4 #[.string m, .string t, .string s, .string n, .slice a len cap] w fun e w' => e = .returned (.bool true) ∧ Below w.heap.size w w' := by
  unfold maxLen at *
  go_enter Trym.func4, Trym.ntmps4
  go_wp2
  all_goals (go_ret; exact ⟨rfl, Below.refl _ _⟩)

theorem cnt_canon (m t s n : ByteArray) (l : List UInt8) : cnt (canon m t s n l) = cnt m.data.toList + cnt t.data.toList + cnt s.data.toList + cnt n.data.toList + cnt l + 4 := by
  unfold canon
  have e : ∀ x : List UInt8, cnt (10 :: x) = 1 + cnt x := fun x => rfl
  rw [cnt_append, e, cnt_append, e, cnt_append, e, cnt_append, e]
  omega
theorem cnt_size (m : ByteArray) : 0 ≤ cnt m.data.toList ∧ cnt m.data.toList ≤ m.size := by
  have := cnt_bd m.data.toList
  simp at this
  exact this

/-- The head of the row: the method, and a newline. -/
theorem head_facts {w : World} {G L : Nat} {o : List UInt8} {m : ByteArray} {rest : List UInt8} (h : BytesAt w (some ⟨G, 0, none⟩) L o) (hd : o.drop 0 = m.data.toList ++ 10 :: rest) :
    (∀ cap, (convert 22 9 (.slice (some ⟨G, 0, none⟩) m.size cap)).run Trym.prog w = .ok (.string m) w) ∧ w.cell? ⟨G, m.size, none⟩ = some (.int .u8 10) := by
  rw [List.drop_zero] at hd
  obtain ⟨hl, _, hc⟩ := h
  have hfl : m.data.toList.length = m.size := by simp
  have hlen : L = m.size + 1 + rest.length := by
    rw [← hl, hd]
    simp
    omega
  obtain ⟨b, off, e, hcell⟩ := hc (by omega)
  cases e
  refine ⟨fun cap => conv_back (fun i hi => ?_), ?_⟩
  · rw [hcell i (by omega), hd, bl_left _ _ _ (by omega)]
  · have := hcell m.size (by omega)
    rw [Nat.zero_add, hd] at this
    rw [this]
    have e := bl_right m.data.toList (10 :: rest) 0
    rw [hfl, Nat.add_zero] at e
    rw [e]
    rfl

set_option maxHeartbeats 2000000 in
theorem length_main (w : World) (m t s n : ByteArray) (a : Option Addr) (len cap : Nat) (l : List UInt8) (h : BytesAt w a len l) (hnil : a = none → len = 0) (w0 : m.size ≤ maxLen) (w1 : t.size ≤ maxLen) (w2 : s.size ≤ maxLen) (w3 : n.size ≤ maxLen) (hT : m.size + t.size + s.size + n.size + len ≤ 1048576) :
    Calls Trym.prog 4 #[.string m, .string t, .string s, .string n, .slice a len cap] w fun e w' => e = .returned (.bool true) ∧ Below w.heap.size w w' := by
  have hl := h.1
  obtain ⟨q1, e1⟩ : ∃ q, q = m.size + 1 := ⟨_, rfl⟩
  obtain ⟨q2, e2⟩ : ∃ q, q = q1 + t.size + 1 := ⟨_, rfl⟩
  obtain ⟨q3, e3⟩ : ∃ q, q = q2 + s.size + 1 := ⟨_, rfl⟩
  obtain ⟨q4, e4⟩ : ∃ q, q = q3 + n.size + 1 := ⟨_, rfl⟩
  have hdr := canon_drops m t s n l q1 q2 q3 q4 e1 e2 e3 e4
  have D0 : Hid _ := hdr.1
  have D4 : Hid _ := hdr.2.2.2.2
  have HL : Hid _ := canon_len m t s n l
  have HC : Hid _ := cnt_canon m t s n l
  have k1 := cnt_size m
  have k2 := cnt_size t
  have k3 := cnt_size s
  have k4 := cnt_size n
  have k5 := cnt_bd l
  have hq4 : q4 = m.size + t.size + s.size + n.size + 4 := by omega
  have HQ : Hid _ := hq4
  clear hdr e1 e2 e3 e4 hq4
  go_enter Trym.func4, Trym.ntmps4
  go_wp2_with (first | (go_at_call 15; go_in) | (go_at_call 11; go_must (refine (clone_any _ a len cap l h (by omega) hnil).mono ?_; rintro e W1 ⟨a', rfl, hB1, hn1, bl1⟩)) | (go_at_call 12; go_must (refine (canon_any _ m t s n a' len len l hB1 (fun q => ⟨hn1 q, hn1 q⟩) hT).mono ?_; rintro e W2 ⟨L, C, rfl, hL, hLC, hC, hB2, bl2⟩; have hLe : L = m.size + t.size + s.size + n.size + 4 + len := (by rw [hL, HL.out, hl]; omega); have hL1 : L ≤ m.size + t.size + s.size + n.size + len + 4 := (by omega); have hL2 : m.size + t.size + s.size + n.size + len + 4 ≤ L := (by omega); clear hL hLe)))
  all_goals
    have hB3 := hB1.later bl2
    have hqL : q4 = L - len := by rw [HQ.out]; omega
    have HQL : Hid _ := hqL
    clear hqL hB1
    refine (equal_len _ _ a' _ len _ _ l (by omega) ?_ hB3 (by omega)).mono ?_
    · rw [← D4.out]
      rw [HQL.out]
      refine hB2.drop (L - len) _ ?_
      intro hlt
      first | rfl | (exfalso; omega)
    rintro e W5 ⟨rfl, bl5⟩
    obtain ⟨hcv, hat⟩ := head_facts (hB2.later bl5) D0.out
    have hBo : Hid _ := hB2.later bl5
    have hBb : Hid _ := hB3.later bl5
    have im : (m.size : Int) < (L : Int) := by omega
    have hms : m.size < L := by omega
    clear hB2 hB3
    go_wp2_with (go_at_call 16; go_must (refine (count_string _ _ (by first | exact w0 | exact w1 | exact w2 | exact w3)).mono ?_; rintro e w' ⟨rfl, hw⟩; have hw := hw.symm; subst hw))
    refine (count_bytes _ a' len _ l hBb.out (by omega)).mono ?_
    rintro e w' ⟨rfl, hw⟩
    have hw := hw.symm
    subst hw
    go_wp2_with fail
    refine (count_bytes _ _ L _ _ hBo.out (by omega)).mono ?_
    rintro e w' ⟨rfl, hw⟩
    have hw := hw.symm
    subst hw
    go_wp2
    go_ret
    exact ⟨ret_bool (by rw [HC.out]; simp), bl1.trans ((bl2.mono bl1.size).trans (bl5.mono (Nat.le_trans bl1.size bl2.size)))⟩
end Go.Proofs.Qxb6000785aMods.Can
