/-
  SEAT b6606043aM. The walks of hexDigitValue and hex4Model (functions 13, 8): the same plain reading as mcp.hex4's.
-/
import Derived.Test.Qxb6606043aModsHex
namespace Go.Proofs.Qxb6606043aMods.Hex
open Go.RowKit Go.PlainAid

theorem low_at : ∀ k, k < 16 → bt ⟨#[48, 49, 50, 51, 52, 53, 54, 55, 56, 57, 97, 98, 99, 100, 101, 102]⟩ k = if k < 10 then 48 + (k : Int) else 87 + (k : Int) := by decide
theorem up_at : ∀ k, k < 16 → bt ⟨#[48, 49, 50, 51, 52, 53, 54, 55, 56, 57, 65, 66, 67, 68, 69, 70]⟩ k = if k < 10 then 48 + (k : Int) else 55 + (k : Int) := by decide
/-- No row's byte ahead of place k is b. -/
def missed (b : Int) (k : Nat) : Prop := ∀ j, j < k → (if j < 10 then 48 + (j : Int) else 87 + (j : Int)) ≠ b ∧ (if j < 10 then 48 + (j : Int) else 55 + (j : Int)) ≠ b
theorem missed_succ {b : Int} {k : Nat} (h : missed b k) (h1 : (if k < 10 then 48 + (k : Int) else 87 + (k : Int)) ≠ b) (h2 : (if k < 10 then 48 + (k : Int) else 55 + (k : Int)) ≠ b) : missed b (k + 1) := by
  intro j hj
  by_cases e : j = k
  · subst e; exact ⟨h1, h2⟩
  · exact h j (by omega)
theorem hv_hit {b : Int} {k : Nat} (hk : k < 16) (h : (if k < 10 then 48 + (k : Int) else 87 + (k : Int)) = b ∨ (if k < 10 then 48 + (k : Int) else 55 + (k : Int)) = b) : (k : Int) = hv b := by
  unfold hv
  by_cases h10 : k < 10
  · simp only [if_pos h10] at h
    rw [if_pos (by omega)]; omega
  · simp only [if_neg h10] at h
    rcases h with h | h
    · rw [if_neg (by omega), if_pos (by omega)]; omega
    · rw [if_neg (by omega), if_neg (by omega), if_pos (by omega)]; omega
theorem hv_miss {b : Int} (h : missed b 16) : (-1 : Int) = hv b := by
  unfold hv
  by_cases h1 : 48 ≤ b ∧ b ≤ 57
  · exact absurd (by rw [if_pos (by omega)]; omega) (h (b - 48).toNat (by omega)).1
  by_cases h2 : 97 ≤ b ∧ b ≤ 102
  · exact absurd (by rw [if_neg (by omega)]; omega) (h (b - 87).toNat (by omega)).1
  by_cases h3 : 65 ≤ b ∧ b ≤ 70
  · exact absurd (by rw [if_neg (by omega)]; omega) (h (b - 55).toNat (by omega)).2
  rw [if_neg h1, if_neg h2, if_neg h3]

theorem ret_int {k : IntKind} {a b : Int} (h : a = b) : Ending.returned (.int k a) = .returned (.int k b) := by rw [h]

set_option maxHeartbeats 800000 in
theorem digit_any (b : Int) (w : World) :
    Calls Trym.prog 13 #[.int .u8 b] w fun e w' => e = .returned (.int .i64 (hv b)) ∧ w' = w := by
  have hL := get_bt ⟨#[48, 49, 50, 51, 52, 53, 54, 55, 56, 57, 97, 98, 99, 100, 101, 102]⟩
  have hU := get_bt ⟨#[48, 49, 50, 51, 52, 53, 54, 55, 56, 57, 65, 66, 67, 68, 69, 70]⟩
  go_enter Trym.func13, Trym.ntmps13
  go_wp2
  go_loop [5] (fun i => ∃ k : Nat, k ≤ 16 ∧ i = .int .i64 k ∧ Hid (missed b k)) (fun i => 16 - (intOf i).toNat)
  case atStart => exact ⟨0, Nat.zero_le _, rfl, fun j hj => by omega⟩
  case round =>
    obtain ⟨k, hk, rfl, hm⟩ := hrel
    by_cases hlt : k < 16
    · have EL : Hid (bt ⟨#[48, 49, 50, 51, 52, 53, 54, 55, 56, 57, 97, 98, 99, 100, 101, 102]⟩ k = _) := low_at k hlt
      have EU : Hid (bt ⟨#[48, 49, 50, 51, 52, 53, 54, 55, 56, 57, 65, 66, 67, 68, 69, 70]⟩ k = _) := up_at k hlt
      by_cases c1 : bt ⟨#[48, 49, 50, 51, 52, 53, 54, 55, 56, 57, 97, 98, 99, 100, 101, 102]⟩ k = b
      · have g : Hid ((k : Int) = hv b) := hv_hit hlt (.inl (by rw [← EL.out]; exact c1))
        have c1' : (bt ⟨#[48, 49, 50, 51, 52, 53, 54, 55, 56, 57, 97, 98, 99, 100, 101, 102]⟩ k == b) = true := by simpa using c1
        clear c1 EL EU
        go_wp2
        go_ret
        exact ⟨ret_int g.out, rfl⟩
      · have c1' : (bt ⟨#[48, 49, 50, 51, 52, 53, 54, 55, 56, 57, 97, 98, 99, 100, 101, 102]⟩ k == b) = false := by simpa using c1
        by_cases c2 : bt ⟨#[48, 49, 50, 51, 52, 53, 54, 55, 56, 57, 65, 66, 67, 68, 69, 70]⟩ k = b
        · have g : Hid ((k : Int) = hv b) := hv_hit hlt (.inr (by rw [← EU.out]; exact c2))
          have c2' : (bt ⟨#[48, 49, 50, 51, 52, 53, 54, 55, 56, 57, 65, 66, 67, 68, 69, 70]⟩ k == b) = true := by simpa using c2
          clear c1 c2 EL EU
          go_wp2
          go_ret
          exact ⟨ret_int g.out, rfl⟩
        · have c2' : (bt ⟨#[48, 49, 50, 51, 52, 53, 54, 55, 56, 57, 65, 66, 67, 68, 69, 70]⟩ k == b) = false := by simpa using c2
          have g : Hid (missed b (k + 1)) := missed_succ hm.out (by rw [← EL.out]; exact c1) (by rw [← EU.out]; exact c2)
          clear c1 c2 EL EU
          go_wp2
          go_round
          case rel => exact ⟨k + 1, by omega, by go_num, g⟩
          case measure => simp [intOf]; omega
    · go_wp2
      go_ret
      have e : k = 16 := by omega
      subst e
      exact ⟨ret_int (hv_miss hm.out), rfl⟩

theorem acc4 (s : ByteArray) (n : Nat) : acc s n 4 = hv (bt s n) * 4096 + hv (bt s (n + 1)) * 256 + hv (bt s (n + 2)) * 16 + hv (bt s (n + 3)) := by
  simp only [acc, Nat.add_zero]
  omega

set_option maxHeartbeats 1000000 in
theorem model_any (s : ByteArray) (n : Nat) (w : World) (hs : s.size ≤ maxLen) (hn : n ≤ 1073741824) :
    Calls Trym.prog 8 #[.string s, .int .i64 n] w fun e w' => e = .returned (.tuple #[.int .i32 (h4v s n), .bool (h4b s n)]) ∧ w' = w := by
  unfold maxLen at hs
  have hb := get_bt s
  by_cases hsh : n + 4 ≤ s.size
  · have i0 : n < s.size := by omega
    have i1 : n + 1 < s.size := by omega
    have i2 : n + 2 < s.size := by omega
    have i3 : n + 3 < s.size := by omega
    have l0 := hv_le (bt s n)
    have l1 := hv_le (bt s (n + 1))
    have l2 := hv_le (bt s (n + 2))
    have l3 := hv_le (bt s (n + 3))
    have g0 := hv_ge (bt s n)
    have g1 := hv_ge (bt s (n + 1))
    have g2 := hv_ge (bt s (n + 2))
    have g3 := hv_ge (bt s (n + 3))
    by_cases c0 : hv (bt s n) < 0
    · have fin : Hid (h4b s n = false ∧ h4v s n = 0) := h4_no (k := 0) (by omega) c0
      go_enter Trym.func8, Trym.ntmps8
      go_wp2_with (go_at_call 13; refine (digit_any _ _).mono ?_; rintro e w' ⟨rfl, rfl⟩)
      go_ret2
      exact ⟨tup fin.out, rfl⟩
    by_cases c1 : hv (bt s (n + 1)) < 0
    · have fin : Hid (h4b s n = false ∧ h4v s n = 0) := h4_no (k := 1) (by omega) c1
      go_enter Trym.func8, Trym.ntmps8
      go_wp2_with (go_at_call 13; refine (digit_any _ _).mono ?_; rintro e w' ⟨rfl, rfl⟩)
      go_ret2
      exact ⟨tup fin.out, rfl⟩
    by_cases c2 : hv (bt s (n + 2)) < 0
    · have fin : Hid (h4b s n = false ∧ h4v s n = 0) := h4_no (k := 2) (by omega) c2
      go_enter Trym.func8, Trym.ntmps8
      go_wp2_with (go_at_call 13; refine (digit_any _ _).mono ?_; rintro e w' ⟨rfl, rfl⟩)
      go_ret2
      exact ⟨tup fin.out, rfl⟩
    by_cases c3 : hv (bt s (n + 3)) < 0
    · have fin : Hid (h4b s n = false ∧ h4v s n = 0) := h4_no (k := 3) (by omega) c3
      go_enter Trym.func8, Trym.ntmps8
      go_wp2_with (go_at_call 13; refine (digit_any _ _).mono ?_; rintro e w' ⟨rfl, rfl⟩)
      go_ret2
      exact ⟨tup fin.out, rfl⟩
    have fin : Hid (h4b s n = true ∧ h4v s n = hv (bt s n) * 4096 + hv (bt s (n + 1)) * 256 + hv (bt s (n + 2)) * 16 + hv (bt s (n + 3))) := by
      have h := h4_yes (s := s) (n := n) hsh (by
        intro j hj
        have : j = 0 ∨ j = 1 ∨ j = 2 ∨ j = 3 := by omega
        rcases this with rfl | rfl | rfl | rfl
        · simpa using c0
        · omega
        · omega
        · omega)
      rw [acc4] at h
      exact h
    go_enter Trym.func8, Trym.ntmps8
    go_wp2_with (go_at_call 13; refine (digit_any _ _).mono ?_; rintro e w' ⟨rfl, rfl⟩)
    go_ret2
    exact ⟨tup fin.out, rfl⟩
  · go_enter Trym.func8, Trym.ntmps8
    go_wp2
    go_ret2
    exact ⟨tup (h4_short hsh), rfl⟩
end Go.Proofs.Qxb6606043aMods.Hex
