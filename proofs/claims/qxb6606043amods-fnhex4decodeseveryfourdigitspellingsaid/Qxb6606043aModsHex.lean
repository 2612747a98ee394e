/-
  SEAT b6606043aM. Shared by both claims: the plain reading of four hexadecimal digits, and the walks of mcp.hex4 and mcp.ZZhex4 (functions 12, 7).
-/
import Derived.Test.Qxb6606043aModsRows
import Derived.WalkKit
import Derived.ProofKit
import Derived.OpenShut
import Derived.WalkLawsBesides
import Derived.PlainAid
import Derived.Laws.BitsAllLaws
namespace Go.Proofs.Qxb6606043aMods.Hex
open Go.RowKit Go.PlainAid

/-- The worth of a hexadecimal digit; -1 for any other byte. -/
def hv (b : Int) : Int := if 48 ≤ b ∧ b ≤ 57 then b - 48 else if 97 ≤ b ∧ b ≤ 102 then b - 87 else if 65 ≤ b ∧ b ≤ 70 then b - 55 else -1

theorem hv_le (b : Int) : hv b ≤ 15 := by unfold hv; repeat' split <;> omega
theorem hv_ge (b : Int) : -1 ≤ hv b := by unfold hv; repeat' split <;> omega
theorem hv_num {b : Int} (h1 : 48 ≤ b) (h2 : b ≤ 57) : hv b = b - 48 := by unfold hv; rw [if_pos ⟨h1, h2⟩]
theorem hv_low {b : Int} (h1 : 97 ≤ b) (h2 : b ≤ 102) : hv b = b - 87 := by unfold hv; rw [if_neg (by omega), if_pos ⟨h1, h2⟩]
theorem hv_up {b : Int} (h1 : 65 ≤ b) (h2 : b ≤ 70) : hv b = b - 55 := by unfold hv; rw [if_neg (by omega), if_neg (by omega), if_pos ⟨h1, h2⟩]
theorem hv_no {b : Int} (h1 : ¬ (48 ≤ b ∧ b ≤ 57)) (h2 : ¬ (97 ≤ b ∧ b ≤ 102)) (h3 : ¬ (65 ≤ b ∧ b ≤ 70)) : hv b < 0 := by unfold hv; rw [if_neg h1, if_neg h2, if_neg h3]; omega

/-- The first k digits at n, read as one number. -/
def acc (s : ByteArray) (n : Nat) : Nat → Int
  | 0 => 0
  | k + 1 => acc s n k * 16 + hv (bt s (n + k))

/-- The first k bytes at n are digits. -/
def okB (s : ByteArray) (n : Nat) (k : Nat) : Prop := ∀ j, j < k → 0 ≤ hv (bt s (n + j))

theorem okB_succ {s : ByteArray} {n k : Nat} (h : okB s n k) (g : 0 ≤ hv (bt s (n + k))) : okB s n (k + 1) := by
  intro j hj
  by_cases e : j = k
  · subst e; exact g
  · exact h j (by omega)

theorem acc_bd {s : ByteArray} {n : Nat} : ∀ {k : Nat}, okB s n k → 0 ≤ acc s n k ∧ acc s n k < 16 ^ k
  | 0, _ => by simp [acc]
  | k + 1, h => by
    have g := acc_bd (s := s) (n := n) (k := k) (fun j hj => h j (by omega))
    have h1 := h k (by omega)
    have h2 := hv_le (bt s (n + k))
    have e : (16 : Int) ^ (k + 1) = 16 ^ k * 16 := by rw [Int.pow_succ]
    simp only [acc]
    omega

theorem acc_lt {s : ByteArray} {n k : Nat} (hk : k ≤ 4) (h : okB s n k) : 0 ≤ acc s n k ∧ acc s n k < 65536 := by
  have g := acc_bd h
  have : (16 : Int) ^ k ≤ 65536 := by
    have : k = 0 ∨ k = 1 ∨ k = 2 ∨ k = 3 ∨ k = 4 := by omega
    rcases this with rfl | rfl | rfl | rfl | rfl <;> decide
  omega

/-- Are the four bytes at n there, and digits all? -/
def h4b (s : ByteArray) (n : Nat) : Bool := decide (n + 4 ≤ s.size ∧ 0 ≤ hv (bt s n) ∧ 0 ≤ hv (bt s (n + 1)) ∧ 0 ≤ hv (bt s (n + 2)) ∧ 0 ≤ hv (bt s (n + 3)))
/-- The number they write; 0 where they don't. -/
def h4v (s : ByteArray) (n : Nat) : Int := if h4b s n = true then acc s n 4 else 0

theorem h4_yes {s : ByteArray} {n : Nat} (hn : n + 4 ≤ s.size) (h : okB s n 4) : h4b s n = true ∧ h4v s n = acc s n 4 := by
  have e : h4b s n = true := by
    unfold h4b
    exact decide_eq_true ⟨hn, h 0 (by omega), h 1 (by omega), h 2 (by omega), h 3 (by omega)⟩
  exact ⟨e, by unfold h4v; rw [if_pos e]⟩

theorem h4_no {s : ByteArray} {n k : Nat} (hk : k < 4) (h : hv (bt s (n + k)) < 0) : h4b s n = false ∧ h4v s n = 0 := by
  have e : h4b s n = false := by
    unfold h4b
    refine decide_eq_false ?_
    rintro ⟨_, h0, h1, h2, h3⟩
    have : k = 0 ∨ k = 1 ∨ k = 2 ∨ k = 3 := by omega
    rcases this with rfl | rfl | rfl | rfl
    · simp at h; omega
    · omega
    · omega
    · omega
  exact ⟨e, by unfold h4v; rw [if_neg (by rw [e]; decide)]⟩

theorem h4_short {s : ByteArray} {n : Nat} (hn : ¬ n + 4 ≤ s.size) : h4b s n = false ∧ h4v s n = 0 := by
  have e : h4b s n = false := by unfold h4b; exact decide_eq_false (fun h => hn h.1)
  exact ⟨e, by unfold h4v; rw [if_neg (by rw [e]; decide)]⟩

/-- 'c<<4 | d' on an int32: the two join. -/
theorem or_join (a d : Int) (h1 : 0 ≤ a) (h2 : a < 65536) (h3 : 0 ≤ d) (h4 : d < 16) : bits .or .i32 (a * 16) d = a * 16 + d := by
  obtain ⟨A, rfl⟩ := Int.eq_ofNat_of_zero_le h1
  obtain ⟨D, rfl⟩ := Int.eq_ofNat_of_zero_le h3
  have ofI : ∀ x : Nat, x < 4294967296 → (BitVec.ofInt 32 (x : Int)).toNat = x := fun x hx => ofInt_u32 x hx
  have e : ((A : Int) * 16) = ((A * 16 : Nat) : Int) := by omega
  show IntKind.i32.wrap ((BitVec.ofInt 32 ((A : Int) * 16) ||| BitVec.ofInt 32 (D : Int)).toNat : Int) = _
  rw [e, BitVec.toNat_or, ofI (A * 16) (by omega), ofI D (by omega), nat_join 4 (A * 16) D (by omega) (by omega), IntKind.wrap_i32]
  omega

theorem tup {a b : Int} {p q : Bool} (h : p = q ∧ a = b) : Ending.returned (.tuple #[.int .i32 b, .bool q]) = .returned (.tuple #[.int .i32 a, .bool p]) := by rw [h.1, h.2]

set_option maxHeartbeats 800000 in
theorem hex4_any (s : ByteArray) (n : Nat) (w : World) (hs : s.size ≤ maxLen) (hn : n ≤ 1073741824) :
    Calls Trym.prog 12 #[.string s, .int .i64 n] w fun e w' => e = .returned (.tuple #[.int .i32 (h4v s n), .bool (h4b s n)]) ∧ w' = w := by
  unfold maxLen at hs
  have hb := get_bt s
  by_cases hsh : n + 4 ≤ s.size
  · go_enter Trym.func12, Trym.ntmps12
    go_wp2
    go_loop [6, 7, 8] (fun c j _ => ∃ k : Nat, k ≤ 4 ∧ j = .int .i64 ((n + k : Nat) : Int) ∧ c = .int .i32 (acc s n k) ∧ okB s n k) (fun _ j _ => n + 4 - (intOf j).toNat)
    case atStart => exact ⟨0, Nat.zero_le _, rfl, rfl, fun j hj => by omega⟩
    case round =>
      obtain ⟨k, hk, rfl, rfl, hok⟩ := hrel
      obtain ⟨a1, a2⟩ := acc_lt hk hok
      by_cases hlt : k < 4
      · have hlt' : n + k < s.size := by omega
        go_wp2
        · go_round
          case rel =>
            have e := hv_num (b := bt s (n + k)) (by assumption) (by assumption)
            exact ⟨k + 1, by omega, by go_num, by rw [or_join _ _ a1 a2 (by omega) (by omega), ← e]; rfl, okB_succ hok (by rw [e]; omega)⟩
          case measure => simp [intOf]; omega
        · go_round
          case rel =>
            have e := hv_low (b := bt s (n + k)) (by assumption) (by assumption)
            exact ⟨k + 1, by omega, by go_num, by rw [or_join _ _ a1 a2 (by omega) (by omega), ← e]; rfl, okB_succ hok (by rw [e]; omega)⟩
          case measure => simp [intOf]; omega
        · go_ret2
          exact ⟨tup (h4_no hlt (hv_no (by omega) (by omega) (by omega))), rfl⟩
        · go_round
          case rel =>
            have e := hv_up (b := bt s (n + k)) (by assumption) (by assumption)
            exact ⟨k + 1, by omega, by go_num, by rw [or_join _ _ a1 a2 (by omega) (by omega), ← e]; rfl, okB_succ hok (by rw [e]; omega)⟩
          case measure => simp [intOf]; omega
        · go_ret2
          exact ⟨tup (h4_no hlt (hv_no (by omega) (by omega) (by omega))), rfl⟩
        · go_ret2
          exact ⟨tup (h4_no hlt (hv_no (by omega) (by omega) (by omega))), rfl⟩
        · go_ret2
          exact ⟨tup (h4_no hlt (hv_no (by omega) (by omega) (by omega))), rfl⟩
      · go_wp2
        go_ret2
        have e : k = 4 := by omega
        subst e
        exact ⟨tup (h4_yes hsh hok), rfl⟩
  · go_enter Trym.func12, Trym.ntmps12
    go_wp2
    go_ret2
    exact ⟨tup (h4_short hsh), rfl⟩

theorem zz_hex4 (s : ByteArray) (n : Nat) (w : World) (hs : s.size ≤ maxLen) (hn : n ≤ 1073741824) :
    Calls Trym.prog 7 #[.string s, .int .i64 n] w fun e w' => e = .returned (.tuple #[.int .i32 (h4v s n), .bool (h4b s n)]) ∧ w' = w := by
  go_enter Trym.func7, Trym.ntmps7
  go_wp2_with (go_at_call 12; refine (hex4_any s n _ hs hn).mono ?_; rintro e w' ⟨rfl, rfl⟩)
  go_ret2
  exact ⟨rfl, rfl⟩
end Go.Proofs.Qxb6606043aMods.Hex
