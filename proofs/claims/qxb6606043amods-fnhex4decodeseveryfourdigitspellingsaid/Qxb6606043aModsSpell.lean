/-
  SEAT b6606043aM. The plain law behind FnHex4DecodesEveryFourDigitSpelling, and the walk of hexDigit (function 10).
-/
import Derived.Test.Qxb6606043aModsHex
namespace Go.Proofs.Qxb6606043aMods.Hex
open Go.RowKit Go.PlainAid

/-- The byte that writes the digit d, in capitals or not. -/
def digN (d : Int) (up : Bool) : Int := if d < 10 then 48 + d else if up then 55 + d else 87 + d

theorem digN_bd {d : Int} {up : Bool} (h0 : 0 ≤ d) (h1 : d ≤ 15) : 48 ≤ digN d up ∧ digN d up ≤ 102 := by
  unfold digN; repeat' split <;> omega

theorem hv_digN {d : Int} {up : Bool} (h0 : 0 ≤ d) (h1 : d ≤ 15) : hv (digN d up) = d := by
  unfold digN
  by_cases h : d < 10
  · rw [if_pos h, hv_num (by omega) (by omega)]; omega
  · rw [if_neg h]
    cases up
    · rw [if_neg (by decide), hv_low (by omega) (by omega)]; omega
    · rw [if_pos rfl, hv_up (by omega) (by omega)]; omega

theorem low_byte : ∀ k, k < 16 → bt ⟨#[48, 49, 50, 51, 52, 53, 54, 55, 56, 57, 97, 98, 99, 100, 101, 102]⟩ k = digN k false := by decide
theorem up_byte : ∀ k, k < 16 → bt ⟨#[48, 49, 50, 51, 52, 53, 54, 55, 56, 57, 65, 66, 67, 68, 69, 70]⟩ k = digN k true := by decide

theorem ret_byte {k : IntKind} {a b : Int} (h : a = b) : Ending.returned (.int k a) = .returned (.int k b) := by rw [h]

theorem digit_byte (d : Int) (up : Bool) (w : World) (h0 : 0 ≤ d) (h1 : d ≤ 15) :
    Calls Trym.prog 10 #[.int .i64 d, .bool up] w fun e w' => e = .returned (.int .u8 (digN d up)) ∧ w' = w := by
  obtain ⟨n, rfl⟩ := Int.eq_ofNat_of_zero_le h0
  have hn : n < 16 := by omega
  have hL := get_bt ⟨#[48, 49, 50, 51, 52, 53, 54, 55, 56, 57, 97, 98, 99, 100, 101, 102]⟩
  have hU := get_bt ⟨#[48, 49, 50, 51, 52, 53, 54, 55, 56, 57, 65, 66, 67, 68, 69, 70]⟩
  cases up
  · have e := low_byte n hn
    have E : Hid _ := e
    clear e
    go_enter Trym.func10, Trym.ntmps10
    go_wp2
    go_ret
    exact ⟨ret_byte E.out, rfl⟩
  · have e := up_byte n hn
    have E : Hid _ := e
    clear e
    go_enter Trym.func10, Trym.ntmps10
    go_wp2
    go_ret
    exact ⟨ret_byte E.out, rfl⟩

/-- A byte out of a number. -/
def byt (n : Int) : UInt8 := UInt8.ofNat n.toNat
theorem byt_toNat {n : Int} (h0 : 0 ≤ n) (h1 : n < 256) : ((byt n).toNat : Int) = n := by
  unfold byt
  rw [UInt8.toNat_ofNat']
  omega

/-- The whole text: what stands ahead, four digits, what stands behind. -/
def text (p q : ByteArray) (x0 x1 x2 x3 : Int) : List UInt8 := p.data.toList ++ ([byt x0] ++ ([byt x1] ++ ([byt x2] ++ ([byt x3] ++ q.data.toList))))

theorem text_len (p q : ByteArray) (x0 x1 x2 x3 : Int) : (text p q x0 x1 x2 x3).length = p.size + 4 + q.size := by
  simp [text]
  omega

theorem bt_list (l : List UInt8) (k : Nat) (h : k < l.length) : bt ⟨l.toArray⟩ k = (l[k].toNat : Int) := by
  have hs : k < (ByteArray.mk l.toArray).size := h
  unfold bt
  rw [dif_pos hs]
  rfl

theorem text_at (p q : ByteArray) (x0 x1 x2 x3 : Int) (h0 : 0 ≤ x0 ∧ x0 < 256) (h1 : 0 ≤ x1 ∧ x1 < 256) (h2 : 0 ≤ x2 ∧ x2 < 256) (h3 : 0 ≤ x3 ∧ x3 < 256) :
    bt ⟨(text p q x0 x1 x2 x3).toArray⟩ p.size = x0 ∧ bt ⟨(text p q x0 x1 x2 x3).toArray⟩ (p.size + 1) = x1 ∧ bt ⟨(text p q x0 x1 x2 x3).toArray⟩ (p.size + 2) = x2 ∧ bt ⟨(text p q x0 x1 x2 x3).toArray⟩ (p.size + 3) = x3 := by
  have hl := text_len p q x0 x1 x2 x3
  have e : p.data.toList.length = p.size := by simp
  have ek : ∀ (k : Nat) (h : p.size + k < (text p q x0 x1 x2 x3).length) (y : UInt8), ([byt x0] ++ ([byt x1] ++ ([byt x2] ++ ([byt x3] ++ q.data.toList))))[k]? = some y → (text p q x0 x1 x2 x3)[p.size + k] = y := by
    intro k h y hy
    have : (text p q x0 x1 x2 x3)[p.size + k]? = some y := by
      unfold text
      rw [List.getElem?_append_right (by omega), e, Nat.add_sub_cancel_left]
      exact hy
    rw [List.getElem?_eq_getElem h] at this
    simpa using this
  refine ⟨?_, ?_, ?_, ?_⟩
  · rw [bt_list _ _ (by omega)]
    have := ek 0 (by omega) (byt x0) (by simp)
    simp only [Nat.add_zero] at this
    rw [this, byt_toNat h0.1 h0.2]
  · rw [bt_list _ _ (by omega), ek 1 (by omega) (byt x1) (by simp), byt_toNat h1.1 h1.2]
  · rw [bt_list _ _ (by omega), ek 2 (by omega) (byt x2) (by simp), byt_toNat h2.1 h2.2]
  · rw [bt_list _ _ (by omega), ek 3 (by omega) (byt x3) (by simp), byt_toNat h3.1 h3.2]

/-- THE PLAIN LAW: four digits of c, written in whatever case, read back as c. -/
theorem reads_back (p q : ByteArray) (c : Int) (hc0 : 0 ≤ c) (hc1 : c < 65536) (u0 u1 u2 u3 : Bool) :
    h4b ⟨(text p q (digN (c / 4096 % 16) u0) (digN (c / 256 % 16) u1) (digN (c / 16 % 16) u2) (digN (c % 16) u3)).toArray⟩ p.size = true ∧
    h4v ⟨(text p q (digN (c / 4096 % 16) u0) (digN (c / 256 % 16) u1) (digN (c / 16 % 16) u2) (digN (c % 16) u3)).toArray⟩ p.size = c := by
  have b0 := digN_bd (d := c / 4096 % 16) (up := u0) (by omega) (by omega)
  have b1 := digN_bd (d := c / 256 % 16) (up := u1) (by omega) (by omega)
  have b2 := digN_bd (d := c / 16 % 16) (up := u2) (by omega) (by omega)
  have b3 := digN_bd (d := c % 16) (up := u3) (by omega) (by omega)
  have e0 := hv_digN (d := c / 4096 % 16) (up := u0) (by omega) (by omega)
  have e1 := hv_digN (d := c / 256 % 16) (up := u1) (by omega) (by omega)
  have e2 := hv_digN (d := c / 16 % 16) (up := u2) (by omega) (by omega)
  have e3 := hv_digN (d := c % 16) (up := u3) (by omega) (by omega)
  generalize digN (c / 4096 % 16) u0 = x0 at *
  generalize digN (c / 256 % 16) u1 = x1 at *
  generalize digN (c / 16 % 16) u2 = x2 at *
  generalize digN (c % 16) u3 = x3 at *
  have ht := text_at p q x0 x1 x2 x3 (by omega) (by omega) (by omega) (by omega)
  have hl := text_len p q x0 x1 x2 x3
  have hs : (ByteArray.mk (text p q x0 x1 x2 x3).toArray).size = p.size + 4 + q.size := by rw [← hl]; rfl
  generalize (ByteArray.mk (text p q x0 x1 x2 x3).toArray) = s at *
  have hok : okB s p.size 4 := by
    intro j hj
    have : j = 0 ∨ j = 1 ∨ j = 2 ∨ j = 3 := by omega
    rcases this with rfl | rfl | rfl | rfl
    · rw [Nat.add_zero, ht.1, e0]; omega
    · rw [ht.2.1, e1]; omega
    · rw [ht.2.2.1, e2]; omega
    · rw [ht.2.2.2, e3]; omega
  obtain ⟨g1, g2⟩ := h4_yes (by omega) hok
  refine ⟨g1, ?_⟩
  rw [g2]
  simp only [acc, Nat.add_zero]
  rw [ht.1, ht.2.1, ht.2.2.1, ht.2.2.2, e0, e1, e2, e3]
  omega
end Go.Proofs.Qxb6606043aMods.Hex
