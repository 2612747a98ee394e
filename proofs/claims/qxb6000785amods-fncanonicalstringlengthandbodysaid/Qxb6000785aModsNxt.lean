/-
  SEAT b6000785aM. The walk of nextField (13).
-/
import Derived.Test.Qxb6000785aModsCan
namespace Go.Proofs.Qxb6000785aMods.Can
open Go.RowKit Go.PlainAid
set_option linter.unusedVariables false

theorem bl_drop (l : List UInt8) (p i : Nat) : bl (l.drop p) i = bl l (p + i) := by
  simp [bl, List.getD]
theorem bl_left (a b : List UInt8) (i : Nat) (h : i < a.length) : bl (a ++ b) i = bl a i := by
  simp [bl, List.getD, List.getElem?_append_left h]
theorem bl_right (a b : List UInt8) (i : Nat) : bl (a ++ b) (a.length + i) = bl b i := by
  simp [bl, List.getD, List.getElem?_append_right]

/-- 'string(b)' where the cells are the bytes of s. -/
theorem conv_back {w : World} {g off cap : Nat} {s : ByteArray} (h : ∀ i, i < s.size → w.cell? ⟨g, off + i, none⟩ = some (.int .u8 (bl s.data.toList i))) :
    (convert 22 9 (.slice (some ⟨g, off, none⟩) s.size cap)).run Trym.prog w = .ok (.string s) w := by
  have hl : s.data.toList.length = s.size := by simp
  have := run_convert_bytes_back (P := Trym.prog) w 22 9 5 ⟨g, off, none⟩ cap s.data.toList Trym.underlying22 Trym.underlying5 Trym.underlying9 (fun j hj => by
    rw [Addr.add_lit, h j (by omega)]
    unfold bl
    rw [List.getD_eq_getElem?_getD, List.getElem?_eq_getElem hj]
    rfl)
  rw [hl] at this
  simpa using this

theorem ret3 {f : ByteArray} {a b : Int} (h : a = b) : Ending.returned (.tuple #[.string f, .int .i64 a, .bool true]) = .returned (.tuple #[.string f, .int .i64 b, .bool true]) := by rw [h]

set_option maxHeartbeats 1000000 in
theorem next_any (w : World) (G L C : Nat) (out : List UInt8) (h : BytesAt w (some ⟨G, 0, none⟩) L out) (hLC : L ≤ C) (hC : C ≤ 2097152) (pos : Nat) (f : ByteArray) (rest : List UInt8)
    (hd : out.drop pos = f.data.toList ++ 10 :: rest) (hnl : hasNl f.data.toList = false) :
    Calls Trym.prog 13 #[.slice (some ⟨G, 0, none⟩) L C, .int .i64 pos] w fun e w' => e = .returned (.tuple #[.string f, .int .i64 ((pos + f.size + 1 : Nat) : Int), .bool true]) ∧ w' = w := by
  obtain ⟨hl, hm, hc⟩ := h
  have hfl : f.data.toList.length = f.size := by simp
  have hlen : L = pos + f.size + 1 + rest.length := by
    have := congrArg List.length hd
    simp at this
    omega
  obtain ⟨b, off, e, hcell⟩ := hc (by omega)
  cases e
  have hin : ∀ j, j < f.size → bl out (pos + j) = bl f.data.toList j := fun j hj => by rw [← bl_drop, hd, bl_left _ _ _ (by omega)]
  have hat : bl out (pos + f.size) = 10 := by
    rw [← bl_drop, hd]
    have := bl_right f.data.toList (10 :: rest) 0
    rw [hfl, Nat.add_zero] at this
    rw [this]
    rfl
  have hcv : Hid (∀ cap, (convert 22 9 (.slice (some ⟨G, pos, none⟩) f.size cap)).run Trym.prog w = .ok (.string f) w) := fun cap =>
    conv_back (fun i hi => by have := hcell (pos + i) (by omega); rw [Nat.zero_add] at this; rw [this, hin i hi])
  have HIN : Hid _ := hin
  have HAT : Hid _ := hat
  have HC : Hid _ := hcell
  have hb1 : pos + f.size < L := by omega
  have HL : Hid _ := hlen
  clear hin hat hcell hd hc hlen hl
  go_enter Trym.func13, Trym.ntmps13
  go_wp2
  go_loop [7] (fun k => ∃ j : Nat, j ≤ f.size ∧ k = .int .i64 ((pos + j : Nat) : Int)) (fun k => L - (intOf k).toNat)
  case atStart => exact ⟨0, Nat.zero_le _, rfl⟩
  case round =>
    obtain ⟨j, hj, rfl⟩ := hrel
    have ck := HC.out (pos + j) (by omega)
    rw [Nat.zero_add] at ck
    by_cases hlt : j < f.size
    · have hne := hasNl_at hnl j (by omega)
      rw [← HIN.out j hlt] at hne
      generalize bl out (pos + j) = y at *
      go_wp2
      go_round
      case rel => exact ⟨j + 1, by omega, by go_num⟩
      case measure => simp [intOf]; omega
    · have e : j = f.size := by omega
      subst e
      rw [HAT.out] at ck
      have hcv' := hcv.out
      go_wp2
      go_ret3
      exact ⟨ret3 (by omega), rfl⟩

/-- The same at whatever spelling of the place. -/
theorem next_at (w : World) (G L C : Nat) (out : List UInt8) (h : BytesAt w (some ⟨G, 0, none⟩) L out) (hLC : L ≤ C) (hC : C ≤ 2097152) (p : Int) (pos : Nat) (hp : p = (pos : Int)) (f : ByteArray) (rest : List UInt8)
    (hd : out.drop pos = f.data.toList ++ 10 :: rest) (hnl : hasNl f.data.toList = false) (q : Nat) (hq : q = pos + f.size + 1) :
    Calls Trym.prog 13 #[.slice (some ⟨G, 0, none⟩) L C, .int .i64 p] w fun e w' => e = .returned (.tuple #[.string f, .int .i64 (q : Int), .bool true]) ∧ w' = w := by
  subst hp
  subst hq
  exact next_any w G L C out h hLC hC pos f rest hd hnl

theorem drop_over (a b : List UInt8) (n : Nat) (h : a.length + 1 = n) : (a ++ 10 :: b).drop n = b := by
  subst h
  rw [List.drop_append]
  simp

theorem canon_drops (m t s n : ByteArray) (l : List UInt8) (q1 q2 q3 q4 : Nat) (h1 : q1 = m.size + 1) (h2 : q2 = q1 + t.size + 1) (h3 : q3 = q2 + s.size + 1) (h4 : q4 = q3 + n.size + 1) :
    (canon m t s n l).drop 0 = m.data.toList ++ 10 :: (canon m t s n l).drop q1 ∧ (canon m t s n l).drop q1 = t.data.toList ++ 10 :: (canon m t s n l).drop q2 ∧ (canon m t s n l).drop q2 = s.data.toList ++ 10 :: (canon m t s n l).drop q3 ∧
    (canon m t s n l).drop q3 = n.data.toList ++ 10 :: (canon m t s n l).drop q4 ∧ (canon m t s n l).drop q4 = l := by
  have e1 : (canon m t s n l).drop q1 = t.data.toList ++ 10 :: (s.data.toList ++ 10 :: (n.data.toList ++ 10 :: l)) := drop_over _ _ _ (by simp [h1])
  have e2 : (canon m t s n l).drop q2 = s.data.toList ++ 10 :: (n.data.toList ++ 10 :: l) := by
    rw [show q2 = q1 + (t.size + 1) by omega, ← List.drop_drop, e1]
    exact drop_over _ _ _ (by simp)
  have e3 : (canon m t s n l).drop q3 = n.data.toList ++ 10 :: l := by
    rw [show q3 = q2 + (s.size + 1) by omega, ← List.drop_drop, e2]
    exact drop_over _ _ _ (by simp)
  have e4 : (canon m t s n l).drop q4 = l := by
    rw [show q4 = q3 + (n.size + 1) by omega, ← List.drop_drop, e3]
    exact drop_over _ _ _ (by simp)
  refine ⟨?_, ?_, ?_, ?_, e4⟩
  · rw [e1]; rfl
  · rw [e2]; exact e1
  · rw [e3]; exact e2
  · rw [e4]; exact e3

/-- What is left of a row behind a place. -/
theorem BytesAt.drop {w : World} {G L : Nat} {out : List UInt8} (h : BytesAt w (some ⟨G, 0, none⟩) L out) (q : Nat) (a : Option Addr) (ha : q < L → a = some ⟨G, q, none⟩) : BytesAt w a (L - q) (out.drop q) := by
  obtain ⟨h1, h2, h3⟩ := h
  refine ⟨by simp [h1], by omega, fun h0 => ⟨G, q, ha (by omega), fun i hi => ?_⟩⟩
  obtain ⟨b, off, e, hc⟩ := h3 (by omega)
  cases e
  have := hc (q + i) (by omega)
  rw [Nat.zero_add] at this
  rw [this, bl_drop]
end Go.Proofs.Qxb6000785aMods.Can
