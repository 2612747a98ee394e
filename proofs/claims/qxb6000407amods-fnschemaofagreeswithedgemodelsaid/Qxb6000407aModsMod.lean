/-
  SEAT b6000407aM. The walk of modelSchemaOf (22).
-/
import Derived.Test.Qxb6000407aModsSof
namespace Go.Proofs.Qxb6000407aMods.Sch
open Go.RowKit
set_option linter.unusedVariables false

/-- The inner loop's counter, one less than what is left. -/
def dn : Nat → Int
  | 0 => -1
  | j + 1 => j

theorem dn_eq (n : Nat) : dn n = (n : Int) - 1 := by cases n <;> simp [dn]

variable {P K : Nat → Int} {N : Nat → ByteArray} {n : Nat} {I : Nat → Int} {S : Nat → ByteArray}

/-- What the model answers. -/
def ans : Option Nat → Int × Bool
  | none => (0, false)
  | some c => (c, true)

theorem ans_none {k len : Nat} (hk : k < len) (h : pathTo P K N n I S (k + 1) = none) :
    Ending.returned (.tuple #[.int .i64 0, .bool false]) = .returned (.tuple #[.int .i64 (ans (pathTo P K N n I S len)).1, .bool (ans (pathTo P K N n I S len)).2]) := by
  rw [pathTo_none P K N n I S h (by omega)]
  rfl

set_option maxHeartbeats 4000000 in
theorem model_any (w : World) (a : Option Addr) (cap : Nat) (hE : EdgesAt w a n P K N) (hn : n ≤ 4096) (a2 : Option Addr) (len cap2 : Nat) (h : StepsAt w a2 len I S) (h4 : len ≤ 4096) :
    Calls Trym.prog 22 #[.slice a n cap, .slice a2 len cap2] w fun e w' => e = .returned (.tuple #[.int .i64 (ans (pathTo P K N n (fun i => I i % 3) S len)).1, .bool (ans (pathTo P K N n (fun i => I i % 3) S len)).2]) ∧ Below w.heap.size w w' := by
  go_enter Trym.func22, Trym.ntmps22
  go_wp2
  go_loopw [6, 7] (fun p i wr => ∃ (k c : Nat), k ≤ len ∧ i = .int .i64 k ∧ Hid (pathTo P K N n (fun i => I i % 3) S k = some c) ∧ p = .int .i64 c ∧ Below w.heap.size w wr) (fun _ i _ => len - (intOf i).toNat)
  case atStart => exact ⟨0, 0, Nat.zero_le _, rfl, rfl, rfl, Below.refl _ _⟩
  case round =>
    obtain ⟨k, c, hk, rfl, hpath, rfl, bl⟩ := hrel
    by_cases hlt : k < len
    · obtain ⟨b2, off2, hab, hcell⟩ := h.2.2 (by omega)
      subst hab
      obtain ⟨c1, c2⟩ := hcell k hlt
      have hblt2 : b2 < w.heap.size := World.block_lt_of_cell? w _ c1
      have d1 := (bl.cell hblt2).trans c1
      have d2 := (bl.cell hblt2).trans c2
      have hc := pathTo_le P K N n _ S hpath.out
      have j1 : (k : Int) < (len : Int) := by omega
      have HSUC : Hid (pathTo P K N n (fun i => I i % 3) S (k + 1) = (last P K N n c (I k % 3) (S k)).map (· + 1)) := pathTo_succ P K N n (fun i => I i % 3) S hpath.out
      have hkd : 0 ≤ I k % 3 ∧ I k % 3 ≤ 2 := by omega
      have C2 : Hid _ := c2
      clear c1 c2 hcell
      go_wp2_with (go_at_call 27; go_must (refine (kind_any _ _).mono ?_; rintro e w' ⟨rfl, hw⟩; have hw := hw.symm; subst hw))
      generalize hkk : I k % 3 = kd at *
      have HKK : Hid _ := hkk
      clear hkk
      go_loopw [9, 10] (fun f j wr => ∃ jn : Nat, jn ≤ n ∧ j = .int .i64 (dn jn) ∧ f = .int .i64 (-1) ∧ Hid (last P K N n c kd (S k) = last P K N jn c kd (S k)) ∧ Below w.heap.size w wr) (fun _ j _ => (intOf j + 1).toNat)
      case atStart => exact ⟨n, Nat.le_refl _, by rw [dn_eq], rfl, rfl, bl⟩
      case round =>
        clear d1 d2 bl
        obtain ⟨jn, hjn, rfl, rfl, hl, bl2⟩ := hrel
        cases jn with
        | zero =>
          have e0 : dn 0 = -1 := rfl
          rw [e0]
          have fin : Hid _ := ans_none (P := P) (K := K) (N := N) (n := n) (I := fun i => I i % 3) (S := S) hlt (by rw [HSUC.out, hl.out]; rfl)
          go_wp2
          go_ret2
          exact ⟨fin.out, bl2⟩
        | succ j =>
          have e0 : dn (j + 1) = (j : Int) := rfl
          rw [e0]
          obtain ⟨b, off, hab, hcellE⟩ := hE.2.2 (by omega)
          subst hab
          obtain ⟨c1, c2, c3⟩ := hcellE j (by omega)
          obtain ⟨⟨hp0, hp1⟩, _, _⟩ := hE.2.1 j (by omega)
          have hblt : b < w.heap.size := World.block_lt_of_cell? w _ c1
          have f1 := (bl2.cell hblt).trans c1
          have f2 := (bl2.cell hblt).trans c2
          have f3 := (bl2.cell hblt).trans c3
          have f4 := (bl2.cell hblt2).trans C2.out
          have i0 : (0 : Int) ≤ (j : Int) := by omega
          have i1 : (j : Int) < (n : Int) := by omega
          clear c1 c2 c3 hcellE
          by_cases g1 : par (P j) j = (c : Int)
          · by_cases g2 : K j % 3 = kd
            · have g1' : (par (P j) j == (c : Int)) = true := by simpa using g1
              have g2' : (K j % 3 == kd) = true := by simpa using g2
              by_cases g3 : kd = 0
              · have g3' : (kd != 0) = false := by simpa using g3
                cases g4 : ((N j).toList == (S k).toList) with
                | true =>
                  have hit : hitB P K N j c kd (S k) = true := by simp only [hitB, g1', g2', g3', g4]; rfl
                  have HF : Hid (pathTo P K N n (fun i => I i % 3) S (k + 1) = some (j + 1)) := by rw [HSUC.out, hl.out, last_take P K N hit]; rfl
                  clear hit g1 g2 g3 hl
                  go_wp2
                  go_quiet ((first | (go_at_call 26; exact Calls.quiet_of_same (parent_any _ _ _ (by omega) (by omega) hp0 hp1)) | (go_at_call 27; exact Calls.quiet_of_same (kind_any _ _))))
                  go_wp2
                  go_roundw
                  case rel => exact ⟨k + 1, j + 1, by omega, by go_num, HF, by go_num, below_drewN bl2 _⟩
                  case measure => simp [intOf]; omega
                | false =>
                  have hit : hitB P K N j c kd (S k) = false := by simp only [hitB, g1', g2', g3', g4]; rfl
                  have HL : Hid (last P K N n c kd (S k) = last P K N j c kd (S k)) := by rw [hl.out]; exact last_skip P K N hit
                  clear hit g1 g2 g3 hl
                  go_wp2
                  go_quiet ((first | (go_at_call 26; exact Calls.quiet_of_same (parent_any _ _ _ (by omega) (by omega) hp0 hp1)) | (go_at_call 27; exact Calls.quiet_of_same (kind_any _ _))))
                  go_wp2
                  go_roundw
                  case rel => exact ⟨j, by omega, by rw [dn_eq], rfl, HL, below_drewN bl2 _⟩
                  case measure => simp [intOf]
              · have g3' : (kd != 0) = true := by simpa using g3
                have hit : hitB P K N j c kd (S k) = true := by simp only [hitB, g1', g2', g3']; rfl
                have HF : Hid (pathTo P K N n (fun i => I i % 3) S (k + 1) = some (j + 1)) := by rw [HSUC.out, hl.out, last_take P K N hit]; rfl
                clear hit g1 g2 g3 hl
                go_wp2
                go_quiet ((first | (go_at_call 26; exact Calls.quiet_of_same (parent_any _ _ _ (by omega) (by omega) hp0 hp1)) | (go_at_call 27; exact Calls.quiet_of_same (kind_any _ _))))
                go_wp2
                go_roundw
                case rel => exact ⟨k + 1, j + 1, by omega, by go_num, HF, by go_num, below_drewN bl2 _⟩
                case measure => simp [intOf]; omega
            · have g1' : (par (P j) j == (c : Int)) = true := by simpa using g1
              have g2' : (K j % 3 == kd) = false := by simpa using g2
              have HL : Hid (last P K N n c kd (S k) = last P K N j c kd (S k)) := by rw [hl.out]; exact last_other_kind P K N g2
              clear g1 g2 hl
              go_wp2
              go_quiet ((first | (go_at_call 26; exact Calls.quiet_of_same (parent_any _ _ _ (by omega) (by omega) hp0 hp1)) | (go_at_call 27; exact Calls.quiet_of_same (kind_any _ _))))
              go_wp2
              go_roundw
              case rel => exact ⟨j, by omega, by rw [dn_eq], rfl, HL, below_drewN bl2 _⟩
              case measure => simp [intOf]
          · have g1' : (par (P j) j == (c : Int)) = false := by simpa using g1
            have HL : Hid (last P K N n c kd (S k) = last P K N j c kd (S k)) := by rw [hl.out]; exact last_other_node P K N g1
            clear g1 hl
            go_wp2
            go_quiet ((first | (go_at_call 26; exact Calls.quiet_of_same (parent_any _ _ _ (by omega) (by omega) hp0 hp1)) | (go_at_call 27; exact Calls.quiet_of_same (kind_any _ _))))
            go_wp2
            go_roundw
            case rel => exact ⟨j, by omega, by rw [dn_eq], rfl, HL, below_drewN bl2 _⟩
            case measure => simp [intOf]
    · have e : k = len := by omega
      subst e
      have fin : Hid (Ending.returned (.tuple #[.int .i64 (c : Int), .bool true]) = .returned (.tuple #[.int .i64 (ans (pathTo P K N n (fun i => I i % 3) S k)).1, .bool (ans (pathTo P K N n (fun i => I i % 3) S k)).2])) := by rw [hpath.out]; rfl
      go_wp2
      go_ret2
      exact ⟨fin.out, bl⟩
end Go.Proofs.Qxb6000407aMods.Sch
