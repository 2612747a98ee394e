/-
  SEAT b6000407aM. The walks of schemaOf (31) and ZZSchemaOf (20).
-/
import Derived.Test.Qxb6000407aModsStp
import Derived.Deep.QuietTactic
import Derived.BigQuiet
import Derived.WalkSmall
namespace Go.Proofs.Qxb6000407aMods.Sch
open Go.RowKit
set_option linter.unusedVariables false

section
variable (P K : Nat → Int) (N : Nat → ByteArray) (n : Nat) (I : Nat → Int) (S : Nat → ByteArray)
/-- The node that the first k steps lead to. -/
def pathTo : Nat → Option Nat
  | 0 => some 0
  | k + 1 => match pathTo k with
    | none => none
    | some c => (last P K N n c (I k) (S k)).map (· + 1)
theorem pathTo_none {k m : Nat} (h : pathTo P K N n I S k = none) (hm : k ≤ m) : pathTo P K N n I S m = none := by
  induction m with
  | zero => obtain rfl : k = 0 := by omega
            exact h
  | succ m ih =>
    by_cases e : k = m + 1
    · subst e; exact h
    · simp only [pathTo, ih (by omega)]
theorem pathTo_succ {k c : Nat} (h : pathTo P K N n I S k = some c) : pathTo P K N n I S (k + 1) = (last P K N n c (I k) (S k)).map (· + 1) := by
  simp only [pathTo, h]
theorem pathTo_le {k c : Nat} (h : pathTo P K N n I S k = some c) : c ≤ n := by
  cases k with
  | zero => cases h; omega
  | succ k =>
    cases e : pathTo P K N n I S k with
    | none => simp only [pathTo, e] at h; cases h
    | some d =>
      rw [pathTo_succ P K N n I S e] at h
      cases e2 : last P K N n d (I k) (S k) with
      | none => rw [e2] at h; cases h
      | some j =>
        rw [e2] at h
        have h' : j + 1 = c := Option.some.inj h
        have := last_lt P K N e2
        omega
end

/-- A node's address. -/
def ptrN (A : Nat → Nat) : Option Nat → Option Addr
  | none => none
  | some c => some ⟨A c, 0, none⟩

theorem Props.look {w : World} {n : Nat} {m : Option Nat} {f : ByteArray → Option Addr} (h : Props w n m f) {s : ByteArray} (hs : s.size ≤ maxLen) :
    (Instr.lookup 60 (.map m) (.string s) false).run Trym.prog w = .ok (.pointer (f s)) w := by
  rcases h with ⟨rfl, h⟩ | ⟨b, rfl, h⟩
  · rw [h s]
    exact look_none w hs
  · exact h.look hs

variable {P K : Nat → Int} {N : Nat → ByteArray} {n : Nat} {I : Nat → Int} {S : Nat → ByteArray}

theorem fin_none {A : Nat → Nat} {k len : Nat} (hk : k < len) (h : pathTo P K N n I S (k + 1) = none) :
    Ending.returned (.tuple #[.pointer none, .bool false]) = .returned (.tuple #[.pointer (ptrN A (pathTo P K N n I S len)), .bool (pathTo P K N n I S len).isSome]) := by
  rw [pathTo_none P K N n I S h (by omega)]
  rfl

set_option maxHeartbeats 2000000 in
theorem schema_any (w : World) (base : Nat) (A : Nat → Nat) (M : Nat → Option Nat) (T : Tree P K N w base (n + 1) n A M) (a : Option Addr) (len cap : Nat) (h : StepsAt w a len I S) (hI : ∀ i, 0 ≤ I i ∧ I i ≤ 2) (h4 : len ≤ 4096) :
    Calls Trym.prog 31 #[.pointer (some ⟨A 0, 0, none⟩), .slice a len cap] w fun e w' => e = .returned (.tuple #[.pointer (ptrN A (pathTo P K N n I S len)), .bool (pathTo P K N n I S len).isSome]) ∧ Below w.heap.size w w' := by
  go_enter Trym.func31, Trym.ntmps31
  go_wp2
  go_loopw [0, 10] (fun p i wr => ∃ (k c : Nat), k ≤ len ∧ i = .int .i64 k ∧ Hid (pathTo P K N n I S k = some c) ∧ p = .pointer (some ⟨A c, 0, none⟩) ∧ Below w.heap.size w wr) (fun _ i _ => len - (intOf i).toNat)
  case atStart => exact ⟨0, 0, Nat.zero_le _, rfl, rfl, rfl, Below.refl _ _⟩
  case round =>
    obtain ⟨k, c, hk, rfl, hpath, rfl, bl⟩ := hrel
    by_cases hlt : k < len
    · obtain ⟨b, off, hab, hcell⟩ := h.2.2 (by omega)
      subst hab
      obtain ⟨c1, c2⟩ := hcell k hlt
      have hs := (h.2.1 k hlt).2
      have hblt : b < w.heap.size := World.block_lt_of_cell? w _ c1
      have d1 := (bl.cell hblt).trans c1
      have d2 := (bl.cell hblt).trans c2
      have hc := pathTo_le P K N n I S hpath.out
      have nd := T.node c (by omega)
      have hAlt := nd.lt
      have nd' := nd.kept (bl.block _ hAlt)
      have pr := T.props c (by omega)
      have pr' : Hid _ := pr.kept (fun mb hm => bl.block _ (pr.lt hm))
      obtain ⟨n0, n1, ⟨x, n2⟩, n3⟩ := nd'.cells
      have hz := bl.size
      have hAl : A c < wr.heap.size := by omega
      have hbl : b < wr.heap.size := by omega
      have hne1 : b ≠ wr.heap.size := by omega
      have hne2 : A c ≠ wr.heap.size := by omega
      have j1 : (k : Int) < (len : Int) := by omega
      have hsuc := pathTo_succ P K N n I S hpath.out
      have hIk := hI k
      have HSUC : Hid _ := hsuc
      clear c1 c2 hcell hsuc nd nd' pr
      rcases (show I k = 0 ∨ I k = 1 ∨ I k = 2 by omega) with e | e | e
      · rw [e] at d1
        have HE : Hid _ := e
        clear e hIk
        have hlk : ∀ nq, (Instr.lookup 60 (.map (M c)) (.string (S k)) false).run Trym.prog ((wr.alloc (.cells #[.int .i64 0, .string (S k)] 57)).drewN nq) = .ok (.pointer (ptr A (last P K N n c 0 (S k)))) ((wr.alloc (.cells #[.int .i64 0, .string (S k)] 57)).drewN nq) := fun nq =>
          Props.look (Props.kept (w' := (wr.alloc (.cells #[.int .i64 0, .string (S k)] 57)).drewN nq) pr'.out (fun mb hm => Below.heap_alloc wr (.cells #[.int .i64 0, .string (S k)] 57) mb (Props.lt pr'.out hm))) hs
        cases hl : last P K N n c 0 (S k) with
        | none =>
          rw [hl] at hlk
          have fin : Hid _ := fin_none (A := A) (P := P) (K := K) (N := N) (n := n) (I := I) (S := S) hlt (by rw [HSUC.out, HE.out, hl]; rfl)
          clear hl
          go_wp2
          go_quiet (fail)
          go_wp2
          go_ret2
          exact ⟨fin.out, below_drewN (bl.alloc hz _) _⟩
        | some j =>
          rw [hl] at hlk
          have fin : Hid (pathTo P K N n I S (k + 1) = some (j + 1)) := by rw [HSUC.out, HE.out, hl]; rfl
          clear hl
          go_wp2
          go_quiet (fail)
          go_wp2
          go_roundw
          case rel => exact ⟨k + 1, j + 1, by omega, by go_num, fin, rfl, below_drewN (bl.alloc hz _) _⟩
          case measure => simp [intOf]; omega
      · rw [e] at d1
        have HE : Hid _ := e
        clear e hIk
        cases hl : last P K N n c 1 (S k) with
        | none =>
          have n3' : wr.cell? ⟨A c, 3, none⟩ = some (.pointer none) := by rw [n3, last_name P K N (by omega) ByteArray.empty (S k), hl]; rfl
          have fin : Hid _ := fin_none (A := A) (P := P) (K := K) (N := N) (n := n) (I := I) (S := S) hlt (by rw [HSUC.out, HE.out, hl]; rfl)
          clear n3 hl
          go_wp2
          go_ret2
          exact ⟨fin.out, bl.alloc hz _⟩
        | some j =>
          have n3' : wr.cell? ⟨A c, 3, none⟩ = some (.pointer (some ⟨A (j + 1), 0, none⟩)) := by rw [n3, last_name P K N (by omega) ByteArray.empty (S k), hl]; rfl
          have fin : Hid (pathTo P K N n I S (k + 1) = some (j + 1)) := by rw [HSUC.out, HE.out, hl]; rfl
          clear n3 hl
          go_wp2
          go_roundw
          case rel => exact ⟨k + 1, j + 1, by omega, by go_num, fin, rfl, bl.alloc hz _⟩
          case measure => simp [intOf]; omega
      · rw [e] at d1
        have HE : Hid _ := e
        clear e hIk
        cases hl : last P K N n c 2 (S k) with
        | none =>
          have n3' : wr.cell? ⟨A c, 1, none⟩ = some (.pointer none) := by rw [n1, last_name P K N (by omega) ByteArray.empty (S k), hl]; rfl
          have fin : Hid _ := fin_none (A := A) (P := P) (K := K) (N := N) (n := n) (I := I) (S := S) hlt (by rw [HSUC.out, HE.out, hl]; rfl)
          clear n1 hl
          go_wp2
          go_ret2
          exact ⟨fin.out, bl.alloc hz _⟩
        | some j =>
          have n3' : wr.cell? ⟨A c, 1, none⟩ = some (.pointer (some ⟨A (j + 1), 0, none⟩)) := by rw [n1, last_name P K N (by omega) ByteArray.empty (S k), hl]; rfl
          have fin : Hid (pathTo P K N n I S (k + 1) = some (j + 1)) := by rw [HSUC.out, HE.out, hl]; rfl
          clear n1 hl
          go_wp2
          go_roundw
          case rel => exact ⟨k + 1, j + 1, by omega, by go_num, fin, rfl, bl.alloc hz _⟩
          case measure => simp [intOf]; omega
    · have e : k = len := by omega
      subst e
      have fin : Hid (Ending.returned (.tuple #[.pointer (some ⟨A c, 0, none⟩), .bool true]) = .returned (.tuple #[.pointer (ptrN A (pathTo P K N n I S k)), .bool (pathTo P K N n I S k).isSome])) := by rw [hpath.out]; rfl
      go_wp2
      go_ret2
      exact ⟨fin.out, bl⟩

theorem zz_schema (w : World) (base : Nat) (A : Nat → Nat) (M : Nat → Option Nat) (T : Tree P K N w base (n + 1) n A M) (a : Option Addr) (len cap : Nat) (h : StepsAt w a len I S) (hI : ∀ i, 0 ≤ I i ∧ I i ≤ 2) (h4 : len ≤ 4096) :
    Calls Trym.prog 20 #[.pointer (some ⟨A 0, 0, none⟩), .slice a len cap] w fun e w' => e = .returned (.tuple #[.pointer (ptrN A (pathTo P K N n I S len)), .bool (pathTo P K N n I S len).isSome]) ∧ Below w.heap.size w w' := by
  go_enter Trym.func20, Trym.ntmps20
  go_wp2_with (go_at_call 31; go_must (refine (schema_any w base A M T a len cap h hI h4).mono ?_; rintro e w' ⟨rfl, bl⟩))
  go_ret2
  exact ⟨rfl, bl⟩
end Go.Proofs.Qxb6000407aMods.Sch
