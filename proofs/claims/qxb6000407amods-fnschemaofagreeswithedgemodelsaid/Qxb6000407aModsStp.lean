/-
  SEAT b6000407aM. The walks of ZZStep (32) and toSteps (21).
-/
import Derived.Test.Qxb6000407aModsBui
import Derived.Deep.RegionHeld3
import Derived.Deep.DrawnRows
namespace Go.Proofs.Qxb6000407aMods.Sch
open Go.RowKit
set_option linter.unusedVariables false

theorem step_any (w : World) (i : Int) (s : ByteArray) :
    Calls Trym.prog 32 #[.int .i64 i, .string s] w fun e w' => e = .returned (.agg #[.int .i64 i, .string s]) ∧ w' = w.alloc (.cells #[.int .i64 i, .string s] 57) := by
  go_enter Trym.func32, Trym.ntmps32
  go_wp2
  exact bodyPost_ret (v := .agg #[.int .i64 i, .string s]) (by simp [results, Trym.results32, go_sem]) rfl ⟨rfl, rfl⟩

theorem info57 : (Trym.prog.info? 57).map (fun i => (i.zero, i.size, i.bytes)) = some (some (.agg #[.int .i64 0, .string ByteArray.empty]), 2, 24) := by kernel_rfl

set_option maxHeartbeats 1000000 in
theorem to_steps (w : World) (a : Option Addr) (len cap : Nat) (I : Nat → Int) (N : Nat → ByteArray) (h : StepsAt w a len I N) (h4 : len ≤ 4096) :
    Calls Trym.prog 21 #[.slice a len cap] w fun e w' => e = .returned (.slice (some ⟨w.heap.size, 0, none⟩) len len) ∧ StepsAt w' (some ⟨w.heap.size, 0, none⟩) len (fun i => I i % 3) N ∧ Below w.heap.size w w' := by
  obtain ⟨i9, hi, hz0, hz1, hz2⟩ := info_parts info57
  have hm := h.1
  go_enter Trym.func21, Trym.ntmps21
  go_wp2_with (first | (at_make; go_must (refine wpList_make_full _ rfl _ _ 40 rfl w.heap.size 57 i9 (.agg #[.int .i64 0, .string ByteArray.empty]) 2 Trym.underlying40 hi hz0 hz1 _ _ _ _ len rfl rfl rfl rfl (by rw [hz2]; omega) hm (Nat.le_refl _) ?_; intro W1 own1 gr1; have bl1 : Below w.heap.size w W1 := (Below.refl _ _).grown gr1 (Nat.le_refl _) (fun k hk => by cases hk))))
  clear hi hz0 hz1 hz2
  generalize (madeCells (Value.agg #[.int .i64 0, .string ByteArray.empty]).cells (len * 2)).toList = zs at *
  go_loopw [4] (fun i wr => ∃ (k : Nat) (xs : List Value), k ≤ len ∧ i = .int .i64 k ∧ wr.ownsRow w.heap.size 57 2 (.slice (some ⟨w.heap.size, 0, none⟩) len len) len xs ∧ Hid (∀ j, j < k → xs[j * 2]? = some (.int .i64 (I j % 3)) ∧ xs[j * 2 + 1]? = some (.string (N j))) ∧ Below w.heap.size w wr) (fun i _ => len - (intOf i).toNat)
  case atStart => exact ⟨0, zs, Nat.zero_le _, rfl, own1, fun j hj => by omega, bl1⟩
  case round =>
    obtain ⟨k, xs, hk, rfl, own, hx, bl⟩ := hrel
    by_cases hlt : k < len
    · obtain ⟨b, off, hab, hcell⟩ := h.2.2 (by omega)
      subst hab
      obtain ⟨c1, c2⟩ := hcell k hlt
      have hblt : b < w.heap.size := World.block_lt_of_cell? w _ c1
      have d1 := (bl.cell hblt).trans c1
      have d2 := (bl.cell hblt).trans c2
      obtain ⟨v1, e1⟩ := own_cell own (k * 2) (by omega)
      obtain ⟨v2, e2⟩ := own_cell own (k * 2 + 1) (by omega)
      have f1 := own.frozenAt (k * 2)
      have f2 := own.frozenAt (k * 2 + 1)
      have hgl : w.heap.size < wr.heap.size := World.block_lt_of_cell? wr _ e1
      have hbl : b < wr.heap.size := by omega
      have hbne : b ≠ w.heap.size := by omega
      have hbne' : w.heap.size ≠ b := by omega
      have hn1 : wr.heap.size ≠ b := by omega
      have hn2 : b ≠ wr.heap.size := by omega
      have hn3 : wr.heap.size ≠ w.heap.size := by omega
      have j0 : (0 : Int) ≤ (k : Int) := by omega
      have j1 : (k : Int) < (len : Int) := by omega
      have OWN : Hid (wr.ownsRow w.heap.size 57 2 (.slice (some ⟨w.heap.size, 0, none⟩) len len) len xs) := own
      clear own c1 c2 hcell
      go_wp2
      go_region_held3 (fun w' => w'.cell? ⟨b, off + k * 2, none⟩ = some (.int .i64 (I k)) ∧ w'.cell? ⟨b, off + k * 2 + 1, none⟩ = some (.string (N k))) (go_keep) (first | (go_at_call 27; refine (kind_any _ _).mono ?_; rintro e w' ⟨rfl, rfl⟩) | (go_at_call 32; refine (step_any _ _ _).mono ?_; rintro e w' ⟨rfl, rfl⟩))
      all_goals go_wp2
      have hxl : xs.length = len * 2 := OWN.out.1
      have hx' : ∀ j, j < k + 1 → (put2 xs (k * 2) (.int .i64 (I k % 3)) (.string (N k)))[j * 2]? = some (.int .i64 (I j % 3)) ∧ (put2 xs (k * 2) (.int .i64 (I k % 3)) (.string (N k)))[j * 2 + 1]? = some (.string (N j)) := by
        intro j hj
        by_cases e : j = k
        · subst e
          exact put2_at xs (j * 2) (by omega) _ _
        · rw [put2_other _ _ _ _ _ (by omega) (by omega), put2_other _ _ _ _ _ (by omega) (by omega)]
          exact hx.out j (by omega)
      go_roundw
      case rel => exact ⟨k + 1, _, by omega, by go_num, (((World.ownsRow.stored OWN.out (k * 2) _).1.stored (k * 2 + 1) _).1.alloc _).drew, hx', ((((bl.setCell (Nat.le_refl _) _).setCell (Nat.le_refl _) _).alloc (by rw [World.size_setCell, World.size_setCell]; omega) _)).drew⟩
      case measure => simp [intOf]; omega
    · have e : k = len := by omega
      subst e
      have fin : Hid (StepsAt wr (some ⟨w.heap.size, 0, none⟩) k (fun i => I i % 3) N) := ⟨hm, fun i hi => ⟨by show _ ≤ I i % 3 ∧ I i % 3 ≤ _; omega, (h.2.1 i hi).2⟩, fun h0 => ⟨w.heap.size, 0, rfl, fun i hi => by
        obtain ⟨y1, y2⟩ := hx.out i hi
        exact ⟨by rw [Nat.zero_add, own.cellAt (i * 2) (by omega)]; exact y1, by rw [Nat.zero_add, own.cellAt (i * 2 + 1) (by omega)]; exact y2⟩⟩⟩
      clear own hx h
      go_wp2
      go_ret
      exact ⟨rfl, fin.out, bl⟩
end Go.Proofs.Qxb6000407aMods.Sch
