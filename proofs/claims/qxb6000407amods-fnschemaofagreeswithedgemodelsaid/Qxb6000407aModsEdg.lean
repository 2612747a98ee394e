/-
  SEAT b6000407aM. Slices of edges and of steps; the walks of zzBytes_FnSchemaOfAgreesWithEdgeModel (14), sizeOfEdges (15), sizeOfSteps (16), parentOf (26), kindOf (27).
-/
import Derived.Test.Qxb6000407aModsStr
namespace Go.Proofs.Qxb6000407aMods.Sch
open Go.RowKit
open Go.Proofs.Qxb6000407aMods.Str (RetB RetI RetV)

/-- A slice of edges: its elements' parents, kinds and names, a function each. -/
def EdgesAt (w : World) (a : Option Addr) (len : Nat) (P K : Nat → Int) (N : Nat → ByteArray) : Prop :=
  len ≤ maxLen ∧ (∀ i, i < len → (-9223372036854775808 ≤ P i ∧ P i ≤ 9223372036854775807) ∧ (-9223372036854775808 ≤ K i ∧ K i ≤ 9223372036854775807) ∧ (N i).size ≤ maxLen) ∧
  (0 < len → ∃ b off, a = some ⟨b, off, none⟩ ∧ ∀ i, i < len → w.cell? ⟨b, off + i * 3, none⟩ = some (.int .i64 (P i)) ∧ w.cell? ⟨b, off + i * 3 + 1, none⟩ = some (.int .i64 (K i)) ∧ w.cell? ⟨b, off + i * 3 + 2, none⟩ = some (.string (N i)))

/-- A slice of steps. -/
def StepsAt (w : World) (a : Option Addr) (len : Nat) (I : Nat → Int) (N : Nat → ByteArray) : Prop :=
  len ≤ maxLen ∧ (∀ i, i < len → (-9223372036854775808 ≤ I i ∧ I i ≤ 9223372036854775807) ∧ (N i).size ≤ maxLen) ∧
  (0 < len → ∃ b off, a = some ⟨b, off, none⟩ ∧ ∀ i, i < len → w.cell? ⟨b, off + i * 2, none⟩ = some (.int .i64 (I i)) ∧ w.cell? ⟨b, off + i * 2 + 1, none⟩ = some (.string (N i)))

theorem EdgesAt.later {w w' : World} {a : Option Addr} {len : Nat} {P K : Nat → Int} {N : Nat → ByteArray} (h : EdgesAt w a len P K N) (b : Below w.heap.size w w') : EdgesAt w' a len P K N := by
  obtain ⟨h1, h2, h3⟩ := h
  refine ⟨h1, h2, fun h0 => ?_⟩
  obtain ⟨g, off, ha, hc⟩ := h3 h0
  refine ⟨g, off, ha, fun i hi => ?_⟩
  obtain ⟨c1, c2, c3⟩ := hc i hi
  exact ⟨(b.cell (World.block_lt_of_cell? w _ c1)).trans c1, (b.cell (World.block_lt_of_cell? w _ c2)).trans c2, (b.cell (World.block_lt_of_cell? w _ c3)).trans c3⟩

theorem StepsAt.later {w w' : World} {a : Option Addr} {len : Nat} {I : Nat → Int} {N : Nat → ByteArray} (h : StepsAt w a len I N) (b : Below w.heap.size w w') : StepsAt w' a len I N := by
  obtain ⟨h1, h2, h3⟩ := h
  refine ⟨h1, h2, fun h0 => ?_⟩
  obtain ⟨g, off, ha, hc⟩ := h3 h0
  refine ⟨g, off, ha, fun i hi => ?_⟩
  obtain ⟨c1, c2⟩ := hc i hi
  exact ⟨(b.cell (World.block_lt_of_cell? w _ c1)).trans c1, (b.cell (World.block_lt_of_cell? w _ c2)).trans c2⟩

/-- parentOf, in plain numbers. -/
def par (p i : Int) : Int := (if p < 0 then -(p + 1) else p) % (i + 1)
theorem par_bd {p i : Int} (hi : 0 ≤ i) : 0 ≤ par p i ∧ par p i ≤ i := by
  unfold par
  have h1 := Int.emod_nonneg (if p < 0 then -(p + 1) else p) (show i + 1 ≠ 0 by omega)
  have h2 := Int.emod_lt_of_pos (if p < 0 then -(p + 1) else p) (show 0 < i + 1 by omega)
  omega
theorem ret_int {k : IntKind} {a b : Int} (h : a = b) : Ending.returned (.int k a) = .returned (.int k b) := by rw [h]

theorem par_neg {p i : Int} (hp : p < 0) : -((p + 1).tmod (i + 1)) = par p i := by
  unfold par
  rw [if_pos hp, ← Int.neg_tmod, Int.tmod_eq_emod_of_nonneg (by omega)]
theorem par_pos {p i : Int} (hp : ¬ p < 0) : p % (i + 1) = par p i := by
  unfold par
  rw [if_neg hp]

theorem parent_any (p i : Int) (w : World) (h0 : 0 ≤ i) (h1 : i ≤ 4096) (h2 : -9223372036854775808 ≤ p) (h3 : p ≤ 9223372036854775807) :
    Calls Trym.prog 26 #[.int .i64 p, .int .i64 i] w fun e w' => e = .returned (.int .i64 (par p i)) ∧ w' = w := by
  by_cases hp : p < 0
  · have e : Hid _ := par_neg (i := i) hp
    go_enter Trym.func26, Trym.ntmps26
    go_wp2
    go_ret
    exact ⟨ret_int e.out, rfl⟩
  · have e : Hid _ := par_pos (i := i) hp
    go_enter Trym.func26, Trym.ntmps26
    go_wp2
    go_ret
    exact ⟨ret_int e.out, rfl⟩

theorem tmod3 (k : Int) : k.tmod 3 = if 0 ≤ k then k % 3 else -((-k) % 3) := by
  split
  · exact Int.tmod_eq_emod_of_nonneg (by assumption)
  · have h := Int.tmod_eq_emod_of_nonneg (a := -k) (b := 3) (by omega)
    rw [Int.neg_tmod] at h
    omega
theorem kind_neg {k : Int} (h : k.tmod 3 < 0) : wrap64 (k.tmod 3 + 3) = k % 3 := by
  unfold wrap64
  rw [tmod3] at *
  split at h <;> omega
theorem kind_pos {k : Int} (h : 0 ≤ k.tmod 3) : k.tmod 3 = k % 3 := by
  rw [tmod3] at *
  split at h <;> omega

theorem kind_any (k : Int) (w : World) :
    Calls Trym.prog 27 #[.int .i64 k] w fun e w' => e = .returned (.int .i64 (k % 3)) ∧ w' = w := by
  go_enter Trym.func27, Trym.ntmps27
  go_wp2
  · go_ret
    exact ⟨ret_int (kind_neg (by assumption)), rfl⟩
  · go_ret
    exact ⟨ret_int (kind_pos (by assumption)), rfl⟩

set_option maxHeartbeats 400000 in
theorem size_edges (w : World) (a : Option Addr) (len cap : Nat) (P K : Nat → Int) (N : Nat → ByteArray) (h : EdgesAt w a len P K N) :
    Calls Trym.prog 15 #[.slice a len cap] w fun e w' => RetI (fun r => 0 ≤ r ∧ r ≤ 1048577) e ∧ w' = w := by
  obtain ⟨hm, hz, hc⟩ := h
  unfold maxLen at hm
  by_cases h1 : 4096 < len
  · go_enter Trym.func15, Trym.ntmps15
    go_wp2
    go_ret
    exact ⟨RetI.mk 1048577 (by omega), rfl⟩
  go_enter Trym.func15, Trym.ntmps15
  go_wp2
  go_loop [3, 4] (fun z i => ∃ (k : Nat) (n : Int), k ≤ len ∧ i = .int .i64 k ∧ z = .int .i64 n ∧ 0 ≤ n ∧ n ≤ 1048576) (fun _ i => len - (intOf i).toNat)
  case atStart => exact ⟨0, len * 32, Nat.zero_le _, rfl, rfl, by omega, by omega⟩
  case round =>
    obtain ⟨k, n, hk, rfl, rfl, hn0, hn1⟩ := hrel
    by_cases hlt : k < len
    · obtain ⟨b, off, rfl, hcell⟩ := hc (by omega)
      obtain ⟨_, _, hck⟩ := hcell k hlt
      have hsz := (hz k hlt).2.2
      generalize N k = s at *
      unfold maxLen at hsz
      clear hcell hz
      go_wp2
      · go_ret
        exact ⟨RetI.mk 1048577 (by omega), rfl⟩
      · go_ret
        exact ⟨RetI.mk 1048577 (by omega), rfl⟩
      · go_round
        case rel => exact ⟨k + 1, _, by omega, by go_num, rfl, by omega, by omega⟩
        case measure => simp [intOf]; omega
    · go_wp2
      go_ret
      exact ⟨RetI.mk n (by omega), rfl⟩

set_option maxHeartbeats 400000 in
theorem size_steps (w : World) (a : Option Addr) (len cap : Nat) (I : Nat → Int) (N : Nat → ByteArray) (h : StepsAt w a len I N) :
    Calls Trym.prog 16 #[.slice a len cap] w fun e w' => RetI (fun r => 0 ≤ r ∧ r ≤ 1048577) e ∧ w' = w := by
  obtain ⟨hm, hz, hc⟩ := h
  unfold maxLen at hm
  by_cases h1 : 4096 < len
  · go_enter Trym.func16, Trym.ntmps16
    go_wp2
    go_ret
    exact ⟨RetI.mk 1048577 (by omega), rfl⟩
  go_enter Trym.func16, Trym.ntmps16
  go_wp2
  go_loop [3, 4] (fun z i => ∃ (k : Nat) (n : Int), k ≤ len ∧ i = .int .i64 k ∧ z = .int .i64 n ∧ 0 ≤ n ∧ n ≤ 1048576) (fun _ i => len - (intOf i).toNat)
  case atStart => exact ⟨0, len * 24, Nat.zero_le _, rfl, rfl, by omega, by omega⟩
  case round =>
    obtain ⟨k, n, hk, rfl, rfl, hn0, hn1⟩ := hrel
    by_cases hlt : k < len
    · obtain ⟨b, off, rfl, hcell⟩ := hc (by omega)
      obtain ⟨_, hck⟩ := hcell k hlt
      have hsz := (hz k hlt).2
      generalize N k = s at *
      unfold maxLen at hsz
      clear hcell hz
      go_wp2
      · go_ret
        exact ⟨RetI.mk 1048577 (by omega), rfl⟩
      · go_ret
        exact ⟨RetI.mk 1048577 (by omega), rfl⟩
      · go_round
        case rel => exact ⟨k + 1, _, by omega, by go_num, rfl, by omega, by omega⟩
        case measure => simp [intOf]; omega
    · go_wp2
      go_ret
      exact ⟨RetI.mk n (by omega), rfl⟩

set_option maxHeartbeats 800000 in
theorem bytes_any (w : World) (a a2 : Option Addr) (len cap len2 cap2 : Nat) (P K : Nat → Int) (N : Nat → ByteArray) (I : Nat → Int) (M : Nat → ByteArray) (h : EdgesAt w a len P K N) (h2 : StepsAt w a2 len2 I M) :
    Calls Trym.prog 14 #[.slice a len cap, .slice a2 len2 cap2] w fun e w' => RetB (fun _ => True) e ∧ w' = w := by
  obtain ⟨hm, hz, hc⟩ := h
  obtain ⟨hm2, hz2, hc2⟩ := h2
  unfold maxLen at hm hm2
  by_cases h1 : 1048576 < len
  · go_enter Trym.func14, Trym.ntmps14
    go_wp2
    go_ret
    exact ⟨RetB.mk _ trivial, rfl⟩
  go_enter Trym.func14, Trym.ntmps14
  go_wp2
  go_loop [5, 6] (fun z i => ∃ (k : Nat) (n : Int), k ≤ len ∧ i = .int .i64 k ∧ z = .int .i64 n ∧ 0 ≤ n ∧ n ≤ 1048576) (fun _ i => len - (intOf i).toNat)
  case atStart => exact ⟨0, len, Nat.zero_le _, rfl, rfl, by omega, by omega⟩
  case round =>
    obtain ⟨k, n, hk, rfl, rfl, hn0, hn1⟩ := hrel
    by_cases hlt : k < len
    · obtain ⟨b, off, rfl, hcell⟩ := hc (by omega)
      obtain ⟨_, _, hck⟩ := hcell k hlt
      have hsz := (hz k hlt).2.2
      generalize N k = s at *
      unfold maxLen at hsz
      clear hcell hz hc2 hz2
      go_wp2
      · go_ret
        exact ⟨RetB.mk _ trivial, rfl⟩
      · go_ret
        exact ⟨RetB.mk _ trivial, rfl⟩
      · go_round
        case rel => exact ⟨k + 1, _, by omega, by go_num, rfl, by omega, by omega⟩
        case measure => simp [intOf]; omega
    · clear hc hz
      by_cases h3 : 1048576 < len2
      · go_wp2
        go_ret
        exact ⟨RetB.mk _ trivial, rfl⟩
      by_cases h4 : 1048576 < n + len2
      · go_wp2
        go_ret
        exact ⟨RetB.mk _ trivial, rfl⟩
      go_wp2
      go_loop [5, 7] (fun z i => ∃ (k : Nat) (n : Int), k ≤ len2 ∧ i = .int .i64 k ∧ z = .int .i64 n ∧ 0 ≤ n ∧ n ≤ 1048576) (fun _ i => len2 - (intOf i).toNat)
      case atStart => exact ⟨0, _, Nat.zero_le _, rfl, rfl, by omega, by omega⟩
      case round =>
        obtain ⟨k2, n2, hk2, rfl, rfl, hn20, hn21⟩ := hrel
        by_cases hlt2 : k2 < len2
        · obtain ⟨b, off, rfl, hcell⟩ := hc2 (by omega)
          obtain ⟨_, hck⟩ := hcell k2 hlt2
          have hsz := (hz2 k2 hlt2).2
          generalize M k2 = s at *
          unfold maxLen at hsz
          clear hcell hz2
          go_wp2
          · go_ret
            exact ⟨RetB.mk _ trivial, rfl⟩
          · go_ret
            exact ⟨RetB.mk _ trivial, rfl⟩
          · go_round
            case rel => exact ⟨k2 + 1, _, by omega, by go_num, rfl, by omega, by omega⟩
            case measure => simp [intOf]; omega
        · go_wp2
          go_ret
          exact ⟨RetB.mk _ trivial, rfl⟩
end Go.Proofs.Qxb6000407aMods.Sch
