/-
  SEAT b6000407aM. A slice of strings that came in; the walks of zzBytes_FnDistinctAgreesWithPairwise (8), sizeOfStrings (9), copyStrings (10).
-/
import Derived.Test.Qxb6000407aModsRows
import Derived.WalkKit
import Derived.ProofKit
import Derived.OpenShut
import Derived.WalkLawsBesides
import Derived.WalkSpells
import Derived.SliceStrings
import Derived.Laws.OwnMore
namespace Go.Proofs.Qxb6000407aMods.Str
open Go.RowKit

/-- What the walks are told of a slice of strings that came in: it has no element, or it leads to a row of 'len' cells, the strings ss. -/
def IsStrs (w : World) (a : Option Addr) (len : Nat) (ss : List ByteArray) : Prop :=
  ss.length = len ∧ len ≤ maxLen ∧ (∀ s ∈ ss, s.size ≤ maxLen) ∧ (0 < len → ∃ b off, a = some ⟨b, off, none⟩ ∧ ∀ i, i < len → w.cell? ⟨b, off + i, none⟩ = some (.string (ss.getD i ByteArray.empty)))

theorem getD_size {ss : List ByteArray} (h : ∀ s ∈ ss, s.size ≤ maxLen) (i : Nat) : (ss.getD i ByteArray.empty).size ≤ maxLen := by
  rcases Nat.lt_or_ge i ss.length with hi | hi
  · rw [List.getD_eq_getElem?_getD, List.getElem?_eq_getElem hi]
    exact h _ (List.getElem_mem hi)
  · rw [List.getD_eq_getElem?_getD, List.getElem?_eq_none hi]
    exact Nat.zero_le _

/-- It returned a bool of which p holds. -/
def RetB (p : Bool → Prop) (e : Ending) : Prop := ∃ r : Bool, e = .returned (.bool r) ∧ p r
/-- It returned an int of which p holds. -/
def RetI (p : Int → Prop) (e : Ending) : Prop := ∃ r : Int, e = .returned (.int .i64 r) ∧ p r
/-- It returned a value of which p holds. -/
def RetV (p : Value → Prop) (e : Ending) : Prop := ∃ r : Value, e = .returned r ∧ p r
theorem RetB.mk {p : Bool → Prop} (r : Bool) (h : p r) : RetB p (.returned (.bool r)) := ⟨r, rfl, h⟩
theorem RetI.mk {p : Int → Prop} (r : Int) (h : p r) : RetI p (.returned (.int .i64 r)) := ⟨r, rfl, h⟩
theorem RetV.mk {p : Value → Prop} (r : Value) (h : p r) : RetV p (.returned r) := ⟨r, rfl, h⟩

set_option maxHeartbeats 400000 in
theorem bytes_any (w : World) (a : Option Addr) (len cap : Nat) (ss : List ByteArray) (h : IsStrs w a len ss) :
    Calls Trym.prog 8 #[.slice a len cap] w fun e w' => RetB (fun _ => True) e ∧ w' = w := by
  obtain ⟨hl, hm, hz, hc⟩ := h
  unfold maxLen at hm
  by_cases h1 : 1048576 < len
  · go_enter Trym.func8, Trym.ntmps8
    go_wp2
    go_ret
    exact ⟨RetB.mk _ trivial, rfl⟩
  go_enter Trym.func8, Trym.ntmps8
  go_wp2
  go_loop [3, 4] (fun z i => ∃ (k : Nat) (n : Int), k ≤ len ∧ i = .int .i64 k ∧ z = .int .i64 n ∧ 0 ≤ n ∧ n ≤ 1048576) (fun _ i => len - (intOf i).toNat)
  case atStart => exact ⟨0, len, Nat.zero_le _, rfl, rfl, by omega, by omega⟩
  case round =>
    obtain ⟨k, n, hk, rfl, rfl, hn0, hn1⟩ := hrel
    by_cases hlt : k < len
    · obtain ⟨b, off, rfl, hcell⟩ := hc (by omega)
      have hck := hcell k hlt
      have hsz := getD_size hz k
      generalize ss.getD k ByteArray.empty = s at *
      unfold maxLen at hsz
      clear hcell hz
      go_wp2
      · go_ret
        exact ⟨RetB.mk _ trivial, rfl⟩
      · go_ret
        exact ⟨RetB.mk _ trivial, rfl⟩
      · go_round
        case rel => exact ⟨k + 1, _, by omega, by go_num, rfl, by omega, by omega⟩
        case measure => simp [intOf]; omega
    · go_wp2
      go_ret
      exact ⟨RetB.mk _ trivial, rfl⟩

set_option maxHeartbeats 400000 in
theorem size_any (w : World) (a : Option Addr) (len cap : Nat) (ss : List ByteArray) (h : IsStrs w a len ss) :
    Calls Trym.prog 9 #[.slice a len cap] w fun e w' => RetI (fun r => r ≤ 1048576 → len ≤ 4096) e ∧ w' = w := by
  obtain ⟨hl, hm, hz, hc⟩ := h
  unfold maxLen at hm
  by_cases h1 : 4096 < len
  · go_enter Trym.func9, Trym.ntmps9
    go_wp2
    go_ret
    exact ⟨RetI.mk 1048577 (by omega), rfl⟩
  go_enter Trym.func9, Trym.ntmps9
  go_wp2
  go_loop [3, 4] (fun z i => ∃ (k : Nat) (n : Int), k ≤ len ∧ i = .int .i64 k ∧ z = .int .i64 n ∧ 0 ≤ n ∧ n ≤ 1048576) (fun _ i => len - (intOf i).toNat)
  case atStart => exact ⟨0, len * 16, Nat.zero_le _, rfl, rfl, by omega, by omega⟩
  case round =>
    obtain ⟨k, n, hk, rfl, rfl, hn0, hn1⟩ := hrel
    by_cases hlt : k < len
    · obtain ⟨b, off, rfl, hcell⟩ := hc (by omega)
      have hck := hcell k hlt
      have hsz := getD_size hz k
      generalize ss.getD k ByteArray.empty = s at *
      unfold maxLen at hsz
      clear hcell hz
      go_wp2
      · go_ret
        exact ⟨RetI.mk 1048577 (by omega), rfl⟩
      · go_ret
        exact ⟨RetI.mk 1048577 (by omega), rfl⟩
      · go_round
        case rel => exact ⟨k + 1, _, by omega, by go_num, rfl, by omega, by omega⟩
        case measure => simp [intOf]; omega
    · go_wp2
      go_ret
      exact ⟨RetI.mk n (by omega), rfl⟩

theorem info9 : (Trym.prog.info? 9).map (fun i => (i.zero, i.size, i.bytes)) = some (some (.string ByteArray.empty), 1, 16) := by kernel_rfl

/-- A row half filled: the first k of xs, then what was there. -/
def fill (xs zs : List Value) (k : Nat) : List Value := xs.take k ++ zs.drop k
theorem fill_zero (xs zs : List Value) : fill xs zs 0 = zs := by simp [fill]
theorem fill_all {xs zs : List Value} (h : xs.length = zs.length) : fill xs zs zs.length = xs := by
  simp [fill, ← h]
theorem fill_len {xs zs : List Value} (h : xs.length = zs.length) (k : Nat) (hk : k ≤ zs.length) : (fill xs zs k).length = zs.length := by
  simp [fill, h]; omega
theorem fill_at {xs zs : List Value} (h : xs.length = zs.length) (k : Nat) (hk : k < zs.length) : ∃ u, (fill xs zs k)[k]? = some u := by
  have hl := fill_len h k (by omega)
  exact ⟨_, List.getElem?_eq_getElem (by omega)⟩
theorem fill_set {xs zs : List Value} (h : xs.length = zs.length) (k : Nat) (hk : k < zs.length) (u : Value) (hu : xs[k]? = some u) : (fill xs zs k).set k u = fill xs zs (k + 1) := by
  unfold fill
  have hkx : k < xs.length := by omega
  have e1 : (xs.take k).length = k := by simp; omega
  rw [List.set_append_right _ _ (by omega), e1, Nat.sub_self, List.drop_eq_getElem_cons hk, List.set_cons_zero, List.take_add_one, hu]
  simp

theorem map_at {ss : List ByteArray} {k : Nat} (hk : k < ss.length) : (ss.map Value.string)[k]? = some (.string (ss.getD k ByteArray.empty)) := by
  simp [List.getElem?_map, List.getElem?_eq_getElem hk]

theorem copy_nil (w : World) :
    Calls Trym.prog 10 #[.slice none 0 0] w fun e w' => e = .returned (.slice none 0 0) ∧ w' = w := by
  have heq := fun wx => Lib.run_eql_slice_nil (P := Trym.prog) wx 22 9 none 0 0 0 0 Trym.underlying22
  go_enter Trym.func10, Trym.ntmps10
  go_wp2
  go_ret
  exact ⟨rfl, rfl⟩

set_option maxHeartbeats 400000 in
theorem copy_some (w : World) (ad : Addr) (len cap : Nat) (ss : List ByteArray) (h : IsStrs w (some ad) len ss) (h4 : len ≤ 4096) :
    Calls Trym.prog 10 #[.slice (some ad) len cap] w fun e w' => e = .returned (.slice (some ⟨w.heap.size, 0, none⟩) len len) ∧ w'.ownsRow w.heap.size 9 1 (.slice (some ⟨w.heap.size, 0, none⟩) len len) len (ss.map Value.string) ∧ Below w.heap.size w w' := by
  obtain ⟨hl, hm, hz, hc⟩ := h
  have heq := fun wx => Lib.run_eql_slice_nil (P := Trym.prog) wx 22 9 (some ad) len cap 0 0 Trym.underlying22
  obtain ⟨i9, hi, hz0, hz1, hz2⟩ := info_parts info9
  have hml : (ss.map Value.string).length = (madeCells (Value.string ByteArray.empty).cells (len * 1)).toList.length := by simp [size_madeCells, hl]
  have hzl : (madeCells (Value.string ByteArray.empty).cells (len * 1)).toList.length = len := by simp [size_madeCells]
  go_enter Trym.func10, Trym.ntmps10
  go_wp2_with (first | (at_make; go_must (refine wpList_make_full _ rfl _ _ 22 rfl w.heap.size 9 i9 (.string ByteArray.empty) 1 Trym.underlying22 hi hz0 hz1 _ _ _ _ len rfl rfl rfl rfl (by rw [hz2]; omega) hm (Nat.le_refl _) ?_; intro W1 own1 gr1)))
  generalize (madeCells (Value.string ByteArray.empty).cells (len * 1)).toList = zs at *
  generalize hxs : ss.map Value.string = xs at *
  have HX : Hid _ := hxs
  clear hxs
  have bl1 : Below w.heap.size w W1 := (Below.refl _ _).grown gr1 (Nat.le_refl _) (fun k hk => by cases hk)
  clear gr1 heq
  go_loopw [4] (fun i wr => ∃ k : Nat, k ≤ len ∧ i = .int .i64 k ∧ wr.ownsRow w.heap.size 9 1 (.slice (some ⟨w.heap.size, 0, none⟩) len len) len (fill xs zs k) ∧ Below w.heap.size w wr) (fun i _ => len - (intOf i).toNat)
  case atStart => exact ⟨0, Nat.zero_le _, rfl, by rw [fill_zero]; exact own1, bl1⟩
  case round =>
    obtain ⟨k, hk, rfl, own, bl⟩ := hrel
    by_cases hlt : k < len
    · obtain ⟨b, off, hab, hcell⟩ := hc (by omega)
      cases hab
      have hck := hcell k hlt
      have hck' : wr.cell? ⟨b, off + k, none⟩ = some (.string (ss.getD k ByteArray.empty)) := (bl.cell (World.block_lt_of_cell? w _ hck)).trans hck
      obtain ⟨u, hu⟩ := fill_at hml k (by omega)
      have hd : wr.cell? ⟨w.heap.size, k, none⟩ = some u := (own.cellAt k (by omega)).trans hu
      have hf := own.frozenAt k
      have hsto := own.stored k (.string (ss.getD k ByteArray.empty))
      rw [fill_set hml k (by omega) _ (by rw [← HX.out]; exact map_at (by omega))] at hsto
      generalize ss.getD k ByteArray.empty = s at *
      have HS : Hid _ := hsto
      clear hsto own hck hcell hu hc hz
      go_wp2
      go_roundw
      case rel => exact ⟨k + 1, by omega, by go_num, HS.out.1, bl.setCell (Nat.le_refl _) _⟩
      case measure => simp [intOf]; omega
    · go_wp2
      go_ret
      have e : k = zs.length := by omega
      subst e
      rw [fill_all hml, ← HX.out] at own
      exact ⟨rfl, own, bl⟩
end Go.Proofs.Qxb6000407aMods.Str
