/-
  SEAT b6000407aM. The walks of copyEdges (17), copySteps (18).
-/
import Derived.Test.Qxb6000407aModsEdg
namespace Go.Proofs.Qxb6000407aMods.Sch
open Go.RowKit
open Go.Proofs.Qxb6000407aMods.Str (fill fill_zero fill_all fill_len fill_at fill_set)
set_option linter.unusedVariables false

theorem info48 : (Trym.prog.info? 48).map (fun i => (i.zero, i.size, i.bytes)) = some (some (.agg #[.int .i64 0, .int .i64 0, .string ByteArray.empty]), 3, 32) := by kernel_rfl
theorem info46 : (Trym.prog.info? 46).map (fun i => (i.zero, i.size, i.bytes)) = some (some (.agg #[.int .i64 0, .string ByteArray.empty]), 2, 24) := by kernel_rfl

theorem own_cell {w : World} {base : Nat} {e : TypeId} {size g n cap : Nat} {xs : List Value} (h : w.ownsRow base e size (.slice (some ⟨g, 0, none⟩) n cap) n xs) (j : Nat) (hj : j < n * size) : ∃ u, w.cell? ⟨g, j, none⟩ = some u := by
  rw [h.cellAt j hj]
  exact ⟨_, List.getElem?_eq_getElem (by rw [h.1]; exact hj)⟩

/-- Three neighbours stored, one behind the other. -/
def put3 (xs : List Value) (i : Nat) (u1 u2 u3 : Value) : List Value := ((xs.set i u1).set (i + 1) u2).set (i + 2) u3
theorem put3_at (xs : List Value) (i : Nat) (h : i + 2 < xs.length) (u1 u2 u3 : Value) :
    (put3 xs i u1 u2 u3)[i]? = some u1 ∧ (put3 xs i u1 u2 u3)[i + 1]? = some u2 ∧ (put3 xs i u1 u2 u3)[i + 2]? = some u3 := by
  have m1 : i < xs.length := by omega
  have m2 : i + 1 < xs.length := by omega
  simp [put3, m1, m2, h]
theorem put3_other (xs : List Value) (i j : Nat) (u1 u2 u3 : Value) (h1 : i ≠ j) (h2 : i + 1 ≠ j) (h3 : i + 2 ≠ j) : (put3 xs i u1 u2 u3)[j]? = xs[j]? := by
  unfold put3
  rw [List.getElem?_set_ne h3, List.getElem?_set_ne h2, List.getElem?_set_ne h1]
/-- Two. -/
def put2 (xs : List Value) (i : Nat) (u1 u2 : Value) : List Value := (xs.set i u1).set (i + 1) u2
theorem put2_at (xs : List Value) (i : Nat) (h : i + 1 < xs.length) (u1 u2 : Value) :
    (put2 xs i u1 u2)[i]? = some u1 ∧ (put2 xs i u1 u2)[i + 1]? = some u2 := by
  have m1 : i < xs.length := by omega
  simp [put2, m1, h]
theorem put2_other (xs : List Value) (i j : Nat) (u1 u2 : Value) (h1 : i ≠ j) (h2 : i + 1 ≠ j) : (put2 xs i u1 u2)[j]? = xs[j]? := by
  unfold put2
  rw [List.getElem?_set_ne h2, List.getElem?_set_ne h1]

set_option maxHeartbeats 400000 in
theorem copy_edges (w : World) (a : Option Addr) (len cap : Nat) (P K : Nat → Int) (N : Nat → ByteArray) (h : EdgesAt w a len P K N) (h4 : len ≤ 4096) (hnil : a = none → len = 0) :
    Calls Trym.prog 17 #[.slice a len cap] w fun e w' => ∃ a', e = .returned (.slice a' len len) ∧ EdgesAt w' a' len P K N ∧ Below w.heap.size w w' := by
  have heq := fun wx => Lib.run_eql_slice_nil (P := Trym.prog) wx 28 48 a len cap 0 0 Trym.underlying28
  obtain ⟨i9, hi, hz0, hz1, hz2⟩ := info_parts info48
  have hm := h.1
  cases a with
  | none =>
    obtain rfl := hnil rfl
    go_enter Trym.func17, Trym.ntmps17
    go_wp2
    go_ret
    exact ⟨none, rfl, h, Below.refl _ _⟩
  | some ad =>
    go_enter Trym.func17, Trym.ntmps17
    go_wp2_with (first | (at_make; go_must (refine wpList_make_full _ rfl _ _ 28 rfl w.heap.size 48 i9 (.agg #[.int .i64 0, .int .i64 0, .string ByteArray.empty]) 3 Trym.underlying28 hi hz0 hz1 _ _ _ _ len rfl rfl rfl rfl (by rw [hz2]; omega) hm (Nat.le_refl _) ?_; intro W1 own1 gr1)))
    have bl1 : Below w.heap.size w W1 := (Below.refl _ _).grown gr1 (Nat.le_refl _) (fun k hk => by cases hk)
    have hzl : (madeCells (Value.agg #[.int .i64 0, .int .i64 0, .string ByteArray.empty]).cells (len * 3)).toList.length = len * 3 := by simp [size_madeCells]
    generalize (madeCells (Value.agg #[.int .i64 0, .int .i64 0, .string ByteArray.empty]).cells (len * 3)).toList = zs at *
    clear gr1 heq hi hz0 hz1 hz2
    obtain ⟨_, hz, hc⟩ := h
    go_loopw [4] (fun i wr => ∃ (k : Nat) (xs : List Value), k ≤ len ∧ i = .int .i64 k ∧ wr.ownsRow w.heap.size 48 3 (.slice (some ⟨w.heap.size, 0, none⟩) len len) len xs ∧ Hid (∀ j, j < k → xs[j * 3]? = some (.int .i64 (P j)) ∧ xs[j * 3 + 1]? = some (.int .i64 (K j)) ∧ xs[j * 3 + 2]? = some (.string (N j))) ∧ Below w.heap.size w wr) (fun i _ => len - (intOf i).toNat)
    case atStart => exact ⟨0, zs, Nat.zero_le _, rfl, own1, fun j hj => by omega, bl1⟩
    case round =>
      obtain ⟨k, xs, hk, rfl, own, hx, bl⟩ := hrel
      by_cases hlt : k < len
      · obtain ⟨b, off, hab, hcell⟩ := hc (by omega)
        cases hab
        obtain ⟨c1, c2, c3⟩ := hcell k hlt
        have d1 := (bl.cell (World.block_lt_of_cell? w _ c1)).trans c1
        have d2 := (bl.cell (World.block_lt_of_cell? w _ c2)).trans c2
        have d3 := (bl.cell (World.block_lt_of_cell? w _ c3)).trans c3
        generalize hp : P k = p at *
        generalize hkk : K k = kk at *
        generalize hs : N k = s at *
        have HP : Hid _ := hp
        have HK : Hid _ := hkk
        have HN : Hid _ := hs
        clear hp hkk hs
        have i1 : (k : Int) < (len : Int) := by omega
        clear c1 c2 c3 hcell hc hz
        have hxl : xs.length = len * 3 := own.1
        obtain ⟨v1, e1⟩ := own_cell own (k * 3) (by omega)
        obtain ⟨v2, e2⟩ := own_cell own (k * 3 + 1) (by omega)
        obtain ⟨v3, e3⟩ := own_cell own (k * 3 + 2) (by omega)
        have f1 := own.frozenAt (k * 3)
        have f2 := own.frozenAt (k * 3 + 1)
        have f3 := own.frozenAt (k * 3 + 2)
        have s1 := own.stored (k * 3) (.int .i64 p)
        have s2 := s1.1.stored (k * 3 + 1) (.int .i64 kk)
        have s3 : Hid _ := (s2.1.stored (k * 3 + 2) (.string s)).1
        have hx' : Hid (∀ j, j < k + 1 → (put3 xs (k * 3) (.int .i64 p) (.int .i64 kk) (.string s))[j * 3]? = some (.int .i64 (P j)) ∧ (put3 xs (k * 3) (.int .i64 p) (.int .i64 kk) (.string s))[j * 3 + 1]? = some (.int .i64 (K j)) ∧ (put3 xs (k * 3) (.int .i64 p) (.int .i64 kk) (.string s))[j * 3 + 2]? = some (.string (N j))) := by
          intro j hj
          by_cases e : j = k
          · subst e
            rw [HP.out, HK.out, HN.out]
            exact put3_at xs (j * 3) (by omega) _ _ _
          · rw [put3_other _ _ _ _ _ _ (by omega) (by omega) (by omega), put3_other _ _ _ _ _ _ (by omega) (by omega) (by omega), put3_other _ _ _ _ _ _ (by omega) (by omega) (by omega)]
            exact hx.out j (by omega)
        clear s1 s2 own hxl hx
        go_wp2
        go_roundw
        case rel => exact ⟨k + 1, _, by omega, by go_num, s3.out, hx', ((bl.setCell (Nat.le_refl _) _).setCell (Nat.le_refl _) _).setCell (Nat.le_refl _) _⟩
        case measure => simp [intOf]; omega
      · have e : k = len := by omega
        subst e
        have fin : Hid (EdgesAt wr (some ⟨w.heap.size, 0, none⟩) k P K N) := ⟨hm, hz, fun h0 => ⟨w.heap.size, 0, rfl, fun i hi => by
          obtain ⟨y1, y2, y3⟩ := hx.out i hi
          exact ⟨by rw [Nat.zero_add, own.cellAt (i * 3) (by omega)]; exact y1, by rw [Nat.zero_add, own.cellAt (i * 3 + 1) (by omega)]; exact y2, by rw [Nat.zero_add, own.cellAt (i * 3 + 2) (by omega)]; exact y3⟩⟩⟩
        clear own hx hc hz
        go_wp2
        go_ret
        exact ⟨_, rfl, fin.out, bl⟩

set_option maxHeartbeats 400000 in
theorem copy_steps (w : World) (a : Option Addr) (len cap : Nat) (P : Nat → Int) (N : Nat → ByteArray) (h : StepsAt w a len P N) (h4 : len ≤ 4096) (hnil : a = none → len = 0) :
    Calls Trym.prog 18 #[.slice a len cap] w fun e w' => ∃ a', e = .returned (.slice a' len len) ∧ StepsAt w' a' len P N ∧ Below w.heap.size w w' := by
  have heq := fun wx => Lib.run_eql_slice_nil (P := Trym.prog) wx 29 46 a len cap 0 0 Trym.underlying29
  obtain ⟨i9, hi, hz0, hz1, hz2⟩ := info_parts info46
  have hm := h.1
  cases a with
  | none =>
    obtain rfl := hnil rfl
    go_enter Trym.func18, Trym.ntmps18
    go_wp2
    go_ret
    exact ⟨none, rfl, h, Below.refl _ _⟩
  | some ad =>
    go_enter Trym.func18, Trym.ntmps18
    go_wp2_with (first | (at_make; go_must (refine wpList_make_full _ rfl _ _ 29 rfl w.heap.size 46 i9 (.agg #[.int .i64 0, .string ByteArray.empty]) 2 Trym.underlying29 hi hz0 hz1 _ _ _ _ len rfl rfl rfl rfl (by rw [hz2]; omega) hm (Nat.le_refl _) ?_; intro W1 own1 gr1)))
    have bl1 : Below w.heap.size w W1 := (Below.refl _ _).grown gr1 (Nat.le_refl _) (fun k hk => by cases hk)
    have hzl : (madeCells (Value.agg #[.int .i64 0, .string ByteArray.empty]).cells (len * 2)).toList.length = len * 2 := by simp [size_madeCells]
    generalize (madeCells (Value.agg #[.int .i64 0, .string ByteArray.empty]).cells (len * 2)).toList = zs at *
    clear gr1 heq hi hz0 hz1 hz2
    obtain ⟨_, hz, hc⟩ := h
    go_loopw [4] (fun i wr => ∃ (k : Nat) (xs : List Value), k ≤ len ∧ i = .int .i64 k ∧ wr.ownsRow w.heap.size 46 2 (.slice (some ⟨w.heap.size, 0, none⟩) len len) len xs ∧ Hid (∀ j, j < k → xs[j * 2]? = some (.int .i64 (P j)) ∧ xs[j * 2 + 1]? = some (.string (N j))) ∧ Below w.heap.size w wr) (fun i _ => len - (intOf i).toNat)
    case atStart => exact ⟨0, zs, Nat.zero_le _, rfl, own1, fun j hj => by omega, bl1⟩
    case round =>
      obtain ⟨k, xs, hk, rfl, own, hx, bl⟩ := hrel
      by_cases hlt : k < len
      · obtain ⟨b, off, hab, hcell⟩ := hc (by omega)
        cases hab
        obtain ⟨c1, c2⟩ := hcell k hlt
        have d1 := (bl.cell (World.block_lt_of_cell? w _ c1)).trans c1
        have d2 := (bl.cell (World.block_lt_of_cell? w _ c2)).trans c2
        generalize hp : P k = p at *
        generalize hs : N k = s at *
        have HP : Hid _ := hp
        have HN : Hid _ := hs
        clear hp hs
        have i1 : (k : Int) < (len : Int) := by omega
        clear c1 c2 hcell hc hz
        have hxl : xs.length = len * 2 := own.1
        obtain ⟨v1, e1⟩ := own_cell own (k * 2) (by omega)
        obtain ⟨v2, e2⟩ := own_cell own (k * 2 + 1) (by omega)
        have f1 := own.frozenAt (k * 2)
        have f2 := own.frozenAt (k * 2 + 1)
        have s1 := own.stored (k * 2) (.int .i64 p)
        have s3 : Hid _ := (s1.1.stored (k * 2 + 1) (.string s)).1
        have hx' : Hid (∀ j, j < k + 1 → (put2 xs (k * 2) (.int .i64 p) (.string s))[j * 2]? = some (.int .i64 (P j)) ∧ (put2 xs (k * 2) (.int .i64 p) (.string s))[j * 2 + 1]? = some (.string (N j))) := by
          intro j hj
          by_cases e : j = k
          · subst e
            rw [HP.out, HN.out]
            exact put2_at xs (j * 2) (by omega) _ _
          · rw [put2_other _ _ _ _ _ (by omega) (by omega), put2_other _ _ _ _ _ (by omega) (by omega)]
            exact hx.out j (by omega)
        clear s1 own hxl hx
        go_wp2
        go_roundw
        case rel => exact ⟨k + 1, _, by omega, by go_num, s3.out, hx', (bl.setCell (Nat.le_refl _) _).setCell (Nat.le_refl _) _⟩
        case measure => simp [intOf]; omega
      · have e : k = len := by omega
        subst e
        have fin : Hid (StepsAt wr (some ⟨w.heap.size, 0, none⟩) k P N) := ⟨hm, hz, fun h0 => ⟨w.heap.size, 0, rfl, fun i hi => by
          obtain ⟨y1, y2⟩ := hx.out i hi
          exact ⟨by rw [Nat.zero_add, own.cellAt (i * 2) (by omega)]; exact y1, by rw [Nat.zero_add, own.cellAt (i * 2 + 1) (by omega)]; exact y2⟩⟩⟩
        clear own hx hc hz
        go_wp2
        go_ret
        exact ⟨_, rfl, fin.out, bl⟩
end Go.Proofs.Qxb6000407aMods.Sch
