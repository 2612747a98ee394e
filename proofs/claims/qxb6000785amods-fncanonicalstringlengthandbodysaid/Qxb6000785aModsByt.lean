/-
  SEAT b6000785aM. Slices of bytes; the walks of hasNewline (10), cloneBytes (11), bytesEqual (14), countNewlinesString (16), countNewlinesBytes (17).
-/
import Derived.Test.Qxb6000785aModsRows
import Derived.WalkKit
import Derived.ProofKit
import Derived.OpenShut
import Derived.WalkLawsBesides
import Derived.WalkSpells
import Derived.PlainAid
import Derived.Laws.OwnMore
import Derived.Laws.IdiomStrings
import Derived.Deep.QuietTactic
import Derived.BigQuiet
import Derived.WalkSmall
namespace Go.Proofs.Qxb6000785aMods.Can
open Go.RowKit Go.PlainAid
set_option linter.unusedVariables false

/-- A byte of a list, as a number. -/
def bl (l : List UInt8) (i : Nat) : Int := ((l.getD i 0).toNat : Int)
theorem bl_bd (l : List UInt8) (i : Nat) : 0 ≤ bl l i ∧ bl l i ≤ 255 := by
  unfold bl
  have := (l.getD i 0).toNat_lt
  omega

/-- A slice of bytes: it has no element, or it leads to a row of 'len' cells, the bytes l. -/
def BytesAt (w : World) (a : Option Addr) (len : Nat) (l : List UInt8) : Prop :=
  l.length = len ∧ len ≤ maxLen ∧ (0 < len → ∃ b off, a = some ⟨b, off, none⟩ ∧ ∀ i, i < len → w.cell? ⟨b, off + i, none⟩ = some (.int .u8 (bl l i)))

theorem BytesAt.later {w w' : World} {a : Option Addr} {len : Nat} {l : List UInt8} (h : BytesAt w a len l) (b : Below w.heap.size w w') : BytesAt w' a len l := by
  obtain ⟨h1, h2, h3⟩ := h
  refine ⟨h1, h2, fun h0 => ?_⟩
  obtain ⟨g, off, ha, hc⟩ := h3 h0
  exact ⟨g, off, ha, fun i hi => (b.cell (World.block_lt_of_cell? w _ (hc i hi))).trans (hc i hi)⟩

/-- A string's byte is its list's. -/
theorem bt_bl (s : ByteArray) (k : Nat) (h : k < s.size) : bt s k = bl s.data.toList k := by
  unfold bt bl
  rw [dif_pos h]
  have : s.data.toList.getD k 0 = s[k] := by
    rw [List.getD_eq_getElem?_getD, List.getElem?_eq_getElem (by simpa using h)]
    rfl
  rw [this]

theorem ret_bool {a b : Bool} (h : a = b) : Ending.returned (.bool a) = .returned (.bool b) := by rw [h]
theorem ret_int {k : IntKind} {a b : Int} (h : a = b) : Ending.returned (.int k a) = .returned (.int k b) := by rw [h]

/-- Does a newline stand among the bytes? -/
def hasNl (l : List UInt8) : Bool := l.any (fun c => (c.toNat : Int) == 10)
theorem take_last {l : List UInt8} {k : Nat} (h : k < l.length) : l.take (k + 1) = l.take k ++ [l.getD k 0] := by
  rw [List.take_succ_eq_append_getElem h, List.getD_eq_getElem?_getD, List.getElem?_eq_getElem h]
  rfl
theorem hasNl_take {l : List UInt8} {k : Nat} (h : k < l.length) : hasNl (l.take (k + 1)) = (hasNl (l.take k) || (bl l k == 10)) := by
  unfold hasNl bl
  rw [take_last h, List.any_append]
  simp
theorem hasNl_yes {l : List UInt8} {k : Nat} (h : hasNl (l.take k) = true) : true = hasNl l := by
  symm
  unfold hasNl at h ⊢
  rw [List.any_eq_true] at h ⊢
  obtain ⟨c, h1, h2⟩ := h
  exact ⟨c, List.mem_of_mem_take h1, h2⟩
theorem hasNl_no {l : List UInt8} {k : Nat} (h : hasNl (l.take k) = false) (hk : l.length ≤ k) : false = hasNl l := by
  rw [List.take_of_length_le hk] at h
  exact h.symm
theorem hasNl_at {l : List UInt8} (h : hasNl l = false) (k : Nat) (hk : k < l.length) : (bl l k == 10) = false := by
  have h1 := hasNl_take hk
  cases h2 : hasNl (l.take (k + 1)) with
  | true => rw [← hasNl_yes h2] at h; cases h
  | false => rw [h2] at h1; simpa using (Bool.or_eq_false_iff.1 h1.symm).2

set_option maxHeartbeats 400000 in
theorem nl_any (s : ByteArray) (w : World) (hs : s.size ≤ maxLen) :
    Calls Trym.prog 10 #[.string s] w fun e w' => e = .returned (.bool (hasNl s.data.toList)) ∧ w' = w := by
  unfold maxLen at hs
  have hb := get_bt s
  have hl : s.data.toList.length = s.size := by simp
  go_enter Trym.func10, Trym.ntmps10
  go_wp2
  go_loop [3] (fun i => ∃ k : Nat, k ≤ s.size ∧ i = .int .i64 k ∧ Hid (hasNl (s.data.toList.take k) = false)) (fun i => s.size - (intOf i).toNat)
  case atStart => exact ⟨0, Nat.zero_le _, rfl, rfl⟩
  case round =>
    obtain ⟨k, hk, rfl, hn⟩ := hrel
    by_cases hlt : k < s.size
    · have hsn : hasNl (s.data.toList.take (k + 1)) = (bt s k == 10) := by
        rw [hasNl_take (by omega), hn.out, bt_bl s k hlt]; rfl
      cases hc : (bt s k == 10) with
      | true =>
        rw [hc] at hsn
        have fin : Hid (true = hasNl s.data.toList) := hasNl_yes hsn
        clear hsn
        go_wp2
        go_ret
        exact ⟨ret_bool fin.out, rfl⟩
      | false =>
        rw [hc] at hsn
        have HS : Hid _ := hsn
        clear hsn
        go_wp2
        go_round
        case rel => exact ⟨k + 1, by omega, by go_num, HS⟩
        case measure => simp [intOf]; omega
    · have fin : Hid (false = hasNl s.data.toList) := hasNl_no hn.out (by omega)
      go_wp2
      go_ret
      exact ⟨ret_bool fin.out, rfl⟩

/-- How many newlines stand among the bytes. -/
def cnt : List UInt8 → Int
  | [] => 0
  | c :: l => (if (c.toNat : Int) = 10 then 1 else 0) + cnt l
theorem cnt_append (a b : List UInt8) : cnt (a ++ b) = cnt a + cnt b := by
  induction a with
  | nil => simp [cnt]
  | cons c a ih => simp only [List.cons_append, cnt, ih]; omega
theorem cnt_bd (l : List UInt8) : 0 ≤ cnt l ∧ cnt l ≤ l.length := by
  induction l with
  | nil => simp [cnt]
  | cons c l ih => simp only [cnt, List.length_cons]; split <;> omega
theorem cnt_take {l : List UInt8} {k : Nat} (h : k < l.length) : cnt (l.take (k + 1)) = cnt (l.take k) + if bl l k = 10 then 1 else 0 := by
  rw [take_last h, cnt_append]
  simp [cnt, bl]
theorem cnt_take_bd (l : List UInt8) (k : Nat) : 0 ≤ cnt (l.take k) ∧ cnt (l.take k) ≤ k := by
  have h1 := cnt_bd (l.take k)
  have h2 := List.length_take_le k l
  omega

set_option maxHeartbeats 400000 in
theorem count_string (s : ByteArray) (w : World) (hs : s.size ≤ maxLen) :
    Calls Trym.prog 16 #[.string s] w fun e w' => e = .returned (.int .i64 (cnt s.data.toList)) ∧ w' = w := by
  unfold maxLen at hs
  have hb := get_bt s
  have hl : s.data.toList.length = s.size := by simp
  go_enter Trym.func16, Trym.ntmps16
  go_wp2
  go_loop [3, 4] (fun n i => ∃ k : Nat, k ≤ s.size ∧ i = .int .i64 k ∧ n = .int .i64 (cnt (s.data.toList.take k))) (fun _ i => s.size - (intOf i).toNat)
  case atStart => exact ⟨0, Nat.zero_le _, rfl, rfl⟩
  case round =>
    obtain ⟨k, hk, rfl, rfl⟩ := hrel
    have bd := cnt_take_bd s.data.toList k
    by_cases hlt : k < s.size
    · have hsn := cnt_take (l := s.data.toList) (k := k) (by omega)
      rw [← bt_bl s k hlt] at hsn
      by_cases hc : bt s k = 10
      · rw [if_pos hc] at hsn
        have hc' : (bt s k == 10) = true := by simpa using hc
        have HS : Hid _ := hsn
        clear hsn hc
        go_wp2
        go_round
        case rel => exact ⟨k + 1, by omega, by go_num, by rw [HS.out]⟩
        case measure => simp [intOf]; omega
      · rw [if_neg hc, Int.add_zero] at hsn
        have hc' : (bt s k == 10) = false := by simpa using hc
        have HS : Hid _ := hsn
        clear hsn hc
        go_wp2
        go_round
        case rel => exact ⟨k + 1, by omega, by go_num, by rw [HS.out]⟩
        case measure => simp [intOf]; omega
    · go_wp2
      go_ret
      exact ⟨ret_int (by rw [List.take_of_length_le (by omega)]), rfl⟩

set_option maxHeartbeats 400000 in
theorem count_bytes (w : World) (a : Option Addr) (len cap : Nat) (l : List UInt8) (h : BytesAt w a len l) (h4 : len ≤ 2097152) :
    Calls Trym.prog 17 #[.slice a len cap] w fun e w' => e = .returned (.int .i64 (cnt l)) ∧ w' = w := by
  obtain ⟨hl, hm, hc⟩ := h
  go_enter Trym.func17, Trym.ntmps17
  go_wp2
  go_loop [3, 4] (fun n i => ∃ k : Nat, k ≤ len ∧ i = .int .i64 k ∧ n = .int .i64 (cnt (l.take k))) (fun _ i => len - (intOf i).toNat)
  case atStart => exact ⟨0, Nat.zero_le _, rfl, rfl⟩
  case round =>
    obtain ⟨k, hk, rfl, rfl⟩ := hrel
    have bd := cnt_take_bd l k
    by_cases hlt : k < len
    · obtain ⟨b, off, rfl, hcell⟩ := hc (by omega)
      have ck := hcell k hlt
      have hsn := cnt_take (l := l) (k := k) (by omega)
      generalize bl l k = y at *
      by_cases hy : y = 10
      · rw [if_pos hy] at hsn
        have hc' : (y == 10) = true := by simpa using hy
        have HS : Hid _ := hsn
        clear hsn hy hcell
        go_wp2
        go_round
        case rel => exact ⟨k + 1, by omega, by go_num, by rw [HS.out]⟩
        case measure => simp [intOf]; omega
      · rw [if_neg hy, Int.add_zero] at hsn
        have hc' : (y == 10) = false := by simpa using hy
        have HS : Hid _ := hsn
        clear hsn hy hcell
        go_wp2
        go_round
        case rel => exact ⟨k + 1, by omega, by go_num, by rw [HS.out]⟩
        case measure => simp [intOf]; omega
    · go_wp2
      go_ret
      exact ⟨ret_int (by rw [List.take_of_length_le (by omega)]), rfl⟩

set_option maxHeartbeats 400000 in
theorem equal_same (w : World) (a a2 : Option Addr) (len cap cap2 : Nat) (l : List UInt8) (h : BytesAt w a len l) (h2 : BytesAt w a2 len l) (h4 : len ≤ 2097152) :
    Calls Trym.prog 14 #[.slice a len cap, .slice a2 len cap2] w fun e w' => e = .returned (.bool true) ∧ Below w.heap.size w w' := by
  obtain ⟨hl, hm, hc⟩ := h
  obtain ⟨_, _, hc2⟩ := h2
  go_enter Trym.func14, Trym.ntmps14
  go_wp2
  go_loopw [5] (fun i wr => ∃ k : Nat, k ≤ len ∧ i = .int .i64 k ∧ Below w.heap.size w wr) (fun i _ => len - (intOf i).toNat)
  case atStart => exact ⟨0, Nat.zero_le _, rfl, Below.refl _ _⟩
  case round =>
    obtain ⟨k, hk, rfl, bw⟩ := hrel
    by_cases hlt : k < len
    · obtain ⟨b, off, rfl, hcell⟩ := hc (by omega)
      obtain ⟨b2, off2, rfl, hcell2⟩ := hc2 (by omega)
      have c1 := (bw.cell (World.block_lt_of_cell? w _ (hcell k hlt))).trans (hcell k hlt)
      have c2 := (bw.cell (World.block_lt_of_cell? w _ (hcell2 k hlt))).trans (hcell2 k hlt)
      generalize bl l k = y at *
      have i0 : (0 : Int) ≤ (k : Int) := by omega
      have i1 : (k : Int) < (len : Int) := by omega
      clear hcell hcell2
      go_wp2
      go_quiet (fail)
      go_wp2
      go_roundw
      case rel => exact ⟨k + 1, by omega, by go_num, below_drewN bw _⟩
      case measure => simp [intOf]; omega
    · go_wp2
      go_ret
      exact ⟨rfl, bw⟩

theorem info5 : (Trym.prog.info? 5).map (fun i => (i.zero, i.size, i.bytes)) = some (some (.int .u8 0), 1, 1) := by kernel_rfl

set_option maxHeartbeats 400000 in
theorem clone_any (w : World) (a : Option Addr) (len cap : Nat) (l : List UInt8) (h : BytesAt w a len l) (h4 : len ≤ 2097152) (hnil : a = none → len = 0) :
    Calls Trym.prog 11 #[.slice a len cap] w fun e w' => ∃ a', e = .returned (.slice a' len len) ∧ BytesAt w' a' len l ∧ (a' = none → len = 0) ∧ Below w.heap.size w w' := by
  have heq := fun wx => Lib.run_eql_slice_nil (P := Trym.prog) wx 22 5 a len cap 0 0 Trym.underlying22
  obtain ⟨i9, hi, hz0, hz1, hz2⟩ := info_parts info5
  have hm := h.2.1
  cases a with
  | none =>
    obtain rfl := hnil rfl
    go_enter Trym.func11, Trym.ntmps11
    go_wp2
    go_ret
    exact ⟨none, rfl, h, Below.refl _ _⟩
  | some ad =>
    go_enter Trym.func11, Trym.ntmps11
    go_wp2_with (first | (at_make; go_must (refine wpList_make_full _ rfl _ _ 22 rfl w.heap.size 5 i9 (.int .u8 0) 1 Trym.underlying22 hi hz0 hz1 _ _ _ _ len rfl rfl rfl rfl (by rw [hz2]; omega) hm (Nat.le_refl _) ?_; intro W1 own1 gr1)))
    have bl1 : Below w.heap.size w W1 := (Below.refl _ _).grown gr1 (Nat.le_refl _) (fun k hk => by cases hk)
    generalize (madeCells (Value.int IntKind.u8 0).cells (len * 1)).toList = zs at *
    clear gr1 heq hi hz0 hz1 hz2
    obtain ⟨hl, _, hc⟩ := h
    go_loopw [4] (fun i wr => ∃ (k : Nat) (xs : List Value), k ≤ len ∧ i = .int .i64 k ∧ wr.ownsRow w.heap.size 5 1 (.slice (some ⟨w.heap.size, 0, none⟩) len len) len xs ∧ Hid (∀ j, j < k → xs[j]? = some (.int .u8 (bl l j))) ∧ Below w.heap.size w wr) (fun i _ => len - (intOf i).toNat)
    case atStart => exact ⟨0, zs, Nat.zero_le _, rfl, own1, fun j hj => by omega, bl1⟩
    case round =>
      obtain ⟨k, xs, hk, rfl, own, hx, bw⟩ := hrel
      by_cases hlt : k < len
      · obtain ⟨b, off, hab, hcell⟩ := hc (by omega)
        cases hab
        have c1 := hcell k hlt
        have d1 := (bw.cell (World.block_lt_of_cell? w _ c1)).trans c1
        have hxl : xs.length = len := by simpa using own.1
        obtain ⟨u, hu⟩ : ∃ u, wr.cell? ⟨w.heap.size, k, none⟩ = some u := by
          rw [own.cellAt k (by omega)]
          exact ⟨_, List.getElem?_eq_getElem (by omega)⟩
        have f1 := own.frozenAt k
        have s1 : Hid _ := (own.stored k (.int .u8 (bl l k))).1
        have hx' : Hid (∀ j, j < k + 1 → (xs.set k (.int .u8 (bl l k)))[j]? = some (.int .u8 (bl l j))) := by
          intro j hj
          by_cases e : j = k
          · subst e
            exact List.getElem?_set_self (by omega)
          · rw [List.getElem?_set_ne (Ne.symm e)]
            exact hx.out j (by omega)
        generalize bl l k = y at *
        clear c1 hcell own hxl hx hc
        go_wp2
        go_roundw
        case rel => exact ⟨k + 1, _, by omega, by go_num, s1.out, hx', bw.setCell (Nat.le_refl _) _⟩
        case measure => simp [intOf]; omega
      · have e : k = len := by omega
        subst e
        have fin : Hid (BytesAt wr (some ⟨w.heap.size, 0, none⟩) k l) := ⟨hl, hm, fun h0 => ⟨w.heap.size, 0, rfl, fun i hi => by rw [Nat.zero_add, own.cellAt i (by omega)]; exact hx.out i hi⟩⟩
        clear own hx hc
        go_wp2
        go_ret
        exact ⟨_, rfl, fin.out, fun h => (by cases h), bw⟩
end Go.Proofs.Qxb6000785aMods.Can
