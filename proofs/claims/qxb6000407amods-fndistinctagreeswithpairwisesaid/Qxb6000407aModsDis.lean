/-
  SEAT b6000407aM. The walk of conversion.distinct (24).
-/
import Derived.Test.Qxb6000407aModsStr
import Derived.Deep.QuietTactic
import Derived.BigQuiet
import Derived.WalkSmall
import Derived.Maps.Own
import Derived.Maps.OwnOps
import Derived.Maps.Views
namespace Go.Proofs.Qxb6000407aMods.Str
open Go.RowKit

theorem toList_inj {s t : ByteArray} (h : s.toList = t.toList) : s = t := by
  rw [ByteArray.toList_eq, ByteArray.toList_eq] at h
  cases s; cases t
  simpa using h
theorem same_yes {s t : ByteArray} (h : (s.toList == t.toList) = true) : s = t := toList_inj (by simpa using h)
theorem same_no {s t : ByteArray} (h : (s.toList == t.toList) = false) : s ≠ t := by
  intro e
  subst e
  simp at h

/-- No two places among the first k hold one text. -/
def Dis (ss : List ByteArray) (k : Nat) : Prop := ∀ i j, i < k → j < i → ss.getD i ByteArray.empty ≠ ss.getD j ByteArray.empty
/-- The text at k is none of the first m. -/
def New (ss : List ByteArray) (k m : Nat) : Prop := ∀ j, j < m → ss.getD k ByteArray.empty ≠ ss.getD j ByteArray.empty

theorem Dis.succ {ss : List ByteArray} {k : Nat} (h : Dis ss k) (g : New ss k k) : Dis ss (k + 1) := by
  intro i j hi hj
  by_cases e : i = k
  · subst e; exact g j hj
  · exact h i j (by omega) hj
theorem New.succ {ss : List ByteArray} {k m : Nat} (h : New ss k m) (g : ss.getD k ByteArray.empty ≠ ss.getD m ByteArray.empty) : New ss k (m + 1) := by
  intro j hj
  by_cases e : j = m
  · subst e; exact g
  · exact h j (by omega)
theorem not_dis {ss : List ByteArray} {n k m : Nat} (hk : k < n) (hm : m < k) (g : ss.getD k ByteArray.empty = ss.getD m ByteArray.empty) : (false = true ↔ Dis ss n) := by
  constructor
  · intro h; cases h
  · intro h; exact absurd g (h k m hk hm)

set_option maxHeartbeats 800000 in
theorem distinct_few (w : World) (g n cap : Nat) (ss : List ByteArray) (h8 : n ≤ 8) (hg : g < w.heap.size)
    (hcell : ∀ i, i < n → w.cell? ⟨g, i, none⟩ = some (.string (ss.getD i ByteArray.empty))) :
    Calls Trym.prog 24 #[.slice (some ⟨g, 0, none⟩) n cap] w fun e w' => RetB (fun r => r = true ↔ Dis ss n) e ∧ Below w.heap.size w w' := by
  have h8' : (n : Int) ≤ 8 := by omega
  go_enter Trym.func24, Trym.ntmps24
  go_wp2
  go_loopw [13] (fun i wr => ∃ k : Nat, k ≤ n ∧ i = .int .i64 k ∧ Hid (Dis ss k) ∧ Below w.heap.size w wr) (fun i _ => n - (intOf i).toNat)
  case atStart => exact ⟨0, Nat.zero_le _, rfl, fun i j hi hj => by omega, Below.refl _ _⟩
  case round =>
    obtain ⟨k, hk, rfl, hd, bl⟩ := hrel
    by_cases hlt : k < n
    · go_wp2
      go_loopw [17] (fun i wr2 => ∃ m : Nat, m ≤ k ∧ i = .int .i64 m ∧ Hid (New ss k m) ∧ Below w.heap.size w wr2) (fun i _ => k - (intOf i).toNat)
      case atStart => exact ⟨0, Nat.zero_le _, rfl, fun j hj => by omega, bl⟩
      case round =>
        obtain ⟨m, hm, rfl, hne, bl2⟩ := hrel
        by_cases hltm : m < k
        · have c1 : wr.cell? ⟨g, k, none⟩ = some (.string (ss.getD k ByteArray.empty)) := (bl2.cell hg).trans (hcell k hlt)
          have c2 : wr.cell? ⟨g, m, none⟩ = some (.string (ss.getD m ByteArray.empty)) := (bl2.cell hg).trans (hcell m (by omega))
          generalize hs : ss.getD k ByteArray.empty = s at *
          generalize ht : ss.getD m ByteArray.empty = t at *
          have HS : Hid _ := hs
          have HT : Hid _ := ht
          clear hs ht hcell
          have i1 : (k : Int) < (n : Int) := by omega
          have i2 : (m : Int) < (n : Int) := by omega
          have i3 : (m : Int) < (k : Int) := by omega
          go_wp2
          go_quiet (fail)
          go_wp2
          · go_ret
            have e := same_yes (s := s) (t := t) (by assumption)
            exact ⟨RetB.mk _ (not_dis hlt hltm (by rw [HS.out, HT.out, e])), below_drewN bl2 _⟩
          · go_roundw
            case rel =>
              have e := same_no (s := s) (t := t) (by assumption)
              exact ⟨m + 1, by omega, by go_num, New.succ hne.out (by rw [HS.out, HT.out]; exact e), below_drewN bl2 _⟩
            case measure => simp [intOf]; omega
        · have e : m = k := by omega
          go_wp2
          go_roundw
          case rel =>
            subst e
            exact ⟨m + 1, by omega, by go_num, Dis.succ hd.out hne.out, bl2⟩
          case measure => simp [intOf]; omega
    · have e : k = n := by omega
      go_wp2
      go_ret
      exact ⟨RetB.mk _ ⟨fun _ => by rw [← e]; exact hd.out, fun _ => rfl⟩, bl⟩

theorem distinct_nil (w : World) (ss : List ByteArray) :
    Calls Trym.prog 24 #[.slice none 0 0] w fun e w' => RetB (fun r => r = true ↔ Dis ss 0) e ∧ Below w.heap.size w w' := by
  go_enter Trym.func24, Trym.ntmps24
  go_wp2
  refine wp_loop_rounds 1 ?_
  rw [rounds_succ]
  go_wp2
  go_ret
  exact ⟨RetB.mk _ ⟨fun _ => fun i j hi hj => by omega, fun _ => rfl⟩, Below.refl _ _⟩

/-! ### The map 'seen' -/
/-- 'make(map[K]V, n)': the hint lays nothing. -/
theorem run_makeMap_hint {P : Program} {t k e : TypeId} (ht : P.underlying t = some (.map k e)) (q : IntKind) (n : Int) (w : World) :
    (Instr.makeMap t (some (.int q n))).run P w = .ok (.map (some w.heap.size)) (w.alloc (.map #[] 0)) := by
  simp [Instr.makeMap, run_underlying ht, asInt, asIntOf, Result.andThen]

theorem keyed9 : Maps.Keyed Trym.prog 9 := Maps.string_keyed Trym.underlying9
theorem zero4 (w : World) : (zeroValue 4).run Trym.prog w = .ok (.bool false) w := by kernel_rfl

theorem plainElem_bool_inv {P : Program} {e : TypeId} (he : P.underlying e = some .bool) {v : Value} {x : Bool} {ps : List MemPlace} (h : plainElem (H := Unit) P e v = some (.lit (.bool x), ps)) : v = .bool x := by
  unfold plainElem at h
  rw [he] at h
  cases v <;> simp at h
  rw [h.1]

/-- Block b is a map of at most n entries; at every text s it holds f s. -/
def ownsSet (w : World) (b n : Nat) (f : ByteArray → Bool) : Prop :=
  ∃ D : DataW Unit, w.ownsMap Trym.prog 9 (plainElem Trym.prog 4) b n D ∧ Maps.IsMap D ∧ ∀ s : ByteArray, D.atKey (.string s.data.toList) (.lit (.bool false)) = .lit (.bool (f s))

theorem ownsSet_made (w : World) : ownsSet (w.alloc (.map #[] 0)) w.heap.size 0 (fun _ => false) :=
  ⟨.map [], World.ownsMap_made _ _ _ _, Maps.isMap_empty, fun _ => rfl⟩

theorem ownsSet.look {w : World} {b n : Nat} {f : ByteArray → Bool} (h : ownsSet w b n f) {s : ByteArray} (hs : s.size ≤ maxLen) :
    (Instr.lookup 59 (.map (some b)) (.string s) false).run Trym.prog w = .ok (.bool (f s)) w := by
  obtain ⟨D, ho, _, hf⟩ := h
  obtain ⟨v, ps, hr, hv⟩ := ho.lookup keyed9 Trym.underlying59 (zero4 w) (plainElem_bool Trym.underlying4 false) (Go.WideMaps.keyOf_string_mk Trym.underlying9 hs)
  rw [hf s] at hv
  rw [hr, plainElem_bool_inv Trym.underlying4 hv]

theorem ownsSet.put {w : World} {b n : Nat} {f : ByteArray → Bool} (h : ownsSet w b n f) (hn : n < maxLen) {s : ByteArray} (hs : s.size ≤ maxLen) :
    ∃ w', (Instr.mapUpdate 59 (.map (some b)) (.string s) (.bool true)).run Trym.prog w = .ok () w' ∧ w.grownBy w' (some b) ∧ ∃ f' : ByteArray → Bool, ownsSet w' b (n + 1) f' ∧ ∀ t, f' t = true ↔ (t = s ∨ f t = true) := by
  obtain ⟨D, ho, hD, hf⟩ := h
  have hk := Go.WideMaps.keyOf_string_mk Trym.underlying9 hs
  obtain ⟨w', hr, ho', hg⟩ := ho.update keyed9 Trym.underlying59 hn hk (plainElem_bool Trym.underlying4 true)
  refine ⟨w', hr, hg, fun t => if t.data.toList = s.data.toList then true else f t, ⟨_, ho', hD.put _ _, fun t => ?_⟩, fun t => ?_⟩
  · by_cases e : t.data.toList = s.data.toList
    · simp only [if_pos e]
      rw [e]
      exact Maps.atKey_put_same hD (keyed9.key hk) _ _
    · simp only [if_neg e]
      rw [← hf t]
      exact Maps.atKey_put_other (fun h => e (by simpa using h)) _ _
  · by_cases e : t.data.toList = s.data.toList
    · simp only [if_pos e, true_iff]
      left
      exact toList_inj (by rw [ByteArray.toList_eq, ByteArray.toList_eq, e])
    · simp only [if_neg e]
      constructor
      · intro h; exact .inr h
      · rintro (rfl | h)
        · exact absurd rfl e
        · exact h

set_option maxHeartbeats 800000 in
theorem distinct_many (w : World) (g n cap : Nat) (ss : List ByteArray) (h8 : 8 < n) (h4 : n ≤ 4096) (hg : g < w.heap.size) (hz : ∀ i, (ss.getD i ByteArray.empty).size ≤ maxLen)
    (hcell : ∀ i, i < n → w.cell? ⟨g, i, none⟩ = some (.string (ss.getD i ByteArray.empty))) :
    Calls Trym.prog 24 #[.slice (some ⟨g, 0, none⟩) n cap] w fun e w' => RetB (fun r => r = true ↔ Dis ss n) e ∧ Below w.heap.size w w' := by
  have h8' : (8 : Int) < (n : Int) := by omega
  have hmm := fun wx => run_makeMap_hint (P := Trym.prog) Trym.underlying59 .i64 (n : Int) wx
  go_enter Trym.func24, Trym.ntmps24
  go_wp2
  go_loopw [36] (fun i wr => ∃ (k : Nat) (f : ByteArray → Bool), k ≤ n ∧ i = .int .i64 k ∧ Hid (Dis ss k) ∧ Hid (ownsSet wr w.heap.size k f) ∧ Hid (∀ s, f s = true ↔ ∃ j, j < k ∧ ss.getD j ByteArray.empty = s) ∧ Below w.heap.size w wr) (fun i _ => n - (intOf i).toNat)
  case atStart => exact ⟨0, fun _ => false, Nat.zero_le _, rfl, fun i j hi hj => by omega, ownsSet_made w, fun s => ⟨fun h => (by cases h), fun ⟨j, hj, _⟩ => (by omega)⟩, (Below.refl _ _).alloc (Nat.le_refl _) _⟩
  case round =>
    obtain ⟨k, f, hk, rfl, hd, ho, hf, bl⟩ := hrel
    by_cases hlt : k < n
    · have c1 : wr.cell? ⟨g, k, none⟩ = some (.string (ss.getD k ByteArray.empty)) := (bl.cell hg).trans (hcell k hlt)
      have hzk := hz k
      have hlk := ho.out.look hzk
      obtain ⟨w1, hup, hg1, f', ho1, hf1⟩ := ho.out.put (by unfold maxLen; omega) hzk
      have i1 : (k : Int) < (n : Int) := by omega
      have HF1 : Hid _ := hf1
      clear hf1 hcell hz
      generalize hs : ss.getD k ByteArray.empty = s at *
      have HS : Hid _ := hs
      clear hs
      cases hfs : f s with
      | true =>
        obtain ⟨j, hj, hjs⟩ := (hf.out s).1 hfs
        have fin : Hid _ := not_dis (ss := ss) hlt hj (by rw [HS.out, hjs])
        rw [hfs] at hlk
        clear hfs hjs hup ho1 hg1
        go_wp2
        go_ret
        exact ⟨RetB.mk _ fin.out, bl⟩
      | false =>
        rw [hfs] at hlk
        have hnew : Hid (Dis ss (k + 1)) := Dis.succ hd.out (fun j hj e => by
          have := (hf.out s).2 ⟨j, hj, by rw [← e, HS.out]⟩
          rw [hfs] at this
          cases this)
        have HO1 : Hid _ := ho1
        have hf2 : Hid (∀ t, f' t = true ↔ ∃ j, j < k + 1 ∧ ss.getD j ByteArray.empty = t) := fun t => by
          rw [HF1.out t, hf.out t]
          constructor
          · rintro (rfl | ⟨j, hj, e⟩)
            · exact ⟨k, by omega, HS.out⟩
            · exact ⟨j, by omega, e⟩
          · rintro ⟨j, hj, e⟩
            by_cases ej : j = k
            · left; rw [← e, ej, HS.out]
            · right; exact ⟨j, by omega, e⟩
        clear hfs ho1
        go_wp2
        go_roundw
        case rel => exact ⟨k + 1, f', by omega, by go_num, hnew, HO1, hf2, bl.grown hg1 bl.size (fun j hj => by cases hj; exact Nat.le_refl _)⟩
        case measure => simp [intOf]; omega
    · have e : k = n := by omega
      go_wp2
      go_ret
      exact ⟨RetB.mk _ ⟨fun _ => by rw [← e]; exact hd.out, fun _ => rfl⟩, bl⟩

/-- 'distinct', whatever slice of the call's own it is handed. -/
theorem distinct_any (w : World) (base : Nat) (v : Value) (n : Nat) (ss : List ByteArray) (h4 : n ≤ 4096) (hz : ∀ s ∈ ss, s.size ≤ maxLen) (hown : w.ownsRow base 9 1 v n (ss.map Value.string)) :
    Calls Trym.prog 24 #[v] w fun e w' => RetB (fun r => r = true ↔ Dis ss n) e ∧ Below w.heap.size w w' := by
  have hl : ss.length = n := by simpa using hown.1
  rcases hown.2 with ⟨rfl, rfl⟩ | ⟨g, cap, cur, rfl, _, hg, _⟩
  · exact distinct_nil w ss
  · have hlt : g < w.heap.size := (Array.getElem?_eq_some_iff.1 hg).1
    have hcell : ∀ i, i < n → w.cell? ⟨g, i, none⟩ = some (.string (ss.getD i ByteArray.empty)) := fun i hi => by
      rw [hown.cellAt i (by omega)]
      exact map_at (by omega)
    rcases Nat.lt_or_ge 8 n with h8 | h8
    · exact distinct_many w g n cap ss h8 h4 hlt (getD_size hz) hcell
    · exact distinct_few w g n cap ss h8 hlt hcell

theorem zz_distinct (w : World) (base : Nat) (v : Value) (n : Nat) (ss : List ByteArray) (h4 : n ≤ 4096) (hz : ∀ s ∈ ss, s.size ≤ maxLen) (hown : w.ownsRow base 9 1 v n (ss.map Value.string)) :
    Calls Trym.prog 11 #[v] w fun e w' => RetB (fun r => r = true ↔ Dis ss n) e ∧ Below w.heap.size w w' := by
  go_enter Trym.func11, Trym.ntmps11
  go_wp2_with (go_at_call 24; go_must (refine (distinct_any _ base v n ss h4 hz hown).mono ?_; rintro e w' ⟨⟨r, rfl, hr⟩, bl⟩))
  go_ret
  exact ⟨RetB.mk r hr, bl⟩
end Go.Proofs.Qxb6000407aMods.Str
