/-
  SEAT b6000407aM. THE PROOF OF 'Rows.FnDistinctAgreesWithPairwiseSaid' (function 3): the law's walk out of its callees' contracts; the row's step is the guide's shell for slices, turned to a slice of strings.
-/
import Derived.Test.Qxb6000407aModsDis
import Derived.ChangeOld
import Derived.Below
namespace Go.Proofs.Qxb6000407aMods.fnDistinctAgreesWithPairwise
open Go.ChangeShapes Go.WideShapes Go.ChangeAt Go.RowKit
open Go.Proofs.Qxb6000407aMods.Str
set_option linter.unusedVariables false

theorem own : ownKnob Trym.prog.godebug = none := by kernel_rfl
theorem laidOut : laidOutB Trym.prog = true := by kernel_rfl

/-- No text among the first k stands again behind it. -/
def Fwd (ss : List ByteArray) (n k : Nat) : Prop := ∀ i j, i < k → i < j → j < n → ss.getD i ByteArray.empty ≠ ss.getD j ByteArray.empty
def FwdAt (ss : List ByteArray) (k m : Nat) : Prop := ∀ j, k < j → j < m → ss.getD k ByteArray.empty ≠ ss.getD j ByteArray.empty
theorem Fwd.succ {ss : List ByteArray} {n k : Nat} (h : Fwd ss n k) (g : FwdAt ss k n) : Fwd ss n (k + 1) := by
  intro i j hi hij hj
  by_cases e : i = k
  · subst e; exact g j hij hj
  · exact h i j (by omega) hij hj
theorem FwdAt.succ {ss : List ByteArray} {k m : Nat} (h : FwdAt ss k m) (g : ss.getD k ByteArray.empty ≠ ss.getD m ByteArray.empty) : FwdAt ss k (m + 1) := by
  intro j hj hm
  by_cases e : j = m
  · subst e; exact g
  · exact h j hj (by omega)
theorem dis_of_fwd {ss : List ByteArray} {n : Nat} (h : Fwd ss n n) : Dis ss n := fun i j hi hj => (h j i (by omega) hj hi).symm
theorem not_dis_of {ss : List ByteArray} {n k m : Nat} (hk : k < m) (hm : m < n) (g : ss.getD k ByteArray.empty = ss.getD m ByteArray.empty) : ¬ Dis ss n := fun h => h m k hm hk g.symm

/-- What 'want' stands for at the outer loop's head. -/
def Want (ss : List ByteArray) (n k : Nat) (q : Bool) : Prop := if q then Fwd ss n k else ¬ Dis ss n

theorem same_ans {ss : List ByteArray} {n k : Nat} {r q : Bool} (hr : r = true ↔ Dis ss n) (hq : Want ss n k q) (hk : q = true → k = n) : (r == q) = true := by
  cases q with
  | true =>
    have e : k = n := hk rfl
    subst e
    rw [hr.2 (dis_of_fwd hq)]; rfl
  | false =>
    cases r with
    | true => exact absurd (hr.1 rfl) hq
    | false => rfl

theorem add_spot (b off i : Nat) : (⟨b, off, none⟩ : Addr).add i = ⟨b, off + i, none⟩ := by
  unfold Addr.add
  split <;> simp_all

theorem ret_bool {a : Bool} (h : a = true) : Ending.returned (.bool a) = .returned (.bool true) := by rw [h]

set_option maxHeartbeats 1000000 in
theorem walk_some (ad : Addr) (len cap : Nat) (ss : List ByteArray) (w : World) (h : IsStrs w (some ad) len ss) :
    Calls Trym.prog 3 #[.slice (some ad) len cap] w fun e w' => e = .returned (.bool true) ∧ Below w.heap.size w w' := by
  have hz := h.2.2.1
  go_enter Trym.func3, Trym.ntmps3
  go_wp2_with (first | (go_at_call 8; go_must (refine (bytes_any _ (some ad) len cap ss h).mono ?_; rintro e w' ⟨⟨r, rfl, _⟩, hw⟩; have hw := hw.symm; subst hw)) | (go_at_call 9; go_must (refine (size_any _ (some ad) len cap ss h).mono ?_; rintro e w' ⟨⟨r9, rfl, hr9⟩, hw⟩; have hw := hw.symm; subst hw; have HR9 : Hid _ := hr9; clear hr9)) | (go_at_call 10; go_must (refine (copy_some _ ad len cap ss h (HR9.out (by omega))).mono ?_; rintro e W1 ⟨rfl, own1, bl1⟩)) | (go_at_call 11; go_must (refine (zz_distinct _ _ _ len ss (HR9.out (by omega)) hz own1).mono ?_; rintro e W2 ⟨⟨r2, rfl, hr2⟩, bl2⟩; have HR2 : Hid _ := hr2; clear hr2)))
  · go_ret
    exact ⟨rfl, Below.refl _ _⟩
  · go_ret
    exact ⟨rfl, Below.refl _ _⟩
  · have h4 : len ≤ 4096 := HR9.out (by omega)
    have hl : ss.length = len := h.1
    have hcell : Hid (∀ i, i < len → W2.cell? ⟨w.heap.size, i, none⟩ = some (.string (ss.getD i ByteArray.empty))) := fun i hi => by
      have c := (own1.cellAt i (by omega)).trans (map_at (by omega))
      exact (bl2.cell (World.block_lt_of_cell? W1 _ c)).trans c
    have hg : w.heap.size < W2.heap.size ∨ len = 0 := by
      rcases Nat.eq_zero_or_pos len with e | e
      · exact .inr e
      · exact .inl (World.block_lt_of_cell? W2 _ (hcell.out 0 e))
    have blw : Below w.heap.size w W2 := bl1.trans (bl2.mono bl1.size)
    clear own1 bl1 bl2 h hz HR9
    go_loopw [4, 5] (fun q i wr => ∃ (k : Nat) (qb : Bool), k ≤ len ∧ i = .int .i64 k ∧ q = .bool qb ∧ Hid (Want ss len k qb) ∧ Below W2.heap.size W2 wr) (fun _ i _ => len - (intOf i).toNat)
    case atStart => exact ⟨0, true, Nat.zero_le _, rfl, rfl, (fun i j hi => by omega : Fwd ss len 0), Below.refl _ _⟩
    case round =>
      obtain ⟨k, qb, hk, rfl, rfl, hq, bl⟩ := hrel
      by_cases hlt : k < len
      · cases qb with
        | true =>
          have hq1 : Hid (Fwd ss len k) := hq
          clear hq
          have hg2 : w.heap.size < W2.heap.size := by omega
          go_wp2
          go_loopw [4, 6] (fun q j wr => ∃ m : Nat, k < m ∧ m ≤ len ∧ j = .int .i64 m ∧ q = .bool true ∧ Hid (FwdAt ss k m) ∧ Below W2.heap.size W2 wr) (fun _ j _ => len - (intOf j).toNat)
          case atStart => exact ⟨k + 1, by omega, by omega, by go_num, rfl, fun j h1 h2 => by omega, bl⟩
          case round =>
            obtain ⟨m, hkm, hm, rfl, rfl, hne, bl2⟩ := hrel
            by_cases hltm : m < len
            · have c1 : wr.cell? ⟨w.heap.size, k, none⟩ = some (.string (ss.getD k ByteArray.empty)) := (bl2.cell hg2).trans (hcell.out k hlt)
              have c2 : wr.cell? ⟨w.heap.size, m, none⟩ = some (.string (ss.getD m ByteArray.empty)) := (bl2.cell hg2).trans (hcell.out m hltm)
              generalize hs : ss.getD k ByteArray.empty = s at *
              generalize ht : ss.getD m ByteArray.empty = t at *
              have HS : Hid _ := hs
              have HT : Hid _ := ht
              clear hs ht
              have i1 : (k : Int) < (len : Int) := by omega
              have i2 : (m : Int) < (len : Int) := by omega
              go_wp2
              go_quiet (fail)
              go_wp2
              · go_roundw
                case rel =>
                  have e := same_yes (s := s) (t := t) (by assumption)
                  exact ⟨k + 1, false, by omega, by go_num, rfl, (not_dis_of hkm hltm (by rw [HS.out, HT.out, e]) : Want ss len (k + 1) false), below_drewN bl2 _⟩
                case measure => simp [intOf]; omega
              · go_roundw
                case rel =>
                  have e := same_no (s := s) (t := t) (by assumption)
                  exact ⟨m + 1, by omega, by omega, by go_num, rfl, FwdAt.succ hne.out (by rw [HS.out, HT.out]; exact e), below_drewN bl2 _⟩
                case measure => simp [intOf]; omega
            · have e : len = m := by omega
              have hf : Hid (FwdAt ss k len) := by rw [e]; exact hne
              clear e
              go_wp2
              go_roundw
              case rel => exact ⟨k + 1, true, by omega, by go_num, rfl, (Fwd.succ hq1.out hf.out : Want ss len (k + 1) true), bl2⟩
              case measure => simp [intOf]; omega
        | false =>
          have fin : Hid ((!r2) = true) := by have := same_ans HR2.out hq.out (fun h => by cases h); show (!r2) = true; simpa using this
          go_wp2
          go_ret
          exact ⟨ret_bool fin.out, blw.trans (bl.mono blw.size)⟩
      · have e : k = len := by omega
        have fin : Hid ((r2 == qb) = true) := same_ans HR2.out hq.out (fun _ => e)
        clear e
        go_wp2
        go_ret
        exact ⟨ret_bool fin.out, blw.trans (bl.mono blw.size)⟩

set_option maxHeartbeats 1000000 in
theorem walk_nil (w : World) :
    Calls Trym.prog 3 #[.slice none 0 0] w fun e w' => e = .returned (.bool true) ∧ Below w.heap.size w w' := by
  have h : IsStrs w none 0 [] := ⟨rfl, by unfold maxLen; omega, fun s hs => (by cases hs), fun h => (by omega)⟩
  go_enter Trym.func3, Trym.ntmps3
  go_wp2_with (first | (go_at_call 8; go_must (refine (bytes_any _ none 0 0 [] h).mono ?_; rintro e w' ⟨⟨r, rfl, _⟩, hw⟩; have hw := hw.symm; subst hw)) | (go_at_call 9; go_must (refine (size_any _ none 0 0 [] h).mono ?_; rintro e w' ⟨⟨r9, rfl, _⟩, hw⟩; have hw := hw.symm; subst hw)) | (go_at_call 10; go_must (refine (copy_nil _).mono ?_; rintro e w' ⟨rfl, hw⟩; have hw := hw.symm; subst hw)) | (go_at_call 11; go_must (refine (zz_distinct _ w.heap.size _ 0 [] (by omega) (fun s hs => by cases hs) (World.ownsRow_nil _ _ _ _)).mono ?_; rintro e W2 ⟨⟨r2, rfl, hr2⟩, bl2⟩; have HR2 : Hid (r2 = true) := hr2.2 (fun i j hi => by omega); clear hr2)))
  · go_ret
    exact ⟨rfl, Below.refl _ _⟩
  · go_ret
    exact ⟨rfl, Below.refl _ _⟩
  · refine wp_loop_rounds 1 ?_
    rw [rounds_succ]
    go_wp2
    go_ret
    exact ⟨ret_bool HR2.out, bl2⟩

theorem walk (a0 : Option Addr) (len cap : Nat) (ss : List ByteArray) (w : World) (h : IsStrs w a0 len ss) (hnil : a0 = none → len = 0 ∧ cap = 0) :
    Calls Trym.prog 3 #[.slice a0 len cap] w fun e w' => e = .returned (.bool true) ∧ Below w.heap.size w w' := by
  cases a0 with
  | none =>
    obtain ⟨rfl, rfl⟩ := hnil rfl
    exact walk_nil w
  | some ad => exact walk_some ad len cap ss w h

/-! ### THE ROW's STEP (the guide's shell for slices, a slice of strings opened) -/
set_option maxRecDepth 100000 in
theorem lifted (os : Os) (started : os.Started) (H : Type) (enc : TypeId × Value → H) :
    ReturnsInHanded {} Trym.checked os 3 .any (Rows.fnDistinctAgreesWithPairwiseSpec.pre6 enc Trym.prog Trym.f3 Rows.fnDistinctAgreesWithPairwiseRow.domain false) (Rows.fnDistinctAgreesWithPairwiseSpec.post enc Trym.prog Trym.f3 false true false false) := by
  refine returnsInHanded_of_change (C := Trym.checked) own started (by kernel_rfl) Trym.func3
    (ChangeSpec.witness6 (enc := enc) (C := Trym.checked) false ⟨#[], #[.slice none 0 0], []⟩ 8 (by kernel_rfl) (by kernel_rfl) (by kernel_rfl) (by kernel_rfl)) ?_
  intro W base args ds gs before hval0 hW hcnd _
  have hval : ∀ (j : Nat) t v, Trym.f3.params[j]? = some t → args[j]? = some v → Value.okWide Trym.prog W .any base t v := hval0
  have hW' := hW
  obtain ⟨p, q, hA0, hV, rfl, hfz, hnd⟩ := hW
  have hA : DataW.TrodAll enc Trym.prog W 0 (fun _ => true) true Trym.f3.params.toList args.toList ds p := hA0
  rw [Trym.params3] at hA hval
  obtain ⟨v0, vs0, d0, ds0, p0, q0, hargs, rfl, rfl, h0, r0⟩ := trodAll_cons hA
  obtain ⟨rfl, rfl, rfl⟩ := trodAll_nil r0
  obtain rfl : args = #[v0] := by cases args; simp_all
  obtain ⟨rfl, rfl⟩ := trodVars_none hV
  obtain ⟨a0, len0, cap0, rfl⟩ := okWide_slice Trym.underlying22 (hval 0 22 v0 rfl rfl)
  have k0 := h0
  have lt0 : ∀ x ∈ p0, x.block < W.heap.size := by obtain ⟨m, hm⟩ := k0; exact DataW.trod_lt m _ _ _ hm
  obtain ⟨ss, w0, n0⟩ : ∃ ss, IsStrs W a0 len0 ss ∧ (a0 = none → len0 = 0 ∧ cap0 = 0) := by
    obtain ⟨fuel, hf⟩ := h0
    rcases open_strings Trym.underlying22 Trym.underlying9 (by kernel_rfl) hf with ⟨hcs, _⟩ | ⟨x, l, c, ss, hcs, _, hl, hm, hz, _, hcell, hws⟩
    · simp [Value.cells] at hcs
      obtain ⟨rfl, rfl, rfl⟩ := hcs
      exact ⟨[], ⟨rfl, by unfold maxLen; omega, fun s hs => (by cases hs), fun h => (by omega)⟩, fun _ => ⟨rfl, rfl⟩⟩
    · simp [Value.cells] at hcs
      obtain ⟨rfl, rfl, rfl⟩ := hcs
      have hz' : ss.length = cap0 := by simpa using hz
      refine ⟨ss.take len0, ⟨by simp; omega, by omega, fun s hs => hws s (List.mem_of_mem_take hs), fun h => ?_⟩, fun h => by cases h⟩
      obtain ⟨b, off, spot⟩ := x
      have hc := hcell 0 (by omega)
      have hspot : spot = none := by simpa [Addr.add] using World.cell?_spot hc
      subst hspot
      refine ⟨b, off, rfl, fun i hi => ?_⟩
      have := hcell i (by omega)
      have e : (ss.take len0).getD i ByteArray.empty = ss.getD i ByteArray.empty := by simp [List.getD, hi]
      rw [e]
      rw [add_spot] at this
      exact this
  clear hA0 hval0
  refine (walk a0 len0 cap0 ss W w0 n0).mono fun e W' ⟨he, bel⟩ => ?_
  subst he
  exact ⟨_, rfl, _, _, _, [], _, [], hW', trodAll_mk1 (shut_bool Trym.underlying4 _), (trodAll_cons_mk (Below.trod laidOut (by kernel_rfl) (of_decide_eq_true (by kernel_rfl)) k0 bel lt0) trodAll_mk0), rfl, bel.frame _, fun h => by cases h⟩

theorem over : Rows.fnDistinctAgreesWithPairwiseRow.holds Trym.pinned (OpenSpec.ofChange Rows.fnDistinctAgreesWithPairwiseSpec) :=
  OpenClaim.holds_of_wide 3 Trym.f3 rfl rfl rfl rfl rfl rfl rfl ⟨rfl, rfl, rfl, rfl, rfl⟩ rfl rfl rfl rfl rfl (by kernel_rfl) Trym.func3 (by kernel_rfl)
    (of_decide_eq_true (by kernel_rfl)) (by unfold Func.isWrapper; first | (rw [if_pos (by decide +kernel)]; kernel_rfl) | (rw [if_neg (by decide +kernel)]; exact ⟨rfl, rfl⟩))
    (fun os started H enc _ => lifted os started H enc)

/-- ████ THE STATEMENT ████ -/
theorem proved : Rows.FnDistinctAgreesWithPairwiseSaid := over
end Go.Proofs.Qxb6000407aMods.fnDistinctAgreesWithPairwise
