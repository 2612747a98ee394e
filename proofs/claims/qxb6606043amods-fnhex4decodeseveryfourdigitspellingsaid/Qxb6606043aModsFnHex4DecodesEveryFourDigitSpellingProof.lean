/-
  SEAT b6606043aM. THE PROOF OF 'Rows.FnHex4DecodesEveryFourDigitSpellingSaid' (function 4): the walk (make, append of a string, four rounds, append of a string, string(b), ZZhex4) over the plain law Hex.reads_back; the row's step is the guide's shell.
-/
import Derived.Test.Qxb6606043aModsSpell
import Derived.Room.AppendFits
import Derived.Laws.OwnMore
import Derived.Laws.IdiomStrings
import Derived.ShutString
import Derived.WalkSpells
namespace Go.Proofs.Qxb6606043aMods.fnHex4DecodesEveryFourDigitSpelling
open Go.ChangeShapes Go.WideShapes Go.ChangeAt Go.RowKit
open Go.ChangeMaps (open_string shut_string)
open Go.Proofs.Qxb6606043aMods.Hex
set_option linter.unusedVariables false
theorem own : ownKnob Trym.prog.godebug = none := by kernel_rfl
theorem info5 : (Trym.prog.info? 5).map (fun i => (i.zero, i.size, i.bytes)) = some (some (.int .u8 0), 1, 1) := by kernel_rfl

theorem one_u8 (n : Int) : ∀ u ∈ [Value.int .u8 n], u.oneCell' = true := by intro u hu; simp at hu; subst hu; rfl

theorem bl_step {w W W' : World} {o : Obj} (h : Below w.heap.size w W) (g : (W.alloc o).grownBy W' (some w.heap.size)) : Below w.heap.size w W' :=
  (h.alloc h.size o).grown g (by rw [World.size_alloc]; have := h.size; omega) (fun k hk => by cases hk; exact Nat.le_refl _)
theorem bl_step' {w W W' : World} (h : Below w.heap.size w W) (g : W.grownBy W' (some w.heap.size)) : Below w.heap.size w W' :=
  h.grown g h.size (fun k hk => by cases hk; exact Nat.le_refl _)

theorem conv_text {W : World} {base g n cap : Nat} {l : List UInt8} (hn : n = l.length) (h : W.ownsRow base 5 1 (.slice (some ⟨g, 0, none⟩) n cap) n (l.map fun b => Value.int .u8 b.toNat)) :
    (convert 27 9 (.slice (some ⟨g, 0, none⟩) n cap)).run Trym.prog W = .ok (.string ⟨l.toArray⟩) W := by
  subst hn
  refine run_convert_bytes_back W 27 9 5 ⟨g, 0, none⟩ cap l Trym.underlying27 Trym.underlying5 Trym.underlying9 fun j hj => ?_
  have := h.cells (g := g) rfl j (.int .u8 (l[j].toNat : Int)) (by simp [hj])
  exact this

theorem cells_text (p q : ByteArray) (x0 x1 x2 x3 : Int) (h0 : 0 ≤ x0 ∧ x0 < 256) (h1 : 0 ≤ x1 ∧ x1 < 256) (h2 : 0 ≤ x2 ∧ x2 < 256) (h3 : 0 ≤ x3 ∧ x3 < 256) :
    Lib.strCells p ++ [Value.int .u8 x0] ++ [Value.int .u8 x1] ++ [Value.int .u8 x2] ++ [Value.int .u8 x3] ++ Lib.strCells q = (text p q x0 x1 x2 x3).map fun b => Value.int .u8 b.toNat := by
  simp only [text, Lib.strCells, List.map_append, List.map_cons, List.map_nil, List.append_assoc, byt_toNat h0.1 h0.2, byt_toNat h1.1 h1.2, byt_toNat h2.1 h2.2, byt_toNat h3.1 h3.2]

theorem fin_pack {W : World} {base g cap : Nat} {p q : ByteArray} {c : Int} (hc0 : 0 ≤ c) (hc1 : c ≤ 65535) (hp : p.size ≤ 524288) (hq : q.size ≤ 524288) {u0 u1 u2 u3 : Bool}
    (h : W.ownsRow base 5 1 (.slice (some ⟨g, 0, none⟩) (p.size + 1 + 1 + 1 + 1 + q.size) cap) (p.size + 1 + 1 + 1 + 1 + q.size)
      (Lib.strCells p ++ [Value.int .u8 (digN (c / 4096 % 16) u0)] ++ [Value.int .u8 (digN (c / 256 % 16) u1)] ++ [Value.int .u8 (digN (c / 16 % 16) u2)] ++ [Value.int .u8 (digN (c % 16) u3)] ++ Lib.strCells q)) :
    ∃ S : ByteArray, (convert 27 9 (.slice (some ⟨g, 0, none⟩) (p.size + 1 + 1 + 1 + 1 + q.size) cap)).run Trym.prog W = .ok (.string S) W ∧ h4b S p.size = true ∧ h4v S p.size = c ∧ S.size ≤ maxLen := by
  have b0 := digN_bd (d := c / 4096 % 16) (up := u0) (by omega) (by omega)
  have b1 := digN_bd (d := c / 256 % 16) (up := u1) (by omega) (by omega)
  have b2 := digN_bd (d := c / 16 % 16) (up := u2) (by omega) (by omega)
  have b3 := digN_bd (d := c % 16) (up := u3) (by omega) (by omega)
  have hr := reads_back p q c hc0 (by omega) u0 u1 u2 u3
  rw [cells_text p q _ _ _ _ (by omega) (by omega) (by omega) (by omega)] at h
  have hl := text_len p q (digN (c / 4096 % 16) u0) (digN (c / 256 % 16) u1) (digN (c / 16 % 16) u2) (digN (c % 16) u3)
  have hcv := conv_text (by rw [hl]) h
  refine ⟨_, hcv, hr.1, hr.2, ?_⟩
  show (text p q _ _ _ _).length ≤ maxLen
  rw [hl]
  unfold maxLen
  omega

theorem and15 (x : Int) (h0 : 0 ≤ x) (h1 : x < 65536) : bits .and .i64 x 15 = x % 16 := by
  obtain ⟨n, rfl⟩ := Int.eq_ofNat_of_zero_le h0
  show IntKind.i64.wrap ((BitVec.ofInt 64 (n : Int) &&& BitVec.ofInt 64 ((15 : Nat) : Int)).toNat : Int) = _
  rw [BitVec.toNat_and, ofInt_u64 n (by omega), ofInt_u64 15 (by omega), nat_mask4, IntKind.wrap_i64]
  omega

set_option maxHeartbeats 1000000 in
theorem walk (a0 : Int) (a1 : Int) (a2 : ByteArray) (a3 : ByteArray) (w0 : (Lit.int .u16 a0).wf = true) (w1 : (Lit.int .u8 a1).wf = true) (w2 : a2.size ≤ maxLen) (w3 : a3.size ≤ maxLen) (w : World) :
    Calls Trym.prog 4 #[.int .u16 a0, .int .u8 a1, .string a2, .string a3] w fun e w' => e = .returned (.bool true) ∧ Below w.heap.size w w' := by
  obtain ⟨b0, b0'⟩ := bounds_u16 w0
  obtain ⟨b1, b1'⟩ := bounds_u8 w1
  unfold maxLen at w2 w3
  clear w0 w1
  by_cases h2 : a2.size ≤ 524288
  · by_cases h3 : a3.size ≤ 524288
    · obtain ⟨i5, hi, hz0, hz1, hz2⟩ := info_parts info5
      have e0 := and15 (a0 / 4096) (by omega) (by omega)
      have e1 := and15 (a0 / 256) (by omega) (by omega)
      have e2 := and15 (a0 / 16) (by omega) (by omega)
      have e3 := and15 a0 (by omega) (by omega)
      go_enter Trym.func4, Trym.ntmps4
      go_wp2_with (first | (at_make; go_must (refine wpList_make_own _ rfl _ _ 27 rfl w.heap.size 5 i5 (.int .u8 0) 1 Trym.underlying27 hi hz0 hz1 _ _ _ (a2.size + 4 + a3.size) rfl rfl (by omega) (by rw [hz2]; omega) (by unfold maxLen; omega) (Nat.le_refl _) ?_; intro W1 own1 gr1)) | (at_builtin; go_must (refine Lib.wpList_append_fits_string _ rfl (.tmp 35) (.tmp 36) 27 9 rfl w.heap.size 5 i5 Trym.underlying27 Trym.underlying9 hi hz1 _ _ _ _ rfl own1 a2 rfl (by omega) (by omega) ?_; intro W2 own2 gr2; simp only [Nat.zero_add, List.nil_append] at own2)) | go_in)
      have bl2 : Below w.heap.size w W2 := bl_step' ((Below.refl _ _).grown gr1 (Nat.le_refl _) (fun k hk => by cases hk)) gr2
      clear own1 gr1 gr2
      refine wp_loop_rounds 5 ?_
      rw [rounds_succ]
      go_wp2_with (first | (go_at_call 10; refine (digit_byte _ _ _ (by omega) (by omega)).mono ?_; rintro e w' ⟨rfl, hw⟩; have hw := hw.symm; subst hw) | (at_builtin; go_must (refine wpList_append_fits _ rfl (.tmp 50) (.tmp 59) 27 rfl w.heap.size 5 i5 1 Trym.underlying27 hi hz1 _ _ _ _ rfl (own2.alloc _) ⟨W2.heap.size, 0, none⟩ 1 1 [.int .u8 _] rfl rfl (cell_one_new _ _ _) (one_u8 _) (by omega) ?_; intro W3 own3 gr3)))
      have bl3 := bl_step bl2 gr3
      clear own2 gr3 bl2
      rw [rounds_succ]
      go_wp2_with (first | (go_at_call 10; refine (digit_byte _ _ _ (by omega) (by omega)).mono ?_; rintro e w' ⟨rfl, hw⟩; have hw := hw.symm; subst hw) | (at_builtin; go_must (refine wpList_append_fits _ rfl (.tmp 50) (.tmp 59) 27 rfl w.heap.size 5 i5 1 Trym.underlying27 hi hz1 _ _ _ _ rfl (own3.alloc _) ⟨W3.heap.size, 0, none⟩ 1 1 [.int .u8 _] rfl rfl (cell_one_new _ _ _) (one_u8 _) (by omega) ?_; intro W4 own4 gr4)))
      have bl4 := bl_step bl3 gr4
      clear own3 gr4 bl3
      rw [rounds_succ]
      go_wp2_with (first | (go_at_call 10; refine (digit_byte _ _ _ (by omega) (by omega)).mono ?_; rintro e w' ⟨rfl, hw⟩; have hw := hw.symm; subst hw) | (at_builtin; go_must (refine wpList_append_fits _ rfl (.tmp 50) (.tmp 59) 27 rfl w.heap.size 5 i5 1 Trym.underlying27 hi hz1 _ _ _ _ rfl (own4.alloc _) ⟨W4.heap.size, 0, none⟩ 1 1 [.int .u8 _] rfl rfl (cell_one_new _ _ _) (one_u8 _) (by omega) ?_; intro W5 own5 gr5)))
      have bl5 := bl_step bl4 gr5
      clear own4 gr5 bl4
      rw [rounds_succ]
      go_wp2_with (first | (go_at_call 10; refine (digit_byte _ _ _ (by omega) (by omega)).mono ?_; rintro e w' ⟨rfl, hw⟩; have hw := hw.symm; subst hw) | (at_builtin; go_must (refine wpList_append_fits _ rfl (.tmp 50) (.tmp 59) 27 rfl w.heap.size 5 i5 1 Trym.underlying27 hi hz1 _ _ _ _ rfl (own5.alloc _) ⟨W5.heap.size, 0, none⟩ 1 1 [.int .u8 _] rfl rfl (cell_one_new _ _ _) (one_u8 _) (by omega) ?_; intro W6 own6 gr6)))
      have bl6 := bl_step bl5 gr6
      clear own5 gr6 bl5
      rw [rounds_succ]
      go_wp2_with (first | (at_builtin; go_must (refine Lib.wpList_append_fits_string _ rfl (.tmp 61) (.tmp 62) 27 9 rfl w.heap.size 5 i5 Trym.underlying27 Trym.underlying9 hi hz1 _ _ _ _ rfl own6 a3 rfl (by omega) (by omega) ?_; intro W7 own7 gr7; obtain ⟨S, hcv, hb, hv, hsz⟩ := fin_pack b0 b0' h2 h3 own7; clear own6 own7)) | (go_at_call 7; go_must (refine (zz_hex4 S a2.size _ hsz (by omega)).mono ?_; rintro e w' ⟨rfl, hw⟩; have hw := hw.symm; subst hw)))
      go_ret
      exact ⟨rfl, bl_step' bl6 gr7⟩
    · go_enter Trym.func4, Trym.ntmps4
      go_wp2
      all_goals (go_ret; exact ⟨rfl, Below.refl _ _⟩)
  · go_enter Trym.func4, Trym.ntmps4
    go_wp2
    all_goals (go_ret; exact ⟨rfl, Below.refl _ _⟩)

/-! ### THE ROW's STEP (the guide's frame; the world's word is 'Below', as for slices) -/
set_option maxRecDepth 100000 in
theorem lifted (os : Os) (started : os.Started) (H : Type) (enc : TypeId × Value → H) :
    ReturnsInHanded {} Trym.checked os 4 .any (Rows.fnHex4DecodesEveryFourDigitSpellingSpec.pre6 enc Trym.prog Trym.f4 Rows.fnHex4DecodesEveryFourDigitSpellingRow.domain false) (Rows.fnHex4DecodesEveryFourDigitSpellingSpec.post enc Trym.prog Trym.f4 false true false false) := by
  refine returnsInHanded_of_change (C := Trym.checked) own started (by kernel_rfl) Trym.func4
    (ChangeSpec.witness6 (enc := enc) (C := Trym.checked) false ⟨#[], #[.int .u16 0, .int .u8 0, .string ByteArray.empty, .string ByteArray.empty], []⟩ 8 (by kernel_rfl) (by kernel_rfl) (by kernel_rfl) (by kernel_rfl)) ?_
  intro W base args ds gs before hval0 hW hcnd _
  have hval : ∀ (j : Nat) t v, Trym.f4.params[j]? = some t → args[j]? = some v → Value.okWide Trym.prog W .any base t v := hval0
  have hW' := hW
  obtain ⟨p, q, hA0, hV, rfl, hfz, hnd⟩ := hW
  have hA : DataW.TrodAll enc Trym.prog W 0 (fun _ => true) true Trym.f4.params.toList args.toList ds p := hA0
  rw [Trym.params4] at hA hval
  obtain ⟨v0, vs0, d0, ds0, p0, q0, hargs, rfl, rfl, h0, r0⟩ := trodAll_cons hA
  obtain ⟨v1, vs1, d1, ds1, p1, q1, rfl, rfl, rfl, h1, r1⟩ := trodAll_cons r0
  obtain ⟨v2, vs2, d2, ds2, p2, q2, rfl, rfl, rfl, h2, r2⟩ := trodAll_cons r1
  obtain ⟨v3, vs3, d3, ds3, p3, q3, rfl, rfl, rfl, h3, r3⟩ := trodAll_cons r2
  obtain ⟨rfl, rfl, rfl⟩ := trodAll_nil r3
  obtain rfl : args = #[v0, v1, v2, v3] := by cases args; simp_all
  obtain ⟨rfl, rfl⟩ := trodVars_none hV
  obtain ⟨a0, rfl, rfl, rfl, w0⟩ := open_int Trym.underlying25 (hval 0 25 v0 rfl rfl) h0
  obtain ⟨a1, rfl, rfl, rfl, w1⟩ := open_int Trym.underlying5 (hval 1 5 v1 rfl rfl) h1
  obtain ⟨a2, rfl, rfl, rfl, w2⟩ := open_string Trym.underlying9 (hval 2 9 v2 rfl rfl) h2
  obtain ⟨a3, rfl, rfl, rfl, w3⟩ := open_string Trym.underlying9 (hval 3 9 v3 rfl rfl) h3
  clear hA0 hval0
  refine (walk a0 a1 a2 a3 w0 w1 w2 w3 W).mono fun e W' ⟨he, bel⟩ => ?_
  subst he
  exact ⟨_, rfl, _, _, _, [], _, [], hW', trodAll_mk1 (shut_bool Trym.underlying4 _), (trodAll_cons_mk (shut_int Trym.underlying25 w0) (trodAll_cons_mk (shut_int Trym.underlying5 w1) (trodAll_cons_mk (shut_string Trym.underlying9 w2) (trodAll_cons_mk (shut_string Trym.underlying9 w3) trodAll_mk0)))), rfl, bel.frame _, fun h => by cases h⟩

theorem over : Rows.fnHex4DecodesEveryFourDigitSpellingRow.holds Trym.pinned (OpenSpec.ofChange Rows.fnHex4DecodesEveryFourDigitSpellingSpec) :=
  OpenClaim.holds_of_wide 4 Trym.f4 rfl rfl rfl rfl rfl rfl rfl ⟨rfl, rfl, rfl, rfl, rfl⟩ rfl rfl rfl rfl rfl (by kernel_rfl) Trym.func4 (by kernel_rfl)
    (of_decide_eq_true (by kernel_rfl)) (by unfold Func.isWrapper; first | (rw [if_pos (by decide +kernel)]; kernel_rfl) | (rw [if_neg (by decide +kernel)]; exact ⟨rfl, rfl⟩))
    (fun os started H enc _ => lifted os started H enc)

/-- ████ THE STATEMENT ████ -/
theorem proved : Rows.FnHex4DecodesEveryFourDigitSpellingSaid :=
  over
end Go.Proofs.Qxb6606043aMods.fnHex4DecodesEveryFourDigitSpelling
