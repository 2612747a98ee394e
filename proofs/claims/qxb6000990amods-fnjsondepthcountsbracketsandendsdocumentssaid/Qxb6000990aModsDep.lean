/-
  SEAT b6000990aM. The walk of FnJsonDepthCountsBracketsAndEndsDocuments (5).
-/
import Derived.Test.Qxb6000990aModsJsn
namespace Go.Proofs.Qxb6000990aMods.Jsn
open Go.RowKit Go.PlainAid
set_option linter.unusedVariables false

theorem below_put {w W1 W2 : World} {b : Nat} (h1 : Below w.heap.size w W1) (g : W1.grownBy W2 (some b)) (hb : w.heap.size ≤ b) : Below w.heap.size w W2 :=
  h1.grown g h1.size (fun k hk => by cases hk; exact hb)
theorem below_made {w W1 W2 : World} (h1 : Below w.heap.size w W1) (g : W1.grownBy W2 none) : Below w.heap.size w W2 :=
  h1.grown g h1.size (fun k hk => by cases hk)

theorem w64 {x : Int} (h0 : -1000000 ≤ x) (h1 : x ≤ 1000000) : wrap64 x = x := by unfold wrap64; omega
theorem dep_up {d c : Int} (hc : c = 123 ∨ c = 91) (h0 : -100000 ≤ d) (h1 : d ≤ 100000) : dep d c = d + 1 := by
  unfold dep
  rw [if_pos hc, w64 (by omega) (by omega)]
theorem dep_down {d c : Int} (hc : c = 125 ∨ c = 93) (h0 : -100000 ≤ d) (h1 : d ≤ 100000) : dep d c = d - 1 := by
  unfold dep
  rw [if_neg (by omega), if_pos hc, w64 (by omega) (by omega)]
theorem dep_same {d c : Int} (h1 : c ≠ 123) (h2 : c ≠ 91) (h3 : c ≠ 125) (h4 : c ≠ 93) : dep d c = d := by
  unfold dep
  rw [if_neg (by omega), if_neg (by omega)]
theorem nxt_no {d c : Int} {nm : Bool} (h : c ≠ 58) : nxt d nm c = false := by
  have : (c == 58) = false := by simpa using h
  simp [nxt, this]
theorem mov_close {d c : Int} {nx inI : Bool} (hc : c = 125 ∨ c = 93) (h0 : -100000 ≤ d) (h1 : d ≤ 100000) : mov d nx inI c = if d - 1 = 0 then 2 else if d - 1 = 1 ∧ inI = true then 3 else 0 := by
  unfold mov
  rw [if_neg (by omega), if_neg (by omega), if_pos hc, w64 (by omega) (by omega)]
theorem mov_other {d c : Int} {nx inI : Bool} (h2 : c ≠ 91) (h3 : c ≠ 125) (h4 : c ≠ 93) (h5 : c ≠ 44) : mov d nx inI c = 0 := by
  unfold mov
  by_cases h1 : c = 123
  · rw [if_pos h1]
  · rw [if_neg h1, if_neg h2, if_neg (by omega), if_neg h5]

set_option maxHeartbeats 400000 in
theorem depth_long (w : World) (s : ByteArray) (nm inI : Bool) (hs : s.size ≤ maxLen) (h : 65536 < s.size) :
    Calls Trym.prog 5 #[.string s, .bool nm, .bool inI] w fun e w' => e = .returned (.bool true) ∧ Below w.heap.size w w' := by
  unfold maxLen at hs
  go_enter Trym.func5, Trym.ntmps5
  go_wp2
  all_goals (go_ret; exact ⟨rfl, Below.refl _ _⟩)

set_option maxRecDepth 100000 in
set_option maxHeartbeats 8000000 in
theorem depth_counts (w : World) (s : ByteArray) (nm inI : Bool) (hs : s.size ≤ 65536) :
    Calls Trym.prog 5 #[.string s, .bool nm, .bool inI] w fun e w' => e = .returned (.bool true) ∧ Below w.heap.size w w' := by
  go_enter Trym.func5, Trym.ntmps5
  go_wp2_with (first | (go_at_call 11; go_in) | (go_at_call 12; go_must (refine (new_any w 0 nm false).mono ?_; rintro e W1 ⟨rfl, bl1⟩)) | (refine wpList_alloc26 (by rfl) (by rfl) ?_; intro W2 hW2 gr2) | (refine wpList_store26 (by rfl) (.tmp 7) (.tmp 24) (by rfl) _ _ _ (by rfl) (by rfl) hW2 zeros_size (place_size 0 nm false) (place_one 0 nm false) ?_; intro W3 hW3 gr3))
  have P3 : Hid (PlaceAt W3 W1.heap.size 0 nm false) := placeAt_new hW3
  have bl3 : Below w.heap.size w W3 := below_put (below_made bl1 gr2) gr3 bl1.size
  have hb1 := bl1.size
  clear hW2 hW3 gr2 gr3 bl1
  generalize W1.heap.size = b at *
  go_loopw [8, 9, 10] (fun x y i wr => ∃ (k : Nat) (dd : Int) (pc : Bool), k ≤ s.size ∧ -(k : Int) ≤ dd ∧ dd ≤ k ∧ i = .int .i64 k ∧ x = .int .i64 dd ∧ y = .bool pc ∧ Hid (PlaceAt wr b dd nm (pc && nm)) ∧ Below w.heap.size w wr) (fun _ _ i _ => s.size - (intOf i).toNat)
  case atStart => exact ⟨0, 0, false, Nat.zero_le _, by omega, by omega, rfl, rfl, rfl, P3, bl3⟩
  case round =>
    clear P3 bl3
    obtain ⟨k, dd, pc, hk, hd0, hd1, rfl, rfl, rfl, HP, bl⟩ := hrel
    by_cases hlt : k < s.size
    · obtain ⟨c, hcd⟩ : ∃ c, bt s k = c := ⟨_, rfl⟩
      have hbk : ∀ h : k < s.size, ((s[k]'h).toNat : Int) = c := fun h => (get_bt s k h).trans hcd
      clear hcd
      by_cases h1 : c = 123
      · subst h1
        have HM : Hid (mov dd (pc && nm) inI 123 = 0) := rfl
        have HD : Hid (dep dd 123 = dd + 1) := dep_up (.inl rfl) (by omega) (by omega)
        have HX : Hid (nxt dd nm 123 = false) := rfl
        go_wp2_with (first | (go_at_call 13; go_must (refine (zz_next wr b dd 123 nm _ inI HP.out).mono ?_; rintro e V1 ⟨he, P1, g1⟩; rw [HM.out] at he; rw [HD.out, HX.out] at P1; subst he; have HP1 : Hid _ := P1; clear P1)) | (go_at_call 14; go_must (refine (depth_any _ b _ nm _ HP1.out).mono ?_; rintro e w' ⟨rfl, hw⟩; have hw := hw.symm; subst hw)))
        go_roundw
        case rel => exact ⟨k + 1, dd + 1, false, by omega, by omega, by omega, by go_num, rfl, rfl, HP1, below_put bl g1 hb1⟩
        case measure => simp [intOf]; omega
      by_cases h2 : c = 91
      · subst h2
        cases pc
        all_goals cases nm
        · have HM : Hid (mov dd (false && false) inI 91 = 0) := rfl
          have HD : Hid (dep dd 91 = dd + 1) := dep_up (.inr rfl) (by omega) (by omega)
          have HX : Hid (nxt dd false 91 = false) := rfl
          go_wp2_with (first | (go_at_call 13; go_must (refine (zz_next wr b dd 91 false _ inI HP.out).mono ?_; rintro e V1 ⟨he, P1, g1⟩; rw [HM.out] at he; rw [HD.out, HX.out] at P1; subst he; have HP1 : Hid _ := P1; clear P1)) | (go_at_call 14; go_must (refine (depth_any _ b _ false _ HP1.out).mono ?_; rintro e w' ⟨rfl, hw⟩; have hw := hw.symm; subst hw)))
          go_roundw
          case rel => exact ⟨k + 1, dd + 1, false, by omega, by omega, by omega, by go_num, rfl, rfl, HP1, below_put bl g1 hb1⟩
          case measure => simp [intOf]; omega
        · have HM : Hid (mov dd (false && true) inI 91 = 0) := rfl
          have HD : Hid (dep dd 91 = dd + 1) := dep_up (.inr rfl) (by omega) (by omega)
          have HX : Hid (nxt dd true 91 = false) := rfl
          go_wp2_with (first | (go_at_call 13; go_must (refine (zz_next wr b dd 91 true _ inI HP.out).mono ?_; rintro e V1 ⟨he, P1, g1⟩; rw [HM.out] at he; rw [HD.out, HX.out] at P1; subst he; have HP1 : Hid _ := P1; clear P1)) | (go_at_call 14; go_must (refine (depth_any _ b _ true _ HP1.out).mono ?_; rintro e w' ⟨rfl, hw⟩; have hw := hw.symm; subst hw)))
          go_roundw
          case rel => exact ⟨k + 1, dd + 1, false, by omega, by omega, by omega, by go_num, rfl, rfl, HP1, below_put bl g1 hb1⟩
          case measure => simp [intOf]; omega
        · have HM : Hid (mov dd (true && false) inI 91 = 0) := rfl
          have HD : Hid (dep dd 91 = dd + 1) := dep_up (.inr rfl) (by omega) (by omega)
          have HX : Hid (nxt dd false 91 = false) := rfl
          go_wp2_with (first | (go_at_call 13; go_must (refine (zz_next wr b dd 91 false _ inI HP.out).mono ?_; rintro e V1 ⟨he, P1, g1⟩; rw [HM.out] at he; rw [HD.out, HX.out] at P1; subst he; have HP1 : Hid _ := P1; clear P1)) | (go_at_call 14; go_must (refine (depth_any _ b _ false _ HP1.out).mono ?_; rintro e w' ⟨rfl, hw⟩; have hw := hw.symm; subst hw)))
          go_roundw
          case rel => exact ⟨k + 1, dd + 1, false, by omega, by omega, by omega, by go_num, rfl, rfl, HP1, below_put bl g1 hb1⟩
          case measure => simp [intOf]; omega
        · have HM : Hid (mov dd (true && true) inI 91 = 1) := rfl
          have HD : Hid (dep dd 91 = dd + 1) := dep_up (.inr rfl) (by omega) (by omega)
          have HX : Hid (nxt dd true 91 = false) := rfl
          go_wp2_with (first | (go_at_call 13; go_must (refine (zz_next wr b dd 91 true _ inI HP.out).mono ?_; rintro e V1 ⟨he, P1, g1⟩; rw [HM.out] at he; rw [HD.out, HX.out] at P1; subst he; have HP1 : Hid _ := P1; clear P1)) | (go_at_call 14; go_must (refine (depth_any _ b _ true _ HP1.out).mono ?_; rintro e w' ⟨rfl, hw⟩; have hw := hw.symm; subst hw)))
          go_roundw
          case rel => exact ⟨k + 1, dd + 1, false, by omega, by omega, by omega, by go_num, rfl, rfl, HP1, below_put bl g1 hb1⟩
          case measure => simp [intOf]; omega
      by_cases h125 : c = 125
      · subst h125
        have hmv := mov_close (d := dd) (c := 125) (nx := pc && nm) (inI := inI) (.inl rfl) (by omega) (by omega)
        by_cases g : dd - 1 = 0
        · have g' : (dd - 1 == 0) = true := by simpa using g
          have g1' : (dd - 1 == 1) = false := by simp; omega
          have HM : Hid (mov dd (pc && nm) inI 125 = 2) := by rw [hmv, if_pos g]; rfl
          have HD : Hid (dep dd 125 = dd - 1) := dep_down (.inl rfl) (by omega) (by omega)
          have HX : Hid (nxt dd nm 125 = false) := rfl
          clear g hmv
          go_wp2_with (first | (go_at_call 13; go_must (refine (zz_next wr b dd 125 nm _ inI HP.out).mono ?_; rintro e V1 ⟨he, P1, g1⟩; rw [HM.out] at he; rw [HD.out, HX.out] at P1; subst he; have HP1 : Hid _ := P1; clear P1)) | (go_at_call 14; go_must (refine (depth_any _ b _ nm _ HP1.out).mono ?_; rintro e w' ⟨rfl, hw⟩; have hw := hw.symm; subst hw)))
          go_roundw
          case rel => exact ⟨k + 1, dd - 1, false, by omega, by omega, by omega, by go_num, rfl, rfl, HP1, below_put bl g1 hb1⟩
          case measure => simp [intOf]; omega
        have g' : (dd - 1 == 0) = false := by simpa using g
        by_cases k1 : dd - 1 = 1
        · have k1' : (dd - 1 == 1) = true := by simpa using k1
          cases inI
          · have HM : Hid (mov dd (pc && nm) false 125 = 0) := by rw [hmv, if_neg g, if_neg (by simp)]; rfl
            have HD : Hid (dep dd 125 = dd - 1) := dep_down (.inl rfl) (by omega) (by omega)
            have HX : Hid (nxt dd nm 125 = false) := rfl
            clear g k1 hmv
            go_wp2_with (first | (go_at_call 13; go_must (refine (zz_next wr b dd 125 nm _ false HP.out).mono ?_; rintro e V1 ⟨he, P1, g1⟩; rw [HM.out] at he; rw [HD.out, HX.out] at P1; subst he; have HP1 : Hid _ := P1; clear P1)) | (go_at_call 14; go_must (refine (depth_any _ b _ nm _ HP1.out).mono ?_; rintro e w' ⟨rfl, hw⟩; have hw := hw.symm; subst hw)))
            go_roundw
            case rel => exact ⟨k + 1, dd - 1, false, by omega, by omega, by omega, by go_num, rfl, rfl, HP1, below_put bl g1 hb1⟩
            case measure => simp [intOf]; omega
          · have HM : Hid (mov dd (pc && nm) true 125 = 3) := by rw [hmv, if_neg g, if_pos ⟨k1, rfl⟩]; rfl
            have HD : Hid (dep dd 125 = dd - 1) := dep_down (.inl rfl) (by omega) (by omega)
            have HX : Hid (nxt dd nm 125 = false) := rfl
            clear g k1 hmv
            go_wp2_with (first | (go_at_call 13; go_must (refine (zz_next wr b dd 125 nm _ true HP.out).mono ?_; rintro e V1 ⟨he, P1, g1⟩; rw [HM.out] at he; rw [HD.out, HX.out] at P1; subst he; have HP1 : Hid _ := P1; clear P1)) | (go_at_call 14; go_must (refine (depth_any _ b _ nm _ HP1.out).mono ?_; rintro e w' ⟨rfl, hw⟩; have hw := hw.symm; subst hw)))
            go_roundw
            case rel => exact ⟨k + 1, dd - 1, false, by omega, by omega, by omega, by go_num, rfl, rfl, HP1, below_put bl g1 hb1⟩
            case measure => simp [intOf]; omega
        have k1' : (dd - 1 == 1) = false := by simpa using k1
        · have HM : Hid (mov dd (pc && nm) inI 125 = 0) := by rw [hmv, if_neg g, if_neg (fun q => k1 q.1)]; rfl
          have HD : Hid (dep dd 125 = dd - 1) := dep_down (.inl rfl) (by omega) (by omega)
          have HX : Hid (nxt dd nm 125 = false) := rfl
          clear g k1 hmv
          go_wp2_with (first | (go_at_call 13; go_must (refine (zz_next wr b dd 125 nm _ inI HP.out).mono ?_; rintro e V1 ⟨he, P1, g1⟩; rw [HM.out] at he; rw [HD.out, HX.out] at P1; subst he; have HP1 : Hid _ := P1; clear P1)) | (go_at_call 14; go_must (refine (depth_any _ b _ nm _ HP1.out).mono ?_; rintro e w' ⟨rfl, hw⟩; have hw := hw.symm; subst hw)))
          go_roundw
          case rel => exact ⟨k + 1, dd - 1, false, by omega, by omega, by omega, by go_num, rfl, rfl, HP1, below_put bl g1 hb1⟩
          case measure => simp [intOf]; omega
      by_cases h93 : c = 93
      · subst h93
        have hmv := mov_close (d := dd) (c := 93) (nx := pc && nm) (inI := inI) (.inr rfl) (by omega) (by omega)
        by_cases g : dd - 1 = 0
        · have g' : (dd - 1 == 0) = true := by simpa using g
          have g1' : (dd - 1 == 1) = false := by simp; omega
          have HM : Hid (mov dd (pc && nm) inI 93 = 2) := by rw [hmv, if_pos g]; rfl
          have HD : Hid (dep dd 93 = dd - 1) := dep_down (.inr rfl) (by omega) (by omega)
          have HX : Hid (nxt dd nm 93 = false) := rfl
          clear g hmv
          go_wp2_with (first | (go_at_call 13; go_must (refine (zz_next wr b dd 93 nm _ inI HP.out).mono ?_; rintro e V1 ⟨he, P1, g1⟩; rw [HM.out] at he; rw [HD.out, HX.out] at P1; subst he; have HP1 : Hid _ := P1; clear P1)) | (go_at_call 14; go_must (refine (depth_any _ b _ nm _ HP1.out).mono ?_; rintro e w' ⟨rfl, hw⟩; have hw := hw.symm; subst hw)))
          go_roundw
          case rel => exact ⟨k + 1, dd - 1, false, by omega, by omega, by omega, by go_num, rfl, rfl, HP1, below_put bl g1 hb1⟩
          case measure => simp [intOf]; omega
        have g' : (dd - 1 == 0) = false := by simpa using g
        by_cases k1 : dd - 1 = 1
        · have k1' : (dd - 1 == 1) = true := by simpa using k1
          cases inI
          · have HM : Hid (mov dd (pc && nm) false 93 = 0) := by rw [hmv, if_neg g, if_neg (by simp)]; rfl
            have HD : Hid (dep dd 93 = dd - 1) := dep_down (.inr rfl) (by omega) (by omega)
            have HX : Hid (nxt dd nm 93 = false) := rfl
            clear g k1 hmv
            go_wp2_with (first | (go_at_call 13; go_must (refine (zz_next wr b dd 93 nm _ false HP.out).mono ?_; rintro e V1 ⟨he, P1, g1⟩; rw [HM.out] at he; rw [HD.out, HX.out] at P1; subst he; have HP1 : Hid _ := P1; clear P1)) | (go_at_call 14; go_must (refine (depth_any _ b _ nm _ HP1.out).mono ?_; rintro e w' ⟨rfl, hw⟩; have hw := hw.symm; subst hw)))
            go_roundw
            case rel => exact ⟨k + 1, dd - 1, false, by omega, by omega, by omega, by go_num, rfl, rfl, HP1, below_put bl g1 hb1⟩
            case measure => simp [intOf]; omega
          · have HM : Hid (mov dd (pc && nm) true 93 = 3) := by rw [hmv, if_neg g, if_pos ⟨k1, rfl⟩]; rfl
            have HD : Hid (dep dd 93 = dd - 1) := dep_down (.inr rfl) (by omega) (by omega)
            have HX : Hid (nxt dd nm 93 = false) := rfl
            clear g k1 hmv
            go_wp2_with (first | (go_at_call 13; go_must (refine (zz_next wr b dd 93 nm _ true HP.out).mono ?_; rintro e V1 ⟨he, P1, g1⟩; rw [HM.out] at he; rw [HD.out, HX.out] at P1; subst he; have HP1 : Hid _ := P1; clear P1)) | (go_at_call 14; go_must (refine (depth_any _ b _ nm _ HP1.out).mono ?_; rintro e w' ⟨rfl, hw⟩; have hw := hw.symm; subst hw)))
            go_roundw
            case rel => exact ⟨k + 1, dd - 1, false, by omega, by omega, by omega, by go_num, rfl, rfl, HP1, below_put bl g1 hb1⟩
            case measure => simp [intOf]; omega
        have k1' : (dd - 1 == 1) = false := by simpa using k1
        · have HM : Hid (mov dd (pc && nm) inI 93 = 0) := by rw [hmv, if_neg g, if_neg (fun q => k1 q.1)]; rfl
          have HD : Hid (dep dd 93 = dd - 1) := dep_down (.inr rfl) (by omega) (by omega)
          have HX : Hid (nxt dd nm 93 = false) := rfl
          clear g k1 hmv
          go_wp2_with (first | (go_at_call 13; go_must (refine (zz_next wr b dd 93 nm _ inI HP.out).mono ?_; rintro e V1 ⟨he, P1, g1⟩; rw [HM.out] at he; rw [HD.out, HX.out] at P1; subst he; have HP1 : Hid _ := P1; clear P1)) | (go_at_call 14; go_must (refine (depth_any _ b _ nm _ HP1.out).mono ?_; rintro e w' ⟨rfl, hw⟩; have hw := hw.symm; subst hw)))
          go_roundw
          case rel => exact ⟨k + 1, dd - 1, false, by omega, by omega, by omega, by go_num, rfl, rfl, HP1, below_put bl g1 hb1⟩
          case measure => simp [intOf]; omega
      by_cases h44 : c = 44
      · subst h44
        have hmv : mov dd (pc && nm) inI 44 = if dd = 2 ∧ inI = true then 1 else 0 := rfl
        by_cases g : dd = 2
        · have g' : (dd == 2) = true := by simpa using g
          cases inI
          · have HM : Hid (mov dd (pc && nm) false 44 = 0) := by rw [hmv, if_neg (by simp)]; rfl
            have HD : Hid (dep dd 44 = dd) := rfl
            have HX : Hid (nxt dd nm 44 = false) := rfl
            clear g hmv
            go_wp2_with (first | (go_at_call 13; go_must (refine (zz_next wr b dd 44 nm _ false HP.out).mono ?_; rintro e V1 ⟨he, P1, g1⟩; rw [HM.out] at he; rw [HD.out, HX.out] at P1; subst he; have HP1 : Hid _ := P1; clear P1)) | (go_at_call 14; go_must (refine (depth_any _ b _ nm _ HP1.out).mono ?_; rintro e w' ⟨rfl, hw⟩; have hw := hw.symm; subst hw)))
            go_roundw
            case rel => exact ⟨k + 1, dd, false, by omega, by omega, by omega, by go_num, rfl, rfl, HP1, below_put bl g1 hb1⟩
            case measure => simp [intOf]; omega
          · have HM : Hid (mov dd (pc && nm) true 44 = 1) := by rw [hmv, if_pos ⟨g, rfl⟩]; rfl
            have HD : Hid (dep dd 44 = dd) := rfl
            have HX : Hid (nxt dd nm 44 = false) := rfl
            clear g hmv
            go_wp2_with (first | (go_at_call 13; go_must (refine (zz_next wr b dd 44 nm _ true HP.out).mono ?_; rintro e V1 ⟨he, P1, g1⟩; rw [HM.out] at he; rw [HD.out, HX.out] at P1; subst he; have HP1 : Hid _ := P1; clear P1)) | (go_at_call 14; go_must (refine (depth_any _ b _ nm _ HP1.out).mono ?_; rintro e w' ⟨rfl, hw⟩; have hw := hw.symm; subst hw)))
            go_roundw
            case rel => exact ⟨k + 1, dd, false, by omega, by omega, by omega, by go_num, rfl, rfl, HP1, below_put bl g1 hb1⟩
            case measure => simp [intOf]; omega
        have g' : (dd == 2) = false := by simpa using g
        cases inI
        · have HM : Hid (mov dd (pc && nm) false 44 = 0) := by rw [hmv, if_neg (fun q => g q.1)]; rfl
          have HD : Hid (dep dd 44 = dd) := rfl
          have HX : Hid (nxt dd nm 44 = false) := rfl
          clear g hmv
          go_wp2_with (first | (go_at_call 13; go_must (refine (zz_next wr b dd 44 nm _ false HP.out).mono ?_; rintro e V1 ⟨he, P1, g1⟩; rw [HM.out] at he; rw [HD.out, HX.out] at P1; subst he; have HP1 : Hid _ := P1; clear P1)) | (go_at_call 14; go_must (refine (depth_any _ b _ nm _ HP1.out).mono ?_; rintro e w' ⟨rfl, hw⟩; have hw := hw.symm; subst hw)))
          go_roundw
          case rel => exact ⟨k + 1, dd, false, by omega, by omega, by omega, by go_num, rfl, rfl, HP1, below_put bl g1 hb1⟩
          case measure => simp [intOf]; omega
        · have HM : Hid (mov dd (pc && nm) true 44 = 0) := by rw [hmv, if_neg (fun q => g q.1)]; rfl
          have HD : Hid (dep dd 44 = dd) := rfl
          have HX : Hid (nxt dd nm 44 = false) := rfl
          clear g hmv
          go_wp2_with (first | (go_at_call 13; go_must (refine (zz_next wr b dd 44 nm _ true HP.out).mono ?_; rintro e V1 ⟨he, P1, g1⟩; rw [HM.out] at he; rw [HD.out, HX.out] at P1; subst he; have HP1 : Hid _ := P1; clear P1)) | (go_at_call 14; go_must (refine (depth_any _ b _ nm _ HP1.out).mono ?_; rintro e w' ⟨rfl, hw⟩; have hw := hw.symm; subst hw)))
          go_roundw
          case rel => exact ⟨k + 1, dd, false, by omega, by omega, by omega, by go_num, rfl, rfl, HP1, below_put bl g1 hb1⟩
          case measure => simp [intOf]; omega
      by_cases h58 : c = 58
      · subst h58
        by_cases g : dd = 1
        · have g' : (dd == 1) = true := by simpa using g
          have HM : Hid (mov dd (pc && nm) inI 58 = 0) := rfl
          have HD : Hid (dep dd 58 = dd) := rfl
          have HX : Hid (nxt dd nm 58 = (true && nm)) := by unfold nxt; rw [g']; rfl
          clear g
          go_wp2_with (first | (go_at_call 13; go_must (refine (zz_next wr b dd 58 nm _ inI HP.out).mono ?_; rintro e V1 ⟨he, P1, g1⟩; rw [HM.out] at he; rw [HD.out, HX.out] at P1; subst he; have HP1 : Hid _ := P1; clear P1)) | (go_at_call 14; go_must (refine (depth_any _ b _ nm _ HP1.out).mono ?_; rintro e w' ⟨rfl, hw⟩; have hw := hw.symm; subst hw)))
          go_roundw
          case rel => exact ⟨k + 1, dd, true, by omega, by omega, by omega, by go_num, rfl, rfl, HP1, below_put bl g1 hb1⟩
          case measure => simp [intOf]; omega
        · have g' : (dd == 1) = false := by simpa using g
          have HM : Hid (mov dd (pc && nm) inI 58 = 0) := rfl
          have HD : Hid (dep dd 58 = dd) := rfl
          have HX : Hid (nxt dd nm 58 = (false && nm)) := by unfold nxt; rw [g']; rfl
          clear g
          go_wp2_with (first | (go_at_call 13; go_must (refine (zz_next wr b dd 58 nm _ inI HP.out).mono ?_; rintro e V1 ⟨he, P1, g1⟩; rw [HM.out] at he; rw [HD.out, HX.out] at P1; subst he; have HP1 : Hid _ := P1; clear P1)) | (go_at_call 14; go_must (refine (depth_any _ b _ nm _ HP1.out).mono ?_; rintro e w' ⟨rfl, hw⟩; have hw := hw.symm; subst hw)))
          go_roundw
          case rel => exact ⟨k + 1, dd, false, by omega, by omega, by omega, by go_num, rfl, rfl, HP1, below_put bl g1 hb1⟩
          case measure => simp [intOf]; omega
      have b1 : (c == 123) = false := by simpa using h1
      have b2 : (c == 91) = false := by simpa using h2
      have b3 : (c == 125) = false := by simpa using h125
      have b4 : (c == 93) = false := by simpa using h93
      have b5 : (c == 44) = false := by simpa using h44
      have b6 : (c == 58) = false := by simpa using h58
      have HM : Hid (mov dd (pc && nm) inI c = 0) := mov_other h2 h125 h93 h44
      have HD : Hid (dep dd c = dd) := dep_same h1 h2 h125 h93
      have HX : Hid (nxt dd nm c = false) := nxt_no h58
      clear h1 h2 h125 h93 h44 h58
      go_wp2_with (first | (go_at_call 13; go_must (refine (zz_next wr b dd c nm _ inI HP.out).mono ?_; rintro e V1 ⟨he, P1, g1⟩; rw [HM.out] at he; rw [HD.out, HX.out] at P1; subst he; have HP1 : Hid _ := P1; clear P1)) | (go_at_call 14; go_must (refine (depth_any _ b _ nm _ HP1.out).mono ?_; rintro e w' ⟨rfl, hw⟩; have hw := hw.symm; subst hw)))
      go_roundw
      case rel => exact ⟨k + 1, dd, false, by omega, by omega, by omega, by go_num, rfl, rfl, HP1, below_put bl g1 hb1⟩
      case measure => simp [intOf]; omega
    · go_wp2
      go_ret
      exact ⟨rfl, bl⟩
end Go.Proofs.Qxb6000990aMods.Jsn
