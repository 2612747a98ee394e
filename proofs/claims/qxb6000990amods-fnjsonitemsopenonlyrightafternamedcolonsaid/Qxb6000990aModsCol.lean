/-
  SEAT b6000990aM. The walk of FnJsonItemsOpenOnlyRightAfterNamedColon (6).
-/
import Derived.Test.Qxb6000990aModsJsn
namespace Go.Proofs.Qxb6000990aMods.Jsn
open Go.RowKit Go.PlainAid
set_option linter.unusedVariables false

theorem below_new {w W1 W2 : World} {b : Nat} (h1 : Below w.heap.size w W1) (g : W1.grownBy W2 (some b)) (hb : w.heap.size ≤ b) : Below w.heap.size w W2 :=
  h1.grown g h1.size (fun k hk => by cases hk; exact hb)
theorem below_alloc {w W1 W2 : World} (h1 : Below w.heap.size w W1) (g : W1.grownBy W2 none) : Below w.heap.size w W2 :=
  h1.grown g h1.size (fun k hk => by cases hk)

set_option maxHeartbeats 2000000 in
theorem colon_any (w : World) (d : Int) (nm nx : Bool) (c : Int) (inI : Bool) :
    Calls Trym.prog 6 #[.int .i64 d, .bool nm, .bool nx, .int .u8 c, .bool inI] w fun e w' => e = .returned (.bool true) ∧ Below w.heap.size w w' := by
  go_enter Trym.func6, Trym.ntmps6
  go_wp2_with (first | (go_at_call 12; go_must (refine (new_any w d nm nx).mono ?_; rintro e W1 ⟨rfl, bl1⟩)) | (refine wpList_alloc26 (by rfl) (by rfl) ?_; intro W2 hW2 gr2) | (refine wpList_store26 (by rfl) (.tmp 11) (.tmp 19) (by rfl) _ _ _ (by rfl) (by rfl) hW2 zeros_size (place_size d nm nx) (place_one d nm nx) ?_; intro W3 hW3 gr3))
  have P3 : Hid (PlaceAt W3 W1.heap.size d nm nx) := placeAt_new hW3
  have bl3 : Below w.heap.size w W3 := below_new (below_alloc bl1 gr2) gr3 bl1.size
  have hb1 := bl1.size
  clear hW2 hW3 gr2 gr3 bl1
  generalize W1.heap.size = b at *
  refine (zz_next W3 b d 58 nm nx inI P3.out).mono ?_
  rintro e W4 ⟨rfl, P4, g4⟩
  have e1 : mov d nx inI 58 = 0 := rfl
  have e2 : dep d 58 = d := rfl
  rw [e1]
  rw [e2] at P4
  obtain ⟨cs, hcb, hcs, hco, hc0, hc55, hc56⟩ := id P4
  have HX : Hid (cs[0]? = some (.int .i64 d) ∧ cs[55]? = some (.bool nm) ∧ cs[56]? = some (.bool (nxt d nm 58))) := ⟨hc0, hc55, hc56⟩
  have HP4 : Hid _ := P4
  have bl4 := below_new bl3 g4 hb1
  clear hc0 hc55 hc56 P3 g4 e1 e2 P4 bl3
  go_wp2_with (first | (go_at_call 14; go_must (refine (depth_any W4 b d nm _ HP4.out).mono ?_; rintro e w' ⟨rfl, hw⟩; have hw := hw.symm; subst hw)) | (refine wpList_load26 (by rfl) (.tmp 11) (by rfl) b cs (by rfl) hcb hcs ?_) | (refine wpList_alloc26 (by rfl) (by rfl) ?_; intro W5 hW5 gr5) | (refine wpList_store26 (by rfl) (.tmp 13) (.tmp 29) (by rfl) _ _ _ (by rfl) (by rfl) hW5 zeros_size hcs hco ?_; intro W6 hW6 gr6))
  have hlt : b < W4.heap.size := PlaceAt.lt HP4.out
  have eb : W6.heap[b]? = W4.heap[b]? := (gr6.block b (Nat.lt_of_lt_of_le hlt gr5.size) (by intro q; have := Option.some.inj q; omega)).trans (gr5.block b hlt (by simp))
  have P6 : Hid (PlaceAt W6 b d nm (nxt d nm 58)) := PlaceAt.kept HP4.out eb
  have K6 : Hid (PlaceAt W6 W4.heap.size d nm (nxt d nm 58)) := ⟨cs, hW6, hcs, hco, HX.out.1, HX.out.2.1, HX.out.2.2⟩
  have bl6 : Below w.heap.size w W6 := below_new (below_alloc bl4 gr5) gr6 bl4.size
  have hb2 := bl4.size
  clear hW5 hW6 gr5 gr6 eb HX HP4 bl4 hcb hcs hco
  generalize W4.heap.size = b2 at *
  refine (zz_next W6 b d 91 nm _ inI P6.out).mono ?_
  rintro e W7 ⟨rfl, P7, g7⟩
  have K7 : PlaceAt W7 b2 d nm (nxt d nm 58) := PlaceAt.kept K6.out (g7.block b2 (PlaceAt.lt K6.out) (by intro q; have := Option.some.inj q; omega))
  have bl7 := below_new bl6 g7 hb1
  have HK7 : Hid _ := K7
  clear P6 K6 P7 g7 K7 bl6
  have e1 : mov d (nxt d nm 58) inI 91 = if (d == 1) && nm then 1 else 0 := by simp [mov, nxt]
  rw [e1]
  clear e1
  have hnm : Hid (nxt d nm 58 = ((d == 1) && nm)) := by simp [nxt, Hid]
  have tail : ∀ x : Bool, nxt d nm c = x → x = false ∨ c = 58 := by
    intro x hx
    by_cases hc : c = 58
    · exact .inr hc
    · left
      have : (c == 58) = false := by simpa using hc
      rw [← hx]
      simp [nxt, this]
  have HTail : Hid _ := tail
  clear tail
  cases hd : (d == 1)
  all_goals cases nm
  · have e : (if (false && false) = true then (1 : Int) else 0) = 0 := rfl
    rw [e]
    clear e hnm
    by_cases hc : c = 58
    · subst hc
      go_wp2
      go_ret
      exact ⟨rfl, bl7⟩
    · have hc' : (c == 58) = false := by simpa using hc
      have hn : nxt d false c = false := (HTail.out _ rfl).resolve_right hc
      have HN : Hid _ := hn
      clear hc hn
      go_wp2_with fail
      refine (zz_next W7 b2 d c false _ inI HK7.out).mono ?_
      rintro e W8 ⟨rfl, P8, g8⟩
      rw [HN.out] at P8
      have HP8 : Hid _ := P8
      have bl8 := below_new bl7 g8 hb2
      clear P8 g8
      go_wp2_with fail
      refine (zz_next W8 b2 _ 91 false false inI HP8.out).mono ?_
      rintro e W9 ⟨rfl, P9, g9⟩
      have e1 : mov (dep d c) false inI 91 = 0 := rfl
      rw [e1]
      have bl9 := below_new bl8 g9 hb2
      clear P9 g9 e1
      go_wp2
      go_ret
      exact ⟨rfl, bl9⟩
  · have e : (if (false && true) = true then (1 : Int) else 0) = 0 := rfl
    rw [e]
    clear e hnm
    by_cases hc : c = 58
    · subst hc
      go_wp2
      go_ret
      exact ⟨rfl, bl7⟩
    · have hc' : (c == 58) = false := by simpa using hc
      have hn : nxt d true c = false := (HTail.out _ rfl).resolve_right hc
      have HN : Hid _ := hn
      clear hc hn
      go_wp2_with fail
      refine (zz_next W7 b2 d c true _ inI HK7.out).mono ?_
      rintro e W8 ⟨rfl, P8, g8⟩
      rw [HN.out] at P8
      have HP8 : Hid _ := P8
      have bl8 := below_new bl7 g8 hb2
      clear P8 g8
      go_wp2_with fail
      refine (zz_next W8 b2 _ 91 true false inI HP8.out).mono ?_
      rintro e W9 ⟨rfl, P9, g9⟩
      have e1 : mov (dep d c) false inI 91 = 0 := rfl
      rw [e1]
      have bl9 := below_new bl8 g9 hb2
      clear P9 g9 e1
      go_wp2
      go_ret
      exact ⟨rfl, bl9⟩
  · have e : (if (true && false) = true then (1 : Int) else 0) = 0 := rfl
    rw [e]
    clear e hnm
    by_cases hc : c = 58
    · subst hc
      go_wp2
      go_ret
      exact ⟨rfl, bl7⟩
    · have hc' : (c == 58) = false := by simpa using hc
      have hn : nxt d false c = false := (HTail.out _ rfl).resolve_right hc
      have HN : Hid _ := hn
      clear hc hn
      go_wp2_with fail
      refine (zz_next W7 b2 d c false _ inI HK7.out).mono ?_
      rintro e W8 ⟨rfl, P8, g8⟩
      rw [HN.out] at P8
      have HP8 : Hid _ := P8
      have bl8 := below_new bl7 g8 hb2
      clear P8 g8
      go_wp2_with fail
      refine (zz_next W8 b2 _ 91 false false inI HP8.out).mono ?_
      rintro e W9 ⟨rfl, P9, g9⟩
      have e1 : mov (dep d c) false inI 91 = 0 := rfl
      rw [e1]
      have bl9 := below_new bl8 g9 hb2
      clear P9 g9 e1
      go_wp2
      go_ret
      exact ⟨rfl, bl9⟩
  · have e : (if (true && true) = true then (1 : Int) else 0) = 1 := rfl
    rw [e]
    clear e hnm
    by_cases hc : c = 58
    · subst hc
      go_wp2
      go_ret
      exact ⟨rfl, bl7⟩
    · have hc' : (c == 58) = false := by simpa using hc
      have hn : nxt d true c = false := (HTail.out _ rfl).resolve_right hc
      have HN : Hid _ := hn
      clear hc hn
      go_wp2_with fail
      refine (zz_next W7 b2 d c true _ inI HK7.out).mono ?_
      rintro e W8 ⟨rfl, P8, g8⟩
      rw [HN.out] at P8
      have HP8 : Hid _ := P8
      have bl8 := below_new bl7 g8 hb2
      clear P8 g8
      go_wp2_with fail
      refine (zz_next W8 b2 _ 91 true false inI HP8.out).mono ?_
      rintro e W9 ⟨rfl, P9, g9⟩
      have e1 : mov (dep d c) false inI 91 = 0 := rfl
      rw [e1]
      have bl9 := below_new bl8 g9 hb2
      clear P9 g9 e1
      go_wp2
      go_ret
      exact ⟨rfl, bl9⟩
end Go.Proofs.Qxb6000990aMods.Jsn
