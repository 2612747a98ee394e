/-
  SEAT b6000407aM. The walk of FnSchemaOfAgreesWithEdgeModel (6), out of its callees' contracts.
-/
import Derived.Test.Qxb6000407aModsMod
import Derived.LaidEqlPtr
namespace Go.Proofs.Qxb6000407aMods.Sch
open Go.RowKit
set_option linter.unusedVariables false

theorem info62 : (Trym.prog.info? 62).isSome = true := by kernel_rfl

set_option maxHeartbeats 4000000 in
theorem law_any (w : World) (a0 a1 : Option Addr) (n cap0 m cap1 : Nat) (P K : Nat → Int) (N : Nat → ByteArray) (I : Nat → Int) (S : Nat → ByteArray) (hE : EdgesAt w a0 n P K N) (hS : StepsAt w a1 m I S) (hn0 : a0 = none → n = 0) (hn1 : a1 = none → m = 0) :
    Calls Trym.prog 6 #[.slice a0 n cap0, .slice a1 m cap1] w fun e w' => e = .returned (.bool true) ∧ Below w.heap.size w w' := by
  have q0 := hE.1
  have q1 := hS.1
  unfold maxLen at q0 q1
  by_cases h4 : n ≤ 4096 ∧ m ≤ 4096
  · obtain ⟨h4, h5⟩ := h4
    cases hpt : pathTo P K N n (fun i => I i % 3) S m with
    | none =>
      have HPT : Hid _ := hpt
      clear hpt
      go_enter Trym.func6, Trym.ntmps6
      go_wp2_with (first | (go_at_call 14; go_must (refine (bytes_any _ a0 a1 n cap0 m cap1 P K N I S hE hS).mono ?_; rintro e w' ⟨⟨r, rfl, _⟩, hw⟩; have hw := hw.symm; subst hw)) | (go_at_call 15; go_must (refine (size_edges _ a0 n cap0 P K N hE).mono ?_; rintro e w' ⟨⟨r15, rfl, b15, b15'⟩, hw⟩; have hw := hw.symm; subst hw)) | (go_at_call 16; go_must (refine (size_steps _ a1 m cap1 I S hS).mono ?_; rintro e w' ⟨⟨r16, rfl, b16, b16'⟩, hw⟩; have hw := hw.symm; subst hw)) | (go_at_call 17; go_must (refine (copy_edges _ a0 n cap0 P K N hE h4 hn0).mono ?_; rintro e W1 ⟨b0, rfl, hE1, bl1⟩)) | (go_at_call 18; go_must (refine (copy_steps _ a1 m cap1 I S (hS.later bl1) h5 hn1).mono ?_; rintro e W2 ⟨b1, rfl, hS2, bl2⟩)) | (go_at_call 19; go_must (refine (build_any _ b0 n n P K N (hE1.later bl2) h4).mono ?_; rintro e W3 ⟨A, M, rfl, R, T, bl3⟩)))
      · go_ret
        exact ⟨rfl, Below.refl _ _⟩
      · go_ret
        exact ⟨rfl, Below.refl _ _⟩
      · have hS3 : Hid (StepsAt W3 b1 m I S) := hS2.later bl3
        have hE3 : Hid (EdgesAt W3 b0 n P K N) := (hE1.later bl2).later bl3
        have blw : Below w.heap.size w W3 := bl1.trans ((bl2.mono bl1.size).trans (bl3.mono (Nat.le_trans bl1.size bl2.size)))
        have hz0 := R.cell (Nat.le_refl _) 0 (by omega)
        have hg := R.lt (by omega)
        have HR : Hid _ := R
        have HT : Hid _ := T
        have HB : Hid _ := blw
        have z1 : (0 : Int) < ((n + 1 : Nat) : Int) := by omega
        clear R T hE1 hS2 bl1 bl2 bl3 hE hS blw
        go_region_held3 (fun w' => w'.cell? ⟨W2.heap.size, 0, none⟩ = some (.pointer (some ⟨A 0, 0, none⟩))) (go_keep) (first | (go_at_call 21; refine (to_steps _ b1 m m I S ?_ h5).mono ?_; exact hS3.out; rintro e W4 ⟨rfl, hS4, bl4⟩; have bl4' : Below W3.heap.size W3 W4 := ((Below.refl _ W3).drew).trans bl4; have T4 : Hid _ := HT.out.kept (fun b _ hlt => bl4'.block b hlt); have hz4 := (bl4'.cell (p := ⟨W2.heap.size, 0, none⟩) hg).trans hz0; have HS4 : Hid _ := hS4; have HB4 : Hid _ := bl4'; clear hS4 bl4 bl4') | (go_at_call 20; refine (zz_schema _ _ A M T4.out _ m m HS4.out (fun i => ⟨by omega, by omega⟩) h5).mono ?_; rintro e W5 ⟨he, bl5⟩; have he' : e = .returned (.tuple #[.pointer none, .bool false]) := (by rw [he, HPT.out]; rfl); subst he'; have bl35 : Below W3.heap.size W3 W5 := HB4.out.trans (bl5.mono HB4.out.size); have hz5 := (bl35.cell (p := ⟨W2.heap.size, 0, none⟩) hg).trans hz0; have HB5 : Hid _ := bl35; clear he bl5 bl35))
        go_wp2_with (go_at_call 22; go_must (refine (model_any _ b0 n (hE3.out.later HB5.out) h4 b1 m m (hS3.out.later HB5.out) h5).mono ?_; rintro e W6 ⟨he, bl6⟩; have he' : e = .returned (.tuple #[.int .i64 0, .bool false]) := (by rw [he, HPT.out]; rfl); subst he'; clear he))
        go_ret
        exact ⟨rfl, HB.out.trans ((HB5.out.mono HB.out.size).trans (bl6.mono (Nat.le_trans HB.out.size HB5.out.size)))⟩
    | some c =>
      obtain ⟨i62, h62⟩ := Option.isSome_iff_exists.1 info62
      have hpe := fun (ad : Addr) (wx : World) => run_eql_ptr_same (P := Trym.prog) (w := wx) ad Trym.underlying37 h62
      clear h62
      have hcn : c ≤ n := pathTo_le P K N n _ S hpt
      have hci : (c : Int) < ((n + 1 : Nat) : Int) := by omega
      have HPT : Hid _ := hpt
      clear hpt
      go_enter Trym.func6, Trym.ntmps6
      go_wp2_with (first | (go_at_call 14; go_must (refine (bytes_any _ a0 a1 n cap0 m cap1 P K N I S hE hS).mono ?_; rintro e w' ⟨⟨r, rfl, _⟩, hw⟩; have hw := hw.symm; subst hw)) | (go_at_call 15; go_must (refine (size_edges _ a0 n cap0 P K N hE).mono ?_; rintro e w' ⟨⟨r15, rfl, b15, b15'⟩, hw⟩; have hw := hw.symm; subst hw)) | (go_at_call 16; go_must (refine (size_steps _ a1 m cap1 I S hS).mono ?_; rintro e w' ⟨⟨r16, rfl, b16, b16'⟩, hw⟩; have hw := hw.symm; subst hw)) | (go_at_call 17; go_must (refine (copy_edges _ a0 n cap0 P K N hE h4 hn0).mono ?_; rintro e W1 ⟨b0, rfl, hE1, bl1⟩)) | (go_at_call 18; go_must (refine (copy_steps _ a1 m cap1 I S (hS.later bl1) h5 hn1).mono ?_; rintro e W2 ⟨b1, rfl, hS2, bl2⟩)) | (go_at_call 19; go_must (refine (build_any _ b0 n n P K N (hE1.later bl2) h4).mono ?_; rintro e W3 ⟨A, M, rfl, R, T, bl3⟩)))
      · go_ret
        exact ⟨rfl, Below.refl _ _⟩
      · go_ret
        exact ⟨rfl, Below.refl _ _⟩
      · have hS3 : Hid (StepsAt W3 b1 m I S) := hS2.later bl3
        have hE3 : Hid (EdgesAt W3 b0 n P K N) := (hE1.later bl2).later bl3
        have blw : Below w.heap.size w W3 := bl1.trans ((bl2.mono bl1.size).trans (bl3.mono (Nat.le_trans bl1.size bl2.size)))
        have hz0 := R.cell (Nat.le_refl _) 0 (by omega)
        have hg := R.lt (by omega)
        have HR : Hid _ := R
        have HT : Hid _ := T
        have HB : Hid _ := blw
        have z1 : (0 : Int) < ((n + 1 : Nat) : Int) := by omega
        clear R T hE1 hS2 bl1 bl2 bl3 hE hS blw
        go_region_held3 (fun w' => w'.cell? ⟨W2.heap.size, 0, none⟩ = some (.pointer (some ⟨A 0, 0, none⟩))) (go_keep) (first | (go_at_call 21; refine (to_steps _ b1 m m I S ?_ h5).mono ?_; exact hS3.out; rintro e W4 ⟨rfl, hS4, bl4⟩; have bl4' : Below W3.heap.size W3 W4 := ((Below.refl _ W3).drew).trans bl4; have T4 : Hid _ := HT.out.kept (fun b _ hlt => bl4'.block b hlt); have hz4 := (bl4'.cell (p := ⟨W2.heap.size, 0, none⟩) hg).trans hz0; have HS4 : Hid _ := hS4; have HB4 : Hid _ := bl4'; clear hS4 bl4 bl4') | (go_at_call 20; refine (zz_schema _ _ A M T4.out _ m m HS4.out (fun i => ⟨by omega, by omega⟩) h5).mono ?_; rintro e W5 ⟨he, bl5⟩; have he' : e = .returned (.tuple #[.pointer (some ⟨A c, 0, none⟩), .bool true]) := (by rw [he, HPT.out]; rfl); subst he'; have bl35 : Below W3.heap.size W3 W5 := HB4.out.trans (bl5.mono HB4.out.size); have hz5 := (bl35.cell (p := ⟨W2.heap.size, 0, none⟩) hg).trans hz0; have HB5 : Hid _ := bl35; clear he bl5 bl35))
        go_wp2_with (go_at_call 22; go_must (refine (model_any _ b0 n (hE3.out.later HB5.out) h4 b1 m m (hS3.out.later HB5.out) h5).mono ?_; rintro e W6 ⟨he, bl6⟩; have he' : e = .returned (.tuple #[.int .i64 (c : Int), .bool true]) := (by rw [he, HPT.out]; rfl); subst he'; have hz6 := (bl6.cell (p := ⟨W2.heap.size, c, none⟩) (Nat.lt_of_lt_of_le hg HB5.out.size)).trans ((HB5.out.cell (p := ⟨W2.heap.size, c, none⟩) hg).trans (RowTo.cell HR.out (Nat.le_refl _) c (by omega))); clear he))
        go_ret
        exact ⟨rfl, HB.out.trans ((HB5.out.mono HB.out.size).trans (bl6.mono (Nat.le_trans HB.out.size HB5.out.size)))⟩
  · go_enter Trym.func6, Trym.ntmps6
    go_wp2_with (go_at_call 14; go_must (refine (bytes_any _ a0 a1 n cap0 m cap1 P K N I S hE hS).mono ?_; rintro e w' ⟨⟨r, rfl, _⟩, hw⟩; have hw := hw.symm; subst hw))
    all_goals (go_ret; exact ⟨rfl, Below.refl _ _⟩)
end Go.Proofs.Qxb6000407aMods.Sch
