/-
  THE SHELL OF A PROOF OF 'Rows.FnJsonDepthCountsBracketsAndEndsDocumentsSaid' ('example.com/nodewarden/nodewarden/zzlaws_internal_inputfile_b1.FnJsonDepthCountsBracketsAndEndsDocuments'), WRITTEN BY PROGRAM (proof-skeleton.mjs) off the guide's own print for that function. Not trusted by itself: the kernel checks it.
  THE HOLE IS FILLED; the world's word is 'Below' (as in the guide's shell for slices), so the row's last line is that shell's. ALL ELSE IS THE GUIDE's TEMPLATE (howto/template/XProofs.lean) at this function's number and types: leave it.
-/
import Derived.Test.Qxb6000990aModsRows
import Derived.WalkKit
import Derived.ProofKit
import Derived.OpenShut
import Derived.ShutString
import Derived.Below
import Derived.ChangeOld
import Derived.Test.Qxb6000990aModsDep
namespace Go.Proofs.Qxb6000990aMods.fnJsonDepthCountsBracketsAndEndsDocuments
open Go.ChangeShapes Go.WideShapes Go.ChangeAt Go.RowKit
open Go.ChangeMaps (open_string shut_string)
set_option linter.unusedVariables false      -- a walk need not use every 'w<i>' (that an integer argument fits its kind)

theorem own : ownKnob Trym.prog.godebug = none := by kernel_rfl

/-! ### STEP 1: THE WALK -/
theorem walk (a0 : ByteArray) (a1 : Bool) (a2 : Bool) (w0 : a0.size ≤ maxLen) (w : World) :
    Calls Trym.prog 5 #[.string a0, .bool a1, .bool a2] w fun e w' => e = .returned (.bool true) ∧ Below w.heap.size w w' := by
  by_cases h : a0.size ≤ 65536
  · exact Jsn.depth_counts w a0 a1 a2 h
  · exact Jsn.depth_long w a0 a1 a2 w0 (by omega)

/-! ### THE ROW's STEP: WRITTEN OUT: LEAVE IT -/
set_option maxRecDepth 100000 in
theorem lifted (os : Os) (started : os.Started) (H : Type) (enc : TypeId × Value → H) :
    ReturnsInHanded {} Trym.checked os 5 .any (Rows.fnJsonDepthCountsBracketsAndEndsDocumentsSpec.pre6 enc Trym.prog Trym.f5 Rows.fnJsonDepthCountsBracketsAndEndsDocumentsRow.domain false) (Rows.fnJsonDepthCountsBracketsAndEndsDocumentsSpec.post enc Trym.prog Trym.f5 false true false false) := by
  refine returnsInHanded_of_change (C := Trym.checked) own started (by kernel_rfl) Trym.func5
    (ChangeSpec.witness6 (enc := enc) (C := Trym.checked) false ⟨#[], #[.string ByteArray.empty, .bool false, .bool false], []⟩ 8 (by kernel_rfl) (by kernel_rfl) (by kernel_rfl) (by kernel_rfl)) ?_
  intro W base args ds gs before hval0 hW hcnd _
  have hval : ∀ (j : Nat) t v, Trym.f5.params[j]? = some t → args[j]? = some v → Value.okWide Trym.prog W .any base t v := hval0
  have hW' := hW
  obtain ⟨p, q, hA0, hV, rfl, hfz, hnd⟩ := hW
  have hA : DataW.TrodAll enc Trym.prog W 0 (fun _ => true) true Trym.f5.params.toList args.toList ds p := hA0
  rw [Trym.params5] at hA hval
  obtain ⟨v0, vs0, d0, ds0, p0, q0, hargs, rfl, rfl, h0, r0⟩ := trodAll_cons hA
  obtain ⟨v1, vs1, d1, ds1, p1, q1, rfl, rfl, rfl, h1, r1⟩ := trodAll_cons r0
  obtain ⟨v2, vs2, d2, ds2, p2, q2, rfl, rfl, rfl, h2, r2⟩ := trodAll_cons r1
  obtain ⟨rfl, rfl, rfl⟩ := trodAll_nil r2
  obtain rfl : args = #[v0, v1, v2] := by cases args; simp_all
  obtain ⟨rfl, rfl⟩ := trodVars_none hV
  obtain ⟨a0, rfl, rfl, rfl, w0⟩ := open_string Trym.underlying9 (hval 0 9 v0 rfl rfl) h0
  obtain ⟨a1, rfl, rfl, rfl⟩ := open_bool Trym.underlying4 (hval 1 4 v1 rfl rfl) h1
  obtain ⟨a2, rfl, rfl, rfl⟩ := open_bool Trym.underlying4 (hval 2 4 v2 rfl rfl) h2
  clear hA0 hval0
  refine (walk a0 a1 a2 w0 W).mono fun e W' ⟨he, bel⟩ => ?_
  subst he
  exact ⟨_, rfl, _, _, _, [], _, [], hW', trodAll_mk1 (shut_bool Trym.underlying4 _), (trodAll_cons_mk (shut_string Trym.underlying9 w0) (trodAll_cons_mk (shut_bool Trym.underlying4 _) (trodAll_cons_mk (shut_bool Trym.underlying4 _) trodAll_mk0))), rfl, bel.frame _, fun h => by cases h⟩

theorem over : Rows.fnJsonDepthCountsBracketsAndEndsDocumentsRow.holds Trym.pinned (OpenSpec.ofChange Rows.fnJsonDepthCountsBracketsAndEndsDocumentsSpec) :=
  OpenClaim.holds_of_wide 5 Trym.f5 rfl rfl rfl rfl rfl rfl rfl ⟨rfl, rfl, rfl, rfl, rfl⟩ rfl rfl rfl rfl rfl (by kernel_rfl) Trym.func5 (by kernel_rfl)
    (of_decide_eq_true (by kernel_rfl)) (by unfold Func.isWrapper; first | (rw [if_pos (by decide +kernel)]; kernel_rfl) | (rw [if_neg (by decide +kernel)]; exact ⟨rfl, rfl⟩))
    (fun os started H enc _ => lifted os started H enc)

/-- ████ THE STATEMENT ████ -/
theorem proved : Rows.FnJsonDepthCountsBracketsAndEndsDocumentsSaid :=
  over
end Go.Proofs.Qxb6000990aMods.fnJsonDepthCountsBracketsAndEndsDocuments
