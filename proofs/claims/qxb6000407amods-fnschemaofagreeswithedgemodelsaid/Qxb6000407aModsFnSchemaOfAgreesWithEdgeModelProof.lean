/-
  SEAT b6000407aM. THE PROOF OF 'Rows.FnSchemaOfAgreesWithEdgeModelSaid' (function 6): two slices of structs opened; the law's walk (Sch.law_any); the row's step is the guide's shell for slices.
-/
import Derived.Test.Qxb6000407aModsLaw
import Derived.Deep.Slices
import Derived.Deep.Strs
import Derived.ChangeOld
import Derived.Below
namespace Go.Proofs.Qxb6000407aMods.fnSchemaOfAgreesWithEdgeModel
open Go.ChangeShapes Go.WideShapes Go.ChangeAt Go.RowKit
open Go.Proofs.Qxb6000407aMods.Sch
set_option linter.unusedVariables false

theorem own : ownKnob Trym.prog.godebug = none := by kernel_rfl
theorem laidOut : laidOutB Trym.prog = true := by kernel_rfl
theorem cells48 : Trym.prog.cellsOf 48 = 3 := by kernel_rfl
theorem cells46 : Trym.prog.cellsOf 46 = 2 := by kernel_rfl
theorem cells3 : Trym.prog.cellsOf 3 = 1 := by kernel_rfl
theorem cells9 : Trym.prog.cellsOf 9 = 1 := by kernel_rfl

section
variable {H : Type} {enc : TypeId × Value → H} {w : World} {base : Nat} {spare : Nat → Bool} {held : Bool} {n : Nat} {cs : List Value} {x : DataW H × List MemPlace}

theorem edge_elem (h : DataW.trod enc Trym.prog w base spare held n 48 cs = some x) :
    ∃ (p k : Int) (s : ByteArray), cs = [.int .i64 p, .int .i64 k, .string s] ∧ (-9223372036854775808 ≤ p ∧ p ≤ 9223372036854775807) ∧ (-9223372036854775808 ≤ k ∧ k ≤ 9223372036854775807) ∧ s.size ≤ maxLen := by
  obtain ⟨y0, y1, y2, m, _, hl, h0, h1, h2⟩ := Deep.trod_struct3 Trym.underlying48 h
  rw [cells48] at hl
  match cs, hl with
  | [v0, v1, v2], _ =>
    simp [cells3, cells9] at h0 h1 h2
    obtain ⟨p, e0, _, w0⟩ := DataW.trod_int Trym.underlying3 h0
    obtain ⟨k, e1, _, w1⟩ := DataW.trod_int Trym.underlying3 h1
    obtain ⟨s, e2, _, w2⟩ := DataW.trod_string Trym.underlying9 h2
    simp at e0 e1 e2
    subst e0 e1 e2
    exact ⟨p, k, s, rfl, bounds_i64 w0, bounds_i64 w1, w2⟩

theorem step_elem (h : DataW.trod enc Trym.prog w base spare held n 46 cs = some x) :
    ∃ (p : Int) (s : ByteArray), cs = [.int .i64 p, .string s] ∧ (-9223372036854775808 ≤ p ∧ p ≤ 9223372036854775807) ∧ s.size ≤ maxLen := by
  obtain ⟨y0, y1, m, _, hl, h0, h1⟩ := trod_struct2 Trym.underlying46 h
  rw [cells46] at hl
  match cs, hl with
  | [v0, v1], _ =>
    simp [cells3, cells9] at h0 h1
    obtain ⟨p, e0, _, w0⟩ := DataW.trod_int Trym.underlying3 h0
    obtain ⟨s, e1, _, w1⟩ := DataW.trod_string Trym.underlying9 h1
    simp at e0 e1
    subst e0 e1
    exact ⟨p, s, rfl, bounds_i64 w0, w1⟩

theorem add_spot (b off i : Nat) : (⟨b, off, none⟩ : Addr).add i = ⟨b, off + i, none⟩ := by
  unfold Addr.add
  split <;> simp_all

theorem edges_of {fuel : Nat} {a : Option Addr} {len cap : Nat} {y : DataW H × List MemPlace} (h : DataW.trod enc Trym.prog w 0 (fun _ => true) true fuel 28 [.slice a len cap] = some y) :
    ∃ (P K : Nat → Int) (N : Nat → ByteArray), EdgesAt w a len P K N ∧ (a = none → len = 0) := by
  rcases Deep.open_slice Trym.underlying28 h with ⟨hcs, _⟩ | ⟨x, l, c, m, f, D, Pl, hcs, _, hl, hm, hmm, _, hx⟩
  · simp at hcs
    obtain ⟨rfl, rfl, rfl⟩ := hcs
    exact ⟨fun _ => 0, fun _ => 0, fun _ => ByteArray.empty, ⟨by unfold maxLen; omega, fun i hi => by omega, fun h => by omega⟩, fun _ => rfl⟩
  · simp at hcs
    obtain ⟨rfl, rfl, rfl⟩ := hcs
    have hm' : m = cap := by simpa using hmm
    subst hm'
    rw [cells48] at hx
    obtain ⟨g, hg⟩ := Deep.choose_lt (α := Int × Int × ByteArray) (n := m) (p := fun i z => (w.cell? (x.add (i * 3)) = some (.int .i64 z.1) ∧ w.cell? ((x.add (i * 3)).add 1) = some (.int .i64 z.2.1) ∧ w.cell? ((x.add (i * 3)).add 2) = some (.string z.2.2)) ∧ (-9223372036854775808 ≤ z.1 ∧ z.1 ≤ 9223372036854775807) ∧ (-9223372036854775808 ≤ z.2.1 ∧ z.2.1 ≤ 9223372036854775807) ∧ z.2.2.size ≤ maxLen) (fun i hi => by
      obtain ⟨cs', h1, h2⟩ := hx i hi
      obtain ⟨p, k, s, rfl, r⟩ := edge_elem h2
      obtain ⟨_, _, hc⟩ := World.cells?_some h1
      have e0 := hc 0 (by omega)
      rw [show (x.add (i * 3)).add 0 = x.add (i * 3) by unfold Addr.add; simp] at e0
      exact ⟨(p, k, s), ⟨e0, hc 1 (by omega), hc 2 (by omega)⟩, r⟩)
    refine ⟨fun i => (g i).1, fun i => (g i).2.1, fun i => (g i).2.2, ⟨by omega, fun i hi => (hg i (by omega)).2, fun h0 => ?_⟩, fun h => by cases h⟩
    obtain ⟨b, off, spot⟩ := x
    have hc := (hg 0 (by omega)).1.1
    have hspot : spot = none := by simpa [Addr.add] using World.cell?_spot hc
    subst hspot
    refine ⟨b, off, rfl, fun i hi => ?_⟩
    obtain ⟨e0, e1, e2⟩ := (hg i (by omega)).1
    rw [add_spot] at e0 e1 e2
    rw [add_spot] at e1 e2
    exact ⟨e0, e1, e2⟩

theorem steps_of {fuel : Nat} {a : Option Addr} {len cap : Nat} {y : DataW H × List MemPlace} (h : DataW.trod enc Trym.prog w 0 (fun _ => true) true fuel 29 [.slice a len cap] = some y) :
    ∃ (I : Nat → Int) (N : Nat → ByteArray), StepsAt w a len I N ∧ (a = none → len = 0) := by
  rcases Deep.open_slice Trym.underlying29 h with ⟨hcs, _⟩ | ⟨x, l, c, m, f, D, Pl, hcs, _, hl, hm, hmm, _, hx⟩
  · simp at hcs
    obtain ⟨rfl, rfl, rfl⟩ := hcs
    exact ⟨fun _ => 0, fun _ => ByteArray.empty, ⟨by unfold maxLen; omega, fun i hi => by omega, fun h => by omega⟩, fun _ => rfl⟩
  · simp at hcs
    obtain ⟨rfl, rfl, rfl⟩ := hcs
    have hm' : m = cap := by simpa using hmm
    subst hm'
    rw [cells46] at hx
    obtain ⟨g, hg⟩ := Deep.choose_lt (α := Int × ByteArray) (n := m) (p := fun i z => (w.cell? (x.add (i * 2)) = some (.int .i64 z.1) ∧ w.cell? ((x.add (i * 2)).add 1) = some (.string z.2)) ∧ (-9223372036854775808 ≤ z.1 ∧ z.1 ≤ 9223372036854775807) ∧ z.2.size ≤ maxLen) (fun i hi => by
      obtain ⟨cs', h1, h2⟩ := hx i hi
      obtain ⟨p, s, rfl, r⟩ := step_elem h2
      obtain ⟨_, _, hc⟩ := World.cells?_some h1
      have e0 := hc 0 (by omega)
      rw [show (x.add (i * 2)).add 0 = x.add (i * 2) by unfold Addr.add; simp] at e0
      exact ⟨(p, s), ⟨e0, hc 1 (by omega)⟩, r⟩)
    refine ⟨fun i => (g i).1, fun i => (g i).2, ⟨by omega, fun i hi => (hg i (by omega)).2, fun h0 => ?_⟩, fun h => by cases h⟩
    obtain ⟨b, off, spot⟩ := x
    have hc := (hg 0 (by omega)).1.1
    have hspot : spot = none := by simpa [Addr.add] using World.cell?_spot hc
    subst hspot
    refine ⟨b, off, rfl, fun i hi => ?_⟩
    obtain ⟨e0, e1⟩ := (hg i (by omega)).1
    rw [add_spot] at e0 e1
    rw [add_spot] at e1
    exact ⟨e0, e1⟩
end

/-! ### THE ROW's STEP (the guide's shell for slices) -/
set_option maxRecDepth 100000 in
theorem lifted (os : Os) (started : os.Started) (H : Type) (enc : TypeId × Value → H) :
    ReturnsInHanded {} Trym.checked os 6 .any (Rows.fnSchemaOfAgreesWithEdgeModelSpec.pre6 enc Trym.prog Trym.f6 Rows.fnSchemaOfAgreesWithEdgeModelRow.domain false) (Rows.fnSchemaOfAgreesWithEdgeModelSpec.post enc Trym.prog Trym.f6 false true false false) := by
  refine returnsInHanded_of_change (C := Trym.checked) own started (by kernel_rfl) Trym.func6
    (ChangeSpec.witness6 (enc := enc) (C := Trym.checked) false ⟨#[], #[.slice none 0 0, .slice none 0 0], []⟩ 8 (by kernel_rfl) (by kernel_rfl) (by kernel_rfl) (by kernel_rfl)) ?_
  intro W base args ds gs before hval0 hW hcnd _
  have hval : ∀ (j : Nat) t v, Trym.f6.params[j]? = some t → args[j]? = some v → Value.okWide Trym.prog W .any base t v := hval0
  have hW' := hW
  obtain ⟨p, q, hA0, hV, rfl, hfz, hnd⟩ := hW
  have hA : DataW.TrodAll enc Trym.prog W 0 (fun _ => true) true Trym.f6.params.toList args.toList ds p := hA0
  rw [Trym.params6] at hA hval
  obtain ⟨v0, vs0, d0, ds0, p0, q0, hargs, rfl, rfl, h0, r0⟩ := trodAll_cons hA
  obtain ⟨v1, vs1, d1, ds1, p1, q1, rfl, rfl, rfl, h1, r1⟩ := trodAll_cons r0
  obtain ⟨rfl, rfl, rfl⟩ := trodAll_nil r1
  obtain rfl : args = #[v0, v1] := by cases args; simp_all
  obtain ⟨rfl, rfl⟩ := trodVars_none hV
  obtain ⟨a0, len0, cap0, rfl⟩ := okWide_slice Trym.underlying28 (hval 0 28 v0 rfl rfl)
  obtain ⟨a1, len1, cap1, rfl⟩ := okWide_slice Trym.underlying29 (hval 1 29 v1 rfl rfl)
  have k0 := h0
  have k1 := h1
  have lt0 : ∀ x ∈ p0, x.block < W.heap.size := by obtain ⟨m, hm⟩ := k0; exact DataW.trod_lt m _ _ _ hm
  have lt1 : ∀ x ∈ p1, x.block < W.heap.size := by obtain ⟨m, hm⟩ := k1; exact DataW.trod_lt m _ _ _ hm
  obtain ⟨P, K, N, w0, n0⟩ : ∃ (P K : Nat → Int) (N : Nat → ByteArray), EdgesAt W a0 len0 P K N ∧ (a0 = none → len0 = 0) := by
    obtain ⟨fuel, hf⟩ := h0
    exact edges_of hf
  obtain ⟨I, S, w1, n1⟩ : ∃ (I : Nat → Int) (S : Nat → ByteArray), StepsAt W a1 len1 I S ∧ (a1 = none → len1 = 0) := by
    obtain ⟨fuel, hf⟩ := h1
    exact steps_of hf
  clear hA0 hval0
  refine (law_any W a0 a1 len0 cap0 len1 cap1 P K N I S w0 w1 n0 n1).mono fun e W' ⟨he, bel⟩ => ?_
  subst he
  exact ⟨_, rfl, _, _, _, [], _, [], hW', trodAll_mk1 (shut_bool Trym.underlying4 _), (trodAll_cons_mk (Below.trod laidOut (by kernel_rfl) (of_decide_eq_true (by kernel_rfl)) k0 bel lt0) (trodAll_cons_mk (Below.trod laidOut (by kernel_rfl) (of_decide_eq_true (by kernel_rfl)) k1 bel lt1) trodAll_mk0)), rfl, bel.frame _, fun h => by cases h⟩

theorem over : Rows.fnSchemaOfAgreesWithEdgeModelRow.holds Trym.pinned (OpenSpec.ofChange Rows.fnSchemaOfAgreesWithEdgeModelSpec) :=
  OpenClaim.holds_of_wide 6 Trym.f6 rfl rfl rfl rfl rfl rfl rfl ⟨rfl, rfl, rfl, rfl, rfl⟩ rfl rfl rfl rfl rfl (by kernel_rfl) Trym.func6 (by kernel_rfl)
    (of_decide_eq_true (by kernel_rfl)) (by unfold Func.isWrapper; first | (rw [if_pos (by decide +kernel)]; kernel_rfl) | (rw [if_neg (by decide +kernel)]; exact ⟨rfl, rfl⟩))
    (fun os started H enc _ => lifted os started H enc)

/-- ████ THE STATEMENT ████ -/
theorem proved : Rows.FnSchemaOfAgreesWithEdgeModelSaid := over
end Go.Proofs.Qxb6000407aMods.fnSchemaOfAgreesWithEdgeModel
