/-
  SEAT b6000785aM. The walk of gateway.CanonicalString (12).
-/
import Derived.Test.Qxb6000785aModsByt
import Derived.Room.AppendFits
import Derived.Maps.AppendAt
namespace Go.Proofs.Qxb6000785aMods.Can
open Go.RowKit Go.PlainAid
set_option linter.unusedVariables false

/-- The canonical string. -/
def canon (m t s n : ByteArray) (l : List UInt8) : List UInt8 := m.data.toList ++ 10 :: (t.data.toList ++ 10 :: (s.data.toList ++ 10 :: (n.data.toList ++ 10 :: l)))
theorem canon_len (m t s n : ByteArray) (l : List UInt8) : (canon m t s n l).length = m.size + 1 + t.size + 1 + s.size + 1 + n.size + 1 + l.length := by
  simp [canon]
  omega

/-- Bytes as cells. -/
def cellsOf (l : List UInt8) : List Value := l.map fun c => Value.int .u8 c.toNat
theorem cells_canon (m t s n : ByteArray) (l : List UInt8) :
    Lib.strCells m ++ [Value.int .u8 10] ++ Lib.strCells t ++ [Value.int .u8 10] ++ Lib.strCells s ++ [Value.int .u8 10] ++ Lib.strCells n ++ [Value.int .u8 10] ++ cellsOf l = cellsOf (canon m t s n l) := by
  simp [cellsOf, canon, Lib.strCells]
theorem cells_at (l : List UInt8) (i : Nat) (h : i < l.length) : (cellsOf l)[i]? = some (.int .u8 (bl l i)) := by
  simp [cellsOf, bl, h]
theorem cells_one (l : List UInt8) : ∀ u ∈ cellsOf l, u.oneCell' = true := by
  intro u hu
  simp [cellsOf] at hu
  obtain ⟨b, _, rfl⟩ := hu
  rfl
theorem one_u8 (n : Int) : ∀ u ∈ [Value.int .u8 n], u.oneCell' = true := by intro u hu; simp at hu; subst hu; rfl

/-- The four fields, in a block of their own. -/
def Four (w : World) (b : Nat) (m t s n : ByteArray) : Prop :=
  w.cell? ⟨b, 0, none⟩ = some (.string m) ∧ w.cell? ⟨b, 1, none⟩ = some (.string t) ∧ w.cell? ⟨b, 2, none⟩ = some (.string s) ∧ w.cell? ⟨b, 3, none⟩ = some (.string n)
theorem Four.kept {w w' : World} {b g : Nat} {m t s n : ByteArray} (h : Four w b m t s n) (hg : w.grownBy w' (some g)) (hne : b ≠ g) : Four w' b m t s n := by
  have e : ∀ i, some (⟨b, i, none⟩ : Addr).block ≠ some g := fun i q => hne (Option.some.inj q)
  exact ⟨hg.cell h.1 (e 0), hg.cell h.2.1 (e 1), hg.cell h.2.2.1 (e 2), hg.cell h.2.2.2 (e 3)⟩
theorem Four.alloc {w : World} {b : Nat} {m t s n : ByteArray} (h : Four w b m t s n) (o : Obj) : Four (w.alloc o) b m t s n := by
  have e : ∀ i, some (⟨b, i, none⟩ : Addr).block ≠ (none : Option Nat) := fun i q => by cases q
  have hg := World.grownBy_alloc w o none
  exact ⟨hg.cell h.1 (e 0), hg.cell h.2.1 (e 1), hg.cell h.2.2.1 (e 2), hg.cell h.2.2.2 (e 3)⟩
theorem four_new (w : World) (m t s n : ByteArray) : Four (w.alloc (.cells #[.string m, .string t, .string s, .string n] 9)) w.heap.size m t s n := by
  have h : (w.alloc (.cells #[.string m, .string t, .string s, .string n] 9)).heap[w.heap.size]? = some (.cells #[.string m, .string t, .string s, .string n] 9 (0, 0)) := heap_alloc_new w _
  refine ⟨?_, ?_, ?_, ?_⟩ <;> rw [cell_of_row _ _ _ _ _ _ h] <;> rfl

theorem bl_step {w W W' : World} {o : Obj} (h : Below w.heap.size w W) (g : (W.alloc o).grownBy W' (some w.heap.size)) : Below w.heap.size w W' :=
  (h.alloc h.size o).grown g (by rw [World.size_alloc]; have := h.size; omega) (fun k hk => by cases hk; exact Nat.le_refl _)
theorem bl_step' {w W W' : World} (h : Below w.heap.size w W) (g : W.grownBy W' (some w.heap.size)) : Below w.heap.size w W' :=
  h.grown g h.size (fun k hk => by cases hk; exact Nat.le_refl _)

theorem body_cells {w : World} {a : Option Addr} {len : Nat} {l : List UInt8} (h : BytesAt w a len l) : ∀ ad, a = some ad → ∀ j u, (cellsOf l)[j]? = some u → w.cell? (ad.add j) = some u := by
  intro ad had j u hu
  obtain ⟨hl, _, hc⟩ := h
  have hj : j < l.length := by
    have := (List.getElem?_eq_some_iff.1 hu).1
    simpa [cellsOf] using this
  obtain ⟨b, off, e, hcell⟩ := hc (by omega)
  rw [e] at had
  cases had
  rw [Addr.add_lit, hcell j (by omega), ← cells_at l j hj]
  exact hu

set_option maxHeartbeats 2000000 in
theorem canon_any (w : World) (m t s n : ByteArray) (a : Option Addr) (len cap : Nat) (l : List UInt8) (h : BytesAt w a len l) (hnil : a = none → len = 0 ∧ cap = 0) (hT : m.size + t.size + s.size + n.size + len ≤ 1048576) :
    Calls Trym.prog 12 #[.string m, .string t, .string s, .string n, .slice a len cap] w fun e w' => ∃ L C, e = .returned (.slice (some ⟨w.heap.size, 0, none⟩) L C) ∧ L = (canon m t s n l).length ∧ L ≤ C ∧ C ≤ 2097152 ∧ BytesAt w' (some ⟨w.heap.size, 0, none⟩) L (canon m t s n l) ∧ Below w.heap.size w w' := by
  obtain ⟨i5, hi, hz0, hz1, hz2⟩ := info_parts info5
  go_enter Trym.func12, Trym.ntmps12
  go_wp2_with (at_make; go_must (refine wpList_make_own _ rfl _ _ 22 rfl w.heap.size 5 i5 (.int .u8 0) 1 Trym.underlying22 hi hz0 hz1 _ _ _ (m.size + t.size + s.size + n.size + 4 + len) rfl rfl (by omega) (by rw [hz2]; omega) (by unfold maxLen; omega) (Nat.le_refl _) ?_; intro W1 own1 gr1))
  have hW0 : W1.heap.size < (W1.alloc (.cells #[.string m, .string t, .string s, .string n] 9)).heap.size := by rw [World.size_alloc]; omega
  have hne : W1.heap.size ≠ w.heap.size := by
    have := (own1.lt w.heap.size rfl).2
    omega
  have own0 := own1.alloc (.cells #[.string m, .string t, .string s, .string n] 9)
  have F0 := four_new W1 m t s n
  have b0 : Below w.heap.size w (W1.alloc (.cells #[.string m, .string t, .string s, .string n] 9)) := ((Below.refl _ _).grown gr1 (Nat.le_refl _) (fun k hk => by cases hk)).alloc gr1.size _
  clear own1 gr1 hW0
  generalize W1.alloc (.cells #[.string m, .string t, .string s, .string n] 9) = W0 at *
  generalize W1.heap.size = bb at *
  refine wp_loop_rounds 5 ?_
  rw [rounds_succ]
  have c0 := F0.1
  go_wp2_with (first | (at_builtin; refine Lib.wpList_append_fits_string _ rfl (.tmp 40) (.tmp 41) 22 9 rfl w.heap.size 5 i5 Trym.underlying22 Trym.underlying9 hi hz1 _ _ _ _ rfl own0 m rfl (by omega) (by omega) ?_; intro W0a own0a gr0a; simp only [Nat.zero_add, List.nil_append] at own0a; have F0a := F0.kept gr0a hne) | (at_builtin; refine wpList_append_fits _ rfl (.tmp 43) (.tmp 44) 22 rfl w.heap.size 5 i5 1 Trym.underlying22 hi hz1 _ _ _ _ rfl (own0a.alloc _) ⟨W0a.heap.size, 0, none⟩ 1 1 [.int .u8 10] rfl rfl (cell_one_new _ _ _) (one_u8 _) (by omega) ?_; intro W1 own1 gr1))
  have F1 := (F0a.alloc _).kept gr1 hne
  have b1 := bl_step (bl_step' b0 gr0a) gr1
  clear own0 own0a gr0a gr1 b0 c0 F0 F0a
  rw [rounds_succ]
  have c1 := F1.2.1
  go_wp2_with (first | (at_builtin; refine Lib.wpList_append_fits_string _ rfl (.tmp 40) (.tmp 41) 22 9 rfl w.heap.size 5 i5 Trym.underlying22 Trym.underlying9 hi hz1 _ _ _ _ rfl own1 t rfl (by omega) (by omega) ?_; intro W1a own1a gr1a; have F1a := F1.kept gr1a hne) | (at_builtin; refine wpList_append_fits _ rfl (.tmp 43) (.tmp 44) 22 rfl w.heap.size 5 i5 1 Trym.underlying22 hi hz1 _ _ _ _ rfl (own1a.alloc _) ⟨W1a.heap.size, 0, none⟩ 1 1 [.int .u8 10] rfl rfl (cell_one_new _ _ _) (one_u8 _) (by omega) ?_; intro W2 own2 gr2))
  have F2 := (F1a.alloc _).kept gr2 hne
  have b2 := bl_step (bl_step' b1 gr1a) gr2
  clear own1 own1a gr1a gr2 b1 c1 F1 F1a
  rw [rounds_succ]
  have c2 := F2.2.2.1
  go_wp2_with (first | (at_builtin; refine Lib.wpList_append_fits_string _ rfl (.tmp 40) (.tmp 41) 22 9 rfl w.heap.size 5 i5 Trym.underlying22 Trym.underlying9 hi hz1 _ _ _ _ rfl own2 s rfl (by omega) (by omega) ?_; intro W2a own2a gr2a; have F2a := F2.kept gr2a hne) | (at_builtin; refine wpList_append_fits _ rfl (.tmp 43) (.tmp 44) 22 rfl w.heap.size 5 i5 1 Trym.underlying22 hi hz1 _ _ _ _ rfl (own2a.alloc _) ⟨W2a.heap.size, 0, none⟩ 1 1 [.int .u8 10] rfl rfl (cell_one_new _ _ _) (one_u8 _) (by omega) ?_; intro W3 own3 gr3))
  have F3 := (F2a.alloc _).kept gr3 hne
  have b3 := bl_step (bl_step' b2 gr2a) gr3
  clear own2 own2a gr2a gr3 b2 c2 F2 F2a
  rw [rounds_succ]
  have c3 := F3.2.2.2
  go_wp2_with (first | (at_builtin; refine Lib.wpList_append_fits_string _ rfl (.tmp 40) (.tmp 41) 22 9 rfl w.heap.size 5 i5 Trym.underlying22 Trym.underlying9 hi hz1 _ _ _ _ rfl own3 n rfl (by omega) (by omega) ?_; intro W3a own3a gr3a; have F3a := F3.kept gr3a hne) | (at_builtin; refine wpList_append_fits _ rfl (.tmp 43) (.tmp 44) 22 rfl w.heap.size 5 i5 1 Trym.underlying22 hi hz1 _ _ _ _ rfl (own3a.alloc _) ⟨W3a.heap.size, 0, none⟩ 1 1 [.int .u8 10] rfl rfl (cell_one_new _ _ _) (one_u8 _) (by omega) ?_; intro W4 own4 gr4))
  have F4 := (F3a.alloc _).kept gr4 hne
  have b4 := bl_step (bl_step' b3 gr3a) gr4
  clear own3 own3a gr3a gr4 b3 c3 F3 F3a
  rw [rounds_succ]
  clear F4
  have h4 := h.later b4
  have hl := h.1
  go_wp2_with (at_builtin; go_must (refine wpList_append_fits_any _ rfl (.tmp 47) (.tmp 48) 22 rfl w.heap.size 5 i5 1 Trym.underlying22 hi hz1 _ _ _ _ rfl own4 a len cap (cellsOf l) rfl (by rw [cellsOf, List.length_map, hl, Nat.mul_one]) hnil (body_cells h4) (cells_one l) (by omega) ?_; intro W5 own5 gr5))
  go_ret
  have hlen := canon_len m t s n l
  rw [hl] at hlen
  rw [cells_canon] at own5
  refine ⟨_, _, rfl, hlen.symm, by omega, by omega, ⟨hlen, by unfold maxLen; omega, fun h0 => ⟨w.heap.size, 0, rfl, fun i hi => ?_⟩⟩, bl_step' b4 gr5⟩
  rw [Nat.zero_add, own5.cellAt i (by omega)]
  exact cells_at _ i (by omega)
end Go.Proofs.Qxb6000785aMods.Can
