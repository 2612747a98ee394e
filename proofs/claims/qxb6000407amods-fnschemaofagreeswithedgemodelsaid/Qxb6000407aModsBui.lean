/-
  SEAT b6000407aM. The walk of build (19).
-/
import Derived.Test.Qxb6000407aModsTre
namespace Go.Proofs.Qxb6000407aMods.Sch
open Go.RowKit
set_option linter.unusedVariables false

theorem info37 : (Trym.prog.info? 37).map (fun i => (i.zero, i.size, i.bytes)) = some (some (.pointer none), 1, 8) := by kernel_rfl

/-- The slice of nodes: node i's pointer at place i, for i below m. -/
def RowTo (w : World) (g n m : Nat) (A : Nat → Nat) : Prop :=
  ∃ xs, w.ownsRow g 37 1 (.slice (some ⟨g, 0, none⟩) n n) n xs ∧ ∀ i, i < m → xs[i]? = some (.pointer (some ⟨A i, 0, none⟩))
theorem RowTo.cell {w : World} {g n m : Nat} {A : Nat → Nat} (h : RowTo w g n m A) (hm : m ≤ n) (i : Nat) (hi : i < m) : w.cell? ⟨g, i, none⟩ = some (.pointer (some ⟨A i, 0, none⟩)) := by
  obtain ⟨xs, h, hx⟩ := h
  rw [h.cellAt i (by omega)]
  exact hx i hi
theorem RowTo.kept {w w' : World} {g n m : Nat} {A : Nat → Nat} (h : RowTo w g n m A) (e : w'.heap[g]? = w.heap[g]?) : RowTo w' g n m A := by
  obtain ⟨xs, ⟨h1, h2⟩, hx⟩ := h
  refine ⟨xs, ⟨h1, ?_⟩, hx⟩
  rcases h2 with h2 | ⟨g', cap, cur, he, hb, hg, r⟩
  · exact .inl h2
  · cases he
    exact .inr ⟨g, n, cur, rfl, hb, e.trans hg, r⟩
/-- One more pointer is stored. -/
theorem RowTo.put {w : World} {g n m a : Nat} {A : Nat → Nat} (h : RowTo w g n m A) (hm : m < n) : RowTo (w.setCell ⟨g, m, none⟩ (.pointer (some ⟨a, 0, none⟩))) g n (m + 1) (upd A m a) := by
  obtain ⟨xs, h, hx⟩ := h
  have hl : xs.length = n := by simpa using h.1
  refine ⟨_, (h.stored m _).1, fun i hi => ?_⟩
  by_cases e : i = m
  · subst e
    rw [upd_same, List.getElem?_set_self (by omega)]
  · rw [upd_other _ _ e, List.getElem?_set_ne (Ne.symm e)]
    exact hx i (by omega)
theorem RowTo.there {w : World} {g n m : Nat} {A : Nat → Nat} (h : RowTo w g n m A) (i : Nat) (hi : i < n) : (∃ u, w.cell? ⟨g, i, none⟩ = some u) ∧ w.frozen? ⟨g, i, none⟩ = false := by
  obtain ⟨xs, h, hx⟩ := h
  exact ⟨own_cell h i (by omega), h.frozenAt i⟩
theorem RowTo.lt {w : World} {g n m : Nat} {A : Nat → Nat} (h : RowTo w g n m A) (hn : 0 < n) : g < w.heap.size := by
  obtain ⟨u, hu⟩ := (h.there 0 hn).1
  exact World.block_lt_of_cell? w _ hu

/-- The world behind the round's first two statements: a new node, its pointer in the slice. -/
theorem round_new {P K : Nat → Int} {N : Nat → ByteArray} {w wr : World} {len k : Nat} {A : Nat → Nat} {M : Nat → Option Nat} (hk : k < len) (R : RowTo wr w.heap.size (len + 1) (k + 1) A) (T : Tree P K N wr (w.heap.size + 1) (k + 1) k A M) (bl : Below w.heap.size w wr)
    {W1 : World} (hW : W1 = wr.alloc (.cells #[.map none, .pointer none, .bool false, .pointer none, .bool false, .bool false, .slice none 0 0, .bool false] 62)) :
    Below w.heap.size w W1 ∧ RowTo W1 w.heap.size (len + 1) (k + 1) A ∧ (∃ u, W1.cell? ⟨w.heap.size, k + 1, none⟩ = some u) ∧ W1.frozen? ⟨w.heap.size, k + 1, none⟩ = false ∧
    RowTo (W1.setCell ⟨w.heap.size, k + 1, none⟩ (.pointer (some ⟨wr.heap.size, 0, none⟩))) w.heap.size (len + 1) (k + 2) (upd A (k + 1) wr.heap.size) ∧
    Tree P K N (W1.setCell ⟨w.heap.size, k + 1, none⟩ (.pointer (some ⟨wr.heap.size, 0, none⟩))) (w.heap.size + 1) (k + 2) k (upd A (k + 1) wr.heap.size) (upd M (k + 1) none) ∧
    Below w.heap.size w (W1.setCell ⟨w.heap.size, k + 1, none⟩ (.pointer (some ⟨wr.heap.size, 0, none⟩))) ∧
    w.heap.size + 1 ≤ (W1.setCell ⟨w.heap.size, k + 1, none⟩ (.pointer (some ⟨wr.heap.size, 0, none⟩))).heap.size := by
  have hg := R.lt (by omega)
  have R1 : RowTo W1 w.heap.size (len + 1) (k + 1) A := by rw [hW]; exact R.kept (Below.heap_alloc wr _ _ hg)
  have T1 : Tree P K N W1 (w.heap.size + 1) (k + 2) k (upd A (k + 1) wr.heap.size) (upd M (k + 1) none) := by rw [hW]; exact T.alloc (by omega) (by omega)
  have bl1 : Below w.heap.size w W1 := by rw [hW]; exact bl.alloc bl.size _
  refine ⟨bl1, R1, (R1.there (k + 1) (by omega)).1, (R1.there (k + 1) (by omega)).2, R1.put (by omega), T1.kept (fun b hb _ => heap_setCell_other W1 _ b _ (by show b ≠ w.heap.size; omega)), bl1.setCell (Nat.le_refl _) _, ?_⟩
  rw [World.size_setCell, hW, World.size_alloc]
  omega

/-- The first node. -/
theorem first_new {P K : Nat → Int} {N : Nat → ByteArray} {w W1 : World} {n : Nat} {xs : List Value} (hn : 0 < n) (own : W1.ownsRow w.heap.size 37 1 (.slice (some ⟨w.heap.size, 0, none⟩) n n) n xs) (bl : Below w.heap.size w W1)
    {W2 : World} (hW : W2 = W1.alloc (.cells #[.map none, .pointer none, .bool false, .pointer none, .bool false, .bool false, .slice none 0 0, .bool false] 62)) :
    (∃ u, W2.cell? ⟨w.heap.size, 0, none⟩ = some u) ∧ W2.frozen? ⟨w.heap.size, 0, none⟩ = false ∧
    RowTo (W2.setCell ⟨w.heap.size, 0, none⟩ (.pointer (some ⟨W1.heap.size, 0, none⟩))) w.heap.size n 1 (fun _ => W1.heap.size) ∧
    Tree P K N (W2.setCell ⟨w.heap.size, 0, none⟩ (.pointer (some ⟨W1.heap.size, 0, none⟩))) (w.heap.size + 1) 1 0 (fun _ => W1.heap.size) (fun _ => none) ∧
    Below w.heap.size w (W2.setCell ⟨w.heap.size, 0, none⟩ (.pointer (some ⟨W1.heap.size, 0, none⟩))) := by
  have hg : w.heap.size < W1.heap.size := (own.lt w.heap.size rfl).2
  have own2 : W2.ownsRow w.heap.size 37 1 (.slice (some ⟨w.heap.size, 0, none⟩) n n) n xs := by rw [hW]; exact own.alloc _
  have hl : xs.length = n := by simpa using own.1
  have bl2 : Below w.heap.size w W2 := by rw [hW]; exact bl.alloc bl.size _
  have nd : NodeAt W2 W1.heap.size none none none := by rw [hW]; exact ⟨false, heap_alloc_new W1 _⟩
  have e : (W2.setCell ⟨w.heap.size, 0, none⟩ (.pointer (some ⟨W1.heap.size, 0, none⟩))).heap[W1.heap.size]? = W2.heap[W1.heap.size]? := heap_setCell_other W2 _ _ _ (by show W1.heap.size ≠ w.heap.size; omega)
  refine ⟨own_cell own2 0 (by omega), own2.frozenAt 0, ⟨_, (own2.stored 0 _).1, fun i hi => ?_⟩, ⟨fun i hi => nd.kept e, fun i hi => .inl ⟨rfl, fun s => rfl⟩, fun i j hi hj _ => (by omega), fun i j mb _ _ h => (by cases h), fun i hi => ⟨by omega, fun mb h => (by cases h)⟩⟩, bl2.setCell (Nat.le_refl _) _⟩
  obtain rfl : i = 0 := by omega
  exact List.getElem?_set_self (by omega)

section
variable {P K : Nat → Int} {N : Nat → ByteArray} {w W2 w' : World} {len k p : Nat} {A : Nat → Nat} {M : Nat → Option Nat}

theorem close_items (hlt : k < len) (hpk : p < k + 1) (hpar : par (P k) k = (p : Int)) (hk : K k % 3 = 1) (R : RowTo W2 w.heap.size (len + 1) (k + 2) A) (T : Tree P K N W2 (w.heap.size + 1) (k + 2) k A M) (bl : Below w.heap.size w W2) (hsz : w.heap.size + 1 ≤ W2.heap.size)
    (h : NodeAt w' (A p) (M p) (ptr A (last P K N k p 2 ByteArray.empty)) (some ⟨A (k + 1), 0, none⟩)) (hg : W2.grownBy w' (some (A p))) :
    ∃ A' M', RowTo w' w.heap.size (len + 1) (k + 2) A' ∧ Tree P K N w' (w.heap.size + 1) (k + 2) (k + 1) A' M' ∧ Below w.heap.size w w' := by
  obtain ⟨M', T'⟩ := T.items (by omega) hpar hk hsz h hg
  have hlow := (T.low p (by omega)).1
  exact ⟨A, M', R.kept (hg.block _ (by omega) (by intro e; have := Option.some.inj e; omega)), T', bl.grown hg bl.size (fun j hj => by have := Option.some.inj hj; omega)⟩

theorem close_values (hlt : k < len) (hpk : p < k + 1) (hpar : par (P k) k = (p : Int)) (hk : K k % 3 = 2) (R : RowTo W2 w.heap.size (len + 1) (k + 2) A) (T : Tree P K N W2 (w.heap.size + 1) (k + 2) k A M) (bl : Below w.heap.size w W2) (hsz : w.heap.size + 1 ≤ W2.heap.size)
    (h : NodeAt w' (A p) (M p) (some ⟨A (k + 1), 0, none⟩) (ptr A (last P K N k p 1 ByteArray.empty))) (hg : W2.grownBy w' (some (A p))) :
    ∃ A' M', RowTo w' w.heap.size (len + 1) (k + 2) A' ∧ Tree P K N w' (w.heap.size + 1) (k + 2) (k + 1) A' M' ∧ Below w.heap.size w w' := by
  obtain ⟨M', T'⟩ := T.values (by omega) hpar hk hsz h hg
  have hlow := (T.low p (by omega)).1
  exact ⟨A, M', R.kept (hg.block _ (by omega) (by intro e; have := Option.some.inj e; omega)), T', bl.grown hg bl.size (fun j hj => by have := Option.some.inj hj; omega)⟩

theorem close_field {mb : Nat} (hlt : k < len) (hpk : p < k + 1) (hpar : par (P k) k = (p : Int)) (hk : K k % 3 = 0) (R : RowTo W2 w.heap.size (len + 1) (k + 2) A) (T : Tree P K N W2 (w.heap.size + 1) (k + 2) k A M) (bl : Below w.heap.size w W2) (hsz : w.heap.size + 1 ≤ W2.heap.size)
    (h : NodeAt w' (A p) (some mb) (ptr A (last P K N k p 2 ByteArray.empty)) (ptr A (last P K N k p 1 ByteArray.empty)))
    (ho : ownsPtrs w' mb (k + 1) (putName (fun s => ptr A (last P K N k p 0 s)) (N k) (some ⟨A (k + 1), 0, none⟩))) (hm : M p = some mb ∨ W2.heap.size ≤ mb)
    (h1 : w'.os = W2.os) (h2 : w'.tape = W2.tape) (h3 : w'.output = W2.output) (h4 : W2.heap.size ≤ w'.heap.size) (hg : ∀ b, b < W2.heap.size → b ≠ A p → M p ≠ some b → w'.heap[b]? = W2.heap[b]?) :
    ∃ A' M', RowTo w' w.heap.size (len + 1) (k + 2) A' ∧ Tree P K N w' (w.heap.size + 1) (k + 2) (k + 1) A' M' ∧ Below w.heap.size w w' := by
  obtain ⟨M', T'⟩ := T.field (by omega) hpar hk hsz h ho hm hg
  have hlow := T.low p (by omega)
  have old : ∀ b, b ≤ w.heap.size → w'.heap[b]? = W2.heap[b]? := fun b hb => hg b (by omega) (by omega) (fun e => by have := hlow.2 b e; omega)
  exact ⟨A, M', R.kept (old _ (Nat.le_refl _)), T', bl.trans ⟨h1, h2, h3, h4, fun b hb => old b (by omega)⟩⟩
end

set_option maxHeartbeats 2000000 in
theorem build_any (w : World) (a : Option Addr) (len cap : Nat) (P K : Nat → Int) (N : Nat → ByteArray) (h : EdgesAt w a len P K N) (h4 : len ≤ 4096) :
    Calls Trym.prog 19 #[.slice a len cap] w fun e w' => ∃ A M, e = .returned (.slice (some ⟨w.heap.size, 0, none⟩) (len + 1) (len + 1)) ∧ RowTo w' w.heap.size (len + 1) (len + 1) A ∧ Tree P K N w' (w.heap.size + 1) (len + 1) len A M ∧ Below w.heap.size w w' := by
  obtain ⟨i9, hi, hz0, hz1, hz2⟩ := info_parts info37
  go_enter Trym.func19, Trym.ntmps19
  go_wp2_with (first | (at_make; go_must (refine wpList_make_full _ rfl _ _ 35 rfl w.heap.size 37 i9 (.pointer none) 1 Trym.underlying35 hi hz0 hz1 _ _ _ _ (len + 1) rfl rfl (by omega) (by omega) (by rw [hz2]; omega) (by unfold maxLen; omega) (Nat.le_refl _) ?_; intro W1 own1 gr1; have bl1 : Below w.heap.size w W1 := (Below.refl _ _).grown gr1 (Nat.le_refl _) (fun k hk => by cases hk))) | (go_at_call 25; go_must (refine (new_node _).mono ?_; rintro e W2 ⟨rfl, hW2⟩; obtain ⟨⟨u, hu⟩, hf, R0, T0, bl2⟩ := first_new (P := P) (K := K) (N := N) (n := len + 1) (by omega) own1 bl1 hW2; have HR : Hid _ := R0; have HT : Hid _ := T0; have HB : Hid _ := bl2; clear own1 gr1 bl1 hW2 R0 T0 bl2)))
  clear hi hz0 hz1 hz2
  go_loopw [4] (fun i wr => ∃ (k : Nat) (A : Nat → Nat) (M : Nat → Option Nat), k ≤ len ∧ i = .int .i64 k ∧ Hid (RowTo wr w.heap.size (len + 1) (k + 1) A) ∧ Hid (Tree P K N wr (w.heap.size + 1) (k + 1) k A M) ∧ Below w.heap.size w wr) (fun i _ => len - (intOf i).toNat)
  case atStart => exact ⟨0, _, _, Nat.zero_le _, rfl, HR, HT, HB.out⟩
  case round =>
    clear HR HT HB hu hf
    obtain ⟨k, A, M, hk, rfl, R, T, bl⟩ := hrel
    by_cases hlt : k < len
    · obtain ⟨b, off, hab, hcell⟩ := h.2.2 (by omega)
      obtain ⟨⟨hp0, hp1⟩, ⟨hk0, hk1⟩, hs⟩ := h.2.1 k hlt
      obtain ⟨c1, c2, c3⟩ := hcell k hlt
      have hblt : b < w.heap.size := World.block_lt_of_cell? w _ c1
      have hbne : b ≠ w.heap.size := Nat.ne_of_lt hblt
      have hpb := par_bd (p := P k) (i := k) (by omega)
      obtain ⟨p, hpar⟩ := Int.eq_ofNat_of_zero_le hpb.1
      have hpk : p < k + 1 := by omega
      have hne : p ≠ k + 1 := by omega
      have HPar : Hid _ := hpar
      have i1 : (k : Int) < (len : Int) := by omega
      clear hcell h hpb
      subst hab
      rcases (show K k % 3 = 0 ∨ K k % 3 = 1 ∨ K k % 3 = 2 by omega) with hkd | hkd | hkd
      · have HK : Hid _ := hkd
        go_wp2_with (first | (go_at_call 25; go_must (refine (new_node _).mono ?_; rintro e W1 ⟨rfl, hW1⟩; obtain ⟨bl1, R1, ⟨u, hu⟩, hf, R2, T2, bl2, hsz2⟩ := round_new hlt R.out T.out bl hW1; have d1 := (bl1.cell hblt).trans c1; have d2 := (bl1.cell hblt).trans c2; have d3 := (bl1.cell hblt).trans c3; have n1 := R1.cell (by omega) p hpk; have nd := T2.node p (by omega); have pr := T2.props p (by omega); rw [upd_other A _ (Nat.ne_of_lt hpk)] at nd; have HR : Hid _ := R2; have HT : Hid _ := T2; have HB : Hid _ := bl2; have HZ : Hid _ := hsz2; have HND : Hid _ := nd; have HPR : Hid _ := pr; clear R1 R2 T2 bl1 bl2 hsz2 hW1 nd pr)) | (go_at_call 26; go_must (refine (parent_any _ _ _ (by omega) (by omega) hp0 hp1).mono ?_; rintro e w' ⟨rfl, hw⟩; have hw := hw.symm; subst hw)) | (go_at_call 27; go_must (refine (kind_any _ _).mono ?_; rintro e w' ⟨rfl, hw⟩; have hw := hw.symm; subst hw)) | (go_at_call 28; go_must (refine (declare_any _ _ k _ _ _ _ _ _ HND.out HPR.out (by unfold maxLen; omega) hs).mono ?_; rintro e W3 ⟨rfl, mb, h1, h2, h3, h4, h5, h6, h7, h8⟩; have fin : Hid _ := close_field (N := N) hlt hpk HPar.out HK.out HR.out HT.out HB.out HZ.out (by rw [upd_other A _ (Nat.ne_of_lt hpk)]; exact h1) (by rw [upd_same]; exact h2) h3 h4 h5 h6 h7 (by rw [upd_other A _ (Nat.ne_of_lt hpk)]; exact h8); clear h1 h2 h3 h4 h5 h6 h7 h8)))
        obtain ⟨A', M', r1, r2, r3⟩ := fin.out
        go_roundw
        case rel => exact ⟨k + 1, A', M', by omega, by go_num, r1, r2, r3⟩
        case measure => simp [intOf]; omega
      · have HK : Hid _ := hkd
        go_wp2_with (first | (go_at_call 25; go_must (refine (new_node _).mono ?_; rintro e W1 ⟨rfl, hW1⟩; obtain ⟨bl1, R1, ⟨u, hu⟩, hf, R2, T2, bl2, hsz2⟩ := round_new hlt R.out T.out bl hW1; have d1 := (bl1.cell hblt).trans c1; have d2 := (bl1.cell hblt).trans c2; have d3 := (bl1.cell hblt).trans c3; have n1 := R1.cell (by omega) p hpk; have nd := T2.node p (by omega); have pr := T2.props p (by omega); rw [upd_other A _ (Nat.ne_of_lt hpk)] at nd; have HR : Hid _ := R2; have HT : Hid _ := T2; have HB : Hid _ := bl2; have HZ : Hid _ := hsz2; have HND : Hid _ := nd; have HPR : Hid _ := pr; clear R1 R2 T2 bl1 bl2 hsz2 hW1 nd pr)) | (go_at_call 26; go_must (refine (parent_any _ _ _ (by omega) (by omega) hp0 hp1).mono ?_; rintro e w' ⟨rfl, hw⟩; have hw := hw.symm; subst hw)) | (go_at_call 27; go_must (refine (kind_any _ _).mono ?_; rintro e w' ⟨rfl, hw⟩; have hw := hw.symm; subst hw)) | (go_at_call 29; go_must (refine (set_items _ _ _ _ _ _ HND.out).mono ?_; rintro e W3 ⟨rfl, h1, h2⟩; have fin : Hid _ := close_items hlt hpk HPar.out HK.out HR.out HT.out HB.out HZ.out (by rw [upd_other A _ (Nat.ne_of_lt hpk), upd_same]; exact h1) (by rw [upd_other A _ (Nat.ne_of_lt hpk)]; exact h2); clear h1 h2)))
        obtain ⟨A', M', r1, r2, r3⟩ := fin.out
        go_roundw
        case rel => exact ⟨k + 1, A', M', by omega, by go_num, r1, r2, r3⟩
        case measure => simp [intOf]; omega
      · have HK : Hid _ := hkd
        go_wp2_with (first | (go_at_call 25; go_must (refine (new_node _).mono ?_; rintro e W1 ⟨rfl, hW1⟩; obtain ⟨bl1, R1, ⟨u, hu⟩, hf, R2, T2, bl2, hsz2⟩ := round_new hlt R.out T.out bl hW1; have d1 := (bl1.cell hblt).trans c1; have d2 := (bl1.cell hblt).trans c2; have d3 := (bl1.cell hblt).trans c3; have n1 := R1.cell (by omega) p hpk; have nd := T2.node p (by omega); have pr := T2.props p (by omega); rw [upd_other A _ (Nat.ne_of_lt hpk)] at nd; have HR : Hid _ := R2; have HT : Hid _ := T2; have HB : Hid _ := bl2; have HZ : Hid _ := hsz2; have HND : Hid _ := nd; have HPR : Hid _ := pr; clear R1 R2 T2 bl1 bl2 hsz2 hW1 nd pr)) | (go_at_call 26; go_must (refine (parent_any _ _ _ (by omega) (by omega) hp0 hp1).mono ?_; rintro e w' ⟨rfl, hw⟩; have hw := hw.symm; subst hw)) | (go_at_call 27; go_must (refine (kind_any _ _).mono ?_; rintro e w' ⟨rfl, hw⟩; have hw := hw.symm; subst hw)) | (go_at_call 30; go_must (refine (set_additional _ _ _ _ _ _ HND.out).mono ?_; rintro e W3 ⟨rfl, h1, h2⟩; have fin : Hid _ := close_values hlt hpk HPar.out HK.out HR.out HT.out HB.out HZ.out (by rw [upd_other A _ (Nat.ne_of_lt hpk), upd_same]; exact h1) (by rw [upd_other A _ (Nat.ne_of_lt hpk)]; exact h2); clear h1 h2)))
        obtain ⟨A', M', r1, r2, r3⟩ := fin.out
        go_roundw
        case rel => exact ⟨k + 1, A', M', by omega, by go_num, r1, r2, r3⟩
        case measure => simp [intOf]; omega
    · have e : k = len := by omega
      subst e
      go_wp2
      go_ret
      exact ⟨A, M, rfl, R.out, T.out, bl⟩
end Go.Proofs.Qxb6000407aMods.Sch
