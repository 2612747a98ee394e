/-
  SEAT b6000990aM. A place in a JSON text, in memory: a struct of 57 cells, taken as one row; laws for its making, its storing and its loading.
-/
import Derived.Test.Qxb6000990aModsRows
import Derived.WalkKit
import Derived.ProofKit
import Derived.OpenShut
import Derived.WalkLawsBesides
import Derived.WalkSpells
import Derived.PlainAid
import Derived.Laws.AppendOwn
import Derived.Deep.MidRow
namespace Go.Proofs.Qxb6000990aMods.Jsn
open Go.RowKit Go.PlainAid
set_option linter.unusedVariables false

/-- The zero value's cells. -/
def zeros : Array Value := #[.int .i64 0, .bool false, .bool false, .bool false] ++ Array.replicate 50 (.int .u8 0) ++ #[.int .i64 0, .bool false, .bool false]
/-- A place's cells: its depth, whether names name items, whether items come next. -/
def place (d : Int) (nm nx : Bool) : Array Value := ((zeros.setIfInBounds 0 (.int .i64 d)).setIfInBounds 55 (.bool nm)).setIfInBounds 56 (.bool nx)

theorem run_alloc26 (w : World) : (Instr.alloc 26 true (.tuple #[])).run Trym.prog w = .ok (.pointer (some ⟨w.heap.size, 0, none⟩)) (w.alloc (.cells zeros 26)) := by kernel_rfl
theorem run_build26 (d : Int) (nm nx : Bool) (w : World) : (Instr.build 26 #[(0, .int .i64 d), (5, .bool nm), (6, .bool nx)]).run Trym.prog w = .ok (.agg (place d nm nx)) w := by kernel_rfl
theorem size26 : (Trym.prog.info? 26).map (·.size) = some 57 := by kernel_rfl
theorem zeros_size : zeros.size = 57 := by kernel_rfl
theorem place_size (d : Int) (nm nx : Bool) : (place d nm nx).size = 57 := by kernel_rfl
theorem place_one (d : Int) (nm nx : Bool) : (place d nm nx).all (·.oneCell') = true := by kernel_rfl
theorem place_0 (d : Int) (nm nx : Bool) : (place d nm nx)[0]? = some (.int .i64 d) := by kernel_rfl
theorem place_55 (d : Int) (nm nx : Bool) : (place d nm nx)[55]? = some (.bool nm) := by kernel_rfl
theorem place_56 (d : Int) (nm nx : Bool) : (place d nm nx)[56]? = some (.bool nx) := by kernel_rfl

theorem run_store26 {w : World} {b : Nat} {zs cs : Array Value} (hb : w.heap[b]? = some (.cells zs 26 (0, 0))) (hz : zs.size = 57) (hc : cs.size = 57) (h1 : cs.all (·.oneCell') = true) :
    (Instr.storeAt 26 (.pointer (some ⟨b, 0, none⟩)) (.agg cs)).run Trym.prog w = .ok () (w.setRow b cs) := by
  have hst := run_storeCells_at Trym.prog b 0 26 cs.toList 0 zs w hb (by simp [hz, hc]) (fun v hv => (Array.all_eq_true_iff_forall_mem.1 h1) v (by simpa using hv))
  have e : (zs.toList.take (0 + 0) ++ cs.toList ++ zs.toList.drop (0 + 0 + cs.toList.length)).toArray = cs := by
    rw [List.drop_eq_nil_of_le (by simp [hz, hc])]
    simp
  rw [e] at hst
  cases hq : Trym.prog.info? 26 with
  | none => have := size26; rw [hq] at this; cases this
  | some i =>
    have hs : i.size = 57 := by have := size26; rw [hq] at this; simpa using this
    simp only [Instr.storeAt, Instr.sureAddr, Sem.run_bind, Sem.run_pure, Result.andThen_ok]
    simp [storeVar, sizeOf, typeInfo, hq, Value.cells, hs, hc, hst]

section
variable {ops : Array Oper} {rest : List Oper} {o : Oper} {a : Act} {w : World} {Q : Exit → Act → World → Prop}

theorem wpList_alloc26 (hgd : o.guard = none) (ho : o.op = .alloc 26)
    (h : ∀ w', w'.heap[w.heap.size]? = some (.cells zeros 26 (0, 0)) → w.grownBy w' none → wpList Trym.prog ops Q rest (a.put o.dst (.pointer (some ⟨w.heap.size, 0, none⟩))) w') : wpList Trym.prog ops Q (o :: rest) a w :=
  wpList_plain hgd fun K hK => by
    unfold Oper.wp execOp
    simp only [ho, Sem.run_bind, run_alloc26, Result.andThen_ok, Sem.run_pure]
    exact hK _ _ (h _ (heap_alloc_new w _) (World.grownBy_alloc w _ none))

theorem wpList_build26 (hgd : o.guard = none) (x0 x1 x2 : Operand) (ho : o.op = .build 26 #[(0, x0), (5, x1), (6, x2)]) (d : Int) (nm nx : Bool) (h0 : a.eval x0 = .int .i64 d) (h1 : a.eval x1 = .bool nm) (h2 : a.eval x2 = .bool nx)
    (h : wpList Trym.prog ops Q rest (a.put o.dst (.agg (place d nm nx))) w) : wpList Trym.prog ops Q (o :: rest) a w :=
  wpList_plain hgd fun K hK => by
    unfold Oper.wp execOp
    simp only [ho, List.map_toArray, List.map_cons, List.map_nil, h0, h1, h2, Sem.run_bind, run_build26, Result.andThen_ok, Sem.run_pure]
    exact hK _ _ h

theorem wpList_store26 (hgd : o.guard = none) (x y : Operand) (ho : o.op = .store 26 x y) (b : Nat) (zs cs : Array Value) (hx : a.eval x = .pointer (some ⟨b, 0, none⟩)) (hy : a.eval y = .agg cs) (hb : w.heap[b]? = some (.cells zs 26 (0, 0))) (hz : zs.size = 57) (hc : cs.size = 57) (h1 : cs.all (·.oneCell') = true)
    (h : ∀ w', w'.heap[b]? = some (.cells cs 26 (0, 0)) → w.grownBy w' (some b) → wpList Trym.prog ops Q rest (a.put o.dst undef) w') : wpList Trym.prog ops Q (o :: rest) a w :=
  wpList_plain hgd fun K hK => by
    unfold Oper.wp execOp
    simp only [ho, hx, hy, Sem.run_bind, run_store26 hb hz hc h1, Result.andThen_ok, Sem.run_pure]
    exact hK _ _ (h _ (setRow_heap w b zs cs 26 _ hb) ⟨rfl, rfl, rfl, by simp, fun k _ hk => setRow_other w b k _ (fun e => hk (by rw [e]))⟩)

theorem wpList_load26 (hgd : o.guard = none) (x : Operand) (ho : o.op = .load 26 x) (b : Nat) (cs : Array Value) (hx : a.eval x = .pointer (some ⟨b, 0, none⟩)) (hb : w.heap[b]? = some (.cells cs 26 (0, 0))) (hc : cs.size = 57)
    (h : wpList Trym.prog ops Q rest (a.put o.dst (.agg cs)) w) : wpList Trym.prog ops Q (o :: rest) a w :=
  wpList_load_row hgd 26 x ho b hx 26 cs (0, 0) _ hb Trym.underlying26 rfl (by rw [hc]; exact size26) h
end

/-- Block b is a place. -/
def PlaceAt (w : World) (b : Nat) (d : Int) (nm nx : Bool) : Prop :=
  ∃ cs : Array Value, w.heap[b]? = some (.cells cs 26 (0, 0)) ∧ cs.size = 57 ∧ cs.all (·.oneCell') = true ∧ cs[0]? = some (.int .i64 d) ∧ cs[55]? = some (.bool nm) ∧ cs[56]? = some (.bool nx)

theorem placeAt_new {w : World} {b : Nat} {d : Int} {nm nx : Bool} (h : w.heap[b]? = some (.cells (place d nm nx) 26 (0, 0))) : PlaceAt w b d nm nx :=
  ⟨_, h, place_size d nm nx, place_one d nm nx, place_0 d nm nx, place_55 d nm nx, place_56 d nm nx⟩
theorem PlaceAt.kept {w w' : World} {b : Nat} {d : Int} {nm nx : Bool} (h : PlaceAt w b d nm nx) (e : w'.heap[b]? = w.heap[b]?) : PlaceAt w' b d nm nx := by
  obtain ⟨cs, hb, r⟩ := h
  exact ⟨cs, e.trans hb, r⟩
theorem PlaceAt.lt {w : World} {b : Nat} {d : Int} {nm nx : Bool} (h : PlaceAt w b d nm nx) : b < w.heap.size := by
  obtain ⟨cs, hb, r⟩ := h
  exact (Array.getElem?_eq_some_iff.1 hb).1
theorem PlaceAt.cells {w : World} {b : Nat} {d : Int} {nm nx : Bool} (h : PlaceAt w b d nm nx) :
    w.cell? ⟨b, 0, none⟩ = some (.int .i64 d) ∧ w.cell? ⟨b, 55, none⟩ = some (.bool nm) ∧ w.cell? ⟨b, 56, none⟩ = some (.bool nx) := by
  obtain ⟨cs, hb, _, _, h0, h1, h2⟩ := h
  exact ⟨(cell_of_row w b _ _ _ _ hb).trans h0, (cell_of_row w b _ _ _ _ hb).trans h1, (cell_of_row w b _ _ _ _ hb).trans h2⟩
theorem PlaceAt.free {w : World} {b : Nat} {d : Int} {nm nx : Bool} (h : PlaceAt w b d nm nx) (j : Nat) : w.frozen? ⟨b, j, none⟩ = false := by
  obtain ⟨cs, hb, _⟩ := h
  exact frozen_of_row w b j _ _ hb
theorem one_set {cs : Array Value} (h : cs.all (·.oneCell') = true) (i : Nat) (v : Value) (hv : v.oneCell' = true) : (cs.setIfInBounds i v).all (·.oneCell') = true := by
  rw [Array.all_eq_true_iff_forall_mem] at *
  intro x hx
  rcases Array.mem_or_eq_of_mem_setIfInBounds hx with hx | rfl
  · exact h x hx
  · exact hv
theorem PlaceAt.setDepth {w : World} {b : Nat} {d : Int} {nm nx : Bool} (h : PlaceAt w b d nm nx) (d' : Int) : PlaceAt (w.setCell ⟨b, 0, none⟩ (.int .i64 d')) b d' nm nx := by
  obtain ⟨cs, hb, hs, h1, h0, h55, h56⟩ := h
  refine ⟨_, heap_setCell_same w b 0 cs 26 _ hb, by simpa using hs, one_set h1 _ _ rfl, ?_, ?_, ?_⟩
  · simp [hs]
  · rw [Array.getElem?_setIfInBounds_ne (by omega)]; exact h55
  · rw [Array.getElem?_setIfInBounds_ne (by omega)]; exact h56
theorem PlaceAt.setNext {w : World} {b : Nat} {d : Int} {nm nx : Bool} (h : PlaceAt w b d nm nx) (nx' : Bool) : PlaceAt (w.setCell ⟨b, 56, none⟩ (.bool nx')) b d nm nx' := by
  obtain ⟨cs, hb, hs, h1, h0, h55, h56⟩ := h
  refine ⟨_, heap_setCell_same w b 56 cs 26 _ hb, by simpa using hs, one_set h1 _ _ rfl, ?_, ?_, ?_⟩
  · rw [Array.getElem?_setIfInBounds_ne (by omega)]; exact h0
  · rw [Array.getElem?_setIfInBounds_ne (by omega)]; exact h55
  · simp [hs]
theorem grown_setCell (w : World) (b j : Nat) (u : Value) : w.grownBy (w.setCell ⟨b, j, none⟩ u) (some b) :=
  ⟨rfl, rfl, rfl, by rw [World.size_setCell]; exact Nat.le_refl _, fun k _ hk => heap_setCell_other w _ k u (fun e => hk (by rw [e]))⟩

set_option maxHeartbeats 400000 in
theorem new_any (w : World) (d : Int) (nm nx : Bool) :
    Calls Trym.prog 12 #[.int .i64 d, .bool nm, .bool nx] w fun e w' => e = .returned (.agg (place d nm nx)) ∧ Below w.heap.size w w' := by
  go_enter Trym.func12, Trym.ntmps12
  go_wp2_with (first | (refine wpList_alloc26 (by rfl) (by rfl) ?_; intro W1 hW1 gr1) | (refine wpList_build26 (by rfl) (.tmp 7) (.tmp 8) (.tmp 9) (by rfl) d nm nx (by rfl) (by rfl) (by rfl) ?_) | (refine wpList_store26 (by rfl) (.tmp 6) (.tmp 10) (by rfl) _ _ _ (by rfl) (by rfl) hW1 zeros_size (place_size d nm nx) (place_one d nm nx) ?_; intro W2 hW2 gr2))
  refine bodyPost_ret (v := .agg (place d nm nx)) (results_cell_row (P := Trym.prog) Trym.results12 _ W2 w.heap.size 26 (place d nm nx) (0, 0) _ rfl hW2 Trym.underlying26 rfl (by rw [place_size]; exact size26)) rfl ⟨rfl, ?_⟩
  exact ((Below.refl _ _).grown gr1 (Nat.le_refl _) (fun k hk => by cases hk)).grown gr2 gr1.size (fun k hk => by cases hk; exact Nat.le_refl _)

theorem depth_any (w : World) (b : Nat) (d : Int) (nm nx : Bool) (h : PlaceAt w b d nm nx) :
    Calls Trym.prog 14 #[.pointer (some ⟨b, 0, none⟩)] w fun e w' => e = .returned (.int .i64 d) ∧ w' = w := by
  obtain ⟨c0, c55, c56⟩ := h.cells
  go_enter Trym.func14, Trym.ntmps14
  go_wp2
  go_ret
  exact ⟨rfl, rfl⟩

/-! ### What 'next' does, in plain words -/
/-- The depth behind the byte c. -/
def dep (d c : Int) : Int := if c = 123 ∨ c = 91 then wrap64 (d + 1) else if c = 125 ∨ c = 93 then wrap64 (d - 1) else d
/-- Do items come next? -/
def nxt (d : Int) (nm : Bool) (c : Int) : Bool := (c == 58) && (d == 1) && nm
/-- What the byte behind c starts. -/
def mov (d : Int) (nx inI : Bool) (c : Int) : Int :=
  if c = 123 then 0
  else if c = 91 then (if nx = true then 1 else 0)
  else if c = 125 ∨ c = 93 then (if wrap64 (d - 1) = 0 then 2 else if wrap64 (d - 1) = 1 ∧ inI = true then 3 else 0)
  else if c = 44 then (if d = 2 ∧ inI = true then 1 else 0)
  else 0

/-- The end of a call of 'next'. -/
def Moved (w w' : World) (b : Nat) (d : Int) (nm nx : Bool) : Prop := PlaceAt w' b d nm nx ∧ w.grownBy w' (some b)

theorem ret_int {k : IntKind} {a b : Int} (h : a = b) : Ending.returned (.int k a) = .returned (.int k b) := by rw [h]

set_option maxHeartbeats 400000 in
theorem next_brace (w : World) (b : Nat) (d : Int) (nm nx inI : Bool) (h : PlaceAt w b d nm nx) :
    Calls Trym.prog 20 #[.pointer (some ⟨b, 0, none⟩), .int .u8 123, .bool inI] w fun e w' => e = .returned (.int .i64 0) ∧ Moved w w' b (wrap64 (d + 1)) nm false := by
  obtain ⟨c0, c55, c56⟩ := h.cells
  have f0 := h.free 0
  have f56 := h.free 56
  have fin : Hid (Moved w ((w.setCell ⟨b, 56, none⟩ (.bool false)).setCell ⟨b, 0, none⟩ (.int .i64 (wrap64 (d + 1)))) b (wrap64 (d + 1)) nm false) := ⟨(h.setNext false).setDepth _, (grown_setCell _ _ _ _).trans (grown_setCell _ _ _ _)⟩
  clear h
  cases nx
  all_goals
    go_enter Trym.func20, Trym.ntmps20
    go_wp2
    go_ret
    exact ⟨rfl, fin.out⟩

set_option maxHeartbeats 400000 in
theorem next_list_yes (w : World) (b : Nat) (d : Int) (nm inI : Bool) (h : PlaceAt w b d nm true) :
    Calls Trym.prog 20 #[.pointer (some ⟨b, 0, none⟩), .int .u8 91, .bool inI] w fun e w' => e = .returned (.int .i64 1) ∧ Moved w w' b (wrap64 (d + 1)) nm false := by
  obtain ⟨c0, c55, c56⟩ := h.cells
  have f0 := h.free 0
  have f56 := h.free 56
  have fin : Hid (Moved w ((w.setCell ⟨b, 56, none⟩ (.bool false)).setCell ⟨b, 0, none⟩ (.int .i64 (wrap64 (d + 1)))) b (wrap64 (d + 1)) nm false) := ⟨(h.setNext false).setDepth _, (grown_setCell _ _ _ _).trans (grown_setCell _ _ _ _)⟩
  clear h
  go_enter Trym.func20, Trym.ntmps20
  go_wp2
  go_ret
  exact ⟨rfl, fin.out⟩

set_option maxHeartbeats 400000 in
theorem next_list_no (w : World) (b : Nat) (d : Int) (nm inI : Bool) (h : PlaceAt w b d nm false) :
    Calls Trym.prog 20 #[.pointer (some ⟨b, 0, none⟩), .int .u8 91, .bool inI] w fun e w' => e = .returned (.int .i64 0) ∧ Moved w w' b (wrap64 (d + 1)) nm false := by
  obtain ⟨c0, c55, c56⟩ := h.cells
  have f0 := h.free 0
  have f56 := h.free 56
  have fin : Hid (Moved w ((w.setCell ⟨b, 56, none⟩ (.bool false)).setCell ⟨b, 0, none⟩ (.int .i64 (wrap64 (d + 1)))) b (wrap64 (d + 1)) nm false) := ⟨(h.setNext false).setDepth _, (grown_setCell _ _ _ _).trans (grown_setCell _ _ _ _)⟩
  clear h
  go_enter Trym.func20, Trym.ntmps20
  go_wp2
  go_ret
  exact ⟨rfl, fin.out⟩

set_option maxHeartbeats 400000 in
theorem next_close_doc_a (w : World) (b : Nat) (d : Int) (nm nx inI : Bool) (h : PlaceAt w b d nm nx) (g : (wrap64 (d - 1) == 0) = true) :
    Calls Trym.prog 20 #[.pointer (some ⟨b, 0, none⟩), .int .u8 125, .bool inI] w fun e w' => e = .returned (.int .i64 2) ∧ Moved w w' b (wrap64 (d - 1)) nm false := by
  obtain ⟨c0, c55, c56⟩ := h.cells
  have f0 := h.free 0
  have f56 := h.free 56
  have fin : Hid (Moved w ((w.setCell ⟨b, 56, none⟩ (.bool false)).setCell ⟨b, 0, none⟩ (.int .i64 (wrap64 (d - 1)))) b (wrap64 (d - 1)) nm false) := ⟨(h.setNext false).setDepth _, (grown_setCell _ _ _ _).trans (grown_setCell _ _ _ _)⟩
  clear h
  cases nx
  all_goals
    go_enter Trym.func20, Trym.ntmps20
    go_wp2
    go_ret
    exact ⟨rfl, fin.out⟩

set_option maxHeartbeats 400000 in
theorem next_close_items_a (w : World) (b : Nat) (d : Int) (nm nx : Bool) (h : PlaceAt w b d nm nx) (g : (wrap64 (d - 1) == 0) = false) (g1 : (wrap64 (d - 1) == 1) = true) :
    Calls Trym.prog 20 #[.pointer (some ⟨b, 0, none⟩), .int .u8 125, .bool true] w fun e w' => e = .returned (.int .i64 3) ∧ Moved w w' b (wrap64 (d - 1)) nm false := by
  obtain ⟨c0, c55, c56⟩ := h.cells
  have f0 := h.free 0
  have f56 := h.free 56
  have fin : Hid (Moved w ((w.setCell ⟨b, 56, none⟩ (.bool false)).setCell ⟨b, 0, none⟩ (.int .i64 (wrap64 (d - 1)))) b (wrap64 (d - 1)) nm false) := ⟨(h.setNext false).setDepth _, (grown_setCell _ _ _ _).trans (grown_setCell _ _ _ _)⟩
  clear h
  cases nx
  all_goals
    go_enter Trym.func20, Trym.ntmps20
    go_wp2
    go_ret
    exact ⟨rfl, fin.out⟩

set_option maxHeartbeats 400000 in
theorem next_close_no1_a (w : World) (b : Nat) (d : Int) (nm nx inI : Bool) (h : PlaceAt w b d nm nx) (g : (wrap64 (d - 1) == 0) = false) (g1 : (wrap64 (d - 1) == 1) = false) :
    Calls Trym.prog 20 #[.pointer (some ⟨b, 0, none⟩), .int .u8 125, .bool inI] w fun e w' => e = .returned (.int .i64 0) ∧ Moved w w' b (wrap64 (d - 1)) nm false := by
  obtain ⟨c0, c55, c56⟩ := h.cells
  have f0 := h.free 0
  have f56 := h.free 56
  have fin : Hid (Moved w ((w.setCell ⟨b, 56, none⟩ (.bool false)).setCell ⟨b, 0, none⟩ (.int .i64 (wrap64 (d - 1)))) b (wrap64 (d - 1)) nm false) := ⟨(h.setNext false).setDepth _, (grown_setCell _ _ _ _).trans (grown_setCell _ _ _ _)⟩
  clear h
  cases nx
  all_goals
    go_enter Trym.func20, Trym.ntmps20
    go_wp2
    go_ret
    exact ⟨rfl, fin.out⟩

set_option maxHeartbeats 400000 in
theorem next_close_no2_a (w : World) (b : Nat) (d : Int) (nm nx : Bool) (h : PlaceAt w b d nm nx) (g : (wrap64 (d - 1) == 0) = false) (g1 : (wrap64 (d - 1) == 1) = true) :
    Calls Trym.prog 20 #[.pointer (some ⟨b, 0, none⟩), .int .u8 125, .bool false] w fun e w' => e = .returned (.int .i64 0) ∧ Moved w w' b (wrap64 (d - 1)) nm false := by
  obtain ⟨c0, c55, c56⟩ := h.cells
  have f0 := h.free 0
  have f56 := h.free 56
  have fin : Hid (Moved w ((w.setCell ⟨b, 56, none⟩ (.bool false)).setCell ⟨b, 0, none⟩ (.int .i64 (wrap64 (d - 1)))) b (wrap64 (d - 1)) nm false) := ⟨(h.setNext false).setDepth _, (grown_setCell _ _ _ _).trans (grown_setCell _ _ _ _)⟩
  clear h
  cases nx
  all_goals
    go_enter Trym.func20, Trym.ntmps20
    go_wp2
    go_ret
    exact ⟨rfl, fin.out⟩

set_option maxHeartbeats 400000 in
theorem next_close_doc_b (w : World) (b : Nat) (d : Int) (nm nx inI : Bool) (h : PlaceAt w b d nm nx) (g : (wrap64 (d - 1) == 0) = true) :
    Calls Trym.prog 20 #[.pointer (some ⟨b, 0, none⟩), .int .u8 93, .bool inI] w fun e w' => e = .returned (.int .i64 2) ∧ Moved w w' b (wrap64 (d - 1)) nm false := by
  obtain ⟨c0, c55, c56⟩ := h.cells
  have f0 := h.free 0
  have f56 := h.free 56
  have fin : Hid (Moved w ((w.setCell ⟨b, 56, none⟩ (.bool false)).setCell ⟨b, 0, none⟩ (.int .i64 (wrap64 (d - 1)))) b (wrap64 (d - 1)) nm false) := ⟨(h.setNext false).setDepth _, (grown_setCell _ _ _ _).trans (grown_setCell _ _ _ _)⟩
  clear h
  cases nx
  all_goals
    go_enter Trym.func20, Trym.ntmps20
    go_wp2
    go_ret
    exact ⟨rfl, fin.out⟩

set_option maxHeartbeats 400000 in
theorem next_close_items_b (w : World) (b : Nat) (d : Int) (nm nx : Bool) (h : PlaceAt w b d nm nx) (g : (wrap64 (d - 1) == 0) = false) (g1 : (wrap64 (d - 1) == 1) = true) :
    Calls Trym.prog 20 #[.pointer (some ⟨b, 0, none⟩), .int .u8 93, .bool true] w fun e w' => e = .returned (.int .i64 3) ∧ Moved w w' b (wrap64 (d - 1)) nm false := by
  obtain ⟨c0, c55, c56⟩ := h.cells
  have f0 := h.free 0
  have f56 := h.free 56
  have fin : Hid (Moved w ((w.setCell ⟨b, 56, none⟩ (.bool false)).setCell ⟨b, 0, none⟩ (.int .i64 (wrap64 (d - 1)))) b (wrap64 (d - 1)) nm false) := ⟨(h.setNext false).setDepth _, (grown_setCell _ _ _ _).trans (grown_setCell _ _ _ _)⟩
  clear h
  cases nx
  all_goals
    go_enter Trym.func20, Trym.ntmps20
    go_wp2
    go_ret
    exact ⟨rfl, fin.out⟩

set_option maxHeartbeats 400000 in
theorem next_close_no1_b (w : World) (b : Nat) (d : Int) (nm nx inI : Bool) (h : PlaceAt w b d nm nx) (g : (wrap64 (d - 1) == 0) = false) (g1 : (wrap64 (d - 1) == 1) = false) :
    Calls Trym.prog 20 #[.pointer (some ⟨b, 0, none⟩), .int .u8 93, .bool inI] w fun e w' => e = .returned (.int .i64 0) ∧ Moved w w' b (wrap64 (d - 1)) nm false := by
  obtain ⟨c0, c55, c56⟩ := h.cells
  have f0 := h.free 0
  have f56 := h.free 56
  have fin : Hid (Moved w ((w.setCell ⟨b, 56, none⟩ (.bool false)).setCell ⟨b, 0, none⟩ (.int .i64 (wrap64 (d - 1)))) b (wrap64 (d - 1)) nm false) := ⟨(h.setNext false).setDepth _, (grown_setCell _ _ _ _).trans (grown_setCell _ _ _ _)⟩
  clear h
  cases nx
  all_goals
    go_enter Trym.func20, Trym.ntmps20
    go_wp2
    go_ret
    exact ⟨rfl, fin.out⟩

set_option maxHeartbeats 400000 in
theorem next_close_no2_b (w : World) (b : Nat) (d : Int) (nm nx : Bool) (h : PlaceAt w b d nm nx) (g : (wrap64 (d - 1) == 0) = false) (g1 : (wrap64 (d - 1) == 1) = true) :
    Calls Trym.prog 20 #[.pointer (some ⟨b, 0, none⟩), .int .u8 93, .bool false] w fun e w' => e = .returned (.int .i64 0) ∧ Moved w w' b (wrap64 (d - 1)) nm false := by
  obtain ⟨c0, c55, c56⟩ := h.cells
  have f0 := h.free 0
  have f56 := h.free 56
  have fin : Hid (Moved w ((w.setCell ⟨b, 56, none⟩ (.bool false)).setCell ⟨b, 0, none⟩ (.int .i64 (wrap64 (d - 1)))) b (wrap64 (d - 1)) nm false) := ⟨(h.setNext false).setDepth _, (grown_setCell _ _ _ _).trans (grown_setCell _ _ _ _)⟩
  clear h
  cases nx
  all_goals
    go_enter Trym.func20, Trym.ntmps20
    go_wp2
    go_ret
    exact ⟨rfl, fin.out⟩

set_option maxHeartbeats 400000 in
theorem next_comma_yes (w : World) (b : Nat) (d : Int) (nm nx : Bool) (h : PlaceAt w b d nm nx) (g : (d == 2) = true) :
    Calls Trym.prog 20 #[.pointer (some ⟨b, 0, none⟩), .int .u8 44, .bool true] w fun e w' => e = .returned (.int .i64 1) ∧ Moved w w' b d nm false := by
  obtain ⟨c0, c55, c56⟩ := h.cells
  have f0 := h.free 0
  have f56 := h.free 56
  have fin : Hid (Moved w (w.setCell ⟨b, 56, none⟩ (.bool false)) b d nm false) := ⟨h.setNext false, grown_setCell _ _ _ _⟩
  clear h
  cases nx
  all_goals
    go_enter Trym.func20, Trym.ntmps20
    go_wp2
    go_ret
    exact ⟨rfl, fin.out⟩

set_option maxHeartbeats 400000 in
theorem next_comma_no1 (w : World) (b : Nat) (d : Int) (nm nx inI : Bool) (h : PlaceAt w b d nm nx) (g : (d == 2) = false) :
    Calls Trym.prog 20 #[.pointer (some ⟨b, 0, none⟩), .int .u8 44, .bool inI] w fun e w' => e = .returned (.int .i64 0) ∧ Moved w w' b d nm false := by
  obtain ⟨c0, c55, c56⟩ := h.cells
  have f0 := h.free 0
  have f56 := h.free 56
  have fin : Hid (Moved w (w.setCell ⟨b, 56, none⟩ (.bool false)) b d nm false) := ⟨h.setNext false, grown_setCell _ _ _ _⟩
  clear h
  cases nx
  all_goals
    go_enter Trym.func20, Trym.ntmps20
    go_wp2
    go_ret
    exact ⟨rfl, fin.out⟩

set_option maxHeartbeats 400000 in
theorem next_comma_no2 (w : World) (b : Nat) (d : Int) (nm nx : Bool) (h : PlaceAt w b d nm nx) (g : (d == 2) = true) :
    Calls Trym.prog 20 #[.pointer (some ⟨b, 0, none⟩), .int .u8 44, .bool false] w fun e w' => e = .returned (.int .i64 0) ∧ Moved w w' b d nm false := by
  obtain ⟨c0, c55, c56⟩ := h.cells
  have f0 := h.free 0
  have f56 := h.free 56
  have fin : Hid (Moved w (w.setCell ⟨b, 56, none⟩ (.bool false)) b d nm false) := ⟨h.setNext false, grown_setCell _ _ _ _⟩
  clear h
  cases nx
  all_goals
    go_enter Trym.func20, Trym.ntmps20
    go_wp2
    go_ret
    exact ⟨rfl, fin.out⟩

set_option maxHeartbeats 400000 in
theorem next_colon_no (w : World) (b : Nat) (d : Int) (nm nx inI : Bool) (h : PlaceAt w b d nm nx) (g : (d == 1) = false) :
    Calls Trym.prog 20 #[.pointer (some ⟨b, 0, none⟩), .int .u8 58, .bool inI] w fun e w' => e = .returned (.int .i64 0) ∧ Moved w w' b d nm false := by
  obtain ⟨c0, c55, c56⟩ := h.cells
  have f0 := h.free 0
  have f56 := h.free 56
  have fin : Hid (Moved w (w.setCell ⟨b, 56, none⟩ (.bool false)) b d nm false) := ⟨h.setNext false, grown_setCell _ _ _ _⟩
  clear h
  cases nx
  all_goals
    go_enter Trym.func20, Trym.ntmps20
    go_wp2
    go_ret
    exact ⟨rfl, fin.out⟩

set_option maxHeartbeats 400000 in
theorem next_other (w : World) (b : Nat) (d : Int) (nm nx inI : Bool) (h : PlaceAt w b d nm nx) (c : Int) (g1 : (c == 123) = false) (g2 : (c == 91) = false) (g3 : (c == 125) = false) (g4 : (c == 93) = false) (g5 : (c == 44) = false) (g6 : (c == 58) = false) :
    Calls Trym.prog 20 #[.pointer (some ⟨b, 0, none⟩), .int .u8 c, .bool inI] w fun e w' => e = .returned (.int .i64 0) ∧ Moved w w' b d nm false := by
  obtain ⟨c0, c55, c56⟩ := h.cells
  have f0 := h.free 0
  have f56 := h.free 56
  have fin : Hid (Moved w (w.setCell ⟨b, 56, none⟩ (.bool false)) b d nm false) := ⟨h.setNext false, grown_setCell _ _ _ _⟩
  clear h
  cases nx
  all_goals
    go_enter Trym.func20, Trym.ntmps20
    go_wp2
    go_ret
    exact ⟨rfl, fin.out⟩

set_option maxHeartbeats 400000 in
theorem next_colon_yes (w : World) (b : Nat) (d : Int) (nm nx inI : Bool) (h : PlaceAt w b d nm nx) (g : (d == 1) = true) :
    Calls Trym.prog 20 #[.pointer (some ⟨b, 0, none⟩), .int .u8 58, .bool inI] w fun e w' => e = .returned (.int .i64 0) ∧ Moved w w' b d nm nm := by
  obtain ⟨c0, c55, c56⟩ := h.cells
  have f0 := h.free 0
  have f56 := h.free 56
  have fin : Hid (Moved w ((w.setCell ⟨b, 56, none⟩ (.bool false)).setCell ⟨b, 56, none⟩ (.bool nm)) b d nm nm) := ⟨(h.setNext false).setNext nm, (grown_setCell _ _ _ _).trans (grown_setCell _ _ _ _)⟩
  clear h
  cases nx
  all_goals
    go_enter Trym.func20, Trym.ntmps20
    go_wp2
    go_ret
    exact ⟨rfl, fin.out⟩

/-- 'next', whatever the byte. -/
theorem next_any (w : World) (b : Nat) (d c : Int) (nm nx inI : Bool) (h : PlaceAt w b d nm nx) :
    Calls Trym.prog 20 #[.pointer (some ⟨b, 0, none⟩), .int .u8 c, .bool inI] w fun e w' => e = .returned (.int .i64 (mov d nx inI c)) ∧ Moved w w' b (dep d c) nm (nxt d nm c) := by
  by_cases h1 : c = 123
  · subst h1
    have e1 : mov d nx inI 123 = 0 := rfl
    have e2 : dep d 123 = wrap64 (d + 1) := rfl
    have e3 : nxt d nm 123 = false := rfl
    rw [e1, e2, e3]
    exact next_brace w b d nm nx inI h
  by_cases h2 : c = 91
  · subst h2
    have e2 : dep d 91 = wrap64 (d + 1) := rfl
    have e3 : nxt d nm 91 = false := rfl
    rw [e2, e3]
    cases nx
    · exact next_list_no w b d nm inI h
    · exact next_list_yes w b d nm inI h
  by_cases h3 : c = 125 ∨ c = 93
  · have e2 : dep d c = wrap64 (d - 1) := by unfold dep; rw [if_neg (by omega), if_pos h3]
    have e3 : nxt d nm c = false := by
      have : (c == 58) = false := by simp; omega
      simp [nxt, this]
    have e1 : mov d nx inI c = if wrap64 (d - 1) = 0 then 2 else if wrap64 (d - 1) = 1 ∧ inI = true then 3 else 0 := by
      unfold mov
      rw [if_neg h1, if_neg h2, if_pos h3]
    rw [e1, e2, e3]
    by_cases g : wrap64 (d - 1) = 0
    · rw [if_pos g]
      have g' : (wrap64 (d - 1) == 0) = true := by simpa using g
      rcases h3 with rfl | rfl
      · exact next_close_doc_a w b d nm nx inI h g'
      · exact next_close_doc_b w b d nm nx inI h g'
    · rw [if_neg g]
      have g' : (wrap64 (d - 1) == 0) = false := by simpa using g
      by_cases k : wrap64 (d - 1) = 1
      · have k' : (wrap64 (d - 1) == 1) = true := by simpa using k
        cases inI
        · rw [if_neg (by simp)]
          rcases h3 with rfl | rfl
          · exact next_close_no2_a w b d nm nx h g' k'
          · exact next_close_no2_b w b d nm nx h g' k'
        · rw [if_pos ⟨k, rfl⟩]
          rcases h3 with rfl | rfl
          · exact next_close_items_a w b d nm nx h g' k'
          · exact next_close_items_b w b d nm nx h g' k'
      · have k' : (wrap64 (d - 1) == 1) = false := by simpa using k
        rw [if_neg (fun q => k q.1)]
        rcases h3 with rfl | rfl
        · exact next_close_no1_a w b d nm nx inI h g' k'
        · exact next_close_no1_b w b d nm nx inI h g' k'
  have e2 : dep d c = d := by unfold dep; rw [if_neg (by omega), if_neg h3]
  by_cases h4 : c = 44
  · subst h4
    have e3 : nxt d nm 44 = false := rfl
    have e1 : mov d nx inI 44 = if d = 2 ∧ inI = true then 1 else 0 := rfl
    rw [e1, e2, e3]
    by_cases g : d = 2
    · have g' : (d == 2) = true := by simpa using g
      cases inI
      · rw [if_neg (by simp)]
        exact next_comma_no2 w b d nm nx h g'
      · rw [if_pos ⟨g, rfl⟩]
        exact next_comma_yes w b d nm nx h g'
    · have g' : (d == 2) = false := by simpa using g
      rw [if_neg (fun q => g q.1)]
      exact next_comma_no1 w b d nm nx inI h g'
  have e1 : mov d nx inI c = 0 := by
    unfold mov
    rw [if_neg h1, if_neg h2, if_neg h3, if_neg h4]
  rw [e1, e2]
  by_cases h5 : c = 58
  · subst h5
    by_cases g : d = 1
    · have g' : (d == 1) = true := by simpa using g
      have e3 : nxt d nm 58 = nm := by simp [nxt, g']
      rw [e3]
      exact next_colon_yes w b d nm nx inI h g'
    · have g' : (d == 1) = false := by simpa using g
      have e3 : nxt d nm 58 = false := by simp [nxt, g']
      rw [e3]
      exact next_colon_no w b d nm nx inI h g'
  · have e3 : nxt d nm c = false := by
      have : (c == 58) = false := by simpa using h5
      simp [nxt, this]
    rw [e3]
    exact next_other w b d nm nx inI h c (by simpa using h1) (by simpa using h2) (by simp; omega) (by simp; omega) (by simpa using h4) (by simpa using h5)

theorem zz_next (w : World) (b : Nat) (d c : Int) (nm nx inI : Bool) (h : PlaceAt w b d nm nx) :
    Calls Trym.prog 13 #[.pointer (some ⟨b, 0, none⟩), .int .u8 c, .bool inI] w fun e w' => e = .returned (.int .i64 (mov d nx inI c)) ∧ PlaceAt w' b (dep d c) nm (nxt d nm c) ∧ w.grownBy w' (some b) := by
  go_enter Trym.func13, Trym.ntmps13
  go_wp2_with (go_at_call 20; go_must (refine (next_any w b d c nm nx inI h).mono ?_; rintro e w' ⟨rfl, hp, hg⟩))
  go_ret
  exact ⟨rfl, hp, hg⟩
end Go.Proofs.Qxb6000990aMods.Jsn
