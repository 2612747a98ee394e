/-
  SEAT b6000407aM. Nodes in memory: the walks of ZZNewNode (25), ZZDeclare (28) and declare (33), ZZSetItems (29), ZZSetAdditional (30).
-/
import Derived.Test.Qxb6000407aModsCpy
import Derived.Maps.Own
import Derived.Maps.OwnSet
import Derived.Maps.Views
namespace Go.Proofs.Qxb6000407aMods.Sch
open Go.RowKit
set_option linter.unusedVariables false

/-- Block b is a node: its map of fields, its values' node, its items' node. -/
def NodeAt (w : World) (b : Nat) (m : Option Nat) (ad it : Option Addr) : Prop :=
  ∃ h : Bool, w.heap[b]? = some (.cells #[.map m, .pointer ad, .bool h, .pointer it, .bool false, .bool false, .slice none 0 0, .bool false] 62 (0, 0))

theorem NodeAt.lt {w : World} {b : Nat} {m : Option Nat} {ad it : Option Addr} (h : NodeAt w b m ad it) : b < w.heap.size := by
  obtain ⟨_, h⟩ := h
  exact (Array.getElem?_eq_some_iff.1 h).1
theorem NodeAt.kept {w w' : World} {b : Nat} {m : Option Nat} {ad it : Option Addr} (h : NodeAt w b m ad it) (e : w'.heap[b]? = w.heap[b]?) : NodeAt w' b m ad it := by
  obtain ⟨x, h⟩ := h
  exact ⟨x, e.trans h⟩
theorem NodeAt.cells {w : World} {b : Nat} {m : Option Nat} {ad it : Option Addr} (h : NodeAt w b m ad it) :
    w.cell? ⟨b, 0, none⟩ = some (.map m) ∧ w.cell? ⟨b, 1, none⟩ = some (.pointer ad) ∧ (∃ x : Bool, w.cell? ⟨b, 2, none⟩ = some (.bool x)) ∧ w.cell? ⟨b, 3, none⟩ = some (.pointer it) := by
  obtain ⟨x, h⟩ := h
  refine ⟨?_, ?_, ⟨x, ?_⟩, ?_⟩ <;> rw [cell_of_row w b _ _ _ _ h] <;> rfl
theorem NodeAt.free {w : World} {b : Nat} {m : Option Nat} {ad it : Option Addr} (h : NodeAt w b m ad it) (j : Nat) : w.frozen? ⟨b, j, none⟩ = false := by
  obtain ⟨x, h⟩ := h
  exact frozen_of_row w b j _ _ h

theorem grown_setCell (w : World) (b j : Nat) (u : Value) : w.grownBy (w.setCell ⟨b, j, none⟩ u) (some b) :=
  ⟨rfl, rfl, rfl, by rw [World.size_setCell]; exact Nat.le_refl _, fun k _ hk => heap_setCell_other w _ k u (fun e => hk (by rw [e]))⟩
theorem NodeAt.put0 {w : World} {b : Nat} {m : Option Nat} {ad it : Option Addr} (h : NodeAt w b m ad it) (m' : Option Nat) : NodeAt (w.setCell ⟨b, 0, none⟩ (.map m')) b m' ad it := by
  obtain ⟨x, h⟩ := h
  exact ⟨x, heap_setCell_same w b 0 _ _ _ h⟩
theorem NodeAt.put1 {w : World} {b : Nat} {m : Option Nat} {ad it : Option Addr} (h : NodeAt w b m ad it) (c : Option Addr) : NodeAt (w.setCell ⟨b, 1, none⟩ (.pointer c)) b m c it := by
  obtain ⟨x, h⟩ := h
  exact ⟨x, heap_setCell_same w b 1 _ _ _ h⟩
theorem NodeAt.put2 {w : World} {b : Nat} {m : Option Nat} {ad it : Option Addr} (h : NodeAt w b m ad it) (y : Bool) : NodeAt (w.setCell ⟨b, 2, none⟩ (.bool y)) b m ad it := by
  obtain ⟨x, h⟩ := h
  exact ⟨y, heap_setCell_same w b 2 _ _ _ h⟩
theorem NodeAt.put3 {w : World} {b : Nat} {m : Option Nat} {ad it : Option Addr} (h : NodeAt w b m ad it) (c : Option Addr) : NodeAt (w.setCell ⟨b, 3, none⟩ (.pointer c)) b m ad c := by
  obtain ⟨x, h⟩ := h
  exact ⟨x, heap_setCell_same w b 3 _ _ _ h⟩

theorem new_node (w : World) :
    Calls Trym.prog 25 #[] w fun e w' => e = .returned (.pointer (some ⟨w.heap.size, 0, none⟩)) ∧ w' = w.alloc (.cells #[.map none, .pointer none, .bool false, .pointer none, .bool false, .bool false, .slice none 0 0, .bool false] 62) := by
  go_enter Trym.func25, Trym.ntmps25
  go_wp2
  go_ret
  exact ⟨rfl, rfl⟩

theorem set_items (w : World) (b : Nat) (m : Option Nat) (ad it c : Option Addr) (h : NodeAt w b m ad it) :
    Calls Trym.prog 29 #[.pointer (some ⟨b, 0, none⟩), .pointer c] w fun e w' => e = .returned (.tuple #[]) ∧ NodeAt w' b m ad c ∧ w.grownBy w' (some b) := by
  obtain ⟨c0, c1, ⟨x, c2⟩, c3⟩ := h.cells
  have f3 := h.free 3
  go_enter Trym.func29, Trym.ntmps29
  go_wp2
  go_end0
  exact ⟨rfl, h.put3 c, grown_setCell _ _ _ _⟩

theorem set_additional (w : World) (b : Nat) (m : Option Nat) (ad it c : Option Addr) (h : NodeAt w b m ad it) :
    Calls Trym.prog 30 #[.pointer (some ⟨b, 0, none⟩), .pointer c] w fun e w' => e = .returned (.tuple #[]) ∧ NodeAt w' b m c it ∧ w.grownBy w' (some b) := by
  obtain ⟨c0, c1, ⟨x, c2⟩, c3⟩ := h.cells
  have f1 := h.free 1
  have f2 := h.free 2
  go_enter Trym.func30, Trym.ntmps30
  go_wp2
  go_end0
  exact ⟨rfl, (h.put1 c).put2 true, (grown_setCell _ _ _ _).trans (grown_setCell _ _ _ _)⟩

/-! ### The map of a node's fields -/
/-- How a pointer reads: as itself. -/
def readPtr : Value → Option (DataW (Option Addr) × List MemPlace)
  | .pointer p => some (.held p, [])
  | _ => none
theorem readPtr_inv {v : Value} {p : Option Addr} {ps : List MemPlace} (h : readPtr v = some (.held p, ps)) : v = .pointer p := by
  cases v <;> simp [readPtr] at h
  rw [h.1]

theorem keyed9 : Maps.Keyed Trym.prog 9 := Maps.string_keyed Trym.underlying9
theorem zero37 (w : World) : (zeroValue 37).run Trym.prog w = .ok (.pointer none) w := by kernel_rfl

/-- Block b is a map of at most n entries; at every text s it holds the pointer f s. -/
def ownsPtrs (w : World) (b n : Nat) (f : ByteArray → Option Addr) : Prop :=
  ∃ D : DataW (Option Addr), w.ownsMap Trym.prog 9 readPtr b n D ∧ Maps.IsMap D ∧ ∀ s : ByteArray, D.atKey (.string s.data.toList) (.held none) = .held (f s)

theorem ownsPtrs_made (w : World) : ownsPtrs (w.alloc (.map #[] 0)) w.heap.size 0 (fun _ => none) :=
  ⟨.map [], World.ownsMap_made _ _ _ _, Maps.isMap_empty, fun _ => rfl⟩
theorem ownsPtrs.kept {w w' : World} {b n : Nat} {f : ByteArray → Option Addr} (h : ownsPtrs w b n f) (e : w'.heap[b]? = w.heap[b]?) : ownsPtrs w' b n f := by
  obtain ⟨D, ⟨es, clock, hb, r⟩, hD⟩ := h
  exact ⟨D, ⟨es, clock, e.trans hb, r⟩, hD⟩
theorem ownsPtrs.lt {w : World} {b n : Nat} {f : ByteArray → Option Addr} (h : ownsPtrs w b n f) : b < w.heap.size := by
  obtain ⟨D, h, _⟩ := h
  exact h.lt
theorem ownsPtrs.mono {w : World} {b n n' : Nat} {f : ByteArray → Option Addr} (h : ownsPtrs w b n f) (hn : n ≤ n') : ownsPtrs w b n' f := by
  obtain ⟨D, h, r⟩ := h
  exact ⟨D, h.mono hn, r⟩
/-- A map's block is no node's. -/
theorem ownsPtrs.ne {w : World} {b c n : Nat} {f : ByteArray → Option Addr} {m : Option Nat} {ad it : Option Addr} (h : ownsPtrs w b n f) (g : NodeAt w c m ad it) : b ≠ c := by
  rintro rfl
  obtain ⟨D, ⟨es, clock, hb, _⟩, _⟩ := h
  obtain ⟨x, hx⟩ := g
  rw [hb] at hx
  cases hx

theorem ownsPtrs.look {w : World} {b n : Nat} {f : ByteArray → Option Addr} (h : ownsPtrs w b n f) {s : ByteArray} (hs : s.size ≤ maxLen) :
    (Instr.lookup 60 (.map (some b)) (.string s) false).run Trym.prog w = .ok (.pointer (f s)) w := by
  obtain ⟨D, ho, _, hf⟩ := h
  obtain ⟨v, ps, hr, hv⟩ := ho.lookup keyed9 Trym.underlying60 (zero37 w) (zd := .held none) (zp := []) rfl (Go.WideMaps.keyOf_string_mk Trym.underlying9 hs)
  rw [hf s] at hv
  rw [hr, readPtr_inv hv]
theorem look_none (w : World) {s : ByteArray} (hs : s.size ≤ maxLen) :
    (Instr.lookup 60 (.map none) (.string s) false).run Trym.prog w = .ok (.pointer none) w :=
  Maps.look_nil (w := w) false keyed9 Trym.underlying60 (zero37 w) (Go.WideMaps.keyOf_string_mk Trym.underlying9 hs)

/-- One name more. -/
def putName (f : ByteArray → Option Addr) (s : ByteArray) (c : Option Addr) (t : ByteArray) : Option Addr := if t.data.toList = s.data.toList then c else f t

theorem ownsPtrs.put {w : World} {b n : Nat} {f : ByteArray → Option Addr} (h : ownsPtrs w b n f) (hn : n < maxLen) {s : ByteArray} (hs : s.size ≤ maxLen) (c : Option Addr) :
    ∃ w', (Instr.mapUpdate 60 (.map (some b)) (.string s) (.pointer c)).run Trym.prog w = .ok () w' ∧ w.grownBy w' (some b) ∧ ownsPtrs w' b (n + 1) (putName f s c) := by
  obtain ⟨D, ho, hD, hf⟩ := h
  have hk := Go.WideMaps.keyOf_string_mk Trym.underlying9 hs
  obtain ⟨w', hr, ho', hg⟩ := ho.update keyed9 Trym.underlying60 hn hk (val := .pointer c) (d := .held c) (ps := []) rfl
  refine ⟨w', hr, hg, ⟨_, ho', hD.put _ _, fun t => ?_⟩⟩
  unfold putName
  by_cases e : t.data.toList = s.data.toList
  · rw [if_pos e, e]
    exact Maps.atKey_put_same hD (keyed9.key hk) _ _
  · rw [if_neg e, ← hf t]
    exact Maps.atKey_put_other (fun h => e (by simpa using h)) _ _

theorem declare_some (w : World) (b mb n : Nat) (ad it c : Option Addr) (f : ByteArray → Option Addr) (s : ByteArray) (h : NodeAt w b (some mb) ad it) (hp : ownsPtrs w mb n f) (hn : n < maxLen) (hs : s.size ≤ maxLen) :
    Calls Trym.prog 33 #[.pointer (some ⟨b, 0, none⟩), .string s, .pointer c] w fun e w' => e = .returned (.tuple #[]) ∧ NodeAt w' b (some mb) ad it ∧ ownsPtrs w' mb (n + 1) (putName f s c) ∧ w.grownBy w' (some mb) := by
  obtain ⟨c0, c1, ⟨x, c2⟩, c3⟩ := h.cells
  have hne := hp.ne h
  obtain ⟨w1, hup, hg, hp'⟩ := hp.put hn hs c
  have heq := fun wx => run_eql_map_nil (P := Trym.prog) wx 60 9 37 (some mb) Trym.underlying60
  have HP : Hid _ := hp'
  have HN : Hid _ := hne
  have h1 : Hid (NodeAt w1 b (some mb) ad it) := h.kept (hg.block b h.lt (by intro e; cases e; exact hne rfl))
  clear hp' hne
  go_enter Trym.func33, Trym.ntmps33
  go_wp2
  go_end0
  exact ⟨rfl, h1.out, HP.out, hg⟩

theorem declare_none (w : World) (b : Nat) (ad it c : Option Addr) (s : ByteArray) (h : NodeAt w b none ad it) (hs : s.size ≤ maxLen) :
    Calls Trym.prog 33 #[.pointer (some ⟨b, 0, none⟩), .string s, .pointer c] w fun e w' => e = .returned (.tuple #[]) ∧ NodeAt w' b (some w.heap.size) ad it ∧ ownsPtrs w' w.heap.size 1 (putName (fun _ => none) s c) ∧ w.grownBy w' (some b) := by
  obtain ⟨c0, c1, ⟨x, c2⟩, c3⟩ := h.cells
  have f0 := h.free 0
  have hlt := h.lt
  have hmade : ownsPtrs ((w.setCell ⟨b, 0, none⟩ (.map (some w.heap.size))).alloc (.map #[] 0)) w.heap.size 0 (fun _ => none) := by
    have := ownsPtrs_made (w.setCell ⟨b, 0, none⟩ (.map (some w.heap.size)))
    rwa [World.size_setCell] at this
  obtain ⟨w1, hup, hg, hp'⟩ := hmade.put (by unfold maxLen; omega) hs c
  have hW := World.grownBy_alloc (w.setCell ⟨b, 0, none⟩ (.map (some w.heap.size))) (.map #[] 0) none
  have hsz : (w.setCell ⟨b, 0, none⟩ (.map (some w.heap.size))).heap.size = w.heap.size := World.size_setCell _ _ _
  have fin : Hid (NodeAt w1 b (some w.heap.size) ad it ∧ ownsPtrs w1 w.heap.size 1 (putName (fun _ => none) s c) ∧ w.grownBy w1 (some b)) := by
    have e : ∀ k, k < w.heap.size → w1.heap[k]? = (w.setCell ⟨b, 0, none⟩ (.map (some w.heap.size))).heap[k]? := fun k hk =>
      (hg.block k (by rw [World.size_alloc, hsz]; omega) (by intro e; cases e; omega)).trans (hW.block k (by rw [hsz]; exact hk) (by simp))
    refine ⟨(h.put0 _).kept (e b hlt), hp', ⟨hg.os, hg.tape, hg.output, ?_, fun k hk hne => (e k hk).trans ((grown_setCell w b 0 _).block k hk hne)⟩⟩
    have := hg.size
    rw [World.size_alloc, hsz] at this
    omega
  clear hp' hmade hW hsz hg
  have hmm := @run_makeMap Trym.prog
  have heq := fun wx => run_eql_map_nil (P := Trym.prog) wx 60 9 37 none Trym.underlying60
  go_enter Trym.func33, Trym.ntmps33
  go_wp2
  go_end0
  exact ⟨rfl, fin.out⟩

/-- What a node's map of fields holds: nothing at all, or the pointers f. -/
def Props (w : World) (n : Nat) (m : Option Nat) (f : ByteArray → Option Addr) : Prop :=
  (m = none ∧ ∀ s, f s = none) ∨ ∃ mb, m = some mb ∧ ownsPtrs w mb n f

/-- ZZDeclare, whatever the map: the node's map holds one name more; what else has turned is the node's own block and its own map's alone; the map is the old one, or new. -/
theorem declare_any (w : World) (b n : Nat) (m : Option Nat) (ad it c : Option Addr) (f : ByteArray → Option Addr) (s : ByteArray) (h : NodeAt w b m ad it) (hp : Props w n m f) (hn : n < maxLen) (hs : s.size ≤ maxLen) :
    Calls Trym.prog 28 #[.pointer (some ⟨b, 0, none⟩), .string s, .pointer c] w fun e w' => e = .returned (.tuple #[]) ∧ ∃ mb, NodeAt w' b (some mb) ad it ∧ ownsPtrs w' mb (n + 1) (putName f s c) ∧ (m = some mb ∨ w.heap.size ≤ mb) ∧
      w'.os = w.os ∧ w'.tape = w.tape ∧ w'.output = w.output ∧ w.heap.size ≤ w'.heap.size ∧ ∀ k, k < w.heap.size → k ≠ b → m ≠ some k → w'.heap[k]? = w.heap[k]? := by
  rcases hp with ⟨rfl, hf⟩ | ⟨mb, rfl, hp⟩
  · go_enter Trym.func28, Trym.ntmps28
    go_wp2_with (go_at_call 33; go_must (refine (declare_none _ b ad it c s h hs).mono ?_; rintro e w' ⟨rfl, h1, h2, h3⟩))
    go_end0
    have e : putName (fun _ => none) s c = putName f s c := by
      funext t
      unfold putName
      rw [hf t]
    rw [e] at h2
    exact ⟨rfl, w.heap.size, h1, h2.mono (by omega), .inr (Nat.le_refl _), h3.os, h3.tape, h3.output, h3.size, fun k hk hne _ => h3.block k hk (by intro e; cases e; exact hne rfl)⟩
  · go_enter Trym.func28, Trym.ntmps28
    go_wp2_with (go_at_call 33; go_must (refine (declare_some _ b mb n ad it c f s h hp hn hs).mono ?_; rintro e w' ⟨rfl, h1, h2, h3⟩))
    go_end0
    exact ⟨rfl, mb, h1, h2, .inl rfl, h3.os, h3.tape, h3.output, h3.size, fun k hk _ hne => h3.block k hk (by intro e; cases e; exact hne rfl)⟩
end Go.Proofs.Qxb6000407aMods.Sch
