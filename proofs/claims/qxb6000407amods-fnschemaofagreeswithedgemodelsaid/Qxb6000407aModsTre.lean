/-
  SEAT b6000407aM. The plain model (which edge is the last below a node), and the tree in memory. No walk.
-/
import Derived.Test.Qxb6000407aModsNod
namespace Go.Proofs.Qxb6000407aMods.Sch
open Go.RowKit
set_option linter.unusedVariables false

section
variable (P K : Nat → Int) (N : Nat → ByteArray)

/-- Does edge j hang below node c, by kind kd (and name s, for a field)? -/
def hitB (j : Nat) (c : Int) (kd : Int) (s : ByteArray) : Bool := (par (P j) j == c) && (K j % 3 == kd) && (kd != 0 || (N j).toList == s.toList)

/-- The last such edge among the first k. -/
def last : Nat → Int → Int → ByteArray → Option Nat
  | 0, _, _, _ => none
  | k + 1, c, kd, s => if hitB P K N k c kd s then some k else last k c kd s

theorem last_lt {k : Nat} {c kd : Int} {s : ByteArray} {j : Nat} (h : last P K N k c kd s = some j) : j < k := by
  induction k with
  | zero => cases h
  | succ k ih =>
    unfold last at h
    split at h
    · cases h; omega
    · have := ih h; omega

theorem hit_par {j : Nat} {c kd : Int} {s : ByteArray} (h : hitB P K N j c kd s = true) : par (P j) j = c := by
  simp [hitB] at h
  exact h.1.1
theorem hit_kind {j : Nat} {c kd : Int} {s : ByteArray} (h : hitB P K N j c kd s = true) : K j % 3 = kd := by
  simp [hitB] at h
  exact h.1.2

theorem last_fresh {k : Nat} {c kd : Int} {s : ByteArray} (h : (k : Int) ≤ c) : last P K N k c kd s = none := by
  induction k with
  | zero => rfl
  | succ k ih =>
    unfold last
    split
    · rename_i hh
      have := hit_par P K N hh
      have := par_bd (p := P k) (i := k) (by omega)
      omega
    · exact ih (by omega)

theorem last_skip {k : Nat} {c kd : Int} {s : ByteArray} (h : hitB P K N k c kd s = false) : last P K N (k + 1) c kd s = last P K N k c kd s := by
  show (if _ then _ else _) = _
  rw [h]; rfl
theorem last_take {k : Nat} {c kd : Int} {s : ByteArray} (h : hitB P K N k c kd s = true) : last P K N (k + 1) c kd s = some k := by
  show (if _ then _ else _) = _
  rw [h]; rfl
theorem last_other_node {k : Nat} {c kd : Int} {s : ByteArray} (h : par (P k) k ≠ c) : last P K N (k + 1) c kd s = last P K N k c kd s :=
  last_skip P K N (by simp [hitB, h])
theorem last_other_kind {k : Nat} {c kd : Int} {s : ByteArray} (h : K k % 3 ≠ kd) : last P K N (k + 1) c kd s = last P K N k c kd s :=
  last_skip P K N (by simp [hitB, h])
/-- By items or values the name does not matter. -/
theorem last_name {k : Nat} {c kd : Int} (hk : kd ≠ 0) (s t : ByteArray) : last P K N k c kd s = last P K N k c kd t := by
  induction k with
  | zero => rfl
  | succ k ih =>
    have e0 : (kd != 0) = true := by simp [hk]
    have e : hitB P K N k c kd s = hitB P K N k c kd t := by simp [hitB, e0]
    show (if _ then _ else _) = (if _ then _ else _)
    rw [e, ih]

/-- The node's address behind an edge. -/
def ptr (A : Nat → Nat) : Option Nat → Option Addr
  | none => none
  | some j => some ⟨A (j + 1), 0, none⟩

/-- THE TREE IN MEMORY: nn nodes, k edges laid. -/
structure Tree (w : World) (base nn k : Nat) (A : Nat → Nat) (M : Nat → Option Nat) : Prop where
  node : ∀ i, i < nn → NodeAt w (A i) (M i) (ptr A (last P K N k i 2 ByteArray.empty)) (ptr A (last P K N k i 1 ByteArray.empty))
  props : ∀ i, i < nn → Props w k (M i) (fun s => ptr A (last P K N k i 0 s))
  inj : ∀ i j, i < nn → j < nn → A i = A j → i = j
  minj : ∀ i j mb, i < nn → j < nn → M i = some mb → M j = some mb → i = j
  low : ∀ i, i < nn → base ≤ A i ∧ ∀ mb, M i = some mb → base ≤ mb
end

variable {P K : Nat → Int} {N : Nat → ByteArray}

theorem Props.lt {w : World} {n mb : Nat} {m : Option Nat} {f : ByteArray → Option Addr} (h : Props w n m f) (e : m = some mb) : mb < w.heap.size := by
  rcases h with ⟨rfl, _⟩ | ⟨b, rfl, h⟩
  · cases e
  · cases e; exact h.lt
theorem Props.kept {w w' : World} {n : Nat} {m : Option Nat} {f : ByteArray → Option Addr} (h : Props w n m f) (e : ∀ mb, m = some mb → w'.heap[mb]? = w.heap[mb]?) : Props w' n m f := by
  rcases h with h | ⟨b, rfl, h⟩
  · exact .inl h
  · exact .inr ⟨b, rfl, h.kept (e b rfl)⟩
theorem Props.mono {w : World} {n n' : Nat} {m : Option Nat} {f : ByteArray → Option Addr} (h : Props w n m f) (e : n ≤ n') : Props w n' m f := by
  rcases h with h | ⟨b, rfl, h⟩
  · exact .inl h
  · exact .inr ⟨b, rfl, h.mono e⟩
theorem Props.ne {w : World} {n c : Nat} {m m' : Option Nat} {ad it : Option Addr} {f : ByteArray → Option Addr} (h : Props w n m f) (g : NodeAt w c m' ad it) : m ≠ some c := by
  rcases h with ⟨rfl, _⟩ | ⟨b, rfl, h⟩
  · simp
  · have := h.ne g
    intro e; cases e; exact this rfl

/-- The tree stays while blocks that are not its own are written. -/
theorem Tree.kept {w w' : World} {base nn k : Nat} {A : Nat → Nat} {M : Nat → Option Nat} (T : Tree P K N w base nn k A M) (e : ∀ b, base ≤ b → b < w.heap.size → w'.heap[b]? = w.heap[b]?) : Tree P K N w' base nn k A M where
  node := fun i hi => (T.node i hi).kept (e _ (T.low i hi).1 (T.node i hi).lt)
  props := fun i hi => (T.props i hi).kept (fun mb hm => e mb ((T.low i hi).2 mb hm) ((T.props i hi).lt hm))
  inj := T.inj
  minj := T.minj
  low := T.low

/-- A function changed at one place. -/
def upd {α : Type} (A : Nat → α) (n : Nat) (a : α) (i : Nat) : α := if i = n then a else A i
theorem upd_same {α : Type} (A : Nat → α) (n : Nat) (a : α) : upd A n a n = a := by unfold upd; rw [if_pos rfl]
theorem upd_other {α : Type} (A : Nat → α) {n i : Nat} (a : α) (h : i ≠ n) : upd A n a i = A i := by unfold upd; rw [if_neg h]

theorem ptr_upd {A : Nat → Nat} {nn k a : Nat} {c kd : Int} {s : ByteArray} (h : k < nn) : ptr (upd A nn a) (last P K N k c kd s) = ptr A (last P K N k c kd s) := by
  cases e : last P K N k c kd s with
  | none => rfl
  | some j =>
    have := last_lt P K N e
    show some _ = some _
    rw [upd_other A a (by omega)]

/-- A new node. -/
theorem Tree.alloc {w : World} {base nn k : Nat} {A : Nat → Nat} {M : Nat → Option Nat} (T : Tree P K N w base nn k A M) (hk : k < nn) (hb : base ≤ w.heap.size) :
    Tree P K N (w.alloc (.cells #[.map none, .pointer none, .bool false, .pointer none, .bool false, .bool false, .slice none 0 0, .bool false] 62)) base (nn + 1) k (upd A nn w.heap.size) (upd M nn none) := by
  have old : ∀ b, b < w.heap.size → (w.alloc (.cells #[.map none, .pointer none, .bool false, .pointer none, .bool false, .bool false, .slice none 0 0, .bool false] 62)).heap[b]? = w.heap[b]? := fun b h => Below.heap_alloc w _ b h
  refine ⟨fun i hi => ?_, fun i hi => ?_, fun i j hi hj e => ?_, fun i j mb hi hj e1 e2 => ?_, fun i hi => ?_⟩
  · rw [ptr_upd hk, ptr_upd hk]
    by_cases e : i = nn
    · subst e
      rw [upd_same, upd_same, last_fresh P K N (by omega), last_fresh P K N (by omega)]
      exact ⟨false, heap_alloc_new w _⟩
    · rw [upd_other _ _ e, upd_other _ _ e]
      have h := T.node i (by omega)
      exact h.kept (old _ h.lt)
  · by_cases e : i = nn
    · subst e
      rw [upd_same]
      refine .inl ⟨rfl, fun s => ?_⟩
      show ptr _ (last P K N k (i : Int) 0 s) = none
      rw [last_fresh P K N (by omega)]
      rfl
    · rw [upd_other _ _ e]
      have h := T.props i (by omega)
      have e2 : (fun s => ptr (upd A nn w.heap.size) (last P K N k i 0 s)) = (fun s => ptr A (last P K N k i 0 s)) := funext fun s => ptr_upd hk
      rw [e2]
      exact h.kept (fun mb hm => old mb (h.lt hm))
  · by_cases e1 : i = nn
    · by_cases e2 : j = nn
      · omega
      · rw [e1, upd_same, upd_other _ _ e2] at e
        have := (T.node j (by omega)).lt
        omega
    · by_cases e2 : j = nn
      · rw [e2, upd_same, upd_other _ _ e1] at e
        have := (T.node i (by omega)).lt
        omega
      · rw [upd_other _ _ e1, upd_other _ _ e2] at e
        exact T.inj i j (by omega) (by omega) e
  · by_cases h1 : i = nn
    · rw [h1, upd_same] at e1; cases e1
    · by_cases h2 : j = nn
      · rw [h2, upd_same] at e2; cases e2
      · rw [upd_other _ _ h1] at e1
        rw [upd_other _ _ h2] at e2
        exact T.minj i j mb (by omega) (by omega) e1 e2
  · by_cases e : i = nn
    · subst e
      rw [upd_same, upd_same]
      exact ⟨hb, fun mb h => by cases h⟩
    · rw [upd_other _ _ e, upd_other _ _ e]
      exact T.low i (by omega)

/-- One edge more, laid at its parent p: only p's block and p's map have turned. -/
theorem Tree.link {w w' : World} {base nn k p : Nat} {A : Nat → Nat} {M : Nat → Option Nat} {m' : Option Nat} (T : Tree P K N w base nn k A M) (hp : p < nn) (hpar : par (P k) k = (p : Int))
    (hb : ∀ b, b < w.heap.size → b ≠ A p → M p ≠ some b → w'.heap[b]? = w.heap[b]?)
    (hm : M p = m' ∨ ∃ mb, m' = some mb ∧ w.heap.size ≤ mb) (hbase : base ≤ w.heap.size)
    (node' : NodeAt w' (A p) m' (ptr A (last P K N (k + 1) p 2 ByteArray.empty)) (ptr A (last P K N (k + 1) p 1 ByteArray.empty)))
    (props' : Props w' (k + 1) m' (fun s => ptr A (last P K N (k + 1) p 0 s))) :
    Tree P K N w' base nn (k + 1) A (upd M p m') := by
  refine ⟨fun i hi => ?_, fun i hi => ?_, T.inj, fun i j mb hi hj e1 e2 => ?_, fun i hi => ?_⟩
  · by_cases e : i = p
    · subst e; rw [upd_same]; exact node'
    · have hne : par (P k) k ≠ (i : Int) := by omega
      rw [upd_other _ _ e, last_other_node P K N hne, last_other_node P K N hne]
      have h := T.node i hi
      exact h.kept (hb _ h.lt (fun q => e (T.inj i p hi hp q)) ((T.props p hp).ne h))
  · by_cases e : i = p
    · subst e; rw [upd_same]; exact props'
    · have hne : par (P k) k ≠ (i : Int) := by omega
      have e2 : (fun s => ptr A (last P K N (k + 1) i 0 s)) = (fun s => ptr A (last P K N k i 0 s)) := funext fun s => by rw [last_other_node P K N hne]
      rw [upd_other _ _ e, e2]
      have h := T.props i hi
      refine (h.mono (by omega)).kept (fun mb hmb => hb mb (h.lt hmb) (fun q => ?_) (fun q => e (T.minj i p mb hi hp hmb q)))
      exact h.ne (T.node p hp) (by rw [← q]; exact hmb)
  · have new : ∀ i, i < nn → i ≠ p → M i = some mb → m' = some mb → False := by
      intro i hi h h1 h2
      rcases hm with hm | ⟨mb', hm, hge⟩
      · exact h (T.minj i p mb hi hp h1 (hm.trans h2))
      · rw [hm] at h2
        cases h2
        have := (T.props i hi).lt h1
        omega
    by_cases h1 : i = p
    · by_cases h2 : j = p
      · omega
      · subst h1
        rw [upd_same] at e1
        rw [upd_other _ _ h2] at e2
        exact (new j hj h2 e2 e1).elim
    · by_cases h2 : j = p
      · subst h2
        rw [upd_same] at e2
        rw [upd_other _ _ h1] at e1
        exact (new i hi h1 e1 e2).elim
      · rw [upd_other _ _ h1] at e1
        rw [upd_other _ _ h2] at e2
        exact T.minj i j mb hi hj e1 e2
  · by_cases e : i = p
    · subst e
      rw [upd_same]
      refine ⟨(T.low i hi).1, fun mb h => ?_⟩
      rcases hm with hm | ⟨mb', hm, hge⟩
      · exact (T.low i hi).2 mb (hm.trans h)
      · rw [hm] at h; cases h; omega
    · rw [upd_other _ _ e]
      exact T.low i hi

/-- The edge is one to the items. -/
theorem Tree.items {w w' : World} {base nn k p : Nat} {A : Nat → Nat} {M : Nat → Option Nat} (T : Tree P K N w base nn k A M) (hp : p < nn) (hpar : par (P k) k = (p : Int)) (hk : K k % 3 = 1) (hbase : base ≤ w.heap.size)
    (h : NodeAt w' (A p) (M p) (ptr A (last P K N k p 2 ByteArray.empty)) (some ⟨A (k + 1), 0, none⟩)) (hg : w.grownBy w' (some (A p))) : ∃ M', Tree P K N w' base nn (k + 1) A M' := by
  have hit : hitB P K N k p 1 ByteArray.empty = true := by simp [hitB, hpar, hk]
  have e1 := last_take P K N hit
  have e2 := last_other_kind P K N (k := k) (c := p) (kd := 2) (s := ByteArray.empty) (by omega)
  have e0 : (fun s => ptr A (last P K N (k + 1) p 0 s)) = (fun s => ptr A (last P K N k p 0 s)) := funext fun s => by rw [last_other_kind P K N (by omega)]
  have hn := T.node p hp
  refine ⟨_, T.link (m' := M p) hp hpar (fun b hb hne _ => hg.block b hb (by intro e; cases e; exact hne rfl)) (.inl rfl) hbase (by rw [e1, e2]; exact h) ?_⟩
  rw [e0]
  exact ((T.props p hp).mono (by omega)).kept (fun mb hm => hg.block mb ((T.props p hp).lt hm) (by intro e; cases e; exact (T.props p hp).ne hn hm))

/-- .. to the values. -/
theorem Tree.values {w w' : World} {base nn k p : Nat} {A : Nat → Nat} {M : Nat → Option Nat} (T : Tree P K N w base nn k A M) (hp : p < nn) (hpar : par (P k) k = (p : Int)) (hk : K k % 3 = 2) (hbase : base ≤ w.heap.size)
    (h : NodeAt w' (A p) (M p) (some ⟨A (k + 1), 0, none⟩) (ptr A (last P K N k p 1 ByteArray.empty))) (hg : w.grownBy w' (some (A p))) : ∃ M', Tree P K N w' base nn (k + 1) A M' := by
  have hit : hitB P K N k p 2 ByteArray.empty = true := by simp [hitB, hpar, hk]
  have e1 := last_take P K N hit
  have e2 := last_other_kind P K N (k := k) (c := p) (kd := 1) (s := ByteArray.empty) (by omega)
  have e0 : (fun s => ptr A (last P K N (k + 1) p 0 s)) = (fun s => ptr A (last P K N k p 0 s)) := funext fun s => by rw [last_other_kind P K N (by omega)]
  have hn := T.node p hp
  refine ⟨_, T.link (m' := M p) hp hpar (fun b hb hne _ => hg.block b hb (by intro e; cases e; exact hne rfl)) (.inl rfl) hbase (by rw [e1, e2]; exact h) ?_⟩
  rw [e0]
  exact ((T.props p hp).mono (by omega)).kept (fun mb hm => hg.block mb ((T.props p hp).lt hm) (by intro e; cases e; exact (T.props p hp).ne hn hm))

/-- .. to a field. -/
theorem Tree.field {w w' : World} {base nn k p mb : Nat} {A : Nat → Nat} {M : Nat → Option Nat} (T : Tree P K N w base nn k A M) (hp : p < nn) (hpar : par (P k) k = (p : Int)) (hk : K k % 3 = 0) (hbase : base ≤ w.heap.size)
    (h : NodeAt w' (A p) (some mb) (ptr A (last P K N k p 2 ByteArray.empty)) (ptr A (last P K N k p 1 ByteArray.empty)))
    (ho : ownsPtrs w' mb (k + 1) (putName (fun s => ptr A (last P K N k p 0 s)) (N k) (some ⟨A (k + 1), 0, none⟩))) (hm : M p = some mb ∨ w.heap.size ≤ mb)
    (hg : ∀ b, b < w.heap.size → b ≠ A p → M p ≠ some b → w'.heap[b]? = w.heap[b]?) : ∃ M', Tree P K N w' base nn (k + 1) A M' := by
  have e1 := last_other_kind P K N (k := k) (c := p) (kd := 1) (s := ByteArray.empty) (by omega)
  have e2 := last_other_kind P K N (k := k) (c := p) (kd := 2) (s := ByteArray.empty) (by omega)
  refine ⟨_, T.link (m' := some mb) hp hpar hg (hm.imp id (fun h => ⟨mb, rfl, h⟩)) hbase (by rw [e1, e2]; exact h) (.inr ⟨mb, rfl, ?_⟩)⟩
  have e0 : (fun s => ptr A (last P K N (k + 1) p 0 s)) = putName (fun s => ptr A (last P K N k p 0 s)) (N k) (some ⟨A (k + 1), 0, none⟩) := by
    funext s
    unfold putName
    by_cases e : s.data.toList = (N k).data.toList
    · have hit : hitB P K N k p 0 s = true := by simp [hitB, hpar, hk, ByteArray.toList_eq, e]
      rw [if_pos e, last_take P K N hit]
      rfl
    · have hit : hitB P K N k p 0 s = false := by
        have e' : ¬ (N k).data.toList = s.data.toList := fun q => e q.symm
        simp only [hitB, hpar, hk, ByteArray.toList_eq]
        simp only [bne_self_eq_false, Bool.false_or, Bool.and_eq_false_iff]
        right
        simpa using e'
      rw [if_neg e, last_skip P K N hit]
  rw [e0]
  exact ho
end Go.Proofs.Qxb6000407aMods.Sch
