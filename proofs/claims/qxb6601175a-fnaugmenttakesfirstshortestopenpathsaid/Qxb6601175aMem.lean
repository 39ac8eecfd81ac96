/-
  MEMORY of the seat b6601175a: no Go text in it: rows of cells that the call owns, a table of such rows, pairwise apart, and what a write does to the table.
-/
import Derived.Deep.AppendLies
import Derived.Deep.OwnRows
import Derived.Below
import Derived.WalkKit
import Derived.WalkSmall
namespace Go.Proofs.Qxb6601175a
open Go.RowKit

/-- a row: the tag of its block, the slice value, its cells -/
structure Rw where
  e : TypeId
  v : Value
  xs : List Value

def Own1 (w : World) (B : Nat) (r : Rw) : Prop := w.ownsRow B r.e 1 r.v r.xs.length r.xs
def Far (a b : Value) : Prop := a.ownBlock = none ∨ a.ownBlock ≠ b.ownBlock

/-- the table: rows 0 .. m - 1, each owned from block B on, no two in one block -/
structure Own (w : World) (B m : Nat) (R : Nat → Rw) : Prop where
  row : ∀ i, i < m → Own1 w B (R i)
  far : ∀ i j, i < m → j < m → i ≠ j → Far (R i).v (R j).v

def upd (R : Nat → Rw) (i : Nat) (r : Rw) : Nat → Rw := fun j => if j = i then r else R j
theorem upd_same (R : Nat → Rw) (i : Nat) (r : Rw) : upd R i r i = r := if_pos rfl
theorem upd_other (R : Nat → Rw) (i j : Nat) (r : Rw) (h : j ≠ i) : upd R i r j = R j := if_neg h

theorem Own1.mk {w : World} {B : Nat} {e : TypeId} {b cap : Nat} {cur : Array Value} {xs : List Value} (hB : B ≤ b) (hb : w.heap[b]? = some (.cells cur e (0, 0))) (hn : xs.length ≤ cap) (hm : cap ≤ maxLen) (hs : cur.size = cap) (hx : cur.toList.take xs.length = xs) :
    Own1 w B ⟨e, .slice (some ⟨b, 0, none⟩) xs.length cap, xs⟩ :=
  ⟨by simp, .inr ⟨b, cap, cur, rfl, hB, hb, hn, hm, by simpa using hs, by simpa using hx⟩⟩
theorem Own1.nil (w : World) (B : Nat) (e : TypeId) : Own1 w B ⟨e, .slice none 0 0, []⟩ := World.ownsRow_nil w B e 1

/-- what an owned row looks like -/
theorem Own1.form {w : World} {B : Nat} {r : Rw} (h : Own1 w B r) : (r.v = .slice none 0 0 ∧ r.xs = []) ∨
    ∃ b cap cur, r.v = .slice (some ⟨b, 0, none⟩) r.xs.length cap ∧ B ≤ b ∧ b < w.heap.size ∧ w.heap[b]? = some (.cells cur r.e (0, 0)) ∧ r.xs.length ≤ cap ∧ cap ≤ maxLen ∧ cur.size = cap ∧ cur.toList.take r.xs.length = r.xs := by
  obtain ⟨h1, h2⟩ := h
  rcases h2 with ⟨h3, h4⟩ | ⟨b, cap, cur, h3, h4, h5, h6, h7, h8, h9⟩
  · exact .inl ⟨h3, List.length_eq_zero_iff.1 h4⟩
  · exact .inr ⟨b, cap, cur, h3, h4, (Array.getElem?_eq_some_iff.1 h5).1, h5, h6, h7, by simpa using h8, by simpa using h9⟩

theorem Own1.lt {w : World} {B : Nat} {r : Rw} (h : Own1 w B r) : ∀ k, r.v.ownBlock = some k → B ≤ k ∧ k < w.heap.size := World.ownsRow.lt h

theorem Own1.kept {w w' : World} {B : Nat} {r : Rw} {row : Option Nat} (h : Own1 w B r) (hg : w.grownBy w' row) (hne : r.v.ownBlock = none ∨ r.v.ownBlock ≠ row) : Own1 w' B r := World.ownsRow.kept h hg hne

theorem Own1.heap {w w' : World} {B : Nat} {r : Rw} (h : Own1 w B r) (hg : w.grownBy w' none) : Own1 w' B r := h.kept hg (by cases r.v.ownBlock <;> simp)

theorem Own1.mono {w : World} {B B' : Nat} {r : Rw} (h : Own1 w B r) (hB : B' ≤ B) : Own1 w B' r := by
  rcases h.form with ⟨h1, h2⟩ | ⟨b, cap, cur, h1, h2, _, h4, h5, h6, h7, h8⟩
  · obtain ⟨e, v, xs⟩ := r
    dsimp only at h1 h2
    subst h1 h2
    exact Own1.nil _ _ _
  · obtain ⟨e, v, xs⟩ := r
    dsimp only at h1
    subst h1
    exact Own1.mk (Nat.le_trans hB h2) h4 h5 h6 h7 h8

theorem Own1.cell {w : World} {B : Nat} {e : TypeId} {b o n cap : Nat} {xs : List Value} (h : Own1 w B ⟨e, .slice (some ⟨b, o, none⟩) n cap, xs⟩) (j : Nat) (hj : j < xs.length) : w.cell? ⟨b, j, none⟩ = some xs[j] := by
  rcases h.form with ⟨h1, _⟩ | ⟨b', cap', cur, h1, _, _, h4, _, _, _, h8⟩
  · cases h1
  · simp only [Value.slice.injEq, Option.some.injEq, Addr.mk.injEq] at h1
    obtain ⟨⟨rfl, rfl, _⟩, _, _⟩ := h1
    rw [cell_of_row w b j cur e (0, 0) h4]
    have : (cur.toList.take xs.length)[j]? = some xs[j] := by rw [h8]; exact List.getElem?_eq_getElem hj
    rw [List.getElem?_take_of_lt hj] at this
    simpa using this

theorem Own1.spare {w : World} {B : Nat} {e : TypeId} {b o n cap : Nat} {xs : List Value} (h : Own1 w B ⟨e, .slice (some ⟨b, o, none⟩) n cap, xs⟩) (j : Nat) (hj : j < cap) : (w.cell? ⟨b, j, none⟩).isSome = true := by
  rcases h.form with ⟨h1, _⟩ | ⟨b', cap', cur, h1, _, _, h4, _, _, h7, _⟩
  · cases h1
  · simp only [Value.slice.injEq, Option.some.injEq, Addr.mk.injEq] at h1
    obtain ⟨⟨rfl, rfl, _⟩, _, rfl⟩ := h1
    rw [cell_of_row w b j cur e (0, 0) h4, Array.getElem?_eq_getElem (by omega)]
    rfl

theorem Own1.frozen {w : World} {B : Nat} {e : TypeId} {b o n cap : Nat} {xs : List Value} (h : Own1 w B ⟨e, .slice (some ⟨b, o, none⟩) n cap, xs⟩) (j : Nat) : w.frozen? ⟨b, j, none⟩ = false := by
  rcases h.form with ⟨h1, _⟩ | ⟨b', cap', cur, h1, _, _, h4, _, _, _, _⟩
  · cases h1
  · simp only [Value.slice.injEq, Option.some.injEq, Addr.mk.injEq] at h1
    obtain ⟨⟨rfl, rfl, _⟩, _, _⟩ := h1
    simp [World.frozen?, h4]

/-! ### worlds -/
theorem grown_heap {w w' : World} (hh : w'.heap = w.heap) (ho : w'.os = w.os) (ht : w'.tape = w.tape) (hu : w'.output = w.output) (row : Option Nat) : w.grownBy w' row :=
  ⟨ho, ht, hu, by rw [hh]; exact Nat.le_refl _, fun k _ _ => by rw [hh]⟩
theorem grown_drewN (w : World) (n : Nat) (row : Option Nat) : w.grownBy (w.drewN n) row := grown_heap (w := w) (w' := w.drewN n) rfl rfl rfl rfl row
theorem grown_refl (w : World) (row : Option Nat) : w.grownBy w row := grown_heap rfl rfl rfl rfl row
theorem grown_setCell (w : World) (b j : Nat) (x : Value) : w.grownBy (w.setCell ⟨b, j, none⟩ x) (some b) :=
  ⟨rfl, rfl, rfl, by simp [World.setCell], fun k _ hne => Below.heap_setCell _ _ _ _ (fun e => hne (by rw [e]))⟩
theorem grown_trans {a b c : World} {row : Option Nat} (h : a.grownBy b row) (k : b.grownBy c row) : a.grownBy c row :=
  ⟨k.os.trans h.os, k.tape.trans h.tape, k.output.trans h.output, Nat.le_trans h.size k.size, fun i hi hne => (k.block i (Nat.lt_of_lt_of_le hi h.size) hne).trans (h.block i hi hne)⟩
/-- a new block, then what may be written: the new block is none of the old -/
theorem grown_none {a b : World} {row : Option Nat} (h : a.grownBy b none) : a.grownBy b row :=
  ⟨h.os, h.tape, h.output, h.size, fun i hi _ => h.block i hi (by simp)⟩
theorem below_grown {B : Nat} {w w' : World} {row : Option Nat} (hg : w.grownBy w' row) (hB : B ≤ w.heap.size) (hr : ∀ k, row = some k → B ≤ k) : Below B w w' := (Below.refl B w).grown hg hB hr

/-! ### a store into a row -/
theorem heap_setCell_at (w : World) (b j : Nat) (x : Value) (cur : Array Value) (e : TypeId) (fr : Nat × Nat) (h : w.heap[b]? = some (.cells cur e fr)) : (w.setCell ⟨b, j, none⟩ x).heap[b]? = some (.cells (cur.setIfInBounds j x) e fr) := by
  simp only [World.setCell, Array.getElem?_modify, if_true, h, Option.map_some]
  rfl

theorem Own1.set {w : World} {B : Nat} {e : TypeId} {b n cap : Nat} {xs : List Value} (h : Own1 w B ⟨e, .slice (some ⟨b, 0, none⟩) n cap, xs⟩) (j : Nat) (x : Value) : Own1 (w.setCell ⟨b, j, none⟩ x) B ⟨e, .slice (some ⟨b, 0, none⟩) n cap, xs.set j x⟩ := by
  rcases h.form with ⟨h1, _⟩ | ⟨b', cap', cur, h1, h2, _, h4, h5, h6, h7, h8⟩
  · cases h1
  · simp only [Value.slice.injEq, Option.some.injEq, Addr.mk.injEq] at h1
    obtain ⟨⟨rfl, _, _⟩, rfl, rfl⟩ := h1
    dsimp only at h5 h8
    have := Own1.mk (w := w.setCell ⟨b, j, none⟩ x) (e := e) (xs := xs.set j x) (cap := cap) h2 (heap_setCell_at w b j x cur e (0, 0) h4) (by simpa using h5) h6 (by simpa using h7) (by
      rw [List.length_set, Array.toList_setIfInBounds, List.take_set, h8])
    rwa [List.length_set] at this

/-! ### the table -/
theorem Own.kept {w w' : World} {B m : Nat} {R : Nat → Rw} (h : Own w B m R) {row : Option Nat} (hg : w.grownBy w' row) (hne : ∀ i, i < m → (R i).v.ownBlock = none ∨ (R i).v.ownBlock ≠ row) : Own w' B m R :=
  ⟨fun i hi => (h.row i hi).kept hg (hne i hi), h.far⟩
theorem Own.heap {w w' : World} {B m : Nat} {R : Nat → Rw} (h : Own w B m R) (hg : w.grownBy w' none) : Own w' B m R :=
  h.kept hg (fun i _ => by cases (R i).v.ownBlock <;> simp)
theorem Own.drewN {w : World} {B m : Nat} {R : Nat → Rw} (h : Own w B m R) (n : Nat) : Own (w.drewN n) B m R := h.heap (grown_drewN w n none)
theorem Own.alloc {w : World} {B m : Nat} {R : Nat → Rw} (h : Own w B m R) (o : Obj) : Own (w.alloc o) B m R := h.heap (World.grownBy_alloc w o none)

theorem Far.symm {a b : Value} (h : Far a b) : Far b a := by
  unfold Far at *
  cases hb : b.ownBlock with
  | none => exact .inl rfl
  | some k =>
    right
    rcases h with h | h
    · rw [h]; simp
    · rw [hb] at h; exact fun e => h e.symm

/-- row i is turned: its value now lies where it lay, in a new block, or nowhere -/
theorem Own.put {w w' : World} {B m : Nat} {R : Nat → Rw} (h : Own w B m R) {i : Nat} (hi : i < m) {r : Rw} (hg : w.grownBy w' (R i).v.ownBlock) (hr : Own1 w' B r)
    (hat : r.v.ownBlock = none ∨ r.v.ownBlock = (R i).v.ownBlock ∨ ∃ g, r.v.ownBlock = some g ∧ w.heap.size ≤ g) : Own w' B m (upd R i r) := by
  have far : ∀ j, j < m → j ≠ i → Far r.v (R j).v := by
    intro j hj hne
    rcases hat with h1 | h1 | ⟨g, h1, h2⟩
    · exact .inl h1
    · have := h.far i j hi hj (Ne.symm hne)
      unfold Far at *
      rw [h1]
      exact this
    · right
      rw [h1]
      intro e
      have := ((h.row j hj).lt g e.symm).2
      omega
  refine ⟨fun j hj => ?_, fun j k hj hk hne => ?_⟩
  · by_cases e : j = i
    · subst e; rw [upd_same]; exact hr
    · rw [upd_other _ _ _ _ e]
      exact (h.row j hj).kept hg (h.far j i hj hi e)
  · by_cases ej : j = i
    · subst ej
      rw [upd_same, upd_other _ _ _ _ (Ne.symm hne)]
      exact far k hk (Ne.symm hne)
    · by_cases ek : k = i
      · subst ek
        rw [upd_same, upd_other _ _ _ _ ej]
        exact (far j hj ej).symm
      · rw [upd_other _ _ _ _ ej, upd_other _ _ _ _ ek]
        exact h.far j k hj hk hne

/-- a new row is laid -/
theorem Own.add {w w' : World} {B m : Nat} {R : Nat → Rw} (h : Own w B m R) {r : Rw} (hg : w.grownBy w' none) (hr : Own1 w' B r) (hat : r.v.ownBlock = none ∨ ∃ g, r.v.ownBlock = some g ∧ w.heap.size ≤ g) : Own w' B (m + 1) (upd R m r) := by
  have h' := h.heap hg
  have far : ∀ j, j < m → Far r.v (R j).v := by
    intro j hj
    rcases hat with h1 | ⟨g, h1, h2⟩
    · exact .inl h1
    · right
      rw [h1]
      intro e
      have := ((h.row j hj).lt g e.symm).2
      omega
  refine ⟨fun j hj => ?_, fun j k hj hk hne => ?_⟩
  · by_cases e : j = m
    · subst e; rw [upd_same]; exact hr
    · rw [upd_other _ _ _ _ e]; exact h'.row j (by omega)
  · by_cases ej : j = m
    · subst ej
      rw [upd_same, upd_other _ _ _ _ (Ne.symm hne)]
      exact far k (by omega)
    · by_cases ek : k = m
      · subst ek
        rw [upd_same, upd_other _ _ _ _ ej]
        exact (far j (by omega)).symm
      · rw [upd_other _ _ _ _ ej, upd_other _ _ _ _ ek]
        exact h.far j k (by omega) (by omega) hne

/-- a store into row i -/
theorem Own.set {w : World} {B m : Nat} {R : Nat → Rw} (h : Own w B m R) {i : Nat} (hi : i < m) {e : TypeId} {b n cap : Nat} {xs : List Value} (hR : R i = ⟨e, .slice (some ⟨b, 0, none⟩) n cap, xs⟩) (j : Nat) (x : Value) :
    Own (w.setCell ⟨b, j, none⟩ x) B m (upd R i ⟨e, .slice (some ⟨b, 0, none⟩) n cap, xs.set j x⟩) := by
  have h1 := h.row i hi
  rw [hR] at h1
  refine h.put hi ?_ (h1.set j x) ?_
  · rw [hR]; exact grown_setCell w b j x
  · rw [hR]; exact .inr (.inl rfl)

/-- below everything that is owned nothing turns -/
theorem Own.below {w w' : World} {B m : Nat} {R : Nat → Rw} (h : Own w B m R) {i : Nat} (hi : i < m) (hB : B ≤ w.heap.size) (hg : w.grownBy w' (R i).v.ownBlock) : Below B w w' :=
  below_grown hg hB (fun k hk => ((h.row i hi).lt k hk).1)

end Go.Proofs.Qxb6601175a
