/-
  THE GRAPH AND ITS WALKER IN MEMORY: one table of rows: 0 the outer arcs, 1 .. n the lists, n + 1 dist, n + 2 via, n + 3 order, n + 4 the walker; behind them whatever else.
-/
import Derived.Test.Qxb6601175aCloneLists
namespace Go.Proofs.Qxb6601175a
open Go.RowKit

/-- numbers as integers -/
def nz (l : List Nat) : List Int := l.map fun (x : Nat) => (x : Int)
theorem nz_length (l : List Nat) : (nz l).length = l.length := List.length_map _
theorem ints_set (zs : List Int) (k : Nat) (x : Int) : (ints zs).set k (.int .i64 x) = ints (zs.set k x) := by simp [ints, List.map_set]
theorem ints_append (a b : List Int) : ints (a ++ b) = ints a ++ ints b := by simp [ints]
theorem nz_set (l : List Nat) (k x : Nat) : (nz l).set k (x : Int) = nz (l.set k x) := by simp [nz, List.map_set]
theorem nz_append (a b : List Nat) : nz (a ++ b) = nz a ++ nz b := by simp [nz]
theorem ints_get (zs : List Int) (j : Nat) (h : j < zs.length) (h' : j < (ints zs).length) : (ints zs)[j] = .int .i64 zs[j] := by simp [ints]
theorem ints_getD (zs : List Int) (j : Nat) (x : Int) (h : j < zs.length) (h' : j < (ints zs).length) : (ints zs)[j] = .int .i64 (zs.getD j x) := by
  rw [ints_get zs j h h', List.getD_eq_getElem?_getD, List.getElem?_eq_getElem h]; rfl
theorem nz_getD (l : List Nat) (j : Nat) (x : Int) (h : j < l.length) : (nz l).getD j x = ((l.getD j 0 : Nat) : Int) := by
  rw [List.getD_eq_getElem?_getD, List.getD_eq_getElem?_getD, List.getElem?_eq_getElem (by rw [nz_length]; exact h), List.getElem?_eq_getElem h]
  simp [nz]

theorem Own.congr {w : World} {B m : Nat} {R R' : Nat → Rw} (h : Own w B m R) (he : ∀ i, i < m → R' i = R i) : Own w B m R' :=
  ⟨fun i hi => by rw [he i hi]; exact h.row i hi, fun i j hi hj hne => by rw [he i hi, he j hj]; exact h.far i j hi hj hne⟩

/-- the walker's four rows over a table -/
def tab (R : Nat → Rw) (n bw : Nat) (va vd vv vo : Value) (d : List Int) (via O : List Nat) : Nat → Rw :=
  upd (upd (upd (upd R (n + 1) ⟨3, vd, ints d⟩) (n + 2) ⟨3, vv, ints (nz via)⟩) (n + 3) ⟨3, vo, ints (nz O)⟩) (n + 4) ⟨93, .slice (some ⟨bw, 0, none⟩) 4 4, [va, vd, vv, vo]⟩

section
variable {R : Nat → Rw} {n bw : Nat} {va vd vv vo : Value} {d : List Int} {via O : List Nat}
theorem tab_1 : tab R n bw va vd vv vo d via O (n + 1) = ⟨3, vd, ints d⟩ := by
  unfold tab; rw [upd_other _ _ _ _ (by omega), upd_other _ _ _ _ (by omega), upd_other _ _ _ _ (by omega), upd_same]
theorem tab_2 : tab R n bw va vd vv vo d via O (n + 2) = ⟨3, vv, ints (nz via)⟩ := by
  unfold tab; rw [upd_other _ _ _ _ (by omega), upd_other _ _ _ _ (by omega), upd_same]
theorem tab_3 : tab R n bw va vd vv vo d via O (n + 3) = ⟨3, vo, ints (nz O)⟩ := by
  unfold tab; rw [upd_other _ _ _ _ (by omega), upd_same]
theorem tab_4 : tab R n bw va vd vv vo d via O (n + 4) = ⟨93, .slice (some ⟨bw, 0, none⟩) 4 4, [va, vd, vv, vo]⟩ := by
  unfold tab; rw [upd_same]
theorem tab_o (i : Nat) (h : i ≠ n + 1 ∧ i ≠ n + 2 ∧ i ≠ n + 3 ∧ i ≠ n + 4) : tab R n bw va vd vv vo d via O i = R i := by
  unfold tab; rw [upd_other _ _ _ _ h.2.2.2, upd_other _ _ _ _ h.2.2.1, upd_other _ _ _ _ h.2.1, upd_other _ _ _ _ h.1]
end

/-- the table's fixed part: the outer arcs and the lists -/
structure Fix (R : Nat → Rw) (n : Nat) (va : Value) (arcs : List (List Nat)) : Prop where
  an : arcs.length = n
  top : R 0 = ⟨23, va, (List.range n).map fun u => (R (u + 1)).v⟩
  row : ∀ u, u < n → R (u + 1) = ⟨3, (R (u + 1)).v, ints (nz (arcs.getD u []))⟩

/-- THE STATE of the walker -/
structure WS (w : World) (B m n bw : Nat) (R : Nat → Rw) (arcs : List (List Nat)) (va vd vv vo : Value) (d : List Int) (via O : List Nat) : Prop where
  own : Own w B m (tab R n bw va vd vv vo d via O)
  hm : n + 5 ≤ m
  fix : Fix R n va arcs
  hB : B ≤ w.heap.size

section
variable {w : World} {B m n bw : Nat} {R : Nat → Rw} {arcs : List (List Nat)} {va vd vv vo : Value} {d : List Int} {via O : List Nat}

theorem slice_form {w : World} {B : Nat} {r : Rw} (h : Own1 w B r) (hp : 0 < r.xs.length) : ∃ b cap, r.v = .slice (some ⟨b, 0, none⟩) r.xs.length cap ∧ B ≤ b ∧ b < w.heap.size ∧ r.xs.length ≤ cap ∧ cap ≤ maxLen := by
  rcases h.form with ⟨_, h2⟩ | ⟨b, cap, cur, h1, h2, h3, _, h5, h6, _, _⟩
  · rw [h2] at hp; simp at hp
  · exact ⟨b, cap, h1, h2, h3, h5, h6⟩

theorem WS.rowD (h : WS w B m n bw R arcs va vd vv vo d via O) : Own1 w B ⟨3, vd, ints d⟩ := by have := h.own.row (n + 1) (by have := h.hm; omega); rwa [tab_1] at this
theorem WS.rowV (h : WS w B m n bw R arcs va vd vv vo d via O) : Own1 w B ⟨3, vv, ints (nz via)⟩ := by have := h.own.row (n + 2) (by have := h.hm; omega); rwa [tab_2] at this
theorem WS.rowO (h : WS w B m n bw R arcs va vd vv vo d via O) : Own1 w B ⟨3, vo, ints (nz O)⟩ := by have := h.own.row (n + 3) (by have := h.hm; omega); rwa [tab_3] at this
theorem WS.rowW (h : WS w B m n bw R arcs va vd vv vo d via O) : Own1 w B ⟨93, .slice (some ⟨bw, 0, none⟩) 4 4, [va, vd, vv, vo]⟩ := by have := h.own.row (n + 4) (by have := h.hm; omega); rwa [tab_4] at this
theorem WS.rowA (h : WS w B m n bw R arcs va vd vv vo d via O) : Own1 w B ⟨23, va, (List.range n).map fun u => (R (u + 1)).v⟩ := by
  have := h.own.row 0 (by have := h.hm; omega); rwa [tab_o 0 (by omega), h.fix.top] at this
theorem WS.rowL (h : WS w B m n bw R arcs va vd vv vo d via O) (u : Nat) (hu : u < n) : Own1 w B ⟨3, (R (u + 1)).v, ints (nz (arcs.getD u []))⟩ := by
  have := h.own.row (u + 1) (by have := h.hm; omega); rwa [tab_o (u + 1) (by omega), h.fix.row u hu] at this

/-- the walker's fields -/
theorem WS.field (h : WS w B m n bw R arcs va vd vv vo d via O) : w.cell? ⟨bw, 0, none⟩ = some va ∧ w.cell? ⟨bw, 1, none⟩ = some vd ∧ w.cell? ⟨bw, 2, none⟩ = some vv ∧ w.cell? ⟨bw, 3, none⟩ = some vo ∧ w.frozen? ⟨bw, 3, none⟩ = false :=
  ⟨h.rowW.cell 0 (by simp), h.rowW.cell 1 (by simp), h.rowW.cell 2 (by simp), h.rowW.cell 3 (by simp), h.rowW.frozen 3⟩

theorem WS.drewN (h : WS w B m n bw R arcs va vd vv vo d via O) (k : Nat) : WS (w.drewN k) B m n bw R arcs va vd vv vo d via O := ⟨h.own.drewN k, h.hm, h.fix, h.hB⟩

theorem WS.drew (h : WS w B m n bw R arcs va vd vv vo d via O) : WS w.drew B m n bw R arcs va vd vv vo d via O := ⟨h.own.heap (grown_heap (w := w) (w' := w.drew) rfl rfl rfl rfl none), h.hm, h.fix, h.hB⟩

/-- a store into dist -/
theorem WS.setD {bd nd cd : Nat} (h : WS w B m n bw R arcs va (.slice (some ⟨bd, 0, none⟩) nd cd) vv vo d via O) (k : Nat) (x : Int) : WS (w.setCell ⟨bd, k, none⟩ (.int .i64 x)) B m n bw R arcs va (.slice (some ⟨bd, 0, none⟩) nd cd) vv vo (d.set k x) via O ∧ Below B w (w.setCell ⟨bd, k, none⟩ (.int .i64 x)) := by
  have hm := h.hm
  refine ⟨⟨?_, hm, h.fix, by simpa [World.setCell] using h.hB⟩, ?_⟩
  · refine (h.own.set (i := n + 1) (by omega) tab_1 k (.int .i64 x)).congr fun i hi => ?_
    rw [ints_set]
    unfold tab upd
    by_cases h4 : i = n + 4 <;> by_cases h3 : i = n + 3 <;> by_cases h2 : i = n + 2 <;> by_cases h1 : i = n + 1 <;> simp [h4, h3, h2, h1] <;> omega
  · exact (Below.refl _ _).setCell (h.rowD.lt bd rfl).1 _
theorem WS.setV {bv nv cv : Nat} (h : WS w B m n bw R arcs va vd (.slice (some ⟨bv, 0, none⟩) nv cv) vo d via O) (k x : Nat) : WS (w.setCell ⟨bv, k, none⟩ (.int .i64 (x : Int))) B m n bw R arcs va vd (.slice (some ⟨bv, 0, none⟩) nv cv) vo d (via.set k x) O ∧ Below B w (w.setCell ⟨bv, k, none⟩ (.int .i64 (x : Int))) := by
  have hm := h.hm
  refine ⟨⟨?_, hm, h.fix, by simpa [World.setCell] using h.hB⟩, ?_⟩
  · refine (h.own.set (i := n + 2) (by omega) tab_2 k (.int .i64 (x : Int))).congr fun i hi => ?_
    rw [ints_set, nz_set]
    unfold tab upd
    by_cases h4 : i = n + 4 <;> by_cases h3 : i = n + 3 <;> by_cases h2 : i = n + 2 <;> by_cases h1 : i = n + 1 <;> simp [h4, h3, h2, h1] <;> omega
  · exact (Below.refl _ _).setCell (h.rowV.lt bv rfl).1 _

/-- order is turned, and its new value stored in the walker -/
theorem WS.setO (h : WS w B m n bw R arcs va vd vv vo d via O) {w1 : World} (hg : w.grownBy w1 vo.ownBlock) {vo' : Value} {O' : List Nat} (ho : Own1 w1 B ⟨3, vo', ints (nz O')⟩)
    (hat : vo'.ownBlock = none ∨ vo'.ownBlock = vo.ownBlock ∨ ∃ g, vo'.ownBlock = some g ∧ w.heap.size ≤ g) :
    WS (w1.setCell ⟨bw, 3, none⟩ vo') B m n bw R arcs va vd vv vo' d via O' ∧ Below B w (w1.setCell ⟨bw, 3, none⟩ vo') := by
  have hm := h.hm
  have h1 : Own w1 B m (upd (tab R n bw va vd vv vo d via O) (n + 3) ⟨3, vo', ints (nz O')⟩) := by
    refine h.own.put (i := n + 3) (by omega) ?_ ho ?_
    · rw [tab_3]; exact hg
    · rw [tab_3]; exact hat
  have h2 : upd (tab R n bw va vd vv vo d via O) (n + 3) ⟨3, vo', ints (nz O')⟩ (n + 4) = ⟨93, .slice (some ⟨bw, 0, none⟩) 4 4, [va, vd, vv, vo]⟩ := by
    rw [upd_other _ _ _ _ (by omega), tab_4]
  have hs := hg.size
  have hB := h.hB
  refine ⟨⟨?_, hm, h.fix, by simp [World.setCell]; omega⟩, ?_⟩
  · refine (h1.set (i := n + 4) (by omega) h2 3 vo').congr fun i hi => ?_
    unfold tab upd
    by_cases h4 : i = n + 4 <;> by_cases h3 : i = n + 3 <;> by_cases h2 : i = n + 2 <;> by_cases h1 : i = n + 1 <;> simp [h4, h3, h2, h1] <;> omega
  · exact ((Below.refl _ _).grown hg hB (fun k hk => (h.rowO.lt k hk).1)).setCell (h.rowW.lt bw rfl).1 _
end
end Go.Proofs.Qxb6601175a
