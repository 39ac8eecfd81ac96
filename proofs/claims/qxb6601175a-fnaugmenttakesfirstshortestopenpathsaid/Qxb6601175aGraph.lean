/-
  THE GRAPH IN MEMORY: the walker's table and behind it row n + 5: next, n + 6: trail, n + 7: the graph's struct.
-/
import Derived.Test.Qxb6601175aInsert
namespace Go.Proofs.Qxb6601175a
open Go.RowKit

abbrev nilS : Value := .slice none 0 0

structure GS (w : World) (B n bg bw : Nat) (R : Nat → Rw) (arcs : List (List Nat)) (ba ca bd cd bv cv : Nat) (vo vn vt : Value) (d : List Int) (via O : List Nat) (next : List Int) (trail : List Nat) : Prop where
  ws : WS' w B (n + 8) n bw R arcs ba ca bd cd bv cv vo d via O
  nx : R (n + 5) = ⟨3, vn, ints next⟩
  tr : R (n + 6) = ⟨3, vt, ints (nz trail)⟩
  gr : R (n + 7) = ⟨96, .slice (some ⟨bg, 0, none⟩) 8 8, [nilS, nilS, .slice (some ⟨ba, 0, none⟩) n ca, .pointer (some ⟨bw, 0, none⟩), vt, vn, nilS, nilS]⟩

section
variable {w : World} {B n bg bw : Nat} {R : Nat → Rw} {arcs : List (List Nat)} {ba ca bd cd bv cv : Nat} {vo vn vt : Value} {d : List Int} {via O : List Nat} {next : List Int} {trail : List Nat}

theorem WS.rowX {m : Nat} {va vd vv : Value} (h : WS w B m n bw R arcs va vd vv vo d via O) (i : Nat) (hi : n + 5 ≤ i) (him : i < m) : Own1 w B (R i) := by
  have := h.own.row i him
  rwa [tab_o i (by omega)] at this

theorem GS.rowN (h : GS w B n bg bw R arcs ba ca bd cd bv cv vo vn vt d via O next trail) : Own1 w B ⟨3, vn, ints next⟩ := by have := h.ws.rowX (n + 5) (by omega) (by omega); rwa [h.nx] at this
theorem GS.rowT (h : GS w B n bg bw R arcs ba ca bd cd bv cv vo vn vt d via O next trail) : Own1 w B ⟨3, vt, ints (nz trail)⟩ := by have := h.ws.rowX (n + 6) (by omega) (by omega); rwa [h.tr] at this
theorem GS.rowG (h : GS w B n bg bw R arcs ba ca bd cd bv cv vo vn vt d via O next trail) : Own1 w B ⟨96, .slice (some ⟨bg, 0, none⟩) 8 8, [nilS, nilS, .slice (some ⟨ba, 0, none⟩) n ca, .pointer (some ⟨bw, 0, none⟩), vt, vn, nilS, nilS]⟩ := by
  have := h.ws.rowX (n + 7) (by omega) (by omega); rwa [h.gr] at this

/-- the graph's fields -/
theorem GS.field (h : GS w B n bg bw R arcs ba ca bd cd bv cv vo vn vt d via O next trail) : w.cell? ⟨bg, 2, none⟩ = some (.slice (some ⟨ba, 0, none⟩) n ca) ∧ w.cell? ⟨bg, 3, none⟩ = some (.pointer (some ⟨bw, 0, none⟩)) ∧ w.cell? ⟨bg, 4, none⟩ = some vt ∧ w.cell? ⟨bg, 5, none⟩ = some vn ∧ w.frozen? ⟨bg, 4, none⟩ = false :=
  ⟨h.rowG.cell 2 (by simp), h.rowG.cell 3 (by simp), h.rowG.cell 4 (by simp), h.rowG.cell 5 (by simp), h.rowG.frozen 4⟩

theorem GS.walked (h : GS w B n bg bw R arcs ba ca bd cd bv cv vo vn vt d via O next trail) {w' : World} {vo' : Value} {d' : List Int} {via' O' : List Nat} (hw : WS' w' B (n + 8) n bw R arcs ba ca bd cd bv cv vo' d' via' O') :
    GS w' B n bg bw R arcs ba ca bd cd bv cv vo' vn vt d' via' O' next trail := ⟨hw, h.nx, h.tr, h.gr⟩

theorem GS.drewN (h : GS w B n bg bw R arcs ba ca bd cd bv cv vo vn vt d via O next trail) (k : Nat) : GS (w.drewN k) B n bg bw R arcs ba ca bd cd bv cv vo vn vt d via O next trail := ⟨h.ws.drewN k, h.nx, h.tr, h.gr⟩
theorem GS.drew (h : GS w B n bg bw R arcs ba ca bd cd bv cv vo vn vt d via O next trail) : GS w.drew B n bg bw R arcs ba ca bd cd bv cv vo vn vt d via O next trail := ⟨h.ws.drew, h.nx, h.tr, h.gr⟩

theorem tab_upd {va vd vv : Value} (i : Nat) (r : Rw) (hi : i ≠ n + 1 ∧ i ≠ n + 2 ∧ i ≠ n + 3 ∧ i ≠ n + 4) (j : Nat) : tab (upd R i r) n bw va vd vv vo d via O j = upd (tab R n bw va vd vv vo d via O) i r j := by
  by_cases h : j = i
  · rw [h, upd_same, tab_o i hi, upd_same]
  · rw [upd_other _ _ _ _ h]
    unfold tab
    unfold upd
    rw [if_neg h]

/-- a row behind the walker's is turned -/
theorem WS.put {m : Nat} {va vd vv : Value} (h : WS w B m n bw R arcs va vd vv vo d via O) (i : Nat) (hi : n + 5 ≤ i) (him : i < m) {w1 : World} (hg : w.grownBy w1 (R i).v.ownBlock) {r : Rw} (hr : Own1 w1 B r)
    (hat : r.v.ownBlock = none ∨ r.v.ownBlock = (R i).v.ownBlock ∨ ∃ g, r.v.ownBlock = some g ∧ w.heap.size ≤ g) : WS w1 B m n bw (upd R i r) arcs va vd vv vo d via O := by
  have hs := hg.size
  have hB := h.hB
  refine ⟨?_, h.hm, ⟨h.fix.an, ?_, fun u hu => ?_⟩, by omega⟩
  · refine (h.own.put him (r := r) ?_ hr ?_).congr fun j hj => ?_
    · rw [tab_o i (by omega)]; exact hg
    · rw [tab_o i (by omega)]; exact hat
    · exact tab_upd i r (by omega) j
  · rw [upd_other _ _ _ _ (by omega), h.fix.top]
    congr 1
    apply List.map_congr_left
    intro u hu
    have := List.mem_range.1 hu
    rw [upd_other _ _ _ _ (by omega)]
  · rw [upd_other _ _ _ _ (by omega)]; exact h.fix.row u hu

/-- trail is turned where it lies -/
theorem GS.turnT (h : GS w B n bg bw R arcs ba ca bd cd bv cv vo vn vt d via O next trail) {w1 : World} (hg : w.grownBy w1 vt.ownBlock) {trail' : List Nat} (ho : Own1 w1 B ⟨3, vt, ints (nz trail')⟩) :
    ∃ R', GS w1 B n bg bw R' arcs ba ca bd cd bv cv vo vn vt d via O next trail' ∧ Below B w w1 := by
  refine ⟨upd R (n + 6) ⟨3, vt, ints (nz trail')⟩, ⟨h.ws.put (n + 6) (by omega) (by omega) (by rw [h.tr]; exact hg) ho (by rw [h.tr]; exact .inr (.inl rfl)), ?_, upd_same _ _ _, ?_⟩, below_grown hg h.ws.hB (fun k hk => (h.rowT.lt k hk).1)⟩
  · rw [upd_other _ _ _ _ (by omega)]; exact h.nx
  · rw [upd_other _ _ _ _ (by omega)]; exact h.gr

/-- trail gets a new value, which is stored in the graph -/
theorem GS.setT (h : GS w B n bg bw R arcs ba ca bd cd bv cv vo vn vt d via O next trail) {w1 : World} (hg : w.grownBy w1 vt.ownBlock) {vt' : Value} {trail' : List Nat} (ho : Own1 w1 B ⟨3, vt', ints (nz trail')⟩)
    (hat : vt'.ownBlock = none ∨ vt'.ownBlock = vt.ownBlock ∨ ∃ g, vt'.ownBlock = some g ∧ w.heap.size ≤ g) :
    w1.cell? ⟨bg, 4, none⟩ = some vt ∧ w1.frozen? ⟨bg, 4, none⟩ = false ∧ ∃ R', GS (w1.setCell ⟨bg, 4, none⟩ vt') B n bg bw R' arcs ba ca bd cd bv cv vo vn vt' d via O next trail' ∧ Below B w (w1.setCell ⟨bg, 4, none⟩ vt') := by
  have h1 := h.ws.put (n + 6) (by omega) (by omega) (by rw [h.tr]; exact hg) ho (by rw [h.tr]; exact hat)
  have hgr : upd R (n + 6) ⟨3, vt', ints (nz trail')⟩ (n + 7) = ⟨96, .slice (some ⟨bg, 0, none⟩) 8 8, [nilS, nilS, .slice (some ⟨ba, 0, none⟩) n ca, .pointer (some ⟨bw, 0, none⟩), vt, vn, nilS, nilS]⟩ := by
    rw [upd_other _ _ _ _ (by omega)]; exact h.gr
  have hG := h1.rowX (n + 7) (by omega) (by omega)
  rw [hgr] at hG
  refine ⟨hG.cell 4 (by simp), hG.frozen 4, upd (upd R (n + 6) ⟨3, vt', ints (nz trail')⟩) (n + 7) ⟨96, .slice (some ⟨bg, 0, none⟩) 8 8, [nilS, nilS, .slice (some ⟨ba, 0, none⟩) n ca, .pointer (some ⟨bw, 0, none⟩), vt', vn, nilS, nilS]⟩, ⟨?_, ?_, ?_, ?_⟩, ?_⟩
  · refine h1.put (n + 7) (by omega) (by omega) ?_ (hG.set 4 vt') ?_
    · rw [hgr]; exact grown_setCell w1 bg 4 vt'
    · rw [hgr]; exact .inr (.inl rfl)
  · rw [upd_other _ _ _ _ (by omega), upd_other _ _ _ _ (by omega)]; exact h.nx
  · rw [upd_other _ _ _ _ (by omega), upd_same]
  · rw [upd_same]
  · exact ((Below.refl _ _).grown hg h.ws.hB (fun k hk => (h.rowT.lt k hk).1)).setCell (h.rowG.lt bg rfl).1 _

/-- behind an append onto trail -/
theorem GS.push (h : GS w B n bg bw R arcs ba ca bd cd bv cv vo vn vt d via O next trail) {X : Obj} {w1 : World} (hg : (w.alloc X).grownBy w1 vt.ownBlock) {g k cap : Nat} {trail' : List Nat} {xs : List Value}
    (ho : w1.ownsRow B 3 1 (.slice (some ⟨g, 0, none⟩) k cap) k xs) (hx : xs = ints (nz trail')) (hk : k = trail'.length) (hat : vt.ownBlock = some g ∨ g = w.heap.size + 1) :
    w1.cell? ⟨bg, 4, none⟩ = some vt ∧ w1.frozen? ⟨bg, 4, none⟩ = false ∧ ∃ R', GS (w1.setCell ⟨bg, 4, none⟩ (.slice (some ⟨g, 0, none⟩) k cap)) B n bg bw R' arcs ba ca bd cd bv cv vo vn (.slice (some ⟨g, 0, none⟩) k cap) d via O next trail' ∧
      Below B w (w1.setCell ⟨bg, 4, none⟩ (.slice (some ⟨g, 0, none⟩) k cap)) := by
  subst hx hk
  have ho' : Own1 w1 B ⟨3, .slice (some ⟨g, 0, none⟩) trail'.length cap, ints (nz trail')⟩ := by
    unfold Own1
    rw [ints_length, nz_length]
    exact ho
  exact h.setT (grown_trans (World.grownBy_alloc w X _) hg) ho' (by
    rcases hat with h5 | h5
    · right; left
      rw [h5]; rfl
    · right; right
      exact ⟨g, rfl, by omega⟩)

/-- a store into next -/
theorem GS.setN {bn nn cn : Nat} (h : GS w B n bg bw R arcs ba ca bd cd bv cv vo (.slice (some ⟨bn, 0, none⟩) nn cn) vt d via O next trail) (k : Nat) (x : Int) :
    ∃ R', GS (w.setCell ⟨bn, k, none⟩ (.int .i64 x)) B n bg bw R' arcs ba ca bd cd bv cv vo (.slice (some ⟨bn, 0, none⟩) nn cn) vt d via O (next.set k x) trail ∧ Below B w (w.setCell ⟨bn, k, none⟩ (.int .i64 x)) := by
  refine ⟨upd R (n + 5) ⟨3, .slice (some ⟨bn, 0, none⟩) nn cn, ints (next.set k x)⟩, ⟨?_, upd_same _ _ _, ?_, ?_⟩, (Below.refl _ _).setCell (h.rowN.lt bn rfl).1 _⟩
  · refine h.ws.put (n + 5) (by omega) (by omega) (by rw [h.nx]; exact grown_setCell w bn k _) ?_ (by rw [h.nx]; exact .inr (.inl rfl))
    have := h.rowN.set k (.int .i64 x)
    rwa [ints_set] at this
  · rw [upd_other _ _ _ _ (by omega)]; exact h.tr
  · rw [upd_other _ _ _ _ (by omega)]; exact h.gr

/-- list u gets a new value, which is stored in the outer arcs -/
theorem GS.setL (h : GS w B n bg bw R arcs ba ca bd cd bv cv vo vn vt d via O next trail) (u : Nat) (hu : u < n) {w1 : World} (hg : w.grownBy w1 (R (u + 1)).v.ownBlock) {v' : Value} {l : List Nat} (ho : Own1 w1 B ⟨3, v', ints (nz l)⟩)
    (hat : v'.ownBlock = none ∨ v'.ownBlock = (R (u + 1)).v.ownBlock ∨ ∃ g, v'.ownBlock = some g ∧ w.heap.size ≤ g) :
    w1.cell? ⟨ba, u, none⟩ = some (R (u + 1)).v ∧ w1.frozen? ⟨ba, u, none⟩ = false ∧ w1.cell? ⟨bg, 2, none⟩ = some (.slice (some ⟨ba, 0, none⟩) n ca) ∧
    ∃ R', GS (w1.setCell ⟨ba, u, none⟩ v') B n bg bw R' (arcs.set u l) ba ca bd cd bv cv vo vn vt d via O next trail ∧ Below B w (w1.setCell ⟨ba, u, none⟩ v') := by
  have hm := h.ws.hm
  have ht : tab R n bw (.slice (some ⟨ba, 0, none⟩) n ca) (.slice (some ⟨bd, 0, none⟩) n cd) (.slice (some ⟨bv, 0, none⟩) n cv) vo d via O (u + 1) = R (u + 1) := tab_o _ (by omega)
  have h1 := h.ws.own.put (i := u + 1) (by omega) (r := ⟨3, v', ints (nz l)⟩) (by rw [ht]; exact hg) ho (by rw [ht]; exact hat)
  have hA := h1.row 0 (by omega)
  rw [upd_other _ _ _ _ (by omega), tab_o 0 (by omega), h.ws.fix.top] at hA
  have hGr := h1.row (n + 7) (by omega)
  rw [upd_other _ _ _ _ (by omega), tab_o (n + 7) (by omega), h.gr] at hGr
  have hs := hg.size
  have hB := h.ws.hB
  refine ⟨?_, hA.frozen u, hGr.cell 2 (by simp), upd (upd R (u + 1) ⟨3, v', ints (nz l)⟩) 0 ⟨23, .slice (some ⟨ba, 0, none⟩) n ca, ((List.range n).map fun x => (R (x + 1)).v).set u v'⟩, ⟨⟨?_, h.ws.hm, ⟨?_, ?_, ?_⟩, ?_⟩, ?_, ?_, ?_⟩, ?_⟩
  · rw [hA.cell u (by simpa using hu)]; simp
  · have h0 : upd (tab R n bw (.slice (some ⟨ba, 0, none⟩) n ca) (.slice (some ⟨bd, 0, none⟩) n cd) (.slice (some ⟨bv, 0, none⟩) n cv) vo d via O) (u + 1) ⟨3, v', ints (nz l)⟩ 0 = ⟨23, .slice (some ⟨ba, 0, none⟩) n ca, (List.range n).map fun x => (R (x + 1)).v⟩ := by
      rw [upd_other _ _ _ _ (by omega), tab_o 0 (by omega), h.ws.fix.top]
    refine (h1.set (i := 0) (by omega) h0 u v').congr fun j hj => ?_
    rw [tab_upd 0 _ (by omega) j]
    by_cases h0 : j = 0
    · rw [h0, upd_same, upd_same]
    · rw [upd_other _ _ _ _ h0, upd_other _ _ _ _ h0, tab_upd (u + 1) _ (by omega) j]
  · rw [List.length_set]; exact h.ws.fix.an
  · rw [upd_same]
    congr 1
    apply List.ext_getElem
    · simp
    · intro x h3 h4
      simp only [List.length_set, List.length_map, List.length_range] at h3
      rw [List.getElem_set]
      simp only [List.getElem_map, List.getElem_range]
      rw [upd_other _ _ _ _ (by omega)]
      by_cases e : u = x
      · subst e
        rw [if_pos rfl, upd_same]
      · rw [if_neg e, upd_other _ _ _ _ (by omega)]
  · intro x hx
    rw [upd_other _ _ _ _ (by omega)]
    by_cases e : x = u
    · subst e
      rw [upd_same, getD_set_self _ _ _ _ (by rw [h.ws.fix.an]; exact hx)]
    · rw [upd_other _ _ _ _ (by omega), getD_set_ne _ _ _ _ _ (Ne.symm e)]
      exact h.ws.fix.row x hx
  · simp [World.setCell]; omega
  · rw [upd_other _ _ _ _ (by omega), upd_other _ _ _ _ (by omega)]; exact h.nx
  · rw [upd_other _ _ _ _ (by omega), upd_other _ _ _ _ (by omega)]; exact h.tr
  · rw [upd_other _ _ _ _ (by omega), upd_other _ _ _ _ (by omega)]; exact h.gr
  · refine ((Below.refl _ _).grown hg hB (fun k hk => ?_)).setCell (h.ws.rowA.lt ba rfl).1 _
    have := h.ws.rowL u hu
    exact (this.lt k hk).1
end
end Go.Proofs.Qxb6601175a
