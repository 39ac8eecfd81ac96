/-
  THE TURNED ARCS: plain, and the rows they are laid in.
-/
import Derived.Test.Qxb6601175aWith
import Derived.Test.Qxb6601175aFirst
namespace Go.Proofs.Qxb6601175a
open Go.RowKit

/-- who has an arc to y, behind the first u vertices and j arcs of vertex u -/
def revL (arcs : List (List Nat)) (u j y : Nat) : List Nat := (List.range u).filter (fun x => decide (y ∈ arcs.getD x [])) ++ (if y ∈ (arcs.getD u []).take j then [u] else [])

theorem revL_next (arcs : List (List Nat)) (u j y : Nat) (h : (arcs.getD u []).length ≤ j) : revL arcs (u + 1) 0 y = revL arcs u j y := by
  unfold revL
  rw [List.range_succ, List.filter_append, List.take_of_length_le h]
  by_cases e : y ∈ arcs.getD u []
  · rw [if_neg (by simp), if_pos e, List.append_nil, List.filter_cons, if_pos (decide_eq_true e)]; rfl
  · rw [if_neg (by simp), if_neg e, List.append_nil, List.filter_cons, if_neg (by simpa using e)]; rfl

theorem take_mem {l : List Nat} {j y : Nat} (h : j < l.length) : y ∈ l.take (j + 1) ↔ y ∈ l.take j ∨ y = l.getD j 0 := by
  have e : l.getD j 0 = l[j] := by rw [List.getD_eq_getElem?_getD, List.getElem?_eq_getElem h]; rfl
  rw [List.take_succ_eq_append_getElem h, List.mem_append, List.mem_singleton, e]

theorem take_not {l : List Nat} {j : Nat} (hs : l.Pairwise (· < ·)) (h : j < l.length) : l.getD j 0 ∉ l.take j := by
  intro hm
  obtain ⟨i, hi, e⟩ := List.getElem_of_mem hm
  rw [List.length_take] at hi
  rw [List.getElem_take] at e
  have := List.pairwise_iff_getElem.1 hs i j (by omega) h (by omega)
  have e2 : l.getD j 0 = l[j] := by rw [List.getD_eq_getElem?_getD, List.getElem?_eq_getElem h]; rfl
  omega

theorem revL_step (arcs : List (List Nat)) (u j : Nat) (hs : (arcs.getD u []).Pairwise (· < ·)) (h : j < (arcs.getD u []).length) :
    revL arcs u (j + 1) ((arcs.getD u []).getD j 0) = revL arcs u j ((arcs.getD u []).getD j 0) ++ [u] ∧ ∀ y, y ≠ (arcs.getD u []).getD j 0 → revL arcs u (j + 1) y = revL arcs u j y := by
  refine ⟨?_, fun y hy => ?_⟩
  · unfold revL
    rw [if_pos ((take_mem h).2 (.inr rfl)), if_neg (take_not hs h), List.append_nil]
  · unfold revL
    congr 1
    have : y ∈ (arcs.getD u []).take (j + 1) ↔ y ∈ (arcs.getD u []).take j := by
      rw [take_mem h]
      exact ⟨fun hh => by
        rcases hh with hh | hh
        · exact hh
        · exact absurd hh hy, .inl⟩
    simp only [this]

theorem revL_zero (arcs : List (List Nat)) (y : Nat) : revL arcs 0 0 y = [] := by simp [revL]

theorem revL_len (arcs : List (List Nat)) (u j y : Nat) : (revL arcs u j y).length ≤ u + 1 := by
  unfold revL
  rw [List.length_append]
  have h1 : ((List.range u).filter (fun x => decide (y ∈ arcs.getD x []))).length ≤ u := Nat.le_trans (List.length_filter_le _ _) (by simp)
  split
  · rw [List.length_singleton]; omega
  · rw [List.length_nil]; omega

/-- the finished lists -/
theorem revL_turned {n : Nat} (arcs : List (List Nat)) (L : List (List Nat)) (hL : ∀ y, y < n → L.getD y [] = revL arcs n 0 y) : Turned n (fun0 arcs) (fun0 L) := by
  intro x y hy
  unfold fun0
  rw [hL y hy]
  unfold revL
  rw [if_neg (by simp), List.append_nil, List.mem_filter, List.mem_range]
  simp

/-! ### the rows -/
/-- list u gets a new value, which is stored in the outer row -/
theorem LMid.turn {w wr : World} {b n : Nat} {L : List (List Nat)} {R : Nat → Rw} (h : LMid w wr b n n (L.map nz) R) (hb : b = w.heap.size) (hn : L.length = n) {u : Nat} (hu : u < n) {w1 : World} (hg : wr.grownBy w1 (R (u + 1)).v.ownBlock)
    {v' : Value} {l' : List Nat} (ho : Own1 w1 b ⟨3, v', ints (nz l')⟩) (hat : v'.ownBlock = none ∨ v'.ownBlock = (R (u + 1)).v.ownBlock ∨ ∃ g, v'.ownBlock = some g ∧ wr.heap.size ≤ g) :
    w1.cell? ⟨b, u, none⟩ = some (R (u + 1)).v ∧ w1.frozen? ⟨b, u, none⟩ = false ∧ ∃ R', LMid w (w1.setCell ⟨b, u, none⟩ v') b n n ((L.set u l').map nz) R' := by
  have h1 := h.own.put (i := u + 1) (by omega) (r := ⟨3, v', ints (nz l')⟩) hg ho hat
  have h0 : upd R (u + 1) ⟨3, v', ints (nz l')⟩ 0 = ⟨23, .slice (some ⟨b, 0, none⟩) n n, (R 0).xs⟩ := by rw [upd_other _ _ _ _ (by omega)]; exact h.top
  have hA := h1.row 0 (by omega)
  rw [h0] at hA
  have hlen := h.len
  have hc := h.cells u hu
  rw [List.getElem?_eq_getElem (by omega)] at hc
  have h2 := h1.set (i := 0) (by omega) h0 u v'
  have hne : ∀ x, x + 1 ≠ 0 := fun x => by omega
  have hown : ∀ k, (R (u + 1)).v.ownBlock = some k → b ≤ k := fun k hk => ((h.own.row (u + 1) (by omega)).lt k hk).1
  have hbB : b ≤ wr.heap.size := by have := h.size; omega
  refine ⟨?_, hA.frozen u, upd (upd R (u + 1) ⟨3, v', ints (nz l')⟩) 0 ⟨23, .slice (some ⟨b, 0, none⟩) n n, (R 0).xs.set u v'⟩, ⟨h2, ?_, ?_, ?_, ?_, ?_, ?_⟩⟩
  · rw [hA.cell u (by omega)]; exact hc
  · rw [upd_same]
  · rw [upd_same]; simpa using hlen
  · intro x hx
    rw [upd_same, upd_other _ _ _ _ (hne x)]
    by_cases e : x = u
    · subst e
      rw [upd_same, List.getElem?_set_self (by omega)]
    · rw [upd_other _ _ _ _ (by omega), List.getElem?_set_ne (by omega)]
      exact h.cells x hx
  · intro x hx hk
    rw [upd_other _ _ _ _ (hne x)]
    rw [List.length_map, List.length_set] at hx
    rw [List.getElem_map]
    by_cases e : x = u
    · subst e
      rw [upd_same, List.getElem_set_self]
    · rw [upd_other _ _ _ _ (by omega), List.getElem_set_ne (Ne.symm e)]
      have := h.rows x (by rw [List.length_map]; exact hx) hk
      rw [List.getElem_map] at this
      exact this
  · subst hb
    exact (h.below.grown hg h.below.size (fun k hk => hown k hk)).setCell (Nat.le_refl _) _
  · have := hg.size
    have := h.size
    simp [World.setCell]
    omega
end Go.Proofs.Qxb6601175a
