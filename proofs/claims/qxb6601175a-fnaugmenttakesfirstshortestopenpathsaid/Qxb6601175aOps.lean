/-
  slices.Index, Delete, BinarySearch, Insert, Reverse ON ROWS OF THE CALL's OWN, out of the library's contracts.
-/
import Derived.Test.Qxb6601175aShelf
import Derived.Test.Qxb6601175aWalk
import Derived.Test.Qxb6601175aFlow
namespace Go.Proofs.Qxb6601175a
open Go.RowKit

/-! ### several cells written -/
def arrSet : List Value → Array Value → Nat → Array Value
  | [], cur, _ => cur
  | v :: r, cur, o => arrSet r (cur.setIfInBounds o v) (o + 1)
theorem heap_setCells (b : Nat) (e : TypeId) (fr : Nat × Nat) : ∀ (vs : List Value) (o : Nat) (w : World) (cur : Array Value), w.heap[b]? = some (.cells cur e fr) → (w.setCells b o vs).heap[b]? = some (.cells (arrSet vs cur o) e fr)
  | [], _, _, _, h => h
  | v :: r, o, w, cur, h => heap_setCells b e fr r (o + 1) (w.setCell ⟨b, o, none⟩ v) (cur.setIfInBounds o v) (heap_setCell_at w b o v cur e fr h)
theorem grown_setCells (b : Nat) : ∀ (vs : List Value) (o : Nat) (w : World), w.grownBy (w.setCells b o vs) (some b)
  | [], _, w => grown_refl w _
  | v :: r, o, w => grown_trans (grown_setCell w b o v) (grown_setCells b r (o + 1) (w.setCell ⟨b, o, none⟩ v))
theorem arrSet_size : ∀ (vs : List Value) (cur : Array Value) (o : Nat), (arrSet vs cur o).size = cur.size
  | [], _, _ => rfl
  | v :: r, cur, o => by unfold arrSet; rw [arrSet_size r]; simp
theorem arrSet_list : ∀ (vs : List Value) (cur : Array Value) (o : Nat), o + vs.length ≤ cur.size → (arrSet vs cur o).toList = cur.toList.take o ++ vs ++ cur.toList.drop (o + vs.length)
  | [], cur, o, _ => by simp [arrSet]
  | v :: r, cur, o, h => by
    unfold arrSet
    simp only [List.length_cons] at h
    rw [arrSet_list r _ _ (by simp; omega), Array.toList_setIfInBounds]
    have ho : o < cur.toList.length := by simp; omega
    have e1 : (cur.toList.set o v).take (o + 1) = cur.toList.take o ++ [v] := by
      rw [List.take_succ_eq_append_getElem (by simpa using ho), List.getElem_set_self, List.take_set_of_le (Nat.le_refl _)]
    have e2 : (cur.toList.set o v).drop (o + 1 + r.length) = cur.toList.drop (o + (v :: r).length) := by
      rw [List.drop_set_of_lt (by omega), List.length_cons]
      congr 1
      omega
    rw [e1, e2]
    simp

/-- a row written in its block -/
theorem Own1.write {w : World} {B : Nat} {e : TypeId} {b n cap : Nat} {xs : List Value} (h : Own1 w B ⟨e, .slice (some ⟨b, 0, none⟩) n cap, xs⟩) (w0 : World) (hh : w0.heap = w.heap) (o : Nat) (vs ys : List Value) (ho : o ≤ xs.length) (hl : o + vs.length ≤ cap) (hys : ys.length ≤ cap)
    (hy : (xs.take o ++ vs).take ys.length = ys) : Own1 (w0.setCells b o vs) B ⟨e, .slice (some ⟨b, 0, none⟩) ys.length cap, ys⟩ := by
  rcases h.form with ⟨h1, _⟩ | ⟨b', cap', cur, h1, h2, _, h4, h5, h6, h7, h8⟩
  · cases h1
  · simp only [Value.slice.injEq, Option.some.injEq, Addr.mk.injEq] at h1
    obtain ⟨⟨rfl, _, _⟩, rfl, rfl⟩ := h1
    dsimp only at h5 h8
    have h4' : w0.heap[b]? = some (.cells cur e (0, 0)) := by rw [hh]; exact h4
    refine Own1.mk h2 (heap_setCells b e (0, 0) vs o w0 cur h4') hys h6 (by rw [arrSet_size]; exact h7) ?_
    rw [arrSet_list vs cur o (by omega)]
    have e1 : cur.toList.take o = xs.take o := by rw [← h8, List.take_take]; congr 1; omega
    rw [e1]
    have hle : ys.length ≤ (xs.take o ++ vs).length := by
      have := congrArg List.length hy
      rw [List.length_take] at this
      omega
    rw [List.take_append_of_le_length hle]
    exact hy

/-! ### plain: the first place of an element -/
theorem first_at : ∀ (l : List Nat) (x : Nat), x ∈ l → ∃ k, k < l.length ∧ l.getD k 0 = x ∧ (∀ j, j < k → l.getD j 0 ≠ x) ∧ l.erase x = l.take k ++ l.drop (k + 1)
  | [], _, h => by simp at h
  | a :: r, x, h => by
    by_cases e : a = x
    · subst e
      exact ⟨0, by simp, rfl, fun j hj => absurd hj (by omega), by simp⟩
    · have hr : x ∈ r := by
        rcases List.mem_cons.1 h with h1 | h1
        · exact absurd h1.symm e
        · exact h1
      obtain ⟨k, h1, h2, h3, h4⟩ := first_at r x hr
      refine ⟨k + 1, by simp; omega, by simpa using h2, fun j hj => ?_, ?_⟩
      · cases j with
        | zero => simpa using e
        | succ j => have := h3 j (by omega); simpa using this
      · rw [List.erase_cons_tail (by simpa using e), h4]; simp

section
variable {w : World} {B : Nat} {b cap : Nat} {l : List Nat}
theorem own_cells (h : Own1 w B ⟨3, .slice (some ⟨b, 0, none⟩) l.length cap, ints (nz l)⟩) : ∀ j, j < (nz l).length → w.cell? ⟨b, 0 + j, none⟩ = some (.int .i64 ((nz l).getD j 0)) := by
  intro j hj
  rw [Nat.zero_add, h.cell j (by rw [ints_length]; exact hj), ints_getD (nz l) j 0 hj]

/-- slices.Index of an element that is there -/
theorem index_own (h : Own1 w B ⟨3, .slice (some ⟨b, 0, none⟩) l.length cap, ints (nz l)⟩) (hl : l.length ≤ 4194304) (x k : Nat) (hk : k < l.length) (hx : l.getD k 0 = x) (hf : ∀ j, j < k → l.getD j 0 ≠ x) :
    Calls Try.prog 48 #[.slice (some ⟨b, 0, none⟩) l.length cap, .int .i64 (x : Int)] w fun e w' => e = .returned (.int .i64 (k : Int)) ∧ w' = w := by
  have hc := Any.slices_Index_int Try.lays108 b 0 l.length cap (nz l) (x : Int) w (by rw [nz_length]; exact Nat.le_refl _) (by omega) (own_cells h)
  have e : Lib.idxOf ((nz l).take l.length) (x : Int) = (k : Int) := by
    have ht : (nz l).take l.length = nz l := List.take_of_length_le (by rw [nz_length]; exact Nat.le_refl _)
    rw [ht]
    unfold Lib.idxOf
    rw [Lib.idxFrom_hit (x : Int) (nz l) k 0 (by rw [nz_length]; exact hk) (by rw [nz_getD l k 0 hk, hx]) (fun j hj => by
      rw [nz_getD l j 0 (by omega)]
      exact fun e => hf j hj (Int.ofNat.inj e))]
    simp
  rw [e] at hc
  exact hc

/-- slices.Delete of one element -/
theorem delete_own (h : Own1 w B ⟨3, .slice (some ⟨b, 0, none⟩) l.length cap, ints (nz l)⟩) (hl : l.length ≤ 4194304) (k : Nat) (hk : k < l.length) :
    Calls Try.prog 49 #[.slice (some ⟨b, 0, none⟩) l.length cap, .int .i64 (k : Int), .int .i64 ((k : Int) + 1)] w fun e w' => e = .returned (.slice (some ⟨b, 0, none⟩) (l.length - 1) cap) ∧
      Own1 w' B ⟨3, .slice (some ⟨b, 0, none⟩) (l.length - 1) cap, ints (nz (l.take k ++ l.drop (k + 1)))⟩ ∧ w.grownBy w' (some b) := by
  rcases h.form with ⟨h1, _⟩ | ⟨b', cap', cur, h1, _, _, _, h5, h6, _, _⟩
  · cases h1
  simp only [Value.slice.injEq, Option.some.injEq, Addr.mk.injEq] at h1
  obtain ⟨⟨rfl, _, _⟩, _, rfl⟩ := h1
  dsimp only at h5
  rw [ints_length, nz_length] at h5
  have hc := Any.slices_Delete_int_cells Try.lays2n23 b 0 l.length cap k (k + 1) (nz l) w (by rw [nz_length]; exact Nat.le_refl _) h5 (by unfold maxLen at h6; omega) (by omega) (by omega) (own_cells h) (fun j _ => by rw [Nat.zero_add]; exact h.frozen j)
  have ec : (((k + 1 : Nat)) : Int) = (k : Int) + 1 := by omega
  rw [ec] at hc
  refine hc.mono ?_
  rintro e w' ⟨rfl, q, rfl⟩
  have hn : l.length - (k + 1 - k) = l.length - 1 := by omega
  rw [hn]
  have ht : (nz l).take l.length = nz l := List.take_of_length_le (by rw [nz_length]; exact Nat.le_refl _)
  rw [ht]
  have hlen : (ints (nz (l.take k ++ l.drop (k + 1)))).length = l.length - 1 := by
    rw [ints_length, nz_length, List.length_append, List.length_take, List.length_drop]; omega
  have hv : (List.map (Value.int .i64) ((nz l).take k ++ (nz l).drop (k + 1) ++ List.replicate (k + 1 - k) 0)) = ints (nz (l.take k ++ l.drop (k + 1))) ++ [.int .i64 0] := by
    rw [show k + 1 - k = 1 by omega]
    simp [ints, nz, List.map_take, List.map_drop]
  rw [hv]
  refine ⟨rfl, ?_, grown_trans (grown_drewN w q _) (grown_setCells b _ 0 _)⟩
  have := h.write (w.drewN q) rfl 0 (ints (nz (l.take k ++ l.drop (k + 1))) ++ [.int .i64 0]) (ints (nz (l.take k ++ l.drop (k + 1)))) (by omega) (by rw [List.length_append, hlen]; simp; omega) (by rw [hlen]; omega) (by simp)
  rw [hlen] at this
  exact this

theorem nz_sorted (l : List Nat) (h : l.Pairwise (· ≤ ·)) : (nz l).Pairwise (· ≤ ·) := by
  rw [List.pairwise_iff_getElem] at h ⊢
  intro i j hi hj hij
  rw [nz_length] at hi hj
  have := h i j hi hj hij
  simp only [nz, List.getElem_map]
  omega

/-- slices.BinarySearch in a sorted list -/
theorem search_own {v : Value} (h : Own1 w B ⟨3, v, ints (nz l)⟩) (hl : l.length ≤ 4194304) (hs : l.Pairwise (· ≤ ·)) (x : Nat) :
    Calls Try.prog 50 #[v, .int .i64 (x : Int)] w fun e w' => ∃ bb, e = .returned (.tuple #[.int .i64 ((l.countP (· < x) : Nat) : Int), .bool bb]) ∧ ∃ q, w' = w.drewN q := by
  rcases h.form with ⟨h1, h2⟩ | ⟨b', cap', cur, h1, _⟩
  · dsimp only at h1 h2
    subst h1
    have hz : l = [] := by
      have := congrArg List.length h2
      rw [ints_length, nz_length] at this
      exact List.length_eq_zero_iff.1 this
    subst hz
    refine (Any.slices_BinarySearch_int_empty Try.lays2n25 none 0 (x : Int) w).mono ?_
    rintro e w' ⟨rfl, rfl⟩
    exact ⟨_, rfl, 0, rfl⟩
  · dsimp only at h1
    rw [ints_length, nz_length] at h1
    subst h1
    have ht : (nz l).take l.length = nz l := List.take_of_length_le (by rw [nz_length]; exact Nat.le_refl _)
    have hc := Any.slices_BinarySearch_int Try.lays2n25 b' 0 l.length cap' (nz l) (x : Int) w (by rw [nz_length]; exact Nat.le_refl _) (by omega) (own_cells h) (by
      rw [ht]
      exact nz_sorted l hs)
    rw [ht] at hc
    have hcnt : (nz l).countP (fun y => decide (y < (x : Int))) = l.countP (· < x) := by
      unfold nz
      rw [List.countP_map]
      congr 1
      funext y
      simp
    rw [hcnt] at hc
    refine hc.mono ?_
    rintro e w' ⟨rfl, q, rfl⟩
    exact ⟨_, rfl, q, rfl⟩

/-- slices.Reverse -/
theorem reverse_own (h : Own1 w B ⟨3, .slice (some ⟨b, 0, none⟩) l.length cap, ints (nz l)⟩) (hl : l.length ≤ 4194304) :
    Calls Try.prog 47 #[.slice (some ⟨b, 0, none⟩) l.length cap] w fun e w' => e = .returned (.tuple #[]) ∧ Own1 w' B ⟨3, .slice (some ⟨b, 0, none⟩) l.length cap, ints (nz l.reverse)⟩ ∧ w.grownBy w' (some b) := by
  rcases h.form with ⟨h1, _⟩ | ⟨b', cap', cur, h1, _, _, _, h5, h6, _, _⟩
  · cases h1
  simp only [Value.slice.injEq, Option.some.injEq, Addr.mk.injEq] at h1
  obtain ⟨⟨rfl, _, _⟩, _, rfl⟩ := h1
  dsimp only at h5
  rw [ints_length, nz_length] at h5
  have ht : (nz l).take l.length = nz l := List.take_of_length_le (by rw [nz_length]; exact Nat.le_refl _)
  have hc := Any.slices_Reverse_int_cells Try.lays112 b 0 l.length cap (nz l) w (by rw [nz_length]; exact Nat.le_refl _) (by omega) (own_cells h) (fun j _ => by rw [Nat.zero_add]; exact h.frozen j)
  rw [ht] at hc
  refine hc.mono ?_
  rintro e w' ⟨rfl, q, rfl⟩
  have hv : List.map (Value.int .i64) (nz l).reverse = ints (nz l.reverse) := by simp [ints, nz]
  rw [hv]
  have hlen : (ints (nz l.reverse)).length = l.length := by rw [ints_length, nz_length, List.length_reverse]
  refine ⟨rfl, ?_, grown_trans (grown_drewN w q _) (grown_setCells b _ 0 _)⟩
  have := h.write (w.drewN q) rfl 0 (ints (nz l.reverse)) (ints (nz l.reverse)) (by omega) (by rw [hlen]; omega) (by rw [hlen]; exact h5) (by simp)
  rw [hlen] at this
  exact this
end
end Go.Proofs.Qxb6601175a
