/-
  THE GRAPH IS LAID: the numbers as they came in, the rows of ZZGraphOf, the small doors of the package.
-/
import Derived.Test.Qxb6601175aDomain
namespace Go.Proofs.Qxb6601175a
open Go.RowKit

/-! ### plain: the lists as natural numbers -/
def toNats (zss : List (List Int)) : List (List Nat) := zss.map fun zs => zs.map Int.toNat
theorem nz_toNat : ∀ (zs : List Int), (∀ i, i < zs.length → 0 ≤ zs.getD i 0) → nz (zs.map Int.toNat) = zs
  | [], _ => rfl
  | a :: r, h => by
    have ih := nz_toNat r (fun i hi => by have := h (i + 1) (by simp; omega); simpa using this)
    have ha := h 0 (by simp)
    simp only [List.getD_cons_zero] at ha
    unfold nz at *
    rw [List.map_cons, List.map_cons, ih]
    congr 1
    omega
theorem toNats_getD (zss : List (List Int)) (r : Nat) : (toNats zss).getD r [] = (zss.getD r []).map Int.toNat := by
  unfold toNats
  rw [List.getD_eq_getElem?_getD, List.getD_eq_getElem?_getD, List.getElem?_map]
  cases zss[r]? <;> rfl
theorem toNats_length (zss : List (List Int)) : (toNats zss).length = zss.length := List.length_map _

theorem good_sorted {N : Nat} {zs : List Int} (h : Good N zs zs.length) : nz (zs.map Int.toNat) = zs ∧ (∀ x ∈ zs.map Int.toNat, x < N) ∧ (zs.map Int.toNat).Pairwise (· < ·) := by
  have hp : ∀ i j, i < j → j < zs.length → zs.getD i 0 < zs.getD j 0 := by
    intro i j hij
    induction j with
    | zero => omega
    | succ j ih =>
      intro hj
      have h1 := (h (j + 1) hj).2.2 (by omega)
      rw [Nat.add_sub_cancel] at h1
      by_cases e : i = j
      · rw [e]; exact h1
      · have := ih (by omega) (by omega); omega
  have hg : ∀ i (hi : i < zs.length), zs[i] = zs.getD i 0 := fun i hi => by rw [List.getD_eq_getElem?_getD, List.getElem?_eq_getElem hi]; rfl
  refine ⟨nz_toNat zs (fun i hi => (h i hi).1), fun x hx => ?_, ?_⟩
  · obtain ⟨y, hy, rfl⟩ := List.mem_map.1 hx
    obtain ⟨i, hi, rfl⟩ := List.getElem_of_mem hy
    have := h i hi
    rw [hg i hi]
    omega
  · rw [List.pairwise_iff_getElem]
    intro i j hi hj hij
    simp only [List.length_map] at hi hj
    rw [List.getElem_map, List.getElem_map, hg i hi, hg j hj]
    have h1 := hp i j hij hj
    have h2 := (h i hi).1
    omega

/-! ### the rows -/
theorem Own.addF {w : World} {B m : Nat} {R : Nat → Rw} (h : Own w B m R) {r : Rw} (hr : Own1 w B r) (hf : ∀ j, j < m → Far r.v (R j).v) : Own w B (m + 1) (upd R m r) := by
  refine ⟨fun j hj => ?_, fun j k hj hk hne => ?_⟩
  · by_cases e : j = m
    · subst e; rw [upd_same]; exact hr
    · rw [upd_other _ _ _ _ e]; exact h.row j (by omega)
  · by_cases ej : j = m
    · subst ej
      rw [upd_same, upd_other _ _ _ _ (Ne.symm hne)]
      exact hf k (by omega)
    · by_cases ek : k = m
      · subst ek
        rw [upd_same, upd_other _ _ _ _ ej]
        exact (hf j (by omega)).symm
      · rw [upd_other _ _ _ _ ej, upd_other _ _ _ _ ek]
        exact h.far j k (by omega) (by omega) hne

theorem Own.mono {w : World} {B B' m : Nat} {R : Nat → Rw} (h : Own w B m R) (hB : B' ≤ B) : Own w B' m R := ⟨fun i hi => (h.row i hi).mono hB, h.far⟩

/-- a new block laid as a row -/
theorem own1_new {w : World} {B : Nat} (hB : B ≤ w.heap.size) {e : TypeId} {cur : Array Value} {xs : List Value} (hx : cur.toList = xs) (hm : xs.length ≤ maxLen) : Own1 (w.alloc (.cells cur e)) B ⟨e, .slice (some ⟨w.heap.size, 0, none⟩) xs.length xs.length, xs⟩ := by
  subst hx
  exact Own1.mk hB (heap_alloc_new w _) (Nat.le_refl _) hm (by simp) List.take_length

theorem LMid.cellsAll {w w1 : World} {b n : Nat} {zss : List (List Int)} {R : Nat → Rw} (h : LMid w w1 b n n zss R) : (R 0).xs = (List.range n).map fun u => (R (u + 1)).v := by
  apply List.ext_getElem?
  intro u
  by_cases hu : u < n
  · rw [h.cells u hu, List.getElem?_map, List.getElem?_range hu]; rfl
  · rw [List.getElem?_eq_none (by rw [h.len]; omega), List.getElem?_eq_none (by simp; omega)]

/-- THE START: the lists cloned, dist and via made, the walker and the graph boxed -/
theorem gs_start {w2 w3 : World} {n B : Nat} {zss : List (List Int)} {R : Nat → Rw} (hM : LMid w2 w3 w2.heap.size n n zss R) (hn : zss.length = n) (hnm : n ≤ 1048576) (hB : B ≤ w2.heap.size)
    {vn : Value} {next : List Int} (hN : Own1 w2 B ⟨3, vn, ints next⟩) {arcs : List (List Nat)} (ha : ∀ r (h : r < zss.length), zss[r] = nz (arcs.getD r [])) (hal : arcs.length = n)
    {cd cv : Array Value} {d : List Int} {via : List Nat} (hd : cd.toList = ints d) (hdl : d.length = n) (hv : cv.toList = ints (nz via)) (hvl : via.length = n) :
    ∃ R', GS ((((w3.alloc (.cells cd 3)).alloc (.cells cv 3)).alloc (.cells #[.slice (some ⟨w2.heap.size, 0, none⟩) n n, .slice (some ⟨w3.heap.size, 0, none⟩) n n, .slice (some ⟨w3.heap.size + 1, 0, none⟩) n n, nilS] 93)).alloc
        (.cells #[nilS, nilS, .slice (some ⟨w2.heap.size, 0, none⟩) n n, .pointer (some ⟨w3.heap.size + 1 + 1, 0, none⟩), nilS, vn, nilS, nilS] 96))
      B n (w3.heap.size + 1 + 1 + 1) (w3.heap.size + 1 + 1) R' arcs w2.heap.size n w3.heap.size n (w3.heap.size + 1) n nilS vn nilS d via [] next [] := by
  have h23 : w2.heap.size ≤ w3.heap.size := hM.below.size
  have s4 : (w3.alloc (.cells cd 3)).heap.size = w3.heap.size + 1 := by simp
  have s5 : ((w3.alloc (.cells cd 3)).alloc (.cells cv 3)).heap.size = w3.heap.size + 1 + 1 := by simp
  obtain ⟨w4, hw4⟩ : ∃ w4, w4 = w3.alloc (.cells cd 3) := ⟨_, rfl⟩
  rw [← hw4] at s4 s5 ⊢
  obtain ⟨w5, hw5⟩ : ∃ w5, w5 = w4.alloc (.cells cv 3) := ⟨_, rfl⟩
  rw [← hw5] at s5 ⊢
  obtain ⟨va, hva⟩ : ∃ va : Value, va = .slice (some ⟨w2.heap.size, 0, none⟩) n n := ⟨_, rfl⟩
  obtain ⟨vd, hvd⟩ : ∃ vd : Value, vd = .slice (some ⟨w3.heap.size, 0, none⟩) n n := ⟨_, rfl⟩
  obtain ⟨vv, hvv⟩ : ∃ vv : Value, vv = .slice (some ⟨w3.heap.size + 1, 0, none⟩) n n := ⟨_, rfl⟩
  rw [← hva, ← hvd, ← hvv]
  have s6 : (w5.alloc (.cells #[va, vd, vv, nilS] 93)).heap.size = w3.heap.size + 1 + 1 + 1 := by simp [s5]
  obtain ⟨w6, hw6⟩ : ∃ w6, w6 = w5.alloc (.cells #[va, vd, vv, nilS] 93) := ⟨_, rfl⟩
  rw [← hw6] at s6 ⊢
  have o0 : Own w3 B (n + 1) R := hM.own.mono hB
  have r1 : Own1 w4 B ⟨3, vd, ints d⟩ := by
    have := own1_new (w := w3) (B := B) (by omega) (e := 3) hd (by rw [ints_length, hdl]; unfold maxLen; omega)
    rw [ints_length, hdl] at this
    rw [hw4, hvd]; exact this
  have o1 := o0.add (r := ⟨3, vd, ints d⟩) (by rw [hw4]; exact World.grownBy_alloc _ _ _) r1 (.inr ⟨w3.heap.size, by rw [hvd]; rfl, Nat.le_refl _⟩)
  have r2 : Own1 w5 B ⟨3, vv, ints (nz via)⟩ := by
    have := own1_new (w := w4) (B := B) (by omega) (e := 3) hv (by rw [ints_length, nz_length, hvl]; unfold maxLen; omega)
    rw [ints_length, nz_length, hvl, s4] at this
    rw [hw5, hvv]; exact this
  have o2 := o1.add (r := ⟨3, vv, ints (nz via)⟩) (by rw [hw5]; exact World.grownBy_alloc _ _ _) r2 (.inr ⟨w3.heap.size + 1, by rw [hvv]; rfl, by omega⟩)
  have o3 := o2.add (r := ⟨3, nilS, ints (nz [])⟩) (grown_refl w5 none) (Own1.nil _ _ _) (.inl rfl)
  have r4 : Own1 w6 B ⟨93, .slice (some ⟨w3.heap.size + 1 + 1, 0, none⟩) 4 4, [va, vd, vv, nilS]⟩ := by
    have := own1_new (w := w5) (B := B) (by omega) (e := 93) (cur := #[va, vd, vv, nilS]) (xs := [va, vd, vv, nilS]) rfl (by simp [maxLen])
    rw [s5] at this
    rw [hw6]; exact this
  have o4 := o3.add (r := ⟨93, .slice (some ⟨w3.heap.size + 1 + 1, 0, none⟩) 4 4, [va, vd, vv, nilS]⟩) (by rw [hw6]; exact World.grownBy_alloc _ _ _) r4 (.inr ⟨w3.heap.size + 1 + 1, rfl, by omega⟩)
  have hNlt := hN.lt
  have b3 : Below w2.heap.size w2 w6 := by
    rw [hw6, hw5, hw4]
    exact ((hM.below.alloc h23 _).alloc (by simp; omega) _).alloc (by simp; omega) _
  have r5 : Own1 w6 B ⟨3, vn, ints next⟩ := by
    rcases hN.form with ⟨h1, h2⟩ | ⟨b, cap, cur, h1, h2, h3, h4, h5, h6, h7, h8⟩
    · dsimp only at h1 h2
      rw [h1, h2]; exact Own1.nil _ _ _
    · dsimp only at h1 h5 h8
      have : w6.heap[b]? = some (.cells cur 3 (0, 0)) := by rw [b3.block b h3]; exact h4
      have := Own1.mk (w := w6) (B := B) h2 this h5 h6 h7 h8
      rw [h1]; exact this
  have o5 := o4.addF (r := ⟨3, vn, ints next⟩) r5 (by
    intro j hj
    cases hb : vn.ownBlock with
    | none => exact .inl hb
    | some k =>
      right
      have hk := (hNlt k hb).2
      dsimp only
      rw [hb]
      by_cases j4 : j = n + 1 + 1 + 1 + 1
      · subst j4; rw [upd_same]; simp [Value.ownBlock]; omega
      rw [upd_other _ _ _ _ j4]
      by_cases j3 : j = n + 1 + 1 + 1
      · subst j3; rw [upd_same]; simp [Value.ownBlock]
      rw [upd_other _ _ _ _ j3]
      by_cases j2 : j = n + 1 + 1
      · subst j2; rw [upd_same, hvv]; simp [Value.ownBlock]; omega
      rw [upd_other _ _ _ _ j2]
      by_cases j1 : j = n + 1
      · subst j1; rw [upd_same, hvd]; simp [Value.ownBlock]; omega
      rw [upd_other _ _ _ _ j1]
      intro e
      have := ((hM.own.row j (by omega)).lt k e.symm).1
      omega)
  have o6 := o5.add (r := ⟨3, nilS, ints (nz [])⟩) (grown_refl w6 none) (Own1.nil _ _ _) (.inl rfl)
  have r7 : Own1 (w6.alloc (.cells #[nilS, nilS, va, .pointer (some ⟨w3.heap.size + 1 + 1, 0, none⟩), nilS, vn, nilS, nilS] 96)) B ⟨96, .slice (some ⟨w3.heap.size + 1 + 1 + 1, 0, none⟩) 8 8, [nilS, nilS, va, .pointer (some ⟨w3.heap.size + 1 + 1, 0, none⟩), nilS, vn, nilS, nilS]⟩ := by
    have := own1_new (w := w6) (B := B) (by omega) (e := 96) (cur := #[nilS, nilS, va, .pointer (some ⟨w3.heap.size + 1 + 1, 0, none⟩), nilS, vn, nilS, nilS]) (xs := [nilS, nilS, va, .pointer (some ⟨w3.heap.size + 1 + 1, 0, none⟩), nilS, vn, nilS, nilS]) rfl (by simp [maxLen])
    rw [s6] at this
    exact this
  have o7 := o6.add (r := ⟨96, .slice (some ⟨w3.heap.size + 1 + 1 + 1, 0, none⟩) 8 8, [nilS, nilS, va, .pointer (some ⟨w3.heap.size + 1 + 1, 0, none⟩), nilS, vn, nilS, nilS]⟩) (World.grownBy_alloc _ _ _) r7 (.inr ⟨w3.heap.size + 1 + 1 + 1, rfl, by omega⟩)
  obtain ⟨T, hT⟩ : ∃ T : Nat → Rw, T = upd (upd (upd (upd (upd (upd (upd R (n + 1) ⟨3, vd, ints d⟩) (n + 1 + 1) ⟨3, vv, ints (nz via)⟩) (n + 1 + 1 + 1) ⟨3, nilS, ints (nz [])⟩) (n + 1 + 1 + 1 + 1) ⟨93, .slice (some ⟨w3.heap.size + 1 + 1, 0, none⟩) 4 4, [va, vd, vv, nilS]⟩) (n + 1 + 1 + 1 + 1 + 1) ⟨3, vn, ints next⟩) (n + 1 + 1 + 1 + 1 + 1 + 1) ⟨3, nilS, ints (nz [])⟩) (n + 1 + 1 + 1 + 1 + 1 + 1 + 1)
      ⟨96, .slice (some ⟨w3.heap.size + 1 + 1 + 1, 0, none⟩) 8 8, [nilS, nilS, va, .pointer (some ⟨w3.heap.size + 1 + 1, 0, none⟩), nilS, vn, nilS, nilS]⟩ := ⟨_, rfl⟩
  have low : ∀ j, j ≤ n → T j = R j := by
    intro j hj
    rw [hT, upd_other _ _ _ _ (by omega), upd_other _ _ _ _ (by omega), upd_other _ _ _ _ (by omega), upd_other _ _ _ _ (by omega), upd_other _ _ _ _ (by omega), upd_other _ _ _ _ (by omega), upd_other _ _ _ _ (by omega)]
  rw [← hT] at o7
  refine ⟨T, ⟨⟨o7.congr ?_, by omega, ⟨hal, ?_, ?_⟩, ?_⟩, ?_, ?_, ?_⟩⟩
  · intro i hi
    by_cases j1 : i = n + 1
    · subst j1
      rw [tab_1, hT, upd_other _ _ _ _ (by omega), upd_other _ _ _ _ (by omega), upd_other _ _ _ _ (by omega), upd_other _ _ _ _ (by omega), upd_other _ _ _ _ (by omega), upd_other _ _ _ _ (by omega), upd_same, hvd]
    by_cases j2 : i = n + 2
    · subst j2
      rw [tab_2, hT, upd_other _ _ _ _ (by omega), upd_other _ _ _ _ (by omega), upd_other _ _ _ _ (by omega), upd_other _ _ _ _ (by omega), upd_other _ _ _ _ (by omega), upd_same, hvv]
    by_cases j3 : i = n + 3
    · subst j3
      rw [tab_3, hT, upd_other _ _ _ _ (by omega), upd_other _ _ _ _ (by omega), upd_other _ _ _ _ (by omega), upd_other _ _ _ _ (by omega), upd_same]
    by_cases j4 : i = n + 4
    · subst j4
      rw [tab_4, hT, upd_other _ _ _ _ (by omega), upd_other _ _ _ _ (by omega), upd_other _ _ _ _ (by omega), upd_same, hva, hvd, hvv]
    rw [tab_o i ⟨j1, j2, j3, j4⟩]
  · rw [low 0 (by omega), hM.top, hM.cellsAll]
    congr 1
    apply List.map_congr_left
    intro u hu
    have := List.mem_range.1 hu
    rw [low (u + 1) (by omega)]
  · intro u hu
    rw [low (u + 1) (by omega), hM.rows u (by omega) hu, ha u (by omega)]
  · simp; omega
  · rw [hT, upd_other _ _ _ _ (by omega), upd_other _ _ _ _ (by omega), upd_same]
  · rw [hT, upd_other _ _ _ _ (by omega), upd_same]
  · rw [hT, upd_same, hva]

/-! ### the doors -/
set_option maxHeartbeats 1000000 in
set_option maxRecDepth 100000 in
theorem graphOf_any (w : World) (a0 a1 a2 a4 : Option Addr) (n0 c0 n1 c1 n2 c2 n4 c4 : Nat) : Calls Try.prog 27 #[.slice a0 n0 c0, .slice a1 n1 c1, .slice a2 n2 c2, nilS, .slice a4 n4 c4] w fun e w' => e = .returned (.pointer (some ⟨w.heap.size + 1, 0, none⟩)) ∧
    w' = (w.alloc (.cells #[.slice a0 n0 c0, .slice a1 n1 c1, .slice a2 n2 c2, nilS] 93)).alloc (.cells #[nilS, nilS, .slice a0 n0 c0, .pointer (some ⟨w.heap.size, 0, none⟩), nilS, .slice a4 n4 c4, nilS, nilS] 96) := by
  go_enter Try.func27, Try.ntmps27
  go_wp2
  go_ret
  exact ⟨rfl, rfl⟩

set_option maxHeartbeats 1000000 in
set_option maxRecDepth 100000 in
theorem arcs33 (w : World) (bg : Nat) (va : Value) (h : w.cell? ⟨bg, 2, none⟩ = some va) : Calls Try.prog 33 #[.pointer (some ⟨bg, 0, none⟩)] w fun e w' => e = .returned va ∧ w' = w := by
  go_enter Try.func33, Try.ntmps33
  go_wp2
  go_ret
  exact ⟨rfl, rfl⟩
end Go.Proofs.Qxb6601175a
