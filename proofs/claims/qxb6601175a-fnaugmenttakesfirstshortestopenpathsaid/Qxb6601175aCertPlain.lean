/-
  PLAIN: what the certificate asks of a finished breadth-first walk. No Go in sight.
-/
import Derived.Test.Qxb6601175aFirst
namespace Go.Proofs.Qxb6601175a

theorem pair_of {t : Nat × Nat} {p j : Nat} (h1 : t.1 = p) (h2 : t.2 = j) : t = (p, j) := by
  subst h1 h2
  rfl

/-- how many vertices below k are reached -/
def cnt (O : List Nat) (k : Nat) : Nat := ((List.range k).filter fun x => decide (x ∈ O)).length
theorem cnt_in {O : List Nat} {k : Nat} (h : k ∈ O) : cnt O (k + 1) = cnt O k + 1 := by
  unfold cnt
  rw [List.range_succ, List.filter_append, List.length_append, List.filter_cons, if_pos (decide_eq_true h)]
  rfl
theorem cnt_out {O : List Nat} {k : Nat} (h : k ∉ O) : cnt O (k + 1) = cnt O k := by
  unfold cnt
  rw [List.range_succ, List.filter_append, List.length_append, List.filter_cons, if_neg (by simpa using h)]
  rfl
theorem cnt_le (O : List Nat) (k : Nat) : cnt O k ≤ k := by
  unfold cnt
  exact Nat.le_trans (List.length_filter_le _ _) (by simp)
theorem cnt_all : ∀ (n : Nat) (O : List Nat), O.Nodup → (∀ x ∈ O, x < n) → cnt O n = O.length
  | 0, O, _, h => by
    cases O with
    | nil => rfl
    | cons x r => exact absurd (h x List.mem_cons_self) (by omega)
  | n + 1, O, hn, h => by
    by_cases hm : n ∈ O
    · have ih := cnt_all n (O.erase n) (hn.erase n) (fun x hx => by
        have := h x (List.mem_of_mem_erase hx)
        have hne : x ≠ n := fun e => by
          subst e
          exact (List.Nodup.not_mem_erase hn) hx
        omega)
      have e : cnt (O.erase n) n = cnt O n := by
        unfold cnt
        congr 1
        apply List.filter_congr
        intro x hx
        have hxn : x ≠ n := by have := List.mem_range.1 hx; omega
        rw [decide_eq_decide]
        exact List.mem_erase_of_ne hxn
      rw [e, List.length_erase_of_mem hm] at ih
      have := List.length_pos_of_mem hm
      rw [cnt_in hm, ih]
      omega
    · rw [cnt_out hm]
      exact cnt_all n O hn (fun x hx => by
        have := h x hx
        have hne : x ≠ n := fun e => hm (by rw [← e]; exact hx)
        omega)

section
variable {n : Nat} {A : Nat → List Nat} {src : Nat} {via0 : Nat → Nat} {d : List Int} {via O : List Nat} {T : Nat → Nat × Nat}

theorem Bfs.count (h : Bfs n A src via0 O.length 0 d via O T) : cnt O n = O.length := cnt_all n O h.nodup (fun _ hx => h.lt_of_mem hx)

theorem Bfs.dist (h : Bfs n A src via0 O.length 0 d via O T) {v : Nat} (hv : v < n) : (d.getD v (-1) = -1 ∧ v ∉ O) ∨
    (∃ q, q < O.length ∧ O.getD q 0 = v ∧ v ∈ O ∧ 0 ≤ d.getD v (-1) ∧ d.getD v (-1) ≤ q ∧ (d.getD v (-1) = 0 → v = src ∧ q = 0) ∧ (q = 0 → d.getD v (-1) = 0)) := by
  by_cases hO : v ∈ O
  · obtain ⟨q, hq, rfl⟩ := mem_getD hO
    obtain ⟨h0, h1⟩ := h.dle q hq
    have hz : q = 0 → d.getD (O.getD q 0) (-1) = 0 := fun e => by rw [e, h.osrc, h.dsrc]
    refine .inr ⟨q, hq, rfl, hO, h0, h1, fun e => ?_, hz⟩
    by_cases hq0 : q = 0
    · rw [hq0]; exact ⟨h.osrc, rfl⟩
    · obtain ⟨t1, _, _, t4⟩ := h.tree q (by omega) hq
      have := (h.dle (T q).1 (by omega)).1
      omega
  · exact .inl ⟨h.neg v hv hO, hO⟩

/-- the parents of those that have none -/
theorem Bfs.viaZ (h : Bfs n A src (fun _ => 0) O.length 0 d via O T) {v : Nat} (hv : v < n) (hd : d.getD v (-1) ≤ 0) : via.getD v 0 = 0 := by
  rcases h.dist hv with ⟨_, h2⟩ | ⟨q, _, _, _, h4, _, h6, _⟩
  · exact h.vold v hv (.inl h2)
  · exact h.vold v hv (.inr (h6 (by omega)).1)

/-- the two arrays of first places, behind p vertices of the order and j arcs of the next -/
def FpI (O : List Nat) (T : Nat → Nat × Nat) (p j : Nat) (f g : Nat → Int) : Prop :=
  ∀ q, 0 < q → q < O.length → (Lt (T q) (p, j) → f (O.getD q 0) = ((T q).1 : Nat) ∧ g (O.getD q 0) = ((T q).2 : Nat)) ∧ (¬ Lt (T q) (p, j) → f (O.getD q 0) = -1)

theorem FpI.start (f g : Nat → Int) (hf : ∀ v, v < n → f v = -1) (hr : ∀ q, q < O.length → O.getD q 0 < n) : FpI O T 0 0 f g := by
  intro q _ hq
  refine ⟨fun h => ?_, fun _ => hf _ (hr q hq)⟩
  unfold Lt at h
  simp at h

theorem FpI.next {f g : Nat → Int} (hB : Bfs n A src via0 O.length 0 d via O T) {p j : Nat} (h : FpI O T p j f g) (hj : (A (O.getD p 0)).length ≤ j) : FpI O T (p + 1) 0 f g := by
  intro q h0 hq
  obtain ⟨h1, h2⟩ := h q h0 hq
  have hiff : Lt (T q) (p + 1, 0) ↔ Lt (T q) (p, j) := by
    obtain ⟨_, t2, _, _⟩ := hB.tree q h0 hq
    have hlt := (List.getElem?_eq_some_iff.1 t2).1
    unfold Lt
    dsimp only
    refine ⟨?_, ?_⟩
    · intro hh
      by_cases e : (T q).1 = p
      · rw [e] at hlt
        omega
      · omega
    · intro hh; omega
  exact ⟨fun hh => h1 (hiff.1 hh), fun hh => h2 (fun k => hh (hiff.2 k))⟩

/-- an arc that tells nothing new -/
theorem FpI.skip {f g : Nat → Int} (hB : Bfs n A src via0 O.length 0 d via O T) {p j x : Nat} (h : FpI O T p j f g) (hx : (A (O.getD p 0))[j]? = some x) (hno : ∀ q, 0 < q → q < O.length → O.getD q 0 = x → T q ≠ (p, j)) : FpI O T p (j + 1) f g := by
  intro q h0 hq
  obtain ⟨h1, h2⟩ := h q h0 hq
  have hiff : Lt (T q) (p, j + 1) ↔ Lt (T q) (p, j) := by
    have hne : T q ≠ (p, j) := fun e => by
      obtain ⟨_, t2, _, _⟩ := hB.tree q h0 hq
      rw [e] at t2
      dsimp only at t2
      rw [hx] at t2
      cases t2
      exact hno q h0 hq rfl e
    have hne' : ¬ ((T q).1 = p ∧ (T q).2 = j) := fun e => hne (pair_of e.1 e.2)
    unfold Lt
    dsimp only
    omega
  exact ⟨fun hh => h1 (hiff.1 hh), fun hh => h2 (fun k => hh (hiff.2 k))⟩

/-- the arc by which the q-th vertex was found -/
theorem FpI.found {f g f' g' : Nat → Int} (hB : Bfs n A src via0 O.length 0 d via O T) {p j q : Nat} (h : FpI O T p j f g) (h0 : 0 < q) (hq : q < O.length) (hT : T q = (p, j))
    (hf : f' (O.getD q 0) = (p : Nat)) (hg : g' (O.getD q 0) = (j : Nat)) (hfo : ∀ y, y ≠ O.getD q 0 → f' y = f y ∧ g' y = g y) : FpI O T p (j + 1) f' g' := by
  intro r h0r hr
  by_cases e : r = q
  · subst e
    refine ⟨fun _ => by rw [hT]; exact ⟨hf, hg⟩, fun hh => absurd ?_ hh⟩
    rw [hT]
    unfold Lt
    dsimp only
    omega
  · obtain ⟨h1, h2⟩ := h r h0r hr
    have hne : O.getD r 0 ≠ O.getD q 0 := fun hh => e (getD_inj hB.nodup hr hq hh)
    obtain ⟨e1, e2⟩ := hfo _ hne
    have hTne : ¬ ((T r).1 = p ∧ (T r).2 = j) := by
      intro hh
      rcases Nat.lt_trichotomy r q with hlt | hlt | hlt
      · have := hB.mono r q h0r hlt hq
        rw [hT] at this
        unfold Lt at this
        dsimp only at this
        omega
      · exact e hlt
      · have := hB.mono q r h0 hlt hr
        rw [hT] at this
        unfold Lt at this
        dsimp only at this
        omega
    have hiff : Lt (T r) (p, j + 1) ↔ Lt (T r) (p, j) := by
      unfold Lt
      dsimp only
      omega
    rw [e1, e2]
    exact ⟨fun hh => h1 (hiff.1 hh), fun hh => h2 (fun k => hh (hiff.2 k))⟩

/-- what an arc of the p-th vertex meets -/
theorem FpI.arc {f g : Nat → Int} (hB : Bfs n A src via0 O.length 0 d via O T) {p j x : Nat} (h : FpI O T p j f g) (hp : p < O.length) (hx : (A (O.getD p 0))[j]? = some x) :
    (d.getD x (-1) ≠ d.getD (O.getD p 0) (-1) + 1 ∧ FpI O T p (j + 1) f g) ∨
    (d.getD x (-1) = d.getD (O.getD p 0) (-1) + 1 ∧ 0 ≤ f x ∧ FpI O T p (j + 1) f g) ∨
    (d.getD x (-1) = d.getD (O.getD p 0) (-1) + 1 ∧ f x = -1 ∧ ∃ q, 0 < q ∧ q < O.length ∧ O.getD q 0 = x ∧ T q = (p, j)) := by
  obtain ⟨q, hq, hqx, _, hx0, _⟩ := hB.arc hp hx
  by_cases hq0 : q = 0
  · left
    subst hq0
    have hs := hB.osrc
    have hxs : x = src := by rw [← hqx, hs]
    have := (hB.dle p hp).1
    refine ⟨by rw [hxs, hB.dsrc]; omega, h.skip hB hx (fun r h0 hr e => ?_)⟩
    exact absurd (getD_inj hB.nodup hr hq (by rw [e, hqx])) (by omega)
  · have hq1 : 0 < q := by omega
    have hf := hB.first p j q hp hq1 hq (by rw [hqx]; exact hx)
    obtain ⟨h1, h2⟩ := h q hq1 hq
    by_cases hlt : Lt (T q) (p, j)
    · have hsk : FpI O T p (j + 1) f g := h.skip hB hx (fun r h0 hr e => by
        have : r = q := getD_inj hB.nodup hr hq (by rw [e, hqx])
        subst this
        intro hh
        rw [hh] at hlt
        unfold Lt at hlt
        omega)
      by_cases hd : d.getD x (-1) = d.getD (O.getD p 0) (-1) + 1
      · refine .inr (.inl ⟨hd, ?_, hsk⟩)
        rw [← hqx, (h1 hlt).1]
        omega
      · exact .inl ⟨hd, hsk⟩
    · have hT : T q = (p, j) := by
        refine pair_of ?_ ?_
        · unfold Lt at hf hlt; dsimp only at hf hlt ⊢; omega
        · unfold Lt at hf hlt; dsimp only at hf hlt ⊢; omega
      obtain ⟨_, _, _, t4⟩ := hB.tree q hq1 hq
      rw [hT, hqx] at t4
      refine .inr (.inr ⟨t4, ?_, q, hq1, hq, hqx, hT⟩)
      rw [← hqx]
      exact h2 hlt

theorem FpI.done {f g : Nat → Int} (hB : Bfs n A src via0 O.length 0 d via O T) (h : FpI O T O.length 0 f g) {q : Nat} (h0 : 0 < q) (hq : q < O.length) : f (O.getD q 0) = ((T q).1 : Nat) ∧ g (O.getD q 0) = ((T q).2 : Nat) :=
  (h q h0 hq).1 (hB.cur q h0 hq)
end
end Go.Proofs.Qxb6601175a
