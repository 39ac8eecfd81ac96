/-
  PLAIN: a breadth-first walk and what it leaves. No Go in sight.
-/
namespace Go.Proofs.Qxb6601175a

/-- one time comes before another -/
def Lt (a b : Nat × Nat) : Prop := a.1 < b.1 ∨ (a.1 = b.1 ∧ a.2 < b.2)
theorem Lt.trans {a b c : Nat × Nat} (h : Lt a b) (k : Lt b c) : Lt a c := by unfold Lt at *; omega

/-- THE WALK AT TIME (i, j): order O, distances d, parents via; T p: when the p-th vertex was found; A: the arcs; via0: what via held first -/
structure Bfs (n : Nat) (A : Nat → List Nat) (src : Nat) (via0 : Nat → Nat) (i j : Nat) (d : List Int) (via O : List Nat) (T : Nat → Nat × Nat) : Prop where
  dlen : d.length = n
  vlen : via.length = n
  srcn : src < n
  opos : 0 < O.length
  osrc : O.getD 0 0 = src
  rng : ∀ p, p < O.length → O.getD p 0 < n
  nodup : O.Nodup
  dsrc : d.getD src (-1) = 0
  inO : ∀ v, v < n → (0 ≤ d.getD v (-1) ↔ v ∈ O)
  neg : ∀ v, v < n → v ∉ O → d.getD v (-1) = -1
  tree : ∀ p, 0 < p → p < O.length → (T p).1 < p ∧ (A (O.getD (T p).1 0))[(T p).2]? = some (O.getD p 0) ∧ via.getD (O.getD p 0) 0 = O.getD (T p).1 0 ∧ d.getD (O.getD p 0) (-1) = d.getD (O.getD (T p).1 0) (-1) + 1
  mono : ∀ p q, 0 < p → p < q → q < O.length → Lt (T p) (T q)
  cur : ∀ p, 0 < p → p < O.length → Lt (T p) (i, j)
  done : ∀ a b, Lt (a, b) (i, j) → a < O.length → ∀ x, (A (O.getD a 0))[b]? = some x → x ∈ O
  ile : i ≤ O.length
  first : ∀ a b p, a < O.length → 0 < p → p < O.length → (A (O.getD a 0))[b]? = some (O.getD p 0) → ¬ Lt (a, b) (T p)
  vold : ∀ v, v < n → (v ∉ O ∨ v = src) → via.getD v 0 = via0 v

theorem getD_mem {l : List Nat} {p : Nat} (h : p < l.length) : l.getD p 0 ∈ l := by
  rw [List.getD_eq_getElem?_getD, List.getElem?_eq_getElem h]
  exact List.getElem_mem h
theorem mem_getD {l : List Nat} {x : Nat} (h : x ∈ l) : ∃ p, p < l.length ∧ l.getD p 0 = x := by
  obtain ⟨p, hp, e⟩ := List.getElem_of_mem h
  refine ⟨p, hp, ?_⟩
  rw [List.getD_eq_getElem?_getD, List.getElem?_eq_getElem hp]
  exact e
theorem getD_inj {l : List Nat} (hn : l.Nodup) {p q : Nat} (hp : p < l.length) (hq : q < l.length) (h : l.getD p 0 = l.getD q 0) : p = q := by
  rw [List.getD_eq_getElem?_getD, List.getD_eq_getElem?_getD, List.getElem?_eq_getElem hp, List.getElem?_eq_getElem hq] at h
  have hp' := List.pairwise_iff_getElem.1 hn
  rcases Nat.lt_trichotomy p q with h1 | h1 | h1
  · exact absurd h (hp' p q hp hq h1)
  · exact h1
  · exact absurd h.symm (hp' q p hq hp h1)
theorem getD_append_left {α : Type} (l r : List α) (p : Nat) (x : α) (h : p < l.length) : (l ++ r).getD p x = l.getD p x := by
  rw [List.getD_eq_getElem?_getD, List.getD_eq_getElem?_getD, List.getElem?_append_left h]
theorem getD_append_len {α : Type} (l : List α) (a x : α) : (l ++ [a]).getD l.length x = a := by
  rw [List.getD_eq_getElem?_getD]; simp
theorem getD_set_self {α : Type} (l : List α) (p : Nat) (a x : α) (h : p < l.length) : (l.set p a).getD p x = a := by
  rw [List.getD_eq_getElem?_getD, List.getElem?_set_self h]; rfl
theorem getD_set_ne {α : Type} (l : List α) (p q : Nat) (a x : α) (h : p ≠ q) : (l.set p a).getD q x = l.getD q x := by
  rw [List.getD_eq_getElem?_getD, List.getElem?_set_ne h, List.getD_eq_getElem?_getD]

/-- distinct numbers below n are at most n -/
theorem nodup_le : ∀ (n : Nat) (l : List Nat), l.Nodup → (∀ x ∈ l, x < n) → l.length ≤ n
  | 0, l, _, h => by
    cases l with
    | nil => simp
    | cons x r => exact absurd (h x (List.mem_cons_self)) (by omega)
  | n + 1, l, hn, h => by
    have h1 : (l.erase n).length ≤ n := nodup_le n (l.erase n) (hn.erase n) (fun x hx => by
      have := h x (List.mem_of_mem_erase hx)
      have hne : x ≠ n := fun e => by
        subst e
        exact (List.Nodup.not_mem_erase hn) hx
      omega)
    have h2 : l.length ≤ (l.erase n).length + 1 := by
      by_cases hm : n ∈ l
      · rw [List.length_erase_of_mem hm]; omega
      · rw [List.erase_of_not_mem hm]; omega
    omega

section
variable {n : Nat} {A : Nat → List Nat} {src : Nat} {via0 : Nat → Nat} {i j : Nat} {d : List Int} {via O : List Nat} {T : Nat → Nat × Nat}

theorem Bfs.olen (h : Bfs n A src via0 i j d via O T) : O.length ≤ n :=
  nodup_le n O h.nodup (fun x hx => by
    obtain ⟨p, hp, e⟩ := mem_getD hx
    rw [← e]; exact h.rng p hp)
theorem Bfs.lt_of_mem (h : Bfs n A src via0 i j d via O T) {x : Nat} (hx : x ∈ O) : x < n := by
  obtain ⟨p, hp, e⟩ := mem_getD hx
  rw [← e]; exact h.rng p hp

/-- the start -/
theorem Bfs.start {n : Nat} {A : Nat → List Nat} {src : Nat} {d : List Int} {via : List Nat} (hs : src < n) (hd : d.length = n) (hv : via.length = n) (hm : ∀ v, v < n → d.getD v (-1) = -1) :
    Bfs n A src (fun v => via.getD v 0) 0 0 (d.set src 0) via [src] (fun _ => (0, 0)) where
  dlen := by simpa using hd
  vlen := hv
  srcn := hs
  opos := by simp
  osrc := rfl
  rng := by intro p hp; simp at hp; subst hp; exact hs
  nodup := by simp
  dsrc := getD_set_self _ _ _ _ (by omega)
  inO := by
    intro v hv
    by_cases e : v = src
    · subst e; rw [getD_set_self _ _ _ _ (by omega)]; simp
    · rw [getD_set_ne _ _ _ _ _ (Ne.symm e), hm v hv]; simp [e]
  neg := by
    intro v hv hO
    have e : v ≠ src := by simpa using hO
    rw [getD_set_ne _ _ _ _ _ (Ne.symm e), hm v hv]
  tree := by intro p h1 h2; simp at h2; omega
  mono := by intro p q h1 h2 h3; simp at h3; omega
  cur := by intro p h1 h2; simp at h2; omega
  done := by intro a b h; unfold Lt at h; simp at h
  ile := by simp
  first := by intro a b p _ h1 h2; simp at h2; omega
  vold := by intro v _ _; rfl

/-- an arc to a vertex that is known -/
theorem Bfs.skip (h : Bfs n A src via0 i j d via O T) (hi : i < O.length) {k : Nat} (hk : (A (O.getD i 0))[j]? = some k) (hO : k ∈ O) : Bfs n A src via0 i (j + 1) d via O T :=
  { h with
    cur := fun p h1 h2 => by have := h.cur p h1 h2; unfold Lt at *; omega
    done := by
      intro a b hl ha x hx
      by_cases e : a = i ∧ b = j
      · obtain ⟨rfl, rfl⟩ := e
        rw [hk] at hx; cases hx; exact hO
      · exact h.done a b (by unfold Lt at *; omega) ha x hx }

/-- an arc to a vertex that is new -/
theorem Bfs.find (h : Bfs n A src via0 i j d via O T) (hi : i < O.length) {k : Nat} (hkn : k < n) (hk : (A (O.getD i 0))[j]? = some k) (hO : k ∉ O) :
    Bfs n A src via0 i (j + 1) (d.set k (d.getD (O.getD i 0) (-1) + 1)) (via.set k (O.getD i 0)) (O ++ [k]) (fun p => if p = O.length then (i, j) else T p) := by
  have hks : k ≠ src := fun e => hO (by rw [e, ← h.osrc]; exact getD_mem h.opos)
  have hmem : ∀ {x}, x ∈ O → x ≠ k := fun hx e => hO (e ▸ hx)
  have hl : (O ++ [k]).length = O.length + 1 := by simp
  have hdl := h.dlen
  have hvl := h.vlen
  have oget : ∀ p, p < O.length → (O ++ [k]).getD p 0 = O.getD p 0 := fun p hp => getD_append_left _ _ _ _ hp
  have dget : ∀ x (e : Int), x ∈ O → (d.set k e).getD x (-1) = d.getD x (-1) := fun x e hx => getD_set_ne _ _ _ _ _ (Ne.symm (hmem hx))
  have vget : ∀ x e, x ∈ O → (via.set k e).getD x 0 = via.getD x 0 := fun x e hx => getD_set_ne _ _ _ _ _ (Ne.symm (hmem hx))
  have hg : O.getD i 0 ∈ O := getD_mem hi
  have hd0 : 0 ≤ d.getD (O.getD i 0) (-1) := (h.inO _ (h.rng i hi)).2 hg
  exact {
    dlen := by simpa using hdl
    vlen := by simpa using hvl
    srcn := h.srcn
    opos := by simp
    osrc := by rw [oget 0 h.opos]; exact h.osrc
    rng := by
      intro p hp
      by_cases e : p < O.length
      · rw [oget p e]; exact h.rng p e
      · have : p = O.length := by omega
        subst this; rw [getD_append_len]; exact hkn
    nodup := by
      rw [List.nodup_append]
      refine ⟨h.nodup, by simp, fun a ha b hb => ?_⟩
      simp at hb; subst hb; exact hmem ha
    dsrc := by rw [getD_set_ne _ _ _ _ _ hks]; exact h.dsrc
    inO := by
      intro v hv
      by_cases e : v = k
      · subst e; rw [getD_set_self _ _ _ _ (by omega)]; exact ⟨fun _ => by simp, fun _ => by omega⟩
      · rw [getD_set_ne _ _ _ _ _ (Ne.symm e), h.inO v hv]; simp [e]
    neg := by
      intro v hv hv2
      simp at hv2
      rw [getD_set_ne _ _ _ _ _ (Ne.symm hv2.2)]; exact h.neg v hv hv2.1
    tree := by
      intro p h1 h2
      by_cases e : p < O.length
      · obtain ⟨t1, t2, t3, t4⟩ := h.tree p h1 e
        rw [if_neg (by omega), oget p e, oget _ (by omega)]
        have hpO := getD_mem e
        have hqO := getD_mem (l := O) (p := (T p).1) (by omega)
        exact ⟨t1, t2, by rw [vget _ _ hpO]; exact t3, by rw [dget _ _ hpO, dget _ _ hqO]; exact t4⟩
      · have : p = O.length := by omega
        subst this
        rw [if_pos rfl, getD_append_len, oget i hi]
        exact ⟨hi, hk, getD_set_self _ _ _ _ (by omega), by rw [getD_set_self _ _ _ _ (by omega), dget _ _ hg]⟩
    mono := by
      intro p q h1 h2 h3
      rw [if_neg (by omega)]
      by_cases e : q < O.length
      · rw [if_neg (by omega)]; exact h.mono p q h1 h2 e
      · rw [if_pos (by omega)]; exact h.cur p h1 (by omega)
    cur := by
      intro p h1 h2
      by_cases e : p < O.length
      · rw [if_neg (by omega)]; have := h.cur p h1 e; unfold Lt at *; omega
      · rw [if_pos (by omega)]; unfold Lt; omega
    done := by
      intro a b hlt ha x hx
      by_cases e : a < O.length
      · rw [oget a e] at hx
        by_cases e2 : a = i ∧ b = j
        · obtain ⟨rfl, rfl⟩ := e2
          rw [hk] at hx; cases hx; simp
        · exact List.mem_append_left _ (h.done a b (by unfold Lt at *; omega) e x hx)
      · unfold Lt at hlt; have := h.ile; simp at hlt; omega
    ile := by simp; have := h.ile; omega
    first := by
      intro a b p ha h1 h2 hx
      by_cases e : p < O.length
      · rw [if_neg (by omega)]
        rw [oget p e] at hx
        by_cases ea : a < O.length
        · rw [oget a ea] at hx
          exact h.first a b p ea h1 e hx
        · have := h.cur p h1 e
          unfold Lt at *
          simp only at *
          omega
      · have hp : p = O.length := by omega
        subst hp
        rw [if_pos rfl]
        rw [getD_append_len] at hx
        intro hlt
        have ea : a < O.length := by unfold Lt at hlt; simp only at hlt; omega
        rw [oget a ea] at hx
        exact hO (h.done a b hlt ea k hx)
    vold := by
      intro v hv hv2
      have hvk : v ≠ k := by
        rcases hv2 with h1 | h1
        · exact fun e => h1 (by rw [e]; simp)
        · rw [h1]; exact Ne.symm hks
      rw [getD_set_ne _ _ _ _ _ (Ne.symm hvk)]
      refine h.vold v hv ?_
      rcases hv2 with h1 | h1
      · exact .inl fun hm => h1 (List.mem_append_left _ hm)
      · exact .inr h1 }

/-- a vertex's arcs are through -/
theorem Bfs.next (h : Bfs n A src via0 i j d via O T) (hi : i < O.length) (hj : (A (O.getD i 0)).length ≤ j) : Bfs n A src via0 (i + 1) 0 d via O T :=
  { h with
    cur := fun p h1 h2 => by have := h.cur p h1 h2; unfold Lt at *; omega
    ile := by omega
    done := by
      intro a b hl ha x hx
      by_cases e : Lt (a, b) (i, j)
      · exact h.done a b e ha x hx
      · have ha' : a = i := by unfold Lt at *; omega
        subst ha'
        have hb : j ≤ b := by unfold Lt at *; omega
        rw [List.getElem?_eq_none (by omega)] at hx
        cases hx }

/-! ### what the finished walk says -/
/-- a walk of k arcs from u to v -/
def Path (A : Nat → List Nat) : Nat → Nat → Nat → Prop
  | 0, u, v => u = v
  | k + 1, u, v => ∃ x, Path A k u x ∧ v ∈ A x

theorem Bfs.closed (h : Bfs n A src via0 O.length 0 d via O T) {u x : Nat} (hu : u ∈ O) (hx : x ∈ A u) : x ∈ O := by
  obtain ⟨p, hp, rfl⟩ := mem_getD hu
  obtain ⟨b, hb, e⟩ := List.getElem_of_mem hx
  exact h.done p b (.inl hp) hp x (by rw [List.getElem?_eq_getElem hb, e])

/-- whatever can be reached is reached -/
theorem Bfs.reach (h : Bfs n A src via0 O.length 0 d via O T) : ∀ k v, Path A k src v → v ∈ O
  | 0, v, hp => by
    have : src = v := hp
    rw [← this, ← h.osrc]; exact getD_mem h.opos
  | k + 1, v, ⟨x, hx, hv⟩ => h.closed (h.reach k x hx) hv

/-- .. and by as many arcs as its distance says -/
theorem Bfs.path (h : Bfs n A src via0 i j d via O T) : ∀ p, p < O.length → ∃ k : Nat, d.getD (O.getD p 0) (-1) = k ∧ Path A k src (O.getD p 0) := by
  intro p
  induction p using Nat.strongRecOn with
  | ind p ih =>
    intro hp
    by_cases h0 : p = 0
    · subst h0
      exact ⟨0, by rw [h.osrc]; exact h.dsrc, h.osrc.symm⟩
    · obtain ⟨t1, t2, t3, t4⟩ := h.tree p (by omega) hp
      obtain ⟨k, hk, hpath⟩ := ih _ t1 (by omega)
      refine ⟨k + 1, by rw [t4, hk]; omega, ⟨_, hpath, ?_⟩⟩
      exact List.mem_of_getElem? t2
end
end Go.Proofs.Qxb6601175a
