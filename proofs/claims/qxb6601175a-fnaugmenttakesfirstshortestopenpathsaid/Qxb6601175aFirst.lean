/-
  PLAIN: distances are exact; the path by parents is the one whose choices come first. No Go in sight.
-/
import Derived.Test.Qxb6601175aTrail
namespace Go.Proofs.Qxb6601175a

section
variable {n : Nat} {A : Nat → List Nat} {src : Nat} {via0 : Nat → Nat} {d : List Int} {via O : List Nat} {T : Nat → Nat × Nat}

/-- along the order the distances do not fall -/
theorem Bfs.level {i j : Nat} (h : Bfs n A src via0 i j d via O T) : ∀ q p, p ≤ q → q < O.length → d.getD (O.getD p 0) (-1) ≤ d.getD (O.getD q 0) (-1) := by
  intro q
  induction q using Nat.strongRecOn with
  | ind q ih =>
    intro p hpq hq
    by_cases hp0 : p = 0
    · subst hp0
      rw [h.osrc, h.dsrc]
      exact (h.dle q hq).1
    · by_cases e : p = q
      · subst e; exact Int.le_refl _
      · have hm := h.mono p q (by omega) (by omega) hq
        obtain ⟨a1, _, _, a4⟩ := h.tree p (by omega) (by omega)
        obtain ⟨b1, _, _, b4⟩ := h.tree q (by omega) hq
        have hle : (T p).1 ≤ (T q).1 := by unfold Lt at hm; omega
        have := ih (T q).1 b1 (T p).1 hle (by omega)
        omega

/-- what an arc says of the vertex it leads to -/
theorem Bfs.arc (h : Bfs n A src via0 O.length 0 d via O T) {a b x : Nat} (ha : a < O.length) (hx : (A (O.getD a 0))[b]? = some x) :
    ∃ p, p < O.length ∧ O.getD p 0 = x ∧ (0 < p → (T p).1 ≤ a ∧ ¬ Lt (a, b) (T p)) ∧ 0 ≤ d.getD x (-1) ∧ d.getD x (-1) ≤ d.getD (O.getD a 0) (-1) + 1 := by
  have hO := h.done a b (.inl ha) ha x hx
  obtain ⟨p, hp, rfl⟩ := mem_getD hO
  have h0 := (h.dle p hp).1
  have ha0 := (h.dle a ha).1
  by_cases hp0 : p = 0
  · subst hp0
    refine ⟨0, hp, rfl, fun h => absurd h (by omega), h0, ?_⟩
    rw [h.osrc, h.dsrc]
    omega
  · have hf := h.first a b p ha (by omega) hp hx
    obtain ⟨t1, _, _, t4⟩ := h.tree p (by omega) hp
    have hle : (T p).1 ≤ a := by unfold Lt at hf; omega
    have := h.level a (T p).1 hle ha
    exact ⟨p, hp, rfl, fun _ => ⟨hle, hf⟩, h0, by omega⟩

theorem mem_at {l : List Nat} {x : Nat} (h : x ∈ l) : ∃ b : Nat, l[b]? = some x := by
  obtain ⟨b, hb, e⟩ := List.getElem_of_mem h
  exact ⟨b, by rw [List.getElem?_eq_getElem hb, e]⟩

theorem Bfs.arc' (h : Bfs n A src via0 O.length 0 d via O T) {u x : Nat} (hu : u ∈ O) (hx : x ∈ A u) : x ∈ O ∧ d.getD x (-1) ≤ d.getD u (-1) + 1 := by
  obtain ⟨a, ha, rfl⟩ := mem_getD hu
  obtain ⟨b, hb⟩ := mem_at hx
  obtain ⟨p, hp, e, _, _, hd⟩ := h.arc ha hb
  exact ⟨by rw [← e]; exact getD_mem hp, hd⟩

/-- no walk is shorter than the distance -/
theorem Bfs.short (h : Bfs n A src via0 O.length 0 d via O T) : ∀ (k x y : Nat), x ∈ O → Path A k x y → y ∈ O ∧ d.getD y (-1) ≤ d.getD x (-1) + k
  | 0, x, y, hx, hp => by
    have e : x = y := hp
    subst e
    exact ⟨hx, by omega⟩
  | k + 1, x, y, hx, ⟨z, hz, hy⟩ => by
    obtain ⟨h1, h2⟩ := h.short k x z hx hz
    obtain ⟨h3, h4⟩ := h.arc' h1 hy
    exact ⟨h3, by omega⟩
end

theorem path_cons {A : Nat → List Nat} : ∀ (k u x v : Nat), x ∈ A u → Path A k x v → Path A (k + 1) u v
  | 0, u, x, v, hx, hp => by
    have e : x = v := hp
    subst e
    exact ⟨u, rfl, hx⟩
  | k + 1, u, x, v, hx, ⟨z, hz, hv⟩ => ⟨z, path_cons k u x z hx hz, hv⟩
theorem path_uncons {A : Nat → List Nat} : ∀ (k u v : Nat), Path A (k + 1) u v → ∃ x, x ∈ A u ∧ Path A k x v
  | 0, u, v, ⟨z, hz, hv⟩ => by
    have e : u = z := hz
    subst e
    exact ⟨v, hv, rfl⟩
  | k + 1, u, v, ⟨z, hz, hv⟩ => by
    obtain ⟨x, hx, hp⟩ := path_uncons k u z hz
    exact ⟨x, hx, ⟨z, hp, hv⟩⟩

/-- the arcs turned round -/
def Turned (n : Nat) (A A' : Nat → List Nat) : Prop := ∀ x y, y < n → (x ∈ A' y ↔ x < n ∧ y ∈ A x)

/-- what the walk from the end over the turned arcs says: exact distances to the end -/
structure ToEnd (n : Nat) (A : Nat → List Nat) (en : Nat) (dT : List Int) : Prop where
  path : ∀ x, x < n → 0 ≤ dT.getD x (-1) → Path A (dT.getD x (-1)).toNat x en
  least : ∀ k x, x < n → Path A k x en → 0 ≤ dT.getD x (-1) ∧ dT.getD x (-1) ≤ k

theorem path_in {n : Nat} {A : Nat → List Nat} (hr : ∀ x, ∀ y ∈ A x, y < n) : ∀ (k x y : Nat), x < n → Path A k x y → y < n
  | 0, x, y, hx, hp => by
    have e : x = y := hp
    subst e; exact hx
  | k + 1, x, y, _, ⟨z, _, hy⟩ => hr z y hy

theorem toEnd {n : Nat} {A A' : Nat → List Nat} {en : Nat} {via0 : Nat → Nat} {dT : List Int} {via O : List Nat} {T : Nat → Nat × Nat} (h : Bfs n A' en via0 O.length 0 dT via O T) (ht : Turned n A A') (hr : ∀ x, ∀ y ∈ A x, y < n) (hr' : ∀ x, ∀ y ∈ A' x, y < n) : ToEnd n A en dT := by
  have back : ∀ k x, Path A' k en x → Path A k x en := by
    intro k
    induction k with
    | zero => intro x hp; exact (show en = x from hp).symm
    | succ k ih =>
      rintro x ⟨y, hy, hx⟩
      have hyn := path_in hr' k en y h.srcn hy
      exact path_cons k x y en ((ht x y hyn).1 hx).2 (ih y hy)
  have forth : ∀ k x, x < n → Path A k x en → Path A' k en x := by
    intro k
    induction k with
    | zero => intro x _ hp; exact (show x = en from hp).symm
    | succ k ih =>
      intro x hx hp
      obtain ⟨y, hy, hp'⟩ := path_uncons k x en hp
      have hyn := hr x y hy
      exact ⟨y, ih y hyn hp', (ht x y hyn).2 ⟨hx, hy⟩⟩
  refine ⟨fun x hx h0 => ?_, fun k x hx hp => ?_⟩
  · obtain ⟨p, hp, rfl⟩ := mem_getD ((h.inO x hx).1 h0)
    obtain ⟨k, hk, hpath⟩ := h.path p hp
    rw [hk, Int.toNat_natCast]
    exact back k _ hpath
  · have hsO : en ∈ O := by rw [← h.osrc]; exact getD_mem h.opos
    obtain ⟨h1, h2⟩ := h.short k en x hsO (forth k x hx hp)
    rw [h.dsrc] at h2
    exact ⟨(h.inO x hx).2 h1, by omega⟩

/-- the path whose choices come first, read against the distances to the end -/
def Greedy (A : Nat → List Nat) (dT : List Int) : List Nat → Prop
  | [] => False
  | u :: r => match r with
    | [] => dT.getD u (-1) = 0
    | v :: _ => dT.getD u (-1) = dT.getD v (-1) + 1 ∧ (∃ j : Nat, (A u)[j]? = some v ∧ ∀ (i x : Nat), i < j → (A u)[i]? = some x → dT.getD x (-1) ≠ dT.getD v (-1)) ∧ Greedy A dT r
theorem greedy_two (A : Nat → List Nat) (dT : List Int) (u v : Nat) (r : List Nat) : Greedy A dT (u :: v :: r) ↔ dT.getD u (-1) = dT.getD v (-1) + 1 ∧ (∃ j : Nat, (A u)[j]? = some v ∧ ∀ (i x : Nat), i < j → (A u)[i]? = some x → dT.getD x (-1) ≠ dT.getD v (-1)) ∧ Greedy A dT (v :: r) := by rw [Greedy]
theorem greedy_one (A : Nat → List Nat) (dT : List Int) (u : Nat) : Greedy A dT [u] ↔ dT.getD u (-1) = 0 := by rw [Greedy]

theorem greedy_of {n : Nat} {A : Nat → List Nat} {src en : Nat} {via0 : Nat → Nat} {d : List Int} {via O : List Nat} {T : Nat → Nat × Nat} {dT : List Int} (h : Bfs n A src via0 O.length 0 d via O T) (hT : ToEnd n A en dT) (hen : en < n) (heO : en ∈ O) :
    ∀ (P : List Nat) (u : Nat) (r : List Nat), P = u :: r → Run A d via en P → (∀ x ∈ P, x ∈ O) →
      dT.getD u (-1) = d.getD en (-1) - d.getD u (-1) ∧ (∃ pu, pu < O.length ∧ O.getD pu 0 = u ∧ ∀ py, py < O.length → d.getD (O.getD py 0) (-1) = d.getD u (-1) → dT.getD (O.getD py 0) (-1) = dT.getD u (-1) → pu ≤ py) ∧ Greedy A dT P := by
  have hlow : ∀ x, x ∈ O → 0 ≤ dT.getD x (-1) → d.getD en (-1) ≤ d.getD x (-1) + dT.getD x (-1) := by
    intro x hx h0
    have := (h.short _ x en hx (hT.path x (h.lt_of_mem hx) h0)).2
    omega
  intro P
  induction P with
  | nil => intro u r e; cases e
  | cons a s ih =>
    intro u r e hrun hPO
    simp only [List.cons.injEq] at e
    obtain ⟨rfl, rfl⟩ := e
    cases s with
    | nil =>
      rw [run_one] at hrun
      subst hrun
      have h0 := hT.least 0 a hen rfl
      have hz : dT.getD a (-1) = 0 := by omega
      obtain ⟨pu, hpu, hpe⟩ := mem_getD heO
      refine ⟨by omega, ⟨pu, hpu, hpe, fun py hpy _ h2 => ?_⟩, (greedy_one _ _ _).2 hz⟩
      have hp := hT.path (O.getD py 0) (h.rng py hpy) (by omega)
      rw [h2, hz] at hp
      have e : O.getD py 0 = a := hp
      have := getD_inj h.nodup hpu hpy (by rw [hpe, e])
      omega
    | cons v r =>
      rw [run_two] at hrun
      obtain ⟨r1, r2, r3, r4⟩ := hrun
      obtain ⟨i1, ⟨pv, hpv, hpve, hpmin⟩, i3⟩ := ih v r rfl r4 (fun x hx => hPO x (List.mem_cons_of_mem _ hx))
      have haO : a ∈ O := hPO a (by simp)
      have han := h.lt_of_mem haO
      have hvO : v ∈ O := by rw [← hpve]; exact getD_mem hpv
      have hvn := h.lt_of_mem hvO
      have hd0 : 0 ≤ d.getD a (-1) := (h.inO a han).2 haO
      -- the distance of a to the end
      have hv0 : 0 ≤ dT.getD v (-1) := by
        obtain ⟨k, hk⟩ : ∃ k, Path A k v en := by
          have : ∀ (Q : List Nat) (u : Nat) (s : List Nat), Q = u :: s → Run A d via en Q → ∃ k, Path A k u en := by
            intro Q
            induction Q with
            | nil => intro u s e; cases e
            | cons b t ihq =>
              intro u s e hq
              simp only [List.cons.injEq] at e
              obtain ⟨rfl, rfl⟩ := e
              cases t with
              | nil => rw [run_one] at hq; exact ⟨0, hq⟩
              | cons c t =>
                rw [run_two] at hq
                obtain ⟨k, hk⟩ := ihq c t rfl hq.2.2.2
                exact ⟨k + 1, path_cons k b c en hq.1 hk⟩
          exact this (v :: r) v r rfl r4
        exact (hT.least k v hvn hk).1
      have hpv2 := hT.path v hvn hv0
      have ha := hT.least _ a han (path_cons _ a v en r1 hpv2)
      have ha2 := hlow a haO ha.1
      have hda : dT.getD a (-1) = d.getD en (-1) - d.getD a (-1) := by omega
      have hstep : dT.getD a (-1) = dT.getD v (-1) + 1 := by omega
      -- where v lies, and who found it
      have hpv0 : 0 < pv := by
        rcases Nat.eq_zero_or_pos pv with e | e
        · subst e
          rw [h.osrc] at hpve
          rw [← hpve, h.dsrc] at r2
          omega
        · exact e
      obtain ⟨t1, t2, t3, _⟩ := h.tree pv hpv0 hpv
      rw [hpve] at t2 t3
      have hTa : O.getD (T pv).1 0 = a := by rw [← t3, r3]
      rw [hTa] at t2
      refine ⟨hda, ⟨(T pv).1, by omega, hTa, fun py hpy hy1 hy2 => ?_⟩, (greedy_two _ _ _ _ _).2 ⟨hstep, ⟨(T pv).2, t2, fun i x hi hx => ?_⟩, i3⟩⟩
      · -- another vertex of the level
        have hyn := h.rng py hpy
        have hyO : O.getD py 0 ∈ O := getD_mem hpy
        have hyp := hT.path _ hyn (by omega)
        rw [hy2, hstep, show (dT.getD v (-1) + 1).toNat = (dT.getD v (-1)).toNat + 1 by omega] at hyp
        obtain ⟨z, hz, hzp⟩ := path_uncons _ _ _ hyp
        obtain ⟨b, hb⟩ := mem_at hz
        obtain ⟨pz, hpz, hpze, hpz1, hz0, hz1⟩ := h.arc hpy hb
        have hzO : z ∈ O := by rw [← hpze]; exact getD_mem hpz
        have hzl := hT.least _ z (h.lt_of_mem hzO) hzp
        have hzlow := hlow z hzO hzl.1
        have e1 : d.getD z (-1) = d.getD v (-1) := by omega
        have e2 : dT.getD z (-1) = dT.getD v (-1) := by omega
        have hle := hpmin pz hpz (by rw [hpze]; exact e1) (by rw [hpze]; exact e2)
        have h3 := (hpz1 (by omega)).1
        by_cases e : pv = pz
        · rw [e]; exact h3
        · have := h.mono pv pz hpv0 (by omega) hpz
          unfold Lt at this
          omega
      · -- an earlier arc
        intro hex
        obtain ⟨px, hpx, hpxe, hpx1, hx0, hx1⟩ := h.arc (a := (T pv).1) (b := i) (x := x) (by omega) (by rw [hTa]; exact hx)
        rw [hTa] at hx1
        have hxO : x ∈ O := by rw [← hpxe]; exact getD_mem hpx
        have hxlow := hlow x hxO (by omega)
        have hle := hpmin px hpx (by rw [hpxe]; omega) (by rw [hpxe]; exact hex)
        have h3 := (hpx1 (by omega)).2
        by_cases e : pv = px
        · subst e
          unfold Lt at h3
          omega
        · have := h.mono pv px hpv0 (by omega) hpx
          unfold Lt at this h3
          omega
end Go.Proofs.Qxb6601175a
