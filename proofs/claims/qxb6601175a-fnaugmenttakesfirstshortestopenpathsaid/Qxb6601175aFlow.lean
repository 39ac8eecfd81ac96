/-
  PLAIN: paths that take arcs and leave the one the other way: what stays, and the cut. No Go in sight.
-/
namespace Go.Proofs.Qxb6601175a

/-- the list of u turned -/
def upA (A : Nat → List Nat) (u : Nat) (l : List Nat) : Nat → List Nat := fun x => if x = u then l else A x
theorem upA_same (A : Nat → List Nat) (u : Nat) (l : List Nat) : upA A u l u = l := if_pos rfl
theorem upA_other (A : Nat → List Nat) (u x : Nat) (l : List Nat) (h : x ≠ u) : upA A u l x = A x := if_neg h

/-- x laid ahead of the first element that is not less -/
def ins (x : Nat) (l : List Nat) : List Nat := l.take (l.countP (· < x)) ++ x :: l.drop (l.countP (· < x))
theorem ins_perm (x : Nat) (l : List Nat) : (ins x l).Perm (x :: l) := by
  unfold ins
  have h := List.perm_middle (a := x) (l₁ := l.take (l.countP (· < x))) (l₂ := l.drop (l.countP (· < x)))
  rw [List.take_append_drop] at h
  exact h
theorem ins_length (x : Nat) (l : List Nat) : (ins x l).length = l.length + 1 := (ins_perm x l).length_eq
theorem ins_mem (x y : Nat) (l : List Nat) : y ∈ ins x l ↔ y = x ∨ y ∈ l := by rw [(ins_perm x l).mem_iff]; simp
theorem ins_count (x y : Nat) (l : List Nat) : (ins x l).count y = l.count y + if x = y then 1 else 0 := by
  rw [(ins_perm x l).count_eq, List.count_cons]
  by_cases e : x = y <;> simp [e]

/-- in a sorted list the elements that are less stand first -/
theorem countP_split (x : Nat) : ∀ (l : List Nat), l.Pairwise (· ≤ ·) → (∀ a ∈ l.take (l.countP (· < x)), a < x) ∧ ∀ a ∈ l.drop (l.countP (· < x)), x ≤ a
  | [], _ => by simp
  | a :: r, h => by
    have hr := (List.pairwise_cons.1 h).2
    have ha := (List.pairwise_cons.1 h).1
    have ih := countP_split x r hr
    by_cases hx : a < x
    · rw [List.countP_cons_of_pos (by simpa using hx)]
      refine ⟨fun b hb => ?_, ?_⟩
      · rw [List.take_succ_cons] at hb
        rcases List.mem_cons.1 hb with e | hb
        · rw [e]; exact hx
        · exact ih.1 b hb
      · rw [List.drop_succ_cons]; exact ih.2
    · rw [List.countP_cons_of_neg (by simpa using hx)]
      have h0 : r.countP (· < x) = 0 := by
        rw [List.countP_eq_zero]
        intro b hb
        have := ha b hb
        simp; omega
      rw [h0]
      refine ⟨by simp, fun b hb => ?_⟩
      rw [List.drop_zero] at hb
      rcases List.mem_cons.1 hb with e | hb
      · rw [e]; omega
      · have := ha b hb; omega

theorem ins_sorted (x : Nat) (l : List Nat) (h : l.Pairwise (· ≤ ·)) : (ins x l).Pairwise (· ≤ ·) := by
  obtain ⟨h1, h2⟩ := countP_split x l h
  unfold ins
  have ht : (l.take (l.countP (· < x))).Pairwise (· ≤ ·) := h.sublist (List.take_sublist _ _)
  have hd : (l.drop (l.countP (· < x))).Pairwise (· ≤ ·) := h.sublist (List.drop_sublist _ _)
  rw [List.pairwise_append]
  refine ⟨ht, List.pairwise_cons.2 ⟨fun b hb => h2 b hb, hd⟩, fun a ha b hb => ?_⟩
  have := h1 a ha
  rcases List.mem_cons.1 hb with e | hb
  · rw [e]; omega
  · have := h2 b hb; omega

/-- one arc of the path: u -> v is taken, v -> u is left, save into the end -/
def step (en : Nat) (A : Nat → List Nat) (u v : Nat) : Nat → List Nat :=
  if v = en then upA A u ((A u).erase v) else upA (upA A u ((A u).erase v)) v (ins u (upA A u ((A u).erase v) v))
/-- all arcs of the path -/
def aug (en : Nat) : List Nat → (Nat → List Nat) → Nat → List Nat
  | [], A => A
  | u :: r, A => match r with
    | [] => A
    | v :: _ => aug en r (step en A u v)
/-- each vertex has an arc to the next -/
def Links (A : Nat → List Nat) : List Nat → Prop
  | [] => True
  | u :: r => match r with
    | [] => True
    | v :: _ => v ∈ A u ∧ Links A r
theorem aug_two (en u v : Nat) (r : List Nat) (A : Nat → List Nat) : aug en (u :: v :: r) A = aug en (v :: r) (step en A u v) := by rw [aug]
theorem aug_one (en u : Nat) (A : Nat → List Nat) : aug en [u] A = A := by rw [aug]
theorem links_two (A : Nat → List Nat) (u v : Nat) (r : List Nat) : Links A (u :: v :: r) ↔ v ∈ A u ∧ Links A (v :: r) := by rw [Links]

section
variable {en : Nat} {A : Nat → List Nat} {u v : Nat}
theorem step_u (h : u ≠ v) : step en A u v u = (A u).erase v := by
  unfold step
  split
  · rw [upA_same]
  · rw [upA_other _ _ _ _ h, upA_same]
theorem step_v (h : u ≠ v) (he : v ≠ en) : step en A u v v = ins u (A v) := by
  unfold step
  rw [if_neg he, upA_same, upA_other _ _ _ _ (Ne.symm h)]
theorem step_o {x : Nat} (hu : x ≠ u) (hv : x ≠ v) : step en A u v x = A x := by
  unfold step
  split
  · rw [upA_other _ _ _ _ hu]
  · rw [upA_other _ _ _ _ hv, upA_other _ _ _ _ hu]
theorem step_en (h : u ≠ en) : step en A u v en = A en := by
  unfold step
  split
  · rw [upA_other _ _ _ _ (Ne.symm h)]
  · rename_i hv
    rw [upA_other _ _ _ _ (Ne.symm hv), upA_other _ _ _ _ (Ne.symm h)]

theorem step_mem {x y : Nat} (hx : x ≠ u) (hy : y ∈ A x) : y ∈ step en A u v x := by
  by_cases e : x = v
  · subst e
    by_cases he : x = en
    · subst he
      rw [step_en (Ne.symm hx)]; exact hy
    · rw [step_v (Ne.symm hx) he]
      exact (ins_mem u y (A x)).2 (.inr hy)
  · rw [step_o hx e]; exact hy

theorem links_step : ∀ (P : List Nat), u ∉ P → Links A P → Links (step en A u v) P
  | [], _, _ => by simp [Links]
  | [a], _, _ => by simp [Links]
  | a :: b :: r, hu, h => by
    rw [links_two] at h ⊢
    refine ⟨step_mem (fun e => hu (by rw [e]; simp)) h.1, links_step (b :: r) (fun hm => hu (List.mem_cons_of_mem _ hm)) h.2⟩

theorem step_sorted (hs : ∀ x, (A x).Pairwise (· ≤ ·)) (h : u ≠ v) : ∀ x, (step en A u v x).Pairwise (· ≤ ·) := by
  intro x
  by_cases hx : x = u
  · subst hx; rw [step_u h]; exact (hs x).sublist List.erase_sublist
  · by_cases hv : x = v
    · subst hv
      by_cases he : x = en
      · subst he; rw [step_en h]; exact hs x
      · rw [step_v h he]; exact ins_sorted _ _ (hs x)
    · rw [step_o hx hv]; exact hs x

theorem step_rng {n : Nat} (hr : ∀ x, ∀ y ∈ A x, y < n) (h : u ≠ v) (hu : u < n) : ∀ x, ∀ y ∈ step en A u v x, y < n := by
  intro x y hy
  by_cases hx : x = u
  · subst hx; rw [step_u h] at hy; exact hr x y (List.mem_of_mem_erase hy)
  · by_cases hv : x = v
    · subst hv
      by_cases he : x = en
      · subst he; rw [step_en h] at hy; exact hr x y hy
      · rw [step_v h he] at hy
        rcases (ins_mem u y (A x)).1 hy with e | hy
        · rw [e]; exact hu
        · exact hr x y hy
    · rw [step_o hx hv] at hy; exact hr x y hy

theorem step_pair (h : u ≠ v) (hv : v ∈ A u) {x y : Nat} (hx : x ≠ en) (hy : y ≠ en) :
    (step en A u v x).count y + (step en A u v y).count x = (A x).count y + (A y).count x := by
  have hc : 0 < (A u).count v := List.count_pos_iff.2 hv
  have key : ∀ a b, a ≠ en → b ≠ en → ((step en A u v a).count b : Int) = (A a).count b - (if a = u ∧ b = v then 1 else 0) + (if a = v ∧ b = u then 1 else 0) := by
    intro a b ha hb
    by_cases e1 : a = u
    · subst e1
      rw [step_u h, List.count_erase]
      have : ¬ (a = v ∧ b = a) := fun hh => h hh.1
      rw [if_neg this]
      by_cases e2 : b = v
      · subst e2
        simp
        omega
      · have : ¬ (v == b) = true := by simpa using Ne.symm e2
        simp [e2, this]
    · by_cases e2 : a = v
      · subst e2
        rw [step_v h ha, ins_count]
        simp only [e1, false_and, if_false, true_and, eq_comm (a := u)]
        split <;> simp
      · rw [step_o e1 e2]; simp [e1, e2]
  have k1 := key x y hx hy
  have k2 := key y x hy hx
  have e1 : (if x = u ∧ y = v then (1 : Int) else 0) = if y = v ∧ x = u then 1 else 0 := by simp [and_comm]
  have e2 : (if x = v ∧ y = u then (1 : Int) else 0) = if y = u ∧ x = v then 1 else 0 := by simp [and_comm]
  omega
end

/-- WHAT A WHOLE PATH LEAVES -/
theorem aug_all {en n : Nat} : ∀ (P : List Nat) (A : Nat → List Nat), P.Nodup → Links A P → P.getLast? = some en → (∀ x ∈ P, x < n) → (∀ x, (A x).Pairwise (· ≤ ·)) → (∀ x, ∀ y ∈ A x, y < n) →
    (∀ x, (aug en P A x).Pairwise (· ≤ ·)) ∧ (∀ x, ∀ y ∈ aug en P A x, y < n) ∧ aug en P A en = A en ∧
    (∀ x, x ≠ en → (aug en P A x).length + (if P.head? = some x then 1 else 0) = (A x).length) ∧
    (∀ x y, x ≠ en → y ≠ en → (aug en P A x).count y + (aug en P A y).count x = (A x).count y + (A y).count x)
  | [], A, _, _, hl, _, _, _ => by simp at hl
  | [u], A, _, _, hl, _, hs, hr => by
    simp at hl
    subst hl
    rw [aug_one]
    refine ⟨hs, hr, rfl, fun x hx => ?_, fun _ _ _ _ => rfl⟩
    simp [Ne.symm hx]
  | u :: v :: r, A, hn, hk, hl, hP, hs, hr => by
    rw [aug_two]
    obtain ⟨hk1, hk2⟩ := (links_two A u v r).1 hk
    have hnd := List.nodup_cons.1 hn
    have huv : u ≠ v := fun e => hnd.1 (by rw [e]; simp)
    have hl' : (v :: r).getLast? = some en := by rw [List.getLast?_cons_cons] at hl; exact hl
    have hen : en ∈ v :: r := List.mem_of_getLast? hl'
    have hue : u ≠ en := fun e => hnd.1 (e ▸ hen)
    have ih := aug_all (v :: r) (step en A u v) hnd.2 (links_step (v :: r) hnd.1 hk2) hl' (fun x hx => hP x (List.mem_cons_of_mem _ hx)) (step_sorted hs huv) (step_rng hr huv (hP u (by simp)))
    obtain ⟨i1, i2, i3, i4, i5⟩ := ih
    refine ⟨i1, i2, by rw [i3, step_en hue], fun x hx => ?_, fun x y hx hy => by rw [i5 x y hx hy, step_pair huv hk1 hx hy]⟩
    have h4 := i4 x hx
    by_cases e : x = u
    · subst e
      have hxv : ¬ (v :: r).head? = some x := by simp; exact Ne.symm huv
      rw [if_neg hxv, step_u huv, List.length_erase_of_mem hk1] at h4
      have : 0 < (A x).length := List.length_pos_of_mem hk1
      simp
      omega
    · have hxu : ¬ (u :: v :: r).head? = some x := by simp; exact Ne.symm e
      rw [if_neg hxu]
      by_cases e2 : x = v
      · subst e2
        rw [step_v huv hx, ins_length] at h4
        simp at h4
        omega
      · have hxv : ¬ (v :: r).head? = some x := by simp; exact Ne.symm e2
        rw [if_neg hxv, step_o e e2] at h4
        omega

/-! ### sums over 0 .. n - 1 -/
def sumN (f : Nat → Nat) : Nat → Nat
  | 0 => 0
  | n + 1 => sumN f n + f n
theorem sumN_congr {f g : Nat → Nat} : ∀ (n : Nat), (∀ i, i < n → f i = g i) → sumN f n = sumN g n
  | 0, _ => rfl
  | n + 1, h => by
    unfold sumN
    rw [sumN_congr n (fun i hi => h i (by omega)), h n (by omega)]
theorem sumN_add (f g : Nat → Nat) : ∀ (n : Nat), sumN (fun i => f i + g i) n = sumN f n + sumN g n
  | 0 => rfl
  | n + 1 => by unfold sumN; rw [sumN_add f g n]; omega
theorem sumN_zero : ∀ (n : Nat), sumN (fun _ => 0) n = 0
  | 0 => rfl
  | n + 1 => by unfold sumN; rw [sumN_zero n]
theorem sumN_swap (f : Nat → Nat → Nat) (m : Nat) : ∀ (n : Nat), sumN (fun i => sumN (fun j => f i j) m) n = sumN (fun j => sumN (fun i => f i j) n) m
  | 0 => by
    rw [show (fun j => sumN (fun i => f i j) 0) = fun _ => 0 from rfl, sumN_zero]
    rfl
  | n + 1 => by
    conv => lhs; unfold sumN
    rw [sumN_swap f m n, ← sumN_add]
    exact sumN_congr m (fun j _ => rfl)
theorem sumN_one {x : Nat} (k : Nat) : ∀ (n : Nat), x < n → sumN (fun i => if i = x then k else 0) n = k
  | 0, h => absurd h (by omega)
  | n + 1, h => by
    unfold sumN
    by_cases e : x = n
    · subst e
      rw [if_pos rfl, sumN_congr x (g := fun _ => 0) (fun i hi => if_neg (by omega)), sumN_zero]
      omega
    · rw [if_neg (Ne.symm e), sumN_one k n (by omega)]; omega

/-- how many elements of a list have p: a sum of counts -/
theorem filter_sum (p : Nat → Bool) (n : Nat) : ∀ (l : List Nat), (∀ y ∈ l, y < n) → (l.filter p).length = sumN (fun y => if p y = true then l.count y else 0) n
  | [], _ => by
    simp only [List.filter_nil, List.length_nil, List.count_nil]
    rw [sumN_congr n (g := fun _ => 0) (fun i _ => by split <;> rfl), sumN_zero]
  | a :: r, h => by
    have ih := filter_sum p n r (fun y hy => h y (List.mem_cons_of_mem _ hy))
    have ha := h a (by simp)
    have e : sumN (fun y => if p y = true then (a :: r).count y else 0) n = sumN (fun y => (if p y = true then r.count y else 0) + (if y = a then (if p a = true then 1 else 0) else 0)) n := by
      apply sumN_congr
      intro y _
      rw [List.count_cons]
      by_cases e : y = a
      · subst e
        simp
        split <;> rfl
      · have : ¬ (a == y) = true := by simpa using Ne.symm e
        simp [e, this]
    rw [e, sumN_add, ← ih, sumN_one _ n ha, List.filter_cons]
    split <;> simp

theorem filter_both (p : Nat → Bool) : ∀ (l : List Nat), l.length = (l.filter p).length + (l.filter fun y => !p y).length
  | [] => rfl
  | a :: r => by
    have ih := filter_both p r
    rw [List.filter_cons, List.filter_cons]
    cases p a <;> simp <;> omega

/-- THE FLOW SO FAR: c paths found -/
structure Flow (n src en : Nat) (A0 A : Nat → List Nat) (c : Nat) : Prop where
  rng : ∀ x, ∀ y ∈ A x, y < n
  sorted : ∀ x, (A x).Pairwise (· ≤ ·)
  lsrc : (A src).length + c = (A0 src).length
  len : ∀ x, x ≠ src → x ≠ en → (A x).length = (A0 x).length
  len' : ∀ x, (A x).length ≤ (A0 x).length
  pair : ∀ x y, x ≠ en → y ≠ en → (A x).count y + (A y).count x = (A0 x).count y + (A0 y).count x

theorem Flow.start {n src en : Nat} {A : Nat → List Nat} (hr : ∀ x, ∀ y ∈ A x, y < n) (hs : ∀ x, (A x).Pairwise (· ≤ ·)) : Flow n src en A A 0 :=
  ⟨hr, hs, by omega, fun _ _ _ => rfl, fun _ => Nat.le_refl _, fun _ _ _ _ => rfl⟩

theorem Flow.step {n src en : Nat} {A0 A : Nat → List Nat} {c : Nat} (h : Flow n src en A0 A c) (hse : src ≠ en) {P : List Nat} (hn : P.Nodup) (hk : Links A P) (hh : P.head? = some src) (hl : P.getLast? = some en) (hP : ∀ x ∈ P, x < n) :
    Flow n src en A0 (aug en P A) (c + 1) := by
  obtain ⟨a1, a2, a3, a4, a5⟩ := aug_all P A hn hk hl hP h.sorted h.rng
  refine ⟨a2, a1, ?_, fun x hx he => ?_, fun x => ?_, fun x y hx hy => by rw [a5 x y hx hy]; exact h.pair x y hx hy⟩
  · have := a4 src hse
    rw [if_pos hh] at this
    have := h.lsrc
    omega
  · have := a4 x he
    rw [if_neg (by rw [hh]; simp; exact Ne.symm hx)] at this
    have := h.len x hx he
    omega
  · by_cases he : x = en
    · subst he; rw [a3]; exact h.len' x
    · have := a4 x he
      have := h.len' x
      omega

/-- THE CUT: where the reached vertices lead nowhere else, the paths are as many as the first arcs that leave them -/
theorem Flow.cut {n src en : Nat} {A0 A : Nat → List Nat} {c : Nat} (h : Flow n src en A0 A c) (hse : src ≠ en) (hsn : src < n) (h0 : ∀ x, ∀ y ∈ A0 x, y < n) (r : Nat → Bool) (hrs : r src = true) (hre : r en = false)
    (hcl : ∀ x, x < n → r x = true → ∀ y ∈ A x, r y = true) : c = sumN (fun x => if r x = true then ((A0 x).filter fun y => !r y).length else 0) n := by
  -- the two double sums
  have dbl : ∀ (D : Nat → List Nat), sumN (fun x => if r x = true then sumN (fun y => if r y = true then (D x).count y else 0) n else 0) n + sumN (fun x => if r x = true then sumN (fun y => if r y = true then (D x).count y else 0) n else 0) n =
      sumN (fun x => sumN (fun y => if r x = true ∧ r y = true then (D x).count y + (D y).count x else 0) n) n := by
    intro D
    have e1 : sumN (fun x => if r x = true then sumN (fun y => if r y = true then (D x).count y else 0) n else 0) n = sumN (fun x => sumN (fun y => if r x = true ∧ r y = true then (D x).count y else 0) n) n := by
      apply sumN_congr
      intro x _
      by_cases hx : r x = true
      · simp [hx]
      · rw [if_neg hx, sumN_congr n (g := fun _ => 0) (fun y _ => if_neg (fun hh => hx hh.1)), sumN_zero]
    have e2 : sumN (fun x => sumN (fun y => if r x = true ∧ r y = true then (D x).count y else 0) n) n = sumN (fun x => sumN (fun y => if r x = true ∧ r y = true then (D y).count x else 0) n) n := by
      rw [sumN_swap (fun x y => if r x = true ∧ r y = true then (D x).count y else 0) n n]
      apply sumN_congr
      intro x _
      apply sumN_congr
      intro y _
      simp only [and_comm]
    rw [e1]
    conv => lhs; rhs; rw [e2]
    rw [← sumN_add]
    apply sumN_congr
    intro x _
    rw [← sumN_add]
    apply sumN_congr
    intro y _
    split <;> simp
  have d1 := dbl A
  have d2 := dbl A0
  have same : sumN (fun x => sumN (fun y => if r x = true ∧ r y = true then (A x).count y + (A y).count x else 0) n) n = sumN (fun x => sumN (fun y => if r x = true ∧ r y = true then (A0 x).count y + (A0 y).count x else 0) n) n := by
    apply sumN_congr
    intro x _
    apply sumN_congr
    intro y _
    split
    · rename_i hxy
      refine h.pair x y (fun e => ?_) (fun e => ?_)
      · rw [e, hre] at hxy; cases hxy.1
      · rw [e, hre] at hxy; cases hxy.2
    · rfl
  -- lengths: in A every arc of a reached vertex stays inside
  have l1 : sumN (fun x => if r x = true then (A x).length else 0) n = sumN (fun x => if r x = true then sumN (fun y => if r y = true then (A x).count y else 0) n else 0) n := by
    apply sumN_congr
    intro x hx
    by_cases hr : r x = true
    · rw [if_pos hr, if_pos hr, ← filter_sum r n (A x) (h.rng x), List.filter_eq_self.2 (hcl x hx hr)]
    · rw [if_neg hr, if_neg hr]
  have l2 : sumN (fun x => if r x = true then (A0 x).length else 0) n = sumN (fun x => if r x = true then sumN (fun y => if r y = true then (A0 x).count y else 0) n else 0) n + sumN (fun x => if r x = true then ((A0 x).filter fun y => !r y).length else 0) n := by
    rw [← sumN_add]
    apply sumN_congr
    intro x hx
    by_cases hr : r x = true
    · simp only [hr, if_true]
      rw [← filter_sum r n (A0 x) (h0 x)]
      have := filter_both r (A0 x)
      omega
    · simp [hr]
  have l3 : sumN (fun x => if r x = true then (A x).length else 0) n + c = sumN (fun x => if r x = true then (A0 x).length else 0) n := by
    have e : sumN (fun x => if r x = true then (A0 x).length else 0) n = sumN (fun x => (if r x = true then (A x).length else 0) + (if x = src then c else 0)) n := by
      apply sumN_congr
      intro x _
      by_cases hx : x = src
      · subst hx
        simp [hrs]
        exact h.lsrc.symm
      · by_cases hr : r x = true
        · have hxe : x ≠ en := fun e => by rw [e, hre] at hr; cases hr
          simp [hr, hx, h.len x hx hxe]
        · simp [hr, hx]
    rw [e, sumN_add, sumN_one c n hsn]
  omega
end Go.Proofs.Qxb6601175a
