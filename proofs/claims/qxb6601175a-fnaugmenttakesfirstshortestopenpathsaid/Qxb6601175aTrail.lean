/-
  PLAIN: the trail back from the end, and what the path's arcs do to the lists and to next.
-/
import Derived.Test.Qxb6601175aGraph
namespace Go.Proofs.Qxb6601175a

/-- from its first vertex on, by arcs, each one further, to the end -/
def Run (A : Nat → List Nat) (d : List Int) (via : List Nat) (en : Nat) : List Nat → Prop
  | [] => False
  | u :: r => match r with
    | [] => u = en
    | v :: _ => v ∈ A u ∧ d.getD v (-1) = d.getD u (-1) + 1 ∧ via.getD v 0 = u ∧ Run A d via en r
theorem run_two (A : Nat → List Nat) (d : List Int) (via : List Nat) (en u v : Nat) (r : List Nat) : Run A d via en (u :: v :: r) ↔ v ∈ A u ∧ d.getD v (-1) = d.getD u (-1) + 1 ∧ via.getD v 0 = u ∧ Run A d via en (v :: r) := by rw [Run]
theorem run_one (A : Nat → List Nat) (d : List Int) (via : List Nat) (en u : Nat) : Run A d via en [u] ↔ u = en := by rw [Run]

theorem Run.all {A : Nat → List Nat} {d : List Int} {via : List Nat} {en : Nat} : ∀ (P : List Nat), Run A d via en P →
    P.Nodup ∧ Links A P ∧ P.getLast? = some en ∧ (∀ u, P.head? = some u → (∀ x ∈ P, d.getD u (-1) ≤ d.getD x (-1)) ∧ d.getD en (-1) - d.getD u (-1) + 1 = P.length)
  | [], h => absurd h (by simp [Run])
  | [u], h => by
    rw [run_one] at h
    subst h
    refine ⟨by simp, by simp [Links], by simp, fun x hx => ?_⟩
    simp at hx
    subst hx
    refine ⟨fun x hx => by simp at hx; subst hx; exact Int.le_refl _, by simp⟩
  | u :: v :: r, h => by
    rw [run_two] at h
    obtain ⟨h1, h2, h3, h4⟩ := h
    obtain ⟨i1, i2, i3, i4⟩ := Run.all (v :: r) h4
    obtain ⟨j1, j2⟩ := i4 v rfl
    refine ⟨List.nodup_cons.2 ⟨fun hm => ?_, i1⟩, (links_two A u v r).2 ⟨h1, i2⟩, by rw [List.getLast?_cons_cons]; exact i3, fun x hx => ?_⟩
    · have := j1 u hm; omega
    · simp at hx
      subst hx
      refine ⟨fun x hx => ?_, ?_⟩
      · rcases List.mem_cons.1 hx with e | hx
        · rw [e]; exact Int.le_refl _
        · have := j1 x hx; omega
      · simp only [List.length_cons] at j2 ⊢
        omega

/-- one vertex back -/
theorem Bfs.back {n : Nat} {A : Nat → List Nat} {src : Nat} {via0 : Nat → Nat} {i j : Nat} {d : List Int} {via O : List Nat} {T : Nat → Nat × Nat} (h : Bfs n A src via0 i j d via O T) {v : Nat} (hv : v ∈ O) (hs : v ≠ src) :
    via.getD v 0 ∈ O ∧ v ∈ A (via.getD v 0) ∧ d.getD v (-1) = d.getD (via.getD v 0) (-1) + 1 := by
  obtain ⟨p, hp, rfl⟩ := mem_getD hv
  have h0 : 0 < p := by
    rcases Nat.eq_zero_or_pos p with e | e
    · subst e; exact absurd h.osrc hs
    · exact e
  obtain ⟨t1, t2, t3, t4⟩ := h.tree p h0 hp
  rw [t3]
  exact ⟨getD_mem (by omega), List.mem_of_getElem? t2, t4⟩

/-- the lists as a function -/
def fun0 (arcs : List (List Nat)) : Nat → List Nat := fun x => arcs.getD x []
theorem fun0_set (arcs : List (List Nat)) (u : Nat) (l : List Nat) (hu : u < arcs.length) : fun0 (arcs.set u l) = upA (fun0 arcs) u l := by
  funext x
  unfold fun0 upA
  by_cases e : x = u
  · subst e; rw [if_pos rfl, getD_set_self _ _ _ _ hu]
  · rw [if_neg e, getD_set_ne _ _ _ _ _ (Ne.symm e)]

/-- next along the path -/
def nxt1 (next : List Int) (u v : Nat) : List Int := if u % 2 = 1 ∧ u / 2 ≠ v / 2 then next.set (u / 2) ((v / 2 : Nat) : Int) else next
def nxt : List Nat → List Int → List Int
  | [], z => z
  | u :: r, z => match r with
    | [] => z
    | v :: _ => nxt r (nxt1 z u v)
theorem nxt_two (u v : Nat) (r : List Nat) (z : List Int) : nxt (u :: v :: r) z = nxt (v :: r) (nxt1 z u v) := by rw [nxt]
theorem nxt_one (u : Nat) (z : List Int) : nxt [u] z = z := by rw [nxt]
theorem nxt1_length (z : List Int) (u v : Nat) : (nxt1 z u v).length = z.length := by unfold nxt1; split <;> simp
theorem nxt_length : ∀ (P : List Nat) (z : List Int), (nxt P z).length = z.length
  | [], z => rfl
  | [u], z => rfl
  | u :: v :: r, z => by rw [nxt_two, nxt_length (v :: r), nxt1_length]

/-- THE STATE within the second loop: i arcs taken, the vertex at place i the next to be left -/
structure Mid (n en : Nat) (P : List Nat) (A : Nat → List Nat) (next : List Int) (i : Nat) (arcs : List (List Nat)) (next' : List Int) : Prop where
  lt : i < P.length
  len : arcs.length = n
  nlen : next'.length = next.length
  links : Links (fun0 arcs) (P.drop i)
  sorted : ∀ x, (fun0 arcs x).Pairwise (· ≤ ·)
  rng : ∀ x, ∀ y ∈ fun0 arcs x, y < n
  bound : ∀ x, (fun0 arcs x).length ≤ 2097152 + i
  goal : aug en (P.drop i) (fun0 arcs) = aug en P A
  goalN : nxt (P.drop i) next' = nxt P next

theorem Mid.start {n en : Nat} {P : List Nat} {arcs : List (List Nat)} {next : List Int} (hl : 0 < P.length) (hn : arcs.length = n) (hk : Links (fun0 arcs) P) (hs : ∀ x, (fun0 arcs x).Pairwise (· ≤ ·)) (hr : ∀ x, ∀ y ∈ fun0 arcs x, y < n) (hb : ∀ x, (fun0 arcs x).length ≤ 2097152) :
    Mid n en P (fun0 arcs) next 0 arcs next := ⟨hl, hn, rfl, hk, hs, hr, hb, rfl, rfl⟩

theorem drop_two {P : List Nat} {i : Nat} (h : i + 1 < P.length) : P.drop i = P.getD i 0 :: P.getD (i + 1) 0 :: P.drop (i + 2) ∧ P.drop (i + 1) = P.getD (i + 1) 0 :: P.drop (i + 2) := by
  have h2 : P.drop (i + 1) = P.getD (i + 1) 0 :: P.drop (i + 2) := by
    rw [List.drop_eq_getElem_cons h, List.getD_eq_getElem?_getD, List.getElem?_eq_getElem h]; rfl
  refine ⟨?_, h2⟩
  have e : P.getD i 0 = P[i] := by rw [List.getD_eq_getElem?_getD, List.getElem?_eq_getElem (by omega)]; rfl
  rw [List.drop_eq_getElem_cons (by omega), h2, e]

theorem Mid.arc {n en : Nat} {P : List Nat} {A : Nat → List Nat} {next next' : List Int} {i : Nat} {arcs : List (List Nat)} (h : Mid n en P A next i arcs next') (hi : i + 1 < P.length) : P.getD (i + 1) 0 ∈ fun0 arcs (P.getD i 0) := by
  have hk := h.links
  rw [(drop_two hi).1, links_two] at hk
  exact hk.1

/-- one arc of the path -/
theorem Mid.step {n en : Nat} {P : List Nat} {A : Nat → List Nat} {next next' : List Int} {i : Nat} {arcs arcs' : List (List Nat)} (h : Mid n en P A next i arcs next') (hi : i + 1 < P.length) (hn : P.Nodup) (hP : ∀ x ∈ P, x < n)
    (hl : arcs'.length = n) (ha : fun0 arcs' = step en (fun0 arcs) (P.getD i 0) (P.getD (i + 1) 0)) : Mid n en P A next (i + 1) arcs' (nxt1 next' (P.getD i 0) (P.getD (i + 1) 0)) := by
  obtain ⟨e1, e2⟩ := drop_two hi
  have hnd : (P.drop i).Nodup := hn.sublist (List.drop_sublist _ _)
  have hk := h.links
  have hg := h.goal
  have hgn := h.goalN
  rw [e1, links_two] at hk
  rw [e1, aug_two, ← e2, ← ha] at hg
  rw [e1, nxt_two, ← e2] at hgn
  rw [e1, ← e2, List.nodup_cons] at hnd
  rw [← e2] at hk
  have huv : P.getD i 0 ≠ P.getD (i + 1) 0 := fun e => hnd.1 (by rw [e, e2]; simp)
  refine ⟨hi, hl, by rw [nxt1_length, h.nlen], ?_, ?_, ?_, fun x => ?_, hg, hgn⟩
  · rw [ha]; exact links_step _ hnd.1 hk.2
  · rw [ha]; exact step_sorted h.sorted huv
  · rw [ha]; exact step_rng h.rng huv (hP _ (getD_mem (by omega)))
  · rw [ha]
    have hb := h.bound x
    by_cases e : x = P.getD i 0
    · subst e
      rw [step_u huv]
      have : ((fun0 arcs (P.getD i 0)).erase (P.getD (i + 1) 0)).length ≤ (fun0 arcs (P.getD i 0)).length := List.erase_sublist.length_le
      omega
    · by_cases e2 : x = P.getD (i + 1) 0
      · by_cases e3 : x = en
        · have hue : P.getD i 0 ≠ en := fun hh => e (by rw [hh, e3])
          rw [e3, step_en hue, ← e3]; omega
        · rw [e2, step_v huv (by rw [← e2]; exact e3), ins_length, ← e2]; omega
      · rw [step_o e e2]; omega

/-- the two stores of an arc -/
theorem step_lists {n en : Nat} {arcs : List (List Nat)} {u v : Nat} (hn : arcs.length = n) (hu : u < n) (hv : v < n) (huv : u ≠ v) :
    (v = en → fun0 (arcs.set u ((arcs.getD u []).erase v)) = step en (fun0 arcs) u v) ∧
    (v ≠ en → fun0 ((arcs.set u ((arcs.getD u []).erase v)).set v (ins u (arcs.getD v []))) = step en (fun0 arcs) u v) := by
  refine ⟨fun e => ?_, fun e => ?_⟩
  · rw [fun0_set _ _ _ (by omega)]
    unfold step
    rw [if_pos e]
    rfl
  · rw [fun0_set _ _ _ (by rw [List.length_set]; omega), fun0_set _ _ _ (by omega)]
    unfold step
    rw [if_neg e, upA_other _ _ _ _ (Ne.symm huv)]
    rfl

theorem Mid.last {n en : Nat} {P : List Nat} {A : Nat → List Nat} {next next' : List Int} {i : Nat} {arcs : List (List Nat)} (h : Mid n en P A next i arcs next') (hi : P.length ≤ i + 1) : fun0 arcs = aug en P A ∧ next' = nxt P next := by
  have hlt := h.lt
  have hg := h.goal
  have hgn := h.goalN
  have e : P.drop i = [P[i]] := by
    rw [List.drop_eq_getElem_cons hlt, List.drop_of_length_le hi]
  rw [e] at hg hgn
  rw [aug_one] at hg
  rw [nxt_one] at hgn
  exact ⟨hg, hgn⟩

/-! ### the library's calls on the lists of the graph -/
open Go.RowKit
/-- two worlds that part in the draws alone -/
structure Same (w W : World) : Prop where
  heap : W.heap = w.heap
  os : W.os = w.os
  tape : W.tape = w.tape
  output : W.output = w.output
theorem Same.grown {w W : World} (h : Same w W) (row : Option Nat) : w.grownBy W row := grown_heap h.heap h.os h.tape h.output row
theorem Same.below {w W : World} (h : Same w W) (B : Nat) : Below B w W := ⟨h.os, h.tape, h.output, by rw [h.heap]; exact Nat.le_refl _, fun i _ => by rw [h.heap]⟩

section
variable {w : World} {B n bg bw : Nat} {R : Nat → Rw} {arcs : List (List Nat)} {ba ca bd cd bv cv : Nat} {vo vn vt : Value} {d : List Int} {via O : List Nat} {next : List Int} {trail : List Nat}

theorem GS.grown (h : GS w B n bg bw R arcs ba ca bd cd bv cv vo vn vt d via O next trail) {W : World} (hg : w.grownBy W none) : GS W B n bg bw R arcs ba ca bd cd bv cv vo vn vt d via O next trail :=
  ⟨⟨h.ws.own.heap hg, h.ws.hm, h.ws.fix, Nat.le_trans h.ws.hB hg.size⟩, h.nx, h.tr, h.gr⟩
theorem GS.same (h : GS w B n bg bw R arcs ba ca bd cd bv cv vo vn vt d via O next trail) {W : World} (hs : Same w W) : GS W B n bg bw R arcs ba ca bd cd bv cv vo vn vt d via O next trail := h.grown (hs.grown none)

theorem GS.ne (h : GS w B n bg bw R arcs ba ca bd cd bv cv vo vn vt d via O next trail) : bg ≠ ba := by
  have hm := h.ws.hm
  have hf := h.ws.own.far (n + 7) 0 (by omega) (by omega) (by omega)
  rw [tab_o (n + 7) (by omega), tab_o 0 (by omega), h.gr, h.ws.fix.top] at hf
  rcases hf with hf | hf
  · cases hf
  · exact fun e => hf (by rw [e]; rfl)
theorem GS.keep {w0 : World} (h : GS w B n bg bw R arcs ba ca bd cd bv cv vo vn vt d via O next trail ∧ Below B w0 w) {W : World} (hs : Same w W) : GS W B n bg bw R arcs ba ca bd cd bv cv vo vn vt d via O next trail ∧ Below B w0 W :=
  ⟨h.1.same hs, h.2.trans (hs.below B)⟩

/-- slices.Index and slices.Delete of an arc that is there -/
theorem GS.del (h : GS w B n bg bw R arcs ba ca bd cd bv cv vo vn vt d via O next trail) (u v : Nat) (hu : u < n) (hv : v ∈ arcs.getD u []) (hl : (arcs.getD u []).length ≤ 4194304) :
    ∃ bl cl k, k < (arcs.getD u []).length ∧ (R (u + 1)).v = .slice (some ⟨bl, 0, none⟩) (arcs.getD u []).length cl ∧
      Calls Try.prog 48 #[.slice (some ⟨bl, 0, none⟩) (arcs.getD u []).length cl, .int .i64 (v : Int)] w (fun e w' => e = .returned (.int .i64 (k : Int)) ∧ w' = w) ∧
      ∀ W, Same w W → Calls Try.prog 49 #[.slice (some ⟨bl, 0, none⟩) (arcs.getD u []).length cl, .int .i64 (k : Int), .int .i64 ((k : Int) + 1)] W fun e w' => e = .returned (.slice (some ⟨bl, 0, none⟩) ((arcs.getD u []).length - 1) cl) ∧
        w'.cell? ⟨ba, u, none⟩ = some (.slice (some ⟨bl, 0, none⟩) (arcs.getD u []).length cl) ∧ w'.frozen? ⟨ba, u, none⟩ = false ∧ w'.cell? ⟨bg, 2, none⟩ = some (.slice (some ⟨ba, 0, none⟩) n ca) ∧
        Hid (∃ R', GS (w'.setCell ⟨ba, u, none⟩ (.slice (some ⟨bl, 0, none⟩) ((arcs.getD u []).length - 1) cl)) B n bg bw R' (arcs.set u ((arcs.getD u []).erase v)) ba ca bd cd bv cv vo vn vt d via O next trail ∧
          Below B w (w'.setCell ⟨ba, u, none⟩ (.slice (some ⟨bl, 0, none⟩) ((arcs.getD u []).length - 1) cl))) := by
  have hL := h.ws.rowL u hu
  obtain ⟨bl, cl, h1, _⟩ := slice_form hL (by rw [ints_length, nz_length]; exact List.length_pos_of_mem hv)
  dsimp only at h1
  rw [ints_length, nz_length] at h1
  obtain ⟨k, hk, hkx, hkf, hke⟩ := first_at _ v hv
  have hL' := hL
  rw [h1] at hL'
  refine ⟨bl, cl, k, hk, h1, index_own hL' hl v k hk hkx hkf, fun W hs => ?_⟩
  have hW := h.same hs
  have hLW := hW.ws.rowL u hu
  rw [h1] at hLW
  refine (delete_own hLW hl k hk).mono ?_
  rintro e w' ⟨rfl, ho, hg⟩
  rw [← hke] at ho
  obtain ⟨s1, s2, s3, R', s4, s5⟩ := hW.setL u hu (by rw [h1]; exact hg) ho (by rw [h1]; exact .inr (.inl rfl))
  rw [h1] at s1
  exact ⟨rfl, s1, s2, s3, R', s4, (hs.below B).trans s5⟩

/-- slices.BinarySearch and slices.Insert -/
theorem GS.insert (h : GS w B n bg bw R arcs ba ca bd cd bv cv vo vn vt d via O next trail) (v u : Nat) (hv : v < n) (hl : (arcs.getD v []).length ≤ 4194304) (hsr : (arcs.getD v []).Pairwise (· ≤ ·)) :
    ∃ al cl k, (R (v + 1)).v = .slice al (arcs.getD v []).length cl ∧
      Calls Try.prog 50 #[.slice al (arcs.getD v []).length cl, .int .i64 (u : Int)] w (fun e w' => ∃ bb, e = .returned (.tuple #[.int .i64 ((k : Nat) : Int), .bool bb]) ∧ ∃ q, w' = w.drewN q) ∧
      ∀ W, Same (w.alloc (.cells #[.int .i64 (u : Int)] 3)) W → Calls Try.prog 51 #[.slice al (arcs.getD v []).length cl, .int .i64 (k : Int), .slice (some ⟨w.heap.size, 0, none⟩) 1 1] W fun e w' => ∃ a1 n1 c1, e = .returned (.slice a1 n1 c1) ∧
        w'.cell? ⟨ba, v, none⟩ = some (.slice al (arcs.getD v []).length cl) ∧ w'.frozen? ⟨ba, v, none⟩ = false ∧ w'.cell? ⟨bg, 2, none⟩ = some (.slice (some ⟨ba, 0, none⟩) n ca) ∧
        Hid (∃ R', GS (w'.setCell ⟨ba, v, none⟩ (.slice a1 n1 c1)) B n bg bw R' (arcs.set v (ins u (arcs.getD v []))) ba ca bd cd bv cv vo vn vt d via O next trail ∧ Below B w (w'.setCell ⟨ba, v, none⟩ (.slice a1 n1 c1))) := by
  have hL := h.ws.rowL v hv
  obtain ⟨al, cl, h1, _⟩ := h.ws.list v hv
  refine ⟨al, cl, (arcs.getD v []).countP (· < u), h1, ?_, fun W hs => ?_⟩
  · rw [h1] at hL
    exact search_own hL hl hsr u
  · have hg0 := (World.grownBy_alloc w (.cells #[.int .i64 (u : Int)] 3) none)
    have hW := ((h.grown hg0).same hs)
    have hLW := hW.ws.rowL v hv
    have hlt := (h.ws.rowL v hv).lt
    rw [h1] at hLW
    have hvb : W.heap[w.heap.size]? = some (.cells #[.int .i64 (u : Int)] 3 (0, 0)) := by
      rw [hs.heap]
      show (w.heap.push _)[w.heap.size]? = some _
      simp
    refine (insert_own hLW hl _ u List.countP_le_length w.heap.size hvb ?_ hW.ws.hB).mono ?_
    · intro e
      have := (hlt w.heap.size (by dsimp only; rw [h1]; exact e)).2
      omega
    · rintro e w' ⟨v', rfl, ho, hg, hat⟩
      obtain ⟨s1, s2, s3, R', s4, s5⟩ := hW.setL v hv (l := ins u (arcs.getD v [])) (by rw [h1]; exact hg) ho (by rw [h1]; exact .inr hat)
      rw [h1] at s1
      obtain ⟨a1, n1, c1, rfl⟩ : ∃ a1 n1 c1, v' = .slice a1 n1 c1 := by
        rcases ho.form with ⟨e1, _⟩ | ⟨b', cap', cur, e1, _⟩
        · exact ⟨_, _, _, e1⟩
        · exact ⟨_, _, _, e1⟩
      refine ⟨a1, n1, c1, rfl, s1, s2, s3, R', s4, ?_⟩
      exact ((below_grown hg0 h.ws.hB (fun k hk => by cases hk)).trans (hs.below B)).trans s5
end
end Go.Proofs.Qxb6601175a
