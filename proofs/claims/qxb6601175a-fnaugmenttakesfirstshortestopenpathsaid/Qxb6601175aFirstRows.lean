/-
  THE ROWS of the law of the first path: the graph laid, what augment leaves to be read, the table of the lists expected.
-/
import Derived.Test.Qxb6601175aCert
import Derived.Test.Qxb6601175aAugment
namespace Go.Proofs.Qxb6601175a
open Go.RowKit

theorem LMid.grown {w wr wr' : World} {b n k : Nat} {zss : List (List Int)} {R : Nat → Rw} (h : LMid w wr b n k zss R) (hg : wr.grownBy wr' none) : LMid w wr' b n k zss R :=
  ⟨h.own.heap hg, h.top, h.len, h.cells, h.rows, h.below.grown hg h.below.size (fun k hk => by cases hk), Nat.lt_of_lt_of_le h.size hg.size⟩

theorem LMid.inL {w w1 : World} {b n : Nat} {zss : List (List Int)} {R : Nat → Rw} (h : LMid w w1 b n n zss R) (hn : zss.length = n) : InLists w1 (.slice (some ⟨b, 0, none⟩) n n) zss (fun u => (R (u + 1)).v) := by
  have hl : LRows w1 b (.slice (some ⟨b, 0, none⟩) n n) zss R := by
    refine ⟨by rw [hn]; exact h.own, by rw [h.top], by rw [h.top], by rw [hn]; exact h.len, fun u hu => h.cells u (by omega), fun u hu => h.rows u hu (by omega)⟩
  exact hl.inLists

/-- the lists as they are read -/
theorem adj_in {w : World} {b n c : Nat} {zss : List (List Int)} {vs : Nat → Value} {arcs : List (List Nat)} (h : InLists w (.slice (some ⟨b, 0, none⟩) n c) zss vs) (hn : zss.length = n) (ha : ∀ r (h : r < zss.length), zss[r] = nz (arcs.getD r [])) : Adj w b 0 n arcs vs := by
  obtain ⟨ao, c', hv, hc⟩ := h.form
  simp only [Value.slice.injEq] at hv
  obtain ⟨rfl, _, _⟩ := hv
  refine ⟨fun u hu => ?_, fun u hu => ?_⟩
  · obtain ⟨b', o', e1, e2⟩ := hc u (by omega)
    simp only [Option.some.injEq, Addr.mk.injEq] at e1
    obtain ⟨rfl, rfl, _⟩ := e1
    exact e2
  · obtain ⟨al, cl, e1, e2⟩ := (h.2 u (by omega)).cells
    rw [ha u (by omega), nz_length] at e1 e2
    refine ⟨al, cl, e1, fun j hj => ?_⟩
    obtain ⟨bl, ol, e3, e4⟩ := e2 j hj
    exact ⟨bl, ol, e3, by rw [e4 j hj, nz_getD _ _ _ hj]⟩

theorem below_none {w W : World} (h : Below w.heap.size w W) : w.grownBy W none := ⟨h.os, h.tape, h.output, h.size, fun k hk _ => h.block k hk⟩

/-- THE START: the lists cloned, next cloned behind them, dist and via made, the walker and the graph boxed -/
theorem gs_start2 {w2 w3 : World} {n B : Nat} {zss : List (List Int)} {R : Nat → Rw} (hM : LMid w2 w3 w2.heap.size n n zss R) (hn : zss.length = n) (hnm : n ≤ 1048576) (hB : B ≤ w2.heap.size)
    {vn : Value} {next : List Int} (hN : Own1 w3 B ⟨3, vn, ints next⟩) (hF : ∀ j, j < n + 1 → Far vn (R j).v) {arcs : List (List Nat)} (ha : ∀ r (h : r < zss.length), zss[r] = nz (arcs.getD r [])) (hal : arcs.length = n)
    {cd cv : Array Value} {d : List Int} {via : List Nat} (hd : cd.toList = ints d) (hdl : d.length = n) (hv : cv.toList = ints (nz via)) (hvl : via.length = n) :
    ∃ R', GS ((((w3.alloc (.cells cd 3)).alloc (.cells cv 3)).alloc (.cells #[.slice (some ⟨w2.heap.size, 0, none⟩) n n, .slice (some ⟨w3.heap.size, 0, none⟩) n n, .slice (some ⟨w3.heap.size + 1, 0, none⟩) n n, nilS] 93)).alloc
        (.cells #[nilS, nilS, .slice (some ⟨w2.heap.size, 0, none⟩) n n, .pointer (some ⟨w3.heap.size + 1 + 1, 0, none⟩), nilS, vn, nilS, nilS] 96))
      B n (w3.heap.size + 1 + 1 + 1) (w3.heap.size + 1 + 1) R' arcs w2.heap.size n w3.heap.size n (w3.heap.size + 1) n nilS vn nilS d via [] next [] := by
  have h23 : w2.heap.size ≤ w3.heap.size := hM.below.size
  have s4 : (w3.alloc (.cells cd 3)).heap.size = w3.heap.size + 1 := by simp
  have s5 : ((w3.alloc (.cells cd 3)).alloc (.cells cv 3)).heap.size = w3.heap.size + 1 + 1 := by simp
  obtain ⟨w4, hw4⟩ : ∃ w4, w4 = w3.alloc (.cells cd 3) := ⟨_, rfl⟩
  rw [← hw4] at s4 s5 ⊢
  obtain ⟨w5, hw5⟩ : ∃ w5, w5 = w4.alloc (.cells cv 3) := ⟨_, rfl⟩
  rw [← hw5] at s5 ⊢
  obtain ⟨va, hva⟩ : ∃ va : Value, va = .slice (some ⟨w2.heap.size, 0, none⟩) n n := ⟨_, rfl⟩
  obtain ⟨vd, hvd⟩ : ∃ vd : Value, vd = .slice (some ⟨w3.heap.size, 0, none⟩) n n := ⟨_, rfl⟩
  obtain ⟨vv, hvv⟩ : ∃ vv : Value, vv = .slice (some ⟨w3.heap.size + 1, 0, none⟩) n n := ⟨_, rfl⟩
  rw [← hva, ← hvd, ← hvv]
  have s6 : (w5.alloc (.cells #[va, vd, vv, nilS] 93)).heap.size = w3.heap.size + 1 + 1 + 1 := by simp [s5]
  obtain ⟨w6, hw6⟩ : ∃ w6, w6 = w5.alloc (.cells #[va, vd, vv, nilS] 93) := ⟨_, rfl⟩
  rw [← hw6] at s6 ⊢
  have o0 : Own w3 B (n + 1) R := hM.own.mono hB
  have r1 : Own1 w4 B ⟨3, vd, ints d⟩ := by
    have := own1_new (w := w3) (B := B) (by omega) (e := 3) hd (by rw [ints_length, hdl]; unfold maxLen; omega)
    rw [ints_length, hdl] at this
    rw [hw4, hvd]; exact this
  have o1 := o0.add (r := ⟨3, vd, ints d⟩) (by rw [hw4]; exact World.grownBy_alloc _ _ _) r1 (.inr ⟨w3.heap.size, by rw [hvd]; rfl, Nat.le_refl _⟩)
  have r2 : Own1 w5 B ⟨3, vv, ints (nz via)⟩ := by
    have := own1_new (w := w4) (B := B) (by omega) (e := 3) hv (by rw [ints_length, nz_length, hvl]; unfold maxLen; omega)
    rw [ints_length, nz_length, hvl, s4] at this
    rw [hw5, hvv]; exact this
  have o2 := o1.add (r := ⟨3, vv, ints (nz via)⟩) (by rw [hw5]; exact World.grownBy_alloc _ _ _) r2 (.inr ⟨w3.heap.size + 1, by rw [hvv]; rfl, by omega⟩)
  have o3 := o2.add (r := ⟨3, nilS, ints (nz [])⟩) (grown_refl w5 none) (Own1.nil _ _ _) (.inl rfl)
  have r4 : Own1 w6 B ⟨93, .slice (some ⟨w3.heap.size + 1 + 1, 0, none⟩) 4 4, [va, vd, vv, nilS]⟩ := by
    have := own1_new (w := w5) (B := B) (by omega) (e := 93) (cur := #[va, vd, vv, nilS]) (xs := [va, vd, vv, nilS]) rfl (by simp [maxLen])
    rw [s5] at this
    rw [hw6]; exact this
  have o4 := o3.add (r := ⟨93, .slice (some ⟨w3.heap.size + 1 + 1, 0, none⟩) 4 4, [va, vd, vv, nilS]⟩) (by rw [hw6]; exact World.grownBy_alloc _ _ _) r4 (.inr ⟨w3.heap.size + 1 + 1, rfl, by omega⟩)
  have hNlt := hN.lt
  have g36 : w3.grownBy w6 none := by
    rw [hw6, hw5, hw4]
    exact grown_trans (grown_trans (World.grownBy_alloc _ _ _) (World.grownBy_alloc _ _ _)) (World.grownBy_alloc _ _ _)
  have r5 : Own1 w6 B ⟨3, vn, ints next⟩ := hN.heap g36
  have o5 := o4.addF (r := ⟨3, vn, ints next⟩) r5 (by
    intro j hj
    cases hb : vn.ownBlock with
    | none => exact .inl hb
    | some k =>
      have hk := (hNlt k hb).2
      by_cases jn : j < n + 1
      · have := hF j jn
        rw [upd_other _ _ _ _ (by omega), upd_other _ _ _ _ (by omega), upd_other _ _ _ _ (by omega), upd_other _ _ _ _ (by omega)]
        exact this
      right
      dsimp only
      rw [hb]
      by_cases j4 : j = n + 1 + 1 + 1 + 1
      · subst j4; rw [upd_same]; simp [Value.ownBlock]; omega
      rw [upd_other _ _ _ _ j4]
      by_cases j3 : j = n + 1 + 1 + 1
      · subst j3; rw [upd_same]; simp [Value.ownBlock]
      rw [upd_other _ _ _ _ j3]
      by_cases j2 : j = n + 1 + 1
      · subst j2; rw [upd_same, hvv]; simp [Value.ownBlock]; omega
      rw [upd_other _ _ _ _ j2]
      by_cases j1 : j = n + 1
      · subst j1; rw [upd_same, hvd]; simp [Value.ownBlock]; omega
      omega)
  have o6 := o5.add (r := ⟨3, nilS, ints (nz [])⟩) (grown_refl w6 none) (Own1.nil _ _ _) (.inl rfl)
  have r7 : Own1 (w6.alloc (.cells #[nilS, nilS, va, .pointer (some ⟨w3.heap.size + 1 + 1, 0, none⟩), nilS, vn, nilS, nilS] 96)) B ⟨96, .slice (some ⟨w3.heap.size + 1 + 1 + 1, 0, none⟩) 8 8, [nilS, nilS, va, .pointer (some ⟨w3.heap.size + 1 + 1, 0, none⟩), nilS, vn, nilS, nilS]⟩ := by
    have := own1_new (w := w6) (B := B) (by omega) (e := 96) (cur := #[nilS, nilS, va, .pointer (some ⟨w3.heap.size + 1 + 1, 0, none⟩), nilS, vn, nilS, nilS]) (xs := [nilS, nilS, va, .pointer (some ⟨w3.heap.size + 1 + 1, 0, none⟩), nilS, vn, nilS, nilS]) rfl (by simp [maxLen])
    rw [s6] at this
    exact this
  have o7 := o6.add (r := ⟨96, .slice (some ⟨w3.heap.size + 1 + 1 + 1, 0, none⟩) 8 8, [nilS, nilS, va, .pointer (some ⟨w3.heap.size + 1 + 1, 0, none⟩), nilS, vn, nilS, nilS]⟩) (World.grownBy_alloc _ _ _) r7 (.inr ⟨w3.heap.size + 1 + 1 + 1, rfl, by omega⟩)
  obtain ⟨T, hT⟩ : ∃ T : Nat → Rw, T = upd (upd (upd (upd (upd (upd (upd R (n + 1) ⟨3, vd, ints d⟩) (n + 1 + 1) ⟨3, vv, ints (nz via)⟩) (n + 1 + 1 + 1) ⟨3, nilS, ints (nz [])⟩) (n + 1 + 1 + 1 + 1) ⟨93, .slice (some ⟨w3.heap.size + 1 + 1, 0, none⟩) 4 4, [va, vd, vv, nilS]⟩) (n + 1 + 1 + 1 + 1 + 1) ⟨3, vn, ints next⟩) (n + 1 + 1 + 1 + 1 + 1 + 1) ⟨3, nilS, ints (nz [])⟩) (n + 1 + 1 + 1 + 1 + 1 + 1 + 1)
      ⟨96, .slice (some ⟨w3.heap.size + 1 + 1 + 1, 0, none⟩) 8 8, [nilS, nilS, va, .pointer (some ⟨w3.heap.size + 1 + 1, 0, none⟩), nilS, vn, nilS, nilS]⟩ := ⟨_, rfl⟩
  have low : ∀ j, j ≤ n → T j = R j := by
    intro j hj
    rw [hT, upd_other _ _ _ _ (by omega), upd_other _ _ _ _ (by omega), upd_other _ _ _ _ (by omega), upd_other _ _ _ _ (by omega), upd_other _ _ _ _ (by omega), upd_other _ _ _ _ (by omega), upd_other _ _ _ _ (by omega)]
  rw [← hT] at o7
  refine ⟨T, ⟨⟨o7.congr ?_, by omega, ⟨hal, ?_, ?_⟩, ?_⟩, ?_, ?_, ?_⟩⟩
  · intro i hi
    by_cases j1 : i = n + 1
    · subst j1
      rw [tab_1, hT, upd_other _ _ _ _ (by omega), upd_other _ _ _ _ (by omega), upd_other _ _ _ _ (by omega), upd_other _ _ _ _ (by omega), upd_other _ _ _ _ (by omega), upd_other _ _ _ _ (by omega), upd_same, hvd]
    by_cases j2 : i = n + 2
    · subst j2
      rw [tab_2, hT, upd_other _ _ _ _ (by omega), upd_other _ _ _ _ (by omega), upd_other _ _ _ _ (by omega), upd_other _ _ _ _ (by omega), upd_other _ _ _ _ (by omega), upd_same, hvv]
    by_cases j3 : i = n + 3
    · subst j3
      rw [tab_3, hT, upd_other _ _ _ _ (by omega), upd_other _ _ _ _ (by omega), upd_other _ _ _ _ (by omega), upd_other _ _ _ _ (by omega), upd_same]
    by_cases j4 : i = n + 4
    · subst j4
      rw [tab_4, hT, upd_other _ _ _ _ (by omega), upd_other _ _ _ _ (by omega), upd_other _ _ _ _ (by omega), upd_same, hva, hvd, hvv]
    rw [tab_o i ⟨j1, j2, j3, j4⟩]
  · rw [low 0 (by omega), hM.top, hM.cellsAll]
    congr 1
    apply List.map_congr_left
    intro u hu
    have := List.mem_range.1 hu
    rw [low (u + 1) (by omega)]
  · intro u hu
    rw [low (u + 1) (by omega), hM.rows u (by omega) hu, ha u (by omega)]
  · simp; omega
  · rw [hT, upd_other _ _ _ _ (by omega), upd_other _ _ _ _ (by omega), upd_same]
  · rw [hT, upd_other _ _ _ _ (by omega), upd_same]
  · rw [hT, upd_same, hva]

/-! ### what augment leaves, as it is read -/
theorem GS.inL {w : World} {B n bg bw : Nat} {R : Nat → Rw} {arcs : List (List Nat)} {ba ca bd cd bv cv : Nat} {vo vn vt : Value} {d : List Int} {via O : List Nat} {next : List Int} {trail : List Nat}
    (h : GS w B n bg bw R arcs ba ca bd cd bv cv vo vn vt d via O next trail) : InLists w (.slice (some ⟨ba, 0, none⟩) n ca) (arcs.map nz) (fun u => (R (u + 1)).v) := by
  have hl : (arcs.map nz).length = n := by rw [List.length_map]; exact h.ws.fix.an
  refine ⟨?_, fun r hr => ?_⟩
  · rcases Nat.eq_zero_or_pos n with e | e
    · subst e
      exact .inr (.inl ⟨_, _, rfl, List.length_eq_zero_iff.1 hl⟩)
    · exact .inr (.inr ⟨ba, 0, ca, by rw [hl], by omega, fun r hr => by rw [Nat.zero_add]; exact h.ws.cellA r (by omega)⟩)
  · have hr' : r < arcs.length := by rw [List.length_map] at hr; exact hr
    have := (h.ws.rowL r (by omega)).inInts
    rw [List.getElem_map]
    rw [List.getD_eq_getElem?_getD, List.getElem?_eq_getElem hr'] at this
    exact this

structure Res (w : World) (n bg bw ba bd bv bn cn : Nat) (arcs : List (List Nat)) (next : List Int) (src en : Nat) (ok : Bool) (bo co : Nat) (at' : Option Addr) (ct : Nat) (vs : Nat → Value) (d : List Int) (via O : List Nat) (T : Nat → Nat × Nat) (arcs' : List (List Nat)) (next' : List Int) (trail : List Nat) : Prop where
  f2 : w.cell? ⟨bg, 2, none⟩ = some (.slice (some ⟨ba, 0, none⟩) n n)
  f3 : w.cell? ⟨bg, 3, none⟩ = some (.pointer (some ⟨bw, 0, none⟩))
  f4 : w.cell? ⟨bg, 4, none⟩ = some (.slice at' trail.length ct)
  fo : w.cell? ⟨bw, 3, none⟩ = some (.slice (some ⟨bo, 0, none⟩) O.length co)
  la : InLists w (.slice (some ⟨ba, 0, none⟩) n n) (arcs'.map nz) vs
  an : arcs'.length = n
  nx : InInts w (sl bn next.length cn) next'
  nl : next'.length = next.length
  tr : InInts w (.slice at' trail.length ct) (nz trail)
  cd : ∀ k, k < n → w.cell? ⟨bd, k, none⟩ = some (.int .i64 (d.getD k (-1)))
  cv : ∀ k, k < n → w.cell? ⟨bv, k, none⟩ = some (.int .i64 ((via.getD k 0 : Nat) : Int))
  co : ∀ p, p < O.length → w.cell? ⟨bo, p, none⟩ = some (.int .i64 ((O.getD p 0 : Nat) : Int))
  bfs : Bfs n (fun0 arcs) src (fun _ => 0) O.length 0 d via O T
  ends : (d.getD en (-1) < 0 ∧ ok = false ∧ arcs' = arcs ∧ next' = next ∧ trail = []) ∨
    (0 ≤ d.getD en (-1) ∧ ok = true ∧ Run (fun0 arcs) d via en trail ∧ trail.head? = some src ∧ (∀ x ∈ trail, x ∈ O) ∧ fun0 arcs' = aug en trail (fun0 arcs) ∧ next' = nxt trail next)

def AugQ (w : World) (B n bg bw ba bd bv bn cn : Nat) (arcs : List (List Nat)) (next : List Int) (src en : Nat) (ok : Bool) (w' : World) : Prop :=
  Below B w w' ∧ ∃ bo co at' ct vs d via O T arcs' next' trail, Res w' n bg bw ba bd bv bn cn arcs next src en ok bo co at' ct vs d via O T arcs' next' trail

theorem row_form {w : World} {B : Nat} {v : Value} {l : List Nat} (h : Own1 w B ⟨3, v, ints (nz l)⟩) : ∃ ao co, v = .slice ao l.length co := by
  obtain ⟨ao, co, e⟩ := h.inInts.form
  rw [nz_length] at e
  exact ⟨ao, co, e⟩

theorem aug_first (w : World) (B n bg bw : Nat) (R : Nat → Rw) (arcs : List (List Nat)) (ba bd bv bn cn : Nat) (next : List Int) (s t src en : Nat)
    (es : 2 * (s : Int) = (src : Int)) (et : 2 * (t : Int) = (en : Int)) (hn : n ≤ 1048576) (hsrc : src < n) (hen : en < n) (hnx : 2 * next.length = n)
    (hal : ∀ u, (fun0 arcs u).length ≤ 1048576 ∧ ∀ x ∈ fun0 arcs u, x < n) (hsr : ∀ u, (fun0 arcs u).Pairwise (· ≤ ·))
    (hG : GS w B n bg bw R arcs ba n bd n bv n nilS (sl bn next.length cn) nilS (List.replicate n (-1)) (List.replicate n 0) [] next []) :
    Calls Try.prog 43 #[.pointer (some ⟨bg, 0, none⟩), .int .i64 (s : Int), .int .i64 (t : Int)] w fun e w' => ∃ ok, e = .returned (.bool ok) ∧ AugQ w B n bg bw ba bd bv bn cn arcs next src en ok w' := by
  refine (augment_any w B n bg bw R arcs ba n bd n bv n none 0 bn cn none 0 (List.replicate n (-1)) (List.replicate n 0) [] next [] s t src en es et hn hsrc hen hnx (by simp) (by simp) (by simp) (fun x hx => by simp at hx) (fun v hv => .inl (by rw [List.getD_eq_getElem?_getD, List.getElem?_replicate, if_pos hv]; rfl)) (fun u => ⟨Nat.le_trans (hal u).1 (by omega), (hal u).2⟩) hsr hG).mono ?_
  rintro e w' ⟨ok, R', vo', vt', d', via', O', T, arcs', next', trail', rfl, hA⟩
  have hB := hA.bfs
  have hz0 : (fun v => (List.replicate n 0).getD v 0) = fun _ => 0 := by
    funext v
    rw [List.getD_eq_getElem?_getD, List.getElem?_replicate]
    split <;> rfl
  rw [hz0] at hB
  obtain ⟨bo, co, hvo, _, _, _, _⟩ := slice_form hA.gs.ws.rowO (by rw [ints_length, nz_length]; exact hB.opos)
  dsimp only at hvo
  rw [ints_length, nz_length] at hvo
  subst hvo
  obtain ⟨at2, ct2, rfl⟩ := row_form hA.gs.rowT
  obtain ⟨f2, f3, f4, f5, _⟩ := hA.gs.field
  obtain ⟨_, _, _, g3, _⟩ := hA.gs.ws.field
  have hnl : next'.length = next.length := by
    rcases hA.ends with ⟨_, _, _, e4, _⟩ | ⟨_, _, _, _, _, _, _, e7⟩
    · rw [e4]
    · rw [e7, nxt_length]
  refine ⟨ok, rfl, hA.below, bo, co, at2, ct2, _, d', via', O', T, arcs', next', trail', ⟨f2, f3, f4, g3, hA.gs.inL, hA.gs.ws.fix.an, hA.gs.rowN.inInts, hnl, hA.gs.rowT.inInts, fun k hk => (hA.gs.ws.cellD k (by rw [hB.dlen]; exact hk)).1, fun k hk => (hA.gs.ws.cellV k (by rw [hB.vlen]; exact hk)).1, fun p hp => hA.gs.ws.cellO p hp, hB, ?_⟩⟩
  rcases hA.ends with ⟨e1, e2, e3, e4, e5⟩ | ⟨e1, e2, e3, e4, e5, _, e6, e7⟩
  · exact .inl ⟨e1, e2, e3, e4, e5⟩
  · exact .inr ⟨e1, e2, e3, e4, e5, e6, e7⟩

set_option maxHeartbeats 1000000 in
set_option maxRecDepth 100000 in
theorem door28 (w : World) (bg : Nat) (s t : Int) (Q : Bool → World → Prop) (h : Calls Try.prog 43 #[.pointer (some ⟨bg, 0, none⟩), .int .i64 s, .int .i64 t] w fun e w' => ∃ ok, e = .returned (.bool ok) ∧ Q ok w') :
    Calls Try.prog 28 #[.pointer (some ⟨bg, 0, none⟩), .int .i64 s, .int .i64 t] w fun e w' => ∃ ok, e = .returned (.bool ok) ∧ Q ok w' := by
  have H : Hid _ := h
  clear h
  go_enter Try.func28, Try.ntmps28
  go_wp2_with fail
  refine Calls.mono H.out ?_
  rintro e w' ⟨ok, rfl, hp⟩
  have HP : Hid _ := hp
  clear hp
  go_wp2
  go_ret
  exact ⟨ok, rfl, HP⟩

theorem Res.below {w W : World} {n bg bw ba bd bv bn cn : Nat} {arcs : List (List Nat)} {next : List Int} {src en : Nat} {ok : Bool} {bo co : Nat} {at' : Option Addr} {ct : Nat} {vs : Nat → Value} {d : List Int} {via O : List Nat} {T : Nat → Nat × Nat} {arcs' : List (List Nat)} {next' : List Int} {trail : List Nat}
    (h : Res w n bg bw ba bd bv bn cn arcs next src en ok bo co at' ct vs d via O T arcs' next' trail) (hb : Below w.heap.size w W) : Res W n bg bw ba bd bv bn cn arcs next src en ok bo co at' ct vs d via O T arcs' next' trail := by
  have up : ∀ {a : Addr} {v : Value}, w.cell? a = some v → W.cell? a = some v := fun {a v} ha => by
    obtain ⟨x, y, z⟩ := a
    rw [hb.cell (World.block_lt_of_cell? w _ ha)]; exact ha
  exact ⟨up h.f2, up h.f3, up h.f4, up h.fo, h.la.whole hb, h.an, h.nx.whole hb, h.nl, h.tr.whole hb, fun k hk => up (h.cd k hk), fun k hk => up (h.cv k hk), fun p hp => up (h.co p hp), h.bfs, h.ends⟩

/-! ### the lists expected: row 0 the outer one, 1 .. n the lists, n + 1 next -/
structure EX (w wr : World) (b n : Nat) (L : List (List Nat)) (be ce : Nat) (next : List Int) (R : Nat → Rw) : Prop where
  own : Own wr b (n + 2) R
  top : R 0 = ⟨23, .slice (some ⟨b, 0, none⟩) n n, (R 0).xs⟩
  len : (R 0).xs.length = n
  cells : ∀ u, u < n → (R 0).xs[u]? = some (R (u + 1)).v
  rows : ∀ u, u < n → R (u + 1) = ⟨3, (R (u + 1)).v, ints (nz (L.getD u []))⟩
  nx : R (n + 1) = ⟨3, sl be next.length ce, ints next⟩
  below : Below w.heap.size w wr
  bw : w.heap.size ≤ b
  size : b < wr.heap.size

section
variable {w wr : World} {b n : Nat} {L : List (List Nat)} {be ce : Nat} {next : List Int} {R : Nat → Rw}

theorem EX.start {w w1 w2 : World} {n : Nat} {zss : List (List Int)} {R : Nat → Rw} {L : List (List Nat)} {next : List Int} {be ce : Nat} (hM : LMid w w1 w.heap.size n n zss R) (hn : zss.length = n) (ha : ∀ r (h : r < zss.length), zss[r] = nz (L.getD r []))
    (hN : Own1 w2 w1.heap.size ⟨3, sl be next.length ce, ints next⟩) (hg : w1.grownBy w2 none) : EX w w2 w.heap.size n L be ce next (upd R (n + 1) ⟨3, sl be next.length ce, ints next⟩) := by
  have hb := hM.below.size
  have ho := hM.own.add hg (hN.mono hb) (.inr ⟨be, rfl, (hN.lt be rfl).1⟩)
  refine ⟨ho, ?_, ?_, fun u hu => ?_, fun u hu => ?_, upd_same _ _ _, hM.below.grown hg hb (fun k hk => by cases hk), Nat.le_refl _, Nat.lt_of_lt_of_le hM.size hg.size⟩
  · rw [upd_other _ _ _ _ (by omega)]; exact hM.top
  · rw [upd_other _ _ _ _ (by omega)]; exact hM.len
  · rw [upd_other _ _ _ _ (by omega), upd_other _ _ _ _ (by omega)]; exact hM.cells u hu
  · rw [upd_other _ _ _ _ (by omega), ← ha u (by omega)]; exact hM.rows u (by omega) hu

theorem EX.list (h : EX w wr b n L be ce next R) {u : Nat} (hu : u < n) : wr.cell? ⟨b, u, none⟩ = some (R (u + 1)).v ∧ InInts wr (R (u + 1)).v (nz (L.getD u [])) := by
  have hT := h.own.row 0 (by omega)
  rw [h.top] at hT
  have hl := h.len
  have hc := h.cells u hu
  rw [List.getElem?_eq_getElem (by omega)] at hc
  refine ⟨by rw [hT.cell u (by omega)]; exact hc, ?_⟩
  have hR := h.own.row (u + 1) (by omega)
  rw [h.rows u hu] at hR
  exact hR.inInts

/-- list u gets a new row -/
theorem EX.setL (h : EX w wr b n L be ce next R) (hL : L.length = n) {u : Nat} (hu : u < n) {w1 : World} (hg : wr.grownBy w1 none) {v' : Value} {l' : List Nat} (ho : Own1 w1 wr.heap.size ⟨3, v', ints (nz l')⟩) :
    w1.cell? ⟨b, u, none⟩ = some (R (u + 1)).v ∧ w1.frozen? ⟨b, u, none⟩ = false ∧ ∃ R', EX w (w1.setCell ⟨b, u, none⟩ v') b n (L.set u l') be ce next R' := by
  have hsz := h.size
  have h1 := h.own.put (i := u + 1) (by omega) (r := ⟨3, v', ints (nz l')⟩) (grown_none hg) (ho.mono (by omega)) (by
    cases hv : v'.ownBlock with
    | none => exact .inl rfl
    | some g => exact .inr (.inr ⟨g, rfl, (ho.lt g hv).1⟩))
  have h0 : upd R (u + 1) ⟨3, v', ints (nz l')⟩ 0 = ⟨23, .slice (some ⟨b, 0, none⟩) n n, (R 0).xs⟩ := by rw [upd_other _ _ _ _ (by omega)]; exact h.top
  have hA := h1.row 0 (by omega)
  rw [h0] at hA
  have hlen := h.len
  have hc := h.cells u hu
  rw [List.getElem?_eq_getElem (by omega)] at hc
  have h2 := h1.set (i := 0) (by omega) h0 u v'
  have hne : ∀ x, x + 1 ≠ 0 := fun x => by omega
  refine ⟨?_, hA.frozen u, upd (upd R (u + 1) ⟨3, v', ints (nz l')⟩) 0 ⟨23, .slice (some ⟨b, 0, none⟩) n n, (R 0).xs.set u v'⟩, ⟨h2, ?_, ?_, ?_, ?_, ?_, ?_, h.bw, ?_⟩⟩
  · rw [hA.cell u (by omega)]; exact hc
  · rw [upd_same]
  · rw [upd_same]; simpa using hlen
  · intro x hx
    rw [upd_same, upd_other _ _ _ _ (hne x)]
    by_cases e : x = u
    · subst e
      rw [upd_same, List.getElem?_set_self (by omega)]
    · rw [upd_other _ _ _ _ (by omega), List.getElem?_set_ne (by omega)]
      exact h.cells x hx
  · intro x hx
    rw [upd_other _ _ _ _ (hne x)]
    by_cases e : x = u
    · subst e
      rw [upd_same, getD_set_self _ _ _ _ (by omega)]
    · rw [upd_other _ _ _ _ (by omega), getD_set_ne _ _ _ _ _ (Ne.symm e)]
      exact h.rows x hx
  · rw [upd_other _ _ _ _ (by omega), upd_other _ _ _ _ (by omega)]; exact h.nx
  · exact (h.below.grown hg h.below.size (fun k hk => by cases hk)).setCell h.bw _
  · have := hg.size
    simp [World.setCell]
    omega

/-- a store into next -/
theorem EX.setN (h : EX w wr b n L be ce next R) (k : Nat) (x : Int) : ∃ R', EX w (wr.setCell ⟨be, k, none⟩ (.int .i64 x)) b n L be ce (next.set k x) R' := by
  have h1 := h.own.set (i := n + 1) (by omega) h.nx k (.int .i64 x)
  have hbe := h.own.row (n + 1) (by omega)
  rw [h.nx] at hbe
  have hb := (hbe.lt be rfl).1
  refine ⟨_, ⟨h1, ?_, ?_, fun u hu => ?_, fun u hu => ?_, ?_, h.below.setCell (Nat.le_trans h.bw hb) _, h.bw, by simp [World.setCell]; exact h.size⟩⟩
  · rw [upd_other _ _ _ _ (by omega)]; exact h.top
  · rw [upd_other _ _ _ _ (by omega)]; exact h.len
  · rw [upd_other _ _ _ _ (by omega), upd_other _ _ _ _ (by omega)]; exact h.cells u hu
  · rw [upd_other _ _ _ _ (by omega)]; exact h.rows u hu
  · rw [upd_same, ints_set, List.length_set]
theorem EX.cellN (h : EX w wr b n L be ce next R) {k : Nat} (hk : k < next.length) : wr.cell? ⟨be, k, none⟩ = some (.int .i64 (next.getD k 0)) ∧ wr.frozen? ⟨be, k, none⟩ = false := by
  have hbe := h.own.row (n + 1) (by omega)
  rw [h.nx] at hbe
  refine ⟨?_, hbe.frozen k⟩
  rw [hbe.cell k (by rw [ints_length]; exact hk), ints_getD next k 0 hk]
theorem EX.rowN (h : EX w wr b n L be ce next R) : InInts wr (sl be next.length ce) next := by
  have hbe := h.own.row (n + 1) (by omega)
  rw [h.nx] at hbe
  exact hbe.inInts
theorem EX.inL (h : EX w wr b n L be ce next R) (hL : L.length = n) : InLists wr (.slice (some ⟨b, 0, none⟩) n n) (L.map nz) (fun u => (R (u + 1)).v) := by
  have hl : (L.map nz).length = n := by rw [List.length_map]; exact hL
  refine ⟨?_, fun r hr => ?_⟩
  · rcases Nat.eq_zero_or_pos n with e | e
    · subst e
      exact .inr (.inl ⟨_, _, rfl, List.length_eq_zero_iff.1 hl⟩)
    · exact .inr (.inr ⟨b, 0, n, by rw [hl], by omega, fun r hr => by rw [Nat.zero_add]; exact (h.list (by omega)).1⟩)
  · have hr' : r < L.length := by rw [List.length_map] at hr; exact hr
    have := (h.list (u := r) (by omega)).2
    rw [List.getElem_map]
    rw [List.getD_eq_getElem?_getD, List.getElem?_eq_getElem hr'] at this
    exact this
end

/-! ### plain -/
theorem greedy_nonneg {A : Nat → List Nat} {dT : List Int} : ∀ (P : List Nat) (u : Nat) (r : List Nat), P = u :: r → Greedy A dT P → 0 ≤ dT.getD u (-1)
  | [], u, r, e, _ => by cases e
  | [a], u, r, e, h => by
    simp only [List.cons.injEq] at e
    obtain ⟨rfl, _⟩ := e
    rw [greedy_one] at h
    omega
  | a :: v :: s, u, r, e, h => by
    simp only [List.cons.injEq] at e
    obtain ⟨rfl, _⟩ := e
    rw [greedy_two] at h
    have := greedy_nonneg (v :: s) v s rfl h.2.2
    omega

/-- both walks tell the same of the end -/
theorem ok_iff {n : Nat} {A : Nat → List Nat} {src en : Nat} {via0 : Nat → Nat} {d : List Int} {via O : List Nat} {T : Nat → Nat × Nat} {dT : List Int} (h : Bfs n A src via0 O.length 0 d via O T) (hT : ToEnd n A en dT) (hen : en < n) :
    0 ≤ d.getD en (-1) ↔ 0 ≤ dT.getD src (-1) := by
  refine ⟨?_, ?_⟩
  · intro h0
    obtain ⟨p, hp, e⟩ := mem_getD ((h.inO en hen).1 h0)
    obtain ⟨k, _, hk⟩ := h.path p hp
    rw [e] at hk
    exact (hT.least k src h.srcn hk).1
  · intro h0
    exact (h.inO en hen).2 (h.reach _ en (hT.path src h.srcn h0))

theorem lists_ext {a b : List (List Nat)} (hl : a.length = b.length) (h : fun0 a = fun0 b) : a = b := by
  apply List.ext_getElem hl
  intro i h1 h2
  have := congrArg (fun f => f i) h
  dsimp only [fun0] at this
  rw [List.getD_eq_getElem?_getD, List.getD_eq_getElem?_getD, List.getElem?_eq_getElem h1, List.getElem?_eq_getElem h2] at this
  exact this
end Go.Proofs.Qxb6601175a
