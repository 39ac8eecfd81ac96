/-
  THE WALK of zzWalkCertified over a finished breadth-first walk.
-/
import Derived.Test.Qxb6601175aCertPlain
import Derived.Test.Qxb6601175aRev
namespace Go.Proofs.Qxb6601175a
open Go.RowKit

/-- what the certificate reads -/
structure Inp (w : World) (b off n : Nat) (arcs : List (List Nat)) (vs : Nat → Value) (bd bv bo : Nat) (d : List Int) (via O : List Nat) : Prop where
  adj : Adj w b off n arcs vs
  cd : ∀ k, k < n → w.cell? ⟨bd, k, none⟩ = some (.int .i64 (d.getD k (-1)))
  cv : ∀ k, k < n → w.cell? ⟨bv, k, none⟩ = some (.int .i64 ((via.getD k 0 : Nat) : Int))
  co : ∀ p, p < O.length → w.cell? ⟨bo, p, none⟩ = some (.int .i64 ((O.getD p 0 : Nat) : Int))
theorem Inp.below {w w' : World} {b off n : Nat} {arcs : List (List Nat)} {vs : Nat → Value} {bd bv bo : Nat} {d : List Int} {via O : List Nat} (h : Inp w b off n arcs vs bd bv bo d via O) (hb : Below w.heap.size w w') : Inp w' b off n arcs vs bd bv bo d via O :=
  ⟨h.adj.below hb, fun k hk => by rw [hb.cell (World.block_lt_of_cell? w _ (h.cd k hk))]; exact h.cd k hk, fun k hk => by rw [hb.cell (World.block_lt_of_cell? w _ (h.cv k hk))]; exact h.cv k hk,
    fun k hk => by rw [hb.cell (World.block_lt_of_cell? w _ (h.co k hk))]; exact h.co k hk⟩

/-- a row of the walk's own -/
structure Cp (w W : World) (g : Nat) (cp : Array Value) : Prop where
  ge : w.heap.size ≤ g
  row : W.heap[g]? = some (.cells cp 3 (0, 0))
section
variable {w W W' : World} {g : Nat} {cp : Array Value}
theorem Cp.cell (h : Cp w W g cp) (k : Nat) : W.cell? ⟨g, k, none⟩ = cp[k]? := cell_of_row W g k cp 3 (0, 0) h.row
theorem Cp.frozen (h : Cp w W g cp) (k : Nat) : W.frozen? ⟨g, k, none⟩ = false := by simp [World.frozen?, h.row]
theorem Cp.set (h : Cp w W g cp) (k : Nat) (v : Value) : Cp w (W.setCell ⟨g, k, none⟩ v) g (cp.setIfInBounds k v) := ⟨h.ge, heap_setCell_at W g k v cp 3 (0, 0) h.row⟩
theorem Cp.other (h : Cp w W g cp) {g' : Nat} (hne : g ≠ g') (k : Nat) (v : Value) : Cp w (W.setCell ⟨g', k, none⟩ v) g cp := ⟨h.ge, by rw [Below.heap_setCell _ _ _ _ hne]; exact h.row⟩
theorem Cp.same (h : Cp w W g cp) (hs : Same W W') : Cp w W' g cp := ⟨h.ge, by rw [hs.heap]; exact h.row⟩
theorem Cp.alloc (h : Cp w W g cp) (o : Obj) : Cp w (W.alloc o) g cp := ⟨h.ge, by
  have hlt := (Array.getElem?_eq_some_iff.1 h.row).1
  show (W.heap.push o)[g]? = _
  rw [Array.getElem?_push, if_neg (by omega)]
  exact h.row⟩
end

def Negs (w wr : World) (g n k : Nat) : Prop := ∃ cp, Below w.heap.size w wr ∧ Cp w wr g cp ∧ cp.size = n ∧ ∀ j, j < k → cp[j]? = some (.int .i64 (-1))
theorem Negs.step {w wr : World} {g n k : Nat} (h : Negs w wr g n k) (hk : k < n) : (∃ vo, wr.cell? ⟨g, k, none⟩ = some vo) ∧ wr.frozen? ⟨g, k, none⟩ = false ∧ Negs w (wr.setCell ⟨g, k, none⟩ (.int .i64 (-1))) g n (k + 1) := by
  obtain ⟨cp, h1, h2, h3, h4⟩ := h
  refine ⟨⟨_, (h2.cell k).trans (Array.getElem?_eq_getElem (by omega))⟩, h2.frozen k, _, h1.setCell h2.ge _, h2.set k _, by simpa using h3, fun j hj => ?_⟩
  by_cases e : j = k
  · subst e
    rw [Array.getElem?_setIfInBounds_self_of_lt (by omega)]
  · rw [Array.getElem?_setIfInBounds_ne (by omega)]
    exact h4 j (by omega)

def Seen (w wr : World) (g n : Nat) (O : List Nat) (p : Nat) : Prop := ∃ cp, Below w.heap.size w wr ∧ Cp w wr g cp ∧ cp.size = n ∧ ∀ y, y < n → y ∉ O.take p → cp[y]? = some (.int .i64 (-1))
theorem Seen.same {w wr W : World} {g n p : Nat} {O : List Nat} (h : Seen w wr g n O p) (hs : Same wr W) : Seen w W g n O p := by
  obtain ⟨cp, h1, h2, h3, h4⟩ := h
  exact ⟨cp, h1.trans (hs.below _), h2.same hs, h3, h4⟩
theorem Seen.step {w wr : World} {g n p : Nat} {O : List Nat} (h : Seen w wr g n O p) (hp : p < O.length) (hn : O.Nodup) (hv : O.getD p 0 < n) :
    wr.cell? ⟨g, O.getD p 0, none⟩ = some (.int .i64 (-1)) ∧ wr.frozen? ⟨g, O.getD p 0, none⟩ = false ∧ ∀ v, Seen w (wr.setCell ⟨g, O.getD p 0, none⟩ v) g n O (p + 1) := by
  obtain ⟨cp, h1, h2, h3, h4⟩ := h
  have hnot : O.getD p 0 ∉ O.take p := by
    intro hm
    obtain ⟨i, hi, e⟩ := List.getElem_of_mem hm
    rw [List.length_take] at hi
    rw [List.getElem_take] at e
    have := getD_inj hn (p := i) (q := p) (by omega) hp (by rw [← e, List.getD_eq_getElem?_getD, List.getElem?_eq_getElem (by omega)]; rfl)
    omega
  refine ⟨(h2.cell _).trans (h4 _ hv hnot), h2.frozen _, fun v => ⟨_, h1.setCell h2.ge _, h2.set _ v, by simpa using h3, fun y hy hyn => ?_⟩⟩
  rw [take_mem hp] at hyn
  rw [Array.getElem?_setIfInBounds_ne (fun e => hyn (.inr e.symm))]
  exact h4 y hy (fun hh => hyn (.inl hh))
theorem Negs.seen {w wr : World} {g n : Nat} {O : List Nat} (h : Negs w wr g n n) : Seen w wr g n O 0 := by
  obtain ⟨cp, h1, h2, h3, h4⟩ := h
  exact ⟨cp, h1, h2, h3, fun y hy _ => h4 y hy⟩

/-- a row of integers as a function -/
def Arr (n : Nat) (cp : Array Value) (f : Nat → Int) : Prop := cp.size = n ∧ ∀ y, y < n → cp[y]? = some (.int .i64 (f y))
theorem Arr.set {n : Nat} {cp : Array Value} {f : Nat → Int} (h : Arr n cp f) (k : Nat) (x : Int) : Arr n (cp.setIfInBounds k (.int .i64 x)) (fun y => if y = k then x else f y) := by
  refine ⟨by simpa using h.1, fun y hy => ?_⟩
  by_cases e : y = k
  · subst e
    rw [Array.getElem?_setIfInBounds_self_of_lt (by rw [h.1]; exact hy)]
    dsimp only
    rw [if_pos rfl]
  · rw [Array.getElem?_setIfInBounds_ne (Ne.symm e)]
    dsimp only
    rw [if_neg e]
    exact h.2 y hy
theorem Arr.zero (n : Nat) : Arr n (madeCells #[.int .i64 0] n) (fun _ => 0) := by
  refine ⟨size_madeCells _ _, fun y hy => ?_⟩
  have e : (madeCells #[Value.int .i64 0] n)[y]? = (madeCells #[Value.int .i64 0] n).toList[y]? := by simp
  rw [e, toList_madeCells_one, List.getElem?_replicate, if_pos hy]

/-- the two arrays of first places in memory -/
def Fpw (w wr : World) (g1 g2 n : Nat) (O : List Nat) (T : Nat → Nat × Nat) (p j : Nat) : Prop :=
  ∃ cf ci f g, Below w.heap.size w wr ∧ Cp w wr g1 cf ∧ Cp w wr g2 ci ∧ Arr n cf f ∧ Arr n ci g ∧ FpI O T p j f g
theorem Fpw.same {w wr W : World} {g1 g2 n p j : Nat} {O : List Nat} {T : Nat → Nat × Nat} (h : Fpw w wr g1 g2 n O T p j) (hs : Same wr W) : Fpw w W g1 g2 n O T p j := by
  obtain ⟨cf, ci, f, g, h1, h2, h3, h4, h5, h6⟩ := h
  exact ⟨cf, ci, f, g, h1.trans (hs.below _), h2.same hs, h3.same hs, h4, h5, h6⟩
theorem Fpw.below {w wr : World} {g1 g2 n p j : Nat} {O : List Nat} {T : Nat → Nat × Nat} (h : Fpw w wr g1 g2 n O T p j) : Below w.heap.size w wr := by
  obtain ⟨cf, ci, f, g, h1, _⟩ := h
  exact h1
theorem Fpw.next {w wr : World} {g1 g2 n p j : Nat} {A : Nat → List Nat} {src : Nat} {via0 : Nat → Nat} {d : List Int} {via O : List Nat} {T : Nat → Nat × Nat} (hB : Bfs n A src via0 O.length 0 d via O T) (h : Fpw w wr g1 g2 n O T p j) (hj : (A (O.getD p 0)).length ≤ j) : Fpw w wr g1 g2 n O T (p + 1) 0 := by
  obtain ⟨cf, ci, f, g, h1, h2, h3, h4, h5, h6⟩ := h
  exact ⟨cf, ci, f, g, h1, h2, h3, h4, h5, h6.next hB hj⟩

/-- an arc: nothing; or the first -/
theorem Fpw.arc {w wr : World} {g1 g2 n p j x : Nat} {A : Nat → List Nat} {src : Nat} {via0 : Nat → Nat} {d : List Int} {via O : List Nat} {T : Nat → Nat × Nat} (hB : Bfs n A src via0 O.length 0 d via O T) (hg : g1 ≠ g2) (h : Fpw w wr g1 g2 n O T p j) (hp : p < O.length) (hxn : x < n) (hx : (A (O.getD p 0))[j]? = some x) :
    (d.getD x (-1) ≠ d.getD (O.getD p 0) (-1) + 1 ∧ Fpw w wr g1 g2 n O T p (j + 1)) ∨
    (d.getD x (-1) = d.getD (O.getD p 0) (-1) + 1 ∧ ∃ z : Int, 0 ≤ z ∧ wr.cell? ⟨g1, x, none⟩ = some (.int .i64 z) ∧ Fpw w wr g1 g2 n O T p (j + 1)) ∨
    (d.getD x (-1) = d.getD (O.getD p 0) (-1) + 1 ∧ wr.cell? ⟨g1, x, none⟩ = some (.int .i64 (-1)) ∧ ∀ W, Same wr W → W.cell? ⟨g1, x, none⟩ = some (.int .i64 (-1)) ∧ W.frozen? ⟨g1, x, none⟩ = false ∧ ∀ W1, W1 = W.setCell ⟨g1, x, none⟩ (.int .i64 (p : Int)) →
      (∃ vo, W1.cell? ⟨g2, x, none⟩ = some vo) ∧ W1.frozen? ⟨g2, x, none⟩ = false ∧ Fpw w (W1.setCell ⟨g2, x, none⟩ (.int .i64 (j : Int))) g1 g2 n O T p (j + 1)) := by
  obtain ⟨cf, ci, f, g, h1, h2, h3, h4, h5, h6⟩ := h
  rcases h6.arc hB hp hx with ⟨e1, e2⟩ | ⟨e1, e2, e3⟩ | ⟨e1, e2, q, q0, q1, q2, q3⟩
  · exact .inl ⟨e1, cf, ci, f, g, h1, h2, h3, h4, h5, e2⟩
  · exact .inr (.inl ⟨e1, f x, e2, (h2.cell x).trans (h4.2 x hxn), cf, ci, f, g, h1, h2, h3, h4, h5, e3⟩)
  · have hc : wr.cell? ⟨g1, x, none⟩ = some (.int .i64 (-1)) := by rw [← e2]; exact (h2.cell x).trans (h4.2 x hxn)
    refine .inr (.inr ⟨e1, hc, fun W hs => ⟨?_, (h2.same hs).frozen x, fun W1 hW1 => ?_⟩⟩)
    · rw [← e2]; exact ((h2.same hs).cell x).trans (h4.2 x hxn)
    · subst hW1
      have k2 := (h2.same hs).set x (.int .i64 (p : Int))
      have k3 := (h3.same hs).other (Ne.symm hg) x (.int .i64 (p : Int))
      refine ⟨⟨_, (k3.cell x).trans (h5.2 x hxn)⟩, k3.frozen x, _, _, _, _, ((h1.trans (hs.below _)).setCell h2.ge _).setCell h3.ge _, k2.other hg x _, k3.set x _, h4.set x _, h5.set x _, ?_⟩
      refine h6.found hB q0 q1 q3 (by rw [q2, if_pos rfl]) (by rw [q2, if_pos rfl]) (fun y hy => ?_)
      rw [q2] at hy
      rw [if_neg hy, if_neg hy]
      exact ⟨rfl, rfl⟩

theorem Fpw.start {w wr : World} {g1 g2 n : Nat} {O : List Nat} {T : Nat → Nat × Nat} (h : Negs w wr g1 n n) (h2 : Cp w wr g2 (madeCells #[.int .i64 0] n)) (hr : ∀ q, q < O.length → O.getD q 0 < n) : Fpw w wr g1 g2 n O T 0 0 := by
  obtain ⟨cp, h1, h3, h4, h5⟩ := h
  exact ⟨cp, _, fun _ => -1, fun _ => 0, h1, h3, h2, ⟨h4, h5⟩, Arr.zero n, FpI.start _ _ (fun _ _ => rfl) hr⟩

theorem Fpw.done {w wr : World} {g1 g2 n : Nat} {A : Nat → List Nat} {src : Nat} {via0 : Nat → Nat} {d : List Int} {via O : List Nat} {T : Nat → Nat × Nat} (hB : Bfs n A src via0 O.length 0 d via O T) (h : Fpw w wr g1 g2 n O T O.length 0) {q : Nat} (h0 : 0 < q) (hq : q < O.length) :
    wr.cell? ⟨g1, O.getD q 0, none⟩ = some (.int .i64 (((T q).1 : Nat) : Int)) ∧ wr.cell? ⟨g2, O.getD q 0, none⟩ = some (.int .i64 (((T q).2 : Nat) : Int)) := by
  obtain ⟨cf, ci, f, g, h1, h2, h3, h4, h5, h6⟩ := h
  obtain ⟨e1, e2⟩ := h6.done hB h0 hq
  have hn := hB.rng q hq
  refine ⟨?_, ?_⟩
  · rw [← e1]; exact (h2.cell _).trans (h4.2 _ hn)
  · rw [← e2]; exact (h3.cell _).trans (h5.2 _ hn)

def CertPost (w : World) (e : Ending) (w' : World) : Prop := e = .returned (.bool true) ∧ Below w.heap.size w w'

set_option maxHeartbeats 16000000 in
set_option maxRecDepth 100000 in
theorem cert_any (w : World) (b off c n : Nat) (arcs : List (List Nat)) (vs : Nat → Value) (bd ed bv ev bo eo src : Nat) (d : List Int) (via O : List Nat) (T : Nat → Nat × Nat) (hn : n ≤ 1048576) (hsrc : src < n) (hal : ∀ u, u < n → (arcs.getD u []).length ≤ 1048576 ∧ ∀ x ∈ arcs.getD u [], x < n)
    (hI : Inp w b off n arcs vs bd bv bo d via O) (hB : Bfs n (fun0 arcs) src (fun _ => 0) O.length 0 d via O T) :
    Calls Try.prog 31 #[.slice (some ⟨b, off, none⟩) n c, .slice (some ⟨bd, 0, none⟩) n ed, .slice (some ⟨bv, 0, none⟩) n ev, .slice (some ⟨bo, 0, none⟩) O.length eo, .int .i64 (src : Int)] w (CertPost w) := by
  have hmk := run_make_row' (P := Try.prog) 23 3 (.int .i64 0) 8 Try.underlying23 info3 rfl .i64 .i64 n (by omega) (by omega)
  have HI : Hid _ := hI
  have HL : Hid _ := hal
  have HB : Hid _ := hB
  have hOn := hB.olen
  have hOp := hB.opos
  clear hI hal hB
  go_enter Try.func31, Try.ntmps31
  go_wp2_with fail
  go_loopw [12, 13] (fun r i wr => Hid (∃ k : Nat, k ≤ n ∧ i = .int .i64 k ∧ r = .int .i64 ((cnt O k : Nat) : Int) ∧ wr = w)) (fun _ i _ => n - (intOf i).toNat)
  case atStart => exact ⟨0, Nat.zero_le _, rfl, rfl, rfl⟩
  case round =>
    obtain ⟨k, hk, rfl, rfl, hwr⟩ := hrel.out
    rw [hwr]
    clear hrel hwr
    by_cases hlt : k < n
    · have hck := HI.out.cd k hlt
      have hcl := cnt_le O k
      obtain ⟨x, hx⟩ : ∃ x, x = d.getD k (-1) := ⟨_, rfl⟩
      have hdd := HB.out.dist hlt
      rw [← hx] at hck hdd
      clear hx hmk
      rcases hdd with ⟨hx1, hkO⟩ | ⟨q, hq, _, hkO, h0, h1, h2, _⟩
      · have HC : Hid (cnt O (k + 1) = cnt O k) := cnt_out hkO
        clear hkO
        subst hx1
        generalize cnt O k = m at *
        go_wp2
        go_roundw
        case rel => exact ⟨k + 1, by omega, by go_num, by rw [HC.out], by trivial⟩
        case measure => simp [intOf]; omega
      · have HC : Hid (cnt O (k + 1) = cnt O k + 1) := cnt_in hkO
        clear hkO
        by_cases hx0 : x = 0
        · obtain ⟨hks, _⟩ := h2 hx0
          clear h2 h1
          subst hx0
          subst hks
          generalize cnt O k = m at *
          go_wp2
          go_roundw
          case rel => exact ⟨k + 1, by omega, by go_num, by rw [HC.out]; go_num, by trivial⟩
          case measure => simp [intOf]; omega
        · clear h2 h1
          generalize cnt O k = m at *
          go_wp2
          go_roundw
          case rel => exact ⟨k + 1, by omega, by go_num, by rw [HC.out]; go_num, by trivial⟩
          case measure => simp [intOf]; omega
    · have hkn : k = n := by omega
      rw [hkn, HB.out.count]
      clear hkn hlt hk
      have hcs := HI.out.cd src hsrc
      have hc0 := HI.out.co 0 hOp
      rw [HB.out.dsrc] at hcs
      rw [HB.out.osrc] at hc0
      have HNS : Hid (Negs w (w.alloc (.cells (madeCells #[.int .i64 0] n) 3)) w.heap.size n 0) := ⟨_, (Below.refl _ _).alloc (Nat.le_refl _) _, ⟨Nat.le_refl _, heap_alloc_new w _⟩, size_madeCells _ _, fun j h => absurd h (Nat.not_lt_zero _)⟩
      go_wp2_with fail
      clear hcs hc0
      go_loopw [15] (fun i wr => Hid (∃ k : Nat, k ≤ n ∧ i = .int .i64 k ∧ Negs w wr w.heap.size n k)) (fun i _ => n - (intOf i).toNat)
      case atStart => exact ⟨0, Nat.zero_le _, rfl, HNS⟩
      case round =>
        clear HNS
        obtain ⟨k, hk, rfl, hN⟩ := hrel.out
        clear hrel
        by_cases hlt : k < n
        · obtain ⟨⟨vo, hvo⟩, hfr, hst⟩ := hN.step hlt
          have HST : Hid _ := hst
          clear hst hN hmk
          go_wp2
          go_roundw
          case rel => exact ⟨k + 1, by omega, by go_num, HST⟩
          case measure => simp [intOf]; omega
        · have hkn : k = n := by omega
          rw [hkn] at hN
          have HP : Hid (Seen w wr w.heap.size n O 0) := hN.seen
          clear hN hkn
          go_wp2_with fail
          go_loopw [16] (fun i wr => Hid (∃ p : Nat, p ≤ O.length ∧ i = .int .i64 p ∧ Seen w wr w.heap.size n O p)) (fun i _ => O.length - (intOf i).toNat)
          case atStart => exact ⟨0, Nat.zero_le _, rfl, HP⟩
          case round =>
            clear HP
            obtain ⟨p, hp, rfl, hP⟩ := hrel.out
            clear hrel
            by_cases hlt : p < O.length
            · have hbl : Below w.heap.size w wr := by obtain ⟨_, h, _⟩ := hP; exact h
              have hin := HI.out.below hbl
              have hvn := HB.out.rng p hlt
              have hco := hin.co p hlt
              have hcd := hin.cd _ hvn
              obtain ⟨s1, s2, s3⟩ := hP.step hlt HB.out.nodup hvn
              obtain ⟨y0, _⟩ := HB.out.dle p hlt
              have HV : Hid (∀ q, q ≤ p → d.getD (O.getD q 0) (-1) ≤ d.getD (O.getD p 0) (-1)) := fun q hq => HB.out.level p q hq hlt
              obtain ⟨v, hv⟩ : ∃ v, v = O.getD p 0 := ⟨_, rfl⟩
              rw [← hv] at hvn hco hcd s1 s2 s3 y0 HV
              obtain ⟨y, hy⟩ : ∃ y, y = d.getD v (-1) := ⟨_, rfl⟩
              rw [← hy] at hcd y0 HV
              have HS3 : Hid _ := s3 (.int .i64 (p : Int))
              have HVY : Hid (v = O.getD p 0 ∧ y = d.getD v (-1)) := ⟨hv, hy⟩
              clear hP hbl hin s3 hv hy hmk
              go_upto_region 27 with fail
              go_cut [] (fun wx => Hid (Seen w wx w.heap.size n O (p + 1)))
              case first =>
                go_wp2
                all_goals go_meet
                all_goals exact HS3
              case rest =>
                clear HS3 hco hcd s1 s2
                have HP : Hid (Seen w wc w.heap.size n O (p + 1)) := hcut.out
                clear hcut
                have hbl : Below w.heap.size w wc := by obtain ⟨_, h, _⟩ := HP.out; exact h
                have hin := HI.out.below hbl
                have hcd := hin.cd v hvn
                rw [← HVY.out.2] at hcd
                by_cases hp0 : 0 < p
                · obtain ⟨i, hi⟩ : ∃ i, i = p - 1 := ⟨_, rfl⟩
                  have hip : (p : Int) - 1 = (i : Int) := by omega
                  have hil : i < O.length := by omega
                  have hcp := hin.co i hil
                  have hun := HB.out.rng i hil
                  have hcx := hin.cd _ hun
                  have hle := HV.out i (by omega)
                  have hd : decide ((0 : Int) < (p : Int)) = true := by simp; omega
                  obtain ⟨u, hu⟩ : ∃ u, u = O.getD i 0 := ⟨_, rfl⟩
                  rw [← hu] at hcp hcx hun hle
                  obtain ⟨x, hx⟩ : ∃ x, x = d.getD u (-1) := ⟨_, rfl⟩
                  rw [← hx] at hcx hle
                  clear hin hbl hi hu hx
                  go_upto_region 28 with fail
                  go_quiet (fail)
                  go_wp2
                  go_roundw
                  case rel => exact ⟨p + 1, by omega, by go_num, Seen.same HP.out ⟨rfl, rfl, rfl, rfl⟩⟩
                  case measure => simp [intOf]; omega
                · have hd : decide ((0 : Int) < (p : Int)) = false := by simp; omega
                  clear hin hbl
                  go_upto_region 28 with fail
                  go_quiet (fail)
                  go_wp2
                  go_roundw
                  case rel => exact ⟨p + 1, by omega, by go_num, Seen.same HP.out ⟨rfl, rfl, rfl, rfl⟩⟩
                  case measure => simp [intOf]; omega
            · have HBL : Hid (Below w.heap.size w wr) := by obtain ⟨_, h, _⟩ := hP; exact h
              clear hP
              go_wp2_with fail
              go_loopw [18] (fun i wr => Hid (∃ u : Nat, u ≤ n ∧ i = .int .i64 u ∧ Below w.heap.size w wr)) (fun i _ => n - (intOf i).toNat)
              case atStart => exact ⟨0, Nat.zero_le _, rfl, HBL⟩
              case round =>
                clear HBL
                obtain ⟨u, hu, rfl, hbl⟩ := hrel.out
                clear hrel
                by_cases hun : u < n
                · have hin := HI.out.below hbl
                  have hcu := hin.cd u hun
                  have hdd := HB.out.dist hun
                  obtain ⟨y, hy⟩ : ∃ y, y = d.getD u (-1) := ⟨_, rfl⟩
                  rw [← hy] at hcu hdd
                  have HBL : Hid _ := hbl
                  rcases hdd with ⟨hx1, _⟩ | ⟨q, hq, _, huO, h0, h1, _, _⟩
                  · clear hy hin hbl hmk
                    subst hx1
                    go_wp2
                    go_roundw
                    case rel => exact ⟨u + 1, by omega, by go_num, HBL⟩
                    case measure => simp [intOf]; omega
                  · have htop := hin.adj.top u hun
                    obtain ⟨al, cl, hv, _⟩ := hin.adj.row u hun
                    rw [hv] at htop
                    obtain ⟨hll, hrg⟩ := HL.out u hun
                    have HR : Hid (∀ W, Below w.heap.size w W → W.cell? ⟨b, off + u, none⟩ = some (.slice al (arcs.getD u []).length cl) ∧ W.cell? ⟨bd, u, none⟩ = some (.int .i64 y) ∧ ∀ j, j < (arcs.getD u []).length → ∃ bl ol x z, al = some ⟨bl, ol, none⟩ ∧ W.cell? ⟨bl, ol + j, none⟩ = some (.int .i64 ((x : Nat) : Int)) ∧ x < n ∧ W.cell? ⟨bd, x, none⟩ = some (.int .i64 z) ∧ 0 ≤ z ∧ z ≤ y + 1) := by
                      intro W hW
                      have hin' := HI.out.below hW
                      refine ⟨by rw [← hv]; exact hin'.adj.top u hun, by rw [hy]; exact hin'.cd u hun, fun j hj => ?_⟩
                      obtain ⟨al', cl', hv', hrow⟩ := hin'.adj.row u hun
                      rw [hv] at hv'
                      simp only [Value.slice.injEq] at hv'
                      obtain ⟨rfl, _, _⟩ := hv'
                      obtain ⟨bl, ol, e1, e2⟩ := hrow j hj
                      have hm := getD_mem hj
                      have hxn := hrg _ hm
                      obtain ⟨k1, k2⟩ := HB.out.arc' huO (x := (arcs.getD u []).getD j 0) hm
                      refine ⟨bl, ol, _, _, e1, e2, hxn, hin'.cd _ hxn, (HB.out.inO _ hxn).2 k1, ?_⟩
                      rw [hy]
                      exact k2
                    obtain ⟨len, hlen⟩ : ∃ len, len = (arcs.getD u []).length := ⟨_, rfl⟩
                    rw [← hlen] at htop hll HR
                    clear hy hin hbl hv hrg huO hlen hmk
                    go_wp2_with fail
                    go_loopw [19] (fun i wr => Hid (∃ j : Nat, j ≤ len ∧ i = .int .i64 j ∧ Below w.heap.size w wr)) (fun i _ => len - (intOf i).toNat)
                    case atStart => exact ⟨0, Nat.zero_le _, rfl, HBL⟩
                    case round =>
                      clear HBL htop hcu
                      obtain ⟨j, hj, rfl, hbl⟩ := hrel.out
                      clear hrel
                      have HBL : Hid _ := hbl
                      obtain ⟨htop, hcu, hrow⟩ := HR.out wr hbl
                      by_cases hjl : j < len
                      · obtain ⟨bl, ol, x, z, hal, hcj, hxn, hcx, hz0, hz1⟩ := hrow j hjl
                        subst hal
                        clear hrow hbl
                        have hd : decide (z < (0 : Int)) = false := by simp; omega
                        have hd2 : decide (y + 1 < z) = false := by simp; omega
                        go_upto_region 38 with fail
                        go_quiet (fail)
                        go_wp2
                        go_roundw
                        case rel => exact ⟨j + 1, by omega, by go_num, below_drewN HBL.out _⟩
                        case measure => simp [intOf]; omega
                      · clear hrow hbl
                        go_wp2
                        go_roundw
                        case rel => exact ⟨u + 1, by omega, by go_num, HBL⟩
                        case measure => simp [intOf]; omega
                · have hgw := hbl.size
                  have HNS : Hid (Negs w ((wr.alloc (.cells (madeCells #[.int .i64 0] n) 3)).alloc (.cells (madeCells #[.int .i64 0] n) 3)) wr.heap.size n 0 ∧ Cp w ((wr.alloc (.cells (madeCells #[.int .i64 0] n) 3)).alloc (.cells (madeCells #[.int .i64 0] n) 3)) (wr.heap.size + 1) (madeCells #[.int .i64 0] n)) := by
                    have hc1 : Cp w (wr.alloc (.cells (madeCells #[.int .i64 0] n) 3)) wr.heap.size (madeCells #[.int .i64 0] n) := ⟨hgw, heap_alloc_new wr _⟩
                    refine ⟨⟨_, (hbl.alloc hgw _).alloc (by simp; omega) _, hc1.alloc _, size_madeCells _ _, fun j h => absurd h (Nat.not_lt_zero _)⟩, ⟨by omega, ?_⟩⟩
                    have := heap_alloc_new (wr.alloc (.cells (madeCells #[.int .i64 0] n) 3)) (.cells (madeCells #[.int .i64 0] n) 3)
                    simpa using this
                  clear hbl
                  go_wp2_with fail
                  clear hmk
                  obtain ⟨g1, hg1⟩ : ∃ g1, g1 = wr.heap.size := ⟨_, rfl⟩
                  obtain ⟨g2, hg2⟩ : ∃ g2, g2 = wr.heap.size + 1 := ⟨_, rfl⟩
                  have hgne : g1 ≠ g2 := by omega
                  rw [← hg2, ← hg1] at HNS
                  rw [← hg2, ← hg1]
                  clear hg1 hg2 hgw
                  go_loopw [23] (fun i wr => Hid (∃ k : Nat, k ≤ n ∧ i = .int .i64 k ∧ Negs w wr g1 n k ∧ Cp w wr g2 (madeCells #[.int .i64 0] n))) (fun i _ => n - (intOf i).toNat)
                  case atStart => exact ⟨0, Nat.zero_le _, rfl, HNS⟩
                  case round =>
                    clear HNS
                    obtain ⟨k, hk, rfl, hN, hC⟩ := hrel.out
                    clear hrel
                    by_cases hlt : k < n
                    · obtain ⟨⟨vo, hvo⟩, hfr, hst⟩ := hN.step hlt
                      have HST : Hid _ := And.intro hst (hC.other (Ne.symm hgne) k (.int .i64 (-1)))
                      clear hst hN hC
                      go_wp2
                      go_roundw
                      case rel => exact ⟨k + 1, by omega, by go_num, HST⟩
                      case measure => simp [intOf]; omega
                    · have hkn : k = n := by omega
                      rw [hkn] at hN
                      have HF : Hid (Fpw w wr g1 g2 n O T 0 0) := Fpw.start hN hC (fun q hq => HB.out.rng q hq)
                      clear hN hC hkn
                      go_wp2_with fail
                      go_loopw [24] (fun i wr => Hid (∃ p : Nat, p ≤ O.length ∧ i = .int .i64 p ∧ Fpw w wr g1 g2 n O T p 0)) (fun i _ => O.length - (intOf i).toNat)
                      case atStart => exact ⟨0, Nat.zero_le _, rfl, HF⟩
                      case round =>
                        clear HF
                        obtain ⟨p, hp, rfl, hF⟩ := hrel.out
                        clear hrel
                        by_cases hlt : p < O.length
                        · have hin := HI.out.below hF.below
                          have hco := hin.co p hlt
                          have hun := HB.out.rng p hlt
                          obtain ⟨y0, y1⟩ := HB.out.dle p hlt
                          obtain ⟨u, hu⟩ : ∃ u, u = O.getD p 0 := ⟨_, rfl⟩
                          have HU : Hid (u = O.getD p 0) := hu
                          rw [← hu] at hco hun y0 y1
                          obtain ⟨y, hy⟩ : ∃ y, y = d.getD u (-1) := ⟨_, rfl⟩
                          have HY : Hid (y = d.getD u (-1)) := hy
                          rw [← hy] at y0 y1
                          have htop := hin.adj.top u hun
                          obtain ⟨al, cl, hv, _⟩ := hin.adj.row u hun
                          rw [hv] at htop
                          obtain ⟨hll, hrg⟩ := HL.out u hun
                          have HR : Hid (∀ W, Below w.heap.size w W → W.cell? ⟨b, off + u, none⟩ = some (.slice al (arcs.getD u []).length cl) ∧ W.cell? ⟨bd, u, none⟩ = some (.int .i64 y) ∧ ∀ j, j < (arcs.getD u []).length → ∃ bl ol x z, al = some ⟨bl, ol, none⟩ ∧ W.cell? ⟨bl, ol + j, none⟩ = some (.int .i64 ((x : Nat) : Int)) ∧ x < n ∧ W.cell? ⟨bd, x, none⟩ = some (.int .i64 z) ∧ z = d.getD x (-1) ∧ (fun0 arcs (O.getD p 0))[j]? = some x) := by
                            intro W hW
                            have hin' := HI.out.below hW
                            refine ⟨by rw [← hv]; exact hin'.adj.top u hun, by rw [hy]; exact hin'.cd u hun, fun j hj => ?_⟩
                            obtain ⟨al', cl', hv', hrow⟩ := hin'.adj.row u hun
                            rw [hv] at hv'
                            simp only [Value.slice.injEq] at hv'
                            obtain ⟨rfl, _, _⟩ := hv'
                            obtain ⟨bl, ol, e1, e2⟩ := hrow j hj
                            have hxn := hrg _ (getD_mem hj)
                            refine ⟨bl, ol, _, _, e1, e2, hxn, hin'.cd _ hxn, rfl, ?_⟩
                            rw [← hu]
                            unfold fun0
                            rw [List.getD_eq_getElem?_getD (i := j), List.getElem?_eq_getElem hj]
                            rfl
                          obtain ⟨len, hlen⟩ : ∃ len, len = (arcs.getD u []).length := ⟨_, rfl⟩
                          have HLEN : Hid (len = (fun0 arcs (O.getD p 0)).length) := by rw [hlen, hu]; rfl
                          rw [← hlen] at htop hll HR
                          have HF : Hid _ := hF
                          clear hy hu hin hv hrg hlen hF
                          go_wp2_with fail
                          go_loopw [26] (fun i wr => Hid (∃ j : Nat, j ≤ len ∧ i = .int .i64 j ∧ Fpw w wr g1 g2 n O T p j)) (fun i _ => len - (intOf i).toNat)
                          case atStart => exact ⟨0, Nat.zero_le _, rfl, HF⟩
                          case round =>
                            clear HF htop hco
                            obtain ⟨j, hj, rfl, hF⟩ := hrel.out
                            clear hrel
                            obtain ⟨htop, hcu, hrow⟩ := HR.out wr hF.below
                            by_cases hjl : j < len
                            · obtain ⟨bl, ol, x, z, hal, hcj, hxn, hcx, hzx, hAx⟩ := hrow j hjl
                              subst hal
                              have harc := hF.arc HB.out hgne hlt hxn hAx
                              rw [← hzx, ← HU.out, ← HY.out] at harc
                              clear hrow hzx hAx hF
                              rcases harc with ⟨e1, e2⟩ | ⟨e1, zz, e2, e3, e4⟩ | ⟨e1, e2, e3⟩
                              · have HF : Hid (Fpw w wr g1 g2 n O T p (j + 1)) := e2
                                have hd : (z == y + 1) = false := by simp; omega
                                clear e2
                                go_upto_region 54 with fail
                                go_quiet (fail)
                                go_wp2
                                go_roundw
                                case rel => exact ⟨j + 1, by omega, by go_num, Fpw.same HF.out ⟨rfl, rfl, rfl, rfl⟩⟩
                                case measure => simp [intOf]; omega
                              · have HF : Hid (Fpw w wr g1 g2 n O T p (j + 1)) := e4
                                have hd : decide (z = y + 1) = true := by simp; omega
                                clear e4
                                go_upto_region 54 with fail
                                go_quiet (fail)
                                go_wp2
                                go_roundw
                                case rel => exact ⟨j + 1, by omega, by go_num, Fpw.same HF.out ⟨rfl, rfl, rfl, rfl⟩⟩
                                case measure => simp [intOf]; omega
                              · have HE : Hid _ := e3
                                have hd : decide (z = y + 1) = true := by simp; omega
                                clear e3
                                go_upto_region 54 with fail
                                go_quiet (fail)
                                go_upto_region 55 with fail
                                obtain ⟨c1, c2, c3⟩ := HE.out (wr.drewN nq) ⟨rfl, rfl, rfl, rfl⟩
                                clear HE e2
                                generalize wr.drewN nq = W at c1 c2 c3 ⊢
                                have HC3 : Hid _ := c3 _ rfl
                                clear c3 htop hcu hcj hcx
                                go_cut [] (fun wx => wx = W.setCell ⟨g1, x, none⟩ (.int .i64 (p : Int)))
                                case first =>
                                  go_wp2
                                  all_goals go_meet
                                  all_goals rfl
                                case rest =>
                                  obtain ⟨⟨vo, f1⟩, f2, f3⟩ := HC3.out
                                  rw [← hcut] at f1 f2 f3
                                  have HF : Hid (Fpw w (wc.setCell ⟨g2, x, none⟩ (.int .i64 (j : Int))) g1 g2 n O T p (j + 1)) := f3
                                  clear hcut HC3 f3 c1 c2
                                  go_wp2
                                  go_roundw
                                  case rel => exact ⟨j + 1, by omega, by go_num, HF⟩
                                  case measure => simp [intOf]; omega
                            · have HF : Hid _ := hF.next HB.out (by rw [← HLEN.out]; omega)
                              clear hrow hF
                              go_wp2
                              go_roundw
                              case rel => exact ⟨p + 1, by omega, by go_num, HF⟩
                              case measure => simp [intOf]; omega
                        · have hpO : p = O.length := by omega
                          rw [hpO] at hF
                          have HF : Hid (Fpw w wr g1 g2 n O T O.length 0) := hF
                          clear hpO hF
                          go_wp2_with fail
                          go_loopw [28] (fun i wr => Hid (∃ v : Nat, v ≤ n ∧ i = .int .i64 v ∧ Fpw w wr g1 g2 n O T O.length 0)) (fun i _ => n - (intOf i).toNat)
                          case atStart => exact ⟨0, Nat.zero_le _, rfl, HF⟩
                          case round =>
                            clear HF
                            obtain ⟨v, hv, rfl, hF⟩ := hrel.out
                            clear hrel
                            by_cases hvn : v < n
                            · have hin := HI.out.below hF.below
                              have hcd := hin.cd v hvn
                              have hcv := hin.cv v hvn
                              by_cases hd0 : d.getD v (-1) ≤ 0
                              · rw [HB.out.viaZ hvn hd0] at hcv
                                generalize d.getD v (-1) = y at hcd hd0
                                have HF : Hid (Fpw w wr g1 g2 n O T O.length 0) := hF
                                clear hF hin
                                go_wp2
                                go_roundw
                                case rel => exact ⟨v + 1, by omega, by go_num, HF⟩
                                case measure => simp [intOf]; omega
                              · rcases HB.out.dist hvn with ⟨h1, _⟩ | ⟨q, hq, hqv, _, _, _, _, h7⟩
                                · omega
                                · have hq0 : 0 < q := by
                                    rcases Nat.eq_zero_or_pos q with e | e
                                    · have := h7 e; omega
                                    · exact e
                                  obtain ⟨f1, _⟩ := hF.done HB.out hq0 hq
                                  obtain ⟨t1, _, t3, _⟩ := HB.out.tree q hq0 hq
                                  have htl : (T q).1 < O.length := by omega
                                  have hco := hin.co (T q).1 htl
                                  rw [hqv] at f1 t3
                                  rw [t3] at hcv
                                  clear h7 hqv t3 t1
                                  generalize (T q).1 = t at f1 hcv hco htl
                                  generalize O.getD t 0 = r at hcv hco
                                  generalize d.getD v (-1) = y at hcd hd0
                                  have hd : decide (((t : Nat) : Int) < (0 : Int)) = false := by simp
                                  have HF : Hid (Fpw w wr g1 g2 n O T O.length 0) := hF
                                  clear hF hin
                                  go_upto_region 63 with fail
                                  go_quiet (fail)
                                  go_wp2
                                  go_roundw
                                  case rel => exact ⟨v + 1, by omega, by go_num, Fpw.same HF.out ⟨rfl, rfl, rfl, rfl⟩⟩
                                  case measure => simp [intOf]; omega
                            · have HF : Hid (Fpw w wr g1 g2 n O T O.length 0) := hF
                              clear hF
                              go_wp2_with fail
                              go_loopw [29] (fun i wr => Hid (∃ p : Nat, 1 ≤ p ∧ p ≤ O.length ∧ i = .int .i64 p ∧ Fpw w wr g1 g2 n O T O.length 0)) (fun i _ => O.length - (intOf i).toNat)
                              case atStart => exact ⟨1, Nat.le_refl _, hOp, rfl, HF⟩
                              case round =>
                                clear HF
                                obtain ⟨p, hp1, hp, rfl, hF⟩ := hrel.out
                                clear hrel
                                by_cases hlt : p < O.length
                                · obtain ⟨i, hi⟩ : ∃ i, i = p - 1 := ⟨_, rfl⟩
                                  have hip : (p : Int) - 1 = (i : Int) := by omega
                                  have hil : i < O.length := by omega
                                  have hin := HI.out.below hF.below
                                  have hca := hin.co i hil
                                  have hcb := hin.co p hlt
                                  have han := HB.out.rng i hil
                                  have hbn := HB.out.rng p hlt
                                  have hda := hin.cd _ han
                                  have hdb := hin.cd _ hbn
                                  have hpos : ∀ q, 0 < q → q < O.length → 0 < d.getD (O.getD q 0) (-1) := fun q h0 hq => by
                                    obtain ⟨t1, _, _, t4⟩ := HB.out.tree q h0 hq
                                    have := (HB.out.dle (T q).1 (by omega)).1
                                    omega
                                  have hb1 := hpos p (by omega) hlt
                                  obtain ⟨f3, f4⟩ := hF.done HB.out (q := p) (by omega) hlt
                                  by_cases hi0 : i = 0
                                  · have e0 : d.getD (O.getD i 0) (-1) = 0 := by rw [hi0, HB.out.osrc, HB.out.dsrc]
                                    rw [e0] at hda
                                    clear hpos e0 hi0 hi f3 f4
                                    generalize O.getD i 0 = a at hca han hda
                                    generalize O.getD p 0 = bb at hcb hbn hdb hb1
                                    generalize d.getD bb (-1) = y at hdb hb1
                                    have hd : ((0 : Int) == y) = false := by simp; omega
                                    have HF : Hid (Fpw w wr g1 g2 n O T O.length 0) := hF
                                    clear hF hin
                                    go_upto_region 70 with fail
                                    go_quiet (fail)
                                    go_wp2
                                    go_roundw
                                    case rel => exact ⟨p + 1, by omega, by omega, by go_num, Fpw.same HF.out ⟨rfl, rfl, rfl, rfl⟩⟩
                                    case measure => simp [intOf]; omega
                                  · obtain ⟨f1, f2⟩ := hF.done HB.out (q := i) (by omega) hil
                                    have ha1 := hpos i (by omega) hil
                                    have hm := HB.out.mono i p (by omega) (by omega) hlt
                                    unfold Lt at hm
                                    clear hpos hi0 hi
                                    generalize O.getD i 0 = a at hca han hda f1 f2 ha1
                                    generalize O.getD p 0 = bb at hcb hbn hdb hb1 f3 f4
                                    generalize d.getD a (-1) = x at hda ha1
                                    generalize d.getD bb (-1) = y at hdb hb1
                                    generalize (T i).1 = r1 at hm f1
                                    generalize (T i).2 = r2 at hm f2
                                    generalize (T p).1 = s1 at hm f3
                                    generalize (T p).2 = s2 at hm f4
                                    have HF : Hid (Fpw w wr g1 g2 n O T O.length 0) := hF
                                    clear hF hin
                                    by_cases hxy : x = y
                                    · subst hxy
                                      by_cases hrs : r1 = s1
                                      · subst hrs
                                        have h22 : r2 < s2 := by omega
                                        clear hm
                                        have hd : decide ((r1 : Int) < (r1 : Int)) = false := by simp
                                        have hd2 : decide ((s2 : Int) ≤ (r2 : Int)) = false := by simp; omega
                                        go_upto_region 70 with fail
                                        go_quiet (fail)
                                        go_upto_region 71 with fail
                                        go_quiet (fail)
                                        go_wp2
                                        go_roundw
                                        case rel => exact ⟨p + 1, by omega, by omega, by go_num, Fpw.same HF.out ⟨rfl, rfl, rfl, rfl⟩⟩
                                        case measure => simp [intOf]; omega
                                      · have h11 : (r1 : Int) < (s1 : Int) := by omega
                                        clear hm hrs
                                        generalize (r1 : Int) = z1 at h11 f1
                                        generalize (s1 : Int) = z2 at h11 f3
                                        have hd : decide (z2 < z1) = false := by simp; omega
                                        have hd2 : (z1 == z2) = false := by simp; omega
                                        go_upto_region 70 with fail
                                        go_quiet (fail)
                                        go_upto_region 71 with fail
                                        go_quiet (fail)
                                        go_wp2
                                        go_roundw
                                        case rel => exact ⟨p + 1, by omega, by omega, by go_num, Fpw.same HF.out ⟨rfl, rfl, rfl, rfl⟩⟩
                                        case measure => simp [intOf]; omega
                                    · have hd : (x == y) = false := by simp; omega
                                      clear hm
                                      go_upto_region 70 with fail
                                      go_quiet (fail)
                                      go_wp2
                                      go_roundw
                                      case rel => exact ⟨p + 1, by omega, by omega, by go_num, Fpw.same HF.out ⟨rfl, rfl, rfl, rfl⟩⟩
                                      case measure => simp [intOf]; omega
                                · have HBL : Hid (Below w.heap.size w wr) := hF.below
                                  clear hF
                                  go_wp2
                                  go_ret
                                  exact ⟨rfl, HBL⟩
end Go.Proofs.Qxb6601175a
