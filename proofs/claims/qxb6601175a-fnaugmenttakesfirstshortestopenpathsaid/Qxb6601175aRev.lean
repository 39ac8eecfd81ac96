/-
  THE WALK of zzReverse.
-/
import Derived.Test.Qxb6601175aRevPlain
import Derived.Test.Qxb6601175aStart
import Derived.Test.Qxb6601175aZbfs
namespace Go.Proofs.Qxb6601175a
open Go.RowKit

/-- the turned lists, laid anew -/
def RevPost (w : World) (n : Nat) (arcs : List (List Nat)) (e : Ending) (w' : World) : Prop :=
  ∃ (g : Nat) (w1 : World) (R : Nat → Rw) (L : List (List Nat)), g = w1.heap.size ∧ e = .returned (.slice (some ⟨g, 0, none⟩) n n) ∧ Below w.heap.size w w1 ∧ LMid w1 w' g n n (L.map nz) R ∧ L.length = n ∧ ∀ y, y < n → L.getD y [] = revL arcs n 0 y

theorem revL_len0 (arcs : List (List Nat)) (u y : Nat) : (revL arcs u 0 y).length ≤ u := by
  unfold revL
  rw [List.length_append, if_neg (by simp), List.length_nil]
  exact Nat.le_trans (List.length_filter_le _ _) (by simp)

/-- how often each vertex has been met -/
def Degs (n : Nat) (arcs : List (List Nat)) (u j : Nat) (cd : Array Value) : Prop := cd.size = n ∧ ∀ y, y < n → cd[y]? = some (.int .i64 (((revL arcs u j y).length : Nat) : Int))

theorem Degs.next {n : Nat} {arcs : List (List Nat)} {u j : Nat} {cd : Array Value} (h : Degs n arcs u j cd) (hj : (arcs.getD u []).length ≤ j) : Degs n arcs (u + 1) 0 cd :=
  ⟨h.1, fun y hy => by rw [revL_next arcs u j y hj]; exact h.2 y hy⟩
theorem Degs.step {n : Nat} {arcs : List (List Nat)} {u j : Nat} {cd : Array Value} (h : Degs n arcs u j cd) (hs : (arcs.getD u []).Pairwise (· < ·)) (hj : j < (arcs.getD u []).length) (hx : (arcs.getD u []).getD j 0 < n) :
    Degs n arcs u (j + 1) (cd.setIfInBounds ((arcs.getD u []).getD j 0) (.int .i64 (((revL arcs u j ((arcs.getD u []).getD j 0)).length : Nat) + 1 : Int))) := by
  obtain ⟨s1, s2⟩ := revL_step arcs u j hs hj
  refine ⟨by simpa using h.1, fun y hy => ?_⟩
  by_cases e : y = (arcs.getD u []).getD j 0
  · rw [e, s1, Array.getElem?_setIfInBounds_self_of_lt (by rw [h.1]; exact hx), List.length_append]
    rfl
  · rw [Array.getElem?_setIfInBounds_ne (Ne.symm e), s2 y e]
    exact h.2 y hy

/-- the first lists: all empty -/
theorem lmid_start (w : World) (n : Nat) (hn : n ≤ 1048576) (zss : List (List Int)) : LMid w (w.alloc (.cells (madeCells #[.slice none 0 0] n) 23)) w.heap.size n 0 zss (fun _ => ⟨23, .slice (some ⟨w.heap.size, 0, none⟩) n n, (madeCells #[.slice none 0 0] n).toList⟩) := by
  have hl : (madeCells #[Value.slice none 0 0] n).toList.length = n := by rw [Array.length_toList, size_madeCells]
  refine ⟨⟨fun i _ => ?_, fun i j hi hj hne => by omega⟩, rfl, hl, fun u hu => by omega, fun u _ hu => by omega, (Below.refl _ _).alloc (Nat.le_refl _) _, by simp⟩
  have := Own1.mk (w := w.alloc (.cells (madeCells #[.slice none 0 0] n) 23)) (B := w.heap.size) (e := 23) (b := w.heap.size) (cap := n) (cur := madeCells #[.slice none 0 0] n) (xs := (madeCells #[.slice none 0 0] n).toList) (Nat.le_refl _) (heap_alloc_new w _) (by rw [hl]; exact Nat.le_refl _) (by unfold maxLen; omega) (size_madeCells _ _) List.take_length
  rwa [hl] at this

theorem Adj.below {w w' : World} {b off n : Nat} {arcs : List (List Nat)} {vs : Nat → Value} (h : Adj w b off n arcs vs) (hb : Below w.heap.size w w') : Adj w' b off n arcs vs := by
  refine ⟨fun u hu => ?_, fun u hu => ?_⟩
  · rw [hb.cell (World.block_lt_of_cell? w _ (h.top u hu))]; exact h.top u hu
  · obtain ⟨al, cl, h1, h2⟩ := h.row u hu
    refine ⟨al, cl, h1, fun j hj => ?_⟩
    obtain ⟨bl, ol, h3, h4⟩ := h2 j hj
    exact ⟨bl, ol, h3, by rw [hb.cell (World.block_lt_of_cell? w _ h4)]; exact h4⟩

/-- behind an append onto list x of the table -/
theorem LMid.push {w wr w1 : World} {X : Obj} {b n : Nat} {L : List (List Nat)} {R : Nat → Rw} (h : LMid w wr b n n (L.map nz) R) (hb : b = w.heap.size) (hn : L.length = n) {x : Nat} (hx : x < n)
    (hg : (wr.alloc X).grownBy w1 (R (x + 1)).v.ownBlock) {g k cap : Nat} {xs : List Value} {a : Nat} (ho : w1.ownsRow b 3 1 (.slice (some ⟨g, 0, none⟩) k cap) k xs) (hxs : xs = ints (nz (L.getD x [] ++ [a]))) (hk : k = (L.getD x []).length + 1)
    (hat : (R (x + 1)).v.ownBlock = some g ∨ g = wr.heap.size + 1) :
    w1.cell? ⟨b, x, none⟩ = some (R (x + 1)).v ∧ w1.frozen? ⟨b, x, none⟩ = false ∧ ∃ R', LMid w (w1.setCell ⟨b, x, none⟩ (.slice (some ⟨g, 0, none⟩) k cap)) b n n ((L.set x (L.getD x [] ++ [a])).map nz) R' := by
  subst hxs hk
  refine h.turn hb hn hx (grown_trans (World.grownBy_alloc wr X _) hg) ?_ ?_
  · unfold Own1
    rw [ints_length, nz_length, List.length_append]
    exact ho
  · rcases hat with h5 | h5
    · right; left
      rw [h5]; rfl
    · right; right
      exact ⟨g, rfl, by omega⟩

theorem LMid.listAt {w wr : World} {b n : Nat} {L : List (List Nat)} {R : Nat → Rw} (h : LMid w wr b n n (L.map nz) R) (hn : L.length = n) {x : Nat} (hx : x < n) :
    wr.cell? ⟨b, x, none⟩ = some (R (x + 1)).v ∧ ∃ ao co, (R (x + 1)).v = .slice ao (L.getD x []).length co ∧ wr.ownsRow b 3 1 (.slice ao (L.getD x []).length co) (L.getD x []).length (ints (nz (L.getD x []))) := by
  have hT := h.own.row 0 (by omega)
  rw [h.top] at hT
  have hl := h.len
  have hc := h.cells x hx
  rw [List.getElem?_eq_getElem (by omega)] at hc
  refine ⟨by rw [hT.cell x (by omega)]; exact hc, ?_⟩
  have hR := h.own.row (x + 1) (by omega)
  rw [h.rows x (by rw [List.length_map]; omega) hx] at hR
  have e : (L.map nz)[x]'(by rw [List.length_map]; omega) = nz (L.getD x []) := by
    rw [List.getElem_map, List.getD_eq_getElem?_getD, List.getElem?_eq_getElem (by omega)]; rfl
  rw [e] at hR
  obtain ⟨ao, co, hv⟩ : ∃ ao co, (R (x + 1)).v = .slice ao (L.getD x []).length co := by
    obtain ⟨ao, co, e2⟩ := hR.inInts.form
    rw [nz_length] at e2
    exact ⟨ao, co, e2⟩
  refine ⟨ao, co, hv, ?_⟩
  rw [hv] at hR
  unfold Own1 at hR
  rw [ints_length, nz_length] at hR
  exact hR

set_option maxHeartbeats 4000000 in
set_option maxRecDepth 100000 in
theorem rev_any (w : World) (b off c n : Nat) (arcs : List (List Nat)) (vs : Nat → Value) (hn : n ≤ 1048576) (hal : ∀ u, u < n → (arcs.getD u []).length ≤ 1048576 ∧ (∀ x ∈ arcs.getD u [], x < n) ∧ (arcs.getD u []).Pairwise (· < ·))
    (hA : Adj w b off n arcs vs) : Calls Try.prog 30 #[.slice (some ⟨b, off, none⟩) n c] w (RevPost w n arcs) := by
  have hmk := run_make_row' (P := Try.prog) 23 3 (.int .i64 0) 8 Try.underlying23 info3 rfl .i64 .i64 n (by omega) (by omega)
  have HA : Hid _ := hA
  have HL : Hid _ := hal
  clear hA hal
  go_enter Try.func30, Try.ntmps30
  go_wp2_with fail
  go_loopw [5] (fun i wr => Hid (∃ (u : Nat) (cd : Array Value), u ≤ n ∧ i = .int .i64 u ∧ wr = w.alloc (.cells cd 3) ∧ Degs n arcs u 0 cd)) (fun i _ => n - (intOf i).toNat)
  case atStart =>
    refine ⟨0, _, Nat.zero_le _, rfl, rfl, size_madeCells _ _, fun y hy => ?_⟩
    rw [revL_zero]
    have e : (madeCells #[Value.int .i64 0] n)[y]? = (madeCells #[Value.int .i64 0] n).toList[y]? := by simp
    rw [e, toList_madeCells_one, List.getElem?_replicate, if_pos hy]
    rfl
  case round =>
    obtain ⟨u, cd, hu, rfl, hwr, hD⟩ := hrel.out
    subst hwr
    clear hrel hmk
    have HD : Hid (Degs n arcs u 0 cd) := hD
    clear hD
    by_cases hun : u < n
    · have htop := HA.out.top u hun
      obtain ⟨al, cl, hv, hrow⟩ := HA.out.row u hun
      rw [hv] at htop
      have hbl : b < w.heap.size := World.block_lt_of_cell? w _ htop
      obtain ⟨hll, hrg, hsr⟩ := HL.out u hun
      have HR : Hid (∀ j, j < (arcs.getD u []).length → ∃ bl ol, al = some ⟨bl, ol, none⟩ ∧ w.cell? ⟨bl, ol + j, none⟩ = some (.int .i64 (((arcs.getD u []).getD j 0 : Nat) : Int)) ∧ (arcs.getD u []).getD j 0 < n) := fun j hj => by
        obtain ⟨bl, ol, e1, e2⟩ := hrow j hj
        exact ⟨bl, ol, e1, e2, hrg _ (getD_mem hj)⟩
      have HSR : Hid _ := hsr
      clear hrow hrg hsr hv
      obtain ⟨len, hlen⟩ : ∃ len, len = (arcs.getD u []).length := ⟨_, rfl⟩
      have HLEN : Hid (len = (arcs.getD u []).length) := hlen
      rw [← hlen] at htop hll HR
      clear hlen
      go_wp2_with fail
      go_loopw [6] (fun i wr => Hid (∃ (j : Nat) (cd : Array Value), j ≤ len ∧ i = .int .i64 j ∧ wr = w.alloc (.cells cd 3) ∧ Degs n arcs u j cd)) (fun i _ => len - (intOf i).toNat)
      case atStart => exact ⟨0, cd, Nat.zero_le _, rfl, rfl, HD⟩
      case round =>
        clear HD
        obtain ⟨j, cd, hj, rfl, hwr, hD⟩ := hrel.out
        subst hwr
        clear hrel
        by_cases hjl : j < len
        · obtain ⟨bl, ol, hal, hcj, hxn⟩ := HR.out j hjl
          subst hal
          have hbll : bl < w.heap.size := World.block_lt_of_cell? w _ hcj
          have hst := hD.step HSR.out (by rw [← HLEN.out]; exact hjl) hxn
          obtain ⟨x, hx⟩ : ∃ x, x = (arcs.getD u []).getD j 0 := ⟨_, rfl⟩
          rw [← hx] at hcj hxn hst
          have hdx := hD.2 x hxn
          have hm := revL_len arcs u j x
          obtain ⟨m, hmm⟩ : ∃ m, m = (revL arcs u j x).length := ⟨_, rfl⟩
          rw [← hmm] at hdx hm hst
          have HST : Hid _ := hst
          clear hst hD hx hmm
          go_wp2
          go_roundw
          case rel => exact ⟨j + 1, _, by omega, by go_num, rfl, HST⟩
          case measure => simp [intOf]; omega
        · have HD : Hid _ := hD.next (by rw [← HLEN.out]; omega)
          clear hD
          go_wp2
          go_roundw
          case rel => exact ⟨u + 1, cd, by omega, by go_num, rfl, HD⟩
          case measure => simp [intOf]; omega
    · have hun' : u = n := by omega
      subst hun'
      obtain ⟨w1, hw1⟩ : ∃ w1, w1 = w.alloc (.cells cd 3) := ⟨_, rfl⟩
      have hdeg : ∀ y, y < u → w1.cell? ⟨w.heap.size, y, none⟩ = some (.int .i64 (((revL arcs u 0 y).length : Nat) : Int)) := fun y hy => by
        rw [hw1, cell_of_row _ w.heap.size y cd 3 (0, 0) (heap_alloc_new w _)]
        exact HD.out.2 y hy
      have hb1 : Below w.heap.size w w1 := by rw [hw1]; exact (Below.refl _ _).alloc (Nat.le_refl _) _
      have HS1 : Hid (w1.heap.size = w.heap.size + 1) := by rw [hw1]; show _ = _; simp
      have HDG : Hid _ := hdeg
      have HB1 : Hid _ := hb1
      have HA1 : Hid _ := HA.out.below hb1
      rw [← hw1]
      clear hw1 hdeg hb1 HA HD
      have hmk := run_make_row' (P := Try.prog) 71 23 (.slice none 0 0) 24 Try.underlying71 info23 rfl .i64 .i64 u (by omega) (by omega)
      have HLS : Hid _ := lmid_start w1 u hn (List.replicate u [])
      go_wp2_with fail
      clear hmk
      go_loopw [8] (fun i wr => Hid (∃ (k : Nat) (R : Nat → Rw), k ≤ u ∧ i = .int .i64 k ∧ LMid w1 wr w1.heap.size u k (List.replicate u []) R)) (fun i _ => u - (intOf i).toNat)
      case atStart => exact ⟨0, _, Nat.zero_le _, rfl, HLS⟩
      case round =>
        clear HLS
        obtain ⟨k, R, hk, rfl, hM⟩ := hrel.out
        clear hrel
        by_cases hlt : k < u
        · have hck := HDG.out k hlt
          rw [← hM.below.cell (by rw [HS1.out]; simp)] at hck
          have hm := revL_len0 arcs u k
          obtain ⟨m, hmm⟩ : ∃ m, m = (revL arcs u 0 k).length := ⟨_, rfl⟩
          rw [← hmm] at hck hm
          have hmk0 := make0 m (by omega) wr
          have hT := hM.own.row 0 (by omega)
          rw [hM.top] at hT
          have hl := hM.len
          have hg : wr.grownBy (wr.alloc (.cells (madeCells #[.int .i64 0] m) 3)) none := World.grownBy_alloc _ _ _
          obtain ⟨vold, hcell⟩ : ∃ vold, (wr.alloc (.cells (madeCells #[.int .i64 0] m) 3)).cell? ⟨w1.heap.size, k, none⟩ = some vold := ⟨_, (hT.heap hg).cell k (by omega)⟩
          have hfr := (hT.heap hg).frozen k
          have hst := hM.step rfl (by rw [List.length_replicate]; exact hlt) (by simp) (v := .slice (some ⟨wr.heap.size, 0, none⟩) 0 m) (by rw [List.getElem_replicate]; exact own_make0 wr m (by omega)) hg
          have hsz := hM.size
          rw [World.setCell_alloc_past _ _ _ _ hsz] at hst
          have HST : Hid _ := hst
          clear hst hM hT hl hmm
          go_wp2
          go_roundw
          case rel => exact ⟨k + 1, _, by omega, by go_num, HST⟩
          case measure => simp [intOf]; omega
        · have hkk : k = u := by omega
          subst hkk
          have hM0 : LMid w1 wr w1.heap.size k k ((List.replicate k ([] : List Nat)).map nz) R := by
            have e : (List.replicate k ([] : List Nat)).map nz = List.replicate k [] := by rw [List.map_replicate]; rfl
            rw [e]; exact hM
          have HM0 : Hid _ := hM0
          clear hM hM0 HDG
          go_wp2_with fail
          go_loopw [9] (fun i wr => Hid (∃ (u : Nat) (R : Nat → Rw) (L : List (List Nat)), u ≤ k ∧ i = .int .i64 u ∧ LMid w1 wr w1.heap.size k k (L.map nz) R ∧ L.length = k ∧ ∀ y, y < k → L.getD y [] = revL arcs u 0 y)) (fun i _ => k - (intOf i).toNat)
          case atStart =>
            refine ⟨0, R, _, Nat.zero_le _, rfl, HM0, by simp, fun y hy => ?_⟩
            rw [revL_zero, List.getD_eq_getElem?_getD, List.getElem?_replicate, if_pos hy]
            rfl
          case round =>
            clear HM0
            obtain ⟨u, R, L, hu, rfl, hM, hL, hrev⟩ := hrel.out
            have HM : Hid (LMid w1 wr w1.heap.size k k (L.map nz) R ∧ L.length = k ∧ ∀ y, y < k → L.getD y [] = revL arcs u 0 y) := ⟨hM, hL, hrev⟩
            clear hrel hM hL hrev
            by_cases hun : u < k
            · have hadj := HA1.out.below HM.out.1.below
              have htop := hadj.top u hun
              obtain ⟨al, cl, hv, _⟩ := hadj.row u hun
              rw [hv] at htop
              have htop1 := HA1.out.top u hun
              rw [hv] at htop1
              obtain ⟨hll, hrg, hsr⟩ := HL.out u hun
              have HR : Hid (∀ j, j < (arcs.getD u []).length → ∃ bl ol, al = some ⟨bl, ol, none⟩ ∧ w1.cell? ⟨bl, ol + j, none⟩ = some (.int .i64 (((arcs.getD u []).getD j 0 : Nat) : Int)) ∧ (arcs.getD u []).getD j 0 < k) := fun j hj => by
                obtain ⟨al', cl', hv', hrow'⟩ := HA1.out.row u hun
                rw [hv] at hv'
                simp only [Value.slice.injEq] at hv'
                obtain ⟨rfl, _, _⟩ := hv'
                obtain ⟨bl, ol, e1, e2⟩ := hrow' j hj
                exact ⟨bl, ol, e1, e2, hrg _ (getD_mem hj)⟩
              have HSR : Hid _ := hsr
              clear hrg hsr hv hadj
              obtain ⟨len, hlen⟩ : ∃ len, len = (arcs.getD u []).length := ⟨_, rfl⟩
              have HLEN : Hid (len = (arcs.getD u []).length) := hlen
              rw [← hlen] at htop hll HR htop1
              have HTOP : Hid _ := htop1
              clear hlen htop1
              go_wp2_with fail
              go_loopw [10] (fun i wr => Hid (∃ (j : Nat) (R : Nat → Rw) (L : List (List Nat)), j ≤ len ∧ i = .int .i64 j ∧ LMid w1 wr w1.heap.size k k (L.map nz) R ∧ L.length = k ∧ ∀ y, y < k → L.getD y [] = revL arcs u j y)) (fun i _ => len - (intOf i).toNat)
              case atStart => exact ⟨0, R, L, Nat.zero_le _, rfl, HM.out.1, HM.out.2.1, HM.out.2.2⟩
              case round =>
                clear HM htop
                obtain ⟨j, R, L, hj, rfl, hM, hL, hrev⟩ := hrel.out
                clear hrel
                have htop := HTOP.out
                rw [← hM.below.cell (World.block_lt_of_cell? w1 _ htop)] at htop
                by_cases hjl : j < len
                · obtain ⟨bl, ol, hal, hcj, hxk⟩ := HR.out j hjl
                  subst hal
                  rw [← hM.below.cell (World.block_lt_of_cell? w1 _ hcj)] at hcj
                  obtain ⟨s1, s2⟩ := revL_step arcs u j HSR.out (by rw [← HLEN.out]; exact hjl)
                  obtain ⟨x, hx⟩ : ∃ x, x = (arcs.getD u []).getD j 0 := ⟨_, rfl⟩
                  rw [← hx] at hcj hxk s1 s2
                  obtain ⟨hcx, ao, co, hvx, hown⟩ := hM.listAt hL hxk
                  rw [hvx] at hcx
                  have hm := revL_len arcs u j x
                  rw [← hrev x hxk] at hm s1
                  have hsz := hM.size
                  have HP : Hid (∀ (w2 : World) (X : Obj) (g kk cap : Nat) (xs : List Value), (wr.alloc X).grownBy w2 (Value.slice ao (L.getD x []).length co).ownBlock → w2.ownsRow w1.heap.size 3 1 (.slice (some ⟨g, 0, none⟩) kk cap) kk xs → xs = ints (nz (L.getD x [] ++ [u])) → kk = (L.getD x []).length + 1 → ((Value.slice ao (L.getD x []).length co).ownBlock = some g ∨ g = wr.heap.size + 1) →
                      w2.cell? ⟨w1.heap.size, x, none⟩ = some (.slice ao (L.getD x []).length co) ∧ w2.frozen? ⟨w1.heap.size, x, none⟩ = false ∧ Hid (∃ (R' : Nat → Rw) (L' : List (List Nat)), LMid w1 (w2.setCell ⟨w1.heap.size, x, none⟩ (.slice (some ⟨g, 0, none⟩) kk cap)) w1.heap.size k k (L'.map nz) R' ∧ L'.length = k ∧ ∀ y, y < k → L'.getD y [] = revL arcs u (j + 1) y)) := by
                    intro w2 X g kk cap xs h1 h2 h3 h4 h5
                    obtain ⟨q1, q2, R', q3⟩ := hM.push rfl hL hxk (X := X) (by rw [hvx]; exact h1) h2 h3 h4 (by rw [hvx]; exact h5)
                    rw [hvx] at q1
                    refine ⟨q1, q2, R', _, q3, by rw [List.length_set]; exact hL, fun y hy => ?_⟩
                    by_cases e : y = x
                    · rw [e, getD_set_self _ _ _ _ (by omega), s1]
                    · rw [getD_set_ne _ _ _ _ _ (Ne.symm e), s2 y e]; exact hrev y hy
                  obtain ⟨i0, hi, hz0, hz1, hz2⟩ := info_parts info3
                  have hHB : w1.heap.size ≤ wr.heap.size := by omega
                  clear s1 s2 hM hL hrev hvx hx hsz
                  generalize L.getD x [] = lx at *
                  go_wp2_with (at_builtin; refine wpList_append_lies _ rfl _ _ 23 rfl w1.heap.size 3 i0 (.int .i64 0) 1 8 Try.underlying23 hi hz0 hz1 hz2 rfl (by decide) (.slice ao lx.length co) lx.length (ints (nz lx)) rfl (World.ownsRow.alloc hown _) ⟨wr.heap.size, 0, none⟩ 1 1 [.int .i64 (u : Int)] rfl rfl (cell_one_new _ _ _) (by intro u hu; simp at hu; subst hu; rfl) (by decide) (by unfold maxLen; omega) (by omega) (by simp; omega) (wr.heap.size + 1) (by simp) ?_; intro g2 cap2 w3 hown' hgrow hat hlt2; obtain ⟨q1, q2, q3⟩ := HP.out w3 _ _ _ _ _ hgrow hown' (by rw [nz_append, ints_append]; rfl) rfl hat; clear hown' hgrow hat hown hi hz0 hz1 hz2 HP hcx hcj htop)
                  go_roundw
                  case rel =>
                    obtain ⟨R', L', q4⟩ := q3.out
                    exact ⟨j + 1, R', L', by omega, by go_num, q4⟩
                  case measure => simp [intOf]; omega
                · have HM : Hid (LMid w1 wr w1.heap.size k k (L.map nz) R ∧ L.length = k ∧ ∀ y, y < k → L.getD y [] = revL arcs (u + 1) 0 y) :=
                    ⟨hM, hL, fun y hy => by rw [revL_next arcs u j y (by rw [← HLEN.out]; omega)]; exact hrev y hy⟩
                  clear hM hL hrev
                  go_wp2
                  go_roundw
                  case rel => exact ⟨u + 1, R, L, by omega, by go_num, HM⟩
                  case measure => simp [intOf]; omega
            · have huk : u = k := by omega
              subst huk
              go_wp2
              go_ret
              exact ⟨_, w1, R, L, rfl, rfl, HB1, HM.out.1, HM.out.2.1, HM.out.2.2⟩
end Go.Proofs.Qxb6601175a
