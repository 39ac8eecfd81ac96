/-
  THE WALK of zzBfs.
-/
import Derived.Test.Qxb6601175aWalk
namespace Go.Proofs.Qxb6601175a
open Go.RowKit

/-- the arcs as they are read: u's list lies at 'vs u' -/
structure Adj (w : World) (b off : Nat) (n : Nat) (arcs : List (List Nat)) (vs : Nat → Value) : Prop where
  top : ∀ u, u < n → w.cell? ⟨b, off + u, none⟩ = some (vs u)
  row : ∀ u, u < n → ∃ al cl, vs u = .slice al (arcs.getD u []).length cl ∧ ∀ j, j < (arcs.getD u []).length → ∃ bl ol, al = some ⟨bl, ol, none⟩ ∧ w.cell? ⟨bl, ol + j, none⟩ = some (.int .i64 (((arcs.getD u []).getD j 0 : Nat) : Int))

/-- the two arrays of zzBfs -/
structure Two (n : Nat) (cd cq : Array Value) (d : List Int) (O : List Nat) : Prop where
  dc : cd.toList = ints d
  qs : cq.size = n
  qc : ∀ p, p < O.length → cq[p]? = some (.int .i64 ((O.getD p 0 : Nat) : Int))

theorem Two.getD {n : Nat} {cd cq : Array Value} {d : List Int} {O : List Nat} (h : Two n cd cq d O) (k : Nat) (hk : k < d.length) : cd[k]? = some (.int .i64 (d.getD k (-1))) := by
  have e : cd[k]? = cd.toList[k]? := by simp
  rw [e, h.dc, List.getElem?_eq_getElem (by rw [ints_length]; exact hk), ints_getD d k (-1) hk]
theorem Two.setD {n : Nat} {cd cq : Array Value} {d : List Int} {O : List Nat} (h : Two n cd cq d O) (k : Nat) (x : Int) : Two n (cd.setIfInBounds k (.int .i64 x)) cq (d.set k x) O :=
  ⟨by rw [Array.toList_setIfInBounds, h.dc, ints_set], h.qs, h.qc⟩
theorem Two.push {n : Nat} {cd cq : Array Value} {d : List Int} {O : List Nat} (h : Two n cd cq d O) (x : Nat) (hl : O.length < n) : Two n cd (cq.setIfInBounds O.length (.int .i64 (x : Int))) d (O ++ [x]) := by
  refine ⟨h.dc, by simpa using h.qs, fun p hp => ?_⟩
  by_cases e : p = O.length
  · subst e
    rw [Array.getElem?_setIfInBounds_self_of_lt (by rw [h.qs]; exact hl), getD_append_len]
  · rw [Array.getElem?_setIfInBounds_ne (Ne.symm e)]
    have hp' : p < O.length := by simp at hp; omega
    rw [getD_append_left _ _ _ _ hp']
    exact h.qc p hp'

set_option maxHeartbeats 2000000 in
set_option maxRecDepth 100000 in
theorem zbfs_any (w : World) (b off c n : Nat) (arcs : List (List Nat)) (vs : Nat → Value) (src : Nat) (hn : n ≤ 1048576) (hsrc : src < n) (hal : ∀ u, u < n → (arcs.getD u []).length ≤ 2097152 ∧ ∀ x ∈ arcs.getD u [], x < n)
    (hA : Adj w b off n arcs vs) :
    Calls Try.prog 29 #[.slice (some ⟨b, off, none⟩) n c, .int .i64 (src : Int)] w fun e w' => ∃ cd cq d via O T, e = .returned (.slice (some ⟨w.heap.size, 0, none⟩) n n) ∧ w' = (w.alloc (.cells cd 3)).alloc (.cells cq 3) ∧ Two n cd cq d O ∧
      Bfs n (fun u => arcs.getD u []) src (fun _ => 0) O.length 0 d via O T := by
  have hmk := run_make_row' (P := Try.prog) 23 3 (.int .i64 0) 8 Try.underlying23 info3 rfl .i64 .i64 n (by omega) (by omega)
  have HA : Hid _ := hA
  have HL : Hid _ := hal
  clear hA hal
  go_enter Try.func29, Try.ntmps29
  go_wp2
  go_loopw [7] (fun i wr => ∃ (k : Nat) (cd : Array Value), k ≤ n ∧ i = .int .i64 k ∧ wr = w.alloc (.cells cd 3) ∧ Hid (cd.size = n ∧ ∀ j, j < k → cd[j]? = some (.int .i64 (-1)))) (fun i _ => n - (intOf i).toNat)
  case atStart => exact ⟨0, _, Nat.zero_le _, rfl, rfl, ⟨size_madeCells _ _, fun j h => absurd h (Nat.not_lt_zero _)⟩⟩
  case round =>
    obtain ⟨k, cd, hk, rfl, rfl, HK⟩ := hrel
    by_cases hlt : k < n
    · obtain ⟨vo, hvo⟩ : ∃ vo, cd[k]? = some vo := ⟨_, Array.getElem?_eq_getElem (by have := HK.out.1; omega)⟩
      clear hmk
      go_wp2
      go_roundw
      case rel =>
        obtain ⟨h1, h2⟩ := HK.out
        refine ⟨k + 1, _, by omega, by go_num, rfl, by simpa using h1, fun j hjk => ?_⟩
        by_cases e : j = k
        · subst e
          rw [Array.getElem?_setIfInBounds_self_of_lt (by omega)]
        · rw [Array.getElem?_setIfInBounds_ne (by omega)]
          exact h2 j (by omega)
      case measure => simp [intOf]; omega
    · obtain ⟨d, hd⟩ : ∃ d : List Int, d = List.replicate n (-1) := ⟨_, rfl⟩
      have hdl : d.length = n := by rw [hd]; simp
      have hdv : ∀ v, v < n → d.getD v (-1) = -1 := fun v hv => by rw [hd, List.getD_eq_getElem?_getD, List.getElem?_replicate, if_pos hv]; rfl
      have hT : Two n cd (madeCells #[.int .i64 0] n) d [] := by
        refine ⟨?_, size_madeCells _ _, fun p hp => by simp at hp⟩
        obtain ⟨h1, h2⟩ := HK.out
        apply List.ext_getElem
        · rw [ints_length, Array.length_toList, h1, hdl]
        · intro j h3 h4
          rw [ints_length] at h4
          have := h2 j (by omega)
          have h5 := (Array.getElem?_eq_some_iff.1 this).2
          rw [Array.getElem_toList, h5, ints_getD d j (-1) h4, hdv j (by omega)]
      have hT2 := (hT.setD src 0).push src (by simp; omega)
      obtain ⟨vo, hvo⟩ : ∃ vo, cd[src]? = some vo := ⟨_, Array.getElem?_eq_getElem (by have := HK.out.1; omega)⟩
      obtain ⟨vq, hvq⟩ : ∃ vq, (madeCells #[Value.int .i64 0] n)[0]? = some vq := ⟨_, Array.getElem?_eq_getElem (by rw [size_madeCells]; omega)⟩
      have hbfs := Bfs.start (A := fun u => arcs.getD u []) (via := List.replicate n 0) hsrc hdl (by simp) hdv
      have hz0 : (fun v => (List.replicate n 0).getD v 0) = fun _ => 0 := by
        funext v
        rw [List.getD_eq_getElem?_getD, List.getElem?_replicate]
        split <;> rfl
      rw [hz0] at hbfs
      have HT : Hid (Two n (cd.setIfInBounds src (.int .i64 0)) ((madeCells #[.int .i64 0] n).setIfInBounds 0 (.int .i64 (src : Int))) (d.set src 0) [src]) := hT2
      have HF : Hid _ := hbfs
      clear HK hd hdl hdv hT hT2 hbfs hz0
      go_wp2_with fail
      go_loopw [9, 10] (fun h t wr => Hid (∃ (i : Nat) (cd cq : Array Value) (d : List Int) (via O : List Nat) (T : Nat → Nat × Nat), h = .int .i64 i ∧ t = .int .i64 (O.length : Int) ∧ wr = (w.alloc (.cells cd 3)).alloc (.cells cq 3) ∧ Two n cd cq d O ∧ Bfs n (fun u => arcs.getD u []) src (fun _ => 0) i 0 d via O T)) (fun h _ _ => n - (intOf h).toNat)
      case atStart => exact ⟨0, _, _, _, _, [src], _, rfl, rfl, rfl, HT, HF⟩
      case round =>
        clear HT HF hvo hvq
        obtain ⟨i, cd, cq, d, via, O, T, rfl, rfl, hwr, hT, hF⟩ := hrel.out
        subst hwr
        clear hrel
        have hOn := hF.olen
        have hile := hF.ile
        by_cases hlt : i < O.length
        · have hqc := hT.qc i hlt
          obtain ⟨u, hu⟩ : ∃ u, u = O.getD i 0 := ⟨_, rfl⟩
          rw [← hu] at hqc
          have hun : u < n := by rw [hu]; exact hF.rng i hlt
          have htop := HA.out.top u hun
          obtain ⟨al, cl, hv, hrow⟩ := HA.out.row u hun
          rw [hv] at htop
          have hbl : b < w.heap.size := World.block_lt_of_cell? w _ htop
          have hal := (HL.out u hun).1
          have HR : Hid _ := hrow
          have HT : Hid (Two n cd cq d O) := hT
          have HF : Hid (Bfs n (fun u => arcs.getD u []) src (fun _ => 0) i 0 d via O T) := hF
          have HU : Hid (u = O.getD i 0) := hu
          clear hT hF hu hrow hv
          generalize hlen : (arcs.getD u []).length = len at *
          have HLEN : Hid ((arcs.getD u []).length = len) := hlen
          clear hlen
          go_wp2_with fail
          go_loopw [10, 12] (fun t c wx => Hid (∃ (j : Nat) (cd cq : Array Value) (d : List Int) (via O : List Nat) (T : Nat → Nat × Nat), t = .int .i64 (O.length : Int) ∧ c = .int .i64 j ∧ j ≤ len ∧ wx = (w.alloc (.cells cd 3)).alloc (.cells cq 3) ∧ Two n cd cq d O ∧ Bfs n (fun u => arcs.getD u []) src (fun _ => 0) i j d via O T ∧ u = O.getD i 0 ∧ i < O.length)) (fun _ c _ => len - (intOf c).toNat)
          case atStart => exact ⟨0, _, _, _, _, O, T, rfl, rfl, Nat.zero_le _, rfl, HT, HF, HU, hlt⟩
          case round =>
            clear HT HF HU hqc hOn hile hlt
            obtain ⟨j, cd, cq, d, via, O, T, rfl, rfl, hj, hwr, hT, hF, hu, hiO⟩ := hrel.out
            subst hwr
            clear hrel
            have hOn := hF.olen
            by_cases hjl : j < len
            · obtain ⟨bl, ol, hbl2, hcj⟩ := HR.out j hjl
              subst hbl2
              have hbll : bl < w.heap.size := World.block_lt_of_cell? w _ hcj
              obtain ⟨k, hk⟩ : ∃ k, k = (arcs.getD u []).getD j 0 := ⟨_, rfl⟩
              rw [← hk] at hcj
              have hkm : k ∈ arcs.getD u [] := by rw [hk]; exact getD_mem (by rw [HLEN.out]; exact hjl)
              have hkn : k < n := (HL.out u hun).2 k hkm
              have hkA : (arcs.getD (O.getD i 0) [])[j]? = some k := by
                rw [← hu, hk, List.getD_eq_getElem?_getD (i := j), List.getElem?_eq_getElem (by rw [HLEN.out]; exact hjl)]; rfl
              have hd1 := hT.getD k (by rw [hF.dlen]; exact hkn)
              obtain ⟨x, hx⟩ : ∃ x, x = d.getD k (-1) := ⟨_, rfl⟩
              rw [← hx] at hd1
              by_cases hkO : k ∈ O
              · have hx0 : 0 ≤ x := by rw [hx]; exact (hF.inO k hkn).2 hkO
                have HQ : Hid (Two n cd cq d O ∧ Bfs n (fun u => arcs.getD u []) src (fun _ => 0) i (j + 1) d via O T ∧ u = O.getD i 0) := ⟨hT, hF.skip hiO hkA hkO, hu⟩
                clear hT hF hu hk hkm hkA hx hkO
                go_wp2
                go_roundw
                case rel => exact ⟨j + 1, cd, cq, d, via, O, T, rfl, by go_num, by omega, rfl, HQ.out.1, HQ.out.2.1, HQ.out.2.2, hiO⟩
                case measure => simp [intOf]; omega
              · have hx0 : x < 0 := by rw [hx, hF.neg k hkn hkO]; decide
                obtain ⟨hy0, hyp⟩ := hF.dle i hiO
                have hi' := hF.ile
                have hdu := hT.getD u (by rw [hF.dlen]; exact hun)
                obtain ⟨y, hy⟩ : ∃ y, y = d.getD u (-1) := ⟨_, rfl⟩
                rw [← hy] at hdu
                rw [← hu, ← hy] at hy0 hyp
                have hfd := hF.find hiO hkn hkA hkO
                rw [← hu, ← hy] at hfd
                have hOl : O.length < n := by have := hfd.olen; simp at this; omega
                have hT2 := (hT.setD k (y + 1)).push k hOl
                obtain ⟨vq, hvq⟩ : ∃ vq, cq[O.length]? = some vq := ⟨_, Array.getElem?_eq_getElem (by rw [hT.qs]; exact hOl)⟩
                have HQ : Hid (Two n (cd.setIfInBounds k (.int .i64 (y + 1))) (cq.setIfInBounds O.length (.int .i64 (k : Int))) (d.set k (y + 1)) (O ++ [k]) ∧ Bfs n (fun u => arcs.getD u []) src (fun _ => 0) i (j + 1) (d.set k (y + 1)) (via.set k u) (O ++ [k]) (fun p => if p = O.length then (i, j) else T p) ∧ u = O.getD i 0) := ⟨hT2, hfd, hu⟩
                clear hT hF hu hk hkm hkA hx hkO hT2 hfd hy
                go_wp2
                go_roundw
                case rel => exact ⟨j + 1, _, _, _, _, O ++ [k], _, by rw [List.length_append]; go_num, by go_num, by omega, rfl, HQ.out.1, HQ.out.2.1, by rw [getD_append_left _ _ _ _ hiO]; exact HQ.out.2.2, by simp; omega⟩
                case measure => simp [intOf]; omega
            · have hnx := hF.next hiO (by rw [← hu, HLEN.out]; omega)
              have HQ : Hid (Two n cd cq d O ∧ Bfs n (fun u => arcs.getD u []) src (fun _ => 0) (i + 1) 0 d via O T) := ⟨hT, hnx⟩
              clear hT hF hu hnx
              go_wp2
              go_roundw
              case rel => exact ⟨i + 1, cd, cq, d, via, O, T, by go_num, rfl, rfl, HQ.out.1, HQ.out.2⟩
              case measure => simp [intOf]; omega
        · have hi : i = O.length := by omega
          subst hi
          have HQ : Hid (Two n cd cq d O ∧ Bfs n (fun u => arcs.getD u []) src (fun _ => 0) O.length 0 d via O T) := ⟨hT, hF⟩
          clear hT hF
          go_wp2
          go_ret
          exact ⟨cd, cq, d, via, O, T, rfl, rfl, HQ.out.1, HQ.out.2⟩
end Go.Proofs.Qxb6601175a
