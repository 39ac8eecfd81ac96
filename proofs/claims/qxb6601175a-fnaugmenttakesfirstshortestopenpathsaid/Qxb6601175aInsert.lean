/-
  slices.Insert of one element ON A ROW OF THE CALL's OWN, out of the library's four contracts.
-/
import Derived.Test.Qxb6601175aOps
namespace Go.Proofs.Qxb6601175a
open Go.RowKit

theorem ints_one (l : List Nat) : ∀ v ∈ ints (nz l), v.oneCell' = true := by
  intro v hv
  simp only [ints, nz, List.map_map, List.mem_map] at hv
  obtain ⟨a, _, rfl⟩ := hv
  rfl
theorem ints_ins (l : List Nat) (i x : Nat) : ints (nz (l.take i ++ x :: l.drop i)) = (ints (nz l)).take i ++ [.int .i64 (x : Int)] ++ (ints (nz l)).drop i := by
  simp [ints, nz, List.map_take, List.map_drop]
theorem len_ins (l : List Nat) (i x : Nat) : (ints (nz (l.take i ++ x :: l.drop i))).length = l.length + 1 := by
  rw [ints_length, nz_length, List.length_append, List.length_cons, List.length_take, List.length_drop]; omega
theorem size_zeros (k : Nat) : (Builtin.zeroCells (Value.int .i64 0).cells k).size = k := by
  rw [size_zeroCells]; simp [Value.cells]

theorem insert_own {w : World} {B : Nat} {l : List Nat} {v : Value} (h : Own1 w B ⟨3, v, ints (nz l)⟩) (hl : l.length ≤ 4194304) (i x : Nat) (hi : i ≤ l.length) (vb : Nat) (hvb : w.heap[vb]? = some (.cells #[.int .i64 (x : Int)] 3 (0, 0))) (hne : v.ownBlock ≠ some vb) (hB : B ≤ w.heap.size) :
    Calls Try.prog 51 #[v, .int .i64 (i : Int), .slice (some ⟨vb, 0, none⟩) 1 1] w fun e w' => ∃ v', e = .returned v' ∧ Own1 w' B ⟨3, v', ints (nz (l.take i ++ x :: l.drop i))⟩ ∧ w.grownBy w' v.ownBlock ∧
      (v'.ownBlock = v.ownBlock ∨ ∃ g, v'.ownBlock = some g ∧ w.heap.size ≤ g) := by
  have hvs : ∀ j u, [Value.int .i64 (x : Int)][j]? = some u → w.cell? ⟨vb, 0 + j, none⟩ = some u := by
    intro j u hu
    rw [Nat.zero_add, cell_of_row w vb j _ 3 (0, 0) hvb]
    simpa using hu
  have h1v : ∀ u ∈ [Value.int .i64 (x : Int)], u.oneCell' = true := by intro u hu; simp at hu; subst hu; rfl
  -- a new row at the end
  have grown : ∀ (c : Nat) (cur : Array Value) (w' : World), cur = (ints (nz (l ++ [x]))).toArray ++ Builtin.zeroCells (Value.int .i64 0).cells (grownCap w (l.length + 1) c 3 - (l.length + 1)) → w' = w.drew.alloc (.cells cur 3) →
      Own1 w' B ⟨3, .slice (some ⟨w.heap.size, 0, none⟩) (l.length + 1) (grownCap w (l.length + 1) c 3), ints (nz (l ++ [x]))⟩ := by
    intro c cur w' hcur hw'
    have hlen : (ints (nz (l ++ [x]))).length = l.length + 1 := by rw [ints_length, nz_length]; simp
    have hge := grownCap_ge w (l.length + 1) c 3
    have hle := grownCap_le_maxLen w (l.length + 1) c 3 (by unfold maxLen; omega)
    have := Own1.mk (w := w') (B := B) (e := 3) (b := w.heap.size) (cap := grownCap w (l.length + 1) c 3) (cur := cur) (xs := ints (nz (l ++ [x]))) hB (by subst hw'; exact heap_alloc_new w.drew _) (by rw [hlen]; exact hge) hle
      (by rw [hcur, Array.size_append, List.size_toArray, hlen, size_zeros]; omega)
      (by rw [hcur]; simp)
    rwa [hlen] at this
  rcases h.form with ⟨h1, h2⟩ | ⟨b, cap, cur, h1, hBb, hbs, h4, h5, h6, h7, h8⟩
  · dsimp only at h1 h2
    subst h1
    have hz : l = [] := by
      have := congrArg List.length h2
      rw [ints_length, nz_length] at this
      exact List.length_eq_zero_iff.1 this
    subst hz
    have hi0 : i = 0 := by simpa using hi
    subst hi0
    refine (Any2.slices_Insert_int_end_grow Try.lays2n21 none 0 0 vb 0 1 1 [] [.int .i64 (x : Int)] w (by omega) (by omega) (by omega) (by omega) rfl rfl (fun _ => rfl) (fun a ha => by cases ha) hvs h1v).mono ?_
    rintro e w' ⟨rfl, rfl⟩
    refine ⟨_, rfl, grown 0 _ _ rfl rfl, ?_, .inr ⟨w.heap.size, rfl, Nat.le_refl _⟩⟩
    exact grown_none (grown_trans (grown_heap (w := w) (w' := w.drew) rfl rfl rfl rfl none) (World.grownBy_alloc w.drew _ none))
  · dsimp only at h1
    rw [ints_length, nz_length] at h1
    subst h1
    dsimp only at h5 h8
    rw [ints_length, nz_length] at h5 h8
    have hbvb : vb ≠ b := fun e => hne (by rw [e]; rfl)
    have hcs : ∀ j u, (ints (nz l))[j]? = some u → w.cell? ⟨b, 0 + j, none⟩ = some u := by
      intro j u hu
      obtain ⟨hj, e⟩ := List.getElem?_eq_some_iff.1 hu
      rw [Nat.zero_add, h.cell j hj, e]
    have hcl : (ints (nz l)).length = l.length := by rw [ints_length, nz_length]
    by_cases hroom : l.length + 1 ≤ cap
    · by_cases hin : i < l.length
      · refine (Any2.slices_Insert_int_shift Try.lays2n21 b 0 l.length cap i vb 0 1 1 (ints (nz l)) [.int .i64 (x : Int)] w hin (by omega) hroom (by unfold maxLen at h6; omega) hbvb hcl rfl hcs
          (fun j hj => by rw [Nat.zero_add]; exact h.spare j (by omega)) (fun j _ => by rw [Nat.zero_add]; exact h.frozen j) hvs (ints_one l) h1v 3 3 1 cap (by simp [World.shape?, hvb]) (by simp [World.shape?, h4, h7]) (by omega) (by simp [World.frozen?, hvb]) (by simp [World.frozen?, hvb])).mono ?_
        rintro e w' ⟨rfl, rfl⟩
        refine ⟨_, rfl, ?_, grown_trans (grown_trans (grown_heap (w := w) (w' := w.drew) rfl rfl rfl rfl _) (grown_setCells b _ _ _)) (grown_setCells b _ _ _), .inl rfl⟩
        have hx1 := heap_setCells b 3 (0, 0) ((ints (nz l)).drop i) (0 + (i + 1)) w.drew cur h4
        have hx2 := heap_setCells b 3 (0, 0) [.int .i64 (x : Int)] (0 + i) _ _ hx1
        have hl1 : (0 + (i + 1)) + ((ints (nz l)).drop i).length ≤ cur.size := by rw [List.length_drop, hcl, h7]; omega
        have := Own1.mk (B := B) (xs := ints (nz (l.take i ++ x :: l.drop i))) hBb hx2 (by rw [len_ins]; exact hroom) h6 (by rw [arrSet_size, arrSet_size]; exact h7) (by
          rw [arrSet_list _ _ _ (by rw [arrSet_size]; simp; omega), arrSet_list _ _ _ hl1, len_ins]
          have e1 : cur.toList.take (0 + (i + 1)) = (ints (nz l)).take (i + 1) := by
            rw [← h8, List.take_take]; congr 1; omega
          rw [e1, Nat.zero_add, ints_ins]
          have e2 : ((ints (nz l)).take (i + 1) ++ (ints (nz l)).drop i ++ cur.toList.drop (0 + (i + 1) + ((ints (nz l)).drop i).length)).take i = (ints (nz l)).take i := by
            rw [List.append_assoc, List.take_append_of_le_length (by rw [List.length_take, hcl]; omega), List.take_take]; congr 1; omega
          have e3 : ((ints (nz l)).take (i + 1) ++ (ints (nz l)).drop i ++ cur.toList.drop (0 + (i + 1) + ((ints (nz l)).drop i).length)).drop (i + [Value.int .i64 (x : Int)].length) = (ints (nz l)).drop i ++ cur.toList.drop (0 + (i + 1) + ((ints (nz l)).drop i).length) := by
            rw [List.append_assoc]
            exact List.drop_left' (by rw [List.length_take, hcl]; simp; omega)
          rw [e2, e3, ← List.append_assoc]
          apply List.take_left'
          simp [hcl]
          omega)
        rw [len_ins] at this
        exact this
      · have hii : i = l.length := by omega
        subst hii
        refine (Any2.slices_Insert_int_end_room Try.lays2n21 b 0 l.length cap vb 0 1 1 [.int .i64 (x : Int)] w (by omega) hroom (by unfold maxLen at h6; omega) rfl (fun j hj => by rw [Nat.zero_add]; exact h.spare _ (by omega)) (fun j _ => by rw [Nat.zero_add]; exact h.frozen _) hvs h1v).mono ?_
        rintro e w' ⟨rfl, rfl⟩
        refine ⟨_, rfl, ?_, grown_setCells b _ _ _, .inl rfl⟩
        have hh : Own1 w B ⟨3, .slice (some ⟨b, 0, none⟩) l.length cap, ints (nz l)⟩ := h
        have := hh.write w rfl (0 + l.length) [.int .i64 (x : Int)] (ints (nz (l.take l.length ++ x :: l.drop l.length))) (by rw [hcl]; omega) (by simp; omega) (by rw [len_ins]; exact hroom) (by
          rw [len_ins, Nat.zero_add, ints_ins, List.take_of_length_le (l := ints (nz l)) (by rw [hcl]; exact Nat.le_refl _), List.drop_of_length_le (by rw [hcl]; exact Nat.le_refl _), List.append_nil]
          exact List.take_of_length_le (by simp [hcl]))
        rw [len_ins] at this
        exact this
    · by_cases hin : i < l.length
      · refine (Any2.slices_Insert_int_grow Try.lays2n21 b 0 l.length cap i vb 0 1 1 (ints (nz l)) [.int .i64 (x : Int)] w hin (by omega) h5 (by omega) (by omega) hcl rfl hcs hvs (ints_one l) h1v).mono ?_
        rintro e w' ⟨rfl, rfl⟩
        have hge := grownCap_ge w (l.length + 1) cap 3
        have hle := grownCap_le_maxLen w (l.length + 1) cap 3 (by unfold maxLen; omega)
        generalize hC : ((ints (nz l)).take i).toArray ++ Builtin.zeroCells (Value.int .i64 0).cells (l.length + 1 - i) ++ Builtin.zeroCells (Value.int .i64 0).cells (grownCap w (l.length + 1) cap (Try.lays2n21_ren.t 3) - (l.length + 1)) = C
        have hg3 : grownCap w (l.length + 1) cap (Try.lays2n21_ren.t 3) = grownCap w (l.length + 1) cap 3 := rfl
        have hCs : C.size = grownCap w (l.length + 1) cap 3 := by
          rw [← hC, Array.size_append, Array.size_append, List.size_toArray, size_zeros, size_zeros, List.length_take, hcl, hg3]; omega
        have hCt : C.toList.take i = (ints (nz l)).take i := by
          rw [← hC]
          simp only [Array.toList_append, List.append_assoc]
          exact List.take_left' (by rw [List.length_take, hcl]; omega)
        have hx0 : (w.alloc (.cells C 3)).drew.heap[w.heap.size]? = some (.cells C 3 (0, 0)) := heap_alloc_new w _
        have hx1 := heap_setCells w.heap.size 3 (0, 0) [.int .i64 (x : Int)] i _ _ hx0
        have hx2 := heap_setCells w.heap.size 3 (0, 0) ((ints (nz l)).drop i) (i + 1) (((w.alloc (.cells C 3)).drew.setCells w.heap.size i [.int .i64 (x : Int)]).drew) _ hx1
        refine ⟨_, rfl, ?_, ?_, .inr ⟨w.heap.size, rfl, Nat.le_refl _⟩⟩
        · have := Own1.mk (B := B) (xs := ints (nz (l.take i ++ x :: l.drop i))) hB hx2 (by rw [len_ins]; exact hge) hle (by rw [arrSet_size, arrSet_size]; exact hCs) (by
            rw [arrSet_list _ _ _ (by rw [arrSet_size, List.length_drop, hcl, hCs]; omega), arrSet_list _ _ _ (by rw [hCs]; simp; omega), len_ins, hCt, ints_ins]
            have e1 : ((ints (nz l)).take i ++ [Value.int .i64 (x : Int)] ++ C.toList.drop (i + [Value.int .i64 (x : Int)].length)).take (i + 1) = (ints (nz l)).take i ++ [.int .i64 (x : Int)] :=
              List.take_left' (by rw [List.length_append, List.length_take, hcl]; simp; omega)
            rw [e1]
            apply List.take_left'
            simp [hcl]
            omega)
          rw [len_ins] at this
          exact this
        · refine ⟨?_, ?_, ?_, ?_, fun k hk _ => ?_⟩
          · exact (grown_setCells w.heap.size _ _ _).os.trans ((grown_setCells w.heap.size _ _ _).os)
          · exact (grown_setCells w.heap.size _ _ _).tape.trans ((grown_setCells w.heap.size _ _ _).tape)
          · exact (grown_setCells w.heap.size _ _ _).output.trans ((grown_setCells w.heap.size _ _ _).output)
          · have s1 := (grown_setCells w.heap.size [.int .i64 (x : Int)] i (w.alloc (.cells C 3)).drew).size
            have s2 := (grown_setCells w.heap.size ((ints (nz l)).drop i) (i + 1) (((w.alloc (.cells C 3)).drew.setCells w.heap.size i [.int .i64 (x : Int)]).drew)).size
            have s3 : (w.alloc (.cells C 3)).drew.heap.size = w.heap.size + 1 := by show (w.alloc (.cells C 3)).heap.size = _; simp
            show w.heap.size ≤ ((((w.alloc (.cells C 3)).drew.setCells w.heap.size i [.int .i64 (x : Int)]).drew).setCells w.heap.size (i + 1) ((ints (nz l)).drop i)).heap.size
            have s4 : (((w.alloc (.cells C 3)).drew.setCells w.heap.size i [.int .i64 (x : Int)]).drew).heap.size = ((w.alloc (.cells C 3)).drew.setCells w.heap.size i [.int .i64 (x : Int)]).heap.size := rfl
            omega
          · have s1 := (grown_setCells w.heap.size [.int .i64 (x : Int)] i (w.alloc (.cells C 3)).drew).size
            have s3 : (w.alloc (.cells C 3)).drew.heap.size = w.heap.size + 1 := by show (w.alloc (.cells C 3)).heap.size = _; simp
            rw [(grown_setCells w.heap.size _ _ _).block k (by show k < ((w.alloc (.cells C 3)).drew.setCells w.heap.size i [.int .i64 (x : Int)]).heap.size; omega) (by simp; omega)]
            show ((w.alloc (.cells C 3)).drew.setCells w.heap.size i [.int .i64 (x : Int)]).heap[k]? = _
            rw [(grown_setCells w.heap.size _ _ _).block k (by omega) (by simp; omega)]
            exact Below.heap_alloc w _ k hk
      · have hii : i = l.length := by omega
        subst hii
        refine (Any2.slices_Insert_int_end_grow Try.lays2n21 (some ⟨b, 0, none⟩) l.length cap vb 0 1 1 (ints (nz l)) [.int .i64 (x : Int)] w (by omega) h5 (by omega) (by omega) hcl rfl (fun hh => by cases hh) (fun a ha j u hu => by
          cases ha
          have hadd : (⟨b, 0, none⟩ : Addr).add j = ⟨b, j, none⟩ := by unfold Addr.add; split <;> simp_all
          rw [hadd]
          have := hcs j u hu
          rwa [Nat.zero_add] at this) hvs h1v).mono ?_
        rintro e w' ⟨rfl, rfl⟩
        have el : l.take l.length ++ x :: l.drop l.length = l ++ [x] := by simp
        rw [el]
        refine ⟨_, rfl, grown cap _ _ (by rw [nz_append, ints_append]; rfl) rfl, ?_, .inr ⟨w.heap.size, rfl, Nat.le_refl _⟩⟩
        exact grown_none (grown_trans (grown_heap (w := w) (w' := w.drew) rfl rfl rfl rfl none) (World.grownBy_alloc w.drew _ none))
end Go.Proofs.Qxb6601175a
