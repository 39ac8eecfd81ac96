/-
  THE LAW FnAugmentTakesFirstShortestOpenPath, walked.
-/
import Derived.Test.Qxb6601175aFirstRows
import Derived.Test.Qxb6601175aSizesB
import Derived.Test.Qxb6601175aWithS
namespace Go.Proofs.Qxb6601175a
open Go.RowKit

def LawPost2 (w : World) (e : Ending) (w' : World) : Prop := e = .returned (.bool true) ∧ Below w.heap.size w w'

theorem map_nz_toNats {zss : List (List Int)} {arcs : List (List Nat)} (hl : arcs.length = zss.length) (h : ∀ r (h : r < zss.length), zss[r] = nz (arcs.getD r [])) : arcs.map nz = zss := by
  apply List.ext_getElem
  · rw [List.length_map]; exact hl
  · intro i h1 h2
    rw [h i h2, List.getElem_map]
    rw [List.length_map] at h1
    rw [List.getD_eq_getElem?_getD, List.getElem?_eq_getElem h1]
    rfl

theorem map_nz_get {L : List (List Nat)} (r : Nat) (h : r < (L.map nz).length) : (L.map nz)[r] = nz (L.getD r []) := by
  rw [List.getElem_map]
  rw [List.length_map] at h
  rw [List.getD_eq_getElem?_getD, List.getElem?_eq_getElem h]
  rfl

/-- what the plain lists are -/
structure Pl (n : Nat) (zss : List (List Int)) (arcs : List (List Nat)) : Prop where
  zeq : ∀ r (h : r < zss.length), zss[r] = nz (arcs.getD r [])
  len : arcs.length = n
  zl : zss.length = n
  rng : ∀ r, ∀ x ∈ fun0 arcs r, x < n
  srt : ∀ r, (fun0 arcs r).Pairwise (· < ·)
  bnd : ∀ r, (fun0 arcs r).length ≤ 1048576

theorem Pl.sle {n : Nat} {zss : List (List Int)} {arcs : List (List Nat)} (h : Pl n zss arcs) (r : Nat) : (fun0 arcs r).Pairwise (· ≤ ·) := by
  have hp := h.srt r
  rw [List.pairwise_iff_getElem] at hp ⊢
  intro i j hi hj hij
  exact Nat.le_of_lt (hp i j hi hj hij)

theorem pl_of {n : Nat} {zss : List (List Int)} (hn : n = zss.length) (hg : ∀ r, r < zss.length → Good zss.length (zss.getD r []) (zss.getD r []).length) (hL : ∀ r (h : r < zss.length), zss[r].length ≤ 1048576) : Pl n zss (toNats zss) := by
  subst hn
  have hgo : ∀ r, r < zss.length → nz ((toNats zss).getD r []) = zss.getD r [] ∧ (∀ x ∈ (toNats zss).getD r [], x < zss.length) ∧ ((toNats zss).getD r []).Pairwise (· < ·) := by
    intro r hr
    have := good_sorted (hg r hr)
    rw [← toNats_getD] at this
    exact this
  have hzz : ∀ r (h : r < zss.length), zss[r] = nz ((toNats zss).getD r []) := by
    intro r hr
    rw [(hgo r hr).1, List.getD_eq_getElem?_getD, List.getElem?_eq_getElem hr]
    rfl
  have hal0 : (toNats zss).length = zss.length := toNats_length zss
  have hout : ∀ r, zss.length ≤ r → (toNats zss).getD r [] = [] := fun r hr => by
    rw [List.getD_eq_getElem?_getD, List.getElem?_eq_none (by omega)]; rfl
  refine ⟨hzz, hal0, rfl, fun r x hx => ?_, fun r => ?_, fun r => ?_⟩
  · by_cases hr : r < zss.length
    · exact (hgo r hr).2.1 x hx
    · unfold fun0 at hx; rw [hout r (by omega)] at hx; simp at hx
  · by_cases hr : r < zss.length
    · exact (hgo r hr).2.2
    · unfold fun0; rw [hout r (by omega)]; exact List.Pairwise.nil
  · by_cases hr : r < zss.length
    · have h1 := hL r hr
      rw [hzz r hr, nz_length] at h1
      exact h1
    · unfold fun0; rw [hout r (by omega)]; simp

theorem lists_at {W : World} {b0 off0 c : Nat} {zss : List (List Int)} {vs : Nat → Value} {n : Nat} (hn : n = zss.length) (hz : n ≤ 1048576) (hL : ∀ r (h : r < zss.length), zss[r].length ≤ 1048576) (hin : InLists W (.slice (some ⟨b0, off0, none⟩) n c) zss vs) :
    Calls Try.prog 26 #[.slice (some ⟨b0, off0, none⟩) n c] W fun e w' => ∃ R, e = .returned (.slice (some ⟨W.heap.size, 0, none⟩) n n) ∧ LMid W w' W.heap.size n n zss R := by
  subst hn
  obtain ⟨ax, cx, hvx, hcx⟩ := hin.form
  refine lists_some W ⟨b0, off0, none⟩ c zss vs hz hL (fun _ => ⟨b0, off0, rfl, fun r hr => ?_⟩) hin.2
  obtain ⟨b', off', e1, e2⟩ := hcx r hr
  simp only [Value.slice.injEq] at hvx
  obtain ⟨rfl, _, _⟩ := hvx
  simp only [Option.some.injEq, Addr.mk.injEq] at e1
  obtain ⟨rfl, rfl, _⟩ := e1
  exact e2

/-- the turned lists, walked from the end -/
theorem zbfs_rev {w w1 : World} {g n en : Nat} {R : Nat → Rw} {L arcs : List (List Nat)} (hn : n ≤ 1048576) (hen : en < n) (hM : LMid w w1 g n n (L.map nz) R) (hL : L.length = n) (hrev : ∀ y, y < n → L.getD y [] = revL arcs n 0 y) :
    Calls Try.prog 29 #[.slice (some ⟨g, 0, none⟩) n n, .int .i64 (en : Int)] w1 fun e w' => ∃ cd cq d via O T, e = .returned (.slice (some ⟨w1.heap.size, 0, none⟩) n n) ∧ w' = (w1.alloc (.cells cd 3)).alloc (.cells cq 3) ∧ Two n cd cq d O ∧
      Bfs n (fun u => L.getD u []) en (fun _ => 0) O.length 0 d via O T := by
  refine zbfs_any w1 g 0 n n L _ en hn hen (fun u hu => ?_) (adj_in (hM.inL (by rw [List.length_map]; exact hL)) (by rw [List.length_map]; exact hL) (fun r h => map_nz_get r h))
  rw [hrev u hu]
  refine ⟨Nat.le_trans (revL_len0 arcs n u) (by omega), fun x hx => ?_⟩
  unfold revL at hx
  rw [if_neg (by simp), List.append_nil, List.mem_filter, List.mem_range] at hx
  exact hx.1

theorem toEnd_rev {n en : Nat} {L arcs : List (List Nat)} {d : List Int} {via O : List Nat} {T : Nat → Nat × Nat} (hr : ∀ r, ∀ x ∈ fun0 arcs r, x < n) (hL : L.length = n) (hrev : ∀ y, y < n → L.getD y [] = revL arcs n 0 y) (hB : Bfs n (fun u => L.getD u []) en (fun _ => 0) O.length 0 d via O T) : ToEnd n (fun0 arcs) en d := by
  refine toEnd (A' := fun0 L) hB (revL_turned arcs L hrev) hr (fun y x hx => ?_)
  by_cases hy : y < n
  · exact (((revL_turned arcs L hrev) x y hy).1 hx).1
  · unfold fun0 at hx
    rw [List.getD_eq_getElem?_getD, List.getElem?_eq_none (by omega)] at hx
    simp at hx

theorem inInts_at {W : World} {g m cap : Nat} {l : List Nat} (h : InInts W (.slice (some ⟨g, 0, none⟩) m cap) (nz l)) {j : Nat} (hj : j < l.length) : W.cell? ⟨g, j, none⟩ = some (.int .i64 ((l.getD j 0 : Nat) : Int)) := by
  obtain ⟨ao, c, e, hc⟩ := h.cells
  simp only [Value.slice.injEq] at e
  obtain ⟨rfl, _, _⟩ := e
  obtain ⟨b, off, e1, e2⟩ := hc j (by rw [nz_length]; exact hj)
  simp only [Option.some.injEq, Addr.mk.injEq] at e1
  obtain ⟨rfl, rfl, _⟩ := e1
  have := e2 j (by rw [nz_length]; exact hj)
  rw [Nat.zero_add, nz_getD l j 0 hj] at this
  exact this

set_option maxHeartbeats 32000000 in
set_option maxRecDepth 100000 in
theorem firstPath_any (w : World) (v vn : Value) (zss : List (List Int)) (vs : Nat → Value) (zs : List Int) (s t : Int) (hl : zss.length ≤ 9223372036854775807) (hz : zs.length ≤ 9223372036854775807) (hll : ∀ r (h : r < zss.length), zss[r].length ≤ 9223372036854775807)
    (hs64 : -9223372036854775808 ≤ s ∧ s ≤ 9223372036854775807) (ht64 : -9223372036854775808 ≤ t ∧ t ≤ 9223372036854775807) (h : InLists w v zss vs) (hn : InInts w vn zs) :
    Calls Try.prog 4 #[v, vn, .int .i64 s, .int .i64 t] w (LawPost2 w) := by
  have h23 := bytes23 w v vn zss vs zs s t hl hz hll h hn
  have h24 := listsBytes w v vn zss vs zs
  have h25 := domain_any w v zss vs
  have hcn := clone_ints vn zs
  obtain ⟨ao, c, rfl, hc⟩ := h.form
  obtain ⟨an, cn, rfl⟩ := hn.form
  have H23 : Hid _ := h23
  have H24 : Hid _ := h24
  have H25 : Hid _ := h25
  have HCN : Hid _ := hcn
  have HC : Hid _ := hc
  have HI : Hid (InLists w (.slice ao zss.length c) zss vs ∧ InInts w (.slice an zs.length cn) zs) := ⟨h, hn⟩
  clear h23 h24 h25 hcn hc h hn hll
  go_enter Try.func4, Try.ntmps4
  go_wp2_with fail
  refine Calls.mono H23.out ?_
  rintro e w' ⟨ok, rfl, hw, hok⟩
  rw [hw]
  clear hw H23
  cases ok
  · go_wp2
    go_ret
    exact ⟨rfl, Below.refl _ _⟩
  obtain ⟨k1, k2, k3⟩ := hok rfl
  have HL : Hid (∀ r (h : r < zss.length), zss[r].length ≤ 1048576) := k3
  clear hok k3
  go_wp2_with fail
  refine Calls.mono (H24.out k1 k2 HL.out HI.out.1 HI.out.2) ?_
  rintro e w' ⟨r, rfl, hw, hr0, hr1⟩
  rw [hw]
  clear hw H24
  by_cases hr : r ≤ 1048576
  case neg =>
    go_wp2
    go_ret
    exact ⟨rfl, Below.refl _ _⟩
  by_cases hn2 : (zss.length : Int) = 2 * (zs.length : Int)
  case neg =>
    go_wp2
    go_ret
    exact ⟨rfl, Below.refl _ _⟩
  by_cases hs0 : s < 0
  · go_wp2
    go_ret
    exact ⟨rfl, Below.refl _ _⟩
  by_cases hs1 : (zs.length : Int) ≤ s
  · go_wp2
    go_ret
    exact ⟨rfl, Below.refl _ _⟩
  by_cases ht0 : t < 0
  · go_wp2
    go_ret
    exact ⟨rfl, Below.refl _ _⟩
  by_cases ht1 : (zs.length : Int) ≤ t
  · go_wp2
    go_ret
    exact ⟨rfl, Below.refl _ _⟩
  obtain ⟨sn, rfl⟩ : ∃ sn : Nat, s = (sn : Int) := ⟨s.toNat, by omega⟩
  obtain ⟨tn, rfl⟩ : ∃ tn : Nat, t = (tn : Int) := ⟨t.toNat, by omega⟩
  obtain ⟨n, hn⟩ : ∃ n, n = zss.length := ⟨_, rfl⟩
  have HN : Hid (n = zss.length) := hn
  rw [← hn] at hn2 k1
  have hn2' : 2 * (zs.length : Int) = (n : Int) := by omega
  clear hl hz hs64 ht64
  rw [← hn]
  clear hn hn2
  go_wp2_with fail
  rw [HN.out]
  refine Calls.mono (H25.out (by rw [← HN.out]; exact k1) HL.out HI.out.1) ?_
  rintro e w0 ⟨ok, rfl, hsame, hgood⟩
  rw [← HN.out]
  cases ok
  · have HS : Hid _ := hsame
    clear hsame hgood
    go_wp2
    go_ret
    exact ⟨rfl, HS.out.below _⟩
  have HS : Hid (Same w w0) := hsame
  have HPL : Hid (Pl n zss (toNats zss)) := pl_of HN.out (hgood rfl) HL.out
  clear hsame hgood H25
  generalize toNats zss = arcs0 at HPL
  obtain ⟨b0, off0, hao, _⟩ := HC.out 0 (by rw [← HN.out]; omega)
  subst hao
  have hin0 := HI.out.1.whole (HS.out.below _)
  rw [← HN.out] at hin0
  have HLC : Hid _ := lists_at HN.out k1 HL.out hin0
  clear hin0 HC
  go_wp2_with fail
  refine Calls.mono HLC.out ?_
  rintro e w1 ⟨R1, rfl, hM1⟩
  have HM1 : Hid (LMid w0 w1 w0.heap.size n n zss R1) := hM1
  clear hM1 HLC
  have Hb1 : Hid (Below w.heap.size w w1) := (HS.out.below _).trans (ble HM1.out.below (by rw [HS.out.heap]; exact Nat.le_refl _))
  have hcn := HCN.out w1 (HI.out.2.whole Hb1.out) k2
  have HCN1 : Hid _ := hcn
  clear hcn HCN HI
  go_wp2_with fail
  refine Calls.mono HCN1.out ?_
  rintro e w2 ⟨v2, rfl, ho2, hg2⟩
  obtain ⟨b2, c2, hv2, hbn, _⟩ := slice_form ho2 (by rw [ints_length]; omega)
  dsimp only at hv2
  rw [ints_length] at hv2
  subst hv2
  have HIN : Hid (∀ W, Below w2.heap.size w2 W → InLists W (.slice (some ⟨w0.heap.size, 0, none⟩) n n) zss (fun u => (R1 (u + 1)).v) ∧ InInts W (sl b2 zs.length c2) zs) := fun W hW =>
    ⟨((HM1.out.inL HN.out.symm).whole (gbelow hg2 (Nat.le_refl _))).whole hW, ho2.inInts.whole hW⟩
  have Hb2 : Hid (Below w.heap.size w w2) := Hb1.out.trans (gbelow hg2 Hb1.out.size)
  clear ho2 hg2 HCN1 HM1 Hb1 hbn
  generalize w0.heap.size = ga at HIN ⊢
  generalize (fun u => (R1 (u + 1)).v) = va at HIN
  obtain ⟨src, hsrc⟩ : ∃ src, src = 2 * sn := ⟨_, rfl⟩
  obtain ⟨en, hen⟩ : ∃ en, en = 2 * tn := ⟨_, rfl⟩
  have es : 2 * (sn : Int) = (src : Int) := by omega
  have et : 2 * (tn : Int) = (en : Int) := by omega
  have hsn : src < n := by omega
  have htn : en < n := by omega
  clear hsrc hen
  have HLC : Hid _ := lists_at HN.out k1 HL.out (HIN.out w2 (Below.refl _ _)).1
  go_wp2_with fail
  refine Calls.mono HLC.out ?_
  rintro e w3 ⟨R3, rfl, hM3⟩
  have HM3 : Hid (LMid w2 w3 w2.heap.size n n zss R3) := hM3
  clear hM3 HLC
  have HCN : Hid _ := clone_ints (sl b2 zs.length c2) zs w3 (HIN.out w3 HM3.out.below).2 k2
  go_wp2_with fail
  refine Calls.mono HCN.out ?_
  rintro e w4 ⟨v4, rfl, ho4, hg4⟩
  obtain ⟨bn, c4, hv4, hbn, _⟩ := slice_form ho4 (by rw [ints_length]; omega)
  dsimp only at hv4
  rw [ints_length] at hv4
  subst hv4
  have HO4 : Hid (Own1 w4 w3.heap.size ⟨3, sl bn zs.length c4, ints zs⟩ ∧ w3.grownBy w4 none) := ⟨ho4, hg4⟩
  clear ho4 hg4 HCN hbn
  have hmk := run_make_row' (P := Try.prog) 23 3 (.int .i64 0) 8 Try.underlying23 info3 rfl .i64 .i64 n (by omega) (by omega)
  go_wp2_with fail
  go_loopw [13] (fun i wr => Hid (∃ (k : Nat) (cd : Array Value), k ≤ n ∧ i = .int .i64 k ∧ wr = w4.alloc (.cells cd 3) ∧ cd.size = n ∧ ∀ j, j < k → cd[j]? = some (.int .i64 (-1)))) (fun i _ => n - (intOf i).toNat)
  case atStart => exact ⟨0, _, Nat.zero_le _, rfl, rfl, size_madeCells _ _, fun j h => absurd h (Nat.not_lt_zero _)⟩
  case round =>
    obtain ⟨k, cd, hk, rfl, hwr, hcs, hcc⟩ := hrel.out
    subst hwr
    have HK : Hid _ := And.intro hcs hcc
    clear hrel hcc
    by_cases hlt : k < n
    · obtain ⟨vo, hvo⟩ : ∃ vo, cd[k]? = some vo := ⟨_, Array.getElem?_eq_getElem (by omega)⟩
      clear hmk
      go_wp2
      go_roundw
      case rel =>
        obtain ⟨h1, h2⟩ := HK.out
        refine ⟨k + 1, _, by omega, by go_num, rfl, by simpa using h1, fun j hjk => ?_⟩
        by_cases e : j = k
        · subst e
          rw [Array.getElem?_setIfInBounds_self_of_lt (by omega)]
        · rw [Array.getElem?_setIfInBounds_ne (by omega)]
          exact h2 j (by omega)
      case measure => simp [intOf]; omega
    · have hd : cd.toList = ints (List.replicate n (-1)) := by
        obtain ⟨h1, h2⟩ := HK.out
        apply List.ext_getElem
        · rw [ints_length, Array.length_toList, h1, List.length_replicate]
        · intro j h3 h4
          rw [ints_length, List.length_replicate] at h4
          have := h2 j (by omega)
          have h5 := (Array.getElem?_eq_some_iff.1 this).2
          rw [Array.getElem_toList, h5]
          simp [ints]
      have hvz : (madeCells #[Value.int .i64 0] n).toList = ints (nz (List.replicate n 0)) := by
        rw [toList_madeCells_one]
        simp [ints, nz]
      have HD : Hid _ := And.intro hd hvz
      have HGR : Hid _ := graphOf_any
      clear hd hvz HK hcs
      go_wp2_with fail
      clear hmk
      refine Calls.mono (HGR.out _ _ _ _ _ _ _ _ _ _ _ _ _) ?_
      rintro e w7 ⟨rfl, hw7⟩
      have s5 : ((w4.alloc (.cells cd 3)).alloc (.cells (madeCells #[.int .i64 0] n) 3)).heap.size = w4.heap.size + 1 + 1 := by simp
      rw [s5] at hw7 ⊢
      have b23 : Below w2.heap.size w2 w3 := HM3.out.below
      have b24 : Below w2.heap.size w2 w4 := b23.trans (gbelow HO4.out.2 b23.size)
      have b27 : Below w2.heap.size w2 w7 := by
        rw [hw7]
        exact (((b24.alloc b24.size _).alloc (by have := b24.size; simp; omega) _).alloc (by have := b24.size; simp; omega) _).alloc (by have := b24.size; simp; omega) _
      obtain ⟨R7, hG7⟩ := gs_start2 (HM3.out.grown HO4.out.2) HN.out.symm k1 (Nat.le_refl _) (HO4.out.1.mono b23.size) (fun j hj => by
        right
        show some bn ≠ _
        intro e
        have h1 := (HO4.out.1.lt bn rfl).1
        have h2 := ((HM3.out.own.row j hj).lt bn e.symm).2
        omega) HPL.out.zeq HPL.out.len HD.out.1 (by simp) HD.out.2 (by simp)
      rw [← hw7] at hG7
      have HAU : Hid _ := door28 w7 (w4.heap.size + 1 + 1 + 1) (sn : Int) (tn : Int) _ (aug_first w7 w2.heap.size n (w4.heap.size + 1 + 1 + 1) (w4.heap.size + 1 + 1) R7 arcs0 w2.heap.size w4.heap.size (w4.heap.size + 1) bn c4 zs sn tn src en es et k1 hsn htn (by omega) (fun u => ⟨HPL.out.bnd u, HPL.out.rng u⟩) HPL.out.sle hG7)
      have HB27 : Hid (Below w2.heap.size w2 w7) := b27
      clear hw7 s5 b23 b24 b27 hG7 HD HGR HM3 HO4 R7
      generalize w4.heap.size + 1 + 1 + 1 = bg at HAU ⊢
      generalize w4.heap.size + 1 + 1 = bw at HAU
      generalize w4.heap.size + 1 = bv at HAU ⊢
      generalize w4.heap.size = bd at HAU ⊢
      go_wp2_with fail
      refine Calls.mono HAU.out ?_
      rintro e w8 ⟨ok, rfl, hb78, bo, co8, at8, ct8, vs8, d8, via8, O8, T8, arcs8, next8, trail8, hR8⟩
      have HB8 : Hid (Below w2.heap.size w2 w8) := HB27.out.trans hb78
      have HR8 : Hid (Res w8 n bg bw w2.heap.size bd bv bn c4 arcs0 zs src en ok bo co8 at8 ct8 vs8 d8 via8 O8 T8 arcs8 next8 trail8) := hR8
      clear hR8 hb78 HB27 HAU
      have hin8 := (HIN.out w8 HB8.out).1
      have HREV : Hid _ := rev_any w8 ga 0 n n arcs0 va k1 (fun u _ => ⟨HPL.out.bnd u, HPL.out.rng u, HPL.out.srt u⟩) (adj_in hin8 HN.out.symm HPL.out.zeq)
      clear hin8
      go_wp2_with fail
      refine Calls.mono HREV.out ?_
      rintro e w9 ⟨g9, w9a, R9, L9, hg9, rfl, hb9, hM9, hL9, hrev9⟩
      have hb89 : Below w8.heap.size w8 w9 := hb9.trans (ble hM9.below (by rw [← hg9]; have := hb9.size; omega))
      have HZ : Hid _ := zbfs_rev k1 htn hM9 hL9 hrev9
      have HTE : Hid (∀ (d : List Int) (via O : List Nat) (T : Nat → Nat × Nat), Bfs n (fun u => L9.getD u []) en (fun _ => 0) O.length 0 d via O T → ToEnd n (fun0 arcs0) en d) := fun d via O T hB => toEnd_rev HPL.out.rng hL9 hrev9 hB
      have HB89 : Hid _ := hb89
      clear hM9 hL9 hrev9 hb9 hb89 hg9 HREV
      go_wp2_with fail
      refine Calls.mono HZ.out ?_
      rintro e w10 ⟨cdT, cqT, dT, viaT, OT, TT, rfl, hw10, hT10, hB10⟩
      have b910 : Below w9.heap.size w9 w10 := by rw [hw10]; exact ((Below.refl _ _).alloc (Nat.le_refl _) _).alloc (by simp) _
      have HB10 : Hid (Below w8.heap.size w8 w10) := HB89.out.trans (ble b910 HB89.out.size)
      have HTD : Hid (ToEnd n (fun0 arcs0) en dT) := HTE.out _ _ _ _ hB10
      have HCT : Hid (w9.heap.size < w10.heap.size ∧ ∀ W, Below w10.heap.size w10 W → ∀ k, k < n → W.cell? ⟨w9.heap.size, k, none⟩ = some (.int .i64 (dT.getD k (-1)))) := by
        have hsz : w9.heap.size < w10.heap.size := by rw [hw10]; simp; omega
        refine ⟨hsz, fun W hW k hk => ?_⟩
        rw [hW.cell hsz, hw10, World.cell?_alloc_lt _ _ _ (by simp), cell_of_row _ w9.heap.size k cdT 3 (0, 0) (heap_alloc_new w9 _)]
        exact hT10.getD k (by rw [hB10.dlen]; exact hk)
      have hdl : ∀ k, k < n → dT.getD k (-1) ≤ (n : Int) := fun k hk => by
        rcases Bfs.dist (A := fun u => L9.getD u []) hB10 hk with ⟨h1, _⟩ | ⟨q, hq, _, _, _, h6, _, _⟩
        · omega
        · have := hB10.olen; omega
      have HDL : Hid _ := hdl
      clear b910 hw10 hT10 hB10 HTE HZ HB89 hdl
      generalize w9.heap.size = gt at HCT ⊢
      have hcs := HCT.out.2 w10 (Below.refl _ _) src hsn
      have hoi := ok_iff HR8.out.bfs HTD.out htn
      obtain ⟨z0, hz0⟩ : ∃ z0, z0 = dT.getD src (-1) := ⟨_, rfl⟩
      have HZ0 : Hid (z0 = dT.getD src (-1)) := hz0
      rw [← hz0] at hcs hoi
      clear hz0
      have hR10 := HR8.out.below HB10.out
      have HR10 : Hid (Res w10 n bg bw w2.heap.size bd bv bn c4 arcs0 zs src en ok bo co8 at8 ct8 vs8 d8 via8 O8 T8 arcs8 next8 trail8) := hR10
      have HB210 : Hid (Below w2.heap.size w2 w10) := HB8.out.trans (ble HB10.out HB8.out.size)
      have H32 : Hid _ := order32 w10 bg bw _ hR10.f3 hR10.fo
      have HCE : Hid _ := cert_any w10 ga 0 n n arcs0 va bd n bv n bo co8 src d8 via8 O8 T8 k1 hsn (fun u _ => ⟨HPL.out.bnd u, HPL.out.rng u⟩) ⟨adj_in (HIN.out w10 HB210.out).1 HN.out.symm HPL.out.zeq, hR10.cd, hR10.cv, hR10.co⟩ hR10.bfs
      have hends := hR10.ends
      clear hR10 HR8 HB8 HB10
      rcases hends with ⟨e1, e2, e3, e4, e5⟩ | ⟨e1, e2, e3, e4, e5, e6, e7⟩
      · subst e2 e3 e4 e5
        have hz : z0 < 0 := by
          by_cases h : z0 < 0
          · exact h
          · have := hoi.2 (by omega); omega
        clear hoi e1
        go_wp2_with fail
        refine Calls.mono H32.out ?_
        rintro e w' ⟨rfl, hw'⟩
        rw [hw']
        clear hw' H32
        go_wp2_with fail
        refine Calls.mono HCE.out ?_
        rintro e w11 ⟨rfl, hb11⟩
        have hR11 := HR10.out.below hb11
        have HR11 : Hid _ := hR11
        have HB211 : Hid (Below w2.heap.size w2 w11) := HB210.out.trans (ble hb11 HB210.out.size)
        have H33 : Hid _ := arcs33 w11 bg _ hR11.f2
        have H34 : Hid _ := trail34 w11 bg _ hR11.f4
        clear hR11 hb11 HCE HR10 HB210 hcs
        go_wp2_with fail
        refine Calls.mono H33.out ?_
        rintro e w' ⟨rfl, hw'⟩
        rw [hw']
        clear hw' H33
        go_wp2_with fail
        refine Calls.mono H34.out ?_
        rintro e w' ⟨rfl, hw'⟩
        rw [hw']
        clear hw' H34
        have hla := HR11.out.la
        rw [map_nz_toNats (HPL.out.len.trans HPL.out.zl.symm) HPL.out.zeq] at hla
        have H35 : Hid _ := same_lists w11 _ _ zss vs8 va (by rw [← HN.out]; omega) (fun r hr => Nat.le_trans (HL.out r hr) (by omega)) hla (HIN.out w11 HB211.out).1
        have H36 : Hid (∀ W, Same w11 W → Calls Try.prog 36 #[sl bn next8.length c4, sl b2 next8.length c2] W fun e w' => e = .returned (.bool true) ∧ Same W w') := fun W hW => same_ints W _ _ _ (by omega) (HR11.out.nx.whole (hW.below _)) ((HIN.out w11 HB211.out).2.whole (hW.below _))
        clear hla
        go_wp2_with fail
        refine Calls.mono H35.out ?_
        rintro e w12 ⟨rfl, hs12⟩
        have HS12 : Hid _ := hs12
        clear hs12 H35
        go_wp2_with fail
        refine Calls.mono (H36.out w12 HS12.out) ?_
        rintro e w13 ⟨rfl, hs13⟩
        have HS13 : Hid _ := hs13
        clear hs13 H36
        go_wp2
        go_ret
        exact ⟨rfl, Hb2.out.trans (ble (HB211.out.trans ((HS12.out.trans HS13.out).below _)) Hb2.out.size)⟩
      · subst e2
        have hz : 0 ≤ z0 := hoi.1 e1
        clear hoi
        have heO : en ∈ O8 := (HR10.out.bfs.inO en htn).1 e1
        have hall := Run.all _ e3
        obtain ⟨r0, htr⟩ : ∃ r0, trail8 = src :: r0 := by
          cases trail8 with
          | nil => cases e4
          | cons a r => simp at e4; exact ⟨r, by rw [e4]⟩
        have hgr := (greedy_of HR10.out.bfs HTD.out htn heO trail8 src r0 htr e3 e5).2.2
        have HTR : Hid (trail8 = src :: r0 ∧ Greedy (fun0 arcs0) dT (src :: r0)) := ⟨htr, by rw [← htr]; exact hgr⟩
        have htn' : ∀ x ∈ trail8, x < n := fun x hx => HR10.out.bfs.lt_of_mem (e5 x hx)
        have htl := nodup_le n trail8 hall.1 htn'
        have HTP : Hid (trail8.Nodup ∧ (∀ x ∈ trail8, x < n) ∧ Links (fun0 arcs0) trail8 ∧ fun0 arcs8 = aug en trail8 (fun0 arcs0) ∧ next8 = nxt trail8 zs) := ⟨hall.1, htn', hall.2.1, e6, e7⟩
        clear e1 e3 e4 e5 e6 e7 heO hall htr hgr htn'
        go_wp2_with fail
        refine Calls.mono H32.out ?_
        rintro e w' ⟨rfl, hw'⟩
        rw [hw']
        clear hw' H32
        go_wp2_with fail
        refine Calls.mono HCE.out ?_
        rintro e w11 ⟨rfl, hb11⟩
        have hR11 := HR10.out.below hb11
        have HR11 : Hid (Res w11 n bg bw w2.heap.size bd bv bn c4 arcs0 zs src en true bo co8 at8 ct8 vs8 d8 via8 O8 T8 arcs8 next8 trail8) := hR11
        have HB211 : Hid (Below w2.heap.size w2 w11) := HB210.out.trans (ble hb11 HB210.out.size)
        have H33 : Hid _ := arcs33 w11 bg _ hR11.f2
        have H34 : Hid _ := trail34 w11 bg _ hR11.f4
        have HCT2 : Hid (∀ W, w11.grownBy W none → ∀ k, k < n → W.cell? ⟨gt, k, none⟩ = some (.int .i64 (dT.getD k (-1)))) := fun W hW => HCT.out.2 W (hb11.trans (gbelow hW hb11.size))
        have HIN2 : Hid (∀ W, Below w11.heap.size w11 W → InLists W (.slice (some ⟨ga, 0, none⟩) n n) zss va ∧ InInts W (sl b2 zs.length c2) zs) := fun W hW => HIN.out W (HB211.out.trans (ble hW HB211.out.size))
        have Hb11 : Hid (Below w.heap.size w w11) := Hb2.out.trans (ble HB211.out Hb2.out.size)
        clear hR11 hb11 HCE HR10 HB210 hcs HCT HIN HB211 Hb2
        go_wp2_with fail
        refine Calls.mono H33.out ?_
        rintro e w' ⟨rfl, hw'⟩
        rw [hw']
        clear hw' H33
        go_wp2_with fail
        refine Calls.mono H34.out ?_
        rintro e w' ⟨rfl, hw'⟩
        rw [hw']
        clear hw' H34
        have HP0 : Hid (Own1 (w11.alloc (.cells #[.int .i64 (src : Int)] 3)) w11.heap.size ⟨3, .slice (some ⟨w11.heap.size, 0, none⟩) ([] ++ [src] : List Nat).length 1, ints (nz ([] ++ [src]))⟩) := own1_new (w := w11) (Nat.le_refl _) (e := 3) (cur := #[.int .i64 (src : Int)]) (xs := ints (nz [src])) rfl (by simp [ints, nz, maxLen])
        go_wp2_with fail
        go_loopw [22, 23] (fun pv cv wr => Hid (∃ (pre : List Nat) (x : Nat) (rest : List Nat) (gp cap : Nat), cv = .int .i64 (x : Int) ∧ pv = .slice (some ⟨gp, 0, none⟩) (pre ++ [x]).length cap ∧ trail8 = pre ++ x :: rest ∧ Greedy (fun0 arcs0) dT (x :: rest) ∧ Own1 wr w11.heap.size ⟨3, .slice (some ⟨gp, 0, none⟩) (pre ++ [x]).length cap, ints (nz (pre ++ [x]))⟩ ∧ w11.grownBy wr none)) (fun _ cv _ => (dT.getD (intOf cv).toNat (-1)).toNat)
        case atStart => exact ⟨[], src, r0, w11.heap.size, 1, rfl, rfl, HTR.out.1, HTR.out.2, HP0, World.grownBy_alloc _ _ _⟩
        case round =>
          clear HP0 HTR hz HZ0
          obtain ⟨pre, x, rest, gp, cap, rfl, rfl, htr, hgr, hown0, hg⟩ := hrel.out
          clear hrel
          have hxm : x ∈ trail8 := by rw [htr]; simp
          have hxn : x < n := HTP.out.2.1 x hxm
          have hcx := HCT2.out wr hg x hxn
          have hdl := HDL.out x hxn
          have hnn := greedy_nonneg _ x rest rfl hgr
          obtain ⟨l, hl⟩ : ∃ l, l = pre ++ [x] := ⟨_, rfl⟩
          have hll : l.length + rest.length = trail8.length := by rw [htr, hl]; simp; omega
          have htl2 : trail8 = l ++ rest := by rw [htr, hl]; simp
          have hlp : l ≠ [] := by rw [hl]; simp
          rw [← hl] at hown0 ⊢
          obtain ⟨zx, hzx⟩ : ∃ zx, zx = dT.getD x (-1) := ⟨_, rfl⟩
          rw [← hzx] at hcx hdl hnn
          have HZX : Hid (zx = dT.getD x (-1)) := hzx
          clear hl hzx htr hxm
          by_cases h0 : 0 < zx
          · obtain ⟨y, r, hrest⟩ : ∃ y r, rest = y :: r := by
              cases rest with
              | nil => rw [greedy_one, ← HZX.out] at hgr; omega
              | cons y r => exact ⟨y, r, rfl⟩
            subst hrest
            rw [greedy_two, ← HZX.out] at hgr
            obtain ⟨g1, ⟨jj, hj1, hj2⟩, g3⟩ := hgr
            have hjl : jj < (arcs0.getD x []).length := (List.getElem?_eq_some_iff.1 hj1).1
            have hyn : y < n := HTP.out.2.1 y (by rw [htl2]; simp)
            have HG : Hid (zx = dT.getD y (-1) + 1 ∧ Greedy (fun0 arcs0) dT (y :: r) ∧ trail8 = l ++ y :: r) := ⟨g1, g3, htl2⟩
            obtain ⟨al, cl, hvx, _⟩ := (adj_in (HIN2.out w11 (Below.refl _ _)).1 HN.out.symm HPL.out.zeq).row x hxn
            have hlen : (arcs0.getD x []).length ≤ 1048576 := HPL.out.bnd x
            have HAR : Hid (∀ W, w11.grownBy W none → W.cell? ⟨ga, x, none⟩ = some (.slice al (arcs0.getD x []).length cl) ∧ ∀ k, k < (arcs0.getD x []).length → ∃ bl ol a za, al = some ⟨bl, ol, none⟩ ∧ W.cell? ⟨bl, ol + k, none⟩ = some (.int .i64 ((a : Nat) : Int)) ∧ a < n ∧ W.cell? ⟨gt, a, none⟩ = some (.int .i64 za) ∧ za ≤ (n : Int) ∧ (k = jj → a = y ∧ za = zx - 1) ∧ (k < jj → za ≠ zx - 1)) := by
              intro W hW
              have hA := adj_in (HIN2.out W (gbelow hW (Nat.le_refl _))).1 HN.out.symm HPL.out.zeq
              refine ⟨?_, fun k hk => ?_⟩
              · have := hA.top x hxn
                rw [Nat.zero_add, hvx] at this
                exact this
              · obtain ⟨al', cl', hv', hrow⟩ := hA.row x hxn
                rw [hvx] at hv'
                simp only [Value.slice.injEq] at hv'
                obtain ⟨rfl, _, _⟩ := hv'
                obtain ⟨bl, ol, q1, q2⟩ := hrow k hk
                have han := HPL.out.rng x _ (getD_mem hk)
                have hk' : (fun0 arcs0 x)[k]? = some ((arcs0.getD x []).getD k 0) := by
                  unfold fun0
                  rw [List.getD_eq_getElem?_getD (i := k), List.getElem?_eq_getElem hk]
                  rfl
                refine ⟨bl, ol, _, _, q1, q2, han, HCT2.out W hW _ han, HDL.out _ han, fun e => ?_, fun e => ?_⟩
                · rw [e, hj1] at hk'
                  have hy := Option.some.inj hk'
                  rw [e, ← hy]
                  exact ⟨rfl, by omega⟩
                · have := hj2 k _ e hk'
                  omega
            have HOW : Hid (Own1 wr w11.heap.size ⟨3, .slice (some ⟨gp, 0, none⟩) l.length cap, ints (nz l)⟩ ∧ w11.grownBy wr none) := ⟨hown0, hg⟩
            have htop := (HAR.out wr hg).1
            clear g1 g3 hj1 hj2 hvx hown0 hg htl2
            generalize (arcs0.getD x []).length = len at HAR hlen hjl htop
            go_wp2_with fail
            go_loopw [24, 25] (fun f i wx => Hid (∃ k : Nat, k ≤ jj ∧ f = .int .i64 (-1) ∧ i = .int .i64 k ∧ Own1 wx w11.heap.size ⟨3, .slice (some ⟨gp, 0, none⟩) l.length cap, ints (nz l)⟩ ∧ w11.grownBy wx none)) (fun _ i _ => jj + 1 - (intOf i).toNat)
            case atStart => exact ⟨0, Nat.zero_le _, rfl, rfl, HOW⟩
            case round =>
              clear HOW htop hcx
              obtain ⟨k, hk, rfl, rfl, ho, hg⟩ := hrel.out
              clear hrel
              obtain ⟨htop, hrow⟩ := HAR.out wr hg
              obtain ⟨bl, ol, a, za, hal, hca, han, hcz, hzn, hk1, hk2⟩ := hrow k (by omega)
              have hcx := HCT2.out wr hg x hxn
              rw [← HZX.out] at hcx
              have HOW : Hid (Own1 wr w11.heap.size ⟨3, .slice (some ⟨gp, 0, none⟩) l.length cap, ints (nz l)⟩ ∧ w11.grownBy wr none) := ⟨ho, hg⟩
              clear hrow ho hg
              by_cases hkj : k = jj
              · obtain ⟨ea, ez⟩ := hk1 hkj
                subst hkj
                subst ea ez
                have HKA : Hid (∀ W, w11.grownBy W none → W.cell? ⟨ga, x, none⟩ = some (.slice al len cl) ∧ W.cell? ⟨bl, ol + k, none⟩ = some (.int .i64 ((a : Nat) : Int))) := fun W hW => by
                  obtain ⟨p1, p2⟩ := HAR.out W hW
                  obtain ⟨bl2, ol2, a2, za2, hal2, hca2, _, _, _, hk1', _⟩ := p2 k (by omega)
                  rw [hal] at hal2
                  simp only [Option.some.injEq, Addr.mk.injEq] at hal2
                  obtain ⟨rfl, rfl, _⟩ := hal2
                  rw [(hk1' rfl).1] at hca2
                  exact ⟨p1, hca2⟩
                subst hal
                clear hk1 hk2 HAR
                go_upto_region 42 with fail
                go_quiet (fail)
                have hsm : Same wr (wr.drewN nq) := ⟨rfl, rfl, rfl, rfl⟩
                have hgW := grown_trans HOW.out.2 (hsm.grown none)
                have hoW := HOW.out.1.heap (hsm.grown none)
                clear hsm HOW htop hca hcz hcx
                generalize wr.drewN nq = W at hgW hoW ⊢
                obtain ⟨htop, hca⟩ := HKA.out W hgW
                have hown := hoW
                unfold Own1 at hown
                rw [ints_length, nz_length] at hown
                obtain ⟨i0, hi, hz0, hz1, hz2⟩ := info_parts info3
                have hHB := hgW.size
                have HO : Hid (Own1 W w11.heap.size ⟨3, .slice (some ⟨gp, 0, none⟩) l.length cap, ints (nz l)⟩ ∧ w11.grownBy W none) := ⟨hoW, hgW⟩
                clear hoW hgW HKA
                go_wp2_with (at_builtin; refine wpList_append_lies _ rfl _ _ 23 rfl w11.heap.size 3 i0 (.int .i64 0) 1 8 Try.underlying23 hi hz0 hz1 hz2 rfl (by decide) (.slice (some ⟨gp, 0, none⟩) l.length cap) l.length (ints (nz l)) rfl (World.ownsRow.alloc hown _) ⟨W.heap.size, 0, none⟩ 1 1 [.int .i64 (a : Int)] rfl rfl (cell_one_new _ _ _) (by intro u hu; simp at hu; subst hu; rfl) (by decide) (by unfold maxLen; omega) (by omega) (by simp; omega) (W.heap.size + 1) (by simp) ?_; intro g2 cap2 wn hown' hgrow hat hlt2; obtain ⟨q1, q2⟩ := push_own (a := a) HO.out.2 HO.out.1 hgrow hown' (by rw [nz_append, ints_append]; rfl) (by simp); have HQ : Hid _ := And.intro q1 q2; clear hown' hgrow hat q1 q2 hown hi hz0 hz1 hz2)
                go_roundw
                case rel => exact ⟨l, a, r, g2, cap2, rfl, by simp, HG.out.2.2, HG.out.2.1, HQ.out.1, HQ.out.2⟩
                case measure =>
                  have h1 := HG.out.1
                  have h2 := HZX.out
                  simp only [intOf, Int.toNat_natCast]
                  omega
              · have hne := hk2 (by omega)
                subst hal
                clear hk1 hk2
                have hd : (za == zx - 1) = false := by simp; omega
                go_upto_region 42 with fail
                go_quiet (fail)
                go_wp2
                go_roundw
                case rel => exact ⟨k + 1, by omega, rfl, by go_num, HOW.out.1.heap (grown_drewN wr _ none), grown_trans HOW.out.2 (grown_drewN wr _ none)⟩
                case measure => simp [intOf]; omega
          · have hrest : rest = [] := by
              cases rest with
              | nil => rfl
              | cons y r =>
                rw [greedy_two, ← HZX.out] at hgr
                have := greedy_nonneg _ y r rfl hgr.2.2
                omega
            subst hrest
            rw [List.append_nil] at htl2
            obtain rfl : l = trail8 := htl2.symm
            have H36 : Hid _ := same_ints wr _ _ _ (by rw [nz_length]; omega) (HR11.out.tr.whole (gbelow hg (Nat.le_refl _))) hown0.inInts
            have HG11 : Hid (Own1 wr w11.heap.size ⟨3, .slice (some ⟨gp, 0, none⟩) l.length cap, ints (nz l)⟩ ∧ w11.grownBy wr none) := ⟨hown0, hg⟩
            clear hgr hown0 hg htl2 HCT2 HDL HTD
            go_wp2_with fail
            refine Calls.mono H36.out ?_
            rintro e w12 ⟨rfl, hs12⟩
            have hg12 := grown_trans HG11.out.2 (hs12.grown none)
            have hb12 : Below w11.heap.size w11 w12 := gbelow hg12 (Nat.le_refl _)
            have HRP : Hid (∀ W, Below w12.heap.size w12 W → Res W n bg bw w2.heap.size bd bv bn c4 arcs0 zs src en true bo co8 at8 ct8 vs8 d8 via8 O8 T8 arcs8 next8 l ∧ InInts W (.slice (some ⟨gp, 0, none⟩) l.length cap) (nz l) ∧ InLists W (.slice (some ⟨ga, 0, none⟩) n n) zss va ∧ InInts W (sl b2 zs.length c2) zs) := fun W hW =>
              ⟨HR11.out.below (hb12.trans (ble hW hb12.size)), (HG11.out.1.heap (hs12.grown none)).inInts.whole hW, (HIN2.out W (hb12.trans (ble hW hb12.size))).1, (HIN2.out W (hb12.trans (ble hW hb12.size))).2⟩
            have Hb12 : Hid (Below w.heap.size w w12) := Hb11.out.trans (ble hb12 Hb11.out.size)
            clear hs12 hg12 hb12 HR11 HG11 HIN2 Hb11 H36
            have HLC : Hid _ := lists_at HN.out k1 HL.out (HRP.out w12 (Below.refl _ _)).2.2.1
            go_wp2_with fail
            refine Calls.mono HLC.out ?_
            rintro e w13 ⟨R13, rfl, hM13⟩
            have HM13 : Hid (LMid w12 w13 w12.heap.size n n zss R13) := hM13
            clear hM13 HLC
            have HCN : Hid _ := clone_ints (sl b2 zs.length c2) zs w13 (HRP.out w13 HM13.out.below).2.2.2 k2
            go_wp2_with fail
            refine Calls.mono HCN.out ?_
            rintro e w14 ⟨v14, rfl, ho14, hg14⟩
            obtain ⟨be, ce, hv14, _, _⟩ := slice_form ho14 (by rw [ints_length]; omega)
            dsimp only at hv14
            rw [ints_length] at hv14
            subst hv14
            have HEX : Hid (EX w12 w14 w12.heap.size n arcs0 be ce zs _) := EX.start HM13.out HN.out.symm HPL.out.zeq ho14 hg14
            have hlpos : 0 < l.length := by
              have := hll
              cases l with
              | nil => exact absurd hlp (by simp)
              | cons _ _ => simp
            have HMI : Hid (Mid n en l (fun0 arcs0) zs 0 arcs0 zs) := Mid.start hlpos HPL.out.len HTP.out.2.2.1 HPL.out.sle HPL.out.rng (fun x => Nat.le_trans (HPL.out.bnd x) (by omega))
            clear ho14 hg14 HCN HM13
            obtain ⟨ge, hge⟩ : ∃ ge, ge = w12.heap.size := ⟨_, rfl⟩
            rw [← hge] at HEX
            rw [← hge]
            clear hge hlp
            go_wp2_with fail
            go_loopw [28] (fun c wr => Hid (∃ (i : Nat) (arcs2 : List (List Nat)) (next2 : List Int) (R2 : Nat → Rw), c = .int .i64 ((i + 1 : Nat) : Int) ∧ Mid n en l (fun0 arcs0) zs i arcs2 next2 ∧ EX w12 wr ge n arcs2 be ce next2 R2)) (fun c _ => l.length - (intOf c).toNat)
            case atStart => exact ⟨0, arcs0, zs, _, rfl, HMI, HEX⟩
            case round =>
              clear HMI HEX
              obtain ⟨i, arcs2, next2, R2, rfl, hM, hX⟩ := hrel.out
              clear hrel
              obtain ⟨k, hk⟩ : ∃ k, k = i + 1 := ⟨_, rfl⟩
              have hk1 : (k : Int) - 1 = (i : Int) := by omega
              rw [← hk]
              by_cases hlt : k < l.length
              · have hi1 : i + 1 < l.length := by omega
                have hpi := (HRP.out wr hX.below).2.1
                have hcu := inInts_at hpi (j := i) (by omega)
                have hcy := inInts_at hpi (j := k) hlt
                have harc := hM.arc hi1
                rw [← hk] at harc
                have hun : l.getD i 0 < n := HTP.out.2.1 _ (getD_mem (by omega))
                have hyn : l.getD k 0 < n := HTP.out.2.1 _ (getD_mem hlt)
                have huy : l.getD i 0 ≠ l.getD k 0 := fun e => by
                  have := getD_inj HTP.out.1 (by omega) hlt e
                  omega
                obtain ⟨u, hu⟩ : ∃ u, u = l.getD i 0 := ⟨_, rfl⟩
                obtain ⟨y, hy⟩ : ∃ y, y = l.getD k 0 := ⟨_, rfl⟩
                rw [← hu, ← hy] at huy
                rw [← hu] at hcu hun
                rw [← hy] at hcy hyn
                have HUY : Hid (u = l.getD i 0 ∧ y = l.getD k 0 ∧ k = i + 1) := ⟨hu, hy, hk⟩
                have hil : i < l.length := by omega
                have hlu := hM.bound u
                unfold fun0 at hlu
                obtain ⟨hcx, hiu⟩ := hX.list hun
                obtain ⟨al, cl, hval⟩ := hiu.form
                rw [nz_length] at hval
                rw [hval] at hcx hiu
                have H37 : Hid _ := without_any wr _ (arcs2.getD u []) y (by omega) hiu
                have HS37 : Hid (∀ (wA : World) (v' : Value), wr.grownBy wA none → Own1 wA wr.heap.size ⟨3, v', ints (nz ((arcs2.getD u []).erase y))⟩ → wA.cell? ⟨ge, u, none⟩ = some (.slice al (arcs2.getD u []).length cl) ∧ wA.frozen? ⟨ge, u, none⟩ = false ∧ Hid (∃ R', EX w12 (wA.setCell ⟨ge, u, none⟩ v') ge n (arcs2.set u ((arcs2.getD u []).erase y)) be ce next2 R')) := fun wA v' h1 h2 => by
                  obtain ⟨q1, q2, q3⟩ := hX.setL hM.len hun h1 h2
                  rw [hval] at q1
                  exact ⟨q1, q2, q3⟩
                have HM : Hid (Mid n en l (fun0 arcs0) zs i arcs2 next2) := hM
                clear hM hX hpi harc hu hy hk hiu hval
                go_wp2_with fail
                refine Calls.mono H37.out ?_
                rintro e wA ⟨gA, capA, rfl, hoA, hgA⟩
                obtain ⟨q1, q2, q3⟩ := HS37.out wA _ hgA hoA
                clear hoA hgA H37 HS37 hcx hcu hcy
                generalize ((arcs2.getD u []).erase y).length = mA at q3 ⊢
                generalize (arcs2.getD u []).length = mu at q1 hlu
                go_upto_if 221 with fail
                generalize wA.setCell _ _ = wB at q3 ⊢
                clear q1 q2
                go_cut [] (fun wx => Hid (∃ R' arcs', arcs'.length = n ∧ fun0 arcs' = step en (fun0 arcs2) u y ∧ EX w12 wx ge n arcs' be ce next2 R'))
                case first =>
                  obtain ⟨RB, hXB⟩ := q3.out
                  clear q3
                  by_cases hye : y = en
                  · have HST : Hid _ := (step_lists (en := en) HM.out.len hun hyn huy).1 hye
                    have HXB : Hid _ := hXB
                    subst hye
                    clear hXB
                    go_wp2
                    all_goals go_meet
                    all_goals exact ⟨RB, _, by rw [List.length_set]; exact HM.out.len, HST, HXB⟩
                  · have HST : Hid _ := (step_lists (en := en) HM.out.len hun hyn huy).2 hye
                    have hgv : (arcs2.set u ((arcs2.getD u []).erase y)).getD y [] = arcs2.getD y [] := getD_set_ne _ _ _ _ _ huy
                    have hly : (fun0 arcs2 y).length ≤ 2097152 + i := HM.out.bound y
                    have hsy : (fun0 arcs2 y).Pairwise (· ≤ ·) := HM.out.sorted y
                    unfold fun0 at hly hsy
                    obtain ⟨hcy, hiy⟩ := hXB.list hyn
                    rw [hgv] at hiy
                    obtain ⟨al2, cl2, hval⟩ := hiy.form
                    rw [nz_length] at hval
                    rw [hval] at hcy hiy
                    have H38 : Hid _ := sorted_any wB _ (arcs2.getD y []) u (by omega) hsy hiy
                    have HS38 : Hid (∀ (wC : World) (v' : Value), wB.grownBy wC none → Own1 wC wB.heap.size ⟨3, v', ints (nz (ins u (arcs2.getD y [])))⟩ → wC.cell? ⟨ge, y, none⟩ = some (.slice al2 (arcs2.getD y []).length cl2) ∧ wC.frozen? ⟨ge, y, none⟩ = false ∧ Hid (∃ R', EX w12 (wC.setCell ⟨ge, y, none⟩ v') ge n ((arcs2.set u ((arcs2.getD u []).erase y)).set y (ins u (arcs2.getD y []))) be ce next2 R')) := fun wC v' h1 h2 => by
                      obtain ⟨q1, q2, q3⟩ := hXB.setL (by rw [List.length_set]; exact HM.out.len) hyn h1 h2
                      rw [hval] at q1
                      exact ⟨q1, q2, q3⟩
                    clear hXB hgv hsy hiy hval
                    have hye' : (y : Int) ≠ (en : Int) := by omega
                    go_wp2_with fail
                    refine Calls.mono H38.out ?_
                    rintro e wC ⟨gC, capC, rfl, hoC, hgC⟩
                    obtain ⟨q1, q2, q3⟩ := HS38.out wC _ hgC hoC
                    clear hoC hgC H38 HS38 hcy
                    generalize (ins u (arcs2.getD y [])).length = mC at q3 ⊢
                    generalize (arcs2.getD y []).length = my at q1 hly
                    go_wp2
                    all_goals go_meet
                    all_goals obtain ⟨RC, hXC⟩ := q3.out
                    all_goals exact ⟨RC, _, by rw [List.length_set, List.length_set]; exact HM.out.len, HST, hXC⟩
                case rest =>
                  obtain ⟨R10, arcs3, hl3, hst, hX10⟩ := hcut.out
                  clear hcut q3
                  have hMn := HM.out.nlen
                  obtain ⟨u2, hu2⟩ : ∃ u2, u2 = u / 2 := ⟨_, rfl⟩
                  obtain ⟨y2, hy2⟩ : ∃ y2, y2 = y / 2 := ⟨_, rfl⟩
                  have hul : u2 < next2.length := by omega
                  obtain ⟨hcn, hcf⟩ := hX10.cellN hul
                  obtain ⟨zn, hzn⟩ : ∃ zn, zn = next2.getD u2 0 := ⟨_, rfl⟩
                  rw [← hzn] at hcn
                  have hstep := HM.out.step (by have := HUY.out; omega) HTP.out.1 HTP.out.2.1 (arcs' := arcs3) hl3 (by
                    rw [hst, HUY.out.1, HUY.out.2.1, HUY.out.2.2])
                  rw [← HUY.out.2.2, ← HUY.out.1, ← HUY.out.2.1] at hstep
                  unfold nxt1 at hstep
                  rw [← hu2, ← hy2] at hstep
                  have HX11 : Hid (∃ R', EX w12 (wc.setCell ⟨be, u2, none⟩ (.int .i64 (y2 : Int))) ge n arcs3 be ce (next2.set u2 (y2 : Int)) R') := hX10.setN u2 (y2 : Int)
                  have HX10 : Hid (EX w12 wc ge n arcs3 be ce next2 R10) := hX10
                  have HSTEP : Hid _ := hstep
                  have hq1 : ((u : Int)) / 2 = (u2 : Int) := by omega
                  have hq2 : ((y : Int)) / 2 = (y2 : Int) := by omega
                  have hcul : u2 < zs.length := by omega
                  clear hX10 hstep hzn hst hu2 hy2
                  by_cases hodd : u % 2 = 1
                  · have hodd' : (u : Int) % 2 = 1 := by omega
                    by_cases hdiv : u2 = y2
                    · have HN2 : Hid _ := HSTEP.out
                      rw [if_neg (fun h => h.2 hdiv)] at HN2
                      subst hdiv
                      clear HX11 HSTEP
                      go_wp2
                      go_roundw
                      case rel => exact ⟨k, arcs3, next2, R10, by go_num, HN2, HX10⟩
                      case measure => simp [intOf]; omega
                    · have HN2 : Hid _ := HSTEP.out
                      rw [if_pos ⟨hodd, hdiv⟩] at HN2
                      have hdiv' : (u2 : Int) ≠ (y2 : Int) := by omega
                      clear HX10 HSTEP
                      go_wp2
                      go_roundw
                      case rel =>
                        obtain ⟨R11, hX11⟩ := HX11.out
                        exact ⟨k, arcs3, next2.set u2 (y2 : Int), R11, by go_num, HN2, hX11⟩
                      case measure => simp [intOf]; omega
                  · have HN2 : Hid _ := HSTEP.out
                    rw [if_neg (fun h => hodd h.1)] at HN2
                    clear HX11 HSTEP
                    go_wp2
                    go_roundw
                    case rel => exact ⟨k, arcs3, next2, R10, by go_num, HN2, HX10⟩
                    case measure => simp [intOf]; omega
              · obtain ⟨hfa, hfn⟩ := hM.last (by omega)
                have hbnd := hM.bound
                have hil := hM.lt
                have hml := hM.len
                obtain ⟨hR, _, _, _⟩ := HRP.out wr hX.below
                have ha : arcs2 = arcs8 := lists_ext (hml.trans hR.an.symm) (by rw [hfa, HTP.out.2.2.2.1])
                have hnx : next2 = next8 := by rw [hfn, HTP.out.2.2.2.2]
                subst ha hnx
                have hnl := hR.nl
                have H35 : Hid _ := same_lists wr _ _ (arcs2.map nz) vs8 _ (by rw [List.length_map]; omega) (fun r hr => by
                  rw [map_nz_get r hr, nz_length]
                  have := hbnd r
                  unfold fun0 at this
                  omega) hR.la (hX.inL hml)
                have hrn := hX.rowN
                rw [hnl] at hrn
                have H36 : Hid (∀ W, Same wr W → Calls Try.prog 36 #[sl bn zs.length c4, sl be zs.length ce] W fun e w' => e = .returned (.bool true) ∧ Same W w') := fun W hW => same_ints W _ _ _ (by omega) (hR.nx.whole (hW.below _)) (hrn.whole (hW.below _))
                have HBX : Hid (Below w.heap.size w wr) := Hb12.out.trans (ble hX.below Hb12.out.size)
                clear hM hX hfa hfn hbnd hR hnl hrn HRP HTP
                go_wp2_with fail
                refine Calls.mono H35.out ?_
                rintro e w15 ⟨rfl, hs15⟩
                have HS15 : Hid _ := hs15
                clear hs15 H35
                go_wp2_with fail
                refine Calls.mono (H36.out w15 HS15.out) ?_
                rintro e w16 ⟨rfl, hs16⟩
                have HS16 : Hid _ := hs16
                clear hs16 H36
                go_wp2
                go_ret
                exact ⟨rfl, HBX.out.trans ((HS15.out.trans HS16.out).below _)⟩
end Go.Proofs.Qxb6601175a
