/-
  THE LAW FnAugmentRepeatedFindsMaxFlow, walked.
-/
import Derived.Test.Qxb6601175aStart
import Derived.Test.Qxb6601175aRounds
import Derived.Test.Qxb6601175aZbfs
namespace Go.Proofs.Qxb6601175a
open Go.RowKit

theorem GS.adj {w : World} {B n bg bw : Nat} {R : Nat → Rw} {arcs : List (List Nat)} {ba ca bd cd bv cv : Nat} {vo vn vt : Value} {d : List Int} {via O : List Nat} {next : List Int} {trail : List Nat}
    (h : GS w B n bg bw R arcs ba ca bd cd bv cv vo vn vt d via O next trail) : Adj w ba 0 n arcs (fun u => (R (u + 1)).v) := by
  refine ⟨fun u hu => by rw [Nat.zero_add]; exact h.ws.cellA u hu, fun u hu => ?_⟩
  obtain ⟨al, cl, h1, h2⟩ := h.ws.list u hu
  refine ⟨al, cl, h1, fun j hj => ?_⟩
  obtain ⟨bl, h3, h4⟩ := h2 j hj
  exact ⟨bl, 0, h3, by rw [Nat.zero_add]; exact h4⟩

theorem LMid.inLists {w w1 : World} {b n : Nat} {zss : List (List Int)} {R : Nat → Rw} (h : LMid w w1 b n n zss R) (hn : zss.length = n) : InLists w1 (.slice (some ⟨b, 0, none⟩) n n) zss (fun u => (R (u + 1)).v) := by
  have hl : LRows w1 b (.slice (some ⟨b, 0, none⟩) n n) zss R := by
    refine ⟨by rw [hn]; exact h.own, by rw [h.top], by rw [h.top], by rw [hn]; exact h.len, fun u hu => h.cells u (by omega), fun u hu => h.rows u hu (by omega)⟩
  exact hl.inLists

theorem below_le {B B' : Nat} {w w' : World} (h : Below B w w') (hB : B' ≤ B) : Below B' w w' := ⟨h.os, h.tape, h.output, h.size, fun k hk => h.block k (by omega)⟩
theorem grown_below {w w' : World} {B : Nat} (h : w.grownBy w' none) (hB : B ≤ w.heap.size) : Below B w w' := below_grown h hB (fun k hk => by cases hk)

/-- the lists as they are read -/
theorem adj_of {w : World} {b n c : Nat} {zss : List (List Int)} {vs : Nat → Value} {arcs : List (List Nat)} (h : InLists w (.slice (some ⟨b, 0, none⟩) n c) zss vs) (hn : zss.length = n) (ha : ∀ r (h : r < zss.length), zss[r] = nz (arcs.getD r [])) : Adj w b 0 n arcs vs := by
  obtain ⟨ao, c', hv, hc⟩ := h.form
  simp only [Value.slice.injEq] at hv
  obtain ⟨rfl, _, _⟩ := hv
  refine ⟨fun u hu => ?_, fun u hu => ?_⟩
  · obtain ⟨b', o', e1, e2⟩ := hc u (by omega)
    simp only [Option.some.injEq, Addr.mk.injEq] at e1
    obtain ⟨rfl, rfl, _⟩ := e1
    exact e2
  · obtain ⟨al, cl, e1, e2⟩ := (h.2 u (by omega)).cells
    rw [ha u (by omega), nz_length] at e1 e2
    refine ⟨al, cl, e1, fun j hj => ?_⟩
    obtain ⟨bl, ol, e3, e4⟩ := e2 j hj
    exact ⟨bl, ol, e3, by rw [e4 j hj, nz_getD _ _ _ hj]⟩

theorem take_filter (p : Nat → Bool) (l : List Nat) (j : Nat) (h : j < l.length) : ((l.take (j + 1)).filter p).length = ((l.take j).filter p).length + if p (l.getD j 0) = true then 1 else 0 := by
  rw [List.take_succ_eq_append_getElem h, List.filter_append, List.length_append]
  have e : l.getD j 0 = l[j] := by rw [List.getD_eq_getElem?_getD, List.getElem?_eq_getElem h]; rfl
  rw [e]
  by_cases hp : p l[j] = true
  · simp [hp]
  · simp [hp]

/-- how many first arcs of x leave the reached vertices -/
def leave (A0 : Nat → List Nat) (r : Nat → Bool) : Nat → Nat := fun x => if r x = true then ((A0 x).filter fun y => !r y).length else 0
theorem leave_le (A0 : Nat → List Nat) (r : Nat → Bool) (h : ∀ x, (A0 x).length ≤ 1048576) : ∀ k, sumN (leave A0 r) k ≤ k * 1048576
  | 0 => by simp [sumN]
  | k + 1 => by
    have ih := leave_le A0 r h k
    have hx := h k
    have : leave A0 r k ≤ 1048576 := by
      unfold leave
      split
      · exact Nat.le_trans (List.length_filter_le _ _) hx
      · omega
    unfold sumN
    omega

def LawPost (w : World) (e : Ending) (w' : World) : Prop := e = .returned (.bool true) ∧ Below w.heap.size w w'

set_option maxHeartbeats 16000000 in
set_option maxRecDepth 100000 in
theorem maxflow_any (w : World) (v vn : Value) (zss : List (List Int)) (vs : Nat → Value) (zs : List Int) (s t : Int) (hl : zss.length ≤ 9223372036854775807) (hz : zs.length ≤ 9223372036854775807) (hll : ∀ r (h : r < zss.length), zss[r].length ≤ 9223372036854775807)
    (hs64 : -9223372036854775808 ≤ s ∧ s ≤ 9223372036854775807) (ht64 : -9223372036854775808 ≤ t ∧ t ≤ 9223372036854775807) (h : InLists w v zss vs) (hn : InInts w vn zs) :
    Calls Try.prog 5 #[v, vn, .int .i64 s, .int .i64 t] w (LawPost w) := by
  have h39 := bytes39 w v vn zss vs zs s t hl hz hll h hn
  have h24 := listsBytes w v vn zss vs zs
  have h25 := domain_any w v zss vs
  have hcn := clone_ints vn zs
  obtain ⟨ao, c, rfl, hc⟩ := h.form
  obtain ⟨an, cn, rfl⟩ := hn.form
  have H39 : Hid _ := h39
  have H24 : Hid _ := h24
  have H25 : Hid _ := h25
  have HCN : Hid _ := hcn
  have HC : Hid _ := hc
  have HI : Hid (InLists w (.slice ao zss.length c) zss vs ∧ InInts w (.slice an zs.length cn) zs) := ⟨h, hn⟩
  clear h39 h24 h25 hcn hc h hn hll
  go_enter Try.func5, Try.ntmps5
  go_wp2_with fail
  refine Calls.mono H39.out ?_
  rintro e w' ⟨ok, rfl, hw, hok⟩
  rw [hw]
  clear hw H39
  cases ok
  · go_wp2
    go_ret
    exact ⟨rfl, Below.refl _ _⟩
  obtain ⟨k1, k2, k3⟩ := hok rfl
  have HL : Hid (∀ r (h : r < zss.length), zss[r].length ≤ 1048576) := k3
  clear hok k3
  go_wp2_with fail
  refine Calls.mono (H24.out k1 k2 HL.out HI.out.1 HI.out.2) ?_
  rintro e w' ⟨r, rfl, hw, hr0, hr1⟩
  rw [hw]
  clear hw H24
  by_cases hr : r ≤ 1048576
  case neg =>
    go_wp2
    go_ret
    exact ⟨rfl, Below.refl _ _⟩
  by_cases hn8 : zss.length ≤ 8192
  case neg =>
    go_wp2
    go_ret
    exact ⟨rfl, Below.refl _ _⟩
  by_cases hn2 : (zss.length : Int) = 2 * (zs.length : Int)
  case neg =>
    go_wp2
    go_ret
    exact ⟨rfl, Below.refl _ _⟩
  by_cases hs0 : s < 0
  · go_wp2
    go_ret
    exact ⟨rfl, Below.refl _ _⟩
  by_cases hs1 : (zs.length : Int) ≤ s
  · go_wp2
    go_ret
    exact ⟨rfl, Below.refl _ _⟩
  by_cases ht0 : t < 0
  · go_wp2
    go_ret
    exact ⟨rfl, Below.refl _ _⟩
  by_cases ht1 : (zs.length : Int) ≤ t
  · go_wp2
    go_ret
    exact ⟨rfl, Below.refl _ _⟩
  by_cases hst : s = t
  · go_wp2
    go_ret
    exact ⟨rfl, Below.refl _ _⟩
  obtain ⟨sn, rfl⟩ : ∃ sn : Nat, s = (sn : Int) := ⟨s.toNat, by omega⟩
  obtain ⟨tn, rfl⟩ : ∃ tn : Nat, t = (tn : Int) := ⟨t.toNat, by omega⟩
  obtain ⟨n, hn⟩ : ∃ n, n = zss.length := ⟨_, rfl⟩
  have HN : Hid (n = zss.length) := hn
  rw [← hn] at hn2 hn8 k1
  have hn2' : 2 * (zs.length : Int) = (n : Int) := by omega
  clear hl hz hs64 ht64
  rw [← hn]
  clear hn
  have hst' : sn ≠ tn := by omega
  clear hn2 hst
  go_wp2_with fail
  · go_ret
    exact ⟨rfl, Below.refl _ _⟩
  go_loopw [10, 11] (fun z i wr => Hid (∃ (k : Nat) (y : Int), k ≤ n ∧ i = .int .i64 k ∧ z = .int .i64 y ∧ 0 ≤ y ∧ y ≤ k * 1048576 ∧ wr = w)) (fun _ i _ => n - (intOf i).toNat)
  case atStart => exact ⟨0, 0, Nat.zero_le _, rfl, rfl, by omega, by omega, rfl⟩
  case round =>
    obtain ⟨k, y, hk, rfl, rfl, hy0, hy1, hw⟩ := hrel.out
    rw [hw]
    clear hrel hw
    by_cases hlt : k < n
    · obtain ⟨b, off, hao, hcell⟩ := HC.out k (by rw [← HN.out]; exact hlt)
      obtain ⟨a2, c2, hv⟩ := (HI.out.1.2 k (by rw [← HN.out]; exact hlt)).form
      rw [hv] at hcell
      have hll := HL.out k (by rw [← HN.out]; exact hlt)
      generalize (zss[k]'(by rw [← HN.out]; exact hlt)).length = L at hcell hll
      subst hao
      clear hv
      go_wp2
      go_roundw
      case rel => exact ⟨k + 1, y + L, by omega, by go_num, by go_num, by omega, by omega, by trivial⟩
      case measure => simp [intOf]; omega
    · by_cases hy8 : y ≤ 8192
      case neg =>
        go_wp2
        go_ret
        exact ⟨rfl, Below.refl _ _⟩
      go_wp2_with fail
      rw [HN.out]
      refine Calls.mono (H25.out (by rw [← HN.out]; exact k1) HL.out HI.out.1) ?_
      rintro e w0 ⟨ok, rfl, hsame, hgood⟩
      rw [← HN.out]
      cases ok
      · have HS : Hid _ := hsame
        clear hsame hgood
        go_wp2
        go_ret
        exact ⟨rfl, HS.out.below _⟩
      have HS : Hid _ := hsame
      have HGOOD : Hid _ := hgood rfl
      clear hsame hgood H25
      obtain ⟨b0, off0, hao, _⟩ := HC.out 0 (by rw [← HN.out]; omega)
      subst hao
      -- the lists as they lie before the first clone
      have hin0 := HI.out.1.whole (HS.out.below _)
      obtain ⟨ax, cx, hvx, hcx⟩ := hin0.form
      have hlc : Calls Try.prog 26 #[.slice (some ⟨b0, off0, none⟩) zss.length c] w0 fun e w' => ∃ R, e = .returned (.slice (some ⟨w0.heap.size, 0, none⟩) zss.length zss.length) ∧ LMid w0 w' w0.heap.size zss.length zss.length zss R := by
        refine lists_some w0 ⟨b0, off0, none⟩ c zss vs (by rw [← HN.out]; exact k1) HL.out (fun _ => ⟨b0, off0, rfl, fun r hr => ?_⟩) hin0.2
        obtain ⟨b', off', e1, e2⟩ := hcx r hr
        simp only [Value.slice.injEq] at hvx
        obtain ⟨rfl, _, _⟩ := hvx
        simp only [Option.some.injEq, Addr.mk.injEq] at e1
        obtain ⟨rfl, rfl, _⟩ := e1
        exact e2
      rw [← HN.out] at hlc
      have HLC : Hid _ := hlc
      clear hlc hcx hvx hin0
      go_wp2_with fail
      refine Calls.mono HLC.out ?_
      rintro e w1 ⟨R1, rfl, hM1⟩
      have HM1 : Hid (LMid w0 w1 w0.heap.size n n zss R1) := hM1
      clear hM1 HLC
      have Hb1 : Hid (Below w.heap.size w w1) := (HS.out.below _).trans (below_le HM1.out.below (by rw [HS.out.heap]; exact Nat.le_refl _))
      have hcn := HCN.out w1 (HI.out.2.whole Hb1.out) k2
      have HCN1 : Hid _ := hcn
      clear hcn HCN
      go_wp2_with fail
      refine Calls.mono HCN1.out ?_
      rintro e w2 ⟨v2, rfl, ho2, hg2⟩
      obtain ⟨bn, cn2, hv2, hbn, _⟩ := slice_form ho2 (by rw [ints_length]; omega)
      dsimp only at hv2
      rw [ints_length] at hv2
      subst hv2
      have HO2 : Hid (Own1 w2 w1.heap.size ⟨3, sl bn zs.length cn2, ints zs⟩ ∧ w1.grownBy w2 none) := ⟨ho2, hg2⟩
      clear ho2 hg2 HCN1
      have Hb2 : Hid (Below w.heap.size w w2) := Hb1.out.trans (grown_below HO2.out.2 Hb1.out.size)
      obtain ⟨src, hsrc⟩ : ∃ src, src = 2 * sn := ⟨_, rfl⟩
      obtain ⟨en, hen⟩ : ∃ en, en = 2 * tn := ⟨_, rfl⟩
      have es : 2 * (sn : Int) = (src : Int) := by omega
      have et : 2 * (tn : Int) = (en : Int) := by omega
      have hsn : src < n := by omega
      have htn : en < n := by omega
      have hse : src ≠ en := by omega
      clear hsrc hen
      have hin2 := (HM1.out.inLists HN.out.symm).whole (grown_below HO2.out.2 (Nat.le_refl _))
      have hlc : Calls Try.prog 26 #[.slice (some ⟨w0.heap.size, 0, none⟩) zss.length n] w2 fun e w' => ∃ R, e = .returned (.slice (some ⟨w2.heap.size, 0, none⟩) zss.length zss.length) ∧ LMid w2 w' w2.heap.size zss.length zss.length zss R := by
        refine lists_some w2 ⟨w0.heap.size, 0, none⟩ n zss (fun u => (R1 (u + 1)).v) (by rw [← HN.out]; exact k1) HL.out (fun _ => ⟨w0.heap.size, 0, rfl, fun r hr => ?_⟩) hin2.2
        obtain ⟨ax, cx, hvx, hcx⟩ := hin2.form
        obtain ⟨b', off', e1, e2⟩ := hcx r hr
        simp only [Value.slice.injEq] at hvx
        obtain ⟨rfl, _, _⟩ := hvx
        simp only [Option.some.injEq, Addr.mk.injEq] at e1
        obtain ⟨rfl, rfl, _⟩ := e1
        exact e2
      rw [← HN.out] at hlc
      have HLC : Hid _ := hlc
      clear hlc hin2
      go_wp2_with fail
      refine Calls.mono HLC.out ?_
      rintro e w3 ⟨R3, rfl, hM3⟩
      have HM3 : Hid (LMid w2 w3 w2.heap.size n n zss R3) := hM3
      clear hM3 HLC
      have hmk := run_make_row' (P := Try.prog) 23 3 (.int .i64 0) 8 Try.underlying23 info3 rfl .i64 .i64 n (by omega) (by omega)
      go_wp2_with fail
      go_loopw [16] (fun i wr => Hid (∃ (k : Nat) (cd : Array Value), k ≤ n ∧ i = .int .i64 k ∧ wr = w3.alloc (.cells cd 3) ∧ cd.size = n ∧ ∀ j, j < k → cd[j]? = some (.int .i64 (-1)))) (fun i _ => n - (intOf i).toNat)
      case atStart => exact ⟨0, _, Nat.zero_le _, rfl, rfl, size_madeCells _ _, fun j h => absurd h (Nat.not_lt_zero _)⟩
      case round =>
        obtain ⟨k, cd, hk, rfl, hwr, hcs, hcc⟩ := hrel.out
        subst hwr
        have HK : Hid _ := And.intro hcs hcc
        clear hrel hcc
        by_cases hlt : k < n
        · obtain ⟨vo, hvo⟩ : ∃ vo, cd[k]? = some vo := ⟨_, Array.getElem?_eq_getElem (by omega)⟩
          clear hmk
          go_wp2
          go_roundw
          case rel =>
            obtain ⟨h1, h2⟩ := HK.out
            refine ⟨k + 1, _, by omega, by go_num, rfl, by simpa using h1, fun j hjk => ?_⟩
            by_cases e : j = k
            · subst e
              rw [Array.getElem?_setIfInBounds_self_of_lt (by omega)]
            · rw [Array.getElem?_setIfInBounds_ne (by omega)]
              exact h2 j (by omega)
          case measure => simp [intOf]; omega
        · have hd : cd.toList = ints (List.replicate n (-1)) := by
            obtain ⟨h1, h2⟩ := HK.out
            apply List.ext_getElem
            · rw [ints_length, Array.length_toList, h1, List.length_replicate]
            · intro j h3 h4
              rw [ints_length, List.length_replicate] at h4
              have := h2 j (by omega)
              have h5 := (Array.getElem?_eq_some_iff.1 this).2
              rw [Array.getElem_toList, h5]
              simp [ints]
          have hvz : (madeCells #[Value.int .i64 0] n).toList = ints (nz (List.replicate n 0)) := by
            rw [toList_madeCells_one]
            simp [ints, nz]
          have HD : Hid _ := And.intro hd hvz
          have HGR : Hid _ := graphOf_any
          clear hd hvz HK hcs
          go_wp2_with fail
          clear hmk
          refine Calls.mono (HGR.out _ _ _ _ _ _ _ _ _ _ _ _ _) ?_
          rintro e w7 ⟨rfl, hw7⟩
          -- the plain lists
          obtain ⟨arcs0, harcs0⟩ : ∃ arcs0, arcs0 = toNats zss := ⟨_, rfl⟩
          have hgo : ∀ r, r < zss.length → nz (arcs0.getD r []) = zss.getD r [] ∧ (∀ x ∈ arcs0.getD r [], x < n) ∧ (arcs0.getD r []).Pairwise (· < ·) := by
            intro r hr
            have := good_sorted (HGOOD.out r hr)
            rw [← toNats_getD, ← harcs0, ← HN.out] at this
            exact this
          have hzz : ∀ r (h : r < zss.length), zss[r] = nz (arcs0.getD r []) := by
            intro r hr
            rw [(hgo r hr).1, List.getD_eq_getElem?_getD, List.getElem?_eq_getElem hr]
            rfl
          have hal0 : arcs0.length = n := by rw [harcs0, toNats_length]; exact HN.out.symm
          have hout : ∀ r, n ≤ r → arcs0.getD r [] = [] := fun r hr => by
            rw [List.getD_eq_getElem?_getD, List.getElem?_eq_none (by omega)]; rfl
          have hrng : ∀ r, ∀ x ∈ fun0 arcs0 r, x < n := by
            intro r x hx
            by_cases hr : r < n
            · exact (hgo r (by rw [← HN.out]; exact hr)).2.1 x hx
            · unfold fun0 at hx; rw [hout r (by omega)] at hx; simp at hx
          have hsrt : ∀ r, (fun0 arcs0 r).Pairwise (· ≤ ·) := by
            intro r
            by_cases hr : r < n
            · have hp := (hgo r (by rw [← HN.out]; exact hr)).2.2
              rw [List.pairwise_iff_getElem] at hp ⊢
              intro i j hi hj hij
              exact Nat.le_of_lt (hp i j hi hj hij)
            · unfold fun0; rw [hout r (by omega)]; exact List.Pairwise.nil
          have hlen0 : ∀ r, (fun0 arcs0 r).length ≤ 1048576 := by
            intro r
            by_cases hr : r < n
            · have h1 := HL.out r (by rw [← HN.out]; exact hr)
              rw [hzz r (by rw [← HN.out]; exact hr), nz_length] at h1
              exact h1
            · unfold fun0; rw [hout r (by omega)]; simp
          have s5 : ((w3.alloc (.cells cd 3)).alloc (.cells (madeCells #[.int .i64 0] n) 3)).heap.size = w3.heap.size + 1 + 1 := by simp
          rw [s5] at hw7 ⊢
          have b12 : Below w1.heap.size w1 w2 := grown_below HO2.out.2 (Nat.le_refl _)
          have b13 : Below w1.heap.size w1 w3 := b12.trans (below_le HM3.out.below b12.size)
          have b17 : Below w1.heap.size w1 w7 := by
            rw [hw7]
            exact (((b13.alloc b13.size _).alloc (by have := b13.size; simp; omega) _).alloc (by have := b13.size; simp; omega) _).alloc (by have := b13.size; simp; omega) _
          obtain ⟨R7, hG7⟩ := gs_start HM3.out HN.out.symm k1 b12.size HO2.out.1 hzz hal0 HD.out.1 (by simp) HD.out.2 (by simp)
          rw [← hw7] at hG7
          have Hb7 : Hid (Below w.heap.size w w7) := Hb1.out.trans (below_le b17 Hb1.out.size)
          have HADJ : Hid (∀ wr, Below w1.heap.size w1 wr → Adj wr w0.heap.size 0 n arcs0 (fun u => (R1 (u + 1)).v)) := fun wr hb => adj_of ((HM1.out.inLists HN.out.symm).whole hb) HN.out.symm hzz
          have HST : Hid (ASt w7 w7 w1.heap.size n (w3.heap.size + 1 + 1 + 1) (w3.heap.size + 1 + 1) w2.heap.size w3.heap.size (w3.heap.size + 1) bn cn2 zs.length src en (fun0 arcs0) 0 arcs0) :=
            ⟨R7, none, 0, none, 0, _, _, [], zs, [], hG7, Flow.start hrng hsrt, rfl, by omega, by simp, by simp, by simp, fun x hx => by simp at hx, fun v hv => .inl (by rw [List.getD_eq_getElem?_getD, List.getElem?_replicate, if_pos hv]; rfl), Below.refl _ _⟩
          have HPL : Hid ((∀ r, ∀ x ∈ fun0 arcs0 r, x < n) ∧ ∀ r, (fun0 arcs0 r).length ≤ 1048576) := ⟨hrng, hlen0⟩
          have HB17 : Hid (Below w1.heap.size w1 w7) := b17
          have hdeg := (HADJ.out w7 b17).top src hsn
          obtain ⟨al, cl, hvs, _⟩ := (HADJ.out w7 b17).row src hsn
          rw [hvs, Nat.zero_add] at hdeg
          have hdl : (arcs0.getD src []).length ≤ 1048576 := hlen0 src
          obtain ⟨deg, hdg⟩ : ∃ deg, deg = (arcs0.getD src []).length := ⟨_, rfl⟩
          rw [← hdg] at hdeg hdl
          have HDG : Hid (deg = (fun0 arcs0 src).length) := hdg
          clear hw7 hgo hzz hal0 hout hrng hsrt hlen0 s5 b12 b13 b17 hG7 hvs hdg harcs0
          generalize w3.heap.size + 1 + 1 + 1 = bg at HST ⊢
          go_wp2_with fail
          go_loopw [19, 21, 22] (fun cn' dn i wr => Hid (∃ (c : Nat) (arcs : List (List Nat)), cn' = .int .i64 c ∧ dn = .bool false ∧ i = .int .i64 c ∧ c ≤ deg ∧ ASt w7 wr w1.heap.size n bg (w3.heap.size + 1 + 1) w2.heap.size w3.heap.size (w3.heap.size + 1) bn cn2 zs.length src en (fun0 arcs0) c arcs)) (fun _ _ i _ => deg + 1 - (intOf i).toNat)
          case atStart => exact ⟨0, arcs0, rfl, rfl, rfl, Nat.zero_le _, HST⟩
          case round =>
            clear HST hdeg
            obtain ⟨c3, arcs3, rfl, rfl, rfl, hcd, hst⟩ := hrel.out
            have hr28 := round28 w7 wr _ _ _ _ _ _ _ _ _ _ _ _ _ _ _ _ (round43 w7 wr _ _ _ _ _ _ _ _ _ _ sn tn src en c3 _ arcs3 es et hse k1 hsn htn (fun u => Nat.le_trans (HPL.out.2 u) (by omega)) hst)
            have HR28 : Hid _ := hr28
            clear hrel hst hr28
            go_wp2_with fail
            refine Calls.mono HR28.out ?_
            rintro e w8 (⟨rfl, arcs8, hst8⟩ | ⟨rfl, arcs8, hst8, hno⟩)
            · have HST8 : Hid _ := hst8
              clear hst8 HR28
              go_wp2
              go_roundw
              case rel =>
                refine ⟨c3 + 1, arcs8, by go_num, rfl, by go_num, ?_, HST8⟩
                obtain ⟨_, _, _, _, _, _, _, _, _, _, _, hF, _⟩ := HST8.out
                have := hF.lsrc
                rw [HDG.out]
                omega
              case measure => simp [intOf]; omega
            · obtain ⟨R8, ao8, co8, at8, ct8, d8, via8, O8, next8, trail8, hG8, hF8, _, _, _, _, _, _, _, hb8⟩ := hst8
              obtain ⟨hf2, _⟩ := hG8.field
              have HADJ8 : Hid (Adj w8 w2.heap.size 0 n arcs8 (fun u => (R8 (u + 1)).v)) := hG8.adj
              have HF8 : Hid (Flow n src en (fun0 arcs0) (fun0 arcs8) c3) := hF8
              have HNO : Hid _ := hno
              have HADJ0 : Hid (∀ wr, Below w8.heap.size w8 wr → Adj wr w0.heap.size 0 n arcs0 (fun u => (R1 (u + 1)).v)) := fun wr hb =>
                HADJ.out wr ((HB17.out.trans hb8).trans (below_le hb (HB17.out.trans hb8).size))
              have Hb8 : Hid (Below w.heap.size w w8) := Hb7.out.trans (below_le hb8 Hb1.out.size)
              have h33 := arcs33 w8 bg _ hf2
              have H33 : Hid _ := h33
              clear HR28 hG8 hF8 hno hb8 h33 hf2 HADJ HB17 Hb7 HM1 HM3 HO2 Hb1 Hb2 HGOOD HL HI HC HD HGR HS
              go_wp2_with fail
              refine Calls.mono H33.out ?_
              rintro e w' ⟨rfl, hw'⟩
              rw [hw']
              clear hw' H33
              go_wp2_with fail
              go_loopw [24] (fun i wr => Hid (∃ k : Nat, k ≤ n ∧ i = .int .i64 k ∧ wr = w8)) (fun i _ => n - (intOf i).toNat)
              case atStart => exact ⟨0, Nat.zero_le _, rfl, rfl⟩
              case round =>
                obtain ⟨u, hu, rfl, hwr⟩ := hrel.out
                rw [hwr]
                clear hrel hwr
                by_cases hun : u < n
                · have htop := HADJ8.out.top u hun
                  obtain ⟨al8, cl8, hv8, hrow⟩ := HADJ8.out.row u hun
                  rw [hv8, Nat.zero_add] at htop
                  have hl8 : (fun0 arcs8 u).length ≤ 1048576 := Nat.le_trans (HF8.out.len' u) (HPL.out.2 u)
                  have hr8 : ∀ x ∈ fun0 arcs8 u, x < n := HF8.out.rng u
                  unfold fun0 at hl8 hr8
                  obtain ⟨L, hL⟩ : ∃ L, L = arcs8.getD u [] := ⟨_, rfl⟩
                  rw [← hL] at htop hrow hl8 hr8
                  have HROW : Hid (∀ j, j < L.length → ∃ bl ol, al8 = some ⟨bl, ol, none⟩ ∧ w8.cell? ⟨bl, ol + j, none⟩ = some (.int .i64 ((L.getD j 0 : Nat) : Int)) ∧ L.getD j 0 < n) := by
                    intro j hj
                    obtain ⟨bl, ol, e1, e2⟩ := hrow j hj
                    exact ⟨bl, ol, e1, e2, hr8 _ (getD_mem hj)⟩
                  clear hrow hr8 hL hv8
                  go_wp2_with fail
                  go_loopw [25] (fun i wr => Hid (∃ k : Nat, k ≤ L.length ∧ i = .int .i64 k ∧ wr = w8)) (fun i _ => L.length - (intOf i).toNat)
                  case atStart => exact ⟨0, Nat.zero_le _, rfl, rfl⟩
                  case round =>
                    obtain ⟨j, hj, rfl, hwr⟩ := hrel.out
                    rw [hwr]
                    clear hrel hwr
                    by_cases hjl : j < L.length
                    · obtain ⟨bl, ol, hal, hcj, hxn⟩ := HROW.out j hjl
                      subst hal
                      obtain ⟨x, hx⟩ : ∃ x, x = L.getD j 0 := ⟨_, rfl⟩
                      rw [← hx] at hcj hxn
                      clear hx
                      go_wp2
                      go_roundw
                      case rel => exact ⟨j + 1, by omega, by go_num, by trivial⟩
                      case measure => simp [intOf]; omega
                    · go_wp2
                      go_roundw
                      case rel => exact ⟨u + 1, by omega, by go_num, by trivial⟩
                      case measure => simp [intOf]; omega
                · have hzb := zbfs_any w8 w2.heap.size 0 n n arcs8 _ src k1 hsn (fun u hu => ⟨Nat.le_trans (HF8.out.len' u) (Nat.le_trans (HPL.out.2 u) (by omega)), HF8.out.rng u⟩) HADJ8.out
                  have HZB : Hid _ := hzb
                  clear hzb
                  go_wp2_with fail
                  refine Calls.mono HZB.out ?_
                  rintro e w9 ⟨cd9, cq9, d9, via9, O9, T9, rfl, hw9, hT9, hB9⟩
                  have hen9 : d9.getD en (-1) < 0 := by
                    by_cases he : en ∈ O9
                    · obtain ⟨p, hp, hpe⟩ := mem_getD he
                      obtain ⟨kk, _, hpath⟩ := hB9.path p hp
                      rw [hpe] at hpath
                      exact absurd hpath (HNO.out kk)
                    · rw [hB9.neg en htn he]; decide
                  have b89 : Below w8.heap.size w8 w9 := by rw [hw9]; exact ((Below.refl _ _).alloc (Nat.le_refl _) _).alloc (by simp) _
                  have hAdj := HADJ0.out w9 b89
                  have Hb9 : Hid (Below w.heap.size w w9) := Hb8.out.trans (below_le b89 Hb8.out.size)
                  have hcell : ∀ k, k < n → w9.cell? ⟨w8.heap.size, k, none⟩ = some (.int .i64 (d9.getD k (-1))) := by
                    intro k hk
                    rw [hw9, World.cell?_alloc_lt _ _ _ (by simp)]
                    rw [cell_of_row _ w8.heap.size k cd9 3 (0, 0) (heap_alloc_new w8 _)]
                    exact hT9.getD k (by rw [hB9.dlen]; exact hk)
                  obtain ⟨rr, hrr⟩ : ∃ rr : Nat → Bool, rr = fun x => decide (0 ≤ d9.getD x (-1)) := ⟨_, rfl⟩
                  have hcut : c3 = sumN (leave (fun0 arcs0) rr) n := by
                    refine HF8.out.cut hse hsn HPL.out.1 rr ?_ ?_ ?_
                    · rw [hrr]; exact decide_eq_true (by rw [hB9.dsrc]; decide)
                    · rw [hrr]; exact decide_eq_false (by omega)
                    · intro x hx hrx y hy
                      rw [hrr] at hrx ⊢
                      simp only [decide_eq_true_eq] at hrx ⊢
                      exact (hB9.inO y (HF8.out.rng x y hy)).2 (hB9.closed ((hB9.inO x hx).1 hrx) hy)
                  have HRR : Hid (∀ x, rr x = true ↔ 0 ≤ d9.getD x (-1)) := fun x => by rw [hrr]; simp
                  have HAD : Hid _ := hAdj
                  have HCE : Hid _ := hcell
                  have HCUT : Hid _ := hcut
                  have hce := hcell en htn
                  obtain ⟨xe, hxe⟩ : ∃ xe, xe = d9.getD en (-1) := ⟨_, rfl⟩
                  rw [← hxe] at hce hen9
                  clear hcell hAdj hcut hrr hxe hw9 hT9 hB9 b89 HZB HADJ8 HNO HADJ0 Hb8
                  go_wp2_with fail
                  go_loopw [27, 28] (fun z i wr => Hid (∃ k : Nat, k ≤ n ∧ i = .int .i64 k ∧ z = .int .i64 ((sumN (leave (fun0 arcs0) rr) k : Nat) : Int) ∧ wr = w9)) (fun _ i _ => n - (intOf i).toNat)
                  case atStart => exact ⟨0, Nat.zero_le _, rfl, rfl, rfl⟩
                  case round =>
                    clear hce
                    obtain ⟨u, hu, rfl, rfl, hwr⟩ := hrel.out
                    rw [hwr]
                    clear hrel hwr
                    have hsl := leave_le (fun0 arcs0) rr HPL.out.2 u
                    by_cases hun : u < n
                    · have hcu := HCE.out u hun
                      obtain ⟨xu, hxu⟩ : ∃ xu, xu = d9.getD u (-1) := ⟨_, rfl⟩
                      rw [← hxu] at hcu
                      by_cases hneg : xu < 0
                      · have HSU : Hid (sumN (leave (fun0 arcs0) rr) (u + 1) = sumN (leave (fun0 arcs0) rr) u) := by
                          have : leave (fun0 arcs0) rr u = 0 := by
                            unfold leave
                            rw [if_neg (fun h => by have := (HRR.out u).1 h; omega)]
                          show sumN (leave (fun0 arcs0) rr) u + leave (fun0 arcs0) rr u = _
                          omega
                        clear hxu
                        generalize sumN (leave (fun0 arcs0) rr) u = Su at *
                        go_wp2
                        go_roundw
                        case rel => exact ⟨u + 1, by omega, by go_num, by rw [HSU.out], by trivial⟩
                        case measure => simp [intOf]; omega
                      · have hru : rr u = true := (HRR.out u).2 (by omega)
                        have HSU : Hid (sumN (leave (fun0 arcs0) rr) (u + 1) = sumN (leave (fun0 arcs0) rr) u + ((arcs0.getD u []).filter fun y => !rr y).length) := by
                          show sumN (leave (fun0 arcs0) rr) u + leave (fun0 arcs0) rr u = _
                          unfold leave
                          rw [if_pos hru]
                          rfl
                        have htop := HAD.out.top u hun
                        obtain ⟨al9, cl9, hv9, hrow⟩ := HAD.out.row u hun
                        rw [hv9, Nat.zero_add] at htop
                        have hl9 : (fun0 arcs0 u).length ≤ 1048576 := HPL.out.2 u
                        have hr9 : ∀ x ∈ fun0 arcs0 u, x < n := HPL.out.1 u
                        unfold fun0 at hl9 hr9
                        obtain ⟨L, hL⟩ : ∃ L, L = arcs0.getD u [] := ⟨_, rfl⟩
                        rw [← hL] at htop hrow hl9 hr9 HSU
                        have HROW : Hid (∀ j, j < L.length → ∃ bl ol, al9 = some ⟨bl, ol, none⟩ ∧ w9.cell? ⟨bl, ol + j, none⟩ = some (.int .i64 ((L.getD j 0 : Nat) : Int)) ∧ L.getD j 0 < n) := by
                          intro j hj
                          obtain ⟨bl, ol, e1, e2⟩ := hrow j hj
                          exact ⟨bl, ol, e1, e2, hr9 _ (getD_mem hj)⟩
                        clear hrow hr9 hL hv9 hxu hru
                        obtain ⟨Su, hSu⟩ : ∃ Su, Su = sumN (leave (fun0 arcs0) rr) u := ⟨_, rfl⟩
                        have HSU2 : Hid (Su = sumN (leave (fun0 arcs0) rr) u) := hSu
                        rw [← hSu] at hsl ⊢
                        clear hSu
                        go_wp2_with fail
                        go_loopw [27, 29] (fun z i wr => Hid (∃ k : Nat, k ≤ L.length ∧ i = .int .i64 k ∧ z = .int .i64 (((Su + ((L.take k).filter fun y => !rr y).length) : Nat) : Int) ∧ wr = w9)) (fun _ i _ => L.length - (intOf i).toNat)
                        case atStart => exact ⟨0, Nat.zero_le _, rfl, by simp, rfl⟩
                        case round =>
                          obtain ⟨j, hj, rfl, rfl, hwr⟩ := hrel.out
                          rw [hwr]
                          clear hrel hwr
                          by_cases hjl : j < L.length
                          · obtain ⟨bl, ol, hal, hcj, hxn⟩ := HROW.out j hjl
                            subst hal
                            have htf := take_filter (fun y => !rr y) L j hjl
                            have hfl : ((L.take j).filter fun y => !rr y).length ≤ L.length := Nat.le_trans (List.length_filter_le _ _) (by rw [List.length_take]; omega)
                            obtain ⟨x, hx⟩ : ∃ x, x = L.getD j 0 := ⟨_, rfl⟩
                            rw [← hx] at hcj hxn htf
                            have hcx := HCE.out x hxn
                            obtain ⟨xx, hxx⟩ : ∃ xx, xx = d9.getD x (-1) := ⟨_, rfl⟩
                            rw [← hxx] at hcx
                            obtain ⟨F, hF⟩ : ∃ F, F = ((L.take j).filter fun y => !rr y).length := ⟨_, rfl⟩
                            rw [← hF] at htf hfl ⊢
                            by_cases hxneg : xx < 0
                            · have htf2 : ((L.take (j + 1)).filter fun y => !rr y).length = F + 1 := by
                                rw [htf]
                                have : rr x = false := by
                                  cases hb : rr x
                                  · rfl
                                  · have := (HRR.out x).1 hb; omega
                                simp [this]
                              have HTF : Hid _ := htf2
                              clear htf htf2 hF hxx hx
                              go_wp2
                              go_roundw
                              case rel => exact ⟨j + 1, by omega, by go_num, by rw [HTF.out]; go_num, by trivial⟩
                              case measure => simp [intOf]; omega
                            · have htf2 : ((L.take (j + 1)).filter fun y => !rr y).length = F := by
                                rw [htf]
                                have : rr x = true := (HRR.out x).2 (by omega)
                                simp [this]
                              have HTF : Hid _ := htf2
                              clear htf htf2 hF hxx hx
                              go_wp2
                              go_roundw
                              case rel => exact ⟨j + 1, by omega, by go_num, by rw [HTF.out], by trivial⟩
                              case measure => simp [intOf]; omega
                          · have hjj : j = L.length := by omega
                            have hE : Su + ((L.take j).filter fun y => !rr y).length = sumN (leave (fun0 arcs0) rr) (u + 1) := by
                              rw [HSU.out, HSU2.out, hjj, List.take_length]
                            have HE : Hid _ := hE
                            clear hE
                            have hfl : ((L.take j).filter fun y => !rr y).length ≤ L.length := Nat.le_trans (List.length_filter_le _ _) (by rw [List.length_take]; omega)
                            obtain ⟨F, hF⟩ : ∃ F, F = ((L.take j).filter fun y => !rr y).length := ⟨_, rfl⟩
                            rw [← hF] at hfl ⊢ HE
                            clear hF hjj
                            go_wp2
                            go_roundw
                            case rel => exact ⟨u + 1, by omega, by go_num, by rw [← HE.out], by trivial⟩
                            case measure => simp [intOf]; omega
                    · have hun' : u = n := by omega
                      subst hun'
                      rw [← HCUT.out]
                      go_wp2
                      go_ret
                      exact ⟨ret_bool (by simp), Hb9⟩
end Go.Proofs.Qxb6601175a
