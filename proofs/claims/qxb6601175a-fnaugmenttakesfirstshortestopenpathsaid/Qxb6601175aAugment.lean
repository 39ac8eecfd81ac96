/-
  THE WALK of (*Graph).augment.
-/
import Derived.Test.Qxb6601175aTrail
import Derived.Deep.LoopGhost
import Derived.Deep.RegionWith
import Derived.BigQuiet
namespace Go.Proofs.Qxb6601175a
open Go.RowKit

abbrev sl (b n c : Nat) : Value := .slice (some ⟨b, 0, none⟩) n c

theorem wrap_in (x : Int) (h0 : 0 ≤ x) (h1 : x < 9223372036854775808) : IntKind.i64.wrap x = x := by
  unfold IntKind.wrap
  simp [IntKind.bits, IntKind.signed]
  omega

/-- what augment leaves -/
structure Aug (w w' : World) (ok : Bool) (B n bg bw : Nat) (arcs : List (List Nat)) (ba ca bd cd bv cv : Nat) (vn vt : Value) (via : List Nat) (next : List Int) (trail : List Nat) (src en : Nat) (R' : Nat → Rw) (vo' vt' : Value) (d' : List Int) (via' O' : List Nat) (T : Nat → Nat × Nat) (arcs' : List (List Nat)) (next' : List Int) (trail' : List Nat) : Prop where
  gs : GS w' B n bg bw R' arcs' ba ca bd cd bv cv vo' vn vt' d' via' O' next' trail'
  bfs : Bfs n (fun0 arcs) src (fun v => via.getD v 0) O'.length 0 d' via' O' T
  below : Below B w w'
  ends : (d'.getD en (-1) < 0 ∧ ok = false ∧ arcs' = arcs ∧ next' = next ∧ trail' = trail) ∨
    (0 ≤ d'.getD en (-1) ∧ ok = true ∧ Run (fun0 arcs) d' via' en trail' ∧ trail'.head? = some src ∧ (∀ x ∈ trail', x ∈ O') ∧ arcs'.length = n ∧ fun0 arcs' = aug en trail' (fun0 arcs) ∧ next' = nxt trail' next)

set_option maxHeartbeats 16000000 in
set_option maxRecDepth 100000 in
theorem augment_any (w : World) (B n bg bw : Nat) (R : Nat → Rw) (arcs : List (List Nat)) (ba ca bd cd bv cv : Nat) (ao : Option Addr) (co bn cn : Nat) (at' : Option Addr) (ct : Nat) (d : List Int) (via O : List Nat) (next : List Int) (trail : List Nat) (s t src en : Nat)
    (es : 2 * (s : Int) = (src : Int)) (et : 2 * (t : Int) = (en : Int))
    (hn : n ≤ 1048576) (hsrc : src < n) (hen : en < n) (hnx : 2 * next.length = n) (hdl : d.length = n) (hvl : via.length = n) (hOl : O.length ≤ n) (hOn : ∀ x ∈ O, x < n) (hdO : ∀ v, v < n → d.getD v (-1) = -1 ∨ v ∈ O)
    (hal : ∀ u, (fun0 arcs u).length ≤ 2097152 ∧ ∀ x ∈ fun0 arcs u, x < n) (hsr : ∀ u, (fun0 arcs u).Pairwise (· ≤ ·))
    (hG : GS w B n bg bw R arcs ba ca bd cd bv cv (.slice ao O.length co) (sl bn next.length cn) (.slice at' trail.length ct) d via O next trail) :
    Calls Try.prog 43 #[.pointer (some ⟨bg, 0, none⟩), .int .i64 (s : Int), .int .i64 (t : Int)] w fun e w' => ∃ ok R' vo' vt' d' via' O' T arcs' next' trail', e = .returned (.bool ok) ∧
      Aug w w' ok B n bg bw arcs ba ca bd cd bv cv (sl bn next.length cn) (.slice at' trail.length ct) via next trail src en R' vo' vt' d' via' O' T arcs' next' trail' := by
  obtain ⟨hf2, hf3, hf4, hf5, hff⟩ := hG.field
  have hwalk := walk_any w B (n + 8) n bw R arcs ba ca bd cd bv cv ao co d via O src hn hsrc hdl hvl hOl hOn hdO (fun u _ => hal u) hG.ws
  have HW : Hid _ := hwalk
  have HG : Hid _ := hG
  have HA : Hid _ := hal
  have HSR : Hid _ := hsr
  clear hwalk hG hal hsr hdO hOn
  go_enter Try.func43, Try.ntmps43
  go_upto_region 2 with fail
  refine Calls.mono HW.out ?_
  rintro e w1 ⟨rfl, vo1, d1, via1, O1, T1, hS1, hB1, hb1⟩
  have HG1 : Hid _ := HG.out.walked hS1
  have HB1 : Hid _ := hB1
  have Hb1 : Hid _ := hb1
  clear hS1 hB1 hb1 HW
  clear hf2 hf3 hf4 hf5 hff hdl hvl hOl HG
  obtain ⟨hf2, hf3, hf4, hf5, hff⟩ := HG1.out.field
  obtain ⟨hg0, hg1, hg2, hg3, hgf⟩ := HG1.out.ws.field
  have hde := (HG1.out.ws.cellD en (by rw [HB1.out.dlen]; exact hen)).1
  obtain ⟨x, hx⟩ : ∃ x, x = d1.getD en (-1) := ⟨_, rfl⟩
  rw [← hx] at hde
  by_cases hx0 : x < 0
  · have HX : Hid _ := hx
    clear hx
    go_wp2
    go_ret
    exact ⟨false, R, vo1, _, d1, via1, O1, T1, arcs, next, trail, rfl, ⟨HG1, HB1, Hb1, .inl ⟨by rw [← HX.out]; exact hx0, rfl, rfl, rfl, rfl⟩⟩⟩
  · have HX : Hid (x = d1.getD en (-1)) := hx
    clear hx
    have heO : en ∈ O1 := (HB1.out.inO en hen).1 (by rw [← HX.out]; omega)
    have HEO : Hid (en ∈ O1) := heO
    have hsl0 := slice_none_of at' trail.length ct
    obtain ⟨q1, q2, R2, q3, q4⟩ := HG1.out.setT (grown_refl w1 _) (vt' := .slice at' 0 ct) (trail' := []) HG1.out.rowT.none_of (.inr (.inl (by rw [ownBlock_slice, ownBlock_slice])))
    have HQ : Hid _ := And.intro q3 (Hb1.out.trans q4)
    clear q1 q2 q3 q4 heO
    go_upto_region 4 with fail
    go_cut [] (fun wx => Hid (∃ R', GS wx B n bg bw R' arcs ba ca bd cd bv cv vo1 (sl bn next.length cn) (.slice at' 0 ct) d1 via1 O1 next [] ∧ Below B w wx))
    case first =>
      go_wp2
      all_goals go_meet
      all_goals exact ⟨_, HQ⟩
    case rest =>
      obtain ⟨R3, hG, hb⟩ := hcut.out
      clear HQ hcut hsl0 hf2 hf3 hf4 hf5 hff hg0 hg1 hg2 hg3 hgf hde HG1 Hb1
      go_wp2_with fail
      go_loopw [7] (fun c wr => Hid (∃ (L : List Nat) (cur : Nat) (R' : Nat → Rw) (at2 : Option Addr) (ct2 : Nat), c = .int .i64 cur ∧ GS wr B n bg bw R' arcs ba ca bd cd bv cv vo1 (sl bn next.length cn) (.slice at2 L.length ct2) d1 via1 O1 next L ∧ Run (fun0 arcs) d1 via1 en (cur :: L.reverse) ∧ (∀ x ∈ cur :: L.reverse, x ∈ O1) ∧ Below B w wr)) (fun c _ => (d1.getD (intOf c).toNat (-1)).toNat)
      case atStart => exact ⟨[], en, R3, at', ct, rfl, hG, (run_one _ _ _ _ _).2 rfl, fun x hx => by simp at hx; subst hx; exact HEO, hb⟩
      case round =>
        obtain ⟨L, cur, R4, at2, ct2, rfl, hG4, hrun, hrO, hb4⟩ := hrel.out
        clear hrel hG hb
        have hnd := Run.all _ hrun
        have hlen := nodup_le n _ hnd.1 (fun x hx => HB1.out.lt_of_mem (hrO x hx))
        simp only [List.length_cons, List.length_reverse] at hlen
        have hcO := hrO cur (by simp)
        have hcn := HB1.out.lt_of_mem hcO
        obtain ⟨hf2, hf3, hf4, hf5, hff⟩ := hG4.field
        have hown := hG4.rowT
        unfold Own1 at hown
        rw [ints_length, nz_length] at hown
        obtain ⟨i0, hi, hz0, hz1, hz2⟩ := info_parts info3
        have hHB := hG4.ws.hB
        have HG4 : Hid (GS wr B n bg bw R4 arcs ba ca bd cd bv cv vo1 (sl bn next.length cn) (.slice at2 L.length ct2) d1 via1 O1 next L) := hG4
        have HR : Hid (Run (fun0 arcs) d1 via1 en (cur :: L.reverse) ∧ ∀ x ∈ cur :: L.reverse, x ∈ O1) := ⟨hrun, hrO⟩
        have HC : Hid (cur ∈ O1) := hcO
        have Hb4 : Hid _ := hb4
        clear hG4 hrun hrO hb4 hnd hcO
        by_cases hcs : cur = src
        · obtain rfl : src = cur := hcs.symm
          go_upto_region 10 with (at_builtin; refine wpList_append_lies _ rfl _ _ 23 rfl B 3 i0 (.int .i64 0) 1 8 Try.underlying23 hi hz0 hz1 hz2 rfl (by decide) (.slice at2 L.length ct2) L.length (ints (nz L)) rfl (World.ownsRow.alloc hown _) ⟨wr.heap.size, 0, none⟩ 1 1 [.int .i64 (src : Int)] rfl rfl (cell_one_new _ _ _) (by intro u hu; simp at hu; subst hu; rfl) (by decide) (by unfold maxLen; omega) (by omega) (by simp; omega) (wr.heap.size + 1) (by simp) ?_; intro g cap w2 hown' hgrow hat hlt2; obtain ⟨q1, q2, R5, q3, q4⟩ := HG4.out.push hgrow (trail' := L ++ [src]) hown' (by rw [nz_append, ints_append]; rfl) (by simp) hat; have HQ : Hid _ := And.intro q3 (Hb4.out.trans q4); clear hown' hgrow hat q3 q4 HG4 Hb4 hown hi hz0 hz1 hz2 hlt2)
          generalize hw5 : w2.setCell _ _ = w5 at HQ ⊢
          obtain ⟨hG5, hb5⟩ := HQ.out
          clear HQ q1 q2 hw5 hf2 hf3 hf4 hf5 hff
          obtain ⟨hf2, hf3, hf4, hf5, hff⟩ := hG5.field
          have hrow := hG5.rowT
          have hll : L.length + 1 = (L ++ [src]).length := by simp
          rw [hll] at hrow
          have hrev := reverse_own hrow (by rw [← hll]; omega)
          rw [← hll] at hrev
          have HREV : Hid _ := hrev
          have HG5 : Hid _ := And.intro hG5 hb5
          clear hG5 hb5 hrow hrev hll
          go_upto_region 11 with fail
          refine Calls.mono HREV.out ?_
          rintro e w6 ⟨rfl, ho6, hg6⟩
          obtain ⟨R6, hG6, hb6⟩ := HG5.out.1.turnT hg6 ho6
          have hb6' := HG5.out.2.trans hb6
          obtain ⟨P, hP⟩ : ∃ P, P = (L ++ [src]).reverse := ⟨_, rfl⟩
          have hPc : P = src :: L.reverse := by rw [hP]; simp
          have hPl : L.length + 1 = P.length := by rw [hPc]; simp
          rw [← hP, hPl] at hG6
          have hrunP : Run (fun0 arcs) d1 via1 en P := by rw [hPc]; exact HR.out.1
          have hPO : ∀ x ∈ P, x ∈ O1 := by rw [hPc]; exact HR.out.2
          have hPh : P.head? = some src := by rw [hPc]; rfl
          have hPpos : 0 < P.length := by omega
          have hnd := Run.all _ hrunP
          have hmid := Mid.start (n := n) (en := en) (P := P) (arcs := arcs) (next := next) hPpos hG6.ws.fix.an hnd.2.1 HSR.out (fun x => (HA.out x).2) (fun x => (HA.out x).1)
          rw [hPl]
          rw [hPl] at hlen
          have HP : Hid (P.Nodup ∧ (∀ x ∈ P, x < n) ∧ Run (fun0 arcs) d1 via1 en P ∧ P.head? = some src ∧ ∀ x ∈ P, x ∈ O1) := ⟨hnd.1, fun x hx => HB1.out.lt_of_mem (hPO x hx), hrunP, hPh, hPO⟩
          have HM : Hid _ := And.intro hmid (And.intro hG6 hb6')
          clear hG6 hb6 hb6' HG5 HREV ho6 hg6 hP hPc hPl hrunP hPO hPh hnd hmid hf2 hf3 hf4 hf5 hff HR HC hHB
          go_wp2_with fail
          go_loopw [8] (fun c wr => Hid (∃ (i : Nat) (arcs' : List (List Nat)) (next' : List Int) (R' : Nat → Rw), c = .int .i64 ((i + 1 : Nat) : Int) ∧ Mid n en P (fun0 arcs) next i arcs' next' ∧ GS wr B n bg bw R' arcs' ba ca bd cd bv cv vo1 (sl bn next.length cn) (sl g P.length cap) d1 via1 O1 next' P ∧ Below B w wr)) (fun c _ => P.length - (intOf c).toNat)
          case atStart => exact ⟨0, arcs, next, R6, rfl, HM.out.1, HM.out.2.1, HM.out.2.2⟩
          case round =>
            obtain ⟨i, arcs2, next2, R7, rfl, hM, hG7, hb7⟩ := hrel.out
            clear hrel HM
            obtain ⟨hf2, hf3, hf4, hf5, hff⟩ := hG7.field
            obtain ⟨k, hk⟩ : ∃ k, k = i + 1 := ⟨_, rfl⟩
            have hk1 : (k : Int) - 1 = (i : Int) := by omega
            rw [← hk]
            by_cases hlt : k < P.length
            · have hi1 : i + 1 < P.length := by omega
              have hcu := hG7.rowT.cell i (by rw [ints_length, nz_length]; omega)
              have hcv := hG7.rowT.cell k (by rw [ints_length, nz_length]; omega)
              rw [ints_getD (nz P) i 0 (by rw [nz_length]; omega), nz_getD P i 0 (by omega)] at hcu
              rw [ints_getD (nz P) k 0 (by rw [nz_length]; omega), nz_getD P k 0 (by omega)] at hcv
              have harc := hM.arc hi1
              rw [← hk] at harc
              have hun : P.getD i 0 < n := HP.out.2.1 _ (getD_mem (by omega))
              have hvn : P.getD k 0 < n := HP.out.2.1 _ (getD_mem (by omega))
              have huv : P.getD i 0 ≠ P.getD k 0 := fun e => by
                have := getD_inj HP.out.1 (by omega) (by omega) e
                omega
              obtain ⟨u, hu⟩ : ∃ u, u = P.getD i 0 := ⟨_, rfl⟩
              obtain ⟨v, hv⟩ : ∃ v, v = P.getD k 0 := ⟨_, rfl⟩
              rw [← hu, ← hv] at harc huv
              rw [← hu] at hcu hun
              rw [← hv] at hcv hvn
              have HUV : Hid (u = P.getD i 0 ∧ v = P.getD k 0 ∧ k = i + 1) := ⟨hu, hv, hk⟩
              have HM : Hid (Mid n en P (fun0 arcs) next i arcs2 next2) := hM
              have HG7 : Hid _ := And.intro hG7 hb7
              have HARC : Hid (v ∈ arcs2.getD u []) := harc
              clear hM hG7 hb7 harc hu hv hk
              go_upto_region 14 with fail
              go_cut [9, 10] (fun a b wx => a = .int .i64 (u : Int) ∧ b = .int .i64 (v : Int) ∧ Hid (GS wx B n bg bw R7 arcs2 ba ca bd cd bv cv vo1 (sl bn next.length cn) (sl g P.length cap) d1 via1 O1 next2 P ∧ Below B w wx))
              case first =>
                go_quiet (fail)
                all_goals (try go_wp2)
                all_goals go_meet
                all_goals refine ⟨rfl, rfl, GS.keep HG7.out ?_⟩
                all_goals exact ⟨rfl, rfl, rfl, rfl⟩
              case rest =>
                obtain ⟨rfl, rfl, hcut'⟩ := hcut
                obtain ⟨hG8, hb8⟩ := hcut'.out
                clear HG7 hcut' hf2 hf3 hf4 hf5 hff hcu hcv
                obtain ⟨hf2, hf3, hf4, hf5, hff⟩ := hG8.field
                have hbga := hG8.ne
                have hlb := HM.out.bound
                have hil := HM.out.lt
                have hlu := hlb u
                obtain ⟨bl, cl, kx, hkl, hval, hidx, hdel⟩ := hG8.del u v hun HARC.out (by unfold fun0 at hlu; omega)
                have hca := hG8.ws.cellA u hun
                rw [hval] at hca
                unfold fun0 at hlu
                generalize hluE : (arcs2.getD u []).length = lu at *
                have hwr := wrap_in ((kx : Int) + 1) (by omega) (by omega)
                have HIDX : Hid _ := hidx
                have HDEL : Hid _ := hdel
                have HG8 : Hid _ := And.intro hG8 hb8
                clear hG8 hb8 hidx hdel hval hluE hlb
                go_upto_region 16 with fail
                refine Calls.mono HIDX.out ?_
                rintro e w' ⟨rfl, hw'⟩
                rw [hw']
                clear hw' HIDX
                go_upto_region 16 with fail
                go_cut [] (fun wx => Hid (∃ R', GS wx B n bg bw R' (arcs2.set u ((arcs2.getD u []).erase v)) ba ca bd cd bv cv vo1 (sl bn next.length cn) (sl g P.length cap) d1 via1 O1 next2 P ∧ Below B w wx))
                case first =>
                  go_region_with (first | (go_at_call 49; refine Calls.mono (HDEL.out _ ?_) ?_; exact ⟨rfl, rfl, rfl, rfl⟩; rintro e w' ⟨rfl, c1, c2, c3, HX⟩))
                  all_goals (try go_wp2_with fail)
                  all_goals go_meet
                  all_goals obtain ⟨R9, hx⟩ := HX.out
                  all_goals refine ⟨R9, GS.keep ⟨hx.1, HG8.out.2.trans hx.2⟩ ?_⟩
                  all_goals exact ⟨rfl, rfl, rfl, rfl⟩
                case rest =>
                  obtain ⟨R9, hG9, hb9⟩ := hcut.out
                  clear hcut HDEL HG8 hf2 hf3 hf4 hf5 hff hca hwr hkl hlu
                  obtain ⟨hf2, hf3, hf4, hf5, hff⟩ := hG9.field
                  have HG9 : Hid _ := And.intro hG9 hb9
                  go_upto_if 134 with fail
                  go_cut [11] (fun _ wx => Hid (∃ R' arcs', arcs'.length = n ∧ fun0 arcs' = step en (fun0 arcs2) u v ∧ GS wx B n bg bw R' arcs' ba ca bd cd bv cv vo1 (sl bn next.length cn) (sl g P.length cap) d1 via1 O1 next2 P ∧ Below B w wx))
                  case first =>
                    by_cases hve : v = en
                    · have HST : Hid _ := (step_lists (en := en) HM.out.len hun hvn huv).1 hve
                      subst hve
                      clear hG9 hb9
                      go_wp2
                      all_goals go_meet
                      all_goals exact ⟨R9, _, by rw [List.length_set]; exact HM.out.len, HST, HG9⟩
                    · have HST : Hid _ := (step_lists (en := en) HM.out.len hun hvn huv).2 hve
                      have hgv : (arcs2.set u ((arcs2.getD u []).erase v)).getD v [] = arcs2.getD v [] := getD_set_ne _ _ _ _ _ huv
                      have hlv : (fun0 arcs2 v).length ≤ 2097152 + i := HM.out.bound v
                      have hsv : (fun0 arcs2 v).Pairwise (· ≤ ·) := HM.out.sorted v
                      unfold fun0 at hlv hsv
                      obtain ⟨al, cl2, k2, hval, hsrch, hins⟩ := hG9.insert v u hvn (by rw [hgv]; omega) (by rw [hgv]; exact hsv)
                      have hcl : k2 = k2 := rfl
                      have hca := hG9.ws.cellA v hvn
                      rw [hval] at hca
                      rw [hgv] at hca hsrch hins
                      have HINS : Hid _ := hins
                      have HSRCH : Hid _ := hsrch
                      generalize (arcs2.getD v []).length = lv at hca hlv HSRCH HINS
                      clear hG9 hb9 hval hsrch hins hsv hgv hcl
                      have hve' : (v : Int) ≠ (en : Int) := by omega
                      go_upto_region 19 with fail
                      refine Calls.mono HSRCH.out ?_
                      rintro e w' ⟨bb, rfl, q, hw'⟩
                      have hsame : Same wc w' := by rw [hw']; exact ⟨rfl, rfl, rfl, rfl⟩
                      have HINS2 : Hid (∀ W, Same (w'.alloc (.cells #[.int .i64 (u : Int)] 3)) W → Calls Try.prog 51 #[.slice al lv cl2, .int .i64 (k2 : Int), .slice (some ⟨w'.heap.size, 0, none⟩) 1 1] W fun e w'' => ∃ a1 n1 c1, e = .returned (.slice a1 n1 c1) ∧
                          w''.cell? ⟨ba, v, none⟩ = some (.slice al lv cl2) ∧ w''.frozen? ⟨ba, v, none⟩ = false ∧ w''.cell? ⟨bg, 2, none⟩ = some (.slice (some ⟨ba, 0, none⟩) n ca) ∧
                          Hid (∃ R', GS (w''.setCell ⟨ba, v, none⟩ (.slice a1 n1 c1)) B n bg bw R' ((arcs2.set u ((arcs2.getD u []).erase v)).set v (ins u (arcs2.getD v []))) ba ca bd cd bv cv vo1 (sl bn next.length cn) (sl g P.length cap) d1 via1 O1 next2 P ∧ Below B wc (w''.setCell ⟨ba, v, none⟩ (.slice a1 n1 c1)))) := by
                        subst hw'
                        intro W hs
                        exact HINS.out W ⟨hs.heap, hs.os, hs.tape, hs.output⟩
                      have hf2' := hf2
                      have hca' := hca
                      rw [show wc.cell? ⟨bg, 2, none⟩ = w'.cell? ⟨bg, 2, none⟩ by rw [hw']; rfl] at hf2'
                      rw [show wc.cell? ⟨ba, v, none⟩ = w'.cell? ⟨ba, v, none⟩ by rw [hw']; rfl] at hca'
                      have hbg : bg < w'.heap.size := World.block_lt_of_cell? w' _ hf2'
                      have hba : ba < w'.heap.size := World.block_lt_of_cell? w' _ hca'
                      clear hw' HSRCH HINS hf2 hca
                      go_upto_region 19 with fail
                      go_region_with (first | (go_at_call 51; refine Calls.mono (HINS2.out _ ?_) ?_; exact ⟨rfl, rfl, rfl, rfl⟩; rintro e w2 ⟨a1, n1, c1, rfl, c2, c3, c4, HX⟩))
                      all_goals (try go_wp2_with fail)
                      all_goals go_meet
                      all_goals obtain ⟨R10, hx⟩ := HX.out
                      all_goals refine ⟨R10, _, ?_, HST, GS.keep ⟨hx.1, HG9.out.2.trans hx.2⟩ ?_⟩
                      all_goals first | exact ⟨rfl, rfl, rfl, rfl⟩ | (rw [List.length_set, List.length_set]; exact HM.out.len)
                  case rest =>
                    obtain ⟨R10, arcs3, hl3, hst, hG10, hb10⟩ := hcut.out
                    clear hcut HG9 hf2 hf3 hf4 hf5 hff
                    obtain ⟨hf2, hf3, hf4, hf5, hff⟩ := hG10.field
                    have hMn := HM.out.nlen
                    obtain ⟨u2, hu2⟩ : ∃ u2, u2 = u / 2 := ⟨_, rfl⟩
                    obtain ⟨v2, hv2⟩ : ∃ v2, v2 = v / 2 := ⟨_, rfl⟩
                    have hul : u2 < next2.length := by omega
                    have hcn := hG10.rowN.cell u2 (by rw [ints_length]; exact hul)
                    rw [ints_getD next2 u2 0 hul] at hcn
                    have hcf := hG10.rowN.frozen u2
                    obtain ⟨z, hz⟩ : ∃ z, z = next2.getD u2 0 := ⟨_, rfl⟩
                    rw [← hz] at hcn
                    have hstep := HM.out.step (by have := HUV.out; omega) HP.out.1 HP.out.2.1 (arcs' := arcs3) hl3 (by
                      rw [hst, HUV.out.1, HUV.out.2.1, HUV.out.2.2])
                    rw [← HUV.out.2.2, ← HUV.out.1, ← HUV.out.2.1] at hstep
                    unfold nxt1 at hstep
                    rw [← hu2, ← hv2] at hstep
                    obtain ⟨R11, hG11, hb11⟩ := hG10.setN u2 (v2 : Int)
                    have HG11 : Hid _ := And.intro hG11 (hb10.trans hb11)
                    have HG10 : Hid _ := And.intro hG10 hb10
                    have HSTEP : Hid _ := hstep
                    have hq1 : ((u : Int)) / 2 = (u2 : Int) := by omega
                    have hq2 : ((v : Int)) / 2 = (v2 : Int) := by omega
                    have hcul : u2 < next.length := by omega
                    clear hG10 hb10 hG11 hb11 hstep hz hst hu2 hv2
                    by_cases hodd : u % 2 = 1
                    · have hodd' : (u : Int) % 2 = 1 := by omega
                      by_cases hdiv : u2 = v2
                      · have HN : Hid _ := HSTEP.out
                        rw [if_neg (fun h => h.2 hdiv)] at HN
                        subst hdiv
                        clear HG11 HSTEP
                        go_wp2
                        go_roundw
                        case rel => exact ⟨k, arcs3, next2, R10, by go_num, HN, HG10.out.1, HG10.out.2⟩
                        case measure => simp [intOf]; omega
                      · have HN : Hid _ := HSTEP.out
                        rw [if_pos ⟨hodd, hdiv⟩] at HN
                        have hdiv' : (u2 : Int) ≠ (v2 : Int) := by omega
                        clear HG10 HSTEP
                        go_wp2
                        go_roundw
                        case rel => exact ⟨k, arcs3, next2.set u2 (v2 : Int), R11, by go_num, HN, HG11.out.1, HG11.out.2⟩
                        case measure => simp [intOf]; omega
                    · have HN : Hid _ := HSTEP.out
                      rw [if_neg (fun h => hodd h.1)] at HN
                      clear HG11 HSTEP
                      go_wp2
                      go_roundw
                      case rel => exact ⟨k, arcs3, next2, R10, by go_num, HN, HG10.out.1, HG10.out.2⟩
                      case measure => simp [intOf]; omega
            · have hfin := hM.last (by omega)
              have HG7 : Hid _ := And.intro hG7 hb7
              have HF : Hid _ := And.intro hfin hM.len
              clear hM hG7 hb7 hfin hk
              go_wp2
              go_ret
              exact ⟨true, R7, vo1, _, d1, via1, O1, T1, arcs2, next2, P, rfl, ⟨HG7.out.1, HB1, HG7.out.2, .inr ⟨by rw [← HX.out]; omega, rfl, HP.out.2.2.1, HP.out.2.2.2.1, HP.out.2.2.2.2, HF.out.2, HF.out.1.1, HF.out.1.2⟩⟩⟩
        · obtain ⟨k1, k2, k3⟩ := HB1.out.back HC.out hcs
          have hk0 := (HB1.out.inO _ (HB1.out.lt_of_mem k1)).2 k1
          have HK : Hid _ := And.intro k1 (And.intro k2 (And.intro k3 hk0))
          clear k1 k2 k3 hk0
          go_upto_region 7 with (at_builtin; refine wpList_append_lies _ rfl _ _ 23 rfl B 3 i0 (.int .i64 0) 1 8 Try.underlying23 hi hz0 hz1 hz2 rfl (by decide) (.slice at2 L.length ct2) L.length (ints (nz L)) rfl (World.ownsRow.alloc hown _) ⟨wr.heap.size, 0, none⟩ 1 1 [.int .i64 (cur : Int)] rfl rfl (cell_one_new _ _ _) (by intro u hu; simp at hu; subst hu; rfl) (by decide) (by unfold maxLen; omega) (by omega) (by simp; omega) (wr.heap.size + 1) (by simp) ?_; intro g cap w2 hown' hgrow hat hlt2; obtain ⟨q1, q2, R5, q3, q4⟩ := HG4.out.push hgrow (trail' := L ++ [cur]) hown' (by rw [nz_append, ints_append]; rfl) (by simp) hat; have HQ : Hid _ := And.intro q3 (Hb4.out.trans q4); clear hown' hgrow hat q3 q4 HG4 Hb4 hown hi hz0 hz1 hz2 hlt2)
          generalize hw5 : w2.setCell _ _ = w5 at HQ ⊢
          ·
            obtain ⟨hG5, hb5⟩ := HQ.out
            clear HQ q1 q2 hw5 hf2 hf3 hf4 hf5 hff
            obtain ⟨hf2, hf3, hf4, hf5, hff⟩ := hG5.field
            obtain ⟨hg0, hg1, hg2, hg3, hgf⟩ := hG5.ws.field
            have hv := (hG5.ws.cellV cur (by rw [HB1.out.vlen]; exact hcn)).1
            obtain ⟨y, hy⟩ : ∃ y, y = via1.getD cur 0 := ⟨_, rfl⟩
            rw [← hy] at hv
            have HY : Hid (y = via1.getD cur 0) := hy
            have HG5 : Hid _ := And.intro hG5 hb5
            clear hG5 hb5 hy
            go_wp2
            go_roundw
            case rel =>
              obtain ⟨k1, k2, k3, k4⟩ := HK.out
              rw [← HY.out] at k1 k2 k3
              refine ⟨L ++ [cur], y, R5, some ⟨g, 0, none⟩, cap, rfl, ?_, ?_, ?_, HG5.out.2⟩
              · rw [List.length_append]; exact HG5.out.1
              · rw [List.reverse_append, List.reverse_singleton, List.singleton_append, run_two]
                exact ⟨k2, k3, HY.out.symm, HR.out.1⟩
              · intro x hx
                rw [List.reverse_append, List.reverse_singleton, List.singleton_append] at hx
                rcases List.mem_cons.1 hx with e | hx
                · rw [e]; exact k1
                · exact HR.out.2 x hx
            case measure =>
              obtain ⟨k1, k2, k3, k4⟩ := HK.out
              rw [← HY.out] at k3 k4
              simp only [intOf, Int.toNat_natCast]
              omega
end Go.Proofs.Qxb6601175a
