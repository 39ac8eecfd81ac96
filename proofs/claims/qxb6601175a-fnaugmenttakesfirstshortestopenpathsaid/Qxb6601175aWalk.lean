/-
  THE WALK of (*walker).walk: a breadth-first walk.
-/
import Derived.Test.Qxb6601175aState
import Derived.Test.Qxb6601175aBfs
import Derived.OwnWalk
import Derived.RegionTactic
import Derived.BigRegion
import Derived.Deep.DeepCutAuto
import Derived.Deep.CutBlock
import Derived.Deep.Light
namespace Go.Proofs.Qxb6601175a
open Go.RowKit

theorem Bfs.dle {n : Nat} {A : Nat → List Nat} {src : Nat} {via0 : Nat → Nat} {i j : Nat} {d : List Int} {via O : List Nat} {T : Nat → Nat × Nat} (h : Bfs n A src via0 i j d via O T) : ∀ p, p < O.length → 0 ≤ d.getD (O.getD p 0) (-1) ∧ d.getD (O.getD p 0) (-1) ≤ p := by
  intro p
  induction p using Nat.strongRecOn with
  | ind p ih =>
    intro hp
    by_cases h0 : p = 0
    · subst h0
      rw [h.osrc, h.dsrc]; simp
    · obtain ⟨t1, _, _, t4⟩ := h.tree p (by omega) hp
      have := ih _ t1 (by omega)
      omega

/-- the walker's memory, the outer values written out; the order's value a letter -/
abbrev WS' (w : World) (B m n bw : Nat) (R : Nat → Rw) (arcs : List (List Nat)) (ba ca bd cd bv cv : Nat) (vo : Value) (d : List Int) (via O : List Nat) : Prop :=
  WS w B m n bw R arcs (.slice (some ⟨ba, 0, none⟩) n ca) (.slice (some ⟨bd, 0, none⟩) n cd) (.slice (some ⟨bv, 0, none⟩) n cv) vo d via O

section
variable {w : World} {B m n bw : Nat} {R : Nat → Rw} {arcs : List (List Nat)} {ba ca bd cd bv cv : Nat} {vo : Value} {d : List Int} {via O : List Nat}
theorem WS.cellD (h : WS' w B m n bw R arcs ba ca bd cd bv cv vo d via O) (k : Nat) (hk : k < d.length) : w.cell? ⟨bd, k, none⟩ = some (.int .i64 (d.getD k (-1))) ∧ w.frozen? ⟨bd, k, none⟩ = false :=
  ⟨by rw [h.rowD.cell k (by rw [ints_length]; exact hk), ints_getD d k (-1) hk], h.rowD.frozen k⟩
theorem WS.cellV (h : WS' w B m n bw R arcs ba ca bd cd bv cv vo d via O) (k : Nat) (hk : k < via.length) : w.cell? ⟨bv, k, none⟩ = some (.int .i64 ((via.getD k 0 : Nat) : Int)) ∧ w.frozen? ⟨bv, k, none⟩ = false :=
  ⟨by rw [h.rowV.cell k (by rw [ints_length, nz_length]; exact hk), ints_getD (nz via) k 0 (by rw [nz_length]; exact hk), nz_getD via k 0 hk], h.rowV.frozen k⟩
theorem WS.cellA (h : WS' w B m n bw R arcs ba ca bd cd bv cv vo d via O) (u : Nat) (hu : u < n) : w.cell? ⟨ba, u, none⟩ = some (R (u + 1)).v := by
  rw [h.rowA.cell u (by simpa using hu)]; simp
theorem WS.cellO {bo co : Nat} (h : WS' w B m n bw R arcs ba ca bd cd bv cv (.slice (some ⟨bo, 0, none⟩) O.length co) d via O) (p : Nat) (hp : p < O.length) : w.cell? ⟨bo, p, none⟩ = some (.int .i64 ((O.getD p 0 : Nat) : Int)) := by
  rw [h.rowO.cell p (by rw [ints_length, nz_length]; exact hp), ints_getD (nz O) p 0 (by rw [nz_length]; exact hp), nz_getD O p 0 hp]
/-- list u: its value's form; its cells -/
theorem WS.list (h : WS' w B m n bw R arcs ba ca bd cd bv cv vo d via O) (u : Nat) (hu : u < n) : ∃ al cl, (R (u + 1)).v = .slice al (arcs.getD u []).length cl ∧ ∀ j, j < (arcs.getD u []).length → ∃ bl, al = some ⟨bl, 0, none⟩ ∧ w.cell? ⟨bl, j, none⟩ = some (.int .i64 (((arcs.getD u []).getD j 0 : Nat) : Int)) := by
  have hL := h.rowL u hu
  rcases hL.form with ⟨h1, h2⟩ | ⟨b, cap, cur, h1, _⟩
  · have hz : arcs.getD u [] = [] := by
      have := congrArg List.length h2
      rw [ints_length, nz_length] at this
      exact List.length_eq_zero_iff.1 this
    refine ⟨none, 0, by rw [hz]; exact h1, fun j hj => ?_⟩
    rw [hz] at hj; simp at hj
  · have h1' : (R (u + 1)).v = .slice (some ⟨b, 0, none⟩) (arcs.getD u []).length cap := by rw [h1, ints_length, nz_length]
    refine ⟨some ⟨b, 0, none⟩, cap, h1', fun j hj => ⟨b, rfl, ?_⟩⟩
    rw [h1'] at hL
    rw [hL.cell j (by rw [ints_length, nz_length]; exact hj), ints_getD (nz (arcs.getD u [])) j 0 (by rw [nz_length]; exact hj), nz_getD _ j 0 hj]
/-- the walker's fourth field behind an append onto order -/
theorem WS.mid {va vd vv : Value} (h : WS w B m n bw R arcs va vd vv vo d via O) {w1 : World} (hg : w.grownBy w1 vo.ownBlock) : w1.cell? ⟨bw, 3, none⟩ = some vo ∧ w1.frozen? ⟨bw, 3, none⟩ = false := by
  have hf := h.own.far (n + 4) (n + 3) (by have := h.hm; omega) (by have := h.hm; omega) (by omega)
  rw [tab_3, tab_4] at hf
  have hk := h.rowW.kept hg hf
  exact ⟨hk.cell 3 (by simp), hk.frozen 3⟩
/-- behind an append onto order (its source laid in a block of its own): the field may be written, and then the state is as it should be -/
theorem WS.push {va vd vv : Value} (h : WS w B m n bw R arcs va vd vv vo d via O) {X : Obj} {w1 : World} {vo0 : Value} (h0 : vo0.ownBlock = vo.ownBlock) (hg : (w.alloc X).grownBy w1 vo0.ownBlock) {g k cap : Nat} {O' : List Nat} {xs : List Value}
    (ho : w1.ownsRow B 3 1 (.slice (some ⟨g, 0, none⟩) k cap) k xs) (hx : xs = ints (nz O')) (hk : k = O'.length) (hat : vo0.ownBlock = some g ∨ g = w.heap.size + 1) :
    w1.cell? ⟨bw, 3, none⟩ = some vo ∧ w1.frozen? ⟨bw, 3, none⟩ = false ∧ WS (w1.setCell ⟨bw, 3, none⟩ (.slice (some ⟨g, 0, none⟩) k cap)) B m n bw R arcs va vd vv (.slice (some ⟨g, 0, none⟩) k cap) d via O' ∧ Below B w (w1.setCell ⟨bw, 3, none⟩ (.slice (some ⟨g, 0, none⟩) k cap)) := by
  subst hx hk
  have hg' : w.grownBy w1 vo.ownBlock := by rw [← h0]; exact grown_trans (World.grownBy_alloc w X _) hg
  obtain ⟨h1, h2⟩ := h.mid hg'
  have ho' : Own1 w1 B ⟨3, .slice (some ⟨g, 0, none⟩) O'.length cap, ints (nz O')⟩ := by
    unfold Own1
    rw [ints_length, nz_length]
    exact ho
  obtain ⟨h3, h4⟩ := h.setO hg' ho' (by
    rcases hat with h5 | h5
    · right; left
      rw [← h0, h5]; rfl
    · right; right
      exact ⟨g, rfl, by omega⟩)
  exact ⟨h1, h2, h3, h4⟩
end

theorem ownBlock_slice (ao : Option Addr) (n c : Nat) : (Value.slice ao n c).ownBlock = ao.map (·.block) := by cases ao <;> rfl
/-- a row cut to nothing -/
theorem Own1.none_of {w : World} {B : Nat} {e : TypeId} {ao : Option Addr} {n c : Nat} {xs : List Value} (h : Own1 w B ⟨e, .slice ao n c, xs⟩) : Own1 w B ⟨e, .slice ao 0 c, []⟩ := by
  rcases h.form with ⟨h1, h2⟩ | ⟨b, cap, cur, h1, h2, _, h4, h5, h6, h7, _⟩
  · simp only [Value.slice.injEq] at h1
    obtain ⟨rfl, _, rfl⟩ := h1
    exact Own1.nil _ _ _
  · simp only [Value.slice.injEq] at h1
    obtain ⟨rfl, _, rfl⟩ := h1
    exact Own1.mk (xs := []) h2 h4 (Nat.zero_le _) h6 h7 (by simp)
theorem slice_none_of (ao : Option Addr) (n c : Nat) (W : World) : (Instr.slice 23 (.slice ao n c) none (some (.int .i64 0)) none).run Try.prog W = .ok (.slice ao 0 c) W := by
  have he : Try.prog.elem 23 = 3 := by kernel_rfl
  rw [run_slice_h W 23 ao n c (by rw [he]; exact Try.underlying23) .i64 0 (by omega) (by omega), he, Try.sizeOf3]
  simp only [Result.andThen, sliced]
  cases ao <;> simp [Addr.add]

set_option maxHeartbeats 2000000 in
set_option maxRecDepth 100000 in
theorem walk_any (w : World) (B m n bw : Nat) (R : Nat → Rw) (arcs : List (List Nat)) (ba ca bd cd bv cv : Nat) (ao : Option Addr) (co : Nat) (d : List Int) (via O : List Nat) (src : Nat)
    (hn : n ≤ 1048576) (hsrc : src < n) (hdl : d.length = n) (hvl : via.length = n) (hOl : O.length ≤ n) (hOn : ∀ x ∈ O, x < n) (hdO : ∀ v, v < n → d.getD v (-1) = -1 ∨ v ∈ O)
    (hal : ∀ u, u < n → (arcs.getD u []).length ≤ 2097152 ∧ ∀ x ∈ arcs.getD u [], x < n)
    (hS : WS' w B m n bw R arcs ba ca bd cd bv cv (.slice ao O.length co) d via O) :
    Calls Try.prog 46 #[.pointer (some ⟨bw, 0, none⟩), .int .i64 (src : Int)] w fun e w' => e = .returned (.tuple #[]) ∧ ∃ vo' d' via' O' T,
      WS' w' B m n bw R arcs ba ca bd cd bv cv vo' d' via' O' ∧ Bfs n (fun u => arcs.getD u []) src (fun v => via.getD v 0) O'.length 0 d' via' O' T ∧ Below B w w' := by
  obtain ⟨hf0, hf1, hf2, hf3, hff⟩ := hS.field
  have HS : Hid _ := hS
  have HD : Hid _ := hdO
  have HOn : Hid _ := hOn
  have HA : Hid _ := hal
  have HL : Hid (d.length = n ∧ via.length = n) := ⟨hdl, hvl⟩
  clear hS hdO hOn hal hdl hvl
  go_enter Try.func46, Try.ntmps46
  go_wp2
  go_loopw [15] (fun c wr => ∃ (j : Nat) (d' : List Int), c = .int .i64 j ∧ j ≤ O.length ∧ WS' wr B m n bw R arcs ba ca bd cd bv cv (.slice ao O.length co) d' via O ∧ Hid (d'.length = n ∧ ∀ v, v < n → d'.getD v (-1) = -1 ∨ v ∈ O.drop j) ∧ Below B w wr) (fun c _ => O.length - (intOf c).toNat)
  case atStart => exact ⟨0, d, rfl, Nat.zero_le _, HS, ⟨HL.out.1, HD.out⟩, Below.refl _ _⟩
  case round =>
    obtain ⟨j, d', rfl, hj, hS, Hd, hb⟩ := hrel
    obtain ⟨hg0, hg1, hg2, hg3, hgf⟩ := hS.field
    by_cases hlt : j < O.length
    · obtain ⟨bo, hbo⟩ : ∃ bo, ao = some ⟨bo, 0, none⟩ := by
        obtain ⟨b, cap, h1, _⟩ := slice_form hS.rowO (by rw [ints_length, nz_length]; omega)
        simp only [Value.slice.injEq] at h1
        exact ⟨b, h1.1⟩
      subst hbo
      have hc := hS.cellO j hlt
      have hkn : O.getD j 0 < n := HOn.out _ (getD_mem hlt)
      obtain ⟨k, hk⟩ : ∃ k, k = O.getD j 0 := ⟨_, rfl⟩
      rw [← hk] at hc hkn
      have HK : Hid (k = O.getD j 0) := hk
      obtain ⟨hd1, hd2⟩ := hS.cellD k (by rw [Hd.out.1]; exact hkn)
      obtain ⟨x, hx⟩ : ∃ x, x = d'.getD k (-1) := ⟨_, rfl⟩
      rw [← hx] at hd1
      obtain ⟨hS1, hb1⟩ := hS.setD k (-1)
      have HS1 : Hid _ := hS1
      have HB1 : Hid _ := hb.trans hb1
      clear hk hx hS1 hb1 hS hb HS
      go_wp2
      go_roundw
      case rel =>
        refine ⟨j + 1, d'.set k (-1), by go_num, by omega, HS1, ⟨by simpa using Hd.out.1, fun v hv => ?_⟩, HB1⟩
        by_cases e : v = k
        · subst e
          left
          exact getD_set_self _ _ _ _ (by rw [Hd.out.1]; exact hv)
        · rw [getD_set_ne _ _ _ _ _ (Ne.symm e)]
          rcases Hd.out.2 v hv with h1 | h1
          · exact .inl h1
          · right
            rw [List.drop_eq_getElem_cons hlt] at h1
            rcases List.mem_cons.1 h1 with h2 | h2
            · exfalso
              apply e
              rw [HK.out, h2, List.getD_eq_getElem?_getD, List.getElem?_eq_getElem hlt]
              rfl
            · exact h2
      case measure => simp [intOf]; omega
    · have hall : ∀ v, v < n → d'.getD v (-1) = -1 := fun v hv => by
        rcases Hd.out.2 v hv with h1 | h1
        · exact h1
        · rw [List.drop_of_length_le (by omega)] at h1
          simp at h1
      have HX : Hid (d'.length = n ∧ ∀ v, v < n → d'.getD v (-1) = -1) := ⟨Hd.out.1, hall⟩
      obtain ⟨hd1, hd2⟩ := hS.cellD src (by rw [Hd.out.1]; exact hsrc)
      obtain ⟨hS1, hb1⟩ := hS.setD src 0
      have HS1 : Hid _ := hS1
      have HB1 : Hid _ := hb.trans hb1
      clear HS Hd hall hS hb hS1 hb1 HD HOn
      go_upto_region 5 with fail
      go_cut [] (fun wx => Hid (WS' wx B m n bw R arcs ba ca bd cd bv cv (.slice ao O.length co) (d'.set src 0) via O ∧ Below B w wx))
      case first =>
        go_wp2
        all_goals go_meet
        all_goals exact ⟨HS1, HB1⟩
      case rest =>
        obtain ⟨hS, hb⟩ := hcut.out
        clear HS1 HB1 hd1 hd2 hg0 hg1 hg2 hg3 hgf hcut
        obtain ⟨hg0, hg1, hg2, hg3, hgf⟩ := hS.field
        have hsl0 := slice_none_of ao O.length co
        have hown := hS.rowO.none_of
        obtain ⟨i0, hi, hz0, hz1, hz2⟩ := info_parts info3
        have hHB := hS.hB
        have HS : Hid (WS' wc B m n bw R arcs ba ca bd cd bv cv (.slice ao O.length co) (d'.set src 0) via O) := hS
        have HB : Hid _ := hb
        clear hS hb
        go_upto_region 6 with fail
        go_cut [] (fun wx => Hid (∃ g cap, WS' wx B m n bw R arcs ba ca bd cd bv cv (.slice (some ⟨g, 0, none⟩) 1 cap) (d'.set src 0) via [src] ∧ Below B w wx))
        case first =>
          go_wp2_with (at_builtin; refine wpList_append_lies _ rfl _ _ 23 rfl B 3 i0 (.int .i64 0) 1 8 Try.underlying23 hi hz0 hz1 hz2 rfl (by decide) (.slice ao 0 co) 0 [] rfl (World.ownsRow.alloc hown _) ⟨wc.heap.size, 0, none⟩ 1 1 [.int .i64 (src : Int)] rfl rfl ?c1 ?c2 (by decide) ?c3 (by omega) ?c5 (wc.heap.size + 1) ?c6 ?_)
          case c1 => exact cell_one_new _ _ _
          case c2 => intro u hu; simp at hu; subst hu; rfl
          case c3 => unfold maxLen; omega
          case c5 => simp; omega
          case c6 => simp
          · intro g cap w1 hown' hgrow hat hlt
            obtain ⟨q1, q2, q3, q4⟩ := HS.out.push (vo0 := .slice ao 0 co) (by rw [ownBlock_slice, ownBlock_slice]) hgrow (O' := [src]) hown' rfl rfl hat
            have HQ : Hid _ := And.intro q3 (HB.out.trans q4)
            clear hown' hgrow hat q3 q4 HS HB hown hi hz0 hz1 hz2 hsl0
            go_wp2
            all_goals go_meet
            all_goals exact ⟨g, cap, HQ⟩
        case rest =>
          obtain ⟨g, cap, hS, hb⟩ := hcut.out
          clear HS HB hcut hown hi hz0 hz1 hz2 hsl0 hg0 hg1 hg2 hg3 hgf hHB
          have hbfs := Bfs.start (A := fun u => arcs.getD u []) hsrc HX.out.1 HL.out.2 HX.out.2
          go_wp2_with fail
          go_loopw [6] (fun c wr => Hid (∃ (i g cap : Nat) (d' : List Int) (via' O' : List Nat) (T : Nat → Nat × Nat), c = .int .i64 i ∧ WS' wr B m n bw R arcs ba ca bd cd bv cv (.slice (some ⟨g, 0, none⟩) O'.length cap) d' via' O' ∧ Bfs n (fun u => arcs.getD u []) src (fun v => via.getD v 0) i 0 d' via' O' T ∧ Below B w wr)) (fun c _ => n - (intOf c).toNat)
          case atStart => exact ⟨0, g, cap, _, _, [src], _, rfl, hS, hbfs, hb⟩
          case round =>
            clear hS hb hbfs
            obtain ⟨i, g, cap, d', via', O', T, rfl, hS, hF, hb⟩ := hrel.out
            clear hrel
            obtain ⟨hg0, hg1, hg2, hg3, hgf⟩ := hS.field
            have hOn := hF.olen
            have hile := hF.ile
            have HS : Hid (WS' wr B m n bw R arcs ba ca bd cd bv cv (.slice (some ⟨g, 0, none⟩) O'.length cap) d' via' O') := hS
            have HF : Hid (Bfs n (fun u => arcs.getD u []) src (fun v => via.getD v 0) i 0 d' via' O' T) := hF
            have HB : Hid (Below B w wr) := hb
            clear hS hF hb
            by_cases hlt : i < O'.length
            · have hc := HS.out.cellO i hlt
              obtain ⟨u, hu⟩ : ∃ u, u = O'.getD i 0 := ⟨_, rfl⟩
              have hun : u < n := by rw [hu]; exact HF.out.rng i hlt
              have hca := HS.out.cellA u hun
              obtain ⟨al, cl, hv, hcells⟩ := HS.out.list u hun
              rw [← hu] at hc
              rw [hv] at hca
              have hal := (HA.out u hun).1
              have HU : Hid (u = O'.getD i 0) := hu
              have HC : Hid (∀ W d'' via'' O'' vo'', WS' W B m n bw R arcs ba ca bd cd bv cv vo'' d'' via'' O'' → ∀ j, j < (arcs.getD u []).length → ∃ bl, al = some ⟨bl, 0, none⟩ ∧ W.cell? ⟨bl, j, none⟩ = some (.int .i64 (((arcs.getD u []).getD j 0 : Nat) : Int))) := by
                intro W d'' via'' O'' vo'' hW j hj
                obtain ⟨al', cl', hv', hc'⟩ := hW.list u hun
                rw [hv] at hv'
                simp only [Value.slice.injEq] at hv'
                obtain ⟨rfl, _, _⟩ := hv'
                exact hc' j hj
              clear hu hv hcells
              generalize hlen : (arcs.getD u []).length = len at *
              have HLEN : Hid ((arcs.getD u []).length = len) := hlen
              clear hlen
              go_wp2_with fail
              go_loopw [67] (fun c wx => Hid (∃ (j g cap : Nat) (d' : List Int) (via' O' : List Nat) (T : Nat → Nat × Nat), c = .int .i64 j ∧ j ≤ len ∧ WS' wx B m n bw R arcs ba ca bd cd bv cv (.slice (some ⟨g, 0, none⟩) O'.length cap) d' via' O' ∧ Bfs n (fun u => arcs.getD u []) src (fun v => via.getD v 0) i j d' via' O' T ∧ Below B w wx ∧ u = O'.getD i 0 ∧ i < O'.length)) (fun c _ => len - (intOf c).toNat)
              case atStart => exact ⟨0, g, cap, _, _, O', T, rfl, Nat.zero_le _, HS, HF, HB, HU, hlt⟩
              case round =>
                clear HS HF HB HU hc hca hg0 hg1 hg2 hg3 hgf hOn hile hlt
                obtain ⟨j, g, cap, d', via', O', T, rfl, hj, hS, hF, hb, hu, hiO⟩ := hrel.out
                clear hrel
                obtain ⟨hg0, hg1, hg2, hg3, hgf⟩ := hS.field
                have hOn := hF.olen
                by_cases hjl : j < len
                · obtain ⟨bl, hbl, hcj⟩ := HC.out wr _ _ _ _ hS j hjl
                  subst hbl
                  obtain ⟨k, hk⟩ : ∃ k, k = (arcs.getD u []).getD j 0 := ⟨_, rfl⟩
                  rw [← hk] at hcj
                  have hkm : k ∈ arcs.getD u [] := by rw [hk]; exact getD_mem (by rw [HLEN.out]; exact hjl)
                  have hkn : k < n := (HA.out u hun).2 k hkm
                  have hkA : (arcs.getD (O'.getD i 0) [])[j]? = some k := by
                    rw [← hu, hk, List.getD_eq_getElem?_getD (i := j), List.getElem?_eq_getElem (by rw [HLEN.out]; exact hjl)]; rfl
                  obtain ⟨hd1, hd2⟩ := hS.cellD k (by rw [hF.dlen]; exact hkn)
                  obtain ⟨x, hx⟩ : ∃ x, x = d'.getD k (-1) := ⟨_, rfl⟩
                  rw [← hx] at hd1
                  by_cases hkO : k ∈ O'
                  · have hx0 : 0 ≤ x := by rw [hx]; exact (hF.inO k hkn).2 hkO
                    have HQ : Hid (WS' wr B m n bw R arcs ba ca bd cd bv cv (.slice (some ⟨g, 0, none⟩) O'.length cap) d' via' O' ∧ Bfs n (fun u => arcs.getD u []) src (fun v => via.getD v 0) i (j + 1) d' via' O' T ∧ Below B w wr ∧ u = O'.getD i 0) := ⟨hS, hF.skip hiO hkA hkO, hb, hu⟩
                    clear hS hF hb hu hk hkm hkA hx hkO
                    go_wp2
                    go_roundw
                    case rel => exact ⟨j + 1, g, cap, d', via', O', T, by go_num, by omega, HQ.out.1, HQ.out.2.1, HQ.out.2.2.1, HQ.out.2.2.2, hiO⟩
                    case measure => simp [intOf]; omega
                  · have hx0 : x < 0 := by rw [hx, hF.neg k hkn hkO]; decide
                    obtain ⟨hy0, hyp⟩ := hF.dle i hiO
                    have hi' := hF.ile
                    have hdu := (hS.cellD u (by rw [hF.dlen]; exact hun)).1
                    obtain ⟨y, hy⟩ : ∃ y, y = d'.getD u (-1) := ⟨_, rfl⟩
                    rw [← hy] at hdu
                    rw [← hu, ← hy] at hy0 hyp
                    have HN : Hid (Bfs n (fun u => arcs.getD u []) src (fun v => via.getD v 0) i (j + 1) (d'.set k (y + 1)) (via'.set k u) (O' ++ [k]) (fun p => if p = O'.length then (i, j) else T p)) := by
                      have := hF.find hiO hkn hkA hkO
                      rw [← hu, ← hy] at this
                      exact this
                    obtain ⟨hS1, hb1⟩ := hS.setD k (y + 1)
                    have HQ : Hid (WS' (wr.setCell ⟨bd, k, none⟩ (.int .i64 (y + 1))) B m n bw R arcs ba ca bd cd bv cv (.slice (some ⟨g, 0, none⟩) O'.length cap) (d'.set k (y + 1)) via' O' ∧ Below B w (wr.setCell ⟨bd, k, none⟩ (.int .i64 (y + 1)))) := ⟨hS1, hb.trans hb1⟩
                    have HU : Hid (u = O'.getD i 0) := hu
                    have HV : Hid (via'.length = n) := hF.vlen
                    clear hS hF hb hu hk hkm hkA hx hkO hS1 hb1 hy
                    go_upto_region 15 with fail
                    go_cut [] (fun wx => Hid (WS' wx B m n bw R arcs ba ca bd cd bv cv (.slice (some ⟨g, 0, none⟩) O'.length cap) (d'.set k (y + 1)) via' O' ∧ Below B w wx))
                    case first =>
                      go_region
                      all_goals (try go_wp2)
                      all_goals go_meet
                      all_goals first | exact HQ | exact ⟨HQ.out.1.drew, HQ.out.2.drew⟩ | exact ⟨HQ.out.1.drewN _, below_drewN HQ.out.2 _⟩
                    case rest =>
                      clear HQ hd1 hd2 hdu hg0 hg1 hg2 hg3 hgf hcj
                      obtain ⟨hS, hb⟩ := hcut.out
                      obtain ⟨hg0, hg1, hg2, hg3, hgf⟩ := hS.field
                      obtain ⟨hv1, hv2⟩ := hS.cellV k (by rw [HV.out]; exact hkn)
                      obtain ⟨z, hz⟩ : ∃ z : Int, z = ((via'.getD k 0 : Nat) : Int) := ⟨_, rfl⟩
                      rw [← hz] at hv1
                      obtain ⟨hS1, hb1⟩ := hS.setV k u
                      have HQ : Hid (WS' (wc.setCell ⟨bv, k, none⟩ (.int .i64 (u : Int))) B m n bw R arcs ba ca bd cd bv cv (.slice (some ⟨g, 0, none⟩) O'.length cap) (d'.set k (y + 1)) (via'.set k u) O' ∧ Below B w (wc.setCell ⟨bv, k, none⟩ (.int .i64 (u : Int)))) := ⟨hS1, hb.trans hb1⟩
                      clear hS hb hS1 hb1 hz hcut
                      go_upto_region 16 with fail
                      go_cut [] (fun wx => Hid (WS' wx B m n bw R arcs ba ca bd cd bv cv (.slice (some ⟨g, 0, none⟩) O'.length cap) (d'.set k (y + 1)) (via'.set k u) O' ∧ Below B w wx))
                      case first =>
                        go_wp2
                        all_goals go_meet
                        all_goals exact HQ
                      case rest =>
                        clear HQ hv1 hv2 hg0 hg1 hg2 hg3 hgf
                        obtain ⟨hS, hb⟩ := hcut.out
                        obtain ⟨hg0, hg1, hg2, hg3, hgf⟩ := hS.field
                        have hown := hS.rowO
                        unfold Own1 at hown
                        rw [ints_length, nz_length] at hown
                        obtain ⟨i0, hi, hz0, hz1, hz2⟩ := info_parts info3
                        have hHB := hS.hB
                        have HS : Hid (WS' wc B m n bw R arcs ba ca bd cd bv cv (.slice (some ⟨g, 0, none⟩) O'.length cap) (d'.set k (y + 1)) (via'.set k u) O') := hS
                        have HB : Hid (Below B w wc) := hb
                        clear hS hb hcut
                        go_wp2_with (at_builtin; refine wpList_append_lies _ rfl _ _ 23 rfl B 3 i0 (.int .i64 0) 1 8 Try.underlying23 hi hz0 hz1 hz2 rfl (by decide) (.slice (some ⟨g, 0, none⟩) O'.length cap) O'.length (ints (nz O')) rfl (World.ownsRow.alloc hown _) ⟨wc.heap.size, 0, none⟩ 1 1 [.int .i64 (k : Int)] rfl rfl (cell_one_new _ _ _) (by intro u hu; simp at hu; subst hu; rfl) (by decide) (by unfold maxLen; omega) (by omega) (by simp; omega) (wc.heap.size + 1) (by simp) ?_; intro g2 cap2 w1 hown' hgrow hat hlt2; obtain ⟨q1, q2, q3, q4⟩ := HS.out.push (vo0 := .slice (some ⟨g, 0, none⟩) O'.length cap) rfl hgrow (O' := O' ++ [k]) hown' (by rw [nz_append, ints_append]; rfl) (by simp) hat; have HQ : Hid _ := And.intro q3 (HB.out.trans q4); clear hown' hgrow hat q3 q4 HS HB hown hi hz0 hz1 hz2)
                        go_roundw
                        case rel =>
                          refine ⟨j + 1, g2, cap2, _, _, O' ++ [k], _, by go_num, by omega, ?_, HN, HQ.out.2, ?_, by simp; omega⟩
                          · rw [List.length_append]; exact HQ.out.1
                          · rw [getD_append_left _ _ _ _ hiO]; exact HU
                        case measure => simp [intOf]; omega
                · have hnx := hF.next hiO (by rw [← hu, HLEN.out]; omega)
                  have HQ : Hid (WS' wr B m n bw R arcs ba ca bd cd bv cv (.slice (some ⟨g, 0, none⟩) O'.length cap) d' via' O' ∧ Bfs n (fun u => arcs.getD u []) src (fun v => via.getD v 0) (i + 1) 0 d' via' O' T ∧ Below B w wr) := ⟨hS, hnx, hb⟩
                  clear hS hF hb hu hnx
                  go_wp2
                  go_roundw
                  case rel => exact ⟨i + 1, g, cap, d', via', O', T, by go_num, HQ.out.1, HQ.out.2.1, HQ.out.2.2⟩
                  case measure => simp [intOf]; omega
            · have hi : i = O'.length := by omega
              subst hi
              go_wp2
              go_end0
              exact ⟨rfl, _, _, _, _, _, HS, HF, HB⟩
end Go.Proofs.Qxb6601175a
