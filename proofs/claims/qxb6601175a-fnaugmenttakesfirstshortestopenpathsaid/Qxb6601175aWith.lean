/-
  THE WALKS of zzWithout and zzWithSorted.
-/
import Derived.Test.Qxb6601175aSmall
namespace Go.Proofs.Qxb6601175a
open Go.RowKit

theorem gbelow {w w' : World} {B : Nat} (h : w.grownBy w' none) (hB : B ≤ w.heap.size) : Below B w w' := below_grown h hB (fun k hk => by cases hk)
theorem ble {B B' : Nat} {w w' : World} (h : Below B w w') (hB : B' ≤ B) : Below B' w w' := ⟨h.os, h.tape, h.output, h.size, fun k hk => h.block k (by omega)⟩

/-- a new row that holds l -/
def OwnPost (w : World) (l : List Nat) (e : Ending) (w' : World) : Prop := ∃ g cap, e = .returned (.slice (some ⟨g, 0, none⟩) l.length cap) ∧ Own1 w' w.heap.size ⟨3, .slice (some ⟨g, 0, none⟩) l.length cap, ints (nz l)⟩ ∧ w.grownBy w' none

/-- behind an append onto a row of the call's own -/
theorem push_own {w wr w1 : World} {X : Obj} {g g2 k cap cap2 : Nat} {o : List Nat} {a : Nat} {xs : List Value} (hg : w.grownBy wr none) (ho : Own1 wr w.heap.size ⟨3, .slice (some ⟨g, 0, none⟩) o.length cap, ints (nz o)⟩)
    (hgrow : (wr.alloc X).grownBy w1 (Value.slice (some ⟨g, 0, none⟩) o.length cap).ownBlock) (hown : w1.ownsRow w.heap.size 3 1 (.slice (some ⟨g2, 0, none⟩) k cap2) k xs) (hx : xs = ints (nz (o ++ [a]))) (hk : k = (o ++ [a]).length) :
    Own1 w1 w.heap.size ⟨3, .slice (some ⟨g2, 0, none⟩) (o ++ [a]).length cap2, ints (nz (o ++ [a]))⟩ ∧ w.grownBy w1 none := by
  subst hx hk
  refine ⟨?_, grown_fresh (grown_trans hg (World.grownBy_alloc wr X none)) hgrow (ho.lt g rfl).1⟩
  unfold Own1
  rw [ints_length, nz_length]
  exact hown

theorem drop_cons {l : List Nat} {k : Nat} (h : k < l.length) : l.drop k = l.getD k 0 :: l.drop (k + 1) := by
  rw [List.drop_eq_getElem_cons h, List.getD_eq_getElem?_getD, List.getElem?_eq_getElem h]; rfl

set_option maxHeartbeats 4000000 in
set_option maxRecDepth 100000 in
theorem without_any (w : World) (v : Value) (l : List Nat) (x : Nat) (hl : l.length ≤ 4194304) (h : InInts w v (nz l)) : Calls Try.prog 37 #[v, .int .i64 (x : Int)] w (OwnPost w (l.erase x)) := by
  obtain ⟨ao, c, rfl, hc⟩ := h.cells
  rw [nz_length] at hc ⊢
  have HC : Hid (∀ j, j < l.length → ∃ b off, ao = some ⟨b, off, none⟩ ∧ w.cell? ⟨b, off + j, none⟩ = some (.int .i64 ((l.getD j 0 : Nat) : Int))) := fun j hj => by
    obtain ⟨b, off, e1, e2⟩ := hc j hj
    exact ⟨b, off, e1, by rw [e2 j hj, nz_getD l j 0 hj]⟩
  have hmk := make0 l.length hl
  have hmo := own_make0 w l.length hl
  have HMO : Hid _ := hmo
  obtain ⟨i0, hi, hz0, hz1, hz2⟩ := info_parts info3
  clear hc h hmo
  go_enter Try.func37, Try.ntmps37
  go_wp2_with fail
  go_loopw [5, 6, 7] (fun ov dv i wr => Hid (∃ (k g cap : Nat) (dr : Bool) (o : List Nat), k ≤ l.length ∧ i = .int .i64 k ∧ dv = .bool dr ∧ ov = .slice (some ⟨g, 0, none⟩) o.length cap ∧ Own1 wr w.heap.size ⟨3, .slice (some ⟨g, 0, none⟩) o.length cap, ints (nz o)⟩ ∧ w.grownBy wr none ∧ o.length ≤ k ∧
      (o ++ (if dr = true then l.drop k else (l.drop k).erase x)) = l.erase x)) (fun _ _ i _ => l.length - (intOf i).toNat)
  case atStart => exact ⟨0, w.heap.size, l.length, false, [], Nat.zero_le _, rfl, rfl, rfl, HMO, World.grownBy_alloc w _ none, Nat.le_refl _, by simp⟩
  case round =>
    clear hmk HMO
    obtain ⟨k, g, cap, dr, o, hk, rfl, rfl, rfl, ho, hg, hok, hspec⟩ := hrel.out
    have HO : Hid _ := And.intro ho hg
    have hHB := hg.size
    have HSP : Hid _ := hspec
    have hown := ho
    unfold Own1 at hown
    rw [ints_length, nz_length] at hown
    clear hrel ho hspec
    by_cases hlt : k < l.length
    · obtain ⟨b, off, ha, hcell⟩ := HC.out k hlt
      subst ha
      rw [← (gbelow hg (Nat.le_refl _)).cell (World.block_lt_of_cell? w ⟨b, off + k, none⟩ hcell)] at hcell
      obtain ⟨y, hy⟩ : ∃ y, y = l.getD k 0 := ⟨_, rfl⟩
      rw [← hy] at hcell
      have HD : Hid (l.drop k = y :: l.drop (k + 1)) := by
        have := drop_cons hlt
        rw [← hy] at this
        exact this
      have hbw := World.block_lt_of_cell? wr ⟨b, off + k, none⟩ hcell
      have hal : ∀ X, (wr.alloc X).cell? ⟨b, off + k, none⟩ = some (.int .i64 (y : Int)) := fun X => by rw [World.cell?_alloc_lt _ _ _ hbw]; exact hcell
      clear hy hg
      by_cases hskip : dr = false ∧ y = x
      · obtain ⟨rfl, rfl⟩ := hskip
        clear hown hi hz0 hz1 hz2 hal
        go_wp2
        go_roundw
        case rel =>
          refine ⟨k + 1, g, cap, true, o, by omega, by go_num, rfl, rfl, HO.out.1, HO.out.2, by omega, ?_⟩
          have := HSP.out
          rw [HD.out] at this
          simpa using this
        case measure => simp [intOf]; omega
      · have hsp2 : ((o ++ [y]) ++ (if dr = true then l.drop (k + 1) else (l.drop (k + 1)).erase x)) = l.erase x := by
          have := HSP.out
          rw [HD.out] at this
          cases dr
          · have hyx : y ≠ x := fun e => hskip ⟨rfl, e⟩
            rw [if_neg (by simp), List.erase_cons_tail (by simpa using hyx)] at this
            simpa using this
          · simpa using this
        have HSP2 : Hid _ := hsp2
        clear hsp2
        have hyx : dr = false → (y : Int) ≠ (x : Int) := fun e h => hskip ⟨e, by omega⟩
        cases dr
        · have hyx' : ¬ (y : Int) = (x : Int) := hyx rfl
          clear hskip hyx
          go_wp2_with (at_builtin; refine wpList_append_lies _ rfl _ _ 23 rfl w.heap.size 3 i0 (.int .i64 0) 1 8 Try.underlying23 hi hz0 hz1 hz2 rfl (by decide) (.slice (some ⟨g, 0, none⟩) o.length cap) o.length (ints (nz o)) rfl (World.ownsRow.alloc hown _) ⟨wr.heap.size, 0, none⟩ 1 1 [.int .i64 (y : Int)] rfl rfl (cell_one_new _ _ _) (by intro u hu; simp at hu; subst hu; rfl) (by decide) (by unfold maxLen; omega) (by omega) (by simp; omega) (wr.heap.size + 1) (by simp) ?_; intro g2 cap2 w1 hown' hgrow hat hlt2; obtain ⟨q1, q2⟩ := push_own (a := y) HO.out.2 HO.out.1 hgrow hown' (by rw [nz_append, ints_append]; rfl) (by simp); have HQ : Hid _ := And.intro q1 q2; clear hown' hgrow hat q1 q2 hown hi hz0 hz1 hz2)
          go_roundw
          case rel =>
            refine ⟨k + 1, g2, cap2, false, o ++ [y], by omega, by go_num, rfl, by simp, HQ.out.1, HQ.out.2, by simp; omega, HSP2⟩
          case measure => simp [intOf]; omega
        · clear hskip hyx
          go_wp2_with (at_builtin; refine wpList_append_lies _ rfl _ _ 23 rfl w.heap.size 3 i0 (.int .i64 0) 1 8 Try.underlying23 hi hz0 hz1 hz2 rfl (by decide) (.slice (some ⟨g, 0, none⟩) o.length cap) o.length (ints (nz o)) rfl (World.ownsRow.alloc hown _) ⟨wr.heap.size, 0, none⟩ 1 1 [.int .i64 (y : Int)] rfl rfl (cell_one_new _ _ _) (by intro u hu; simp at hu; subst hu; rfl) (by decide) (by unfold maxLen; omega) (by omega) (by simp; omega) (wr.heap.size + 1) (by simp) ?_; intro g2 cap2 w1 hown' hgrow hat hlt2; obtain ⟨q1, q2⟩ := push_own (a := y) HO.out.2 HO.out.1 hgrow hown' (by rw [nz_append, ints_append]; rfl) (by simp); have HQ : Hid _ := And.intro q1 q2; clear hown' hgrow hat q1 q2 hown hi hz0 hz1 hz2)
          go_roundw
          case rel =>
            refine ⟨k + 1, g2, cap2, true, o ++ [y], by omega, by go_num, rfl, by simp, HQ.out.1, HQ.out.2, by simp; omega, HSP2⟩
          case measure => simp [intOf]; omega
    · have hoe : o = l.erase x := by
        have := HSP.out
        rw [List.drop_of_length_le (by omega)] at this
        cases dr <;> simpa using this
      clear hown hi hz0 hz1 hz2 hg
      go_wp2
      go_ret
      refine ⟨g, cap, by rw [← hoe]; try rfl, ?_, HO.out.2⟩
      rw [← hoe]
      exact HO.out.1
end Go.Proofs.Qxb6601175a
