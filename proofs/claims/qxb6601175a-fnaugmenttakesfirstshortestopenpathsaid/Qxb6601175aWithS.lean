/-
  THE WALK of zzWithSorted.
-/
import Derived.Test.Qxb6601175aWith
namespace Go.Proofs.Qxb6601175a
open Go.RowKit

theorem ins_lt {a x : Nat} {r : List Nat} (h : a < x) : ins x (a :: r) = a :: ins x r := by
  unfold ins
  rw [List.countP_cons_of_pos (by simpa using h), List.take_succ_cons, List.drop_succ_cons]
  rfl
theorem ins_ge {a x : Nat} {r : List Nat} (hs : (a :: r).Pairwise (· ≤ ·)) (h : x ≤ a) : ins x (a :: r) = x :: a :: r := by
  have h0 : (a :: r).countP (· < x) = 0 := by
    rw [List.countP_eq_zero]
    intro b hb
    rcases List.mem_cons.1 hb with e | hb
    · rw [e]; simp; omega
    · have := (List.pairwise_cons.1 hs).1 b hb
      simp; omega
  unfold ins
  rw [h0]
  rfl
theorem ins_nil (x : Nat) : ins x [] = [x] := rfl

/-- what is still to come -/
def rest (pl : Bool) (x : Nat) (r : List Nat) : List Nat := if pl = true then r else ins x r

set_option maxHeartbeats 4000000 in
set_option maxRecDepth 100000 in
theorem sorted_any (w : World) (v : Value) (l : List Nat) (x : Nat) (hl : l.length ≤ 4000000) (hs : l.Pairwise (· ≤ ·)) (h : InInts w v (nz l)) : Calls Try.prog 38 #[v, .int .i64 (x : Int)] w (OwnPost w (ins x l)) := by
  obtain ⟨ao, c, rfl, hc⟩ := h.cells
  rw [nz_length] at hc ⊢
  have HC : Hid (∀ j, j < l.length → ∃ b off, ao = some ⟨b, off, none⟩ ∧ w.cell? ⟨b, off + j, none⟩ = some (.int .i64 ((l.getD j 0 : Nat) : Int))) := fun j hj => by
    obtain ⟨b, off, e1, e2⟩ := hc j hj
    exact ⟨b, off, e1, by rw [e2 j hj, nz_getD l j 0 hj]⟩
  have hmk := make0 (l.length + 1) (by omega)
  have hcast : ((l.length + 1 : Nat) : Int) = (l.length : Int) + 1 := by omega
  rw [hcast] at hmk
  have hmo := own_make0 w (l.length + 1) (by omega)
  have HMO : Hid _ := hmo
  have HSRT : Hid _ := hs
  obtain ⟨i0, hi, hz0, hz1, hz2⟩ := info_parts info3
  clear hc h hmo hs hcast
  go_enter Try.func38, Try.ntmps38
  go_wp2_with fail
  go_loopw [5, 6, 7] (fun ov dv i wr => Hid (∃ (k g cap : Nat) (pl : Bool) (o : List Nat), k ≤ l.length ∧ i = .int .i64 k ∧ dv = .bool pl ∧ ov = .slice (some ⟨g, 0, none⟩) o.length cap ∧ Own1 wr w.heap.size ⟨3, .slice (some ⟨g, 0, none⟩) o.length cap, ints (nz o)⟩ ∧ w.grownBy wr none ∧ o.length + (if pl = true then 0 else 1) ≤ k + 1 ∧
      (o ++ rest pl x (l.drop k)) = ins x l)) (fun _ _ i _ => l.length - (intOf i).toNat)
  case atStart => exact ⟨0, w.heap.size, l.length + 1, false, [], Nat.zero_le _, rfl, rfl, rfl, HMO, World.grownBy_alloc w _ none, by simp, by simp [rest]⟩
  case round =>
    clear hmk HMO
    obtain ⟨k, g, cap, pl, o, hk, rfl, rfl, rfl, ho, hg, hok, hspec⟩ := hrel.out
    have HO : Hid _ := And.intro ho hg
    have hHB := hg.size
    have HSP : Hid _ := hspec
    have hown := ho
    unfold Own1 at hown
    rw [ints_length, nz_length] at hown
    clear hrel ho hspec
    by_cases hlt : k < l.length
    · obtain ⟨b, off, ha, hcell⟩ := HC.out k hlt
      subst ha
      have hbw0 := World.block_lt_of_cell? w ⟨b, off + k, none⟩ hcell
      have hcw := hcell
      rw [← (gbelow hg (Nat.le_refl _)).cell hbw0] at hcell
      obtain ⟨y, hy⟩ : ∃ y, y = l.getD k 0 := ⟨_, rfl⟩
      rw [← hy] at hcell hcw
      have hdr : l.drop k = y :: l.drop (k + 1) := by
        have := drop_cons hlt
        rw [← hy] at this
        exact this
      have HD : Hid (l.drop k = y :: l.drop (k + 1)) := hdr
      have hsd : (y :: l.drop (k + 1)).Pairwise (· ≤ ·) := by
        rw [← hdr]; exact HSRT.out.sublist (List.drop_sublist _ _)
      have HSD : Hid _ := hsd
      have HCW : Hid _ := hcw
      clear hy hg hdr hsd hcw
      cases pl
      · have hok0 : o.length ≤ k := by simpa using hok
        clear hok
        by_cases hxy : x ≤ y
        · have hsp2 : ((o ++ [x]) ++ [y]) ++ rest true x (l.drop (k + 1)) = ins x l := by
            have := HSP.out
            unfold rest at this ⊢
            rw [if_neg (by simp), HD.out, ins_ge HSD.out hxy] at this
            rw [if_pos rfl]
            simpa using this
          have HSP2 : Hid _ := hsp2
          clear hsp2
          have hxy' : (x : Int) ≤ (y : Int) := by omega
          go_upto_region 8 with (at_builtin; refine wpList_append_lies _ rfl _ _ 23 rfl w.heap.size 3 i0 (.int .i64 0) 1 8 Try.underlying23 hi hz0 hz1 hz2 rfl (by decide) (.slice (some ⟨g, 0, none⟩) o.length cap) o.length (ints (nz o)) rfl (World.ownsRow.alloc hown _) ⟨wr.heap.size, 0, none⟩ 1 1 [.int .i64 (x : Int)] rfl rfl (cell_one_new _ _ _) (by intro u hu; simp at hu; subst hu; rfl) (by decide) (by unfold maxLen; omega) (by omega) (by simp; omega) (wr.heap.size + 1) (by simp) ?_; intro g2 cap2 w1 hown' hgrow hat hlt2; obtain ⟨q1, q2⟩ := push_own (a := x) HO.out.2 HO.out.1 hgrow hown' (by rw [nz_append, ints_append]; rfl) (by simp); have HQ : Hid _ := And.intro q1 q2; clear hown' hgrow hat q1 q2 hown)
          obtain ⟨q1, q2⟩ := HQ.out
          have hown2 := q1
          unfold Own1 at hown2
          rw [ints_length, nz_length] at hown2
          have hc1 := HCW.out
          rw [← (gbelow q2 (Nat.le_refl _)).cell hbw0] at hc1
          have hHB1 := q2.size
          have hol : o.length + 1 = (o ++ [x]).length := by simp
          have hol2 : (o ++ [x]).length ≤ k + 1 := by simp; omega
          rw [hol]
          generalize ho2 : o ++ [x] = o2 at *
          clear q1 q2 hcell hol
          go_wp2_with (at_builtin; refine wpList_append_lies _ rfl _ _ 23 rfl w.heap.size 3 i0 (.int .i64 0) 1 8 Try.underlying23 hi hz0 hz1 hz2 rfl (by decide) (.slice (some ⟨g2, 0, none⟩) o2.length cap2) o2.length (ints (nz o2)) rfl (World.ownsRow.alloc hown2 _) ⟨w1.heap.size, 0, none⟩ 1 1 [.int .i64 (y : Int)] rfl rfl (cell_one_new _ _ _) (by intro u hu; simp at hu; subst hu; rfl) (by decide) (by unfold maxLen; omega) (by omega) (by simp; omega) (w1.heap.size + 1) (by simp) ?_; intro g3 cap3 w3 hown' hgrow hat hlt3; obtain ⟨q1, q2⟩ := push_own (a := y) HQ.out.2 HQ.out.1 hgrow hown' (by rw [nz_append, ints_append]; rfl) (by simp); have HQ3 : Hid _ := And.intro q1 q2; clear hown' hgrow hat q1 q2 hown2 hi hz0 hz1 hz2)
          go_roundw
          case rel => exact ⟨k + 1, g3, cap3, true, o2 ++ [y], by omega, by go_num, rfl, by simp, HQ3.out.1, HQ3.out.2, by simp; omega, HSP2⟩
          case measure => simp [intOf]; omega
        · have hsp2 : (o ++ [y]) ++ rest false x (l.drop (k + 1)) = ins x l := by
            have := HSP.out
            unfold rest at this ⊢
            rw [if_neg (by simp), HD.out, ins_lt (by omega)] at this
            rw [if_neg (by simp)]
            simpa using this
          have HSP2 : Hid _ := hsp2
          clear hsp2
          have hxy' : (y : Int) < (x : Int) := by omega
          have hok2 : o.length ≤ 4000001 := by omega
          go_wp2_with (at_builtin; refine wpList_append_lies _ rfl _ _ 23 rfl w.heap.size 3 i0 (.int .i64 0) 1 8 Try.underlying23 hi hz0 hz1 hz2 rfl (by decide) (.slice (some ⟨g, 0, none⟩) o.length cap) o.length (ints (nz o)) rfl (World.ownsRow.alloc hown _) ⟨wr.heap.size, 0, none⟩ 1 1 [.int .i64 (y : Int)] rfl rfl (cell_one_new _ _ _) (by intro u hu; simp at hu; subst hu; rfl) (by decide) (by unfold maxLen; omega) (by omega) (by simp; omega) (wr.heap.size + 1) (by simp) ?_; intro g2 cap2 w1 hown' hgrow hat hlt2; obtain ⟨q1, q2⟩ := push_own (a := y) HO.out.2 HO.out.1 hgrow hown' (by rw [nz_append, ints_append]; rfl) (by simp); have HQ : Hid _ := And.intro q1 q2; clear hown' hgrow hat q1 q2 hown hi hz0 hz1 hz2)
          go_roundw
          case rel => exact ⟨k + 1, g2, cap2, false, o ++ [y], by omega, by go_num, rfl, by simp, HQ.out.1, HQ.out.2, by simp; omega, HSP2⟩
          case measure => simp [intOf]; omega
      · have hok0 : o.length ≤ k + 1 := by simpa using hok
        clear hok
        have hsp2 : (o ++ [y]) ++ rest true x (l.drop (k + 1)) = ins x l := by
          have := HSP.out
          unfold rest at this ⊢
          rw [if_pos rfl, HD.out] at this
          rw [if_pos rfl]
          simpa using this
        have HSP2 : Hid _ := hsp2
        clear hsp2
        have hok2 : o.length ≤ 4000001 := by omega
        go_wp2_with (at_builtin; refine wpList_append_lies _ rfl _ _ 23 rfl w.heap.size 3 i0 (.int .i64 0) 1 8 Try.underlying23 hi hz0 hz1 hz2 rfl (by decide) (.slice (some ⟨g, 0, none⟩) o.length cap) o.length (ints (nz o)) rfl (World.ownsRow.alloc hown _) ⟨wr.heap.size, 0, none⟩ 1 1 [.int .i64 (y : Int)] rfl rfl (cell_one_new _ _ _) (by intro u hu; simp at hu; subst hu; rfl) (by decide) (by unfold maxLen; omega) (by omega) (by simp; omega) (wr.heap.size + 1) (by simp) ?_; intro g2 cap2 w1 hown' hgrow hat hlt2; obtain ⟨q1, q2⟩ := push_own (a := y) HO.out.2 HO.out.1 hgrow hown' (by rw [nz_append, ints_append]; rfl) (by simp); have HQ : Hid _ := And.intro q1 q2; clear hown' hgrow hat q1 q2 hown hi hz0 hz1 hz2)
        go_roundw
        case rel => exact ⟨k + 1, g2, cap2, true, o ++ [y], by omega, by go_num, rfl, by simp, HQ.out.1, HQ.out.2, by simp; omega, HSP2⟩
        case measure => simp [intOf]; omega
    · have hsp := HSP.out
      rw [List.drop_of_length_le (by omega)] at hsp
      clear hg
      have hok3 : o.length ≤ k + 1 := by omega
      clear hok
      cases pl
      · have hoe : o ++ [x] = ins x l := by simpa [rest, ins_nil] using hsp
        have hok2 : o.length ≤ 4000001 := by omega
        clear hsp
        go_upto_region 12 with (at_builtin; refine wpList_append_lies _ rfl _ _ 23 rfl w.heap.size 3 i0 (.int .i64 0) 1 8 Try.underlying23 hi hz0 hz1 hz2 rfl (by decide) (.slice (some ⟨g, 0, none⟩) o.length cap) o.length (ints (nz o)) rfl (World.ownsRow.alloc hown _) ⟨wr.heap.size, 0, none⟩ 1 1 [.int .i64 (x : Int)] rfl rfl (cell_one_new _ _ _) (by intro u hu; simp at hu; subst hu; rfl) (by decide) (by unfold maxLen; omega) (by omega) (by simp; omega) (wr.heap.size + 1) (by simp) ?_; intro g2 cap2 w1 hown' hgrow hat hlt2; obtain ⟨q1, q2⟩ := push_own (a := x) HO.out.2 HO.out.1 hgrow hown' (by rw [nz_append, ints_append]; rfl) (by simp); have HQ : Hid _ := And.intro q1 q2; clear hown' hgrow hat q1 q2 hown hi hz0 hz1 hz2)
        have HOE : Hid _ := hoe
        clear hoe
        go_wp2
        go_ret
        refine ⟨g2, cap2, ?_, ?_, HQ.out.2⟩
        · rw [← HOE.out, List.length_append]
          try rfl
        · rw [← HOE.out]
          exact HQ.out.1
      · have hoe : o = ins x l := by simpa [rest] using hsp
        have HOE : Hid _ := hoe
        clear hsp hoe hown hi hz0 hz1 hz2
        go_wp2
        go_ret
        refine ⟨g, cap, ?_, ?_, HO.out.2⟩
        · rw [← HOE.out]
          try rfl
        · rw [← HOE.out]
          exact HO.out.1
end Go.Proofs.Qxb6601175a
