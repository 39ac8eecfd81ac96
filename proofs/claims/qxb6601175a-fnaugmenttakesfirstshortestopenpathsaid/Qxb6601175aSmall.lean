/-
  THE WALKS of zzSameInts, zzSameLists, zzWithout, zzWithSorted.
-/
import Derived.Test.Qxb6601175aDomain
namespace Go.Proofs.Qxb6601175a
open Go.RowKit

theorem make0 (c : Nat) (hc : c ≤ 4194304) (W : World) : (Instr.makeSlice 23 (.int .i64 0) (.int .i64 (c : Int))).run Try.prog W = .ok (.slice (some ⟨W.heap.size, 0, none⟩) 0 c) (W.alloc (.cells (madeCells #[.int .i64 0] c) 3)) := by
  obtain ⟨i, hi, hz, hs, hb⟩ := info_parts info3
  have hr := run_make (P := Try.prog) W 23 3 i (.int .i64 0) Try.underlying23 hi hz .i64 .i64 0 (c : Int) (Int.le_refl _) (by omega) (by rw [hb]; omega) (by omega)
  simp only [Int.toNat_zero, Int.toNat_natCast, hs, Nat.mul_one] at hr
  exact hr

theorem grown_fresh {a b c : World} {g : Nat} (h : a.grownBy b none) (k : b.grownBy c (some g)) (hg : a.heap.size ≤ g) : a.grownBy c none :=
  ⟨k.os.trans h.os, k.tape.trans h.tape, k.output.trans h.output, Nat.le_trans h.size k.size, fun i hi _ =>
    (k.block i (Nat.lt_of_lt_of_le hi h.size) (fun e => by simp at e; omega)).trans (h.block i hi (by simp))⟩

/-- the row of a new slice without elements, room c -/
theorem own_make0 (w : World) (c : Nat) (hc : c ≤ 4194304) : Own1 (w.alloc (.cells (madeCells #[.int .i64 0] c) 3)) w.heap.size ⟨3, .slice (some ⟨w.heap.size, 0, none⟩) 0 c, ints (nz [])⟩ :=
  Own1.mk (xs := []) (Nat.le_refl _) (heap_alloc_new w _) (Nat.zero_le _) (by unfold maxLen; omega) (size_madeCells _ _) (by simp)

set_option maxHeartbeats 2000000 in
set_option maxRecDepth 100000 in
theorem same_ints (w : World) (v v' : Value) (zs : List Int) (hz : zs.length ≤ 4194304) (h : InInts w v zs) (h' : InInts w v' zs) :
    Calls Try.prog 36 #[v, v'] w fun e w' => e = .returned (.bool true) ∧ Same w w' := by
  obtain ⟨ao, c, rfl, hc⟩ := h.cells
  obtain ⟨ao', c', rfl, hc'⟩ := h'.cells
  have HC : Hid _ := hc
  have HC' : Hid _ := hc'
  clear hc hc' h h'
  go_enter Try.func36, Try.ntmps36
  go_wp2_with fail
  go_loopw [5] (fun i wr => Hid (∃ k : Nat, k ≤ zs.length ∧ i = .int .i64 k ∧ Same w wr)) (fun i _ => zs.length - (intOf i).toNat)
  case atStart => exact ⟨0, Nat.zero_le _, rfl, Same.refl _⟩
  case round =>
    obtain ⟨k, hk, rfl, hs⟩ := hrel.out
    have HS : Hid _ := hs
    clear hrel hs
    by_cases hlt : k < zs.length
    · obtain ⟨b, off, ha, hcell⟩ := HC.out k hlt
      obtain ⟨b', off', ha', hcell'⟩ := HC'.out k hlt
      subst ha ha'
      have h1 := hcell k hlt
      have h2 := hcell' k hlt
      rw [← HS.out.cell] at h1 h2
      obtain ⟨x, hx⟩ : ∃ x, x = zs.getD k 0 := ⟨_, rfl⟩
      rw [← hx] at h1 h2
      clear hcell hcell' hx
      go_upto_region 6 with fail
      go_quiet (fail)
      go_wp2
      go_roundw
      case rel => exact ⟨k + 1, by omega, by go_num, HS.out.trans ⟨rfl, rfl, rfl, rfl⟩⟩
      case measure => simp [intOf]; omega
    · go_wp2
      go_ret
      exact ⟨rfl, HS⟩

set_option maxHeartbeats 2000000 in
set_option maxRecDepth 100000 in
theorem same_lists (w : World) (v v' : Value) (zss : List (List Int)) (vs vs' : Nat → Value) (hl : zss.length ≤ 4194304) (hll : ∀ r (h : r < zss.length), zss[r].length ≤ 4194304) (h : InLists w v zss vs) (h' : InLists w v' zss vs') :
    Calls Try.prog 35 #[v, v'] w fun e w' => e = .returned (.bool true) ∧ Same w w' := by
  obtain ⟨ao, c, rfl, hc⟩ := h.form
  obtain ⟨ao', c', rfl, hc'⟩ := h'.form
  have HC : Hid _ := hc
  have HC' : Hid _ := hc'
  have HI : Hid (∀ r (h : r < zss.length), InInts w (vs r) zss[r] ∧ InInts w (vs' r) zss[r] ∧ zss[r].length ≤ 4194304) := fun r hr => ⟨h.2 r hr, h'.2 r hr, hll r hr⟩
  clear hc hc' h h' hll
  go_enter Try.func35, Try.ntmps35
  go_wp2_with fail
  go_loopw [5] (fun i wr => Hid (∃ k : Nat, k ≤ zss.length ∧ i = .int .i64 k ∧ Same w wr)) (fun i _ => zss.length - (intOf i).toNat)
  case atStart => exact ⟨0, Nat.zero_le _, rfl, Same.refl _⟩
  case round =>
    obtain ⟨k, hk, rfl, hs⟩ := hrel.out
    have HS : Hid _ := hs
    clear hrel hs
    by_cases hlt : k < zss.length
    · obtain ⟨b, off, ha, h1⟩ := HC.out k hlt
      obtain ⟨b', off', ha', h2⟩ := HC'.out k hlt
      subst ha ha'
      rw [← HS.out.cell] at h1 h2
      obtain ⟨i1, i2, i3⟩ := HI.out k hlt
      have hcall : ∀ W, Same w W → Calls Try.prog 36 #[vs k, vs' k] W fun e w' => e = .returned (.bool true) ∧ Same W w' := fun W hW => same_ints W _ _ _ i3 (i1.whole (hW.below _)) (i2.whole (hW.below _))
      obtain ⟨a1, c1, e1⟩ := i1.form
      obtain ⟨a2, c2, e2⟩ := i2.form
      rw [e1] at h1
      rw [e2] at h2
      rw [e1, e2] at hcall
      have HCALL : Hid _ := hcall
      clear i1 i2 i3 e1 e2 hcall
      generalize zss[k].length = L at *
      go_upto_region 6 with fail
      go_cut [26] (fun a wx => a = .bool false ∧ Hid (Same w wx))
      case first =>
        go_region_with (first | (go_at_call 36; refine Calls.mono (HCALL.out _ (HS.out.trans ?_)) ?_; exact ⟨rfl, rfl, rfl, rfl⟩; rintro e w' ⟨rfl, hs'⟩; have HX : Hid _ := hs'; clear hs'))
        all_goals (try go_wp2_with fail)
        all_goals go_meet
        all_goals refine ⟨rfl, (HS.out.trans ?_).trans (HX.out.trans ?_)⟩
        all_goals exact ⟨rfl, rfl, rfl, rfl⟩
      case rest =>
        obtain ⟨rfl, hs2⟩ := hcut
        have HS2 : Hid _ := hs2.out
        clear hs2 h1 h2
        go_wp2
        go_roundw
        case rel => exact ⟨k + 1, by omega, by go_num, HS2⟩
        case measure => simp [intOf]; omega
    · go_wp2
      go_ret
      exact ⟨rfl, HS⟩
end Go.Proofs.Qxb6601175a
