/-
  THE WALK of zzCloneLists.
-/
import Derived.Test.Qxb6601175aClone
namespace Go.Proofs.Qxb6601175a
open Go.RowKit

/-- a slice of slices of integers that can be read -/
def InLists (w : World) (v : Value) (zss : List (List Int)) (vs : Nat → Value) : Prop :=
  ((v = .slice none 0 0 ∧ zss = []) ∨ (∃ a c, v = .slice (some a) 0 c ∧ zss = []) ∨
   (∃ b off c, v = .slice (some ⟨b, off, none⟩) zss.length c ∧ 0 < zss.length ∧ ∀ r, r < zss.length → w.cell? ⟨b, off + r, none⟩ = some (vs r))) ∧
  ∀ r (h : r < zss.length), InInts w (vs r) zss[r]

theorem InInts.whole {w w' : World} {v : Value} {zs : List Int} (h : InInts w v zs) (hb : Below w.heap.size w w') : InInts w' v zs := by
  rcases h with h | h | ⟨b, off, c, rfl, h1, h2⟩
  · exact .inl h
  · exact .inr (.inl h)
  · refine .inr (.inr ⟨b, off, c, rfl, h1, fun j hj => ?_⟩)
    rw [hb.cell (World.block_lt_of_cell? w ⟨b, off + j, none⟩ (h2 j hj))]
    exact h2 j hj
theorem InLists.whole {w w' : World} {v : Value} {zss : List (List Int)} {vs : Nat → Value} (h : InLists w v zss vs) (hb : Below w.heap.size w w') : InLists w' v zss vs := by
  refine ⟨?_, fun r hr => (h.2 r hr).whole hb⟩
  rcases h.1 with h | h | ⟨b, off, c, rfl, h1, h2⟩
  · exact .inl h
  · exact .inr (.inl h)
  · refine .inr (.inr ⟨b, off, c, rfl, h1, fun j hj => ?_⟩)
    rw [hb.cell (World.block_lt_of_cell? w ⟨b, off + j, none⟩ (h2 j hj))]
    exact h2 j hj

/-- lists of integers in rows of the call's own: row 0 the outer one, row u + 1 list u -/
structure LRows (w : World) (B : Nat) (v : Value) (zss : List (List Int)) (R : Nat → Rw) : Prop where
  own : Own w B (zss.length + 1) R
  tag : (R 0).e = 23
  val : (R 0).v = v
  len : (R 0).xs.length = zss.length
  top : ∀ u, u < zss.length → (R 0).xs[u]? = some (R (u + 1)).v
  rows : ∀ u (h : u < zss.length), R (u + 1) = ⟨3, (R (u + 1)).v, ints zss[u]⟩

theorem LRows.inLists {w : World} {B : Nat} {v : Value} {zss : List (List Int)} {R : Nat → Rw} (h : LRows w B v zss R) : InLists w v zss (fun u => (R (u + 1)).v) := by
  refine ⟨?_, fun u hu => ?_⟩
  · have h0 := h.own.row 0 (by omega)
    rcases h0.form with ⟨h1, h2⟩ | ⟨b, cap, cur, h1, _, _, _, _, _, _, _⟩
    · left
      rw [← h.val]
      refine ⟨h1, ?_⟩
      have := h.len
      rw [h2] at this
      exact List.length_eq_zero_iff.1 this.symm
    · by_cases hz : zss = []
      · subst hz
        refine .inr (.inl ⟨⟨b, 0, none⟩, cap, ?_, rfl⟩)
        rw [← h.val, h1, h.len]
        rfl
      · refine .inr (.inr ⟨b, 0, cap, ?_, List.length_pos_iff.2 hz, fun r hr => ?_⟩)
        · rw [← h.val, h1, h.len]
        · rw [Nat.zero_add]
          have hR : R 0 = ⟨(R 0).e, .slice (some ⟨b, 0, none⟩) (R 0).xs.length cap, (R 0).xs⟩ := by rw [← h1]
          rw [hR] at h0
          have hl := h.len
          rw [h0.cell r (by omega)]
          have := h.top r hr
          rw [List.getElem?_eq_getElem (by omega)] at this
          exact this
  · have h0 := h.own.row (u + 1) (by omega)
    rw [h.rows u hu] at h0
    exact h0.inInts

set_option maxHeartbeats 1000000 in
set_option maxRecDepth 100000 in
theorem lists_none (w : World) : Calls Try.prog 26 #[.slice none 0 0] w fun e w' => e = .returned (.slice none 0 0) ∧ w' = w := by
  have hq := fun (W : World) (a : Option Addr) (n c : Nat) => Lib.run_eql_slice_nil (P := Try.prog) W 71 23 a n c 0 0 Try.underlying71
  go_enter Try.func26, Try.ntmps26
  go_wp2
  go_ret
  exact ⟨rfl, rfl⟩

/-- the table while the loop stands at k -/
structure LMid (w wr : World) (b n k : Nat) (zss : List (List Int)) (R : Nat → Rw) : Prop where
  own : Own wr b (k + 1) R
  top : R 0 = ⟨23, .slice (some ⟨b, 0, none⟩) n n, (R 0).xs⟩
  len : (R 0).xs.length = n
  cells : ∀ u, u < k → (R 0).xs[u]? = some (R (u + 1)).v
  rows : ∀ u (h : u < zss.length), u < k → R (u + 1) = ⟨3, (R (u + 1)).v, ints zss[u]⟩
  below : Below w.heap.size w wr
  size : b < wr.heap.size

theorem LMid.step {w wr w1 : World} {b n k : Nat} {zss : List (List Int)} {R : Nat → Rw} (h : LMid w wr b n k zss R) (hb : b = w.heap.size) (hk : k < zss.length) (hn : zss.length = n) {v : Value} (ho : Own1 w1 wr.heap.size ⟨3, v, ints zss[k]⟩) (hg : wr.grownBy w1 none) :
    LMid w (w1.setCell ⟨b, k, none⟩ v) b n (k + 1) zss (upd (upd R (k + 1) ⟨3, v, ints zss[k]⟩) 0 ⟨23, .slice (some ⟨b, 0, none⟩) n n, (R 0).xs.set k v⟩) := by
  have h1 := h.own.add hg (ho.mono (B' := b) (by have := h.size; omega)) (by
    cases hv : v.ownBlock with
    | none => exact .inl rfl
    | some g => exact .inr ⟨g, rfl, (ho.lt g hv).1⟩)
  have h0 : upd R (k + 1) ⟨3, v, ints zss[k]⟩ 0 = ⟨23, .slice (some ⟨b, 0, none⟩) n n, (R 0).xs⟩ := by rw [upd_other _ _ _ _ (by omega)]; exact h.top
  have h2 := h1.set (i := 0) (by omega) h0 k v
  have hne : ∀ u, u + 1 ≠ 0 := fun u => by omega
  have hlen := h.len
  refine ⟨h2, ?_, ?_, ?_, ?_, ?_, ?_⟩
  · rw [upd_same]
  · rw [upd_same]; simpa using hlen
  · intro u hu
    rw [upd_same, upd_other _ _ _ _ (hne u)]
    by_cases e : u = k
    · subst e
      rw [upd_same, List.getElem?_set_self (by omega)]
    · rw [upd_other _ _ _ _ (by omega), List.getElem?_set_ne (by omega)]
      exact h.cells u (by omega)
  · intro u hu hk'
    rw [upd_other _ _ _ _ (hne u)]
    by_cases e : u = k
    · subst e
      rw [upd_same]
    · rw [upd_other _ _ _ _ (by omega)]
      exact h.rows u hu (by omega)
  · have hs := h.size
    exact (h.below.grown hg h.below.size (fun k hk => by cases hk)).setCell (by subst hb; exact Nat.le_refl _) _
  · have := hg.size
    have := h.size
    simp [World.setCell]
    omega

set_option maxHeartbeats 1000000 in
set_option maxRecDepth 100000 in
theorem lists_some (w : World) (a : Addr) (c : Nat) (zss : List (List Int)) (vs : Nat → Value) (hz : zss.length ≤ 1048576) (hzz : ∀ r (h : r < zss.length), (zss[r]).length ≤ 1048576)
    (hc : 0 < zss.length → ∃ b off, a = ⟨b, off, none⟩ ∧ ∀ r, r < zss.length → w.cell? ⟨b, off + r, none⟩ = some (vs r))
    (hin : ∀ r (h : r < zss.length), InInts w (vs r) zss[r]) :
    Calls Try.prog 26 #[.slice (some a) zss.length c] w fun e w' => ∃ R, e = .returned (.slice (some ⟨w.heap.size, 0, none⟩) zss.length zss.length) ∧ LMid w w' w.heap.size zss.length zss.length zss R := by
  have hq := fun (W : World) (a : Option Addr) (n c : Nat) => Lib.run_eql_slice_nil (P := Try.prog) W 71 23 a n c 0 0 Try.underlying71
  have hmk := run_make_row' (P := Try.prog) 71 23 (.slice none 0 0) 24 Try.underlying71 info23 rfl .i64 .i64 zss.length (by omega) (by omega)
  have HC : Hid _ := hc
  have HI : Hid _ := hin
  have HZ : Hid _ := hzz
  clear hc hin hzz
  go_enter Try.func26, Try.ntmps26
  go_wp2
  go_loopw [4] (fun i wr => ∃ (k : Nat) (R : Nat → Rw), k ≤ zss.length ∧ i = .int .i64 k ∧ LMid w wr w.heap.size zss.length k zss R) (fun i _ => zss.length - (intOf i).toNat)
  case atStart =>
    refine ⟨0, fun _ => ⟨23, .slice (some ⟨w.heap.size, 0, none⟩) zss.length zss.length, (madeCells #[.slice none 0 0] zss.length).toList⟩, Nat.zero_le _, rfl, ?_⟩
    have hl : (madeCells #[Value.slice none 0 0] zss.length).toList.length = zss.length := by rw [Array.length_toList, size_madeCells]
    refine ⟨⟨fun i _ => ?_, fun i j hi hj hne => by omega⟩, rfl, hl, fun u hu => by omega, fun u _ hu => by omega, (Below.refl _ _).alloc (Nat.le_refl _) _, by simp⟩
    have := Own1.mk (w := w.alloc (.cells (madeCells #[.slice none 0 0] zss.length) 23)) (B := w.heap.size) (e := 23) (b := w.heap.size) (cap := zss.length) (cur := madeCells #[.slice none 0 0] zss.length) (xs := (madeCells #[.slice none 0 0] zss.length).toList) (Nat.le_refl _) (heap_alloc_new w _) (by rw [hl]; exact Nat.le_refl _) (by unfold maxLen; omega) (size_madeCells _ _) List.take_length
    rwa [hl] at this
  case round =>
    obtain ⟨k, R, hk, rfl, HR⟩ := hrel
    by_cases hlt : k < zss.length
    · obtain ⟨b, off, rfl, hcell⟩ := HC.out (by omega)
      have hck : wr.cell? ⟨b, off + k, none⟩ = some (vs k) := (HR.below.cell (World.block_lt_of_cell? w ⟨b, off + k, none⟩ (hcell k hlt))).trans (hcell k hlt)
      have hin' := (HI.out k hlt).whole HR.below
      have hcl := clone_ints (vs k) zss[k] wr hin' (HZ.out k hlt)
      obtain ⟨ao, cc, hv⟩ := hin'.form
      rw [hv] at hck hcl
      have hH := HR.size
      have H0 := HR.own.row 0 (by omega)
      have HR' : Hid (LMid w wr w.heap.size zss.length k zss R) := HR
      clear hcell hq hmk hin' hv HR H0
      go_wp2_with (go_at_call 10; refine hcl.mono ?_)
      rintro e w1 ⟨v', rfl, ho, hg⟩
      have hex : ∃ ao n c, v' = .slice ao n c := by
        rcases ho.form with ⟨h1, _⟩ | ⟨b', cap', cur', h1, _⟩
        · exact ⟨_, _, _, h1⟩
        · exact ⟨_, _, _, h1⟩
      have hst := HR'.out.step rfl hlt rfl ho hg
      have h1c : ∃ vo, w1.cell? ⟨w.heap.size, k, none⟩ = some vo := by
        have hT := HR'.out.own.row 0 (by omega)
        rw [HR'.out.top] at hT
        have hl := HR'.out.len
        have := (hT.heap hg).cell k (by omega)
        exact ⟨_, this⟩
      have h1f : w1.frozen? ⟨w.heap.size, k, none⟩ = false := by
        have hT := HR'.out.own.row 0 (by omega)
        rw [HR'.out.top] at hT
        exact (hT.heap hg).frozen k
      obtain ⟨vo, h1c⟩ := h1c
      have HS : Hid _ := hst
      obtain ⟨ao', n', c', hv'⟩ := hex
      rw [hv'] at HS ⊢
      clear hst ho hg hcl HR' hck
      go_wp2
      go_roundw
      case rel => exact ⟨k + 1, _, by omega, by go_num, HS⟩
      case measure => simp [intOf]; omega
    · have HR' : Hid (LMid w wr w.heap.size zss.length k zss R) := HR
      have hkk : k = zss.length := by omega
      clear HR
      go_wp2
      go_ret
      refine ⟨R, rfl, ?_⟩
      rw [hkk] at HR'
      exact HR'
end Go.Proofs.Qxb6601175a
