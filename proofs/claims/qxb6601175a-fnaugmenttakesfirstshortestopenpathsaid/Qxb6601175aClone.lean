/-
  THE WALKS of zzCloneInts and zzCloneLists.
-/
import Derived.Test.Qxb6601175aProg
import Derived.Test.Qxb6601175aMem
import Derived.WalkSpells
import Derived.BigCall
import Derived.BigQuiet
import Derived.Deep.QuietTactic
namespace Go.Proofs.Qxb6601175a
open Go.RowKit

theorem ret_int {k : IntKind} {a b : Int} (h : a = b) : Ending.returned (.int k a) = .returned (.int k b) := by rw [h]
theorem ret_bool {a b : Bool} (h : a = b) : Ending.returned (.bool a) = .returned (.bool b) := by rw [h]

theorem info3 : (Try.prog.info? 3).map (fun i => (i.zero, i.size, i.bytes)) = some (some (.int .i64 0), 1, 8) := by kernel_rfl
theorem info23 : (Try.prog.info? 23).map (fun i => (i.zero, i.size, i.bytes)) = some (some (.slice none 0 0), 1, 24) := by kernel_rfl

/-- cells of integers -/
def ints (zs : List Int) : List Value := zs.map (Value.int .i64)
theorem ints_length (zs : List Int) : (ints zs).length = zs.length := List.length_map _

/-- a slice of integers that can be read: nil; empty; or with elements -/
def InInts (w : World) (v : Value) (zs : List Int) : Prop :=
  (v = .slice none 0 0 ∧ zs = []) ∨ (∃ a c, v = .slice (some a) 0 c ∧ zs = []) ∨
  (∃ b off c, v = .slice (some ⟨b, off, none⟩) zs.length c ∧ 0 < zs.length ∧ ∀ j (h : j < zs.length), w.cell? ⟨b, off + j, none⟩ = some (.int .i64 zs[j]))

theorem InInts.form {w : World} {v : Value} {zs : List Int} (h : InInts w v zs) : ∃ ao c, v = .slice ao zs.length c := by
  rcases h with ⟨rfl, rfl⟩ | ⟨a, c, rfl, rfl⟩ | ⟨b, off, c, rfl, _, _⟩
  · exact ⟨_, _, rfl⟩
  · exact ⟨_, _, rfl⟩
  · exact ⟨_, _, rfl⟩

theorem Own1.inInts {w : World} {B : Nat} {v : Value} {zs : List Int} (h : Own1 w B ⟨3, v, ints zs⟩) : InInts w v zs := by
  rcases h.form with ⟨h1, h2⟩ | ⟨b, cap, cur, h1, _, _, _, _, _, _, _⟩
  · dsimp only at h1 h2
    exact .inl ⟨h1, List.map_eq_nil_iff.1 h2⟩
  · dsimp only at h1
    subst h1
    rw [ints_length] at h ⊢
    by_cases hz : zs = []
    · subst hz
      exact .inr (.inl ⟨_, _, rfl, rfl⟩)
    · refine .inr (.inr ⟨b, 0, cap, rfl, List.length_pos_iff.2 hz, fun j hj => ?_⟩)
      have := h.cell j (by rw [ints_length]; exact hj)
      rw [Nat.zero_add, this]
      simp [ints]

/-- what lies below stays readable -/
theorem InInts.below {w w' : World} {v : Value} {zs : List Int} {B : Nat} (h : InInts w v zs) (hb : Below B w w') (hv : ∀ k, v.ownBlock = some k → k < B) : InInts w' v zs := by
  rcases h with h | h | ⟨b, off, c, rfl, h1, h2⟩
  · exact .inl h
  · exact .inr (.inl h)
  · refine .inr (.inr ⟨b, off, c, rfl, h1, fun j hj => ?_⟩)
    rw [hb.cell (hv b rfl)]
    exact h2 j hj

set_option maxHeartbeats 1000000 in
set_option maxRecDepth 100000 in
theorem clone_none (w : World) : Calls Try.prog 10 #[.slice none 0 0] w fun e w' => e = .returned (.slice none 0 0) ∧ w' = w := by
  have hq := fun (W : World) (a : Option Addr) (n c : Nat) => Lib.run_eql_slice_nil (P := Try.prog) W 23 3 a n c 0 0 Try.underlying23
  go_enter Try.func10, Try.ntmps10
  go_wp2
  go_ret
  exact ⟨rfl, rfl⟩

set_option maxHeartbeats 1000000 in
set_option maxRecDepth 100000 in
theorem clone_some (w : World) (a : Addr) (c : Nat) (zs : List Int) (hz : zs.length ≤ 1048576)
    (hc : 0 < zs.length → ∃ b off, a = ⟨b, off, none⟩ ∧ ∀ j (h : j < zs.length), w.cell? ⟨b, off + j, none⟩ = some (.int .i64 zs[j])) :
    Calls Try.prog 10 #[.slice (some a) zs.length c] w fun e w' => ∃ cur : Array Value, e = .returned (.slice (some ⟨w.heap.size, 0, none⟩) zs.length zs.length) ∧ w' = w.alloc (.cells cur 3) ∧ cur.size = zs.length ∧ cur.toList = ints zs := by
  have hq := fun (W : World) (a : Option Addr) (n c : Nat) => Lib.run_eql_slice_nil (P := Try.prog) W 23 3 a n c 0 0 Try.underlying23
  have hmk := run_make_row' (P := Try.prog) 23 3 (.int .i64 0) 8 Try.underlying23 info3 rfl .i64 .i64 zs.length (by omega) (by omega)
  have HC : Hid (0 < zs.length → ∃ b off, a = ⟨b, off, none⟩ ∧ ∀ j (h : j < zs.length), w.cell? ⟨b, off + j, none⟩ = some (.int .i64 zs[j])) := hc
  clear hc
  go_enter Try.func10, Try.ntmps10
  go_wp2
  go_loopw [4] (fun i wr => ∃ (k : Nat) (cur : Array Value), k ≤ zs.length ∧ i = .int .i64 k ∧ wr = w.alloc (.cells cur 3) ∧ Hid (cur.size = zs.length ∧ ∀ j (h : j < zs.length), j < k → cur[j]? = some (.int .i64 zs[j]))) (fun i _ => zs.length - (intOf i).toNat)
  case atStart => exact ⟨0, _, Nat.zero_le _, rfl, rfl, ⟨size_madeCells _ _, fun j _ h => absurd h (Nat.not_lt_zero _)⟩⟩
  case round =>
    obtain ⟨k, cur, hk, rfl, rfl, HK⟩ := hrel
    by_cases hlt : k < zs.length
    · obtain ⟨b, off, rfl, hcell⟩ := HC.out (by omega)
      have hck := hcell k hlt
      have hbl : b < w.heap.size := World.block_lt_of_cell? w ⟨b, off + k, none⟩ hck
      obtain ⟨vo, hvo⟩ : ∃ vo, cur[k]? = some vo := ⟨_, Array.getElem?_eq_getElem (by have := HK.out.1; omega)⟩
      clear hcell hq hmk
      go_wp2
      go_roundw
      case rel =>
        obtain ⟨h1, h2⟩ := HK.out
        refine ⟨k + 1, _, by omega, by go_num, rfl, by simpa using h1, fun j hj hjk => ?_⟩
        by_cases e : j = k
        · subst e
          rw [Array.getElem?_setIfInBounds_self_of_lt (by omega)]
        · rw [Array.getElem?_setIfInBounds_ne (by omega)]
          exact h2 j hj (by omega)
      case measure => simp [intOf]; omega
    · go_wp2
      go_ret
      obtain ⟨h1, h2⟩ := HK.out
      refine ⟨cur, rfl, rfl, h1, ?_⟩
      apply List.ext_getElem
      · rw [ints_length, Array.length_toList, h1]
      · intro j h3 h4
        rw [ints_length] at h4
        have := h2 j h4 (by omega)
        have h5 := (Array.getElem?_eq_some_iff.1 this).2
        simpa [ints] using h5

/-- zzCloneInts: a row of the call's own, or nil where nil came in -/
theorem clone_ints (v : Value) (zs : List Int) (w : World) (hin : InInts w v zs) (hz : zs.length ≤ 1048576) :
    Calls Try.prog 10 #[v] w fun e w' => ∃ v', e = .returned v' ∧ Own1 w' w.heap.size ⟨3, v', ints zs⟩ ∧ w.grownBy w' none := by
  have fin : ∀ (cur : Array Value), cur.size = zs.length → cur.toList = ints zs → Own1 (w.alloc (.cells cur 3)) w.heap.size ⟨3, .slice (some ⟨w.heap.size, 0, none⟩) zs.length zs.length, ints zs⟩ := by
    intro cur h1 h2
    have := Own1.mk (w := w.alloc (.cells cur 3)) (B := w.heap.size) (e := 3) (b := w.heap.size) (cap := zs.length) (cur := cur) (xs := ints zs) (Nat.le_refl _) (heap_alloc_new w _) (by rw [ints_length]; exact Nat.le_refl _) (by unfold maxLen; omega) h1
      (by rw [h2]; exact List.take_length)
    rwa [ints_length] at this
  rcases hin with ⟨rfl, rfl⟩ | ⟨a, c, rfl, rfl⟩ | ⟨b, off, c, rfl, hp, hc⟩
  · refine (clone_none w).mono ?_
    rintro e w' ⟨rfl, rfl⟩
    exact ⟨_, rfl, Own1.nil _ _ _, grown_refl _ _⟩
  · refine (clone_some w a c [] (by simp) (fun h => absurd h (by simp))).mono ?_
    rintro e w' ⟨cur, rfl, rfl, h1, h2⟩
    exact ⟨_, rfl, fin cur h1 h2, World.grownBy_alloc _ _ _⟩
  · refine (clone_some w ⟨b, off, none⟩ c zs hz (fun _ => ⟨b, off, rfl, hc⟩)).mono ?_
    rintro e w' ⟨cur, rfl, rfl, h1, h2⟩
    exact ⟨_, rfl, fin cur h1 h2, World.grownBy_alloc _ _ _⟩
end Go.Proofs.Qxb6601175a
