/-
  THE ARGUMENTS OPENED: a slice of slices of integers, a slice of integers, two integers.
-/
import Derived.Test.Qxb6601175aSizes
import Derived.ProofKit
import Derived.Deep.Matrix
namespace Go.Proofs.Qxb6601175a
open Go.ChangeShapes Go.WideShapes Go.ChangeAt Go.RowKit

theorem own : ownKnob Try.prog.godebug = none := by kernel_rfl
theorem laidOut : laidOutB Try.prog = true := by kernel_rfl
theorem cells3 : Try.prog.cellsOf 3 = 1 := by kernel_rfl
theorem cells23 : Try.prog.cellsOf 23 = 1 := by kernel_rfl

theorem add_plain (b o j : Nat) : (⟨b, o, none⟩ : Addr).add j = ⟨b, o + j, none⟩ := by
  unfold Addr.add
  split
  · rename_i h
    simp_all
  · rfl

theorem inInts_of {w : World} {a : Addr} {len cap : Nat} {zs : List Int} (hl : len ≤ zs.length) (h : ∀ i, i < zs.length → w.cell? (a.add i) = some (.int .i64 (zs.getD i 0))) : InInts w (.slice (some a) len cap) (zs.take len) := by
  have hlen : (zs.take len).length = len := by rw [List.length_take]; omega
  by_cases h0 : len = 0
  · subst h0
    exact .inr (.inl ⟨a, cap, rfl, by simp⟩)
  · obtain ⟨b, o, sp⟩ := a
    have hs : sp = none := by simpa [Addr.add] using World.cell?_spot (h 0 (by omega))
    subst hs
    refine .inr (.inr ⟨b, o, cap, by rw [hlen], by omega, fun j hj => ?_⟩)
    rw [hlen] at hj
    have := h j (by omega)
    rw [add_plain] at this
    rw [this, List.getD_eq_getElem?_getD, List.getElem?_eq_getElem (by omega)]
    simp

theorem open_next {H : Type} {enc : TypeId × Value → H} {W : World} {v : Value} {d : DataW H} {p : List MemPlace} (h : DataW.Trod enc Try.prog W 0 (fun _ => true) true 23 v d p) (hv : ∃ a n c, v = .slice a n c) : ∃ zs, InInts W v zs ∧ zs.length ≤ maxLen := by
  obtain ⟨a0, n0, c0, rfl⟩ := hv
  obtain ⟨fuel, hf⟩ := h
  rcases Go.ChangeShapes.open_ints Try.underlying23 Try.underlying3 cells3 hf with ⟨hcs, _⟩ | ⟨a, len, cap, zs, hcs, _, hl, hm, hz, _, hcell, _⟩
  · simp [Value.cells] at hcs
    obtain ⟨rfl, rfl, rfl⟩ := hcs
    exact ⟨[], .inl ⟨rfl, rfl⟩, Nat.zero_le _⟩
  · simp [Value.cells] at hcs
    obtain ⟨rfl, rfl, rfl⟩ := hcs
    simp only [if_true] at hz
    refine ⟨zs.take n0, inInts_of (by omega) hcell, ?_⟩
    rw [List.length_take]; omega

theorem open_arcs {H : Type} {enc : TypeId × Value → H} {W : World} {v : Value} {d : DataW H} {p : List MemPlace} (h : DataW.Trod enc Try.prog W 0 (fun _ => true) true 71 v d p) (hv : ∃ a n c, v = .slice a n c) :
    ∃ zss vs, InLists W v zss vs ∧ zss.length ≤ maxLen ∧ ∀ r (h : r < zss.length), zss[r].length ≤ maxLen := by
  obtain ⟨a0, n0, c0, rfl⟩ := hv
  obtain ⟨fuel, hf⟩ := h
  rcases Go.Deep.open_int_rows Try.underlying71 Try.underlying23 Try.underlying3 cells23 cells3 hf with ⟨hcs, _⟩ | ⟨a, len, cap, A, L, C, Z, hcs, _, hl, hm, _, hrows⟩
  · simp [Value.cells] at hcs
    obtain ⟨rfl, rfl, rfl⟩ := hcs
    exact ⟨[], fun _ => .slice none 0 0, ⟨.inl ⟨rfl, rfl⟩, fun r h => by simp at h⟩, Nat.zero_le _, fun r h => by simp at h⟩
  · simp [Value.cells] at hcs
    obtain ⟨rfl, rfl, rfl⟩ := hcs
    have hlen : ((List.range n0).map fun r => (Z r).take (L r)).length = n0 := by simp
    refine ⟨(List.range n0).map fun r => (Z r).take (L r), fun r => .slice (A r) (L r) (C r), ⟨?_, fun r hr => ?_⟩, by rw [hlen]; omega, fun r hr => ?_⟩
    · by_cases h0 : n0 = 0
      · subst h0
        exact .inr (.inl ⟨a, c0, rfl, rfl⟩)
      · obtain ⟨b, o, sp⟩ := a
        have hs : sp = none := by simpa [Addr.add] using World.cell?_spot (hrows 0 (by omega)).1
        subst hs
        refine .inr (.inr ⟨b, o, c0, by rw [hlen], by omega, fun r hr => ?_⟩)
        rw [hlen] at hr
        have := (hrows r (by omega)).1
        rw [add_plain] at this
        exact this
    · rw [hlen] at hr
      simp only [List.getElem_map, List.getElem_range]
      obtain ⟨_, h2, h3, h4, _, h6, h7⟩ := hrows r (by omega)
      cases hA : A r with
      | none =>
        have : C r = 0 := h6 hA
        have hL : L r = 0 := by omega
        rw [hL, this]
        exact .inl ⟨rfl, by simp⟩
      | some a' => exact inInts_of (by omega) (fun i hi => (h7 a' hA).2 i (by omega))
    · rw [hlen] at hr
      simp only [List.getElem_map, List.getElem_range]
      obtain ⟨_, h2, h3, h4, _⟩ := hrows r (by omega)
      rw [List.length_take]; omega
end Go.Proofs.Qxb6601175a
