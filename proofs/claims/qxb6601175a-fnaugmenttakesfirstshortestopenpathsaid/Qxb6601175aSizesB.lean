/-
  THE WALKS of the second law's bound and of the small doors ZZGraphOrder, ZZGraphTrail.
-/
import Derived.Test.Qxb6601175aSizes
namespace Go.Proofs.Qxb6601175a
open Go.RowKit

set_option maxHeartbeats 1000000 in
set_option maxRecDepth 100000 in
theorem bytes23 (w : World) (v vn : Value) (zss : List (List Int)) (vs : Nat → Value) (zs : List Int) (s t : Int) (hl : zss.length ≤ 9223372036854775807) (hz : zs.length ≤ 9223372036854775807) (hll : ∀ r (h : r < zss.length), zss[r].length ≤ 9223372036854775807) (h : InLists w v zss vs) (hn : InInts w vn zs) :
    Calls Try.prog 23 #[v, vn, .int .i64 s, .int .i64 t] w fun e w' => Hid (∃ ok, e = .returned (.bool ok) ∧ w' = w ∧ (ok = true → zss.length ≤ 1048576 ∧ zs.length ≤ 1048576 ∧ ∀ r (h : r < zss.length), zss[r].length ≤ 1048576)) := by
  obtain ⟨ao, c, rfl, hc⟩ := h.form
  obtain ⟨an, cn, rfl⟩ := hn.form
  have HC : Hid _ := hc
  have HI : Hid (∀ r (h : r < zss.length), InInts w (vs r) zss[r]) := h.2
  have HL : Hid _ := hll
  clear hc h hn hll
  go_enter Try.func23, Try.ntmps23
  by_cases h1 : zss.length ≤ 1048576
  · go_wp2_with fail
    go_loopw [9, 10] (fun z i wr => Hid (∃ (k : Nat) (y : Int), k ≤ zss.length ∧ i = .int .i64 k ∧ z = .int .i64 y ∧ 0 ≤ y ∧ y ≤ 1048576 ∧ wr = w ∧ ∀ r (h : r < zss.length), r < k → zss[r].length ≤ 1048576)) (fun _ i _ => zss.length - (intOf i).toNat)
    case atStart => exact ⟨0, _, Nat.zero_le _, rfl, rfl, by omega, by omega, rfl, fun r _ h => absurd h (by omega)⟩
    case round =>
      obtain ⟨k, y, hk, rfl, rfl, hy0, hy1, rfl, hr⟩ := hrel.out
      have HR : Hid _ := hr
      clear hrel hr
      by_cases hlt : k < zss.length
      · obtain ⟨b, off, hao, hcell⟩ := HC.out k hlt
        obtain ⟨a2, c2, hv⟩ := (HI.out k hlt).form
        rw [hv] at hcell
        have hll := HL.out k hlt
        obtain ⟨L, hL⟩ : ∃ L, L = zss[k].length := ⟨_, rfl⟩
        rw [← hL] at hcell hll
        have HLE : Hid (L = zss[k].length) := hL
        clear hL hv
        subst hao
        by_cases h2 : L ≤ 1048576
        · by_cases h3 : y + (L : Int) ≤ 1048576
          · go_wp2
            go_roundw
            case rel =>
              refine ⟨k + 1, y + L, by omega, by go_num, by go_num, by omega, by omega, by trivial, fun r hr' hlt' => ?_⟩
              by_cases e : r = k
              · subst e; have := HLE.out; omega
              · exact HR.out r hr' (by omega)
            case measure => simp [intOf]; omega
          · go_wp2
            go_ret
            exact .inl ⟨rfl, rfl⟩
        · go_wp2
          go_ret
          exact ⟨false, rfl, rfl, fun h => by cases h⟩
      · by_cases h2 : zs.length ≤ 1048576
        · by_cases h3 : y + (zs.length : Int) ≤ 1048576
          · go_wp2
            go_ret
            exact ⟨true, rfl, rfl, fun _ => ⟨h1, h2, fun r hr => HR.out r hr (by omega)⟩⟩
          · go_wp2
            go_ret
            exact .inl ⟨rfl, rfl⟩
        · go_wp2
          go_ret
          exact ⟨false, rfl, rfl, fun h => by cases h⟩
  · go_wp2
    go_ret
    exact ⟨false, rfl, rfl, fun h => by cases h⟩

set_option maxHeartbeats 1000000 in
set_option maxRecDepth 100000 in
theorem order32 (w : World) (bg bw : Nat) (vo : Value) (h : w.cell? ⟨bg, 3, none⟩ = some (.pointer (some ⟨bw, 0, none⟩))) (h' : w.cell? ⟨bw, 3, none⟩ = some vo) : Calls Try.prog 32 #[.pointer (some ⟨bg, 0, none⟩)] w fun e w' => e = .returned vo ∧ w' = w := by
  go_enter Try.func32, Try.ntmps32
  go_wp2
  go_ret
  exact ⟨rfl, rfl⟩

set_option maxHeartbeats 1000000 in
set_option maxRecDepth 100000 in
theorem trail34 (w : World) (bg : Nat) (vt : Value) (h : w.cell? ⟨bg, 4, none⟩ = some vt) : Calls Try.prog 34 #[.pointer (some ⟨bg, 0, none⟩)] w fun e w' => e = .returned vt ∧ w' = w := by
  go_enter Try.func34, Try.ntmps34
  go_wp2
  go_ret
  exact ⟨rfl, rfl⟩
end Go.Proofs.Qxb6601175a
