/-
  THE WALKS of the guards: the lengths (zzBytes.., zzListsBytes, zzAddLen).
-/
import Derived.Test.Qxb6601175aCloneLists
namespace Go.Proofs.Qxb6601175a
open Go.RowKit

/-- a slice of lists by its parts: the value's form; its cells -/
theorem InLists.form {w : World} {v : Value} {zss : List (List Int)} {vs : Nat → Value} (h : InLists w v zss vs) : ∃ ao c, v = .slice ao zss.length c ∧ ∀ r, r < zss.length → ∃ b off, ao = some ⟨b, off, none⟩ ∧ w.cell? ⟨b, off + r, none⟩ = some (vs r) := by
  rcases h.1 with ⟨rfl, rfl⟩ | ⟨a, c, rfl, rfl⟩ | ⟨b, off, c, rfl, _, h2⟩
  · exact ⟨none, 0, rfl, fun r hr => by simp at hr⟩
  · exact ⟨some a, c, rfl, fun r hr => by simp at hr⟩
  · exact ⟨some ⟨b, off, none⟩, c, rfl, fun r hr => ⟨b, off, rfl, h2 r hr⟩⟩

set_option maxHeartbeats 1000000 in
set_option maxRecDepth 100000 in
theorem addlen_any (t m k : Int) (w : World) (h1 : 0 ≤ t ∧ t ≤ 1048577) (h2 : 0 ≤ m ∧ m ≤ 9223372036854775807) (h3 : 0 ≤ k ∧ k ≤ 24) :
    Calls Try.prog 40 #[.int .i64 t, .int .i64 m, .int .i64 k] w fun e w' => ∃ r : Int, 0 ≤ r ∧ r ≤ 1048577 ∧ e = .returned (.int .i64 r) ∧ w' = w := by
  obtain ⟨h1a, h1b⟩ := h1
  obtain ⟨h2a, h2b⟩ := h2
  obtain ⟨h3a, h3b⟩ := h3
  go_enter Try.func40, Try.ntmps40
  by_cases ht : t ≤ 1048576
  · by_cases hm : m ≤ 1048576
    · have hp0 : 0 ≤ m * k := Int.mul_nonneg h2a h3a
      have hp1 : m * k ≤ 1048576 * 24 := Int.mul_le_mul hm h3b h3a (by decide)
      obtain ⟨p, hp⟩ : ∃ p, p = m * k := ⟨_, rfl⟩
      rw [← hp] at hp0 hp1
      have hp' : m * k = p := hp.symm
      clear hp
      by_cases hs : t + p ≤ 1048576
      · go_wp2
        go_ret
        exact ⟨t + p, by omega, by omega, rfl, rfl⟩
      · go_wp2
        go_ret
        exact ⟨1048577, by omega, by omega, rfl, rfl⟩
    · go_wp2
      go_ret
      exact ⟨1048577, by omega, by omega, rfl, rfl⟩
  · go_wp2
    go_ret
    exact ⟨1048577, by omega, by omega, rfl, rfl⟩

set_option maxHeartbeats 1000000 in
set_option maxRecDepth 100000 in
theorem bytes39 (w : World) (v vn : Value) (zss : List (List Int)) (vs : Nat → Value) (zs : List Int) (s t : Int) (hl : zss.length ≤ 9223372036854775807) (hz : zs.length ≤ 9223372036854775807) (hll : ∀ r (h : r < zss.length), zss[r].length ≤ 9223372036854775807) (h : InLists w v zss vs) (hn : InInts w vn zs) :
    Calls Try.prog 39 #[v, vn, .int .i64 s, .int .i64 t] w fun e w' => Hid (∃ ok, e = .returned (.bool ok) ∧ w' = w ∧ (ok = true → zss.length ≤ 1048576 ∧ zs.length ≤ 1048576 ∧ ∀ r (h : r < zss.length), zss[r].length ≤ 1048576)) := by
  obtain ⟨ao, c, rfl, hc⟩ := h.form
  obtain ⟨an, cn, rfl⟩ := hn.form
  have HC : Hid _ := hc
  have HI : Hid (∀ r (h : r < zss.length), InInts w (vs r) zss[r]) := h.2
  have HL : Hid _ := hll
  clear hc h hn hll
  go_enter Try.func39, Try.ntmps39
  by_cases h1 : zss.length ≤ 1048576
  · go_wp2_with fail
    go_loopw [9, 10] (fun z i wr => Hid (∃ (k : Nat) (y : Int), k ≤ zss.length ∧ i = .int .i64 k ∧ z = .int .i64 y ∧ 0 ≤ y ∧ y ≤ 1048576 ∧ wr = w ∧ ∀ r (h : r < zss.length), r < k → zss[r].length ≤ 1048576)) (fun _ i _ => zss.length - (intOf i).toNat)
    case atStart => exact ⟨0, _, Nat.zero_le _, rfl, rfl, by omega, by omega, rfl, fun r _ h => absurd h (by omega)⟩
    case round =>
      obtain ⟨k, y, hk, rfl, rfl, hy0, hy1, rfl, hr⟩ := hrel.out
      have HR : Hid _ := hr
      clear hrel hr
      by_cases hlt : k < zss.length
      · obtain ⟨b, off, hao, hcell⟩ := HC.out k hlt
        obtain ⟨a2, c2, hv⟩ := (HI.out k hlt).form
        rw [hv] at hcell
        have hll := HL.out k hlt
        obtain ⟨L, hL⟩ : ∃ L, L = zss[k].length := ⟨_, rfl⟩
        rw [← hL] at hcell hll
        have HLE : Hid (L = zss[k].length) := hL
        clear hL hv
        subst hao
        by_cases h2 : L ≤ 1048576
        · by_cases h3 : y + (L : Int) ≤ 1048576
          · go_wp2
            go_roundw
            case rel =>
              refine ⟨k + 1, y + L, by omega, by go_num, by go_num, by omega, by omega, by trivial, fun r hr' hlt' => ?_⟩
              by_cases e : r = k
              · subst e; have := HLE.out; omega
              · exact HR.out r hr' (by omega)
            case measure => simp [intOf]; omega
          · go_wp2
            go_ret
            exact .inl ⟨rfl, rfl⟩
        · go_wp2
          go_ret
          exact ⟨false, rfl, rfl, fun h => by cases h⟩
      · by_cases h2 : zs.length ≤ 1048576
        · by_cases h3 : y + (zs.length : Int) ≤ 1048576
          · go_wp2
            go_ret
            exact ⟨true, rfl, rfl, fun _ => ⟨h1, h2, fun r hr => HR.out r hr (by omega)⟩⟩
          · go_wp2
            go_ret
            exact .inl ⟨rfl, rfl⟩
        · go_wp2
          go_ret
          exact ⟨false, rfl, rfl, fun h => by cases h⟩
  · go_wp2
    go_ret
    exact ⟨false, rfl, rfl, fun h => by cases h⟩

set_option maxHeartbeats 1000000 in
set_option maxRecDepth 100000 in
theorem listsBytes (w : World) (v vn : Value) (zss : List (List Int)) (vs : Nat → Value) (zs : List Int) (hl : zss.length ≤ 1048576) (hz : zs.length ≤ 1048576) (hll : ∀ r (h : r < zss.length), zss[r].length ≤ 1048576) (h : InLists w v zss vs) (hn : InInts w vn zs) :
    Calls Try.prog 24 #[v, vn] w fun e w' => ∃ r : Int, e = .returned (.int .i64 r) ∧ w' = w ∧ 0 ≤ r ∧ r ≤ 1048577 := by
  obtain ⟨ao, c, rfl, hc⟩ := h.form
  obtain ⟨an, cn, rfl⟩ := hn.form
  have HC : Hid _ := hc
  have HI : Hid (∀ r (h : r < zss.length), InInts w (vs r) zss[r]) := h.2
  have HL : Hid _ := hll
  have HADD : Hid _ := addlen_any
  clear hc h hn hll
  go_enter Try.func24, Try.ntmps24
  go_wp2_with fail
  refine Calls.mono (HADD.out 0 (zss.length : Int) 24 w ⟨by omega, by omega⟩ ⟨by omega, by omega⟩ ⟨by omega, by omega⟩) ?_
  rintro e w' ⟨r1, hr1, hr1', rfl, hw⟩
  rw [hw]
  clear hw
  go_wp2_with fail
  refine Calls.mono (HADD.out r1 (zs.length : Int) 8 w ⟨by omega, by omega⟩ ⟨by omega, by omega⟩ ⟨by omega, by omega⟩) ?_
  rintro e w' ⟨r2, hr2, hr2', rfl, hw⟩
  rw [hw]
  clear hw
  go_wp2_with fail
  go_loopw [5, 6] (fun z i wr => Hid (∃ (k : Nat) (y : Int), k ≤ zss.length ∧ i = .int .i64 k ∧ z = .int .i64 y ∧ 0 ≤ y ∧ y ≤ 1048577 ∧ wr = w)) (fun _ i _ => zss.length - (intOf i).toNat)
  case atStart => exact ⟨0, r2, Nat.zero_le _, rfl, rfl, hr2, hr2', rfl⟩
  case round =>
    obtain ⟨k, y, hk, rfl, rfl, hy0, hy1, rfl⟩ := hrel.out
    clear hrel
    by_cases hlt : k < zss.length
    · by_cases hy : y ≤ 1048576
      · obtain ⟨b, off, hao, hcell⟩ := HC.out k hlt
        obtain ⟨a2, c2, hv⟩ := (HI.out k hlt).form
        rw [hv] at hcell
        have hll := HL.out k hlt
        obtain ⟨L, hL⟩ : ∃ L, L = zss[k].length := ⟨_, rfl⟩
        rw [← hL] at hcell hll
        clear hL hv
        subst hao
        go_wp2_with fail
        refine Calls.mono (HADD.out y (L : Int) 8 wr ⟨by omega, by omega⟩ ⟨by omega, by omega⟩ ⟨by omega, by omega⟩) ?_
        rintro e w' ⟨r3, hr3, hr3', rfl, hw⟩
        rw [hw]
        clear hw
        go_wp2
        go_roundw
        case rel => exact ⟨k + 1, r3, by omega, by go_num, rfl, hr3, hr3', by trivial⟩
        case measure => simp [intOf]; omega
      · go_wp2
        go_ret
        exact ⟨y, rfl, rfl, hy0, hy1⟩
    · go_wp2
      go_ret
      exact ⟨y, rfl, rfl, hy0, hy1⟩
end Go.Proofs.Qxb6601175a
