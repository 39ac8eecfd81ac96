/-
  THE WALK of zzArcsInDomain.
-/
import Derived.Test.Qxb6601175aTrail
import Derived.Test.Qxb6601175aSizes
namespace Go.Proofs.Qxb6601175a
open Go.RowKit

theorem Same.cell {w W : World} (h : Same w W) (a : Addr) : W.cell? a = w.cell? a := by
  unfold World.cell?
  rw [h.heap]
theorem Same.refl (w : World) : Same w w := ⟨rfl, rfl, rfl, rfl⟩
theorem Same.trans {a b c : World} (h : Same a b) (k : Same b c) : Same a c := ⟨k.heap.trans h.heap, k.os.trans h.os, k.tape.trans h.tape, k.output.trans h.output⟩

/-- a list: in range, strictly increasing, up to place j -/
def Good (N : Nat) (zs : List Int) (j : Nat) : Prop := ∀ i, i < j → 0 ≤ zs.getD i 0 ∧ zs.getD i 0 < N ∧ (0 < i → zs.getD (i - 1) 0 < zs.getD i 0)

theorem InInts.cells {w : World} {v : Value} {zs : List Int} (h : InInts w v zs) : ∃ ao c, v = .slice ao zs.length c ∧ ∀ j, j < zs.length → ∃ b off, ao = some ⟨b, off, none⟩ ∧ ∀ i, i < zs.length → w.cell? ⟨b, off + i, none⟩ = some (.int .i64 (zs.getD i 0)) := by
  rcases h with ⟨rfl, rfl⟩ | ⟨a, c, rfl, rfl⟩ | ⟨b, off, c, rfl, _, h2⟩
  · exact ⟨none, 0, rfl, fun r hr => by simp at hr⟩
  · exact ⟨some a, c, rfl, fun r hr => by simp at hr⟩
  · refine ⟨some ⟨b, off, none⟩, c, rfl, fun r _ => ⟨b, off, rfl, fun i hi => ?_⟩⟩
    rw [h2 i hi, List.getD_eq_getElem?_getD, List.getElem?_eq_getElem hi]; rfl

def DomPost (w : World) (zss : List (List Int)) (e : Ending) (w' : World) : Prop := ∃ ok, e = .returned (.bool ok) ∧ Same w w' ∧ (ok = true → ∀ r, r < zss.length → Good zss.length (zss.getD r []) (zss.getD r []).length)

set_option maxHeartbeats 4000000 in
set_option maxRecDepth 100000 in
theorem domain_any (w : World) (v : Value) (zss : List (List Int)) (vs : Nat → Value) (hl : zss.length ≤ 1048576) (hll : ∀ r (h : r < zss.length), zss[r].length ≤ 1048576) (h : InLists w v zss vs) :
    Calls Try.prog 25 #[v] w (DomPost w zss) := by
  obtain ⟨ao, c, rfl, hc⟩ := h.form
  have HC : Hid _ := hc
  have HI : Hid (∀ r (h : r < zss.length), InInts w (vs r) zss[r]) := h.2
  have HL : Hid _ := hll
  clear hc h hll
  go_enter Try.func25, Try.ntmps25
  go_wp2_with fail
  go_loopw [4] (fun i wr => Hid (∃ k : Nat, k ≤ zss.length ∧ i = .int .i64 k ∧ Same w wr ∧ ∀ r, r < k → Good zss.length (zss.getD r []) (zss.getD r []).length)) (fun i _ => zss.length - (intOf i).toNat)
  case atStart => exact ⟨0, Nat.zero_le _, rfl, Same.refl _, fun r h => absurd h (by omega)⟩
  case round =>
    obtain ⟨k, hk, rfl, hs, hgood⟩ := hrel.out
    have HG : Hid _ := hgood
    have HS : Hid _ := hs
    clear hrel hgood hs
    by_cases hlt : k < zss.length
    · obtain ⟨b, off, hao, hcell⟩ := HC.out k hlt
      subst hao
      rw [← HS.out.cell] at hcell
      have hE : zss.getD k [] = zss[k] := by rw [List.getD_eq_getElem?_getD, List.getElem?_eq_getElem hlt]; rfl
      obtain ⟨al, cl, hv, hcl⟩ := (HI.out k hlt).cells
      have hll := HL.out k hlt
      rw [← hE] at hv hcl hll
      obtain ⟨zs, hzs⟩ : ∃ zs, zs = zss.getD k [] := ⟨_, rfl⟩
      rw [← hzs] at hv hcl hll
      rw [hv] at hcell
      have HZ : Hid (zs = zss.getD k []) := hzs
      have HCL : Hid _ := hcl
      clear hzs hcl hE hv
      go_wp2_with fail
      go_loopw [6] (fun i wx => Hid (∃ j : Nat, j ≤ zs.length ∧ i = .int .i64 j ∧ Same w wx ∧ Good zss.length zs j)) (fun i _ => zs.length - (intOf i).toNat)
      case atStart => exact ⟨0, Nat.zero_le _, rfl, HS, fun i h => absurd h (by omega)⟩
      case round =>
        clear hcell HS
        obtain ⟨j, hj, rfl, hs, hg⟩ := hrel.out
        have HS : Hid _ := hs
        have HGJ : Hid (Good zss.length zs j) := hg
        clear hrel hs hg
        by_cases hjl : j < zs.length
        · obtain ⟨bl, ol, hal, hcl⟩ := HCL.out j hjl
          subst hal
          have hcj := hcl j hjl
          rw [← HS.out.cell] at hcj
          obtain ⟨x, hx⟩ : ∃ x, x = zs.getD j 0 := ⟨_, rfl⟩
          rw [← hx] at hcj
          by_cases hx0 : x < 0
          · clear hcl hx
            go_wp2
            all_goals go_ret
            all_goals exact ⟨false, rfl, HS, fun h => by cases h⟩
          · by_cases hxn : x < (zss.length : Int)
            · by_cases hj0 : 0 < j
              · have hcp := hcl (j - 1) (by omega)
                rw [← HS.out.cell] at hcp
                obtain ⟨i, hi⟩ : ∃ i, i = j - 1 := ⟨_, rfl⟩
                have hij : (j : Int) - 1 = (i : Int) := by omega
                rw [← hi] at hcp
                obtain ⟨y, hy⟩ : ∃ y, y = zs.getD i 0 := ⟨_, rfl⟩
                rw [← hy] at hcp
                have hi' : i < zs.length := by omega
                have HX : Hid (x = zs.getD j 0 ∧ y = zs.getD i 0 ∧ i = j - 1) := ⟨hx, hy, hi⟩
                have hd : decide ((0 : Int) < (j : Int)) = true := by simp; omega
                clear hcl hx hy hi
                go_upto_region 11 with fail
                go_quiet (fail)
                by_cases hyx : y < x
                · have HN : Hid (Good zss.length zs (j + 1)) := by
                    intro m hm
                    by_cases e : m = j
                    · subst e
                      rw [← HX.out.1, ← HX.out.2.2, ← HX.out.2.1]
                      exact ⟨by omega, by omega, fun _ => hyx⟩
                    · exact HGJ.out m (by omega)
                  go_wp2
                  go_roundw
                  case rel => exact ⟨j + 1, by omega, by go_num, HS.out.trans ⟨rfl, rfl, rfl, rfl⟩, HN⟩
                  case measure => simp [intOf]; omega
                · go_wp2
                  all_goals go_ret
                  all_goals exact ⟨false, rfl, HS.out.trans ⟨rfl, rfl, rfl, rfl⟩, fun h => by cases h⟩
              · have HN : Hid (Good zss.length zs (j + 1)) := by
                  intro m hm
                  have : m = j := by omega
                  subst this
                  rw [← hx]
                  exact ⟨by omega, by omega, fun h => absurd h (by omega)⟩
                have hd : decide ((0 : Int) < (j : Int)) = false := by simp; omega
                clear hcl hx
                go_upto_region 11 with fail
                go_quiet (fail)
                go_wp2
                go_roundw
                case rel => exact ⟨j + 1, by omega, by go_num, HS.out.trans ⟨rfl, rfl, rfl, rfl⟩, HN⟩
                case measure => simp [intOf]; omega
            · clear hcl hx
              go_wp2
              all_goals go_ret
              all_goals exact ⟨false, rfl, HS, fun h => by cases h⟩
        · have hjj : j = zs.length := by omega
          have HN : Hid (∀ r, r < k + 1 → Good zss.length (zss.getD r []) (zss.getD r []).length) := by
            intro r hr
            by_cases e : r = k
            · subst e
              rw [← HZ.out, ← hjj]
              exact HGJ
            · exact HG.out r (by omega)
          clear hjj
          go_wp2
          go_roundw
          case rel => exact ⟨k + 1, by omega, by go_num, HS, HN⟩
          case measure => simp [intOf]; omega
    · go_wp2
      all_goals go_ret
      all_goals exact ⟨true, rfl, HS, fun _ r hr => HG.out r (by omega)⟩
end Go.Proofs.Qxb6601175a
