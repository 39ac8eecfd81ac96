/-
  THE WALK of zzFormatUint: for every uint64 it returns the decimal digits.
-/
import Derived.Test.Qxb6600430aDoorProg
import Derived.Test.Qxb6600430aDoorPlain
import Derived.WalkKit
import Derived.WalkSpells
import Derived.WalkSmall
import Derived.Laws.IdiomStrings
namespace Go.Proofs.Qxb6600430aDoor
open Go.RowKit Go.Lib

theorem slice_tail (b k : Nat) (hk : k < 20) (W : World) :
    (Instr.sliceAt 30 (.pointer (some ⟨b, 0, none⟩)) (some (.int .i64 (k : Int))) none none).run Tryd.prog W = .ok (.slice (some ⟨b, k, none⟩) (20 - k) (20 - k)) W := by
  have hl : Tryd.prog.arrayLen 30 = 20 := by kernel_rfl
  have he : Tryd.prog.elem 30 = 5 := by kernel_rfl
  rw [run_sliceAt_array_l W 30 _ (by rw [hl, he]; exact Tryd.underlying30) _ _ (by omega) (by rw [hl]; omega), hl, he, Tryd.sizeOf5]
  simp only [Result.andThen, slicedAt, Int.toNat_natCast, Nat.mul_one, Addr.add, Nat.zero_add]
  rw [if_neg (by omega)]
  split
  · rename_i h; subst h; rfl
  · rfl

theorem conv_tail (w : World) (xs : Array Value) (l : List UInt8) (k : Nat) (hl : k + l.length = 20)
    (hc : ∀ j (hj : j < l.length), xs[k + j]? = some (.int .u8 (l[j].toNat : Int))) :
    (convert 31 9 (.slice (some ⟨w.heap.size, k, none⟩) (20 - k) (20 - k))).run Tryd.prog (w.alloc (.cells xs 30)) = .ok (.string ⟨l.toArray⟩) (w.alloc (.cells xs 30)) := by
  have e : 20 - k = l.length := by omega
  rw [e]
  refine run_convert_bytes_back _ 31 9 5 _ _ l Tryd.underlying31 Tryd.underlying5 Tryd.underlying9 fun j hj => ?_
  rw [← hc j hj]
  have ea : (⟨w.heap.size, k, none⟩ : Addr).add j = ⟨w.heap.size, k + j, none⟩ := by
    unfold Addr.add
    split
    · rename_i h; subst h; rfl
    · rfl
  rw [ea]
  exact World.cell?_alloc_at xs 30 _ _ rfl

set_option maxHeartbeats 1000000 in
set_option maxRecDepth 100000 in
theorem fmt_pos (n : Int) (w : World) (h1 : 0 < n) (h2 : n ≤ 18446744073709551615) :
    Calls Tryd.prog 11 #[.int .u64 n] w fun e w' => e = .returned (.string ⟨(digs 20 n.toNat).toArray⟩) ∧ Below w.heap.size w w' := by
  have e0 : (n == 0) = false := by simp; omega
  go_enter Tryd.func11, Tryd.ntmps11
  go_wp2
  go_loopw [0, 4] (fun u i wr => ∃ (a : Int) (k : Nat) (l : List UInt8) (xs : Array Value), u = .int .u64 a ∧ i = .int .i64 k ∧ wr = w.alloc (.cells xs 30) ∧ 0 ≤ a ∧ a ≤ n ∧ k ≤ 20 ∧ (0 < a → 1 ≤ k) ∧ Hid (xs.size = 20 ∧ k + l.length = 20 ∧ (∀ j (hj : j < l.length), xs[k + j]? = some (.int .u8 (l[j].toNat : Int))) ∧ digs 20 a.toNat ++ l = digs 20 n.toNat ∧ a * 10 ^ (20 - k) ≤ n)) (fun u _ _ => (intOf u).toNat)
  case atStart =>
    refine ⟨n, 20, [], _, rfl, rfl, rfl, by omega, by omega, by omega, by omega, ⟨rfl, rfl, fun j hj => absurd hj (Nat.not_lt_zero _), by simp, by simp⟩⟩
  case round =>
    obtain ⟨a, k, l, xs, rfl, rfl, rfl, ha0, ha1, hk, hak, H⟩ := hrel
    by_cases hlt : 0 < a
    · have hk1 := hak hlt
      obtain ⟨vo, hvo⟩ : ∃ vo, xs[k - 1]? = some vo := by
        have := H.out.1
        exact ⟨_, Array.getElem?_eq_getElem (by omega)⟩
      go_wp2
      go_roundw
      case rel => 
        obtain ⟨s1, s2, s3, s4, s5⟩ := H.out
        have hp : a * 10 ^ (20 - k) = (a / 10) * 10 ^ (20 - (k - 1)) + (a % 10) * 10 ^ (20 - k) := by
          rw [show 20 - (k - 1) = (20 - k) + 1 by omega, Int.pow_succ]
          generalize (10 : Int) ^ (20 - k) = q
          have : a = 10 * (a / 10) + a % 10 := by omega
          conv => lhs; rw [this]
          rw [Int.add_mul, Int.mul_comm 10 (a / 10), Int.mul_assoc, Int.mul_comm 10 q]
        have hq : 0 ≤ (a % 10) * (10 : Int) ^ (20 - k) := Int.mul_nonneg (by omega) (Int.le_of_lt (Int.pow_pos (by omega)))
        have hp1 : (a / 10) * 10 ^ (20 - (k - 1)) ≤ n := by omega
        have hd : digs 20 a.toNat = digs 20 (a.toNat / 10) ++ [UInt8.ofNat (48 + a.toNat % 10)] := by
          have hf : digs 20 (a.toNat / 10) = digs 19 (a.toNat / 10) := digs_fuel 20 19 _ (by omega) (by omega)
          rw [hf]
          show digs (19 + 1) a.toNat = _
          rw [digs, if_neg (by omega)]
        have hdig : ((UInt8.ofNat (48 + a.toNat % 10)).toNat : Int) = 48 + a % 10 := by rw [dig_toNat]; omega
        have hdiv : (a / 10).toNat = a.toNat / 10 := by omega
        refine ⟨a / 10, k - 1, UInt8.ofNat (48 + a.toNat % 10) :: l, _, rfl, by congr 1; omega, rfl, by omega, by omega, by omega, ?_, ⟨?_, ?_, ?_, ?_, hp1⟩⟩
        · intro hpos
          refine Nat.one_le_iff_ne_zero.2 fun hz => ?_
          rw [hz] at hp1
          have := Int.mul_le_mul_of_nonneg_right (show 1 ≤ a / 10 by omega) (show (0 : Int) ≤ 10 ^ (20 - 0) by decide)
          omega
        · simpa using s1
        · simp; omega
        · intro j hj
          cases j with
          | zero =>
            rw [Nat.add_zero, Array.getElem?_setIfInBounds_self_of_lt (by omega)]
            simp only [List.getElem_cons_zero]
            rw [hdig]
          | succ j =>
            rw [Array.getElem?_setIfInBounds_ne (by omega), show k - 1 + (j + 1) = k + j by omega]
            exact s3 j (by simpa using hj)
        · rw [hdiv, ← s4, hd]; simp
      case measure => simp [intOf]; omega
    · obtain ⟨s1, s2, s3, s4, s5⟩ := H.out
      have ha : a = 0 := by omega
      subst ha
      have hl : l = digs 20 n.toNat := by
        rw [← s4]
        rfl
      have hne : l ≠ [] := by
        rw [hl]
        exact digs_ne 19 _ (by omega)
      have hk2 : k < 20 := by
        have := List.length_pos_iff.2 hne
        omega
      have hsl := slice_tail w.heap.size k hk2
      have hcv := conv_tail w xs l k s2 s3
      have HL : Hid (l = digs 20 n.toNat) := hl
      clear s1 s2 s3 s4 s5 H hl hne hak
      go_wp2
      go_ret
      exact ⟨by rw [← HL.out]; rfl, (Below.refl _ _).alloc (Nat.le_refl _) _⟩

set_option maxRecDepth 100000 in
theorem fmt_zero (w : World) :
    Calls Tryd.prog 11 #[.int .u64 0] w fun e w' => e = .returned (.string ⟨#[48]⟩) ∧ w' = w := by
  go_enter Tryd.func11, Tryd.ntmps11
  go_wp2
  go_ret
  exact ⟨rfl, rfl⟩
end Go.Proofs.Qxb6600430aDoor
