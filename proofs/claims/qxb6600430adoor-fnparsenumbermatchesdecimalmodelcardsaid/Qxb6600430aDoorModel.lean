/-
  THE WALKS of the decimal model: zzIsDigit, zzDigitRun, zzDecimalAboveMax, zzDecimalValue, zzModelParseNumber.
-/
import Derived.Test.Qxb6600430aDoorProg
import Derived.Test.Qxb6600430aDoorPlain
import Derived.WalkKit
import Derived.WalkSpells
import Derived.WalkSmall
import Derived.BigCall
import Derived.BigQuiet
import Derived.Deep.QuietTactic
import Derived.Lib.Strings
namespace Go.Proofs.Qxb6600430aDoor
open Go.RowKit Go.Lib

theorem run_get (p : UInt8 → Bool) : ∀ (l : List UInt8) (k : Nat) (h : k < l.length), k ≤ (l.takeWhile p).length → (p l[k] = true → k + 1 ≤ (l.takeWhile p).length) ∧ (p l[k] = false → (l.takeWhile p).length = k)
  | [], k, h, _ => by simp at h
  | x :: r, 0, h, hk => by
    rw [List.takeWhile_cons]
    simp only [List.getElem_cons_zero]
    constructor
    · intro hx; rw [if_pos hx]; simp
    · intro hx; rw [if_neg (by simp [hx])]; rfl
  | x :: r, k + 1, h, hk => by
    rw [List.takeWhile_cons] at hk ⊢
    by_cases hx : p x = true
    · rw [if_pos hx] at hk ⊢
      simp only [List.length_cons, List.getElem_cons_succ] at hk h ⊢
      have ih := run_get p r k (by omega) (by omega)
      exact ⟨fun hp => by have := ih.1 hp; omega, fun hp => by have := ih.2 hp; omega⟩
    · rw [if_neg hx] at hk
      simp at hk
theorem run_le (p : UInt8 → Bool) (l : List UInt8) : (l.takeWhile p).length ≤ l.length := (List.takeWhile_prefix p).length_le

theorem ret_bool {a b : Bool} (h : a = b) : Ending.returned (.bool a) = .returned (.bool b) := by rw [h]

set_option maxRecDepth 100000 in
theorem isdig_yes (c : UInt8) (h : isDig c = true) (w : World) :
    Calls Tryd.prog 20 #[.int .u8 (c.toNat : Int)] w fun e w' => e = .returned (.bool true) ∧ w' = w := by
  obtain ⟨h1, h2⟩ := (isDig_iff c).1 h
  clear h
  go_enter Tryd.func20, Tryd.ntmps20
  go_wp2
  go_ret
  exact ⟨ret_bool (by simp; omega), rfl⟩

set_option maxRecDepth 100000 in
theorem isdig_no (c : UInt8) (h : isDig c = false) (w : World) :
    Calls Tryd.prog 20 #[.int .u8 (c.toNat : Int)] w fun e w' => e = .returned (.bool false) ∧ w' = w := by
  have h' : ¬ (48 ≤ c.toNat ∧ c.toNat ≤ 57) := fun hh => by rw [(isDig_iff c).2 hh] at h; cases h
  clear h
  by_cases h1 : 48 ≤ c.toNat
  · have h2 : ¬ c.toNat ≤ 57 := fun hh => h' ⟨h1, hh⟩
    clear h'
    go_enter Tryd.func20, Tryd.ntmps20
    go_wp2
    go_ret
    exact ⟨ret_bool (by simp; omega), rfl⟩
  · clear h'
    go_enter Tryd.func20, Tryd.ntmps20
    go_wp2
    go_ret
    exact ⟨rfl, rfl⟩

theorem ret_int {k : IntKind} {a b : Int} (h : a = b) : Ending.returned (.int k a) = .returned (.int k b) := by rw [h]

set_option maxHeartbeats 1000000 in
set_option maxRecDepth 100000 in
theorem run_any (s : ByteArray) (hs : s.size ≤ 1048576) (w : World) :
    Calls Tryd.prog 16 #[.string s] w fun e w' => e = .returned (.int .i64 ((s.data.toList.takeWhile isDig).length : Int)) ∧ w' = w := by
  have hl : s.data.toList.length = s.size := Array.length_toList
  have hle := run_le isDig s.data.toList
  have HL : Hid (s.data.toList.length = s.size ∧ (s.data.toList.takeWhile isDig).length ≤ s.data.toList.length) := ⟨hl, hle⟩
  clear hl hle
  go_enter Tryd.func16, Tryd.ntmps16
  go_wp2
  go_loop [3] (fun i => ∃ k : Nat, k ≤ s.size ∧ i = .int .i64 k ∧ Hid (k ≤ (s.data.toList.takeWhile isDig).length)) (fun i => s.size - (intOf i).toNat)
  case atStart => exact ⟨0, Nat.zero_le _, rfl, Nat.zero_le _⟩
  case round =>
    obtain ⟨k, hk, rfl, HK⟩ := hrel
    by_cases hlt : k < s.size
    · have hg := run_get isDig s.data.toList k (by rw [HL.out.1]; exact hlt) HK.out
      have HG : Hid ((isDig s[k] = true → k + 1 ≤ (s.data.toList.takeWhile isDig).length) ∧ (isDig s[k] = false → (s.data.toList.takeWhile isDig).length = k)) := hg
      clear hg
      by_cases hd : isDig s[k] = true
      · have hc := isdig_yes s[k] hd w
        go_wp2_with (go_at_call 20; refine hc.mono ?_; rintro e w' ⟨rfl, rfl⟩)
        go_round
        case rel => exact ⟨k + 1, by omega, by go_num, HG.out.1 hd⟩
        case measure => simp [intOf]; omega
      · have hd : isDig s[k] = false := by simpa using hd
        have hc := isdig_no s[k] hd w
        go_wp2_with (go_at_call 20; refine hc.mono ?_; rintro e w' ⟨rfl, rfl⟩)
        go_ret
        exact ⟨ret_int (by rw [HG.out.2 hd]), rfl⟩
    · go_wp2
      go_ret
      have := HK.out
      have := HL.out
      exact ⟨ret_int (by omega), rfl⟩

theorem gtL_step (a b : List UInt8) (k : Nat) (ha : k < a.length) (hb : k < b.length) :
    gtL (a.drop k) (b.drop k) = if a[k].toNat = b[k].toNat then gtL (a.drop (k + 1)) (b.drop (k + 1)) else decide (b[k].toNat < a[k].toNat) := by
  rw [List.drop_eq_getElem_cons ha, List.drop_eq_getElem_cons hb]
  rfl

def maxS : ByteArray := ⟨#[49, 56, 52, 52, 54, 55, 52, 52, 48, 55, 51, 55, 48, 57, 53, 53, 49, 54, 49, 53]⟩

theorem idx_max (k : Nat) (hk : k < maxL.length) (W : World) :
    (Instr.index 9 (.string ⟨#[49, 56, 52, 52, 54, 55, 52, 52, 48, 55, 51, 55, 48, 57, 53, 53, 49, 54, 49, 53]⟩) (.int .i64 (k : Int))).run Tryd.prog W = .ok (.int .u8 (maxL[k].toNat : Int)) W := by
  have h1 : k < (⟨#[49, 56, 52, 52, 54, 55, 52, 52, 48, 55, 51, 55, 48, 57, 53, 53, 49, 54, 49, 53]⟩ : ByteArray).size := hk
  rw [run_index_string _ _ _ _ _ Tryd.underlying9, dif_pos ⟨by omega, by omega⟩]
  rfl

set_option maxHeartbeats 1000000 in
set_option maxRecDepth 100000 in
theorem above_any (s : ByteArray) (hs : s.size ≤ 1048576) (w : World) :
    Calls Tryd.prog 17 #[.string s] w fun e w' => e = .returned (.bool (aboveMax s.data.toList)) ∧ ∃ n, w' = w.drewN n := by
  have hl : s.data.toList.length = s.size := Array.length_toList
  by_cases h20 : s.size = 20
  · have e1 : ((s.size : Int) != 20) = false := by simp; omega
    have hA : aboveMax s.data.toList = gtL s.data.toList maxL := by unfold aboveMax; rw [if_pos (by omega)]
    rw [hA]
    have HL : Hid (s.data.toList.length = s.size ∧ s.size = 20) := ⟨hl, h20⟩
    have h20' : s.size ≤ 20 := by omega
    clear hl h20 hA
    go_enter Tryd.func17, Tryd.ntmps17
    go_wp2
    go_loopw [3] (fun i wr => ∃ k : Nat, k ≤ s.size ∧ i = .int .i64 k ∧ (∃ nq, wr = w.drewN nq) ∧ Hid (gtL s.data.toList maxL = gtL (s.data.toList.drop k) (maxL.drop k))) (fun i _ => s.size - (intOf i).toNat)
    case atStart => exact ⟨0, Nat.zero_le _, rfl, ⟨0, rfl⟩, rfl⟩
    case round =>
      obtain ⟨k, hk, rfl, ⟨nq, rfl⟩, HK⟩ := hrel
      by_cases hlt : k < s.size
      · have hkL : k < maxL.length := by show k < 20; omega
        have hci := idx_max k hkL
        obtain ⟨m, hm⟩ : ∃ m : Int, m = (maxL[k].toNat : Int) := ⟨_, rfl⟩
        rw [← hm] at hci
        have HM : Hid (m = (maxL[k].toNat : Int)) := hm
        clear hm
        by_cases hd : (s[k].toNat : Int) = m
        · have hd' : ((s[k].toNat : Int) != m) = false := by simpa using hd
          have HD : Hid ((s[k].toNat : Int) = m) := hd
          clear hd
          go_wp2
          go_quiet (fail)
          go_wp2
          go_roundw
          case rel =>
            refine ⟨k + 1, by omega, by go_num, ⟨_, rfl⟩, ?_⟩
            have hst := gtL_step s.data.toList maxL k (by rw [HL.out.1]; exact hlt) hkL
            have he : s.data.toList[k].toNat = maxL[k].toNat := by
              have h1 := HD.out
              rw [HM.out] at h1
              exact Int.ofNat.inj h1
            rw [if_pos he] at hst
            exact HK.out.trans hst
          case measure => simp [intOf]; omega
        · have hd' : ((s[k].toNat : Int) != m) = true := by simpa using hd
          go_wp2
          go_quiet (fail)
          go_wp2
          go_quiet (fail)
          go_wp2
          go_ret
          refine ⟨ret_bool ?_, _, by rw [World.drewN_drewN, World.drewN_drewN]⟩
          have hst := gtL_step s.data.toList maxL k (by rw [HL.out.1]; exact hlt) hkL
          have he : ¬ s.data.toList[k].toNat = maxL[k].toNat := by
            intro h1
            apply hd
            rw [HM.out]
            exact congrArg Int.ofNat h1
          rw [if_neg he] at hst
          rw [HK.out, hst, HM.out]
          exact decide_eq_decide.2 Int.ofNat_lt
      · go_wp2
        go_ret
        refine ⟨ret_bool ?_, _, rfl⟩
        have h1 := HL.out
        rw [HK.out, List.drop_of_length_le (by omega)]
        rfl
  · have e1 : ((s.size : Int) != 20) = true := by simp; omega
    have hA : aboveMax s.data.toList = decide (20 < s.size) := by unfold aboveMax; rw [if_neg (by omega), hl]
    rw [hA]
    clear hl h20 hA
    go_enter Tryd.func17, Tryd.ntmps17
    go_wp2
    go_ret
    exact ⟨ret_bool (by simp; omega), 0, rfl⟩

theorem valAcc_snoc (l : List UInt8) (k : Nat) (h : k < l.length) (acc : Nat) : valAcc acc (l.take (k + 1)) = valAcc acc (l.take k) * 10 + (l[k].toNat - 48) := by
  rw [List.take_succ_eq_append_getElem h, valAcc_append]
  rfl
theorem valAcc_take (l : List UInt8) (k : Nat) (acc : Nat) : valAcc acc (l.take k) ≤ valAcc acc l := by
  conv => rhs; rw [← List.take_append_drop k l]
  rw [valAcc_append]
  exact valAcc_le _ _

theorem value_step (s : ByteArray) (k : Nat) (h : k < s.size) (hl : s.data.toList.length = s.size) (hd : ∀ c ∈ s.data.toList, isDig c = true) (hv : valAcc 0 s.data.toList ≤ 18446744073709551615) (a : Int) (ha : a = (valAcc 0 (s.data.toList.take k) : Int)) :
    48 ≤ (s[k].toNat : Int) ∧ (s[k].toNat : Int) ≤ 57 ∧ a * 10 + ((s[k].toNat : Int) - 48) ≤ 18446744073709551615 ∧ a * 10 + ((s[k].toNat : Int) - 48) = (valAcc 0 (s.data.toList.take (k + 1)) : Int) := by
  have hkl : k < s.data.toList.length := by rw [hl]; exact h
  have hsn := valAcc_snoc s.data.toList k hkl 0
  have htk := valAcc_take s.data.toList (k + 1) 0
  have hc := (isDig_iff _).1 (hd s.data.toList[k] (List.getElem_mem hkl))
  have hcat : s.data.toList[k].toNat = s[k].toNat := rfl
  rw [hcat] at hsn hc
  omega

set_option maxHeartbeats 1000000 in
set_option maxRecDepth 100000 in
theorem value_any (s : ByteArray) (hs : s.size ≤ 1048576) (hd : ∀ c ∈ s.data.toList, isDig c = true) (hv : valAcc 0 s.data.toList ≤ 18446744073709551615) (w : World) :
    Calls Tryd.prog 18 #[.string s] w fun e w' => e = .returned (.int .u64 (valAcc 0 s.data.toList : Int)) ∧ w' = w := by
  have hl : s.data.toList.length = s.size := Array.length_toList
  have HL : Hid (s.data.toList.length = s.size ∧ (∀ c ∈ s.data.toList, isDig c = true) ∧ valAcc 0 s.data.toList ≤ 18446744073709551615) := ⟨hl, hd, hv⟩
  clear hl hd hv
  go_enter Tryd.func18, Tryd.ntmps18
  go_wp2
  go_loop [3, 4] (fun n i => ∃ (k : Nat) (a : Int), k ≤ s.size ∧ i = .int .i64 k ∧ n = .int .u64 a ∧ 0 ≤ a ∧ Hid (a = (valAcc 0 (s.data.toList.take k) : Int))) (fun _ i => s.size - (intOf i).toNat)
  case atStart => exact ⟨0, 0, Nat.zero_le _, rfl, rfl, by omega, rfl⟩
  case round =>
    obtain ⟨k, a, hk, rfl, rfl, ha, HK⟩ := hrel
    by_cases hlt : k < s.size
    · obtain ⟨b1, b2, b3, hS⟩ := value_step s k hlt HL.out.1 HL.out.2.1 HL.out.2.2 a HK.out
      have HS : Hid (a * 10 + ((s[k].toNat : Int) - 48) = (valAcc 0 (s.data.toList.take (k + 1)) : Int)) := hS
      clear hS
      go_wp2
      go_round
      case rel =>
        exact ⟨k + 1, _, by omega, by go_num, rfl, by omega, HS⟩
      case measure => simp [intOf]; omega
    · go_wp2
      go_ret
      refine ⟨ret_int ?_, rfl⟩
      have h1 := HL.out.1
      rw [HK.out, List.take_of_length_le (by omega)]
end Go.Proofs.Qxb6600430aDoor
