/-
  THE WALKS of the model's small functions: plainStep, plainAccepting.
-/
import Derived.Test.Qxb6601198aProg
import Derived.Test.Qxb6601198aPlain
import Derived.WalkKit
import Derived.WalkSpells
import Derived.WalkSmall
import Derived.BigCall
import Derived.BigQuiet
import Derived.Deep.QuietTactic
import Derived.Deep.Light
import Derived.Lib.Strings
namespace Go.Proofs.Qxb6601198a
open Go.RowKit Go.Lib

theorem ret_int {k : IntKind} {a b : Int} (h : a = b) : Ending.returned (.int k a) = .returned (.int k b) := by rw [h]
theorem ret_bool {a b : Bool} (h : a = b) : Ending.returned (.bool a) = .returned (.bool b) := by rw [h]

/-- the step as plainStep gives it: -1 where there is none -/
def oi : Option Nat → Int
  | some n => (n : Int)
  | none => -1
def stepI (st : Nat) (c : UInt8) : Int := oi (step st c)
theorem oi_ite (p : Prop) [Decidable p] (a b : Option Nat) : oi (if p then a else b) = if p then oi a else oi b := by split <;> rfl

set_option maxHeartbeats 1000000 in
set_option maxRecDepth 100000 in
theorem step_at0 (n : Int) (w : World) (r : Int) (h0 : 0 ≤ n) (h1 : n ≤ 255) (hr : r = if n = 45 then 1 else if n = 48 then 2 else if 48 ≤ n ∧ n ≤ 57 then 3 else -1) :
    Calls Try.prog 19 #[.int .i64 0, .int .u8 n] w fun e w' => e = .returned (.int .i64 r) ∧ w' = w := by
  have HR : Hid (r = if n = 45 then 1 else if n = 48 then 2 else if 48 ≤ n ∧ n ≤ 57 then 3 else -1) := hr
  clear hr
  go_enter Try.func19, Try.ntmps19
  go_wp2
  all_goals go_ret
  all_goals refine ⟨ret_int ?_, rfl⟩
  all_goals rw [HR.out]
  all_goals go_light
  all_goals (try simp only [beq_iff_eq, beq_eq_false_iff_ne, ne_eq] at *)
  all_goals ((repeat' split) <;> omega)
set_option maxHeartbeats 1000000 in
set_option maxRecDepth 100000 in
theorem step_at1 (n : Int) (w : World) (r : Int) (h0 : 0 ≤ n) (h1 : n ≤ 255) (hr : r = if n = 48 then 2 else if 48 ≤ n ∧ n ≤ 57 then 3 else -1) :
    Calls Try.prog 19 #[.int .i64 1, .int .u8 n] w fun e w' => e = .returned (.int .i64 r) ∧ w' = w := by
  have HR : Hid (r = if n = 48 then 2 else if 48 ≤ n ∧ n ≤ 57 then 3 else -1) := hr
  clear hr
  go_enter Try.func19, Try.ntmps19
  go_wp2
  all_goals go_ret
  all_goals refine ⟨ret_int ?_, rfl⟩
  all_goals rw [HR.out]
  all_goals go_light
  all_goals (try simp only [beq_iff_eq, beq_eq_false_iff_ne, ne_eq] at *)
  all_goals ((repeat' split) <;> omega)
set_option maxHeartbeats 1000000 in
set_option maxRecDepth 100000 in
theorem step_at2 (n : Int) (w : World) (r : Int) (h0 : 0 ≤ n) (h1 : n ≤ 255) (hr : r = if n = 46 then 4 else if n = 101 ∨ n = 69 then 6 else -1) :
    Calls Try.prog 19 #[.int .i64 2, .int .u8 n] w fun e w' => e = .returned (.int .i64 r) ∧ w' = w := by
  have HR : Hid (r = if n = 46 then 4 else if n = 101 ∨ n = 69 then 6 else -1) := hr
  clear hr
  go_enter Try.func19, Try.ntmps19
  go_wp2
  all_goals go_ret
  all_goals refine ⟨ret_int ?_, rfl⟩
  all_goals rw [HR.out]
  all_goals go_light
  all_goals (try simp only [beq_iff_eq, beq_eq_false_iff_ne, ne_eq] at *)
  all_goals ((repeat' split) <;> omega)
set_option maxHeartbeats 1000000 in
set_option maxRecDepth 100000 in
theorem step_at3 (n : Int) (w : World) (r : Int) (h0 : 0 ≤ n) (h1 : n ≤ 255) (hr : r = if 48 ≤ n ∧ n ≤ 57 then 3 else if n = 46 then 4 else if n = 101 ∨ n = 69 then 6 else -1) :
    Calls Try.prog 19 #[.int .i64 3, .int .u8 n] w fun e w' => e = .returned (.int .i64 r) ∧ w' = w := by
  have HR : Hid (r = if 48 ≤ n ∧ n ≤ 57 then 3 else if n = 46 then 4 else if n = 101 ∨ n = 69 then 6 else -1) := hr
  clear hr
  go_enter Try.func19, Try.ntmps19
  go_wp2
  all_goals go_ret
  all_goals refine ⟨ret_int ?_, rfl⟩
  all_goals rw [HR.out]
  all_goals go_light
  all_goals (try simp only [beq_iff_eq, beq_eq_false_iff_ne, ne_eq] at *)
  all_goals ((repeat' split) <;> omega)
set_option maxHeartbeats 1000000 in
set_option maxRecDepth 100000 in
theorem step_at4 (n : Int) (w : World) (r : Int) (h0 : 0 ≤ n) (h1 : n ≤ 255) (hr : r = if 48 ≤ n ∧ n ≤ 57 then 5 else -1) :
    Calls Try.prog 19 #[.int .i64 4, .int .u8 n] w fun e w' => e = .returned (.int .i64 r) ∧ w' = w := by
  have HR : Hid (r = if 48 ≤ n ∧ n ≤ 57 then 5 else -1) := hr
  clear hr
  go_enter Try.func19, Try.ntmps19
  go_wp2
  all_goals go_ret
  all_goals refine ⟨ret_int ?_, rfl⟩
  all_goals rw [HR.out]
  all_goals go_light
  all_goals (try simp only [beq_iff_eq, beq_eq_false_iff_ne, ne_eq] at *)
  all_goals ((repeat' split) <;> omega)
set_option maxHeartbeats 1000000 in
set_option maxRecDepth 100000 in
theorem step_at5 (n : Int) (w : World) (r : Int) (h0 : 0 ≤ n) (h1 : n ≤ 255) (hr : r = if 48 ≤ n ∧ n ≤ 57 then 5 else if n = 101 ∨ n = 69 then 6 else -1) :
    Calls Try.prog 19 #[.int .i64 5, .int .u8 n] w fun e w' => e = .returned (.int .i64 r) ∧ w' = w := by
  have HR : Hid (r = if 48 ≤ n ∧ n ≤ 57 then 5 else if n = 101 ∨ n = 69 then 6 else -1) := hr
  clear hr
  go_enter Try.func19, Try.ntmps19
  go_wp2
  all_goals go_ret
  all_goals refine ⟨ret_int ?_, rfl⟩
  all_goals rw [HR.out]
  all_goals go_light
  all_goals (try simp only [beq_iff_eq, beq_eq_false_iff_ne, ne_eq] at *)
  all_goals ((repeat' split) <;> omega)
set_option maxHeartbeats 1000000 in
set_option maxRecDepth 100000 in
theorem step_at6 (n : Int) (w : World) (r : Int) (h0 : 0 ≤ n) (h1 : n ≤ 255) (hr : r = if n = 43 ∨ n = 45 then 7 else if 48 ≤ n ∧ n ≤ 57 then 8 else -1) :
    Calls Try.prog 19 #[.int .i64 6, .int .u8 n] w fun e w' => e = .returned (.int .i64 r) ∧ w' = w := by
  have HR : Hid (r = if n = 43 ∨ n = 45 then 7 else if 48 ≤ n ∧ n ≤ 57 then 8 else -1) := hr
  clear hr
  go_enter Try.func19, Try.ntmps19
  go_wp2
  all_goals go_ret
  all_goals refine ⟨ret_int ?_, rfl⟩
  all_goals rw [HR.out]
  all_goals go_light
  all_goals (try simp only [beq_iff_eq, beq_eq_false_iff_ne, ne_eq] at *)
  all_goals ((repeat' split) <;> omega)
set_option maxHeartbeats 1000000 in
set_option maxRecDepth 100000 in
theorem step_at7 (n : Int) (w : World) (r : Int) (h0 : 0 ≤ n) (h1 : n ≤ 255) (hr : r = if 48 ≤ n ∧ n ≤ 57 then 8 else -1) :
    Calls Try.prog 19 #[.int .i64 7, .int .u8 n] w fun e w' => e = .returned (.int .i64 r) ∧ w' = w := by
  have HR : Hid (r = if 48 ≤ n ∧ n ≤ 57 then 8 else -1) := hr
  clear hr
  go_enter Try.func19, Try.ntmps19
  go_wp2
  all_goals go_ret
  all_goals refine ⟨ret_int ?_, rfl⟩
  all_goals rw [HR.out]
  all_goals go_light
  all_goals (try simp only [beq_iff_eq, beq_eq_false_iff_ne, ne_eq] at *)
  all_goals ((repeat' split) <;> omega)
set_option maxHeartbeats 1000000 in
set_option maxRecDepth 100000 in
theorem step_at8 (n : Int) (w : World) (r : Int) (h0 : 0 ≤ n) (h1 : n ≤ 255) (hr : r = if 48 ≤ n ∧ n ≤ 57 then 8 else -1) :
    Calls Try.prog 19 #[.int .i64 8, .int .u8 n] w fun e w' => e = .returned (.int .i64 r) ∧ w' = w := by
  have HR : Hid (r = if 48 ≤ n ∧ n ≤ 57 then 8 else -1) := hr
  clear hr
  go_enter Try.func19, Try.ntmps19
  go_wp2
  all_goals go_ret
  all_goals refine ⟨ret_int ?_, rfl⟩
  all_goals rw [HR.out]
  all_goals go_light
  all_goals (try simp only [beq_iff_eq, beq_eq_false_iff_ne, ne_eq] at *)
  all_goals ((repeat' split) <;> omega)

set_option linter.unusedSimpArgs false in
/-- plainStep -/
theorem step_any (st : Nat) (hst : st ≤ 8) (c : UInt8) (w : World) :
    Calls Try.prog 19 #[.int .i64 (st : Int), .int .u8 (c.toNat : Int)] w fun e w' => e = .returned (.int .i64 (stepI st c)) ∧ w' = w := by
  have hc : (c.toNat : Int) ≤ 255 := by have := c.toNat_lt; omega
  have hd : isDig c = true ↔ 48 ≤ (c.toNat : Int) ∧ (c.toNat : Int) ≤ 57 := by rw [isDig_iff]; omega
  have he : isExp c = true ↔ (c.toNat : Int) = 101 ∨ (c.toNat : Int) = 69 := by rw [isExp_iff]; omega
  have hs : isSgn c = true ↔ (c.toNat : Int) = 43 ∨ (c.toNat : Int) = 45 := by rw [isSgn_iff]; omega
  have h45 : c.toNat = 45 ↔ (c.toNat : Int) = 45 := by omega
  have h46 : c.toNat = 46 ↔ (c.toNat : Int) = 46 := by omega
  have h48 : c.toNat = 48 ↔ (c.toNat : Int) = 48 := by omega
  match st, hst with
  | 0, _ => exact step_at0 _ w _ (by omega) hc (by simp only [stepI, step, oi_ite, hd, he, hs, h45, h46, h48]; rfl)
  | 1, _ => exact step_at1 _ w _ (by omega) hc (by simp only [stepI, step, oi_ite, hd, he, hs, h45, h46, h48]; rfl)
  | 2, _ => exact step_at2 _ w _ (by omega) hc (by simp only [stepI, step, oi_ite, hd, he, hs, h45, h46, h48]; rfl)
  | 3, _ => exact step_at3 _ w _ (by omega) hc (by simp only [stepI, step, oi_ite, hd, he, hs, h45, h46, h48]; rfl)
  | 4, _ => exact step_at4 _ w _ (by omega) hc (by simp only [stepI, step, oi_ite, hd, he, hs, h45, h46, h48]; rfl)
  | 5, _ => exact step_at5 _ w _ (by omega) hc (by simp only [stepI, step, oi_ite, hd, he, hs, h45, h46, h48]; rfl)
  | 6, _ => exact step_at6 _ w _ (by omega) hc (by simp only [stepI, step, oi_ite, hd, he, hs, h45, h46, h48]; rfl)
  | 7, _ => exact step_at7 _ w _ (by omega) hc (by simp only [stepI, step, oi_ite, hd, he, hs, h45, h46, h48]; rfl)
  | 8, _ => exact step_at8 _ w _ (by omega) hc (by simp only [stepI, step, oi_ite, hd, he, hs, h45, h46, h48]; rfl)

set_option maxRecDepth 100000 in
theorem accept_any (st : Nat) (hst : st ≤ 8) (w : World) :
    Calls Try.prog 20 #[.int .i64 (st : Int)] w fun e w' => e = .returned (.bool (accepting st)) ∧ w' = w := by
  match st, hst with
  | 0, _ | 1, _ | 2, _ | 3, _ | 4, _ | 5, _ | 6, _ | 7, _ | 8, _ =>
    go_enter Try.func20, Try.ntmps20
    go_wp2
    go_ret
    exact ⟨rfl, rfl⟩

/-! ### plainKeyword -/
theorem prefix_iff (p l : List UInt8) : p.isPrefixOf l = true ↔ p.length ≤ l.length ∧ ∀ i (h1 : i < p.length) (h2 : i < l.length), l[i] = p[i] := by
  rw [List.isPrefixOf_iff_prefix]
  constructor
  · rintro ⟨t, rfl⟩
    refine ⟨by simp, fun i h1 h2 => ?_⟩
    rw [List.getElem_append_left h1]
  · rintro ⟨h1, h2⟩
    refine ⟨l.drop p.length, ?_⟩
    conv => rhs; rw [← List.take_append_drop p.length l]
    congr 1
    apply List.ext_getElem
    · simp; omega
    · intro i h3 h4
      rw [List.getElem_take]
      exact (h2 i h3 (by simp at h4; omega)).symm

theorem drop_get (s : ByteArray) (p i : Nat) (h : p + i < s.size) (h' : i < (s.data.toList.drop p).length) : (s.data.toList.drop p)[i] = s[p + i] := by
  rw [List.getElem_drop]; rfl

theorem idx_at (s : ByteArray) (p k : Nat) (h : p + k < s.size) (W : World) :
    (Instr.index 9 (.string s) (.int .i64 ((p : Int) + (k : Int)))).run Try.prog W = .ok (.int .u8 (s[p + k].toNat : Int)) W := by
  rw [run_index_string _ _ _ _ _ Try.underlying9, dif_pos ⟨by omega, by omega⟩]
  rfl

set_option maxHeartbeats 1000000 in
set_option maxRecDepth 100000 in
theorem key_any (s wd : ByteArray) (p : Nat) (hp : p ≤ s.size) (hs : s.size ≤ 1048576) (hwd : wd.size ≤ 5) (w : World) :
    Calls Try.prog 18 #[.string s, .int .i64 (p : Int), .string wd] w fun e w' => e = .returned (.bool (wd.data.toList.isPrefixOf (s.data.toList.drop p))) ∧ ∃ n, w' = w.drewN n := by
  have hl : s.data.toList.length = s.size := Array.length_toList
  have hlw : wd.data.toList.length = wd.size := Array.length_toList
  have HL : Hid (s.data.toList.length = s.size ∧ wd.data.toList.length = wd.size) := ⟨hl, hlw⟩
  clear hl hlw
  by_cases hlen : s.size - p < wd.size
  · go_enter Try.func18, Try.ntmps18
    go_wp2
    go_ret
    refine ⟨ret_bool ?_, 0, rfl⟩
    symm
    rw [Bool.eq_false_iff]
    intro h
    have h1 := ((prefix_iff _ _).1 h).1
    have h2 := HL.out
    rw [List.length_drop] at h1
    omega
  · go_enter Try.func18, Try.ntmps18
    go_wp2
    go_loopw [7] (fun i wr => ∃ k : Nat, k ≤ wd.size ∧ i = .int .i64 k ∧ (∃ nq, wr = w.drewN nq) ∧ Hid (∀ i (h1 : i < k) (h2 : p + i < s.size) (h3 : i < wd.size), s[p + i] = wd[i])) (fun i _ => wd.size - (intOf i).toNat)
    case atStart => exact ⟨0, Nat.zero_le _, rfl, ⟨0, rfl⟩, fun i h1 => absurd h1 (Nat.not_lt_zero _)⟩
    case round =>
      obtain ⟨k, hk, rfl, ⟨nq, rfl⟩, HK⟩ := hrel
      by_cases hlt : k < wd.size
      · have hpk : p + k < s.size := by omega
        have hwr : IntKind.i64.wrap ((p : Int) + (k : Int)) = (p : Int) + (k : Int) := by rw [IntKind.wrap_i64]; omega
        have hix := idx_at s p k hpk
        by_cases hd : (s[p + k].toNat : Int) = wd[k].toNat
        · have hd' : ((s[p + k].toNat : Int) != wd[k].toNat) = false := by simpa using hd
          have HD : Hid ((s[p + k].toNat : Int) = wd[k].toNat) := hd
          clear hd
          go_wp2
          go_quiet (fail)
          go_wp2
          go_roundw
          case rel =>
            refine ⟨k + 1, by omega, by go_num, ⟨_, rfl⟩, fun i h1 h2 h3 => ?_⟩
            by_cases e : i < k
            · exact HK.out i e h2 h3
            · obtain rfl : i = k := by omega
              exact UInt8.toNat_inj.1 (Int.ofNat.inj HD.out)
          case measure => simp [intOf]; omega
        · have hd' : ((s[p + k].toNat : Int) != wd[k].toNat) = true := by simpa using hd
          go_wp2
          go_quiet (fail)
          go_wp2
          go_ret
          refine ⟨ret_bool ?_, _, by rw [World.drewN_drewN]⟩
          symm
          rw [Bool.eq_false_iff]
          intro h
          have h2 := HL.out
          have h1 := ((prefix_iff _ _).1 h).2 k (by omega) (by rw [List.length_drop]; omega)
          rw [drop_get s p k hpk] at h1
          exact hd (by rw [h1]; rfl)
      · go_wp2
        go_ret
        refine ⟨ret_bool ?_, _, rfl⟩
        symm
        have h2 := HL.out
        refine (prefix_iff _ _).2 ⟨by rw [List.length_drop]; omega, fun i h3 h4 => ?_⟩
        rw [List.length_drop] at h4
        rw [drop_get s p i (by omega)]
        exact HK.out i (by omega) (by omega) (by omega)
end Go.Proofs.Qxb6601198a
