/-
  THE WALK of plainModelLen: a keyword, else the automaton.
-/
import Derived.Test.Qxb6601198aModel
namespace Go.Proofs.Qxb6601198a
open Go.RowKit Go.Lib

def trueL : List UInt8 := [116, 114, 117, 101]
def falseL : List UInt8 := [102, 97, 108, 115, 101]
def nullL : List UInt8 := [110, 117, 108, 108]

/-- a keyword's length, where one opens the list -/
def keyOf (d : List UInt8) : Option Nat := if trueL.isPrefixOf d = true then some 4 else if falseL.isPrefixOf d = true then some 5 else if nullL.isPrefixOf d = true then some 4 else none

theorem map_zero (o : Option Nat) : o.map (· + 0) = o := by cases o <;> rfl
theorem drop_cons (s : ByteArray) (p k : Nat) (h : p + k < s.size) : (s.data.toList.drop p).drop k = s[p + k] :: (s.data.toList.drop p).drop (k + 1) := by
  rw [List.drop_drop, List.drop_drop, List.drop_eq_getElem_cons (by have : s.data.toList.length = s.size := Array.length_toList; omega)]
  rfl

set_option maxHeartbeats 1000000 in
set_option maxRecDepth 100000 in
/-- the automaton, behind three keywords that are not there -/
theorem len_auto (s : ByteArray) (p : Nat) (hp : p ≤ s.size) (hs : s.size ≤ 1048576) (w : World)
    (h1 : ∀ W, Calls Try.prog 18 #[.string s, .int .i64 (p : Int), .string ⟨#[116, 114, 117, 101]⟩] W fun e w' => e = .returned (.bool false) ∧ ∃ n, w' = W.drewN n)
    (h2 : ∀ W, Calls Try.prog 18 #[.string s, .int .i64 (p : Int), .string ⟨#[102, 97, 108, 115, 101]⟩] W fun e w' => e = .returned (.bool false) ∧ ∃ n, w' = W.drewN n)
    (h3 : ∀ W, Calls Try.prog 18 #[.string s, .int .i64 (p : Int), .string ⟨#[110, 117, 108, 108]⟩] W fun e w' => e = .returned (.bool false) ∧ ∃ n, w' = W.drewN n) :
    Calls Try.prog 10 #[.string s, .int .i64 (p : Int)] w fun e w' => e = .returned (.int .i64 (oi (acc (s.data.toList.drop p) 0))) ∧ ∃ n, w' = w.drewN n := by
  have hl : s.data.toList.length = s.size := Array.length_toList
  have H1 : Hid _ := h1
  have H2 : Hid _ := h2
  have H3 : Hid _ := h3
  have HL : Hid (s.data.toList.length = s.size) := hl
  clear hl h1 h2 h3
  go_enter Try.func10, Try.ntmps10
  go_wp2_with fail
  refine (H1.out _).mono ?_
  rintro e w' ⟨rfl, n1, rfl⟩
  go_wp2_with fail
  refine (H2.out _).mono ?_
  rintro e w' ⟨rfl, n2, rfl⟩
  go_wp2_with fail
  refine (H3.out _).mono ?_
  rintro e w' ⟨rfl, n3, rfl⟩
  clear H1 H2 H3
  go_wp2_with fail
  go_loop [5, 6] (fun a b => ∃ st k : Nat, st ≤ 8 ∧ p + k ≤ s.size ∧ a = .int .i64 st ∧ b = .int .i64 k ∧ Hid (acc (s.data.toList.drop p) 0 = (acc ((s.data.toList.drop p).drop k) st).map (· + k))) (fun _ b => s.size - p - (intOf b).toNat)
  case atStart => exact ⟨0, 0, by omega, by omega, rfl, rfl, (map_zero _).symm⟩
  case round =>
    obtain ⟨st, k, hst, hk, rfl, rfl, HK⟩ := hrel
    by_cases hlt : p + k < s.size
    · have hg := drop_cons s p k hlt
      have HG : Hid ((s.data.toList.drop p).drop k = s[p + k] :: (s.data.toList.drop p).drop (k + 1)) := hg
      clear hg
      have hc := step_any st hst s[p + k]
      cases hstp : step st s[p + k] with
      | none =>
        have hI : stepI st s[p + k] = -1 := by unfold stepI; rw [hstp]; rfl
        rw [hI] at hc
        have ha := accept_any st hst
        have HF : Hid (acc (s.data.toList.drop p) 0 = (if accepting st = true then some 0 else none).map (· + k)) := by
          show acc (s.data.toList.drop p) 0 = _
          rw [HK.out, HG.out, acc_none _ _ _ hstp]
        clear hstp hI HK HG
        cases hb : accepting st with
        | true =>
          rw [hb] at ha
          go_wp2_with (first | (go_at_call 19; refine (hc _).mono ?_; rintro e w' ⟨rfl, rfl⟩) | (go_at_call 20; refine (ha _).mono ?_; rintro e w' ⟨rfl, rfl⟩))
          go_ret
          refine ⟨ret_int ?_, _, rfl⟩
          rw [HF.out, hb]
          simp [oi]
        | false =>
          rw [hb] at ha
          go_wp2_with (first | (go_at_call 19; refine (hc _).mono ?_; rintro e w' ⟨rfl, rfl⟩) | (go_at_call 20; refine (ha _).mono ?_; rintro e w' ⟨rfl, rfl⟩))
          go_ret
          refine ⟨ret_int ?_, _, rfl⟩
          rw [HF.out, hb]
          rfl
      | some st' =>
        have hI : stepI st s[p + k] = (st' : Int) := by unfold stepI; rw [hstp]; rfl
        rw [hI] at hc
        have hst' := step_lt st _ st' hstp
        have HF : Hid (acc (s.data.toList.drop p) 0 = (acc ((s.data.toList.drop p).drop (k + 1)) st').map (· + (k + 1))) := by
          show acc (s.data.toList.drop p) 0 = _
          rw [HK.out, HG.out, acc_some _ _ _ _ hstp, map_add, Nat.add_comm]
        clear hstp hI HK HG
        go_wp2_with (go_at_call 19; refine (hc _).mono ?_; rintro e w' ⟨rfl, rfl⟩)
        go_round
        case rel => exact ⟨st', k + 1, hst', by omega, rfl, by go_num, HF⟩
        case measure => simp [intOf]; omega
    · have ha := accept_any st hst
      have HF : Hid (acc (s.data.toList.drop p) 0 = (if accepting st = true then some 0 else none).map (· + k)) := by
        show acc (s.data.toList.drop p) 0 = _
        rw [HK.out, List.drop_drop, List.drop_of_length_le (by rw [HL.out]; omega), acc_nil]
      clear HK
      cases hb : accepting st with
      | true =>
        rw [hb] at ha
        go_wp2_with (go_at_call 20; refine (ha _).mono ?_; rintro e w' ⟨rfl, rfl⟩)
        go_ret
        refine ⟨ret_int ?_, _, rfl⟩
        rw [HF.out, hb]
        simp [oi]
      | false =>
        rw [hb] at ha
        go_wp2_with (go_at_call 20; refine (ha _).mono ?_; rintro e w' ⟨rfl, rfl⟩)
        go_ret
        refine ⟨ret_int ?_, _, rfl⟩
        rw [HF.out, hb]
        rfl

set_option maxHeartbeats 1000000 in
set_option maxRecDepth 100000 in
theorem len_true (s : ByteArray) (p : Nat) (w : World)
    (h1 : ∀ W, Calls Try.prog 18 #[.string s, .int .i64 (p : Int), .string ⟨#[116, 114, 117, 101]⟩] W fun e w' => e = .returned (.bool true) ∧ ∃ n, w' = W.drewN n) :
    Calls Try.prog 10 #[.string s, .int .i64 (p : Int)] w fun e w' => e = .returned (.int .i64 4) ∧ ∃ n, w' = w.drewN n := by
  go_enter Try.func10, Try.ntmps10
  go_wp2_with fail
  refine (h1 _).mono ?_
  rintro e w' ⟨rfl, n1, rfl⟩
  go_wp2
  go_ret
  exact ⟨rfl, _, rfl⟩

set_option maxHeartbeats 1000000 in
set_option maxRecDepth 100000 in
theorem len_false (s : ByteArray) (p : Nat) (w : World)
    (h1 : ∀ W, Calls Try.prog 18 #[.string s, .int .i64 (p : Int), .string ⟨#[116, 114, 117, 101]⟩] W fun e w' => e = .returned (.bool false) ∧ ∃ n, w' = W.drewN n)
    (h2 : ∀ W, Calls Try.prog 18 #[.string s, .int .i64 (p : Int), .string ⟨#[102, 97, 108, 115, 101]⟩] W fun e w' => e = .returned (.bool true) ∧ ∃ n, w' = W.drewN n) :
    Calls Try.prog 10 #[.string s, .int .i64 (p : Int)] w fun e w' => e = .returned (.int .i64 5) ∧ ∃ n, w' = w.drewN n := by
  have H1 : Hid _ := h1
  have H2 : Hid _ := h2
  clear h1 h2
  go_enter Try.func10, Try.ntmps10
  go_wp2_with fail
  refine (H1.out _).mono ?_
  rintro e w' ⟨rfl, n1, rfl⟩
  go_wp2_with fail
  refine (H2.out _).mono ?_
  rintro e w' ⟨rfl, n2, rfl⟩
  go_wp2
  go_ret
  exact ⟨rfl, _, rfl⟩

set_option maxHeartbeats 1000000 in
set_option maxRecDepth 100000 in
theorem len_null (s : ByteArray) (p : Nat) (w : World)
    (h1 : ∀ W, Calls Try.prog 18 #[.string s, .int .i64 (p : Int), .string ⟨#[116, 114, 117, 101]⟩] W fun e w' => e = .returned (.bool false) ∧ ∃ n, w' = W.drewN n)
    (h2 : ∀ W, Calls Try.prog 18 #[.string s, .int .i64 (p : Int), .string ⟨#[102, 97, 108, 115, 101]⟩] W fun e w' => e = .returned (.bool false) ∧ ∃ n, w' = W.drewN n)
    (h3 : ∀ W, Calls Try.prog 18 #[.string s, .int .i64 (p : Int), .string ⟨#[110, 117, 108, 108]⟩] W fun e w' => e = .returned (.bool true) ∧ ∃ n, w' = W.drewN n) :
    Calls Try.prog 10 #[.string s, .int .i64 (p : Int)] w fun e w' => e = .returned (.int .i64 4) ∧ ∃ n, w' = w.drewN n := by
  have H1 : Hid _ := h1
  have H2 : Hid _ := h2
  have H3 : Hid _ := h3
  clear h1 h2 h3
  go_enter Try.func10, Try.ntmps10
  go_wp2_with fail
  refine (H1.out _).mono ?_
  rintro e w' ⟨rfl, n1, rfl⟩
  go_wp2_with fail
  refine (H2.out _).mono ?_
  rintro e w' ⟨rfl, n2, rfl⟩
  go_wp2_with fail
  refine (H3.out _).mono ?_
  rintro e w' ⟨rfl, n3, rfl⟩
  go_wp2
  go_ret
  exact ⟨rfl, _, rfl⟩

/-- what plainModelLen takes -/
def modelLen (d : List UInt8) : Option Nat :=
  match keyOf d with
  | some k => some k
  | none => acc d 0

theorem len_any (s : ByteArray) (p : Nat) (hp : p ≤ s.size) (hs : s.size ≤ 1048576) (w : World) :
    Calls Try.prog 10 #[.string s, .int .i64 (p : Int)] w fun e w' => e = .returned (.int .i64 (oi (modelLen (s.data.toList.drop p)))) ∧ ∃ n, w' = w.drewN n := by
  have k1 := key_any s ⟨#[116, 114, 117, 101]⟩ p hp hs (by decide)
  have k2 := key_any s ⟨#[102, 97, 108, 115, 101]⟩ p hp hs (by decide)
  have k3 := key_any s ⟨#[110, 117, 108, 108]⟩ p hp hs (by decide)
  change ∀ W, Calls Try.prog 18 _ W fun e w' => e = .returned (.bool (trueL.isPrefixOf (s.data.toList.drop p))) ∧ _ at k1
  change ∀ W, Calls Try.prog 18 _ W fun e w' => e = .returned (.bool (falseL.isPrefixOf (s.data.toList.drop p))) ∧ _ at k2
  change ∀ W, Calls Try.prog 18 _ W fun e w' => e = .returned (.bool (nullL.isPrefixOf (s.data.toList.drop p))) ∧ _ at k3
  unfold modelLen keyOf
  cases b1 : trueL.isPrefixOf (s.data.toList.drop p) with
  | true => rw [b1] at k1; exact len_true s p w k1
  | false =>
    rw [b1] at k1
    cases b2 : falseL.isPrefixOf (s.data.toList.drop p) with
    | true => rw [b2] at k2; exact len_false s p w k1 k2
    | false =>
      rw [b2] at k2
      cases b3 : nullL.isPrefixOf (s.data.toList.drop p) with
      | true => rw [b3] at k3; exact len_null s p w k1 k2 k3
      | false => rw [b3] at k3; exact len_auto s p hp hs w k1 k2 k3
end Go.Proofs.Qxb6601198a
