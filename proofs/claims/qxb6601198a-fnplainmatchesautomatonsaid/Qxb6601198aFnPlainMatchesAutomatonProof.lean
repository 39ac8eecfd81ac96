/-
  PROOF of 'Rows.FnPlainMatchesAutomatonSaid': the law's walk over the contracts of ZZPlain and plainModelLen; the row's step after the guide's template.
-/
import Derived.Test.Qxb6601198aRows
import Derived.Test.Qxb6601198aLaw
import Derived.ProofKit
import Derived.OpenShut
import Derived.ShutString
namespace Go.Proofs.Qxb6601198a
open Go.ChangeShapes Go.WideShapes Go.ChangeAt Go.RowKit
open Go.ChangeMaps (open_string shut_string)

theorem acc_le (l : List UInt8) : ∀ (st k : Nat), acc l st = some k → k ≤ l.length := by
  induction l with
  | nil =>
    intro st k h
    rw [acc_nil] at h
    split at h
    · cases h; simp
    · cases h
  | cons c r ih =>
    intro st k h
    cases hs : step st c with
    | none =>
      rw [acc_none c r st hs] at h
      split at h
      · cases h; simp
      · cases h
    | some st' =>
      rw [acc_some c r st st' hs] at h
      cases hr : acc r st' with
      | none => rw [hr] at h; cases h
      | some j =>
        rw [hr] at h
        have := ih st' j hr
        simp at h
        simp
        omega
theorem prefix_len (q l : List UInt8) (h : q.isPrefixOf l = true) : q.length ≤ l.length := (List.isPrefixOf_iff_prefix.1 h).length_le
theorem modelLen_le (l : List UInt8) (k : Nat) (h : modelLen l = some k) : k ≤ l.length := by
  unfold modelLen keyOf at h
  by_cases h1 : trueL.isPrefixOf l = true
  · rw [if_pos h1] at h
    cases h
    exact prefix_len _ _ h1
  · rw [if_neg h1] at h
    by_cases h2 : falseL.isPrefixOf l = true
    · rw [if_pos h2] at h
      cases h
      exact prefix_len _ _ h2
    · rw [if_neg h2] at h
      by_cases h3 : nullL.isPrefixOf l = true
      · rw [if_pos h3] at h
        cases h
        exact prefix_len _ _ h3
      · rw [if_neg h3] at h
        exact acc_le l 0 k h

set_option maxHeartbeats 1000000 in
set_option maxRecDepth 100000 in
theorem law_big (s : ByteArray) (p : Int) (h : 1048576 < s.size) (hs : s.size ≤ maxLen) (w : World) :
    Calls Try.prog 3 #[.string s, .int .i64 p] w fun e w' => e = .returned (.bool true) ∧ w' = w := by
  unfold maxLen at hs
  go_enter Try.func3, Try.ntmps3
  go_wp2
  go_ret
  exact ⟨rfl, rfl⟩

set_option maxHeartbeats 1000000 in
set_option maxRecDepth 100000 in
theorem law_out (s : ByteArray) (p : Int) (h : s.size ≤ 1048576) (hp : p < 0 ∨ (s.size : Int) < p) (w : World) :
    Calls Try.prog 3 #[.string s, .int .i64 p] w fun e w' => e = .returned (.bool true) ∧ w' = w := by
  rcases hp with hp | hp
  · go_enter Try.func3, Try.ntmps3
    go_wp2
    go_ret
    exact ⟨rfl, rfl⟩
  · have hp' : ¬ p < 0 := by omega
    go_enter Try.func3, Try.ntmps3
    go_wp2
    go_ret
    exact ⟨rfl, rfl⟩

set_option maxHeartbeats 1000000 in
set_option maxRecDepth 100000 in
theorem law_none (s : ByteArray) (p : Nat) (h : s.size ≤ 1048576) (hp : p ≤ s.size) (w : World)
    (h9 : Calls Try.prog 9 #[.string s, .int .i64 (p : Int)] w fun e w' => e = .returned (.tuple #[.string ⟨#[]⟩, .bool false, .int .i64 (p : Int)]) ∧ Below w.heap.size w w')
    (h10 : ∀ W, Calls Try.prog 10 #[.string s, .int .i64 (p : Int)] W fun e w' => e = .returned (.int .i64 (-1)) ∧ ∃ n, w' = W.drewN n) :
    Calls Try.prog 3 #[.string s, .int .i64 (p : Int)] w fun e w' => e = .returned (.bool true) ∧ Below w.heap.size w w' := by
  go_enter Try.func3, Try.ntmps3
  go_wp2_with (first | (go_at_call 8; go_in) | (go_at_call 9; refine h9.mono ?_; rintro e w' ⟨rfl, hb⟩) | (go_at_call 10; refine (h10 _).mono ?_; rintro e w' ⟨rfl, k, rfl⟩))
  go_ret
  exact ⟨ret_bool (by simp), below_drewN hb _⟩

set_option maxHeartbeats 1000000 in
set_option maxRecDepth 100000 in
theorem law_some (s word : ByteArray) (p k : Nat) (h : s.size ≤ 1048576) (hp : p ≤ s.size) (hk : p + k ≤ s.size) (w : World)
    (hsl : ∀ W, (Instr.slice 9 (.string s) (some (.int .i64 (p : Int))) (some (.int .i64 ((p : Int) + (k : Int)))) none).run Try.prog W = .ok (.string word) W)
    (h9 : Calls Try.prog 9 #[.string s, .int .i64 (p : Int)] w fun e w' => e = .returned (.tuple #[.string word, .bool true, .int .i64 ((p : Int) + (k : Int))]) ∧ Below w.heap.size w w')
    (h10 : ∀ W, Calls Try.prog 10 #[.string s, .int .i64 (p : Int)] W fun e w' => e = .returned (.int .i64 (k : Int)) ∧ ∃ n, w' = W.drewN n) :
    Calls Try.prog 3 #[.string s, .int .i64 (p : Int)] w fun e w' => e = .returned (.bool true) ∧ Below w.heap.size w w' := by
  go_enter Try.func3, Try.ntmps3
  go_wp2_with (first | (go_at_call 8; go_in) | (go_at_call 9; refine h9.mono ?_; rintro e w' ⟨rfl, hb⟩) | (go_at_call 10; refine (h10 _).mono ?_; rintro e w' ⟨rfl, k, rfl⟩))
  go_ret
  exact ⟨ret_bool (by simp), below_drewN hb _⟩

theorem extract_extract (s : ByteArray) (p k : Nat) (h : p + k ≤ s.size) : (s.extract p s.size).extract 0 k = s.extract p (p + k) := by
  apply ByteArray.ext
  apply Array.toList_inj.1
  have hl : s.data.toList.length = s.size := Array.length_toList
  rw [Lib.extract_data, Lib.extract_data, Lib.extract_data, List.drop_zero, Nat.sub_zero, show p + k - p = k by omega, List.take_take]
  congr 1
  omega

/-- true at every string and every position -/
theorem law_any (s : ByteArray) (p : Int) (hs : s.size ≤ maxLen) (w : World) :
    Calls Try.prog 3 #[.string s, .int .i64 p] w fun e w' => e = .returned (.bool true) ∧ Below w.heap.size w w' := by
  by_cases h : s.size ≤ 1048576
  · by_cases hp : p < 0 ∨ (s.size : Int) < p
    · refine (law_out s p h hp w).mono ?_
      rintro e w' ⟨rfl, rfl⟩
      exact ⟨rfl, Below.refl _ _⟩
    · obtain ⟨q, rfl⟩ : ∃ q : Nat, p = (q : Int) := ⟨p.toNat, by omega⟩
      have hq : q ≤ s.size := by omega
      have h9 := zz_any s q hq h w
      have h10 := len_any s q hq h
      cases ho : modelLen (s.data.toList.drop q) with
      | none =>
        rw [ho] at h9 h10
        exact law_none s q h hq w h9 h10
      | some k =>
        have hl : s.data.toList.length = s.size := Array.length_toList
        have hk := modelLen_le _ k ho
        rw [List.length_drop, hl] at hk
        rw [ho] at h9 h10
        have e : wordOf (s.extract q s.size) (some k) = s.extract q (q + k) := extract_extract s q k (by omega)
        rw [e] at h9
        refine law_some s _ q k h hq (by omega) w (fun W => ?_) h9 h10
        rw [run_slice_string W 9 s _ _ _ _ Try.underlying9 (by omega) (by omega) (by omega)]
        rfl
  · refine (law_big s p (by omega) hs w).mono ?_
    rintro e w' ⟨rfl, rfl⟩
    exact ⟨rfl, Below.refl _ _⟩

theorem own : ownKnob Try.prog.godebug = none := by kernel_rfl

set_option maxRecDepth 100000 in
theorem lifted (os : Os) (started : os.Started) (H : Type) (enc : TypeId × Value → H) :
    ReturnsInHanded {} Try.checked os 3 .any (Rows.fnPlainMatchesAutomatonSpec.pre6 enc Try.prog Try.f3 Rows.fnPlainMatchesAutomatonRow.domain false) (Rows.fnPlainMatchesAutomatonSpec.post enc Try.prog Try.f3 false true false false) := by
  refine returnsInHanded_of_change (C := Try.checked) own started (by kernel_rfl) Try.func3
    (ChangeSpec.witness6 (enc := enc) (C := Try.checked) false ⟨#[], #[.string ByteArray.empty, .int .i64 0], []⟩ 8 (by kernel_rfl) (by kernel_rfl) (by kernel_rfl) (by kernel_rfl)) ?_
  intro W base args ds gs before hval0 hW hcnd _
  have hval : ∀ (j : Nat) t v, Try.f3.params[j]? = some t → args[j]? = some v → Value.okWide Try.prog W .any base t v := hval0
  have hW' := hW
  obtain ⟨p, q, hA0, hV, rfl, hfz, hnd⟩ := hW
  have hA : DataW.TrodAll enc Try.prog W 0 (fun _ => true) true Try.f3.params.toList args.toList ds p := hA0
  rw [Try.params3] at hA hval
  obtain ⟨v0, v1, d0, d1, p0, p1, rfl, rfl, rfl, h0, h1⟩ := trodAll_two hA
  obtain ⟨rfl, rfl⟩ := trodVars_none hV
  obtain ⟨s, rfl, rfl, rfl, hs⟩ := open_string Try.underlying9 (hval 0 9 v0 rfl rfl) h0
  obtain ⟨n, rfl, rfl, rfl, wn⟩ := open_int Try.underlying3 (hval 1 3 v1 rfl rfl) h1
  clear hA0 hval0
  simp only [List.append_nil] at hW'
  refine (law_any s n hs W).mono fun e W' ⟨he, hnx⟩ => ?_
  subst he
  refine ⟨_, rfl, _, _, _, [], [], [], hW', ?_, ?_, rfl, hnx.frame _, fun h => by cases h⟩
  · exact trodAll_mk1 (shut_bool Try.underlying4 true)
  · exact trodAll_mk2 (shut_string Try.underlying9 hs) (shut_int Try.underlying3 wn)

theorem proved : Rows.FnPlainMatchesAutomatonSaid :=
  OpenClaim.holds_of_wide 3 Try.f3 rfl rfl rfl rfl rfl rfl rfl ⟨rfl, rfl, rfl, rfl, rfl⟩ rfl rfl rfl rfl rfl (by kernel_rfl) Try.func3 (by kernel_rfl)
    (of_decide_eq_true (by kernel_rfl)) (by unfold Func.isWrapper; first | (rw [if_pos (by decide +kernel)]; kernel_rfl) | (rw [if_neg (by decide +kernel)]; exact ⟨rfl, rfl⟩))
    (fun os started H enc _ => lifted os started H enc)
#print axioms proved
end Go.Proofs.Qxb6601198a
