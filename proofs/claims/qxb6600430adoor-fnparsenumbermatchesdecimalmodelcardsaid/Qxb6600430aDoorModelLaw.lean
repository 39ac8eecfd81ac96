/-
  THE WALKS of zzModelParseNumber and of the law FnParseNumberMatchesDecimalModel.
-/
import Derived.Test.Qxb6600430aDoorModel
import Derived.Test.Qxb6600430aDoorParse
namespace Go.Proofs.Qxb6600430aDoor
open Go.RowKit Go.Lib

/-- what the model answers -/
def mnum (l : List UInt8) : Nat × Bool := if l = [] then (0, false) else if 1 < l.length ∧ l.head? = some 48 then (0, false) else model l

theorem pnum_eq (l : List UInt8) : pnum l = mnum l := by
  unfold pnum mnum
  by_cases h : l = []
  · subst h; rfl
  · rw [if_neg h]
    by_cases h2 : 1 < l.length ∧ l.head? = some 48
    · rw [if_pos h2, if_pos h2]
    · rw [if_neg h2, if_neg h2]
      unfold parseUintB
      rw [if_neg h]
      refine model_eq l fun h1 c r e hc => h2 ⟨h1, ?_⟩
      rw [e, List.head?_cons]
      congr 1
      exact UInt8.toNat_inj.1 hc

set_option maxHeartbeats 1000000 in
set_option maxRecDepth 100000 in
theorem model_none (w : World) : Calls Tryd.prog 9 #[.string ⟨#[]⟩] w fun e w' => e = .returned (.tuple #[.int .u64 0, .bool false]) ∧ w' = w := by
  go_enter Tryd.func9, Tryd.ntmps9
  go_wp2
  go_ret2
  exact ⟨rfl, rfl⟩

set_option maxHeartbeats 1000000 in
set_option maxRecDepth 100000 in
theorem model_zero (s : ByteArray) (w : World) (he : s.toList.isEmpty = false) (h1 : 1 < s.size) (h2 : (s[0].toNat : Int) = 48) (hs : s.size ≤ 1048576) :
    Calls Tryd.prog 9 #[.string s] w fun e w' => e = .returned (.tuple #[.int .u64 0, .bool false]) ∧ w' = w := by
  have h2' : ((s[0].toNat : Int) == 48) = true := by simpa using h2
  clear h2
  go_enter Tryd.func9, Tryd.ntmps9
  go_wp2
  go_ret2
  exact ⟨rfl, rfl⟩

set_option maxHeartbeats 1000000 in
set_option maxRecDepth 100000 in
theorem model_above (s : ByteArray) (r : Nat) (hr : r ≤ s.size) (w : World) (he : s.toList.isEmpty = false) (hz : NoZero s) (hs : s.size ≤ 1048576)
    (h16 : Calls Tryd.prog 16 #[.string s] w fun e w' => e = .returned (.int .i64 (r : Int)) ∧ w' = w)
    (h17 : Calls Tryd.prog 17 #[.string (s.extract 0 r)] w fun e w' => e = .returned (.bool true) ∧ ∃ n, w' = w.drewN n) :
    Calls Tryd.prog 9 #[.string s] w fun e w' => e = .returned (.tuple #[.int .u64 18446744073709551615, .bool false]) ∧ ∃ n, w' = w.drewN n := by
  rcases hz with hc | ⟨hc, h2⟩
  all_goals
    go_enter Tryd.func9, Tryd.ntmps9
    go_wp2_with (first | (go_at_call 16; refine h16.mono ?_; rintro e w' ⟨rfl, rfl⟩) | (go_at_call 17; refine h17.mono ?_; rintro e w' ⟨rfl, n, rfl⟩))
    go_ret2
    exact ⟨rfl, _, rfl⟩

set_option maxHeartbeats 1000000 in
set_option maxRecDepth 100000 in
theorem model_short (s : ByteArray) (r : Nat) (hr : r < s.size) (w : World) (he : s.toList.isEmpty = false) (hz : NoZero s) (hs : s.size ≤ 1048576)
    (h16 : Calls Tryd.prog 16 #[.string s] w fun e w' => e = .returned (.int .i64 (r : Int)) ∧ w' = w)
    (h17 : Calls Tryd.prog 17 #[.string (s.extract 0 r)] w fun e w' => e = .returned (.bool false) ∧ ∃ n, w' = w.drewN n) :
    Calls Tryd.prog 9 #[.string s] w fun e w' => e = .returned (.tuple #[.int .u64 0, .bool false]) ∧ ∃ n, w' = w.drewN n := by
  rcases hz with hc | ⟨hc, h2⟩
  all_goals
    go_enter Tryd.func9, Tryd.ntmps9
    go_wp2_with (first | (go_at_call 16; refine h16.mono ?_; rintro e w' ⟨rfl, rfl⟩) | (go_at_call 17; refine h17.mono ?_; rintro e w' ⟨rfl, n, rfl⟩))
    go_ret2
    exact ⟨rfl, _, rfl⟩

set_option maxHeartbeats 1000000 in
set_option maxRecDepth 100000 in
theorem model_full (s : ByteArray) (r : Nat) (hr : r ≤ s.size) (hr2 : s.size ≤ r) (v : Int) (w : World) (he : s.toList.isEmpty = false) (hz : NoZero s) (hs : s.size ≤ 1048576)
    (h16 : Calls Tryd.prog 16 #[.string s] w fun e w' => e = .returned (.int .i64 (r : Int)) ∧ w' = w)
    (h17 : Calls Tryd.prog 17 #[.string (s.extract 0 r)] w fun e w' => e = .returned (.bool false) ∧ ∃ n, w' = w.drewN n)
    (h18 : ∀ w1, Calls Tryd.prog 18 #[.string s] w1 fun e w' => e = .returned (.int .u64 v) ∧ w' = w1) :
    Calls Tryd.prog 9 #[.string s] w fun e w' => e = .returned (.tuple #[.int .u64 v, .bool true]) ∧ ∃ n, w' = w.drewN n := by
  rcases hz with hc | ⟨hc, h2⟩
  all_goals
    go_enter Tryd.func9, Tryd.ntmps9
    go_wp2_with (first | (go_at_call 16; refine h16.mono ?_; rintro e w' ⟨rfl, rfl⟩) | (go_at_call 17; refine h17.mono ?_; rintro e w' ⟨rfl, n, rfl⟩) | (go_at_call 18; refine (h18 _).mono ?_; rintro e w' ⟨rfl, rfl⟩))
    go_ret2
    exact ⟨rfl, _, rfl⟩

theorem extract_run (s : ByteArray) : (s.extract 0 (s.data.toList.takeWhile isDig).length).data.toList = s.data.toList.takeWhile isDig := by
  rw [Lib.extract_data]
  simp only [List.drop_zero, Nat.sub_zero]
  exact (List.prefix_iff_eq_take.1 (List.takeWhile_prefix isDig)).symm

theorem extract_size (s : ByteArray) (r : Nat) (h : r ≤ s.size) : (s.extract 0 r).size ≤ s.size := by
  simp
  omega

/-- zzModelParseNumber answers 'mnum' -/
theorem model_any (s : ByteArray) (hs : s.size ≤ 1048576) (w : World) :
    Calls Tryd.prog 9 #[.string s] w fun e w' => e = .returned (.tuple #[.int .u64 (mnum s.data.toList).1, .bool (mnum s.data.toList).2]) ∧ ∃ n, w' = w.drewN n := by
  have hl : s.data.toList.length = s.size := Array.length_toList
  by_cases h0 : s.data.toList = []
  · have hs0 : s = ⟨#[]⟩ := by
      apply ByteArray.ext
      exact Array.toList_inj.1 h0
    subst hs0
    refine (model_none w).mono ?_
    rintro e w' ⟨rfl, rfl⟩
    exact ⟨rfl, 0, rfl⟩
  · have he : s.toList.isEmpty = false := by
      rw [Bool.eq_false_iff]
      intro h
      apply h0
      have := List.isEmpty_iff.1 h
      rwa [ByteArray.toList_eq] at this
    by_cases h : 1 < s.size ∧ s.data.toList.head? = some 48
    · have e : mnum s.data.toList = (0, false) := by unfold mnum; rw [if_neg h0, if_pos (by rw [hl]; exact h)]
      rw [e]
      refine (model_zero s w he h.1 ((head_iff s (by omega)).1 h.2) hs).mono ?_
      rintro e w' ⟨rfl, rfl⟩
      exact ⟨rfl, 0, rfl⟩
    · have e : mnum s.data.toList = model s.data.toList := by unfold mnum; rw [if_neg h0, if_neg (by rw [hl]; exact h)]
      rw [e]
      have hz := noZero_of s h
      have hr := run_le isDig s.data.toList
      rw [hl] at hr
      have h16 := run_any s hs w
      have h17 := above_any (s.extract 0 (s.data.toList.takeWhile isDig).length) (Nat.le_trans (extract_size s _ hr) hs) w
      rw [extract_run] at h17
      unfold model
      by_cases ha : aboveMax (s.data.toList.takeWhile isDig) = true
      · rw [if_pos ha]
        rw [ha] at h17
        exact model_above s _ hr w he hz hs h16 h17
      · rw [if_neg ha]
        have ha' : aboveMax (s.data.toList.takeWhile isDig) = false := by simpa using ha
        rw [ha'] at h17
        by_cases hlt : (s.data.toList.takeWhile isDig).length < s.size
        · rw [if_pos (by rw [hl]; exact hlt)]
          exact model_short s _ hlt w he hz hs h16 h17
        · rw [if_neg (by rw [hl]; exact hlt)]
          have hall : s.data.toList.takeWhile isDig = s.data.toList := (List.takeWhile_prefix isDig).eq_of_length (by omega)
          have hd := takeWhile_dig s.data.toList
          rw [hall] at hd ha'
          have hv : valAcc 0 s.data.toList ≤ 18446744073709551615 := by
            refine Nat.le_of_not_lt fun hv => ?_
            have hi := (above_iff s.data.toList hd (fun h1 c r e hc => h ⟨by omega, by
              rw [e, List.head?_cons]
              congr 1
              exact UInt8.toNat_inj.1 hc⟩)).2 hv
            rw [hi] at ha'
            cases ha'
          exact model_full s _ hr (by omega) _ w he hz hs h16 h17 (fun w1 => value_any s hs hd hv w1)
end Go.Proofs.Qxb6600430aDoor
