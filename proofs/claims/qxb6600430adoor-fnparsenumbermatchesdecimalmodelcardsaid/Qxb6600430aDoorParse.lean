/-
  THE WALK of mirror.ZZparseNumber over the library's contracts on strconv.ParseUint: for every string of at most 2^48 bytes it answers 'pnum'.
-/
import Derived.Test.Qxb6600430aDoorShelf
import Derived.Test.Qxb6600430aDoorPlain
import Derived.Lib.AtoiErrMem
import Derived.WalkKit
import Derived.BigCall
import Derived.BigQuiet
import Derived.Deep.QuietTactic
import Derived.WalkSpells
import Derived.WalkSmall
namespace Go.Proofs.Qxb6600430aDoor
open Go.Shelf Go.RowKit Go.Lib

/-- what parseNumber answers: the number and the flag -/
def pnum (l : List UInt8) : Nat × Bool := if 1 < l.length ∧ l.head? = some 48 then (0, false) else answer (parseUintB 64 l)

theorem head_iff (s : ByteArray) (h : 0 < s.size) : s.data.toList.head? = some 48 ↔ (s[0].toNat : Int) = 48 := by
  have e : s.data.toList.head? = some s[0] := by
    rw [List.head?_eq_getElem?, List.getElem?_eq_getElem (by simpa using h)]
    rfl
  rw [e]
  simp only [Option.some.injEq]
  constructor
  · intro h; rw [h]; rfl
  · intro h
    apply UInt8.toNat_inj.1
    have : (48 : UInt8).toNat = 48 := rfl
    omega

set_option maxHeartbeats 1000000 in
set_option maxRecDepth 100000 in
theorem parse_zero (s : ByteArray) (w : World) (h1 : 1 < s.size) (h2 : (s[0].toNat : Int) = 48) (hs : s.size ≤ maxLen) :
    Calls Tryd.prog 8 #[.string s] w fun e w' => e = .returned (.tuple #[.int .u64 0, .bool false]) ∧ w' = w := by
  unfold maxLen at hs
  have h2' : ((s[0].toNat : Int) == 48) = true := by simpa using h2
  clear h2
  go_enter Tryd.func8, Tryd.ntmps8
  go_wp2
  go_ret2
  exact ⟨rfl, rfl⟩

/-- the test ahead of strconv.ParseUint says no -/
def NoZero (s : ByteArray) : Prop := s.size ≤ 1 ∨ (1 < s.size ∧ ∀ hh : 0 < s.size, ((s[0].toNat : Int) == 48) = false)

theorem noZero_of (s : ByteArray) (h : ¬ (1 < s.size ∧ s.data.toList.head? = some 48)) : NoZero s := by
  by_cases h1 : 1 < s.size
  · right
    refine ⟨h1, fun hh => ?_⟩
    have h3 : ¬ s.data.toList.head? = some 48 := fun h3 => h ⟨h1, h3⟩
    rw [head_iff s hh] at h3
    simpa using h3
  · left; omega

set_option maxHeartbeats 1000000 in
set_option maxRecDepth 100000 in
theorem pn15_ok (s : ByteArray) (n : Int) (w : World) (hlim : s.size ≤ 281474976710656) (hc : NoZero s)
    (hk : Calls Tryd.prog 21 #[.string s, .int .i64 10, .int .i64 64] w fun e w' => e = .returned (.tuple #[.int .u64 n, .nilIface]) ∧ Below w.heap.size w w') :
    Calls Tryd.prog 15 #[.string s] w fun e w' => e = .returned (.tuple #[.int .u64 n, .bool true]) ∧ Below w.heap.size w w' := by
  rcases hc with hc | ⟨hc, h2⟩
  all_goals
    go_enter Tryd.func15, Tryd.ntmps15
    go_wp2_with (go_at_call 21; refine hk.mono ?_; rintro e w' ⟨rfl, hw⟩)
    go_quiet (fail)
    go_wp2
    go_ret2
    exact ⟨rfl, below_drewN hw _⟩

set_option maxHeartbeats 1000000 in
set_option maxRecDepth 100000 in
theorem pn15_err (s : ByteArray) (n : Int) (t : TypeId) (w : World) (hlim : s.size ≤ 281474976710656) (hc : NoZero s)
    (hk : Calls Tryd.prog 21 #[.string s, .int .i64 10, .int .i64 64] w fun e w' => ∃ N, e = .returned (.tuple #[.int .u64 n, .iface t (.pointer (some ⟨N, 0, none⟩))]) ∧ Below w.heap.size w w') :
    Calls Tryd.prog 15 #[.string s] w fun e w' => e = .returned (.tuple #[.int .u64 n, .bool false]) ∧ Below w.heap.size w w' := by
  rcases hc with hc | ⟨hc, h2⟩
  all_goals
    go_enter Tryd.func15, Tryd.ntmps15
    go_wp2_with (go_at_call 21; refine hk.mono ?_; rintro e w' ⟨N, rfl, hw⟩)
    go_quiet (fail)
    go_wp2
    go_ret2
    exact ⟨rfl, below_drewN hw _⟩

set_option maxRecDepth 100000 in
/-- parseNumber at every string of at most 2^48 bytes that the first test lets by -/
theorem pn15 (s : ByteArray) (w : World) (hlim : s.size ≤ 281474976710656) (hc : NoZero s) (tp0 tp1 : TypeId) (p0 p1 : Value)
    (hv0 : w.var? Tryd.prog "strconv.ErrSyntax" = some #[.iface tp0 p0]) (hv1 : w.var? Tryd.prog "strconv.ErrRange" = some #[.iface tp1 p1]) :
    Calls Tryd.prog 15 #[.string s] w fun e w' => e = .returned (.tuple #[.int .u64 (answer (parseUintB 64 s.data.toList)).1, .bool (answer (parseUintB 64 s.data.toList)).2]) ∧ Below w.heap.size w w' := by
  rcases hp : parseUintB 64 s.data.toList with u | _ | _
  · refine pn15_ok s u w hlim hc ((Any.strconv_ParseUint_10_at64_ok Tryd.laysPu14 s (by omega) u hp w).mono ?_)
    rintro e w' ⟨rfl, hw⟩
    refine ⟨rfl, ?_⟩
    rcases hw with rfl | rfl
    · exact Below.refl _ _
    · exact Lib.bytesWorld_below _ _ _
  · refine pn15_err s 0 44 w hlim hc ((Any.strconv_ParseUint_10_at64_syntax_var Tryd.laysPu14 s hlim hp tp0 p0 w hv0).mono ?_)
    rintro e w' ⟨N, rfl, -, -, hb⟩
    exact ⟨N, rfl, hb⟩
  · refine pn15_err s 18446744073709551615 44 w hlim hc ((Any.strconv_ParseUint_10_at64_range_var Tryd.laysPu14 s hlim hp tp1 p1 w hv1).mono ?_)
    rintro e w' ⟨N, rfl, -, -, hb⟩
    exact ⟨N, rfl, hb⟩

set_option maxHeartbeats 1000000 in
set_option maxRecDepth 100000 in
theorem parse_via (s : ByteArray) (n : Int) (b : Bool) (w : World)
    (hk : Calls Tryd.prog 15 #[.string s] w fun e w' => e = .returned (.tuple #[.int .u64 n, .bool b]) ∧ Below w.heap.size w w') :
    Calls Tryd.prog 8 #[.string s] w fun e w' => e = .returned (.tuple #[.int .u64 n, .bool b]) ∧ Below w.heap.size w w' := by
  go_enter Tryd.func8, Tryd.ntmps8
  go_wp2_with (go_at_call 15; refine hk.mono ?_; rintro e w' ⟨rfl, hw⟩)
  go_ret2
  exact ⟨rfl, hw⟩

/-- mirror.ZZparseNumber at every string of at most 2^48 bytes -/
theorem parse_any (s : ByteArray) (w : World) (hlim : s.size ≤ 281474976710656) (tp0 tp1 : TypeId) (p0 p1 : Value)
    (hv0 : w.var? Tryd.prog "strconv.ErrSyntax" = some #[.iface tp0 p0]) (hv1 : w.var? Tryd.prog "strconv.ErrRange" = some #[.iface tp1 p1]) :
    Calls Tryd.prog 8 #[.string s] w fun e w' => e = .returned (.tuple #[.int .u64 (pnum s.data.toList).1, .bool (pnum s.data.toList).2]) ∧ Below w.heap.size w w' := by
  have hl : s.data.toList.length = s.size := Array.length_toList
  by_cases h : 1 < s.size ∧ s.data.toList.head? = some 48
  · have e : pnum s.data.toList = (0, false) := by unfold pnum; rw [if_pos (by rw [hl]; exact h)]
    rw [e]
    refine (parse_zero s w h.1 ((head_iff s (by omega)).1 h.2) (by unfold maxLen; omega)).mono ?_
    rintro e w' ⟨rfl, rfl⟩
    exact ⟨rfl, Below.refl _ _⟩
  · have e : pnum s.data.toList = answer (parseUintB 64 s.data.toList) := by unfold pnum; rw [if_neg (by rw [hl]; exact h)]
    rw [e]
    exact parse_via s _ _ w (pn15 s w hlim (noZero_of s h) tp0 tp1 p0 p1 hv0 hv1)
end Go.Proofs.Qxb6600430aDoor
