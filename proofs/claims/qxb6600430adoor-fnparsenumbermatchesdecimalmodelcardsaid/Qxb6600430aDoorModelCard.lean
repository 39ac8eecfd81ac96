/-
  THE LAW FnParseNumberMatchesDecimalModel: its walk, its row, its tied card.
-/
import Derived.Test.Qxb6600430aDoorModelLaw
import Derived.Test.Qxb6600430aDoorLaid
import Derived.Test.Qxb6600430aDoorTie
import Derived.Test.Qxb6600430aDoorCards
import Derived.SevenTiedAt
namespace Go.Proofs.Qxb6600430aDoor
open Go.ChangeShapes Go.WideShapes Go.ChangeAt Go.WideMaps Go.WideElems Go.RowKit
open Go.ChangeMaps (open_string shut_string)

set_option maxHeartbeats 1000000 in
set_option maxRecDepth 100000 in
theorem match_big (s : ByteArray) (h : 1048576 < s.size) (hs : s.size ≤ maxLen) (w : World) :
    Calls Tryd.prog 3 #[.string s] w fun e w' => e = .returned (.bool true) ∧ w' = w := by
  unfold maxLen at hs
  go_enter Tryd.func3, Tryd.ntmps3
  go_wp2
  go_ret
  exact ⟨rfl, rfl⟩

set_option maxHeartbeats 1000000 in
set_option maxRecDepth 100000 in
theorem match_via (s : ByteArray) (n : Int) (b : Bool) (h : s.size ≤ 1048576) (w : World)
    (h8 : Calls Tryd.prog 8 #[.string s] w fun e w' => e = .returned (.tuple #[.int .u64 n, .bool b]) ∧ Below w.heap.size w w')
    (h9 : ∀ w1, Calls Tryd.prog 9 #[.string s] w1 fun e w' => e = .returned (.tuple #[.int .u64 n, .bool b]) ∧ ∃ k, w' = w1.drewN k) :
    Calls Tryd.prog 3 #[.string s] w fun e w' => e = .returned (.bool true) ∧ Below w.heap.size w w' := by
  go_enter Tryd.func3, Tryd.ntmps3
  go_wp2_with (first | (go_at_call 7; go_in) | (go_at_call 8; refine h8.mono ?_; rintro e w' ⟨rfl, hb⟩) | (go_at_call 9; refine (h9 _).mono ?_; rintro e w' ⟨rfl, k, rfl⟩))
  go_ret
  exact ⟨ret_bool (by simp), below_drewN hb _⟩

/-- true at every string, where the two sentinels are interface values -/
theorem match_any (s : ByteArray) (hs : s.size ≤ maxLen) (w : World) (tp0 tp1 : TypeId) (p0 p1 : Value)
    (hv0 : w.var? Tryd.prog "strconv.ErrSyntax" = some #[.iface tp0 p0]) (hv1 : w.var? Tryd.prog "strconv.ErrRange" = some #[.iface tp1 p1]) :
    Calls Tryd.prog 3 #[.string s] w fun e w' => e = .returned (.bool true) ∧ Below w.heap.size w w' := by
  by_cases h : s.size ≤ 1048576
  · refine match_via s _ _ h w (parse_any s w (by omega) tp0 tp1 p0 p1 hv0 hv1) fun w1 => ?_
    rw [pnum_eq]
    exact model_any s h w1
  · refine (match_big s (by omega) hs w).mono ?_
    rintro e w' ⟨rfl, rfl⟩
    exact ⟨rfl, Below.refl _ _⟩

/-- the list of this row is the list of the other -/
theorem laid_same : Rows.fnParseNumberMatchesDecimalModelRow.laid = laid5 := rfl

set_option maxRecDepth 100000 in
theorem match_lifted (os : Os) (started : os.Started) (H : Type) (enc : TypeId × Value → H) :
    ReturnsInHanded {} Tryd.checked os 3 .any (fun w args => (Rows.fnParseNumberMatchesDecimalModelSpec.pre enc Tryd.prog Tryd.f3 [] false w args ∧ laidMetH Tryd.prog laid5 w) ∧ sizedMet enc Tryd.prog Tryd.f3 (OpenSpec.ofChange Rows.fnParseNumberMatchesDecimalModelSpec) false w args)
      (Rows.fnParseNumberMatchesDecimalModelSpec.post enc Tryd.prog Tryd.f3 false true false false) := by
  refine returnsInHanded_of_change_and (C := Tryd.checked) (X := fun w _ => laidMetH Tryd.prog laid5 w) (fun _ _ _ hh h => h.of_heap hh) own started (by kernel_rfl) Tryd.func3
    (ChangeSpec.witness_shaped (enc := enc) (C := Tryd.checked) (os := os) (X := fun w _ => laidMetH Tryd.prog laid5 w) false (World.doorLaid Tryd.prog 62 os) #[.string ⟨#[]⟩] 8 rfl (World.shaped_of_RefB (by kernel_rfl) (by kernel_rfl)) (by kernel_rfl) (by kernel_rfl) (by kernel_rfl) (door_met os _)) ?_
  intro W base args ds gs before hval0 hW _ _ hL _
  have hval : ∀ (j : Nat) t v, Tryd.f3.params[j]? = some t → args[j]? = some v → Value.okWide Tryd.prog W .any base t v := hval0
  have hW' := hW
  obtain ⟨p, q, hA0, hV, rfl, hfz, hnd⟩ := hW
  have hA : DataW.TrodAll enc Tryd.prog W 0 (fun _ => true) true Tryd.f3.params.toList args.toList ds p := hA0
  rw [Tryd.params3] at hA hval
  obtain ⟨v0, d0, rfl, rfl, h0⟩ := trodAll_one hA
  obtain ⟨rfl, rfl⟩ := trodVars_none hV
  obtain ⟨s, rfl, rfl, rfl, hs⟩ := open_string Tryd.underlying9 (hval 0 9 v0 rfl rfl) h0
  obtain ⟨p0, p1, hv0, hv1⟩ := of_laid hL
  clear hA0 hval0
  simp only [List.append_nil] at hW'
  refine (match_any s hs W 54 54 p0 p1 hv0 hv1).mono fun e W' ⟨he, hnx⟩ => ?_
  subst he
  refine ⟨_, rfl, _, _, _, [], [], [], hW', ?_, ?_, rfl, hnx.frame _, fun h => by cases h⟩
  · exact trodAll_mk1 (shut_bool Tryd.underlying4 true)
  · exact trodAll_mk1 (shut_string Tryd.underlying9 hs)

theorem match_row : Rows.FnParseNumberMatchesDecimalModelSaid :=
  OpenClaim.holds_of_wide 3 Tryd.f3 rfl rfl rfl rfl rfl rfl rfl ⟨rfl, rfl, rfl, rfl, rfl⟩ rfl rfl rfl rfl rfl (by kernel_rfl) Tryd.func3 (by kernel_rfl)
    (of_decide_eq_true (by kernel_rfl)) (by unfold Func.isWrapper; first | (rw [if_pos (by decide +kernel)]; kernel_rfl) | (rw [if_neg (by decide +kernel)]; exact ⟨rfl, rfl⟩))
    (fun os started H enc _ => match_lifted os started H enc)

theorem match_card : Rows.FnParseNumberMatchesDecimalModelCardSaid :=
  Claim7.holds_tied_plain_at .later [] [.data, .data, .data, .sentinel, .sentinel] true Rows.fnParseNumberMatchesDecimalModelCard.stood.harness true
    match_row (fun _ h => by cases h) (by kernel_rfl) (fun _ h => by cases h) fnParseNumberMatchesDecimalModel_row_tie rfl ⟨rfl, rfl⟩ (by kernel_rfl) rfl
    (fun f fn hf hfn => by
      obtain rfl : f = 3 := Option.some.inj ((show Tryd.prog.funcNamed Rows.fnParseNumberMatchesDecimalModelRow.func = some 3 by kernel_rfl).symm.trans hf) |>.symm
      obtain rfl : fn = Tryd.f3 := (Option.some.inj (Tryd.func3.symm.trans hfn)).symm
      exact ⟨by kernel_rfl, fun j t ht => by
        rw [Tryd.params3] at ht
        have hm : t ∈ [9] := by simpa using Array.mem_of_getElem? ht
        have hall : ([9].all fun u => !Tryd.prog.wantsStandIn u) = true := by kernel_rfl
        exact (show Tryd.prog.wantsStandIn t = false by simpa using List.all_eq_true.1 hall t hm)⟩)
    (by kernel_rfl)
#print axioms match_card
end Go.Proofs.Qxb6600430aDoor
