/-
  THE WALKS of (*jsonReader).plain at a keyword, of ZZPlain, and of the law FnPlainMatchesAutomaton.
-/
import Derived.Test.Qxb6601198aTake
import Derived.OwnWalk
namespace Go.Proofs.Qxb6601198a
open Go.RowKit

set_option maxHeartbeats 2000000 in
set_option maxRecDepth 100000 in
theorem plain_key (s d : ByteArray) (p : Int) (b : Nat) (hp0 : 0 ≤ p) (hp1 : p ≤ 1048576) (w : World) (m : Nat)
    (hc0 : w.cell? ⟨b, 0, none⟩ = some (.string s)) (hc1 : w.cell? ⟨b, 1, none⟩ = some (.int .i64 p)) (hf : w.frozen? ⟨b, 1, none⟩ = false)
    (hsl : ∀ W, (Instr.slice 9 (.string s) (some (.int .i64 p)) none none).run Try.prog W = .ok (.string d) W)
    (b1 b2 b3 : Bool) (hm : (m = 0 ∧ b1 = true) ∨ (m = 1 ∧ b1 = false ∧ b2 = true) ∨ (m = 2 ∧ b1 = false ∧ b2 = false ∧ b3 = true))
    (k1 : ∀ W, Calls Try.prog 22 #[.string d, .string ⟨#[116, 114, 117, 101]⟩] W fun e w' => e = .returned (.bool b1) ∧ w' = W)
    (k2 : ∀ W, Calls Try.prog 22 #[.string d, .string ⟨#[102, 97, 108, 115, 101]⟩] W fun e w' => e = .returned (.bool b2) ∧ w' = W)
    (k3 : ∀ W, Calls Try.prog 22 #[.string d, .string ⟨#[110, 117, 108, 108]⟩] W fun e w' => e = .returned (.bool b3) ∧ w' = W) :
    Calls Try.prog 17 #[.pointer (some ⟨b, 0, none⟩)] w fun e w' =>
      (b1 = true ∧ e = .returned (.tuple #[.string ⟨#[116, 114, 117, 101]⟩, .bool true]) ∧ ∃ n, w' = (w.drewN n).setCell ⟨b, 1, none⟩ (.int .i64 (p + 4))) ∨
      (b1 = false ∧ b2 = true ∧ e = .returned (.tuple #[.string ⟨#[102, 97, 108, 115, 101]⟩, .bool true]) ∧ ∃ n, w' = (w.drewN n).setCell ⟨b, 1, none⟩ (.int .i64 (p + 5))) ∨
      (b1 = false ∧ b2 = false ∧ b3 = true ∧ e = .returned (.tuple #[.string ⟨#[110, 117, 108, 108]⟩, .bool true]) ∧ ∃ n, w' = (w.drewN n).setCell ⟨b, 1, none⟩ (.int .i64 (p + 4))) := by
  have i0 : ∀ w, (Instr.index 40 (.agg #[.string ⟨#[116, 114, 117, 101]⟩, .string ⟨#[102, 97, 108, 115, 101]⟩, .string ⟨#[110, 117, 108, 108]⟩]) (.int .i64 0)).run Try.prog w = .ok (.string ⟨#[116, 114, 117, 101]⟩) w := fun _ => by kernel_rfl
  have i1 : ∀ w, (Instr.index 40 (.agg #[.string ⟨#[116, 114, 117, 101]⟩, .string ⟨#[102, 97, 108, 115, 101]⟩, .string ⟨#[110, 117, 108, 108]⟩]) (.int .i64 1)).run Try.prog w = .ok (.string ⟨#[102, 97, 108, 115, 101]⟩) w := fun _ => by kernel_rfl
  have i2 : ∀ w, (Instr.index 40 (.agg #[.string ⟨#[116, 114, 117, 101]⟩, .string ⟨#[102, 97, 108, 115, 101]⟩, .string ⟨#[110, 117, 108, 108]⟩]) (.int .i64 2)).run Try.prog w = .ok (.string ⟨#[110, 117, 108, 108]⟩) w := fun _ => by kernel_rfl
  have K1 : Hid _ := k1
  have K2 : Hid _ := k2
  have K3 : Hid _ := k3
  have HM : Hid ((m = 0 ∧ b1 = true) ∨ (m = 1 ∧ b1 = false ∧ b2 = true) ∨ (m = 2 ∧ b1 = false ∧ b2 = false ∧ b3 = true)) := hm
  clear k1 k2 k3 hm
  go_enter Try.func17, Try.ntmps17
  go_wp2
  go_quiet (fail)
  go_wp2
  go_loop [20] (fun a => ∃ k : Nat, k ≤ m ∧ a = .int .i64 k) (fun a => 3 - (intOf a).toNat)
  case atStart => exact ⟨0, by omega, rfl⟩
  case round =>
    obtain ⟨k, hk, rfl⟩ := hrel
    match k, hk with
    | 0, hk =>
      go_wp2_with fail
      refine (K1.out _).mono ?_
      rintro e w' ⟨rfl, rfl⟩
      rcases HM.out with ⟨rfl, rfl⟩ | ⟨rfl, rfl, rfl⟩ | ⟨rfl, rfl, rfl, rfl⟩
      · clear K1 K2 K3 HM i1 i2
        go_wp2
        go_ret2
        exact ⟨rfl, _, rfl⟩
      · go_wp2
        go_round
        case rel => exact ⟨1, by omega, rfl⟩
        case measure => simp [intOf]
      · go_wp2
        go_round
        case rel => exact ⟨1, by omega, rfl⟩
        case measure => simp [intOf]
    | 1, hk =>
      go_wp2_with fail
      refine (K2.out _).mono ?_
      rintro e w' ⟨rfl, rfl⟩
      rcases HM.out with ⟨rfl, rfl⟩ | ⟨rfl, rfl, rfl⟩ | ⟨rfl, rfl, rfl, rfl⟩
      · omega
      · clear K1 K2 K3 HM i0 i2
        go_wp2
        go_ret2
        exact ⟨rfl, _, rfl⟩
      · go_wp2
        go_round
        case rel => exact ⟨2, by omega, rfl⟩
        case measure => simp [intOf]
    | 2, hk =>
      go_wp2_with fail
      refine (K3.out _).mono ?_
      rintro e w' ⟨rfl, rfl⟩
      rcases HM.out with ⟨rfl, rfl⟩ | ⟨rfl, rfl, rfl⟩ | ⟨rfl, rfl, rfl, rfl⟩
      · omega
      · omega
      · clear K1 K2 K3 HM i0 i1
        go_wp2
        go_ret2
        exact ⟨rfl, _, rfl⟩
    | k + 3, hk =>
      rcases HM.out with ⟨rfl, _⟩ | ⟨rfl, _⟩ | ⟨rfl, _⟩ <;> omega

theorem prefix_extract (d q : ByteArray) (h : q.data.toList.isPrefixOf d.data.toList = true) : q = d.extract 0 q.size := by
  apply ByteArray.ext
  apply Array.toList_inj.1
  rw [Lib.extract_data]
  simp only [List.drop_zero, Nat.sub_zero]
  have hq : q.data.toList.length = q.size := Array.length_toList
  rw [← hq]
  exact List.prefix_iff_eq_take.1 (List.isPrefixOf_iff_prefix.1 h)

/-- (*jsonReader).plain, whatever stands at pos -/
theorem plain_any (s d : ByteArray) (p : Int) (b : Nat) (hd : d.size ≤ 1048576) (hp0 : 0 ≤ p) (hp1 : p ≤ 1048576) (w : World)
    (hc0 : w.cell? ⟨b, 0, none⟩ = some (.string s)) (hc1 : w.cell? ⟨b, 1, none⟩ = some (.int .i64 p)) (hf : w.frozen? ⟨b, 1, none⟩ = false)
    (hsl : ∀ W, (Instr.slice 9 (.string s) (some (.int .i64 p)) none none).run Try.prog W = .ok (.string d) W) :
    Calls Try.prog 17 #[.pointer (some ⟨b, 0, none⟩)] w fun e w' => Took d p b w (modelLen d.data.toList) e w' := by
  have k1 := fun W => Any.strings_HasPrefix Try.lays99 d ⟨#[116, 114, 117, 101]⟩ W
  have k2 := fun W => Any.strings_HasPrefix Try.lays99 d ⟨#[102, 97, 108, 115, 101]⟩ W
  have k3 := fun W => Any.strings_HasPrefix Try.lays99 d ⟨#[110, 117, 108, 108]⟩ W
  change ∀ W, Calls Try.prog 22 _ W fun e w' => e = .returned (.bool (trueL.isPrefixOf d.data.toList)) ∧ _ at k1
  change ∀ W, Calls Try.prog 22 _ W fun e w' => e = .returned (.bool (falseL.isPrefixOf d.data.toList)) ∧ _ at k2
  change ∀ W, Calls Try.prog 22 _ W fun e w' => e = .returned (.bool (nullL.isPrefixOf d.data.toList)) ∧ _ at k3
  by_cases hn : trueL.isPrefixOf d.data.toList = false ∧ falseL.isPrefixOf d.data.toList = false ∧ nullL.isPrefixOf d.data.toList = false
  · obtain ⟨h1, h2, h3⟩ := hn
    have e : modelLen d.data.toList = num d.data.toList := by
      unfold modelLen keyOf
      rw [h1, h2, h3]
      exact acc0 _
    rw [e]
    rw [h1] at k1
    rw [h2] at k2
    rw [h3] at k3
    exact plain_num s d p b hd hp0 hp1 w hc0 hc1 hf hsl k1 k2 k3
  · have hm : ∃ m : Nat, (m = 0 ∧ trueL.isPrefixOf d.data.toList = true) ∨ (m = 1 ∧ trueL.isPrefixOf d.data.toList = false ∧ falseL.isPrefixOf d.data.toList = true) ∨ (m = 2 ∧ trueL.isPrefixOf d.data.toList = false ∧ falseL.isPrefixOf d.data.toList = false ∧ nullL.isPrefixOf d.data.toList = true) := by
      cases h1 : trueL.isPrefixOf d.data.toList
      · cases h2 : falseL.isPrefixOf d.data.toList
        · cases h3 : nullL.isPrefixOf d.data.toList
          · exact absurd ⟨h1, h2, h3⟩ hn
          · exact ⟨2, by simp⟩
        · exact ⟨1, by simp⟩
      · exact ⟨0, by simp⟩
    obtain ⟨m, hm⟩ := hm
    refine (plain_key s d p b hp0 hp1 w m hc0 hc1 hf hsl _ _ _ hm k1 k2 k3).mono ?_
    rintro e w' (⟨h1, rfl, n, rfl⟩ | ⟨h1, h2, rfl, n, rfl⟩ | ⟨h1, h2, h3, rfl, n, rfl⟩)
    · have e : modelLen d.data.toList = some 4 := by unfold modelLen keyOf; rw [h1]; rfl
      rw [e]
      exact ⟨by rw [prefix_extract d ⟨#[116, 114, 117, 101]⟩ h1]; rfl, n, rfl⟩
    · have e : modelLen d.data.toList = some 5 := by unfold modelLen keyOf; rw [h1, h2]; rfl
      rw [e]
      exact ⟨by rw [prefix_extract d ⟨#[102, 97, 108, 115, 101]⟩ h2]; rfl, n, rfl⟩
    · have e : modelLen d.data.toList = some 4 := by unfold modelLen keyOf; rw [h1, h2, h3]; rfl
      rw [e]
      exact ⟨by rw [prefix_extract d ⟨#[110, 117, 108, 108]⟩ h3]; rfl, n, rfl⟩

set_option maxHeartbeats 1000000 in
set_option maxRecDepth 100000 in
/-- ZZPlain over a contract of plain -/
theorem zz_via (s : ByteArray) (p : Int) (w : World) (word : ByteArray) (ok : Bool) (nx : Int)
    (h17 : Calls Try.prog 17 #[.pointer (some ⟨w.heap.size, 0, none⟩)] (w.alloc (.cells #[.string s, .int .i64 p, .pointer none, .int .i64 0, .int .i64 0, .int .i64 0, .slice none 0 0, .slice none 0 0, .pointer none, .int .i64 0] 34)) fun e w' => e = .returned (.tuple #[.string word, .bool ok]) ∧ w'.cell? ⟨w.heap.size, 1, none⟩ = some (.int .i64 nx) ∧ Below w.heap.size w w') :
    Calls Try.prog 9 #[.string s, .int .i64 p] w fun e w' => e = .returned (.tuple #[.string word, .bool ok, .int .i64 nx]) ∧ Below w.heap.size w w' := by
  go_enter Try.func9, Try.ntmps9
  go_wp2_with (go_at_call 17; refine h17.mono ?_; rintro e w' ⟨rfl, hc, hb⟩)
  go_quiet (fail)
  go_wp2
  go_ret3
  exact ⟨rfl, below_drewN hb _⟩

/-- what ZZPlain hands back: the word -/
def wordOf (d : ByteArray) (o : Option Nat) : ByteArray := match o with | none => ⟨#[]⟩ | some k => d.extract 0 k
/-- .. whether it took one -/
def okOf (o : Option Nat) : Bool := o.isSome
/-- .. and the position behind it -/
def nextOf (p : Int) (o : Option Nat) : Int := match o with | none => p | some k => p + k

theorem zz_any (s : ByteArray) (p : Nat) (hp : p ≤ s.size) (hs : s.size ≤ 1048576) (w : World) :
    Calls Try.prog 9 #[.string s, .int .i64 (p : Int)] w fun e w' => e = .returned (.tuple #[.string (wordOf (s.extract p s.size) (modelLen (s.data.toList.drop p))), .bool (okOf (modelLen (s.data.toList.drop p))), .int .i64 (nextOf p (modelLen (s.data.toList.drop p)))]) ∧ Below w.heap.size w w' := by
  have hdl : (s.extract p s.size).data.toList = s.data.toList.drop p := by
    rw [Lib.extract_data]
    have hl : s.data.toList.length = s.size := Array.length_toList
    exact List.take_of_length_le (by rw [List.length_drop]; omega)
  have hsz : (s.extract p s.size).size ≤ 1048576 := by simp; omega
  have hsl : ∀ W, (Instr.slice 9 (.string s) (some (.int .i64 (p : Int))) none none).run Try.prog W = .ok (.string (s.extract p s.size)) W := by
    intro W
    rw [run_slice_string_l W 9 s Try.underlying9 _ _ (by omega) (by omega)]
    rfl
  have h := plain_any s (s.extract p s.size) p w.heap.size hsz (by omega) (by omega) (w.alloc (.cells #[.string s, .int .i64 (p : Int), .pointer none, .int .i64 0, .int .i64 0, .int .i64 0, .slice none 0 0, .slice none 0 0, .pointer none, .int .i64 0] 34))
    (World.cell?_alloc_at _ _ _ _ rfl) (World.cell?_alloc_at _ _ _ _ rfl) (World.frozen?_alloc_at _ _ _ _ rfl) hsl
  rw [hdl] at h
  refine zz_via s p w _ _ _ (h.mono ?_)
  intro e w' ht
  cases ho : modelLen (s.data.toList.drop p) with
  | none =>
    rw [ho] at ht
    obtain ⟨rfl, n, rfl⟩ := ht
    exact ⟨rfl, World.cell?_alloc_at _ _ _ _ rfl, below_drewN ((Below.refl _ _).alloc (Nat.le_refl _) _) _⟩
  | some k =>
    rw [ho] at ht
    obtain ⟨rfl, n, rfl⟩ := ht
    refine ⟨rfl, ?_, ?_⟩
    · rw [show ∀ (W : World) a v, (W.drewN n).setCell a v = (W.setCell a v).drewN n from fun _ _ _ => rfl, World.setCell_alloc_at _ _ _ _ _ rfl]
      exact World.cell?_alloc_at _ _ _ _ rfl
    · exact (below_drewN ((Below.refl _ _).alloc (Nat.le_refl _) _) _).setCell (by simp) _
end Go.Proofs.Qxb6601198a
